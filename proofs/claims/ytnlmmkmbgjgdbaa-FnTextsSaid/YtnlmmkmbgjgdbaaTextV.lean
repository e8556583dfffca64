/- The contract of impl.TextValue, over this seat's program. -/
import Derived.Test.YtnlmmkmbgjgdbaaFits2
namespace Go.Proofs.Ytnlmmkmbgjgdbaa
open Go.RowKit
set_option linter.unusedVariables false
set_option linter.unusedSimpArgs false

theorem Try.infoTS : (Try.prog.info? 27).map (fun i => (i.zero, i.size, i.bytes)) = some (some (.agg #[.bool false, .string ⟨#[]⟩, .string ⟨#[]⟩]), 3, 40) := by kernel_rfl

theorem string_any (a : Addr) (s : ByteArray) (w : World) (hc : w.cell? a = some (.string s)) :
    Calls Try.prog 19 #[.pointer (some a)] w fun e w' => e = .returned (.string s) ∧ w = w' := by
  go_enter Try.func19, Try.ntmps19
  go_wp2
  go_ret
  exact ⟨rfl, rfl⟩

theorem newString_any (a : Addr) (s u : ByteArray) (w : World) (hc : w.cell? a = some (.string u)) (hf : w.frozen? a = false) :
    Calls Try.prog 28 #[.string s, .pointer (some a)] w fun e w' => e = .returned (.pointer (some a)) ∧ w' = w.setCell a (.string s) := by
  go_enter Try.func28, Try.ntmps28
  go_wp2
  go_ret
  exact ⟨rfl, rfl⟩

theorem zzString_any (a : Addr) (s u : ByteArray) (w : World) (hc : w.cell? a = some (.string u)) (hf : w.frozen? a = false) :
    Calls Try.prog 17 #[.string s, .pointer (some a)] w fun e w' => e = .returned (.pointer (some a)) ∧ w' = w.setCell a (.string s) := by
  go_enter Try.func17, Try.ntmps17
  go_wp2_with (go_at_call 28; refine (newString_any a s u _ hc hf).mono ?_; rintro e w' ⟨rfl, rfl⟩)
  go_ret
  exact ⟨rfl, rfl⟩

theorem setString_any (a : Addr) (s u : ByteArray) (w : World) (hc : w.cell? a = some (.string u)) (hf : w.frozen? a = false) :
    Calls Try.prog 18 #[.pointer (some a), .string s] w fun e w' => e = .returned .nilIface ∧ w' = w.setCell a (.string s) := by
  go_enter Try.func18, Try.ntmps18
  go_wp2
  go_ret
  exact ⟨rfl, rfl⟩

/-- The cells of the answers of TextValue. -/
def saidCells (xs : List ByteArray) (k : Nat) : List Value := ((xs.take k).map fun s => [Value.bool false, .string s, .string s]).flatten

theorem saidCells_succ {xs : List ByteArray} {k : Nat} (h : k < xs.length) : saidCells xs (k + 1) = saidCells xs k ++ [Value.bool false, .string (tx xs k), .string (tx xs k)] := by
  unfold saidCells
  rw [List.take_succ_eq_append_getElem h, tx_lt h, List.map_append, List.flatten_append]
  simp

theorem set_step {w wr w1 : World} {u : ByteArray} {T e size k : Nat} {v : Value} {xs : List Value} (hu : wr.heap[w.heap.size]? = some (.cells #[.string u] T (0, 0))) (hown : wr.ownsRow (w.heap.size + 1) e size v k xs) (hbel : Below w.heap.size w wr) (t : ByteArray)
    (h : w1 = wr.setCell ⟨w.heap.size, 0, none⟩ (.string t)) : w1.heap[w.heap.size]? = some (.cells #[.string t] T (0, 0)) ∧ w1.ownsRow (w.heap.size + 1) e size v k xs ∧ Below w.heap.size w w1 ∧ w.heap.size < w1.heap.size := by
  subst h
  exact ⟨one_setCell hu, ownsRow_setCell_below hown (a := ⟨w.heap.size, 0, none⟩) (Nat.lt_succ_self _) _, hbel.setCell (p := ⟨w.heap.size, 0, none⟩) (Nat.le_refl _) _, by simpa [World.setCell] using lt_of_block hu⟩

set_option maxHeartbeats 1600000 in
theorem textValue_any (d : ByteArray) (A : Option Addr) (cap : Nat) (xs : List ByteArray) (w : World) (hx : StrsAt w A xs) (hm : xs.length ≤ 2147483647) :
    Calls Try.prog 8 #[.string d, .slice A xs.length cap] w fun e w' => ∃ A' c, e = .returned (.slice A' xs.length c) ∧ RowAt w' A' (saidCells xs xs.length) ∧ Below w.heap.size w w' := by
  obtain ⟨i0, hi, hz0, hz1, hz2⟩ := info_parts Try.infoTS
  go_enter Try.func8, Try.ntmps8
  go_wp2_with (go_at_call 17; refine (zzString_any _ d ⟨#[]⟩ _ (by simp) (by simp)).mono ?_; rintro e w' ⟨rfl, rfl⟩)
  go_loopw [7, 17] (fun v i wr => ∃ k : Nat, k ≤ xs.length ∧ i = .int .i64 k ∧ wr.ownsRow (w.heap.size + 1) 27 3 v k (saidCells xs k) ∧ (∃ u, wr.heap[w.heap.size]? = some (.cells #[.string u] 9 (0, 0))) ∧ Below w.heap.size w wr) (fun _ i _ => xs.length - (intOf i).toNat)
  case atStart => exact ⟨0, Nat.zero_le _, rfl, World.ownsRow_nil _ _ _ _, ⟨d, heap_alloc_new w _⟩, (Below.refl _ _).alloc (Nat.le_refl _) _⟩
  case round =>
    obtain ⟨k, hk, rfl, hown, ⟨u, hu⟩, hbel⟩ := hrel
    by_cases hlt : k < xs.length
    · obtain ⟨ba, oa, rfl, hc0⟩ := hx k hlt
      have hc : wr.cell? ⟨ba, oa + k, none⟩ = some (.string (tx xs k)) := by
        rw [hbel.cell (by have := World.block_lt_of_cell? w _ hc0; simpa using this)]; exact hc0
      have hcp : wr.cell? ⟨w.heap.size, 0, none⟩ = some (.string u) := cell_of_one hu
      have hfp : wr.frozen? ⟨w.heap.size, 0, none⟩ = false := free_of_one hu
      go_wp2_with (go_at_call 18; refine (setString_any _ (tx xs k) u _ hcp hfp).mono ?_; rintro e w1 ⟨rfl, hw1⟩; obtain ⟨hu1, hown1, hbel1, hs1⟩ := set_step hu hown hbel (tx xs k) hw1; clear hw1)
      have hcp1 : w1.cell? ⟨w.heap.size, 0, none⟩ = some (.string (tx xs k)) := cell_of_one hu1
      have hne := own_ne hown1 (Nat.lt_succ_self _)
      go_region_held3 (fun w' => w'.cell? ⟨w.heap.size, 0, none⟩ = some (.string (tx xs k))) (first | (rw [hgrow.cell_far _ (by simp; omega) (Ne.symm hne)]; assumption) | go_keep)
        (first
          | (go_at_call 19; refine (string_any _ (tx xs k) _ ?_).mono ?_; (simp [*]); rintro e w' ⟨rfl, rfl⟩)
          | (refine step_append_lies _ (by rfl) _ _ _ (by rfl) (w.heap.size + 1) 27 i0 _ 3 40 Try.underlying24 hi hz0 hz1 hz2 rfl (by omega) _ k _ (by rfl) ((hown1.alloc _).drew) ⟨w1.heap.size, 0, none⟩ 1 1 [.bool false, .string (tx xs k), .string (tx xs k)] (by rfl) (by rfl) (World.news_of_block (cs := #[.bool false, .string (tx xs k), .string (tx xs k)]) (t := 27) (fr := (0, 0)) (heap_alloc_new w1 _)) (by simp [Value.oneCell']) (by omega) (by unfold maxLen; omega) (by omega) (by simp; omega) (w1.heap.size + 1) (by simp) ?_; intro gg cap w2 hown2 hgrow hat hlt2))
      have hbw : Below w.heap.size w w2 := ((hbel1.alloc (by omega) _).drew).grown hgrow (by simp; omega) (fun b hb => by have := (hown1.lt b hb).1; omega)
      have huw : w2.heap[w.heap.size]? = some (.cells #[.string (tx xs k)] 9 (0, 0)) := by
        rw [hgrow.block w.heap.size (by simp; omega) (Ne.symm hne)]
        show (w1.alloc _).heap[w.heap.size]? = _
        rw [Below.heap_alloc w1 _ _ hs1]; exact hu1
      rw [← saidCells_succ hlt] at hown2
      go_wp2
      go_roundw
      case rel => exact ⟨k + 1, by omega, by go_num, hown2, ⟨_, huw⟩, hbw⟩
      case measure => simp [intOf]; omega
    · have HK : Hid (k = xs.length) := by show k = _; omega
      have hown1 : wr.ownsRow (w.heap.size + 1) 27 3 u7 xs.length (saidCells xs xs.length) := by have e := HK.out; rw [e] at hown; exact hown
      clear hown
      obtain ⟨A', c, rfl, hrow⟩ := own_row hown1
      go_wp2
      go_ret
      exact ⟨A', c, rfl, hrow, hbel⟩
end Go.Proofs.Ytnlmmkmbgjgdbaa
