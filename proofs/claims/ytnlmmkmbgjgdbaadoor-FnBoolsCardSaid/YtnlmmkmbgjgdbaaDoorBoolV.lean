/- The contract of impl.BoolValue, over this seat's program. -/
import Derived.Test.YtnlmmkmbgjgdbaaDoorFits2
import Derived.Test.YtnlmmkmbgjgdbaaDoorShelf
import Derived.Test.YtnlmmkmbgjgdbaaDoorLaid
namespace Go.Proofs.YtnlmmkmbgjgdbaaDoor.E
open Go.RowKit Go.Proofs
set_option linter.unusedVariables false
set_option linter.unusedSimpArgs false

theorem Tryd.infoBS : (Tryd.prog.info? 47).map (fun i => (i.zero, i.size, i.bytes)) = some (some (.agg #[.bool false, .bool false, .string ⟨#[]⟩]), 3, 24) := by kernel_rfl

def boolText (b : Bool) : ByteArray := ⟨(Lib.formatBool b).toArray⟩
def boolGot (s : ByteArray) : Bool := (Lib.parseBool s.data.toList).getD false
def boolBad (s : ByteArray) : Bool := (Lib.parseBool s.data.toList).isNone
def boolCells (s : ByteArray) : List Value := [.bool (boolBad s), .bool (boolGot s), .string (boolText (boolGot s))]
theorem boolCells_len (s : ByteArray) : (boolCells s).length = 3 := rfl

theorem newBool_any (a : Addr) (b u : Bool) (w : World) (hc : w.cell? a = some (.bool u)) (hf : w.frozen? a = false) :
    Calls Tryd.prog 53 #[.bool b, .pointer (some a)] w fun e w' => e = .returned (.pointer (some a)) ∧ w' = w.setCell a (.bool b) := by
  go_enter Tryd.func53, Tryd.ntmps53
  go_wp2
  go_ret
  exact ⟨rfl, rfl⟩

theorem zzBool_any (a : Addr) (b u : Bool) (w : World) (hc : w.cell? a = some (.bool u)) (hf : w.frozen? a = false) :
    Calls Tryd.prog 26 #[.bool b, .pointer (some a)] w fun e w' => e = .returned (.pointer (some a)) ∧ w' = w.setCell a (.bool b) := by
  go_enter Tryd.func26, Tryd.ntmps26
  go_wp2_with (go_at_call 53; refine (newBool_any a b u _ hc hf).mono ?_; rintro e w' ⟨rfl, rfl⟩)
  go_ret
  exact ⟨rfl, rfl⟩

theorem stringBool_any (a : Addr) (b : Bool) (w : World) (hc : w.cell? a = some (.bool b)) :
    Calls Tryd.prog 28 #[.pointer (some a)] w fun e w' => e = .returned (.string (boolText b)) ∧ w = w' := by
  go_enter Tryd.func28, Tryd.ntmps28
  go_wp2_with (go_at_call 54; refine (Tryd.strconv_FormatBool b _).mono ?_; rintro e w' ⟨rfl, rfl⟩)
  go_ret
  exact ⟨rfl, rfl⟩

/-- What Set of a bool's value leaves: the cell, and whether it is refused. -/
theorem setBool_any (a : Addr) (s : ByteArray) (u : Bool) (w : World) (hc : w.cell? a = some (.bool u)) (hf : w.frozen? a = false) (hs : s.size ≤ 281474976710656) (he : ErrCell 3 w) :
    Calls Tryd.prog 27 #[.pointer (some a), .string s] w fun e w' => ∃ E w1, e = .returned E ∧ ((boolBad s = false ∧ E = .nilIface) ∨ (boolBad s = true ∧ ∃ t v, E = .iface t v)) ∧ Below w.heap.size w w1 ∧ w' = w1.setCell a (.bool (boolGot s)) := by
  cases hp : Lib.parseBool s.data.toList with
  | some b =>
    have HB : Hid (boolBad s = false) := by simp [Hid, boolBad, hp]
    have HG : Hid (boolGot s = b) := by simp [Hid, boolGot, hp]
    go_enter Tryd.func27, Tryd.ntmps27
    go_wp2_with (go_at_call 34; refine (Tryd.strconv_ParseBool s b hp _).mono ?_; rintro e w' ⟨rfl, rfl⟩)
    go_ret
    exact ⟨_, _, rfl, .inl ⟨HB.out, rfl⟩, Below.refl _ _, by rw [HG.out]⟩
  | none =>
    have HB : Hid (boolBad s = true) := by simp [Hid, boolBad, hp]
    have HG : Hid (boolGot s = false) := by simp [Hid, boolGot, hp]
    obtain ⟨ev, hev, hev2⟩ := he
    have H := Lib.hid (Tryd.strconv_ParseBool_err s hs hp ev w hev hev2)
    clear hp hev hev2
    go_enter Tryd.func27, Tryd.ntmps27
    go_wp2_with (go_at_call 34; refine (H.out).mono ?_; rintro e w1 ⟨N, rfl, _, _, hb⟩; have hc1 := cell_kept hb hc; have hf1 := frozen_kept hb hc hf)
    go_ret
    exact ⟨_, _, rfl, .inr ⟨HB.out, _, _, rfl⟩, hb, by rw [HG.out]⟩

set_option maxRecDepth 100000 in
set_option maxHeartbeats 1600000 in
theorem boolValue_any (d : Bool) (A : Option Addr) (cap : Nat) (xs : List ByteArray) (w : World) (hx : StrsAt w A xs) (hm : xs.length ≤ 2147483647) (hs : ∀ j, j < xs.length → (tx xs j).size ≤ 2147483647) (he : ErrCell 3 w) :
    Calls Tryd.prog 16 #[.bool d, .slice A xs.length cap] w fun e w' => ∃ A' c, e = .returned (.slice A' xs.length c) ∧ RowAt w' A' (flat boolCells xs xs.length) ∧ Below w.heap.size w w' := by
  obtain ⟨i0, hi, hz0, hz1, hz2⟩ := info_parts Tryd.infoBS
  have HS := Lib.hid hs
  clear hs
  go_enter Tryd.func16, Tryd.ntmps16
  go_wp2_with (go_at_call 26; refine (zzBool_any _ d false _ (by simp) (by simp)).mono ?_; rintro e w' ⟨rfl, rfl⟩)
  go_loopw [7, 17] (fun v i wr => ∃ k : Nat, k ≤ xs.length ∧ i = .int .i64 k ∧ wr.ownsRow (w.heap.size + 1) 47 3 v k (flat boolCells xs k) ∧ (∃ u, wr.heap[w.heap.size]? = some (.cells #[.bool u] 4 (0, 0))) ∧ Below w.heap.size w wr) (fun _ i _ => xs.length - (intOf i).toNat)
  case atStart => exact ⟨0, Nat.zero_le _, rfl, World.ownsRow_nil _ _ _ _, ⟨d, heap_alloc_new w _⟩, (Below.refl _ _).alloc (Nat.le_refl _) _⟩
  case round =>
    obtain ⟨k, hk, rfl, hown, ⟨u, hu⟩, hbel⟩ := hrel
    by_cases hlt : k < xs.length
    · obtain ⟨ba, oa, rfl, hc0⟩ := hx k hlt
      have hc := cell_kept hbel hc0
      have hcp : wr.cell? ⟨w.heap.size, 0, none⟩ = some (.bool u) := cell_of_one hu
      have hfp : wr.frozen? ⟨w.heap.size, 0, none⟩ = false := free_of_one hu
      have HSK := Lib.hid (show (tx xs k).size ≤ 281474976710656 by have := HS.out k hlt; omega)
      go_wp2_with (go_at_call 27; refine (setBool_any _ (tx xs k) u _ hcp hfp HSK.out (he.below hbel)).mono ?_; rintro e w1 ⟨E, w0, rfl, hE, hb0, hw1⟩; obtain ⟨hu1, hown1, hbel1, hs1⟩ := set_step (block_kept hu hb0) (own_kept hown hb0) (below_step hbel hb0) hw1; clear hw1)
      have hcp1 : w1.cell? ⟨w.heap.size, 0, none⟩ = some (.bool (boolGot (tx xs k))) := cell_of_one hu1
      have hne := own_ne hown1 (Nat.lt_succ_self _)
      rcases hE with ⟨hB, rfl⟩ | ⟨hB, te, ve, rfl⟩
      all_goals
        have HB := Lib.hid hB
        clear hB
        go_region_held3 (fun w' => w'.cell? ⟨w.heap.size, 0, none⟩ = some (.bool (boolGot (tx xs k)))) (first | (rw [hgrow.cell_far _ (by simp; omega) (Ne.symm hne)]; assumption) | go_keep)
          (first
            | (go_at_call 28; refine (stringBool_any _ (boolGot (tx xs k)) _ ?_).mono ?_; (simp [*]); rintro e w' ⟨rfl, rfl⟩)
            | (refine step_append_lies _ (by rfl) _ _ _ (by rfl) (w.heap.size + 1) 47 i0 _ 3 24 Tryd.underlying44 hi hz0 hz1 hz2 rfl (by omega) _ k _ (by rfl) ((hown1.alloc _).drew) ⟨w1.heap.size, 0, none⟩ 1 1 [.bool _, .bool (boolGot (tx xs k)), .string (boolText (boolGot (tx xs k)))] (by rfl) (by rfl) (World.news_of_block (cs := #[.bool _, .bool (boolGot (tx xs k)), .string (boolText (boolGot (tx xs k)))]) (t := 47) (fr := (0, 0)) (heap_alloc_new w1 _)) (by simp [Value.oneCell']) (by omega) (by unfold maxLen; omega) (by omega) (by simp; omega) (w1.heap.size + 1) (by simp) ?_; intro gg cap w2 hown2 hgrow hat hlt2))
        have hbw : Below w.heap.size w w2 := ((hbel1.alloc (by omega) _).drew).grown hgrow (by simp; omega) (fun b hb => by have := (hown1.lt b hb).1; omega)
        have huw : w2.heap[w.heap.size]? = some (.cells #[.bool (boolGot (tx xs k))] 4 (0, 0)) := by
          rw [hgrow.block w.heap.size (by simp; omega) (Ne.symm hne)]
          show (w1.alloc _).heap[w.heap.size]? = _
          rw [Below.heap_alloc w1 _ _ hs1]; exact hu1
        have hown3 : w2.ownsRow (w.heap.size + 1) 47 3 (.slice (some ⟨gg, 0, none⟩) (k + 1) cap) (k + 1) (flat boolCells xs (k + 1)) := by
          rw [flat_succ hlt]; unfold boolCells; rw [HB.out]; exact hown2
        clear hown2
        go_wp2
        go_roundw
        case rel => exact ⟨k + 1, by omega, by go_num, hown3, ⟨_, huw⟩, hbw⟩
        case measure => simp [intOf]; omega
    · have HK : Hid (k = xs.length) := by show k = _; omega
      have hown1 : wr.ownsRow (w.heap.size + 1) 47 3 u7 xs.length (flat boolCells xs xs.length) := by have e := HK.out; rw [e] at hown; exact hown
      clear hown
      obtain ⟨A', c, rfl, hrow⟩ := own_row hown1
      go_wp2
      go_ret
      exact ⟨A', c, rfl, hrow, hbel⟩
end Go.Proofs.YtnlmmkmbgjgdbaaDoor.E
