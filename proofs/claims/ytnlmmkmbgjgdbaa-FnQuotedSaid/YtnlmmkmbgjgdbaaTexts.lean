/- The contracts of spec.SameTexts and laws.fits14, over this seat's program. -/
import Derived.Test.YtnlmmkmbgjgdbaaFits2
namespace Go.Proofs.Ytnlmmkmbgjgdbaa
open Go.RowKit
set_option linter.unusedVariables false
set_option linter.unusedSimpArgs false

theorem ne_tx {xs ys : List ByteArray} (h : xs.length = ys.length) (hne : ∀ j, j < xs.length → tx xs j = tx ys j) : xs = ys := by
  apply List.ext_getElem h
  intro i h1 h2
  have := hne i h1
  rwa [tx_lt h1, tx_lt h2] at this

set_option maxHeartbeats 800000 in
theorem sameTexts_eq (n : Nat) (A B : Option Addr) (cap cap' : Nat) (xs ys : List ByteArray) (w : World) (hx : StrsAt w A xs) (hy : StrsAt w B ys) (hm : n ≤ 9223372036854775807) (HX : Hid (xs.length = n)) (HY : Hid (ys.length = n)) :
    Calls Try.prog 10 #[.slice A n cap, .slice B n cap'] w fun e w' => e = .returned (.bool (decide (xs = ys))) ∧ Drawn w w' := by
  go_enter Try.func10, Try.ntmps10
  go_wp2
  go_loopw [13] (fun i wr => ∃ k : Nat, k ≤ n ∧ i = .int .i64 k ∧ Hid (∀ j, j < k → tx xs j = tx ys j) ∧ Drawn w wr) (fun i _ => n - (intOf i).toNat)
  case atStart => exact ⟨0, Nat.zero_le _, rfl, fun j hj => by omega, Drawn.refl _⟩
  case round =>
    obtain ⟨k, hk, rfl, HP, q, rfl⟩ := hrel
    by_cases hlt : k < n
    · obtain ⟨a, oa, rfl, hc⟩ := hx k (by rw [HX.out]; exact hlt)
      obtain ⟨b, ob, rfl, hd⟩ := hy k (by rw [HY.out]; exact hlt)
      have i0 : (0 : Int) ≤ (k : Int) := Int.natCast_nonneg _
      have i1 : (k : Int) < (n : Int) := by omega
      by_cases he : tx xs k = tx ys k
      · rw [← he] at hd
        have HE := Lib.hid he
        clear he
        go_wp2_with fail
        go_quiet (fail)
        go_wp2
        go_roundw
        case rel => exact ⟨k + 1, by omega, by go_num, fun j hj => by by_cases e : j = k; (subst e; exact HE.out); exact HP j (by omega), Drawn.to _ _⟩
        case measure => simp [intOf]; omega
      · have HF : Hid (decide (xs = ys) = false) := by simp [Hid]; intro h; exact he (by rw [h])
        have he1 := bytes_ne he
        go_wp2_with fail
        go_quiet (fail)
        go_wp2
        go_ret
        exact ⟨by rw [HF.out]; rfl, Drawn.step _ _ _⟩
    · have HF : Hid (decide (xs = ys) = true) := by have := ne_tx (HX.out.trans HY.out.symm) (fun j hj => HP j (by rw [HX.out] at hj; omega)); simpa [Hid] using this
      go_wp2
      go_ret
      exact ⟨by rw [HF.out]; rfl, Drawn.to _ _⟩

theorem sameTexts_ne (n m : Nat) (h : n ≠ m) (A B : Option Addr) (cap cap' : Nat) (w : World) :
    Calls Try.prog 10 #[.slice A n cap, .slice B m cap'] w fun e w' => e = .returned (.bool false) ∧ w = w' := by
  have e1 : ((n : Int) == (m : Int)) = false := by simp; omega
  have e2 : ((n : Int) != (m : Int)) = true := by simp; omega
  go_enter Try.func10, Try.ntmps10
  go_wp2
  go_ret
  exact ⟨rfl, rfl⟩

theorem sameTexts_any (A B : Option Addr) (cap cap' : Nat) (xs ys : List ByteArray) (w : World) (hx : StrsAt w A xs) (hy : StrsAt w B ys) (hm : xs.length ≤ 9223372036854775807) :
    Calls Try.prog 10 #[.slice A xs.length cap, .slice B ys.length cap'] w fun e w' => e = .returned (.bool (decide (xs = ys))) ∧ Drawn w w' := by
  by_cases hl : xs.length = ys.length
  · have h := sameTexts_eq xs.length A B cap cap' xs ys w hx hy hm rfl hl.symm
    rw [← hl]
    exact h
  · have hf : decide (xs = ys) = false := by simp; intro h; exact hl (by rw [h])
    rw [hf]
    exact (sameTexts_ne _ _ hl A B cap cap' w).mono fun e w' ⟨h1, h2⟩ => ⟨h1, h2 ▸ Drawn.refl _⟩
/-- The bytes of lists of texts, and how many texts. -/
def bulk1 (xs : List ByteArray) : Nat := (xs.map fun s => 1 + s.size).sum
def bulk2 (ls : List (List ByteArray)) : Nat := (ls.map bulk1).sum

theorem bulk1_snoc {xs : List ByteArray} {k : Nat} (h : k < xs.length) : bulk1 (xs.take (k + 1)) = bulk1 (xs.take k) + (1 + (tx xs k).size) := by
  unfold bulk1
  rw [List.take_succ_eq_append_getElem h, tx_lt h, List.map_append, List.sum_append]
  simp

theorem bulk1_take_le (xs : List ByteArray) (k : Nat) : bulk1 (xs.take k) ≤ bulk1 xs := by
  unfold bulk1
  conv => rhs; rw [← List.take_append_drop k xs]
  rw [List.map_append, List.sum_append]
  omega

def lx (ls : List (List ByteArray)) (k : Nat) : List ByteArray := ls.getD k []
theorem lx_lt {ls : List (List ByteArray)} {k : Nat} (h : k < ls.length) : lx ls k = ls[k] := by simp [lx, h]

theorem bulk2_snoc {ls : List (List ByteArray)} {k : Nat} (h : k < ls.length) : bulk2 (ls.take (k + 1)) = bulk2 (ls.take k) + bulk1 (lx ls k) := by
  unfold bulk2
  rw [List.take_succ_eq_append_getElem h, lx_lt h, List.map_append, List.sum_append]
  simp

theorem bulk2_take_le (ls : List (List ByteArray)) (k : Nat) : bulk2 (ls.take k) ≤ bulk2 ls := by
  unfold bulk2
  conv => rhs; rw [← List.take_append_drop k ls]
  rw [List.map_append, List.sum_append]
  omega

/-- Lists of texts, as they lie in memory. -/
def ListsAt (w : World) (A : Option Addr) (ls : List (List ByteArray)) : Prop :=
  ∀ i, i < ls.length → ∃ b o B cap, A = some ⟨b, o, none⟩ ∧ w.cell? ⟨b, o + i, none⟩ = some (.slice B (lx ls i).length cap) ∧ StrsAt w B (lx ls i)

def fits14 (ls : List (List ByteArray)) : Bool := decide (bulk2 ls ≤ 1048576)

set_option maxHeartbeats 800000 in
theorem fits14_any (A : Option Addr) (cap : Nat) (ls : List (List ByteArray)) (w : World) (hx : ListsAt w A ls) (hm : ls.length ≤ 9223372036854775807)
    (hl : ∀ i, i < ls.length → (lx ls i).length ≤ 9223372036854775807) (hs : ∀ i, i < ls.length → ∀ j, j < (lx ls i).length → (tx (lx ls i) j).size ≤ 2147483647) :
    Calls Try.prog 9 #[.slice A ls.length cap] w fun e w' => e = .returned (.bool (fits14 ls)) ∧ w = w' := by
  go_enter Try.func9, Try.ntmps9
  go_wp2
  go_loop [3, 10] (fun t i => ∃ k : Nat, k ≤ ls.length ∧ i = .int .i64 k ∧ ∃ n : Nat, t = .int .i64 n ∧ n ≤ 1048576 ∧ Hid (n = bulk2 (ls.take k))) (fun _ i => ls.length - (intOf i).toNat)
  case atStart => exact ⟨0, Nat.zero_le _, rfl, 0, rfl, by omega, by simp [Hid, bulk2]⟩
  case round =>
    obtain ⟨k, hk, rfl, n, rfl, hn, HN⟩ := hrel
    by_cases hlt : k < ls.length
    · obtain ⟨ba, oa, B, cap', rfl, hc, hb⟩ := hx k hlt
      have hlk := hl k hlt
      have hsk := hs k hlt
      go_wp2
      go_loop [3, 16] (fun t i => ∃ j : Nat, j ≤ (lx ls k).length ∧ i = .int .i64 j ∧ ∃ m : Nat, t = .int .i64 m ∧ m ≤ 1048576 ∧ Hid (m = bulk2 (ls.take k) + bulk1 ((lx ls k).take j))) (fun _ i => (lx ls k).length - (intOf i).toNat)
      case atStart => exact ⟨0, Nat.zero_le _, rfl, n, rfl, hn, by have e := HN.out; simp [Hid, bulk1]; exact e⟩
      case round =>
        obtain ⟨j, hj, rfl, m, rfl, hm2, HM⟩ := hrel
        by_cases hlj : j < (lx ls k).length
        · obtain ⟨bd, od, rfl, hd⟩ := hb j hlj
          have hsj := hsk j hlj
          have HS := Lib.hid (bulk1_snoc hlj)
          by_cases hbig : m + (1 + (tx (lx ls k) j).size) ≤ 1048576
          · have c1 : ((m : Int) + (1 + ((tx (lx ls k) j).size : Int))) ≤ 1048576 := by omega
            go_wp2
            go_round
            case rel => exact ⟨j + 1, by omega, by go_num, m + (1 + (tx (lx ls k) j).size), by go_num, hbig, by have e := HM.out; have e2 := HS.out; show _ = _; omega⟩
            case measure => simp [intOf]; omega
          · have c1 : ¬ ((m : Int) + (1 + ((tx (lx ls k) j).size : Int))) ≤ 1048576 := by omega
            have HF : Hid (fits14 ls = false) := by
              have e := HM.out; have e2 := HS.out
              have h1 := bulk1_take_le (lx ls k) (j + 1)
              have h2 := bulk2_snoc hlt
              have h3 := bulk2_take_le ls (k + 1)
              show decide _ = false
              simp only [decide_eq_false_iff_not]
              omega
            go_wp2
            go_ret
            exact ⟨by rw [HF.out]; rfl, rfl⟩
        · have HS := Lib.hid (bulk2_snoc hlt)
          have HJ : Hid (m = bulk2 (ls.take k) + bulk1 (lx ls k)) := by have e := HM.out; rw [List.take_of_length_le (l := lx ls k) (by omega)] at e; exact e
          go_wp2
          go_round
          case rel => exact ⟨k + 1, by omega, by go_num, m, rfl, hm2, by have e := HJ.out; have e2 := HS.out; show _ = _; omega⟩
          case measure => simp [intOf]; omega
    · have HF : Hid (fits14 ls = true) := by
        have e := HN.out
        rw [List.take_of_length_le (by omega)] at e
        show decide _ = true
        simp only [decide_eq_true_eq]
        omega
      go_wp2
      go_ret
      exact ⟨by rw [HF.out]; rfl, rfl⟩
theorem listsAt_one {w : World} {b : Nat} {v : Value} {t : TypeId} {xs : List ByteArray} (hb : w.heap[b]? = some (.cells #[v] t (0, 0))) (h : Texts w v xs) : ListsAt w (some ⟨b, 0, none⟩) [xs] := by
  obtain ⟨A, cap, rfl, hx, _⟩ := h
  intro i hi
  have h0 : i = 0 := by simpa using hi
  subst h0
  exact ⟨b, 0, A, cap, rfl, cell_of_one hb, hx⟩

theorem fits14_one {w : World} {b : Nat} {v : Value} {t : TypeId} {xs : List ByteArray} (hb : w.heap[b]? = some (.cells #[v] t (0, 0))) (h : Texts w v xs) (hlen : xs.length ≤ 2147483647) (hsz : ∀ j, j < xs.length → (tx xs j).size ≤ 2147483647) :
    Calls Try.prog 9 #[.slice (some ⟨b, 0, none⟩) 1 1] w fun e w' => e = .returned (.bool (fits14 [xs])) ∧ w = w' := by
  refine fits14_any (some ⟨b, 0, none⟩) 1 [xs] _ (listsAt_one hb h) (by simp) ?_ ?_
  · intro i hi
    have : i = 0 := by simpa using hi
    subst this
    show xs.length ≤ _
    omega
  · intro i hi j hj
    have : i = 0 := by simpa using hi
    subst this
    exact hsz j hj

/-- Texts that lie in a block of the call's own. -/
theorem texts_block {w : World} {b : Nat} {e : TypeId} {fr : Nat × Nat} {xs : List ByteArray} (h : w.heap[b]? = some (.cells (xs.map Value.string).toArray e fr)) (hm : xs.length ≤ 9223372036854775807) :
    Texts w (.slice (some ⟨b, 0, none⟩) xs.length xs.length) xs := by
  refine ⟨_, _, rfl, ?_, Nat.le_refl _, hm, fun h => by cases h⟩
  intro i hi
  refine ⟨b, 0, rfl, ?_⟩
  rw [Nat.zero_add, cell_of_row w b i _ e fr h, tx_lt hi]
  simp [hi]
end Go.Proofs.Ytnlmmkmbgjgdbaa
