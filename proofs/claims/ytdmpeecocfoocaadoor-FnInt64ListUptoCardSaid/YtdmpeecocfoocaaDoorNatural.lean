/- spec.Natural and spec.Whole of any text, over this seat's program. Written by gen_natural.py. -/
import Derived.Test.YtdmpeecocfoocaaDoorWithout
namespace Go.Proofs.YtdmpeecocfoocaaDoor.E
open Go.RowKit Go.Proofs
open Go.Lib (NumEnd)
set_option linter.unusedVariables false
set_option linter.unusedSimpArgs false

theorem bare_le (l : List UInt8) : (bare l).length ≤ l.length := List.length_filter_le _ _

set_option maxRecDepth 100000 in
theorem natural_all8 (s : ByteArray) (hs : s.size ≤ 2147483647) (w : World) :
    Calls Tryd.prog 27 #[.string s, .int .i64 8, .bool true] w fun e w' => e = .returned (.tuple #[.int .u64 (dRes (natA 255 s.data.toList)).1, .int .i64 (dRes (natA 255 s.data.toList)).2]) ∧ Below w.heap.size w w' := by
  have HW := fun w => Lib.hid (without_any s hs w)
  unfold WoEnd at HW
  unfold natA
  cases hp : w29 s.data.toList with
  | false =>
    rw [hp] at HW
    simp only [Bool.false_eq_true, if_false] at HW ⊢
    clear hp
    go_enter Tryd.func27, Tryd.ntmps27
    go_wp2_with (go_at_call 83; refine ((HW _).out).mono ?_; rintro e w1 ⟨rfl, hb1⟩; have HB1 := Lib.hid hb1; clear hb1)
    go_ret2
    exact ⟨rfl, HB1.out⟩
  | true =>
    rw [hp] at HW
    simp only [if_true] at HW ⊢
    clear hp
    have hsz : (⟨(bare s.data.toList).toArray⟩ : ByteArray).size ≤ 2147483647 := by
      have := bare_le s.data.toList
      rw [size_len] at this
      show (bare s.data.toList).toArray.size ≤ _
      simp; omega
    have hl : (⟨(bare s.data.toList).toArray⟩ : ByteArray).data.toList = bare s.data.toList := by simp
    generalize bare s.data.toList = L at HW hl hsz ⊢
    generalize (⟨L.toArray⟩ : ByteArray) = T at HW hl hsz
    have HX := fun w => Lib.hid (prefixed_any T (by omega) w)
    have hT : (T.extract (preS T.data.toList).2 T.size).data.toList = T.data.toList.drop (preS T.data.toList).2 := extract_tail T _
    have hb : (preS T.data.toList).1 = 2 ∨ (preS T.data.toList).1 = 8 ∨ (preS T.data.toList).1 = 10 ∨ (preS T.data.toList).1 = 16 ∨ (preS T.data.toList).1 = 36 := by have := preS_base T.data.toList; omega
    have hTs : (T.extract (preS T.data.toList).2 T.size).size ≤ 9223372036854775806 := by simp; omega
    have HD := fun w => Lib.hid (digits_any (preS T.data.toList).1 255 hb (by omega) (T.extract (preS T.data.toList).2 T.size) hTs w)
    rw [hT] at HD
    rw [hl] at HD HX hb
    rw [hl] at hT
    generalize T.extract (preS L).2 T.size = U at HX HD
    generalize (if L.drop (preS L).2 = [] then none else dOpt (preS L).1 255 0 false (L.drop (preS L).2)) = q at HD ⊢
    generalize (preS L).1 = B at HX HD
    clear hT hb hTs hl hsz
    have d0 : (0 : Int) ≤ (B : Int) := Int.natCast_nonneg _
    cases q with
    | none =>
      simp only [dRes] at HD ⊢
      go_enter Tryd.func27, Tryd.ntmps27
      go_wp2_with (first
        | (go_at_call 83; refine ((HW _).out).mono ?_; rintro e w1 ⟨rfl, hb1⟩; have HB1 := Lib.hid hb1; clear hb1)
        | (go_at_call 82; refine ((HX _).out).mono ?_; rintro e w2 ⟨rfl, hb2⟩; have HB2 := Lib.hid (d0_below (B := w.heap.size) hb2); clear hb2)
        | (go_at_call 65; refine ((HD _).out).mono ?_; rintro e w3 ⟨rfl, hb3⟩; have HB3 := Lib.hid (d0_below (B := w.heap.size) hb3); clear hb3))
      go_ret2
      exact ⟨rfl, (HB1.out.trans HB2.out).trans HB3.out⟩
    | some n =>
      simp only [dRes] at HD ⊢
      have n0 : (0 : Int) ≤ (n : Int) := Int.natCast_nonneg _
      go_enter Tryd.func27, Tryd.ntmps27
      go_wp2_with (first
        | (go_at_call 83; refine ((HW _).out).mono ?_; rintro e w1 ⟨rfl, hb1⟩; have HB1 := Lib.hid hb1; clear hb1)
        | (go_at_call 82; refine ((HX _).out).mono ?_; rintro e w2 ⟨rfl, hb2⟩; have HB2 := Lib.hid (d0_below (B := w.heap.size) hb2); clear hb2)
        | (go_at_call 65; refine ((HD _).out).mono ?_; rintro e w3 ⟨rfl, hb3⟩; have HB3 := Lib.hid (d0_below (B := w.heap.size) hb3); clear hb3))
      go_ret2
      exact ⟨rfl, (HB1.out.trans HB2.out).trans HB3.out⟩

set_option maxRecDepth 100000 in
theorem natural_all16 (s : ByteArray) (hs : s.size ≤ 2147483647) (w : World) :
    Calls Tryd.prog 27 #[.string s, .int .i64 16, .bool true] w fun e w' => e = .returned (.tuple #[.int .u64 (dRes (natA 65535 s.data.toList)).1, .int .i64 (dRes (natA 65535 s.data.toList)).2]) ∧ Below w.heap.size w w' := by
  have HW := fun w => Lib.hid (without_any s hs w)
  unfold WoEnd at HW
  unfold natA
  cases hp : w29 s.data.toList with
  | false =>
    rw [hp] at HW
    simp only [Bool.false_eq_true, if_false] at HW ⊢
    clear hp
    go_enter Tryd.func27, Tryd.ntmps27
    go_wp2_with (go_at_call 83; refine ((HW _).out).mono ?_; rintro e w1 ⟨rfl, hb1⟩; have HB1 := Lib.hid hb1; clear hb1)
    go_ret2
    exact ⟨rfl, HB1.out⟩
  | true =>
    rw [hp] at HW
    simp only [if_true] at HW ⊢
    clear hp
    have hsz : (⟨(bare s.data.toList).toArray⟩ : ByteArray).size ≤ 2147483647 := by
      have := bare_le s.data.toList
      rw [size_len] at this
      show (bare s.data.toList).toArray.size ≤ _
      simp; omega
    have hl : (⟨(bare s.data.toList).toArray⟩ : ByteArray).data.toList = bare s.data.toList := by simp
    generalize bare s.data.toList = L at HW hl hsz ⊢
    generalize (⟨L.toArray⟩ : ByteArray) = T at HW hl hsz
    have HX := fun w => Lib.hid (prefixed_any T (by omega) w)
    have hT : (T.extract (preS T.data.toList).2 T.size).data.toList = T.data.toList.drop (preS T.data.toList).2 := extract_tail T _
    have hb : (preS T.data.toList).1 = 2 ∨ (preS T.data.toList).1 = 8 ∨ (preS T.data.toList).1 = 10 ∨ (preS T.data.toList).1 = 16 ∨ (preS T.data.toList).1 = 36 := by have := preS_base T.data.toList; omega
    have hTs : (T.extract (preS T.data.toList).2 T.size).size ≤ 9223372036854775806 := by simp; omega
    have HD := fun w => Lib.hid (digits_any (preS T.data.toList).1 65535 hb (by omega) (T.extract (preS T.data.toList).2 T.size) hTs w)
    rw [hT] at HD
    rw [hl] at HD HX hb
    rw [hl] at hT
    generalize T.extract (preS L).2 T.size = U at HX HD
    generalize (if L.drop (preS L).2 = [] then none else dOpt (preS L).1 65535 0 false (L.drop (preS L).2)) = q at HD ⊢
    generalize (preS L).1 = B at HX HD
    clear hT hb hTs hl hsz
    have d0 : (0 : Int) ≤ (B : Int) := Int.natCast_nonneg _
    cases q with
    | none =>
      simp only [dRes] at HD ⊢
      go_enter Tryd.func27, Tryd.ntmps27
      go_wp2_with (first
        | (go_at_call 83; refine ((HW _).out).mono ?_; rintro e w1 ⟨rfl, hb1⟩; have HB1 := Lib.hid hb1; clear hb1)
        | (go_at_call 82; refine ((HX _).out).mono ?_; rintro e w2 ⟨rfl, hb2⟩; have HB2 := Lib.hid (d0_below (B := w.heap.size) hb2); clear hb2)
        | (go_at_call 65; refine ((HD _).out).mono ?_; rintro e w3 ⟨rfl, hb3⟩; have HB3 := Lib.hid (d0_below (B := w.heap.size) hb3); clear hb3))
      go_ret2
      exact ⟨rfl, (HB1.out.trans HB2.out).trans HB3.out⟩
    | some n =>
      simp only [dRes] at HD ⊢
      have n0 : (0 : Int) ≤ (n : Int) := Int.natCast_nonneg _
      go_enter Tryd.func27, Tryd.ntmps27
      go_wp2_with (first
        | (go_at_call 83; refine ((HW _).out).mono ?_; rintro e w1 ⟨rfl, hb1⟩; have HB1 := Lib.hid hb1; clear hb1)
        | (go_at_call 82; refine ((HX _).out).mono ?_; rintro e w2 ⟨rfl, hb2⟩; have HB2 := Lib.hid (d0_below (B := w.heap.size) hb2); clear hb2)
        | (go_at_call 65; refine ((HD _).out).mono ?_; rintro e w3 ⟨rfl, hb3⟩; have HB3 := Lib.hid (d0_below (B := w.heap.size) hb3); clear hb3))
      go_ret2
      exact ⟨rfl, (HB1.out.trans HB2.out).trans HB3.out⟩

set_option maxRecDepth 100000 in
theorem natural_all32 (s : ByteArray) (hs : s.size ≤ 2147483647) (w : World) :
    Calls Tryd.prog 27 #[.string s, .int .i64 32, .bool true] w fun e w' => e = .returned (.tuple #[.int .u64 (dRes (natA 4294967295 s.data.toList)).1, .int .i64 (dRes (natA 4294967295 s.data.toList)).2]) ∧ Below w.heap.size w w' := by
  have HW := fun w => Lib.hid (without_any s hs w)
  unfold WoEnd at HW
  unfold natA
  cases hp : w29 s.data.toList with
  | false =>
    rw [hp] at HW
    simp only [Bool.false_eq_true, if_false] at HW ⊢
    clear hp
    go_enter Tryd.func27, Tryd.ntmps27
    go_wp2_with (go_at_call 83; refine ((HW _).out).mono ?_; rintro e w1 ⟨rfl, hb1⟩; have HB1 := Lib.hid hb1; clear hb1)
    go_ret2
    exact ⟨rfl, HB1.out⟩
  | true =>
    rw [hp] at HW
    simp only [if_true] at HW ⊢
    clear hp
    have hsz : (⟨(bare s.data.toList).toArray⟩ : ByteArray).size ≤ 2147483647 := by
      have := bare_le s.data.toList
      rw [size_len] at this
      show (bare s.data.toList).toArray.size ≤ _
      simp; omega
    have hl : (⟨(bare s.data.toList).toArray⟩ : ByteArray).data.toList = bare s.data.toList := by simp
    generalize bare s.data.toList = L at HW hl hsz ⊢
    generalize (⟨L.toArray⟩ : ByteArray) = T at HW hl hsz
    have HX := fun w => Lib.hid (prefixed_any T (by omega) w)
    have hT : (T.extract (preS T.data.toList).2 T.size).data.toList = T.data.toList.drop (preS T.data.toList).2 := extract_tail T _
    have hb : (preS T.data.toList).1 = 2 ∨ (preS T.data.toList).1 = 8 ∨ (preS T.data.toList).1 = 10 ∨ (preS T.data.toList).1 = 16 ∨ (preS T.data.toList).1 = 36 := by have := preS_base T.data.toList; omega
    have hTs : (T.extract (preS T.data.toList).2 T.size).size ≤ 9223372036854775806 := by simp; omega
    have HD := fun w => Lib.hid (digits_any (preS T.data.toList).1 4294967295 hb (by omega) (T.extract (preS T.data.toList).2 T.size) hTs w)
    rw [hT] at HD
    rw [hl] at HD HX hb
    rw [hl] at hT
    generalize T.extract (preS L).2 T.size = U at HX HD
    generalize (if L.drop (preS L).2 = [] then none else dOpt (preS L).1 4294967295 0 false (L.drop (preS L).2)) = q at HD ⊢
    generalize (preS L).1 = B at HX HD
    clear hT hb hTs hl hsz
    have d0 : (0 : Int) ≤ (B : Int) := Int.natCast_nonneg _
    cases q with
    | none =>
      simp only [dRes] at HD ⊢
      go_enter Tryd.func27, Tryd.ntmps27
      go_wp2_with (first
        | (go_at_call 83; refine ((HW _).out).mono ?_; rintro e w1 ⟨rfl, hb1⟩; have HB1 := Lib.hid hb1; clear hb1)
        | (go_at_call 82; refine ((HX _).out).mono ?_; rintro e w2 ⟨rfl, hb2⟩; have HB2 := Lib.hid (d0_below (B := w.heap.size) hb2); clear hb2)
        | (go_at_call 65; refine ((HD _).out).mono ?_; rintro e w3 ⟨rfl, hb3⟩; have HB3 := Lib.hid (d0_below (B := w.heap.size) hb3); clear hb3))
      go_ret2
      exact ⟨rfl, (HB1.out.trans HB2.out).trans HB3.out⟩
    | some n =>
      simp only [dRes] at HD ⊢
      have n0 : (0 : Int) ≤ (n : Int) := Int.natCast_nonneg _
      go_enter Tryd.func27, Tryd.ntmps27
      go_wp2_with (first
        | (go_at_call 83; refine ((HW _).out).mono ?_; rintro e w1 ⟨rfl, hb1⟩; have HB1 := Lib.hid hb1; clear hb1)
        | (go_at_call 82; refine ((HX _).out).mono ?_; rintro e w2 ⟨rfl, hb2⟩; have HB2 := Lib.hid (d0_below (B := w.heap.size) hb2); clear hb2)
        | (go_at_call 65; refine ((HD _).out).mono ?_; rintro e w3 ⟨rfl, hb3⟩; have HB3 := Lib.hid (d0_below (B := w.heap.size) hb3); clear hb3))
      go_ret2
      exact ⟨rfl, (HB1.out.trans HB2.out).trans HB3.out⟩

set_option maxRecDepth 100000 in
theorem natural_all64 (s : ByteArray) (hs : s.size ≤ 2147483647) (w : World) :
    Calls Tryd.prog 27 #[.string s, .int .i64 64, .bool true] w fun e w' => e = .returned (.tuple #[.int .u64 (dRes (natA 18446744073709551615 s.data.toList)).1, .int .i64 (dRes (natA 18446744073709551615 s.data.toList)).2]) ∧ Below w.heap.size w w' := by
  have HW := fun w => Lib.hid (without_any s hs w)
  unfold WoEnd at HW
  unfold natA
  cases hp : w29 s.data.toList with
  | false =>
    rw [hp] at HW
    simp only [Bool.false_eq_true, if_false] at HW ⊢
    clear hp
    go_enter Tryd.func27, Tryd.ntmps27
    go_wp2_with (go_at_call 83; refine ((HW _).out).mono ?_; rintro e w1 ⟨rfl, hb1⟩; have HB1 := Lib.hid hb1; clear hb1)
    go_ret2
    exact ⟨rfl, HB1.out⟩
  | true =>
    rw [hp] at HW
    simp only [if_true] at HW ⊢
    clear hp
    have hsz : (⟨(bare s.data.toList).toArray⟩ : ByteArray).size ≤ 2147483647 := by
      have := bare_le s.data.toList
      rw [size_len] at this
      show (bare s.data.toList).toArray.size ≤ _
      simp; omega
    have hl : (⟨(bare s.data.toList).toArray⟩ : ByteArray).data.toList = bare s.data.toList := by simp
    generalize bare s.data.toList = L at HW hl hsz ⊢
    generalize (⟨L.toArray⟩ : ByteArray) = T at HW hl hsz
    have HX := fun w => Lib.hid (prefixed_any T (by omega) w)
    have hT : (T.extract (preS T.data.toList).2 T.size).data.toList = T.data.toList.drop (preS T.data.toList).2 := extract_tail T _
    have hb : (preS T.data.toList).1 = 2 ∨ (preS T.data.toList).1 = 8 ∨ (preS T.data.toList).1 = 10 ∨ (preS T.data.toList).1 = 16 ∨ (preS T.data.toList).1 = 36 := by have := preS_base T.data.toList; omega
    have hTs : (T.extract (preS T.data.toList).2 T.size).size ≤ 9223372036854775806 := by simp; omega
    have HD := fun w => Lib.hid (digits_any (preS T.data.toList).1 18446744073709551615 hb (by omega) (T.extract (preS T.data.toList).2 T.size) hTs w)
    rw [hT] at HD
    rw [hl] at HD HX hb
    rw [hl] at hT
    generalize T.extract (preS L).2 T.size = U at HX HD
    generalize (if L.drop (preS L).2 = [] then none else dOpt (preS L).1 18446744073709551615 0 false (L.drop (preS L).2)) = q at HD ⊢
    generalize (preS L).1 = B at HX HD
    clear hT hb hTs hl hsz
    have d0 : (0 : Int) ≤ (B : Int) := Int.natCast_nonneg _
    cases q with
    | none =>
      simp only [dRes] at HD ⊢
      go_enter Tryd.func27, Tryd.ntmps27
      go_wp2_with (first
        | (go_at_call 83; refine ((HW _).out).mono ?_; rintro e w1 ⟨rfl, hb1⟩; have HB1 := Lib.hid hb1; clear hb1)
        | (go_at_call 82; refine ((HX _).out).mono ?_; rintro e w2 ⟨rfl, hb2⟩; have HB2 := Lib.hid (d0_below (B := w.heap.size) hb2); clear hb2)
        | (go_at_call 65; refine ((HD _).out).mono ?_; rintro e w3 ⟨rfl, hb3⟩; have HB3 := Lib.hid (d0_below (B := w.heap.size) hb3); clear hb3))
      go_ret2
      exact ⟨rfl, (HB1.out.trans HB2.out).trans HB3.out⟩
    | some n =>
      simp only [dRes] at HD ⊢
      have n0 : (0 : Int) ≤ (n : Int) := Int.natCast_nonneg _
      go_enter Tryd.func27, Tryd.ntmps27
      go_wp2_with (first
        | (go_at_call 83; refine ((HW _).out).mono ?_; rintro e w1 ⟨rfl, hb1⟩; have HB1 := Lib.hid hb1; clear hb1)
        | (go_at_call 82; refine ((HX _).out).mono ?_; rintro e w2 ⟨rfl, hb2⟩; have HB2 := Lib.hid (d0_below (B := w.heap.size) hb2); clear hb2)
        | (go_at_call 65; refine ((HD _).out).mono ?_; rintro e w3 ⟨rfl, hb3⟩; have HB3 := Lib.hid (d0_below (B := w.heap.size) hb3); clear hb3))
      go_ret2
      exact ⟨rfl, (HB1.out.trans HB2.out).trans HB3.out⟩

theorem natA_le {M : Nat} {l : List UInt8} {n : Nat} (h : natA M l = some n) : n ≤ M := puV_le ((natA_pu l n).1 h)
/-- spec.Whole of any text. -/
def wholeA (C : Nat) : List UInt8 → Option Int
  | [] => none
  | c :: r => if c.toNat = 45 then minusP C (natA 18446744073709551615 r) else if c.toNat = 43 then plusP C (natA 18446744073709551615 r) else plusP C (natA 18446744073709551615 (c :: r))
def wholeARes : Option Int → Int × Int
  | some n => (n, 1)
  | none => (0, 2)
theorem minus_pu {C : Nat} (l : List UInt8) (v : Int) : minusP C (natA 18446744073709551615 l) = some v ↔ minusE C (puV 18446744073709551615 l) = (.ok v, 0) := by
  cases hn : natA 18446744073709551615 l with
  | none =>
    simp only [minusP]
    cases hp : puV 18446744073709551615 l with
    | ok n => have := (natA_pu l n).2 hp; rw [hn] at this; cases this
    | range => simp [minusE]
    | _ => simp [minusE]
  | some n =>
    rw [(natA_pu l n).1 hn]
    simp only [minusP, minusE]
    split
    · simp
    · simp
theorem plus_pu {C : Nat} (l : List UInt8) (v : Int) : plusP C (natA 18446744073709551615 l) = some v ↔ plusE C (puV 18446744073709551615 l) = (.ok v, 0) := by
  cases hn : natA 18446744073709551615 l with
  | none =>
    simp only [plusP]
    cases hp : puV 18446744073709551615 l with
    | ok n => have := (natA_pu l n).2 hp; rw [hn] at this; cases this
    | range => simp [plusE]
    | _ => simp [plusE]
  | some n =>
    rw [(natA_pu l n).1 hn]
    simp only [plusP, plusE]
    split
    · simp
    · simp
theorem wholeA_pi {C : Nat} (l : List UInt8) (v : Int) : wholeA C l = some v ↔ piE 18446744073709551615 C l = (.ok v, 0) := by
  cases l with
  | nil => simp [wholeA, piE]
  | cons c r =>
    simp only [wholeA, piE]
    by_cases h45 : c.toNat = 45
    · rw [if_pos h45, if_neg (by omega), if_pos h45]; exact minus_pu r v
    · rw [if_neg h45]
      by_cases h43 : c.toNat = 43
      · rw [if_pos h43, if_pos h43]; exact plus_pu r v
      · rw [if_neg h43, if_neg h43, if_neg h45]; exact plus_pu (c :: r) v
theorem wholeA_in {C : Nat} (hC : 0 < C) {l : List UInt8} {v : Int} (h : wholeA C l = some v) : -(C : Int) ≤ v ∧ v < C := by
  have key : ∀ q : Option Nat, (minusP C q = some v → -(C : Int) ≤ v ∧ v < C) ∧ (plusP C q = some v → -(C : Int) ≤ v ∧ v < C) := by
    intro q
    cases q with
    | none => exact ⟨(fun h => by cases h), (fun h => by cases h)⟩
    | some n => refine ⟨(fun h => ?_), (fun h => ?_)⟩ <;> (simp only [minusP, plusP] at h; split at h <;> (cases h; try omega))
  cases l with
  | nil => cases h
  | cons c r =>
    simp only [wholeA] at h
    split at h
    · exact (key _).1 h
    · split at h <;> exact (key _).2 h

set_option maxRecDepth 100000 in
set_option maxHeartbeats 1600000 in
theorem whole_all (m C : Nat) (hm : m ≤ 63) (hC1 : 1 ≤ C) (hC2 : C ≤ 9223372036854775808) (hCs : IntKind.u64.wrap (2 ^ m) = (C : Int)) (s : ByteArray) (hs : s.size ≤ 2147483647) (w : World) :
    Calls Tryd.prog 12 #[.string s, .int .i64 ((m : Int) + 1), .bool true] w fun e w' => e = .returned (.tuple #[.int .i64 (wholeARes (wholeA C s.data.toList)).1, .int .i64 (wholeARes (wholeA C s.data.toList)).2]) ∧ Below w.heap.size w w' := by
  have m0 : (0 : Int) ≤ (m : Int) := Int.natCast_nonneg _
  have m1 : (m : Int) ≤ 63 := by omega
  have C0 : (1 : Int) ≤ (C : Int) := by omega
  have C1 : (C : Int) ≤ 9223372036854775808 := by omega
  by_cases hne : 0 < s.size
  · have hemp := nonempty_list hne
    have hemp2 := nonempty_not hne
    have hd0 := drop_at hne
    rw [List.drop_zero] at hd0
    by_cases h45 : s[0].toNat = 45
    · have c0 : ((s[0].toNat : Int) == 45) = true := by rw [h45]; rfl
      have hT : (s.extract 1 s.size).data.toList = s.data.toList.drop 1 := extract_tail s 1
      have hTs : (s.extract 1 s.size).size ≤ 2147483647 := by simp; omega
      have HN := fun w => Lib.hid (natural_all64 (s.extract 1 s.size) hTs w)
      rw [hT] at HN
      have hW : wholeA C s.data.toList = minusP C (natA 18446744073709551615 (s.data.toList.drop 1)) := by rw [hd0]; simp only [wholeA]; rw [if_pos h45]; rfl
      rw [hW]
      have hle := fun n (h : natA 18446744073709551615 (s.data.toList.drop 1) = some n) => natA_le h
      generalize natA 18446744073709551615 (s.data.toList.drop 1) = d at HN hle ⊢
      clear hW hT hTs hd0 h45
      cases d with
      | none =>
        simp only [dRes] at HN
        clear hle
        go_enter Tryd.func12, Tryd.ntmps12
        go_wp2_with (go_at_call 27; refine ((HN _).out).mono ?_; rintro e w1 ⟨rfl, hb1⟩; have HB := Lib.hid hb1; clear hb1)
        go_ret2
        exact ⟨rfl, HB.out⟩
      | some n =>
        simp only [dRes] at HN
        have n0 : (0 : Int) ≤ (n : Int) := Int.natCast_nonneg _
        have n1 : (n : Int) ≤ 18446744073709551615 := by have := hle n rfl; omega
        clear hle
        by_cases hc : n ≤ C
        · have hv : minusP C (some n) = some (-(n : Int)) := by simp [minusP, hc]
          rw [hv]
          have n2 : (n : Int) ≤ C := by omega
          clear hv hc
          have HWW : Hid (wrap64 (-(wrap64 (n : Int))) = -(n : Int)) := by show wrap64 (-(wrap64 (n : Int))) = -(n : Int); unfold wrap64; omega
          by_cases heq : n = C
          · have n4 : ((n : Int) == C) = true := by rw [heq]; simp
            have n5 : ¬ (C : Int) < (n : Int) := by omega
            clear heq n2
            go_enter Tryd.func12, Tryd.ntmps12
            go_wp2_with (go_at_call 27; refine ((HN _).out).mono ?_; rintro e w1 ⟨rfl, hb1⟩; have HB := Lib.hid hb1; clear hb1)
            go_ret2
            exact ⟨by first | rfl | (simp only [wholeARes]; rw [HWW.out]; rfl) | (simp only [wholeARes]; go_num), HB.out⟩
          · have n3 : (n : Int) < C := by omega
            have n4 : ((n : Int) == C) = false := by simp; omega
            clear heq
            go_enter Tryd.func12, Tryd.ntmps12
            go_wp2_with (go_at_call 27; refine ((HN _).out).mono ?_; rintro e w1 ⟨rfl, hb1⟩; have HB := Lib.hid hb1; clear hb1)
            go_ret2
            exact ⟨by first | rfl | (simp only [wholeARes]; rw [HWW.out]; rfl) | (simp only [wholeARes]; go_num), HB.out⟩
        · have hv : minusP C (some n) = none := by simp [minusP, hc]
          rw [hv]
          have n2 : C < (n : Int) := by omega
          clear hv hc
          go_enter Tryd.func12, Tryd.ntmps12
          go_wp2_with (go_at_call 27; refine ((HN _).out).mono ?_; rintro e w1 ⟨rfl, hb1⟩; have HB := Lib.hid hb1; clear hb1)
          go_ret2
          exact ⟨rfl, HB.out⟩
    · have c0 : ((s[0].toNat : Int) == 45) = false := byte_beq (c := s[0]) (k := 45) (by omega) (fun e => h45 (by rw [e]; rfl))
      by_cases h43 : s[0].toNat = 43
      · have c1 : ((s[0].toNat : Int) == 43) = true := by rw [h43]; rfl
        have hT : (s.extract 1 s.size).data.toList = s.data.toList.drop 1 := extract_tail s 1
        have hTs : (s.extract 1 s.size).size ≤ 2147483647 := by simp; omega
        have HN := fun w => Lib.hid (natural_all64 (s.extract 1 s.size) hTs w)
        rw [hT] at HN
        have hW : wholeA C s.data.toList = plusP C (natA 18446744073709551615 (s.data.toList.drop 1)) := by rw [hd0]; simp only [wholeA]; rw [if_neg h45, if_pos h43]; rfl
        rw [hW]
        have hle := fun n (h : natA 18446744073709551615 (s.data.toList.drop 1) = some n) => natA_le h
        generalize natA 18446744073709551615 (s.data.toList.drop 1) = d at HN hle ⊢
        clear hW hT hTs hd0 h45 h43
        cases d with
        | none =>
          simp only [dRes] at HN
          clear hle
          go_enter Tryd.func12, Tryd.ntmps12
          go_wp2_with (go_at_call 27; refine ((HN _).out).mono ?_; rintro e w1 ⟨rfl, hb1⟩; have HB := Lib.hid hb1; clear hb1)
          go_ret2
          exact ⟨rfl, HB.out⟩
        | some n =>
          simp only [dRes] at HN
          have n0 : (0 : Int) ≤ (n : Int) := Int.natCast_nonneg _
          have n1 : (n : Int) ≤ 18446744073709551615 := by have := hle n rfl; omega
          clear hle
          by_cases hc : n < C
          · have hv : plusP C (some n) = some (n : Int) := by simp [plusP, hc]
            rw [hv]
            have n2 : (n : Int) < C := by omega
            have n4 : ((n : Int) == C) = false := by simp; omega
            clear hv hc
            have HWW : Hid (IntKind.i64.wrap (n : Int) = (n : Int)) := by show IntKind.i64.wrap (n : Int) = (n : Int); rw [IntKind.wrap_i64]; omega
            go_enter Tryd.func12, Tryd.ntmps12
            go_wp2_with (go_at_call 27; refine ((HN _).out).mono ?_; rintro e w1 ⟨rfl, hb1⟩; have HB := Lib.hid hb1; clear hb1)
            go_ret2
            exact ⟨by first | rfl | (simp only [wholeARes]; rw [HWW.out]; rfl) | (simp only [wholeARes]; go_num), HB.out⟩
          · have hv : plusP C (some n) = none := by simp [plusP]; omega
            rw [hv]
            by_cases heq : n = C
            · have n4 : ((n : Int) == C) = true := by rw [heq]; simp
              have n5 : ¬ (C : Int) < (n : Int) := by omega
              clear hv hc heq
              go_enter Tryd.func12, Tryd.ntmps12
              go_wp2_with (go_at_call 27; refine ((HN _).out).mono ?_; rintro e w1 ⟨rfl, hb1⟩; have HB := Lib.hid hb1; clear hb1)
              go_ret2
              exact ⟨rfl, HB.out⟩
            · have n2 : C < (n : Int) := by omega
              clear hv hc heq
              go_enter Tryd.func12, Tryd.ntmps12
              go_wp2_with (go_at_call 27; refine ((HN _).out).mono ?_; rintro e w1 ⟨rfl, hb1⟩; have HB := Lib.hid hb1; clear hb1)
              go_ret2
              exact ⟨rfl, HB.out⟩
      · have c1 : ((s[0].toNat : Int) == 43) = false := byte_beq (c := s[0]) (k := 43) (by omega) (fun e => h43 (by rw [e]; rfl))
        have HN := fun w => Lib.hid (natural_all64 s hs w)
        have hW : wholeA C s.data.toList = plusP C (natA 18446744073709551615 s.data.toList) := by rw [hd0]; simp only [wholeA]; rw [if_neg h45, if_neg h43]
        rw [hW]
        have hle := fun n (h : natA 18446744073709551615 s.data.toList = some n) => natA_le h
        generalize natA 18446744073709551615 s.data.toList = d at HN hle ⊢
        clear hW hd0 h45 h43
        cases d with
        | none =>
          simp only [dRes] at HN
          clear hle
          go_enter Tryd.func12, Tryd.ntmps12
          go_wp2_with (go_at_call 27; refine ((HN _).out).mono ?_; rintro e w1 ⟨rfl, hb1⟩; have HB := Lib.hid hb1; clear hb1)
          go_ret2
          exact ⟨rfl, HB.out⟩
        | some n =>
          simp only [dRes] at HN
          have n0 : (0 : Int) ≤ (n : Int) := Int.natCast_nonneg _
          have n1 : (n : Int) ≤ 18446744073709551615 := by have := hle n rfl; omega
          clear hle
          by_cases hc : n < C
          · have hv : plusP C (some n) = some (n : Int) := by simp [plusP, hc]
            rw [hv]
            have n2 : (n : Int) < C := by omega
            have n4 : ((n : Int) == C) = false := by simp; omega
            clear hv hc
            have HWW : Hid (IntKind.i64.wrap (n : Int) = (n : Int)) := by show IntKind.i64.wrap (n : Int) = (n : Int); rw [IntKind.wrap_i64]; omega
            go_enter Tryd.func12, Tryd.ntmps12
            go_wp2_with (go_at_call 27; refine ((HN _).out).mono ?_; rintro e w1 ⟨rfl, hb1⟩; have HB := Lib.hid hb1; clear hb1)
            go_ret2
            exact ⟨by first | rfl | (simp only [wholeARes]; rw [HWW.out]; rfl) | (simp only [wholeARes]; go_num), HB.out⟩
          · have hv : plusP C (some n) = none := by simp [plusP]; omega
            rw [hv]
            by_cases heq : n = C
            · have n4 : ((n : Int) == C) = true := by rw [heq]; simp
              have n5 : ¬ (C : Int) < (n : Int) := by omega
              clear hv hc heq
              go_enter Tryd.func12, Tryd.ntmps12
              go_wp2_with (go_at_call 27; refine ((HN _).out).mono ?_; rintro e w1 ⟨rfl, hb1⟩; have HB := Lib.hid hb1; clear hb1)
              go_ret2
              exact ⟨rfl, HB.out⟩
            · have n2 : C < (n : Int) := by omega
              clear hv hc heq
              go_enter Tryd.func12, Tryd.ntmps12
              go_wp2_with (go_at_call 27; refine ((HN _).out).mono ?_; rintro e w1 ⟨rfl, hb1⟩; have HB := Lib.hid hb1; clear hb1)
              go_ret2
              exact ⟨rfl, HB.out⟩
  · have hemp := empty_list (x := s) (by omega)
    have hemp2 := empty_not (x := s) (by omega)
    have hl : s.data.toList = [] := List.eq_nil_of_length_eq_zero (by rw [size_len]; omega)
    have HN := fun w => Lib.hid (natural_all64 s hs w)
    have hW : wholeA C s.data.toList = none := by rw [hl]; rfl
    have hN : natA 18446744073709551615 s.data.toList = none := by rw [hl]; simp [natA, w29, bare, preS, preB]
    rw [hN] at HN
    rw [hW]
    simp only [dRes] at HN
    clear hW hN hl
    go_enter Tryd.func12, Tryd.ntmps12
    go_wp2_with (go_at_call 27; refine ((HN _).out).mono ?_; rintro e w1 ⟨rfl, hb1⟩; have HB := Lib.hid hb1; clear hb1)
    go_ret2
    exact ⟨rfl, HB.out⟩
end Go.Proofs.YtdmpeecocfoocaaDoor.E
