/- strconv.ParseInt at base 0, over this seat's program. Printed by a small program. -/
import Derived.Test.YtbcknchbighieaaDoorIparseZ
import Derived.Lib.AppendIntMem
namespace Go.Proofs.YtbcknchbighieaaDoor.E
open Go.RowKit Go.Proofs
open Go.Lib (NumEnd)
set_option linter.unusedVariables false
set_option linter.unusedSimpArgs false

/-- The number that strconv.ParseInt gives, and whether there is an error. -/
def gotV : NumEnd Int × Int → Int
  | (.ok v, _) => v
  | (Go.Lib.NumEnd.syntax, _) => 0
  | (.range, c) => c
def badV : NumEnd Int × Int → Bool
  | (.ok _, _) => false
  | (Go.Lib.NumEnd.syntax, _) => true
  | (.range, _) => true
def IntGot (p : NumEnd Int × Int) (w : World) (e : Ending) (w' : World) : Prop :=
  ∃ E : Value, e = .returned (.tuple #[.int .i64 (gotV p), E]) ∧ ((badV p = false ∧ E = .nilIface) ∨ (badV p = true ∧ ∃ T q, E = .iface T q)) ∧ Below w.heap.size w w'

theorem plusE_in {M C : Nat} {l : List UInt8} (hC : 0 < C) : -(C : Int) ≤ gotV (plusE C (puV M l)) ∧ gotV (plusE C (puV M l)) < C := by
  generalize puV M l = r
  rcases r with u | _ | _
  · simp only [plusE]; split <;> simp only [gotV] <;> omega
  · simp only [plusE, gotV]; omega
  · simp only [plusE, gotV]; omega
theorem minusE_in {M C : Nat} {l : List UInt8} (hC : 0 < C) : -(C : Int) ≤ gotV (minusE C (puV M l)) ∧ gotV (minusE C (puV M l)) < C := by
  generalize puV M l = r
  rcases r with u | _ | _
  · simp only [minusE]; split <;> simp only [gotV] <;> omega
  · simp only [minusE, gotV]; omega
  · simp only [minusE, gotV]; omega
theorem piE_in {M C : Nat} (hC : 0 < C) (l : List UInt8) : -(C : Int) ≤ gotV (piE M C l) ∧ gotV (piE M C l) < C := by
  cases l with
  | nil => simp only [piE, gotV]; omega
  | cons c r =>
    simp only [piE]
    split
    · exact plusE_in hC
    · split
      · exact minusE_in hC
      · exact plusE_in hC

set_option maxHeartbeats 1600000 in
set_option maxRecDepth 100000 in
theorem parseInt0 (t : ByteArray) (hmax : t.size ≤ 281474976710656) (w : World) (he1 : ErrCell 0 w) (he2 : ErrCell 1 w) :
    Calls Tryd.prog 44 #[.string t, .int .i64 0, .int .i64 0] w fun e w' => IntGot (piE 18446744073709551615 9223372036854775808 t.data.toList) w e w' := by
  have H0 : Calls Tryd.prog 54 #[.string t, .int .i64 0, .int .i64 0] w fun e w' => e = .returned (intTup 124 (piE 18446744073709551615 9223372036854775808 t.data.toList)) ∧ Below w.heap.size w w' := by
    by_cases hne : 0 < t.size
    · exact pi0 t hne (by omega) w
    · have ht : t = ⟨#[]⟩ := ByteArray.ext (Array.eq_empty_of_size_eq_zero (by show t.size = 0; omega))
      subst ht
      exact (Tryd.internal_strconv_ParseInt_empty 0 0 w).mono fun e w' ⟨he, hw⟩ => ⟨he, by rw [hw]; exact Below.refl _ _⟩
  generalize piE 18446744073709551615 9223372036854775808 t.data.toList = v at H0
  have E1 := Lib.hid he1
  have E2 := Lib.hid he2
  clear he1 he2
  unfold IntGot
  rcases v with ⟨v | _ | _, c⟩
  · simp only [intTup] at H0
    have H := Lib.hid H0
    clear H0
    go_enter Tryd.func44, Tryd.ntmps44
    go_wp2_with (go_at_call 54; refine (H.out).mono ?_; rintro e w1 ⟨rfl, hb1⟩)
    go_ret2
    exact ⟨.nilIface, rfl, .inl ⟨rfl, rfl⟩, hb1⟩
  · simp only [intTup] at H0
    have H := Lib.hid H0
    clear H0
    go_enter Tryd.func44, Tryd.ntmps44
    go_wp2_with (first
      | (go_at_call 54; refine (H.out).mono ?_; rintro e w1 ⟨rfl, hb1⟩)
      | (go_at_call 55; obtain ⟨ev, hv, hev⟩ := E1.out.below hb1; refine (Tryd.strconv_toError_syntax _ t 0 0 ev _ hmax hv hev).mono ?_; rintro e w2 ⟨N, rfl, _, _, hb2⟩))
    go_ret2
    exact ⟨_, rfl, .inr ⟨rfl, _, _, rfl⟩, below_step hb1 hb2⟩
  · simp only [intTup] at H0
    have H := Lib.hid H0
    clear H0
    go_enter Tryd.func44, Tryd.ntmps44
    go_wp2_with (first
      | (go_at_call 54; refine (H.out).mono ?_; rintro e w1 ⟨rfl, hb1⟩)
      | (go_at_call 55; obtain ⟨ev, hv, hev⟩ := E2.out.below hb1; refine (Tryd.strconv_toError_range _ t 0 0 ev _ hmax hv hev).mono ?_; rintro e w2 ⟨N, rfl, _, _, hb2⟩))
    go_ret2
    exact ⟨_, rfl, .inr ⟨rfl, _, _, rfl⟩, below_step hb1 hb2⟩

end Go.Proofs.YtbcknchbighieaaDoor.E

namespace Go.Proofs.YtbcknchbighieaaDoor.E
open Go.RowKit Go.Proofs
open Go.Lib (NumEnd)
set_option linter.unusedVariables false
set_option linter.unusedSimpArgs false
end Go.Proofs.YtbcknchbighieaaDoor.E
