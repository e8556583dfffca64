/- laws.FnWrapKeeps answers true. -/
import Derived.Test.YtgmhhdpggnmipaaLw3
import Derived.Test.YtgmhhdpggnmipaaKwS
namespace Go.Proofs.Ytgmhhdpggnmipaa.E
open Go.RowKit Go.Proofs
set_option linter.unusedVariables false
set_option linter.unusedSimpArgs false
set_option maxRecDepth 100000 in
theorem fnWrapKeeps_any (a b : Int) (s : ByteArray) (w : World) :
    Calls Try.prog 13 #[.int .i64 a, .int .i64 b, .string s] w fun e w' => e = .returned (.bool true) ∧ Below w.heap.size w w' := by
  have HW := fun w => Lib.hid (Go.Proofs.Ytgmhhdpggnmipaa.PK.laws_wraps14.calls a b s _ w (K.wraps_at a b s))
  by_cases hm : 2147483647 < s.size
  · have i0 : (2147483647 : Int) < (s.size : Int) := by omega
    go_enter Try.func13, Try.ntmps13
    go_wp2
    go_ret
    exact ⟨rfl, Below.refl _ _⟩
  have i0 : ¬ (2147483647 : Int) < (s.size : Int) := by omega
  by_cases h : 0 ≤ a ∧ a ≤ 1024 ∧ 0 ≤ b ∧ b ≤ 1048576 ∧ s.size ≤ 4096
  · rw [decide_eq_true h] at HW
    obtain ⟨h1, h2, h3, h4, h5⟩ := h
    obtain ⟨ind, rfl⟩ : ∃ n : Nat, a = (n : Int) := ⟨a.toNat, by omega⟩
    obtain ⟨x, rfl⟩ : ∃ n : Nat, b = (n : Int) := ⟨b.toNat, by omega⟩
    have HI := fun w => Lib.hid (K.implWrap_any ind x (by omega) (by omega) s h5 w)
    have hle := K.wrapAll_le (ind := ind) (x := x) (by omega) s h5
    have HS1 := fun w => Lib.hid (K.solid_c (K.mkT (K.wrapAll ind x s)) (by rw [K.mkT_size]; omega) w)
    have HS2 := fun w => Lib.hid (K.solid_c s (by omega) w)
    rw [K.mkT_list, K.solid_all] at HS1
    generalize K.mkT (K.wrapAll ind x s) = R at HI HS1
    generalize K.mkT (K.solid s.data.toList) = Q at HS1 HS2
    clear h1 h2 h3 h4 h5 hm hle
    have HB := Lib.hid (Below.refl w.heap.size w)
    go_enter Try.func13, Try.ntmps13
    go_wp2_with (first
      | ((with_reducible go_at_call 40); refine ((HW _).out).mono ?_; rintro e w' ⟨rfl, hb⟩; have HB := Lib.hid (below_step HB.out (K.d0_below hb)); clear hb)
      | ((with_reducible go_at_call 42); refine ((HI _).out).mono ?_; rintro e w' ⟨rfl, hb⟩; have HB := Lib.hid (below_step HB.out hb); clear hb)
      | ((with_reducible go_at_call 41); (with_reducible refine Calls.mono ((HS1 _).out) ?_); rintro e w' ⟨rfl, hb⟩; have HB := Lib.hid (below_step HB.out hb); clear hb)
      | ((with_reducible go_at_call 41); (with_reducible refine Calls.mono ((HS2 _).out) ?_); rintro e w' ⟨rfl, hb⟩; have HB := Lib.hid (below_step HB.out hb); clear hb)
      | ((with_reducible go_at_call 25); refine (lives_c _).mono ?_; rintro e w' ⟨rfl, hb⟩; have HB := Lib.hid (below_step HB.out hb); clear hb))
    go_ret
    exact ⟨by simp, HB.out⟩
  · rw [decide_eq_false h] at HW
    clear h hm
    have HB := Lib.hid (Below.refl w.heap.size w)
    go_enter Try.func13, Try.ntmps13
    go_wp2_with (first
      | ((with_reducible go_at_call 40); refine ((HW _).out).mono ?_; rintro e w' ⟨rfl, hb⟩; have HB := Lib.hid (below_step HB.out (K.d0_below hb)); clear hb)
      | ((with_reducible go_at_call 25); refine (lives_c _).mono ?_; rintro e w' ⟨rfl, hb⟩; have HB := Lib.hid (below_step HB.out hb); clear hb))
    go_ret
    exact ⟨rfl, HB.out⟩
end Go.Proofs.Ytgmhhdpggnmipaa.E
