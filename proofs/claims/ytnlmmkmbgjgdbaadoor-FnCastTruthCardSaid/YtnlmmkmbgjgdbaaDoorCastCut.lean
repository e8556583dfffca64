/- The kinds of the statements on casts, and the cuts of the reference, over this seat's program. -/
import Derived.Test.YtnlmmkmbgjgdbaaDoorCastBool
namespace Go.Proofs.YtnlmmkmbgjgdbaaDoor.E
open Go.RowKit
set_option linter.unusedVariables false
set_option linter.unusedSimpArgs false

def kindI (k : Int) : Int := 2 + k % 18446744073709551616 % 5
def kindU (k : Int) : Int := 7 + k % 18446744073709551616 % 5
theorem kindI_range (k : Int) : 2 ≤ kindI k ∧ kindI k ≤ 6 := by unfold kindI; omega
theorem kindU_range (k : Int) : 7 ≤ kindU k ∧ kindU k ≤ 11 := by unfold kindU; omega

theorem ret_num {k : IntKind} {a b : Int} (h : a = b) : Ending.returned (.int k a) = .returned (.int k b) := by rw [h]
theorem u64_tmod (k : Int) : (IntKind.u64.wrap k).tmod 5 = k % 18446744073709551616 % 5 := by
  have e : IntKind.u64.wrap k = k % 18446744073709551616 := by simp [IntKind.wrap, IntKind.bits, IntKind.signed]
  rw [e, Int.tmod_eq_emod_of_nonneg (by omega)]
theorem kindI_eq (k : Int) : wrap64 (2 + wrap64 ((IntKind.u64.wrap k).tmod 5)) = kindI k := by
  rw [u64_tmod]; unfold kindI wrap64; omega
theorem kindU_eq (k : Int) : wrap64 (7 + wrap64 ((IntKind.u64.wrap k).tmod 5)) = kindU k := by
  rw [u64_tmod]; unfold kindU wrap64; omega

theorem castKindInt_any (k : Int) (w : World) : Calls Tryd.prog 11 #[.int .i64 k] w fun e w' => e = .returned (.int .i64 (kindI k)) ∧ w = w' := by
  go_enter Tryd.func11, Tryd.ntmps11
  go_wp2
  go_ret
  exact ⟨ret_num (kindI_eq k), rfl⟩

theorem castKindUint_any (k : Int) (w : World) : Calls Tryd.prog 12 #[.int .i64 k] w fun e w' => e = .returned (.int .i64 (kindU k)) ∧ w = w' := by
  go_enter Tryd.func12, Tryd.ntmps12
  go_wp2
  go_ret
  exact ⟨ret_num (kindU_eq k), rfl⟩

theorem castCutInt_any (a n : Int) (w : World) (ha : 2 ≤ a ∧ a ≤ 6) (hn : -9223372036854775808 ≤ n ∧ n ≤ 9223372036854775807) :
    Calls Tryd.prog 14 #[.int .i64 a, .int .i64 n] w fun e w' => e = .returned (.int .i64 (cutI a n)) ∧ w = w' := by
  have h : a = 2 ∨ a = 3 ∨ a = 4 ∨ a = 5 ∨ a = 6 := by omega
  clear hn ha
  rcases h with rfl | rfl | rfl | rfl | rfl
  all_goals
    go_enter Tryd.func14, Tryd.ntmps14
    go_wp2
    go_ret
    exact ⟨ret_num (by simp [cutI, IntKind.wrap, IntKind.bits, IntKind.signed, wrap64, wrap32]; try omega), rfl⟩

theorem castCutUint_any (b u : Int) (w : World) (hb : 7 ≤ b ∧ b ≤ 11) (hu : 0 ≤ u ∧ u ≤ 18446744073709551615) :
    Calls Tryd.prog 15 #[.int .i64 b, .int .u64 u] w fun e w' => e = .returned (.int .u64 (cutU b u)) ∧ w = w' := by
  have h : b = 7 ∨ b = 8 ∨ b = 9 ∨ b = 10 ∨ b = 11 := by omega
  clear hb hu
  rcases h with rfl | rfl | rfl | rfl | rfl
  all_goals
    go_enter Tryd.func15, Tryd.ntmps15
    go_wp2
    go_ret
    exact ⟨ret_num (by simp [cutU, IntKind.wrap, IntKind.bits, IntKind.signed]; try omega), rfl⟩
end Go.Proofs.YtnlmmkmbgjgdbaaDoor.E
