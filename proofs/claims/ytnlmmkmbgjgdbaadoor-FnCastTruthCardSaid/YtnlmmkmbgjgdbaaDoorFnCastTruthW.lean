/- The walk of laws.FnCastTruth, over this seat's program. -/
import Derived.Test.YtnlmmkmbgjgdbaaDoorCastCut
namespace Go.Proofs.YtnlmmkmbgjgdbaaDoor.E
open Go.RowKit
set_option linter.unusedVariables false
set_option linter.unusedSimpArgs false

set_option maxRecDepth 100000 in
set_option maxHeartbeats 3200000 in
theorem fnCastTruth_any (k n u : Int) (f : Nat) (w : World) (hn : -9223372036854775808 ≤ n ∧ n ≤ 9223372036854775807) (hu : 0 ≤ u ∧ u ≤ 18446744073709551615) :
    Calls Tryd.prog 5 #[.int .i64 k, .int .i64 n, .int .u64 u, .float .f64 f] w fun e w' => e = .returned (.bool true) ∧ Below w.heap.size w w' := by
  have hz : (-9223372036854775808 : Int) ≤ 0 ∧ (0 : Int) ≤ 9223372036854775807 := by omega
  have hz2 : (0 : Int) ≤ 0 ∧ (0 : Int) ≤ 18446744073709551615 := by omega
  have H1 := Lib.hid (castKindInt_any k)
  have H2 := Lib.hid (castKindUint_any k)
  have hk1 := kindI_range k
  have hk2 := kindU_range k
  generalize kindI k = a at H1 hk1
  generalize kindU k = b at H2 hk2
  have H3 := Lib.hid (fun W => toBoolI a n 0 0 ⟨#[]⟩ W hk1 hn hz2)
  have H4 := Lib.hid (fun W => toBoolU b 0 u 0 ⟨#[]⟩ W hk2 hz hu)
  have H5 := Lib.hid (fun W => toBool_float64 0 0 f ⟨#[]⟩ W hz hz2)
  have H6 := Lib.hid (fun W => castCutInt_any a n W hk1 hn)
  have H7 := Lib.hid (fun W => castCutUint_any b u W hk2 hu)
  unfold anyOf at H3 H4 H5
  unfold nz at H3 H4
  unfold fnz at H5
  generalize cutI a n = ci at H3 H6
  generalize cutU b u = cu at H4 H7
  clear hk1 hk2 hn hu hz hz2
  go_enter Tryd.func5, Tryd.ntmps5
  go_wp2_with (first
    | (go_at_call 11; refine (H1.out _).mono ?_; rintro e w' ⟨rfl, rfl⟩)
    | (go_at_call 12; refine (H2.out _).mono ?_; rintro e w' ⟨rfl, rfl⟩))
  refine (H3.out _).mono ?_
  rintro e w1 ⟨rfl, hb1⟩
  go_wp2_with fail
  refine (H4.out _).mono ?_
  rintro e w2 ⟨rfl, hb2⟩
  go_wp2_with fail
  refine (H5.out _).mono ?_
  rintro e w3 ⟨rfl, hb3⟩
  go_wp2_with (first
    | (go_at_call 14; refine (H6.out _).mono ?_; rintro e w' ⟨rfl, rfl⟩)
    | (go_at_call 15; refine (H7.out _).mono ?_; rintro e w' ⟨rfl, rfl⟩))
  go_ret
  exact ⟨rfl, below_step (below_step hb1 hb2) hb3⟩
end Go.Proofs.YtnlmmkmbgjgdbaaDoor.E
