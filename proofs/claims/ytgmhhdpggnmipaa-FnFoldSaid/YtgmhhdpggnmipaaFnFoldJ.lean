/- laws.FnFold, whatever comes in. -/
import Derived.Test.YtgmhhdpggnmipaaLw9
namespace Go.Proofs.Ytgmhhdpggnmipaa.E
open Go.RowKit Go.Proofs
set_option linter.unusedVariables false
set_option linter.unusedSimpArgs false
theorem fnFold_any {w : World} {A : Option Addr} {F : List FlagP} (hA : FlagsAt w A F) (hlow : LowBad w A F w.heap.size) {cap : Nat} (hc : F.length ≤ cap) (hcm : cap ≤ 9223372036854775807) (pl un : Bool) (k j : Int) (z y : ByteArray) {vb : Value} {ys : List ByteArray} (hvb : TextIn w vb ys) :
    Calls Try.prog 7 #[.agg #[.slice A F.length cap, .bool pl, .bool un, .int .i64 k], .int .i64 j, .string z, .string y, vb] w (YesEnd w) := by
  rw [← texts_back ys] at hvb
  generalize (ys.map fun s => s.data.toList : List Txt) = M at hvb
  rw [← of_list z, ← of_list y]
  generalize (z.data.toList : Txt) = t
  generalize (y.data.toList : Txt) = v
  cases h1 : fits20 (F.map ofFlag) with
  | false => exact fold_1 hA hc hcm pl un k j t v hvb h1
  | true =>
  by_cases hzt : (mkT t).size ≤ 2147483647
  case neg => exact fold_2 hA hc hcm pl un k j t v hvb h1 hzt
  by_cases hzv : (mkT v).size ≤ 2147483647
  case neg => exact fold_3 hA hc hcm pl un k j t v hvb h1 hzt hzv
  cases h2 : fits2 (M.map mkT) with
  | false => exact fold_4 hA hc hcm pl un k j t v hvb h1 hzt hzv h2
  | true =>
  cases h3 : RightK F k with
  | false => exact fold_5 hA hc hcm pl un k j t v hvb h1 hzt hzv h2 h3
  | true =>
  cases h4 : decide (0 ≤ j ∧ j < (F.length : Int)) with
  | false => exact fold_6 hA hc hcm pl un k j t v hvb h1 hzt hzv h2 h3 h4
  | true =>
  cases h8 : decide (wtBB [M.map mkT, [mkT t, mkT v]] ≤ 1048576) with
  | false => exact fold_7 hA hc hcm pl un k j t v hvb h1 hzt hzv h2 h3 h4 h8
  | true =>
  obtain ⟨h5, h6⟩ := of_decide_eq_true h4
  obtain ⟨i, rfl⟩ := Int.eq_ofNat_of_zero_le h5
  have hi : i < F.length := by omega
  obtain ⟨n, rfl, hn, hS⟩ := setOK_of hA hlow pl un h1 h3
  by_cases h7 : foldT n t = foldT n F[i].name
  · exact fold_9 hS hc hcm t v hvb h1 hzt hzv h2 h3 i hi h8 h7
  · exact fold_8 hS hc hcm t v hvb h1 hzt hzv h2 h3 i hi h8 h7
end Go.Proofs.Ytgmhhdpggnmipaa.E
