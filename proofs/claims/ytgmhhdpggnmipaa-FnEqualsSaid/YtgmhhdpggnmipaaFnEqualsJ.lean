/- laws.FnEquals, whatever comes in. -/
import Derived.Test.YtgmhhdpggnmipaaLwF
namespace Go.Proofs.Ytgmhhdpggnmipaa.E
open Go.RowKit Go.Proofs
set_option linter.unusedVariables false
set_option linter.unusedSimpArgs false
theorem fnEquals_any {w : World} {A : Option Addr} {F : List FlagP} (hA : FlagsAt w A F) (hlow : LowBad w A F w.heap.size) {cap : Nat} (hc : F.length ≤ cap) (hcm : cap ≤ 9223372036854775807) (pl un : Bool) (k j : Int) (y : ByteArray) {vb : Value} {ys : List ByteArray} (hvb : TextIn w vb ys) :
    Calls Try.prog 6 #[.agg #[.slice A F.length cap, .bool pl, .bool un, .int .i64 k], .int .i64 j, .string y, vb] w (YesEnd w) := by
  rw [← texts_back ys] at hvb
  generalize (ys.map fun s => s.data.toList : List Txt) = M at hvb
  rw [← of_list y]
  generalize (y.data.toList : Txt) = v
  cases h1 : fits20 (F.map ofFlag) with
  | false => exact eq_1 hA hc hcm pl un k j v hvb h1
  | true =>
  by_cases hzv : (mkT v).size ≤ 2147483647
  case neg => exact eq_2 hA hc hcm pl un k j v hvb h1 hzv
  cases h2 : fits2 (M.map mkT) with
  | false => exact eq_3 hA hc hcm pl un k j v hvb h1 hzv h2
  | true =>
  cases h3 : RightK F k with
  | false => exact eq_4 hA hc hcm pl un k j v hvb h1 hzv h2 h3
  | true =>
  cases h4 : decide (0 ≤ j ∧ j < (F.length : Int)) with
  | false => exact eq_5 hA hc hcm pl un k j v hvb h1 hzv h2 h3 h4
  | true =>
  cases h8 : decide (wtBB [M.map mkT, [mkT v]] ≤ 1048576) with
  | false => exact eq_6 hA hc hcm pl un k j v hvb h1 hzv h2 h3 h4 h8
  | true =>
  obtain ⟨h5, h6⟩ := of_decide_eq_true h4
  obtain ⟨i, rfl⟩ := Int.eq_ofNat_of_zero_le h5
  have hi : i < F.length := by omega
  obtain ⟨n, rfl, hn, hS⟩ := setOK_of hA hlow pl un h1 h3
  by_cases h7 : v ∈ F[i].bad
  · exact eq_7 hS hc hcm v hvb h1 hzv h2 h3 i hi h8 h7
  · exact eq_8 hS hc hcm v hvb h1 hzv h2 h3 i hi h8 h7
end Go.Proofs.Ytgmhhdpggnmipaa.E
