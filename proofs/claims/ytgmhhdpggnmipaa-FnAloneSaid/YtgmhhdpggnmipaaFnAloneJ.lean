/- laws.FnAlone, whatever comes in. -/
import Derived.Test.YtgmhhdpggnmipaaLw8
namespace Go.Proofs.Ytgmhhdpggnmipaa.E
open Go.RowKit Go.Proofs
set_option linter.unusedVariables false
set_option linter.unusedSimpArgs false
theorem fnAlone_any {w : World} {A : Option Addr} {F : List FlagP} (hA : FlagsAt w A F) (hlow : LowBad w A F w.heap.size) {cap : Nat} (hc : F.length ≤ cap) (hcm : cap ≤ 9223372036854775807) (pl un : Bool) (k j : Int) {vb : Value} {ys : List ByteArray} (hvb : TextIn w vb ys) :
    Calls Try.prog 4 #[.agg #[.slice A F.length cap, .bool pl, .bool un, .int .i64 k], .int .i64 j, vb] w (YesEnd w) := by
  rw [← texts_back ys] at hvb
  generalize (ys.map fun s => s.data.toList : List Txt) = M at hvb
  cases h1 : fits20 (F.map ofFlag) with
  | false => exact alone_1 hA hc hcm pl un k j hvb h1
  | true =>
  cases h2 : fits2 (M.map mkT) with
  | false => exact alone_2 hA hc hcm pl un k j hvb h1 h2
  | true =>
  cases h3 : RightK F k with
  | false => exact alone_3 hA hc hcm pl un k j hvb h1 h2 h3
  | true =>
  cases h4 : decide (0 ≤ j ∧ j < (F.length : Int)) with
  | false => exact alone_4 hA hc hcm pl un k hvb h1 h2 h3 j h4
  | true =>
  obtain ⟨h5, h6⟩ := of_decide_eq_true h4
  obtain ⟨i, rfl⟩ := Int.eq_ofNat_of_zero_le h5
  have hi : i < F.length := by omega
  by_cases h7 : F[i].noOpt = []
  · exact alone_5 hA hc hcm pl un k hvb h1 h2 h3 i hi h7
  cases h8 : decide (wtBB [M.map mkT] ≤ 1048576) with
  | false => exact alone_6 hA hc hcm pl un k hvb h1 h2 h3 i hi h7 h8
  | true =>
  obtain ⟨n, rfl, hn, hS⟩ := setOK_of hA hlow pl un h1 h3
  exact alone_main hS hc hcm hvb h1 h2 h3 i hi h7 (of_decide_eq_true h8)
end Go.Proofs.Ytgmhhdpggnmipaa.E
