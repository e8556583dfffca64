/- laws.FnUnknown, whatever comes in. -/
import Derived.Test.YtgmhhdpggnmipaaLwU
namespace Go.Proofs.Ytgmhhdpggnmipaa.E
open Go.RowKit Go.Proofs
set_option linter.unusedVariables false
set_option linter.unusedSimpArgs false
theorem fnUnknown_any {w : World} {A : Option Addr} {F : List FlagP} (hA : FlagsAt w A F) (hlow : LowBad w A F w.heap.size) {cap : Nat} (hc : F.length ≤ cap) (hcm : cap ≤ 9223372036854775807) (pl un : Bool) (k : Int) (z y : ByteArray) {va vb : Value} {xs ys : List ByteArray} (hva : TextIn w va xs) (hvb : TextIn w vb ys) :
    Calls Try.prog 10 #[.agg #[.slice A F.length cap, .bool pl, .bool un, .int .i64 k], va, .string z, .string y, vb] w (YesEnd w) := by
  rw [← texts_back xs] at hva
  rw [← texts_back ys] at hvb
  generalize (xs.map fun s => s.data.toList : List Txt) = L at hva
  generalize (ys.map fun s => s.data.toList : List Txt) = M at hvb
  rw [← of_list z, ← of_list y]
  generalize (z.data.toList : Txt) = t
  generalize (y.data.toList : Txt) = v
  cases h1 : fits20 (F.map ofFlag) with
  | false => exact unk_1 hA hc hcm pl un k t v hva hvb h1
  | true =>
  cases h2 : fits2 (L.map mkT) with
  | false => exact unk_2 hA hc hcm pl un k t v hva hvb h1 h2
  | true =>
  by_cases hzt : (mkT t).size ≤ 2147483647
  case neg => exact unk_3 hA hc hcm pl un k t v hva hvb h1 h2 hzt
  by_cases hzv : (mkT v).size ≤ 2147483647
  case neg => exact unk_4 hA hc hcm pl un k t v hva hvb h1 h2 hzt hzv
  cases h2b : fits2 (M.map mkT) with
  | false => exact unk_5 hA hc hcm pl un k t v hva hvb h1 h2 hzt hzv h2b
  | true =>
  cases h3 : RightK F k with
  | false => exact unk_6 hA hc hcm pl un k t v hva hvb h1 h2 hzt hzv h2b h3
  | true =>
  cases h8 : decide (wtBB [L.map mkT, M.map mkT, [mkT t, mkT v]] ≤ 1048576) with
  | false => exact unk_7 hA hc hcm pl un k t v hva hvb h1 h2 hzt hzv h2b h3 h8
  | true =>
  obtain ⟨n, rfl, hn, hS⟩ := setOK_of hA hlow pl un h1 h3
  by_cases hcx : CompX ⟨F, pl, un, n⟩ L
  · exact unk_9 hS hc hcm t v hva hvb h1 h2 hzt hzv h2b h3 h8 hcx
  · exact unk_8 hS hc hcm t v hva hvb h1 h2 hzt hzv h2b h3 h8 hcx
end Go.Proofs.Ytgmhhdpggnmipaa.E
