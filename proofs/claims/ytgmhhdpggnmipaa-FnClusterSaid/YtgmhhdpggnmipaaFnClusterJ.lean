/- laws.FnCluster, whatever comes in. -/
import Derived.Test.YtgmhhdpggnmipaaLwC
import Derived.Test.YtgmhhdpggnmipaaRow
namespace Go.Proofs.Ytgmhhdpggnmipaa.E
open Go.ChangeShapes Go.WideShapes Go.ChangeAt Go.RowKit
open Go.ChangeMaps (open_string)
set_option linter.unusedVariables false
set_option linter.unusedSimpArgs false
theorem open_i64s {H : Type} {enc : TypeId × Value → H} {P : Program} {W : World} {base : Nat} {t e : TypeId} {v : Value} {d : DataW H} {p : List MemPlace}
    (ht : P.underlying t = some (.slice e)) (he : P.underlying e = some (.int .i64)) (hc : P.cellsOf e = 1) (hok : Value.okWide P W .any base t v)
    (h : DataW.Trod enc P W 0 (fun _ => true) true t v d p) : ∃ A Z c, v = .slice A (List.length Z) c ∧ IntsAt W A Z := by
  obtain ⟨a0, len, cap, rfl⟩ := okWide_slice ht hok
  obtain ⟨fuel, hf⟩ := h
  rcases open_ints ht he hc hf with ⟨hcs, hx⟩ | ⟨a, len', cap', zs, hcs, _, hl, hm, hz, hx, hcell, hwz⟩
  · simp [Value.cells] at hcs
    obtain ⟨rfl, rfl, rfl⟩ := hcs
    exact ⟨none, [], 0, rfl, fun i h => absurd h (Nat.not_lt_zero _)⟩
  · simp [Value.cells] at hcs
    obtain ⟨rfl, rfl, rfl⟩ := hcs
    simp only [if_true] at hz
    have hn : (zs.take len).length = len := by rw [List.length_take]; omega
    refine ⟨some a, zs.take len, cap, by rw [hn], fun i hi => ?_⟩
    rw [hn] at hi
    obtain ⟨b, o, spot⟩ := a
    have hc := hcell i (by omega)
    obtain rfl : spot = none := by simpa [Addr.add] using World.cell?_spot (hcell 0 (by omega))
    refine ⟨b, o, rfl, ?_⟩
    rw [Addr.add_mid] at hc
    rw [hc]
    simp only [List.getElem_take, List.getD_eq_getElem?_getD]
    rw [List.getElem?_eq_getElem (by omega)]
    rfl
theorem fnCluster_any {w : World} {A : Option Addr} {F : List FlagP} (hA : FlagsAt w A F) (hlow : LowBad w A F w.heap.size) {cap : Nat} (hc : F.length ≤ cap) (hcm : cap ≤ 9223372036854775807) (pl un : Bool) (k : Int) {zA : Option Addr} {Z : List Int} {zc : Nat} (hzi : IntsAt w zA Z) {vb : Value} {ys : List ByteArray} (hvb : TextIn w vb ys) :
    Calls Try.prog 5 #[.agg #[.slice A F.length cap, .bool pl, .bool un, .int .i64 k], .slice zA Z.length zc, vb] w (YesEnd w) := by
  rw [← texts_back ys] at hvb
  generalize (ys.map fun s => s.data.toList : List Txt) = M at hvb
  cases h1 : fits20 (F.map ofFlag) with
  | false => exact cl_1 hA hc hcm pl un k hvb h1
  | true =>
  by_cases hz : Z.length ≤ 2147483647
  case neg => exact cl_2 hA hc hcm pl un k hvb h1 hz
  cases h2 : fits2 (M.map mkT) with
  | false => exact cl_3 hA hc hcm pl un k hvb h1 hz h2
  | true =>
  cases h3 : RightK F k with
  | false => exact cl_4 hA hc hcm pl un k hvb h1 hz h2 h3
  | true =>
  by_cases h4 : Z = []
  · exact cl_5 hA hc hcm pl un k hvb h1 hz h2 h3 (by rw [h4]; rfl)
  by_cases h5 : 1024 < Z.length
  · exact cl_6 hA hc hcm pl un k hvb h1 hz h2 h3 h4 h5
  cases h8 : decide (wtBB [M.map mkT] ≤ 1048576) with
  | false => exact cl_7 hA hc hcm pl un k hvb h1 hz h2 h3 h4 h5 h8
  | true =>
  obtain ⟨n, rfl, hn, hS⟩ := setOK_of hA hlow pl un h1 h3
  exact cl_8 hS hc hcm hzi hvb h1 hz h2 h3 h4 h5 h8
end Go.Proofs.Ytgmhhdpggnmipaa.E
