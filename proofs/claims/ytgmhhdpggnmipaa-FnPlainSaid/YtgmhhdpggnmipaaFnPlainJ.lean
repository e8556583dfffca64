/- laws.FnPlain, whatever comes in. -/
import Derived.Test.YtgmhhdpggnmipaaLw6
import Derived.Test.YtgmhhdpggnmipaaFnTailJ
namespace Go.Proofs.Ytgmhhdpggnmipaa.E
open Go.RowKit Go.Proofs
set_option linter.unusedVariables false
set_option linter.unusedSimpArgs false
theorem fnPlain_any {w : World} {A : Option Addr} {F : List FlagP} (hA : FlagsAt w A F) (hlow : LowBad w A F w.heap.size) {cap : Nat} (hc : F.length ≤ cap) (hcm : cap ≤ 9223372036854775807) (pl un : Bool) (k : Int) {va vb : Value} {xs ys : List ByteArray} (hva : TextIn w va xs) (z : ByteArray) (hvb : TextIn w vb ys) :
    Calls Try.prog 8 #[.agg #[.slice A F.length cap, .bool pl, .bool un, .int .i64 k], va, .string z, vb] w (YesEnd w) := by
  rw [← texts_back xs] at hva
  rw [← texts_back ys] at hvb
  rw [← of_list z]
  generalize (xs.map fun s => s.data.toList : List Txt) = L at hva
  generalize (ys.map fun s => s.data.toList : List Txt) = M at hvb
  generalize (z.data.toList : Txt) = s
  by_cases hall : fits20 (F.map ofFlag) = true ∧ fits2 (L.map mkT) = true ∧ fits2 (M.map mkT) = true ∧ rightL (foldGT (bits BinOp.and IntKind.i64 k 1 == 1) (bits BinOp.and IntKind.i64 k 2 == 2)) [] [] F = true ∧ (0 ≤ k ∧ k ≤ 3) ∧ (mkT s).size ≤ 2147483647 ∧ pl = true ∧ wtBB [L.map mkT, M.map mkT, [mkT s]] ≤ 1048576 ∧ bareB s = true
  · obtain ⟨h1, h2, h3, h4, ⟨h5, h6⟩, hz, rfl, h7, hbs⟩ := hall
    obtain ⟨n, rfl⟩ := Int.eq_ofNat_of_zero_le h5
    have hn : n ≤ 3 := by omega
    have hfl := fits20_F h1
    have hfold : foldGT (bits BinOp.and IntKind.i64 (n : Int) 1 == 1) (bits BinOp.and IntKind.i64 (n : Int) 2 == 2) = foldT n := by
      rw [(foldBits n hn).1, (foldBits n hn).2]
      funext t
      exact foldGT_eq n t
    have hr := h4
    rw [hfold] at hr
    exact plain_comp (S := ⟨F, true, un, n⟩) ⟨hA, hlow, right_of (S := ⟨F, true, un, n⟩) hn hr, hfl.1, fun i h => (hfl.2 _ (List.getElem_mem h)).1⟩ cap hc rfl hz hbs hva hvb h1 h2 h3 h4 h7
  · exact plain_small hA (by omega) cap hc pl un k hva hvb hall
end Go.Proofs.Ytgmhhdpggnmipaa.E
