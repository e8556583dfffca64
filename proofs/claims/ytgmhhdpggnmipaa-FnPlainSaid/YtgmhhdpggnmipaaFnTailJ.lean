/- laws.FnTail, whatever comes in. -/
import Derived.Test.YtgmhhdpggnmipaaLw5
import Derived.Test.YtgmhhdpggnmipaaOpen
namespace Go.Proofs.Ytgmhhdpggnmipaa.E
open Go.RowKit Go.Proofs
set_option linter.unusedVariables false
set_option linter.unusedSimpArgs false
theorem textIn_of {P : Program} {W : World} {base : Nat} {t e : TypeId} {v : Value} {xs : List ByteArray} (ht : P.underlying t = some (.slice e)) (hok : Value.okWide P W .any base t v) (h : Texts W v xs) : TextIn W v xs := by
  obtain ⟨A, c, rfl, h1, h2, h3, h4⟩ := h
  exact ⟨A, c, rfl, h1, h2, h3, h4, fun a e => by subst e; exact okWide_block ht hok⟩
theorem texts_back (xs : List ByteArray) : ((xs.map fun s => s.data.toList) : List Txt).map mkT = xs := by
  rw [List.map_map]
  have e : (mkT ∘ fun s : ByteArray => s.data.toList) = id := by funext s; exact of_list s
  rw [e]; simp
theorem fnTail_any {w : World} {A : Option Addr} {F : List FlagP} (hA : FlagsAt w A F) (hlow : LowBad w A F w.heap.size) {cap : Nat} (hc : F.length ≤ cap) (hcm : cap ≤ 9223372036854775807) (pl un : Bool) (k : Int) {va vb : Value} {xs ys : List ByteArray} (hva : TextIn w va xs) (hvb : TextIn w vb ys) :
    Calls Try.prog 9 #[.agg #[.slice A F.length cap, .bool pl, .bool un, .int .i64 k], va, vb] w (YesEnd w) := by
  rw [← texts_back xs] at hva
  rw [← texts_back ys] at hvb
  generalize (xs.map fun s => s.data.toList : List Txt) = L at hva
  generalize (ys.map fun s => s.data.toList : List Txt) = M at hvb
  by_cases hall : fits20 (F.map ofFlag) = true ∧ fits2 (L.map mkT) = true ∧ fits2 (M.map mkT) = true ∧ rightL (foldGT (bits BinOp.and IntKind.i64 k 1 == 1) (bits BinOp.and IntKind.i64 k 2 == 2)) [] [] F = true ∧ (0 ≤ k ∧ k ≤ 3) ∧ wtBB [L.map mkT, M.map mkT] ≤ 1048576
  · obtain ⟨h1, h2, h3, h4, ⟨h5, h6⟩, h7⟩ := hall
    obtain ⟨n, rfl⟩ := Int.eq_ofNat_of_zero_le h5
    have hn : n ≤ 3 := by omega
    have hfl := fits20_F h1
    have hfold : foldGT (bits BinOp.and IntKind.i64 (n : Int) 1 == 1) (bits BinOp.and IntKind.i64 (n : Int) 2 == 2) = foldT n := by
      rw [(foldBits n hn).1, (foldBits n hn).2]
      funext t
      exact foldGT_eq n t
    have hr := h4
    rw [hfold] at hr
    exact tail_comp (S := ⟨F, pl, un, n⟩) ⟨hA, hlow, right_of (S := ⟨F, pl, un, n⟩) hn hr, hfl.1, fun i h => (hfl.2 _ (List.getElem_mem h)).1⟩ cap hc hva hvb h1 h2 h3 h4 h7
  · exact tail_small hA (by omega) cap hc pl un k hva hvb hall
end Go.Proofs.Ytgmhhdpggnmipaa.E
