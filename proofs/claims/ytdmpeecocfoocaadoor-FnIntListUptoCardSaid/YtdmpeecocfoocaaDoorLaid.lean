/- What a row's list of variables gives: the errors' cells, the tables. -/
import Derived.Test.YtdmpeecocfoocaaDoorRows
import Derived.Test.YtdmpeecocfoocaaDoorKit
import Derived.ProofKit
import Derived.LaidSub
import Derived.LaidLaws
import Derived.Lib.LaidTab
import Derived.Lib.LaidU8
namespace Go.Proofs.YtdmpeecocfoocaaDoor.E
open Go.RowKit
set_option linter.unusedVariables false
set_option linter.unusedSimpArgs false

/-- A variable that holds an error, or none. -/
def ErrCell (g : Nat) (w : World) : Prop := ∃ ev, w.cell? ⟨g, 0, none⟩ = some ev ∧ (ev = .nilIface ∨ ∃ te pe, ev = .iface te pe)
theorem ErrCell.below {g : Nat} {w w' : World} (h : ErrCell g w) (hb : Below w.heap.size w w') : ErrCell g w' := by
  obtain ⟨ev, hc, he⟩ := h
  exact ⟨ev, cell_kept hb hc, he⟩

/-- A variable that holds an error. -/
def SureErr (g : Nat) (w : World) : Prop := ∃ te pe, w.cell? ⟨g, 0, none⟩ = some (.iface te pe)
theorem SureErr.below {g : Nat} {w w' : World} (h : SureErr g w) (hb : Below w.heap.size w w') : SureErr g w' := by
  obtain ⟨te, pe, hc⟩ := h
  exact ⟨te, pe, cell_kept hb hc⟩

theorem laid_only {P : Program} {l : List (String × DataW Unit)} {W : World} (h : laidMetH P l W) (n : String) (d : DataW Unit) (hf : (l.filter fun x => x.1 == n) = [(n, d)]) (hh : d.handleName?.isSome = false) : laidMet P [(n, d)] W := by
  have h2 := laidMetH.filter (fun x => x.1 == n) h
  rw [hf] at h2
  unfold laidMetH at h2
  simp only [List.filter_cons, hh, List.filter_nil] at h2
  exact h2

theorem errCell_of_laid {P : Program} {l : List (String × DataW Unit)} {W : World} {n name : String} {d : DataW Unit} {g : Nat} {t : TypeId} {ms : Array (String × TypeId)} (D : DataW Unit) (hD : D = .iface name d) (h : laidMetH P l W) (hf : (l.filter fun x => x.1 == n) = [(n, D)]) (hh : D.handleName?.isSome = false)
    (hg : P.globalNamed n = some g) (hty : (P.globals[g]?).map (·.type) = some t) (hi : P.underlying t = some (.interface ms)) : ErrCell g W := by
  obtain ⟨ps, ⟨g', t', cs, fuel, p, q, hg', ht', hvar, hd, _, _⟩, _⟩ := laid_only h n _ hf hh
  rw [hD] at hd
  obtain rfl := Option.some.inj (hg.symm.trans hg')
  obtain rfl := Option.some.inj (hty.symm.trans ht')
  obtain ⟨_, u, v, hcs, _, _⟩ := iface_of_trod hi hd
  have h0 := World.var?_cell hg hvar 0
  have e : cs[0]? = some (.iface u v) := by
    rw [← Array.getElem?_toList, hcs]; rfl
  exact ⟨_, h0.trans e, .inr ⟨u, v, rfl⟩⟩

theorem sureErr_of_laid {P : Program} {l : List (String × DataW Unit)} {W : World} {n name : String} {d : DataW Unit} {g : Nat} {t : TypeId} {ms : Array (String × TypeId)} (D : DataW Unit) (hD : D = .iface name d) (h : laidMetH P l W) (hf : (l.filter fun x => x.1 == n) = [(n, D)]) (hh : D.handleName?.isSome = false)
    (hg : P.globalNamed n = some g) (hty : (P.globals[g]?).map (·.type) = some t) (hi : P.underlying t = some (.interface ms)) : SureErr g W := by
  obtain ⟨ps, ⟨g', t', cs, fuel, p, q, hg', ht', hvar, hd, _, _⟩, _⟩ := laid_only h n _ hf hh
  rw [hD] at hd
  obtain rfl := Option.some.inj (hg.symm.trans hg')
  obtain rfl := Option.some.inj (hty.symm.trans ht')
  obtain ⟨_, u, v, hcs, _, _⟩ := iface_of_trod hi hd
  have h0 := World.var?_cell hg hvar 0
  have e : cs[0]? = some (.iface u v) := by
    rw [← Array.getElem?_toList, hcs]; rfl
  exact ⟨u, v, h0.trans e⟩

theorem var_reads {P : Program} {W : World} {n : String} {d : DataW Unit} (h : laidMet P [(n, d)] W) : Lib.VarReads P W n d := by
  obtain ⟨ps, h1, _⟩ := h
  exact Lib.LaidVars_reads h1 n d (by simp)

theorem tab_of_laid {P : Program} {l : List (String × DataW Unit)} {W : World} {n : String} {k : IntKind} {zs : List Int} {g : Nat} {t e : TypeId} {m : Nat} (h : laidMetH P l W) (hf : (l.filter fun x => x.1 == n) = [(n, Lib.tabData k zs)])
    (hg : P.globalNamed n = some g) (hty : (P.globals[g]?).map (·.type) = some t) (ht : P.underlying t = some (.array m e)) (he : P.underlying e = some (.int k)) (hce : P.cellsOf e = 1) (hct : P.cellsOf t = m) : Lib.TabIs P W n k zs :=
  Lib.tabIs_of_head hg hty ht he hce hct (laid_only h n _ hf rfl)
end Go.Proofs.YtdmpeecocfoocaaDoor.E
