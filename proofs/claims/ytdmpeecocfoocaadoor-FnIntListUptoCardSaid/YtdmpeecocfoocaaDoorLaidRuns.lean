/- A row's listed variables, laid one by one, their places being whole blocks. -/
import Derived.Test.YtdmpeecocfoocaaDoorProg
import Derived.LaidLaws
import Derived.WalkKit
namespace Go.Proofs.YtdmpeecocfoocaaDoor.E
open Go.RowKit
set_option linter.unusedVariables false

/-- The places of whole blocks: a block's number, and how many cells it has. -/
def runsOf (l : List (Nat × Nat)) : List MemPlace := l.flatMap fun x => MemPlace.row ⟨x.1, 0, none⟩ x.2
theorem runsOf_cons (x : Nat × Nat) (l : List (Nat × Nat)) : runsOf (x :: l) = MemPlace.row ⟨x.1, 0, none⟩ x.2 ++ runsOf l := by simp [runsOf]
theorem runsOf_app (a b : List (Nat × Nat)) : runsOf (a ++ b) = runsOf a ++ runsOf b := by simp [runsOf]
theorem mem_rowOf {b n : Nat} {p : MemPlace} : p ∈ MemPlace.row ⟨b, 0, none⟩ n ↔ ∃ i, i < n ∧ p = .cell b i := by
  simp only [MemPlace.row, List.mem_map, List.mem_range, Nat.zero_add]
  constructor
  · rintro ⟨i, h, rfl⟩; exact ⟨i, h, rfl⟩
  · rintro ⟨i, h, rfl⟩; exact ⟨i, h, rfl⟩
theorem mem_runsOf {l : List (Nat × Nat)} {p : MemPlace} : p ∈ runsOf l ↔ ∃ x ∈ l, ∃ i, i < x.2 ∧ p = .cell x.1 i := by
  simp only [runsOf, List.mem_flatMap, mem_rowOf]
theorem nodup_rowOf (b : Nat) : ∀ n, (MemPlace.row ⟨b, 0, none⟩ n).Nodup := by
  intro n
  unfold MemPlace.row List.Nodup
  rw [List.pairwise_map]
  refine List.Pairwise.imp ?_ (List.nodup_range (n := n))
  intro i j h e
  simp only [MemPlace.cell.injEq] at e
  omega
theorem nodup_runsOf : ∀ l : List (Nat × Nat), (l.map (·.1)).Nodup → (runsOf l).Nodup
  | [], _ => by simp [runsOf]
  | x :: l, h => by
    rw [List.map_cons, List.nodup_cons] at h
    rw [runsOf_cons, List.nodup_append]
    refine ⟨nodup_rowOf _ _, nodup_runsOf l h.2, ?_⟩
    intro a ha b hb e
    subst e
    obtain ⟨i, _, rfl⟩ := mem_rowOf.1 ha
    obtain ⟨y, hy, j, _, e⟩ := mem_runsOf.1 hb
    simp only [MemPlace.cell.injEq] at e
    exact h.1 (List.mem_map.2 ⟨y, hy, e.1.symm⟩)
/-- A whole block of the witness. -/
def blockOk (P : Program) (w : World) (b : Nat) : Bool :=
  match w.heap[b]? with
  | some (.cells cs _ (0, 0)) => cs.toList.all fun v => match v with | .iface u v => Value.okWideB P w u v | _ => true
  | _ => false
theorem laidMet_runs {P : Program} {w : World} {l : List (String × DataW Unit)} (rs : List (Nat × Nat)) (h : DataW.LaidVars P w l (runsOf rs)) (hn : (rs.map (·.1)).Nodup) (hb : ∀ b ∈ rs.map (·.1), blockOk P w b = true) : laidMet P l w := by
  refine ⟨runsOf rs, h, nodup_runsOf rs hn, fun b off hp => ?_⟩
  obtain ⟨x, hx, i, hi, e⟩ := mem_runsOf.1 hp
  simp only [MemPlace.cell.injEq] at e
  obtain ⟨rfl, rfl⟩ := e
  have hk := hb x.1 (List.mem_map.2 ⟨x, hx, rfl⟩)
  unfold blockOk at hk
  split at hk
  · rename_i cs t hh
    refine ⟨⟨cs, t, hh⟩, fun u v hc => ?_⟩
    have hc' : cs[off]? = some (.iface u v) := by simpa [World.cell?, hh] using hc
    have hm : Value.iface u v ∈ cs.toList := by rw [Array.mem_toList_iff]; exact Array.mem_of_getElem? hc'
    exact Value.okWide_of_okWideB (List.all_eq_true.1 hk _ hm)
  · cases hk
theorem laid_nil {P : Program} {w : World} : DataW.LaidVars P w [] (runsOf []) := rfl
theorem laid_cons {P : Program} {w : World} {n : String} {d : DataW Unit} {r : List (String × DataW Unit)} {rs1 rs2 : List (Nat × Nat)}
    (h1 : ∃ g t cs fuel p, P.globalNamed n = some g ∧ (P.globals[g]?).map (·.type) = some t ∧ w.var? P n = some cs ∧ DataW.trod (fun _ => ()) P w 0 (fun _ => true) false fuel t cs.toList = some (d, p) ∧ MemPlace.row ⟨g, 0, none⟩ cs.size ++ p = runsOf rs1)
    (h2 : DataW.LaidVars P w r (runsOf rs2)) : DataW.LaidVars P w ((n, d) :: r) (runsOf (rs1 ++ rs2)) := by
  obtain ⟨g, t, cs, fuel, p, a1, a2, a3, a4, a5⟩ := h1
  exact ⟨g, t, cs, fuel, p, runsOf rs2, a1, a2, a3, a4, h2, by rw [runsOf_app, a5]⟩
end Go.Proofs.YtdmpeecocfoocaaDoor.E
