/- A region that draws its order and whose operations only read, though its callees may make memory: walked once, in the order of the text. -/
import Derived.Test.YtgmhhdpggnmipaaKit
import Derived.Deep.Quiet
import Derived.Deep.QuietTactic
namespace Go.Proofs.Ytgmhhdpggnmipaa.E
open Go.RowKit Go.Proofs
/-- A world in which what was there is as it was. -/
structure BelowBy (w : World) where
  W : World
  h : Below w.heap.size w W
instance (w : World) : Inhabited (BelowBy w) := ⟨⟨w, Below.refl _ _⟩⟩
/-- The walk of such a region, behind a structure (so that nothing looks through it). -/
structure WQ (P : Program) (ops : Array Oper) (w : World) (Q : Act → Prop) (l : List Oper) (a : Act) : Prop where
  out : wpQuiet P ops (fun w' => ∃ p : BelowBy w, w' = p.W) Q l a
theorem WQ.nil {P : Program} {ops : Array Oper} {w : World} {Q : Act → Prop} {a : Act} (h : Q a) : WQ P ops w Q [] a := ⟨wpQuiet_nil h⟩
theorem WQ.step {P : Program} {ops : Array Oper} {w : World} {Q : Act → Prop} {o : Oper} {rest : List Oper} {a : Act}
    (h : ∀ K : Act → Prop, (∀ a, WQ P ops w Q rest a → K a) → if Region.wanted o (yielded ops a.tmps) then o.quiet P a (fun w' => ∃ p : BelowBy w, w' = p.W) K else K (a.put o.dst undef)) : WQ P ops w Q (o :: rest) a :=
  ⟨wpQuiet_step fun K hK => h K fun a h => hK a h.out⟩
theorem wp_region_bq {P : Program} {id : Nat} {Q : Exit → Act → World → Prop} {a : Act} {w : World} {l : List Oper} (hm : P.follows .mixedOrders = true) (hB : Region.lexB .any l.toArray = true)
    (h : WQ P l.toArray w (fun a' => ∀ W, Below w.heap.size w W → Q .normal a' W) l a) : (Code.region id l.toArray true).wp P Q a w :=
  wp_region_quiet (C := fun w' => ∃ p : BelowBy w, w' = p.W) hm hB ⟨⟨_, (Below.refl _ _).drew⟩, rfl⟩ (by
    have e : (fun a' => ∀ w', (∃ p : BelowBy w, w' = p.W) → Q .normal a' w') = fun a' => ∀ W, Below w.heap.size w W → Q .normal a' W := by
      funext a'
      apply propext
      exact ⟨fun h W hW => h W ⟨⟨W, hW⟩, rfl⟩, fun h w' ⟨p, e⟩ => by subst e; exact h _ p.h⟩
    rw [e]
    simpa using h.out)
/-- A callee's contract, met in a world of the class. -/
theorem bq_call {P : Program} {f : FuncId} {args : Array Value} {w : World} {p : BelowBy w} {v : Value} {R : Ending → World → Prop} (h : Calls P f args p.W R) (hr : ∀ e w', R e w' → e = .returned v ∧ Below p.W.heap.size p.W w') : Calls P f args p.W fun e w'' => e = .returned v ∧ ∃ p : BelowBy w, w'' = p.W :=
  h.mono fun e w' k => ⟨(hr e w' k).1, ⟨w', p.h.trans ((hr e w' k).2.mono p.h.size)⟩, rfl⟩
theorem bq_below {P : Program} {f : FuncId} {args : Array Value} {w : World} {p : BelowBy w} {v : Value} (h : Calls P f args p.W fun e w' => e = .returned v ∧ Below p.W.heap.size p.W w') : Calls P f args p.W fun e w'' => e = .returned v ∧ ∃ p : BelowBy w, w'' = p.W := bq_call h fun _ _ k => k
theorem bq_cell {w : World} {a : Addr} {v : Value} (h : w.cell? a = some v) : ∀ p : BelowBy w, p.W.cell? a = some v := fun p => cell_kept p.h h
end Go.Proofs.Ytgmhhdpggnmipaa.E
