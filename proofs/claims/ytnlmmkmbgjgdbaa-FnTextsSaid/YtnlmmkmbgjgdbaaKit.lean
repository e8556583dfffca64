/- Small lemmas on memory that the walks of this seat share. -/
import Derived.Test.YtnlmmkmbgjgdbaaProg
import Derived.WalkKit
import Derived.Below
import Derived.LoopTactic
import Derived.KernelRfl
import Derived.Lib.Hide
import Derived.OwnWalk
import Derived.OneCell
import Derived.Outline
import Derived.Deep.AppendLies
import Derived.Deep.RegionHeld3
import Derived.Deep.QuietTactic
import Derived.BigQuiet
import Derived.WalkSmall
namespace Go.Proofs.Ytnlmmkmbgjgdbaa
open Go.RowKit

/-- What was there reads as it did. -/
theorem cell_kept {w w1 : World} {a : Addr} {v : Value} (hb : Below w.heap.size w w1) (h : w.cell? a = some v) : w1.cell? a = some v := by
  rw [hb.cell (by have := World.block_lt_of_cell? w _ h; simpa using this)]; exact h

theorem below_step {w w1 w2 : World} (h : Below w.heap.size w w1) (k : Below w1.heap.size w1 w2) : Below w.heap.size w w2 := h.trans (k.mono h.size)

/-- The text at a place of a list. -/
def tx (xs : List ByteArray) (k : Nat) : ByteArray := xs.getD k ByteArray.empty

theorem tx_lt {xs : List ByteArray} {k : Nat} (h : k < xs.length) : tx xs k = xs[k] := by simp [tx, h]

theorem all_tx {xs : List ByteArray} {p : ByteArray → Bool} : xs.all p = true ↔ ∀ j, j < xs.length → p (tx xs j) = true := by
  rw [List.all_eq_true]
  constructor
  · intro h j hj; rw [tx_lt hj]; exact h _ (List.getElem_mem hj)
  · intro h x hx; obtain ⟨j, hj, rfl⟩ := List.getElem_of_mem hx; rw [← tx_lt hj]; exact h j hj

/-- The texts of a list, as they lie in memory. -/
def StrsAt (w : World) (A : Option Addr) (xs : List ByteArray) : Prop :=
  ∀ i, i < xs.length → ∃ ad, A = some ad ∧ w.cell? (ad.add i) = some (.string (tx xs i))

theorem strsAt_below {w w' : World} {A : Option Addr} {xs : List ByteArray} (h : StrsAt w A xs) (hb : Below w.heap.size w w') : StrsAt w' A xs := by
  intro i hi
  obtain ⟨ad, rfl, hc⟩ := h i hi
  exact ⟨ad, rfl, cell_kept hb hc⟩

/-- The cells of a row, as they lie in memory. -/
def RowAt (w : World) (A : Option Addr) (cs : List Value) : Prop := ∀ i u, cs[i]? = some u → ∃ g, A = some ⟨g, 0, none⟩ ∧ w.cell? ⟨g, i, none⟩ = some u

theorem rowAt_below {w w' : World} {A : Option Addr} {cs : List Value} (h : RowAt w A cs) (hb : Below w.heap.size w w') : RowAt w' A cs := by
  intro i u hu
  obtain ⟨g, rfl, hc⟩ := h i u hu
  exact ⟨g, rfl, cell_kept hb hc⟩

theorem own_row {w : World} {base : Nat} {e : TypeId} {size : Nat} {v : Value} {n : Nat} {xs : List Value} (h : w.ownsRow base e size v n xs) : ∃ A c, v = .slice A n c ∧ RowAt w A xs := by
  rcases h.2 with ⟨rfl, rfl⟩ | ⟨g, cap, cur, rfl, hb, hg, hn, hm, hs, ht⟩
  · refine ⟨none, 0, rfl, ?_⟩
    intro i u hu
    have := h.1
    simp at this
    subst this
    simp at hu
  · refine ⟨_, cap, rfl, ?_⟩
    intro i u hu
    refine ⟨g, rfl, ?_⟩
    rw [cell_of_row w g i cur e (0, 0) hg]
    rw [← ht, List.getElem?_take] at hu
    split at hu
    · simpa using hu
    · cases hu

theorem own_ne {w : World} {base : Nat} {e : TypeId} {size : Nat} {v : Value} {n : Nat} {xs : List Value} (h : w.ownsRow base e size v n xs) {b : Nat} (hb : b < base) : v.ownBlock ≠ some b := by
  intro he
  have := (h.lt b he).1
  omega

/-- Three cells side by side, of one row. -/
theorem row3 {w : World} {A : Option Addr} {cs : List Value} (h : RowAt w A cs) {i : Nat} {u v x : Value} (h0 : cs[i]? = some u) (h1 : cs[i + 1]? = some v) (h2 : cs[i + 2]? = some x) :
    ∃ g, A = some ⟨g, 0, none⟩ ∧ w.cell? ⟨g, i, none⟩ = some u ∧ w.cell? ⟨g, i + 1, none⟩ = some v ∧ w.cell? ⟨g, i + 2, none⟩ = some x := by
  obtain ⟨g, rfl, c0⟩ := h _ _ h0
  obtain ⟨g', e, c1⟩ := h _ _ h1
  obtain ⟨g'', e', c2⟩ := h _ _ h2
  obtain rfl : g = g' := by simpa using e
  obtain rfl : g = g'' := by simpa using e'
  exact ⟨g, rfl, c0, c1, c2⟩
end Go.Proofs.Ytnlmmkmbgjgdbaa
