/- Lists of texts side by side in a block. -/
import Derived.Test.YtgmhhdpggnmipaaOw
namespace Go.Proofs.Ytgmhhdpggnmipaa.E
open Go.RowKit Go.Proofs
set_option linter.unusedVariables false
set_option linter.unusedSimpArgs false
theorem eNo_zero {e : Er} : eNo e = 0 ↔ e = .no := by cases e <;> simp [eNo]
/-- The value of a set. -/
def setV (A : Option Addr) (S : SetP) (cap : Nat) : Value := .agg #[.slice A S.flags.length cap, .bool S.plain, .bool S.unknown, .int .i64 S.fold]
theorem map_mkT_inj {a b : List Txt} (h : a.map mkT = b.map mkT) : a = b := by
  have := congrArg (List.map fun s : ByteArray => s.data.toList) h
  rw [List.map_map, List.map_map] at this
  have e : (fun s : ByteArray => s.data.toList) ∘ mkT = id := by funext t; exact mkT_list t
  rw [e] at this
  simpa using this
theorem map_snoc (L : List Txt) : L.map mkT ++ [mkT [122]] = (L ++ [[122]]).map mkT := by simp
theorem one_text {w : World} {g : Nat} {s : ByteArray} {T : TypeId} (h : w.heap[g]? = some (.cells #[.string s] T (0, 0))) : TextIn w (.slice (some ⟨g, 0, none⟩) 1 1) [s] := by
  refine ⟨_, 1, rfl, ?_, Nat.le_refl _, by decide, (fun h => by cases h), (fun a e => by cases e; exact lt_of_block h)⟩
  intro i hi
  have hi : i < 1 := hi
  obtain rfl : i = 0 := by omega
  exact ⟨g, 0, rfl, (cell_blk h 0).trans rfl⟩
theorem rows1 {w : World} {g : Nat} {v : Value} {xs : List ByteArray} {T : TypeId} (h : w.heap[g]? = some (.cells #[v] T (0, 0))) (h0 : TextIn w v xs) : RowsIn w g [v] [xs] :=
  ⟨⟨T, h⟩, rfl, fun i h1 h2 => by
    have : i < 1 := h1
    obtain rfl : i = 0 := by omega
    exact h0⟩
theorem rows2 {w : World} {g : Nat} {v u : Value} {xs ys : List ByteArray} {T : TypeId} (h : w.heap[g]? = some (.cells #[v, u] T (0, 0))) (h0 : TextIn w v xs) (h1 : TextIn w u ys) : RowsIn w g [v, u] [xs, ys] :=
  ⟨⟨T, h⟩, rfl, fun i q1 q2 => by
    have : i < 2 := q1
    match i, this with
    | 0, _ => exact h0
    | 1, _ => exact h1⟩
theorem rows3 {w : World} {g : Nat} {v u t : Value} {xs ys zs : List ByteArray} {T : TypeId} (h : w.heap[g]? = some (.cells #[v, u, t] T (0, 0))) (h0 : TextIn w v xs) (h1 : TextIn w u ys) (h2 : TextIn w t zs) : RowsIn w g [v, u, t] [xs, ys, zs] :=
  ⟨⟨T, h⟩, rfl, fun i q1 q2 => by
    have : i < 3 := q1
    match i, this with
    | 0, _ => exact h0
    | 1, _ => exact h1
    | 2, _ => exact h2⟩
theorem not_in {w : World} : ¬ InW (.pointer (some ⟨w.heap.size, 0, none⟩)) w := by
  rintro ⟨g, e, h⟩
  simp only [Value.pointer.injEq, Option.some.injEq, Addr.mk.injEq] at e
  omega
theorem in_of {w : World} {g : Nat} {o : Obj} (h : w.heap[g]? = some o) : InW (.pointer (some ⟨g, 0, none⟩)) w := ⟨g, rfl, lt_of_block h⟩
theorem RowsIn.below {w w' : World} {g : Nat} {vs : List Value} {ls : List (List ByteArray)} (h : RowsIn w g vs ls) (hb : Below w.heap.size w w') : RowsIn w' g vs ls := by
  obtain ⟨⟨T, h1⟩, h2, h3⟩ := h
  exact ⟨⟨T, block_kept h1 hb⟩, h2, fun i a b => (h3 i a b).below hb⟩
end Go.Proofs.Ytgmhhdpggnmipaa.E
