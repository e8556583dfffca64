/- Small lemmas on memory that the walks of this seat share. -/
import Derived.Test.YtdmpeecocfoocaaDoorProg
import Derived.WalkKit
import Derived.Below
import Derived.LoopTactic
import Derived.KernelRfl
import Derived.Lib.Hide
import Derived.OwnWalk
import Derived.OneCell
import Derived.Outline
import Derived.Deep.AppendLies
import Derived.Deep.RegionHeld3
import Derived.Deep.QuietTactic
import Derived.BigQuiet
import Derived.WalkSmall
import Derived.Laws.Strings
import Derived.Laws.AppendOwnNone
import Derived.Deep.MidRow
namespace Go.Proofs.YtdmpeecocfoocaaDoor.E
open Go.RowKit
set_option linter.unusedVariables false
set_option linter.unusedSimpArgs false

/-- What was there reads as it did. -/
theorem cell_kept {w w1 : World} {a : Addr} {v : Value} (hb : Below w.heap.size w w1) (h : w.cell? a = some v) : w1.cell? a = some v := by
  rw [hb.cell (by have := World.block_lt_of_cell? w _ h; simpa using this)]; exact h

theorem frozen_kept {w w1 : World} {a : Addr} {v : Value} (hb : Below w.heap.size w w1) (h : w.cell? a = some v) (hf : w.frozen? a = false) : w1.frozen? a = false := by
  rw [hb.frozen (by have := World.block_lt_of_cell? w _ h; simpa using this)]; exact hf

theorem below_step {w w1 w2 : World} (h : Below w.heap.size w w1) (k : Below w1.heap.size w1 w2) : Below w.heap.size w w2 := h.trans (k.mono h.size)

theorem bdrew {B : Nat} {a w : World} (h : Below B a w) (n : Nat) : Below B a (w.drewN n) := h.trans ⟨rfl, rfl, rfl, Nat.le_refl _, fun _ _ => rfl⟩

/-- Draws alone. -/
def Drawn (w w' : World) : Prop := ∃ n, w' = w.drewN n
theorem Drawn.refl (w : World) : Drawn w w := ⟨0, rfl⟩
theorem Drawn.to (w : World) (n : Nat) : Drawn w (w.drewN n) := ⟨n, rfl⟩
theorem Drawn.step (w : World) (n m : Nat) : Drawn w ((w.drewN n).drewN m) := ⟨n + m, World.drewN_drewN _ _ _⟩
theorem Drawn.below {B : Nat} {w w' : World} (h : Drawn w w') : Below B w w' := by
  obtain ⟨n, rfl⟩ := h
  exact bdrew (Below.refl _ _) n

/-- Two texts are compared by their bytes. -/
theorem bytes_eq_iff {a b : ByteArray} : a.toList = b.toList ↔ a = b := by
  rw [ByteArray.toList_eq, ByteArray.toList_eq]
  constructor
  · intro h; cases a; cases b; simpa using h
  · intro h; rw [h]

theorem bytes_ne {a b : ByteArray} (h : a ≠ b) : (a.toList == b.toList) = false := by
  have : ¬ a.toList = b.toList := fun e => h (bytes_eq_iff.1 e)
  simpa using this

theorem bytes_same {a b : ByteArray} (h : a = b) : (a.toList == b.toList) = true := by
  subst h; simp

/-- The text at a place of a list. -/
def tx (xs : List ByteArray) (k : Nat) : ByteArray := xs.getD k ByteArray.empty

theorem tx_lt {xs : List ByteArray} {k : Nat} (h : k < xs.length) : tx xs k = xs[k] := by simp [tx, h]

theorem all_tx {xs : List ByteArray} {p : ByteArray → Bool} : xs.all p = true ↔ ∀ j, j < xs.length → p (tx xs j) = true := by
  rw [List.all_eq_true]
  constructor
  · intro h j hj; rw [tx_lt hj]; exact h _ (List.getElem_mem hj)
  · intro h x hx; obtain ⟨j, hj, rfl⟩ := List.getElem_of_mem hx; rw [← tx_lt hj]; exact h j hj

/-- The texts of a list, as they lie in memory. -/
def StrsAt (w : World) (A : Option Addr) (xs : List ByteArray) : Prop :=
  ∀ i, i < xs.length → ∃ b o, A = some ⟨b, o, none⟩ ∧ w.cell? ⟨b, o + i, none⟩ = some (.string (tx xs i))

theorem strsAt_below {w w' : World} {A : Option Addr} {xs : List ByteArray} (h : StrsAt w A xs) (hb : Below w.heap.size w w') : StrsAt w' A xs := by
  intro i hi
  obtain ⟨b, o, rfl, hc⟩ := h i hi
  exact ⟨b, o, rfl, cell_kept hb hc⟩

/-- A list of texts as a value. -/
def Texts (w : World) (v : Value) (xs : List ByteArray) : Prop :=
  ∃ A cap, v = .slice A xs.length cap ∧ StrsAt w A xs ∧ xs.length ≤ cap ∧ cap ≤ 9223372036854775807 ∧ (A = none → cap = 0)

theorem Texts.below {w w' : World} {v : Value} {xs : List ByteArray} (h : Texts w v xs) (hb : Below w.heap.size w w') : Texts w' v xs := by
  obtain ⟨A, cap, rfl, hx, r⟩ := h
  exact ⟨A, cap, rfl, strsAt_below hx hb, r⟩

theorem none_nil {w : World} {xs : List ByteArray} (h : StrsAt w none xs) : xs.length = 0 := by
  by_cases h0 : 0 < xs.length
  · obtain ⟨b, o, e, _⟩ := h 0 h0
    cases e
  · omega

theorem Texts.nil (w : World) : Texts w (.slice none 0 0) [] := ⟨none, 0, rfl, fun i hi => by simp at hi, by simp, by simp, fun _ => rfl⟩

theorem byte_beq {c : UInt8} {k : Nat} (hk : k < 256) (h : ¬ c = UInt8.ofNat k) : ((c.toNat : Int) == (k : Int)) = false := by
  simp only [beq_eq_false_iff_ne, ne_eq]
  intro e
  apply h
  apply UInt8.toNat_inj.1
  rw [UInt8.toNat_ofNat_of_lt' (by simpa [UInt8.size] using hk)]
  omega

theorem nonempty_list {x : ByteArray} (h : 0 < x.size) : x.toList.isEmpty = false := by
  rw [ByteArray.toList_eq]
  have : x.data.toList.length = x.size := by simp
  cases hl : x.data.toList with
  | nil => rw [hl] at this; simp at this; omega
  | cons _ _ => rfl

theorem nonempty_not {x : ByteArray} (h : 0 < x.size) : ¬ x.toList = [] := by
  have := nonempty_list h
  intro e; rw [e] at this; cases this

theorem empty_not {x : ByteArray} (h : x.size = 0) : x.toList = [] := by
  rw [ByteArray.toList_eq]
  have : x.data.toList.length = x.size := by simp
  exact List.eq_nil_of_length_eq_zero (by omega)

theorem empty_list {x : ByteArray} (h : x.size = 0) : x.toList.isEmpty = true := by rw [empty_not h]; rfl

/-- Append of a list that lies anywhere, to a list of the call's own. -/
theorem wpList_append_any {P : Program} {w : World} {ops : Array Oper} {rest : List Oper} {o : Oper} {a : Act} {Q : Exit → Act → World → Prop} (hgd : o.guard = none) (s x : Operand) (t : TypeId)
    (ho : o.op = .call { callee := .builtin .append, args := #[s, x], argTypes := #[t, t] })
    (base : Nat) (e : TypeId) (i : TypeInfo) (z : Value) (size bytes : Nat) (ht : P.underlying t = some (.slice e)) (hi : P.info? e = some i) (hz : i.zero = some z)
    (hsize : i.size = size) (hby : i.bytes = bytes) (hzs : z.cells.size = size) (hsz : 0 < size)
    (v : Value) (n : Nat) (xs : List Value) (hs : a.eval s = v) (hown : w.ownsRow base e size v n xs)
    (A : Option Addr) (m c : Nat) (news : List Value) (hx : a.eval x = .slice A m c) (hA : A = none → m = 0 ∧ c = 0) (hl : news.length = m * size)
    (hnews : ∀ ad, A = some ad → ∀ j u, news[j]? = some u → w.cell? (ad.add j) = some u) (h1 : ∀ u ∈ news, u.oneCell' = true)
    (h63 : n + m ≤ maxLen) (hbytes : (n + m) * bytes ≤ 140737488355328) (hbase : base ≤ w.heap.size)
    (h : ∀ v' w', w'.ownsRow base e size v' (n + m) (xs ++ news) → w.grownBy w' v.ownBlock → wpList P ops Q rest (a.put o.dst v') w') : wpList P ops Q (o :: rest) a w := by
  cases A with
  | none =>
    obtain ⟨rfl, rfl⟩ := hA rfl
    have hn : news = [] := by apply List.eq_nil_of_length_eq_zero; simpa using hl
    subst hn
    exact wpList_append_own_none hgd s x t ho base e i size ht hi v n xs hs hown hx (h v w (by simpa using hown) ⟨rfl, rfl, rfl, Nat.le_refl _, fun _ _ _ => rfl⟩)
  | some ad =>
    exact wpList_append_own w hgd s x t ho base e i z size bytes ht hi hz hsize hby hzs hsz v n xs hs hown ad m c news hx hl (hnews ad rfl) h1 h63 hbytes hbase (fun v' w' h2 h3 _ => h v' w' h2 h3)

/-- Rows of several cells for each element. -/
def flat {α : Type} (f : α → List Value) (xs : List α) (k : Nat) : List Value := ((xs.take k).map f).flatten

theorem flat_succ {f : ByteArray → List Value} {xs : List ByteArray} {k : Nat} (h : k < xs.length) : flat f xs (k + 1) = flat f xs k ++ f (tx xs k) := by
  unfold flat
  rw [List.take_succ_eq_append_getElem h, tx_lt h, List.map_append, List.flatten_append]
  simp

theorem flat_at {f : ByteArray → List Value} {n : Nat} (hf : ∀ x, (f x).length = n) {xs : List ByteArray} {k j : Nat} (h : k < xs.length) (hj : j < n) : (flat f xs xs.length)[k * n + j]? = (f (tx xs k))[j]? := by
  unfold flat
  rw [List.take_length]
  induction xs generalizing k with
  | nil => simp at h
  | cons x r ih =>
    cases k with
    | zero =>
      simp only [Nat.zero_mul, Nat.zero_add, List.map_cons, List.flatten_cons]
      rw [List.getElem?_append_left (by rw [hf]; exact hj)]
      rfl
    | succ k =>
      simp only [List.map_cons, List.flatten_cons]
      rw [List.getElem?_append_right (by rw [hf, Nat.succ_mul]; omega), hf]
      have e : (k + 1) * n + j - n = k * n + j := by rw [Nat.succ_mul]; omega
      rw [e, ih (by simpa using h)]
      rfl

/-- The value's cell is known; what was there is there; an owned row stays. -/
theorem set_step {w wr w1 : World} {u c : Value} {T e size k : Nat} {v : Value} {xs : List Value} (hu : wr.heap[w.heap.size]? = some (.cells #[u] T (0, 0))) (hown : wr.ownsRow (w.heap.size + 1) e size v k xs) (hbel : Below w.heap.size w wr)
    (h : w1 = wr.setCell ⟨w.heap.size, 0, none⟩ c) : w1.heap[w.heap.size]? = some (.cells #[c] T (0, 0)) ∧ w1.ownsRow (w.heap.size + 1) e size v k xs ∧ Below w.heap.size w w1 ∧ w.heap.size < w1.heap.size := by
  subst h
  exact ⟨one_setCell hu, ownsRow_setCell_below hown (a := ⟨w.heap.size, 0, none⟩) (Nat.lt_succ_self _) _, hbel.setCell (p := ⟨w.heap.size, 0, none⟩) (Nat.le_refl _) _, by simpa [World.setCell] using lt_of_block hu⟩

/-- What the call owns is there behind a callee that leaves what was there. -/
theorem own_kept {w w1 : World} {base e size : Nat} {v : Value} {n : Nat} {xs : List Value} (h : w.ownsRow base e size v n xs) (hb : Below w.heap.size w w1) : w1.ownsRow base e size v n xs := by
  refine ⟨h.1, ?_⟩
  rcases h.2 with hn | ⟨g, cap, cur, rfl, hbg, hg, r⟩
  · exact .inl hn
  · exact .inr ⟨g, cap, cur, rfl, hbg, by rw [hb.block g (lt_of_block hg)]; exact hg, r⟩

theorem block_kept {w w1 : World} {b : Nat} {o : Obj} (h : w.heap[b]? = some o) (hb : Below w.heap.size w w1) : w1.heap[b]? = some o := by
  rw [hb.block b (lt_of_block h)]; exact h

/-- The cells of a list of bytes. -/
def byteVals (l : List UInt8) : List Value := l.map fun b => Value.int .u8 (b.toNat : Int)

/-- What came in as a list of bytes. -/
def BytesIn (w : World) (v : Value) (L : List UInt8) : Prop := ∃ A c, v = .slice A L.length c ∧ L.length ≤ c ∧ (A = none → c = 0) ∧ ∀ ad, A = some ad → ∀ j u, (byteVals L)[j]? = some u → w.cell? (ad.add j) = some u

/-- The cells of a list of texts. -/
def strCells (xs : List ByteArray) : List Value := xs.map Value.string

theorem strCells_at {w : World} {A : Option Addr} {xs : List ByteArray} (h : StrsAt w A xs) : ∀ ad, A = some ad → ∀ j u, (strCells xs)[j]? = some u → w.cell? (ad.add j) = some u := by
  intro ad hA j u hu
  have hj : j < xs.length := by
    have := (List.getElem?_eq_some_iff.1 hu).1
    simpa [strCells] using this
  obtain ⟨b, o, e, hc⟩ := h j hj
  rw [hA] at e
  obtain rfl := Option.some.inj e
  rw [Addr.add_mid, hc]
  simp only [strCells, List.getElem?_map, List.getElem?_eq_getElem hj, Option.map_some, Option.some.injEq] at hu
  rw [← hu, tx_lt hj]

theorem strCells_one {xs : List ByteArray} : ∀ u ∈ strCells xs, u.oneCell' = true := by
  intro u hu
  obtain ⟨s, _, rfl⟩ := List.mem_map.1 hu
  rfl

/-- A list of texts of the call's own. -/
theorem own_texts {w : World} {base : Nat} {e : TypeId} {v : Value} {n : Nat} {xs : List ByteArray} (h : w.ownsRow base e 1 v n (strCells xs)) : Texts w v xs := by
  have hl : xs.length = n := by have := h.1; simpa [strCells] using this
  subst hl
  rcases h.2 with ⟨rfl, hn⟩ | ⟨g, cap, cur, rfl, hb, hg, hn, hm, hs, ht⟩
  · have : xs = [] := List.eq_nil_of_length_eq_zero hn
    subst this
    exact Texts.nil w
  · refine ⟨_, cap, rfl, ?_, hn, by unfold maxLen at hm; exact hm, fun h => by cases h⟩
    intro i hi
    refine ⟨g, 0, rfl, ?_⟩
    rw [Nat.zero_add, cell_of_row w g i cur e (0, 0) hg]
    have h2 : (strCells xs)[i]? = some (.string (tx xs i)) := by
      simp [strCells, hi, tx]
    rw [← ht, List.getElem?_take] at h2
    split at h2
    · simpa using h2
    · cases h2

/-- The cells of a row, as they lie in memory. -/
def RowAt (w : World) (A : Option Addr) (cs : List Value) : Prop := ∀ i u, cs[i]? = some u → ∃ g, A = some ⟨g, 0, none⟩ ∧ w.cell? ⟨g, i, none⟩ = some u

theorem rowAt_below {w w' : World} {A : Option Addr} {cs : List Value} (h : RowAt w A cs) (hb : Below w.heap.size w w') : RowAt w' A cs := by
  intro i u hu
  obtain ⟨g, rfl, hc⟩ := h i u hu
  exact ⟨g, rfl, cell_kept hb hc⟩

theorem own_row {w : World} {base : Nat} {e : TypeId} {size : Nat} {v : Value} {n : Nat} {xs : List Value} (h : w.ownsRow base e size v n xs) : ∃ A c, v = .slice A n c ∧ RowAt w A xs := by
  rcases h.2 with ⟨rfl, rfl⟩ | ⟨g, cap, cur, rfl, hb, hg, hn, hm, hs, ht⟩
  · refine ⟨none, 0, rfl, ?_⟩
    intro i u hu
    have := h.1
    simp at this
    subst this
    simp at hu
  · refine ⟨_, cap, rfl, ?_⟩
    intro i u hu
    refine ⟨g, rfl, ?_⟩
    rw [cell_of_row w g i cur e (0, 0) hg]
    rw [← ht, List.getElem?_take] at hu
    split at hu
    · simpa using hu
    · cases hu

theorem own_ne {w : World} {base : Nat} {e : TypeId} {size : Nat} {v : Value} {n : Nat} {xs : List Value} (h : w.ownsRow base e size v n xs) {b : Nat} (hb : b < base) : v.ownBlock ≠ some b := by
  intro he
  have := (h.lt b he).1
  omega

/-- Three cells side by side, of one row. -/
theorem row3 {w : World} {A : Option Addr} {cs : List Value} (h : RowAt w A cs) {i : Nat} {u v x : Value} (h0 : cs[i]? = some u) (h1 : cs[i + 1]? = some v) (h2 : cs[i + 2]? = some x) :
    ∃ g, A = some ⟨g, 0, none⟩ ∧ w.cell? ⟨g, i, none⟩ = some u ∧ w.cell? ⟨g, i + 1, none⟩ = some v ∧ w.cell? ⟨g, i + 2, none⟩ = some x := by
  obtain ⟨g, rfl, c0⟩ := h _ _ h0
  obtain ⟨g', e, c1⟩ := h _ _ h1
  obtain ⟨g'', e', c2⟩ := h _ _ h2
  obtain rfl : g = g' := by simpa using e
  obtain rfl : g = g'' := by simpa using e'
  exact ⟨g, rfl, c0, c1, c2⟩
end Go.Proofs.YtdmpeecocfoocaaDoor.E
