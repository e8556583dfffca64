/- Maps whose elements are pointers or bools, read key by key. -/
import Derived.Test.YtgmhhdpggnmipaaProg
import Derived.Maps.Own
import Derived.Maps.OwnOps
import Derived.Maps.OwnSet
import Derived.Maps.Views
import Derived.WalkKit
import Derived.Below
import Derived.OneCell
import Derived.Lib.Hide
namespace Go.Proofs.Ytgmhhdpggnmipaa.E
open Go.Maps (Keyed)
open Go.RowKit
set_option linter.unusedVariables false
set_option linter.unusedSimpArgs false

/-- How a pointer to a block's head reads: by the block's number. -/
def ptrElem : Value → Option (DataW Unit × List MemPlace)
  | .pointer (some ⟨b, 0, none⟩) => some (.lit (.int .i64 (b : Int)), [])
  | _ => none
theorem ptrElem_inv {v : Value} {z : DataW Unit × List MemPlace} (h : ptrElem v = some z) : ∃ b : Nat, v = .pointer (some ⟨b, 0, none⟩) ∧ z = (.lit (.int .i64 (b : Int)), []) := by
  unfold ptrElem at h
  split at h
  · rename_i b
    exact ⟨b, rfl, (Option.some.inj h).symm⟩
  · cases h

/-- A map of pointers: to each key the block that it points to. -/
def PMap (w : World) (P : Program) (k : TypeId) {κ : Type} (en : κ → Lit) (mo : Option Nat) (n : Nat) (f : κ → Option Nat) : Prop :=
  match mo with
  | none => ∀ x, f x = none
  | some b => ∃ D, w.ownsMap (H := Unit) P k ptrElem b n D ∧ Maps.IsMap D ∧ ∀ x z, D.atKey (en x) z = ((f x).map fun (i : Nat) => DataW.lit (.int .i64 (i : Int))).getD z

theorem PMap.nil {κ : Type} (en : κ → Lit) (w : World) (P : Program) (k : TypeId) (n : Nat) : PMap w P k en none n (fun _ => none) := fun _ => rfl
theorem PMap.made {κ : Type} (en : κ → Lit) (w : World) (P : Program) (k : TypeId) : PMap (w.alloc (.map #[] 0)) P k en (some w.heap.size) 0 (fun _ => none) :=
  ⟨_, World.ownsMap_made w P k ptrElem, Maps.isMap_empty, fun kl z => rfl⟩
theorem PMap.kept {w w' : World} {P : Program} {k : TypeId} {κ : Type} {en : κ → Lit} {mo : Option Nat} {n : Nat} {f : κ → Option Nat} (h : PMap w P k en mo n f) (hb : ∀ b, mo = some b → w'.heap[b]? = w.heap[b]?) : PMap w' P k en mo n f := by
  cases mo with
  | none => exact h
  | some b =>
    obtain ⟨D, ⟨es, clock, h1, h2⟩, r⟩ := h
    exact ⟨D, ⟨es, clock, (hb b rfl).trans h1, h2⟩, r⟩
theorem PMap.lt {w : World} {P : Program} {k : TypeId} {κ : Type} {en : κ → Lit} {b n : Nat} {f : κ → Option Nat} (h : PMap w P k en (some b) n f) : b < w.heap.size := by
  obtain ⟨D, h, _⟩ := h
  exact h.lt
theorem PMap.below {w w' : World} {P : Program} {k : TypeId} {κ : Type} {en : κ → Lit} {mo : Option Nat} {n : Nat} {f : κ → Option Nat} (h : PMap w P k en mo n f) (hb : Below w.heap.size w w') : PMap w' P k en mo n f :=
  h.kept fun b e => by subst e; exact hb.block b h.lt
/-- What the block of a map is. -/
theorem PMap.is {w : World} {P : Program} {k : TypeId} {κ : Type} {en : κ → Lit} {b n : Nat} {f : κ → Option Nat} (h : PMap w P k en (some b) n f) : ∃ es c, w.heap[b]? = some (.map es c) := by
  obtain ⟨D, ⟨es, clock, h1, _⟩, _⟩ := h
  exact ⟨es, clock, h1⟩
/-- A look-up with ok. -/
def lookR (o : Option Nat) : Value := match o with
  | none => .tuple #[.pointer none, .bool false]
  | some i => .tuple #[.pointer (some ⟨i, 0, none⟩), .bool true]
theorem PMap.look {w : World} {P : Program} {k t e : TypeId} {κ : Type} {en : κ → Lit} {mo : Option Nat} {n : Nat} {f : κ → Option Nat} (h : PMap w P k en mo n f) (K : Keyed P k) (ht : P.underlying t = some (.map k e))
    (hz : (zeroValue e).run P w = .ok (.pointer none) w) {key : Value} {kl : κ} (hkey : keyOf P k key = some (en kl)) : (Instr.lookup t (.map mo) key true).run P w = .ok (lookR (f kl)) w := by
  cases mo with
  | none =>
    rw [Maps.look_nil true K ht hz hkey, h kl]
    rfl
  | some b =>
    obtain ⟨D, ⟨es, clock, hb, F, _, rfl⟩, _, hf⟩ := h
    rcases Maps.fit_look true K ht hz hb F hkey with ⟨hrun, _, hat⟩ | ⟨e0, y, _, _, hrun, hRv, hat, _⟩
    · have hn : f kl = none := by
        cases hq : f kl with
        | none => rfl
        | some i =>
          have h1 := hf kl .nil
          rw [hat, hq] at h1
          cases h1
      rw [hrun, hn]; rfl
    · obtain ⟨b', e1, rfl⟩ := ptrElem_inv hRv
      have hn : f kl = some b' := by
        have h1 := hf kl .nil
        rw [hat] at h1
        cases hq : f kl with
        | none => rw [hq] at h1; cases h1
        | some i =>
          rw [hq] at h1
          simp only [Option.map_some, Option.getD_some, DataW.lit.injEq, Lit.int.injEq, true_and, Int.natCast_inj] at h1
          rw [h1]
      rw [hrun, hn, e1]; rfl
/-- A store. -/
theorem wpList_put_ptr {P : Program} (w : World) {ops : Array Oper} {rest : List Oper} {o : Oper} {a : Act} {Q : Exit → Act → World → Prop}
    (hg : o.guard = none) (m x v : Operand) (t : TypeId) (hop : o.op = Op.mapUpdate t m x v) (k e : TypeId) (K : Keyed P k) (ht : P.underlying t = some (.map k e)) {κ : Type} [DecidableEq κ] {en : κ → Lit} (hen : ∀ x y, en x = en y → x = y) (b n : Nat) (f : κ → Option Nat)
    (hm : a.eval m = .map (some b)) (hown : PMap w P k en (some b) n f) (hn : n < maxLen) (key : Value) (i : Nat) (kl : κ) (hx : a.eval x = key) (hv : a.eval v = .pointer (some ⟨i, 0, none⟩)) (hkey : keyOf P k key = some (en kl))
    (hK : ∀ w', PMap w' P k en (some b) (n + 1) (fun z => if z = kl then some i else f z) → w.grownBy w' (some b) → wpList P ops Q rest (a.put o.dst undef) w') :
    wpList P ops Q (o :: rest) a w := by
  obtain ⟨D, h1, h2, h3⟩ := hown
  refine wpList_mapUpdate_own w hg m x v t hop k e K ht ptrElem b n D hm h1 hn key _ (en kl) hx hv hkey (.lit (.int .i64 (i : Int))) [] rfl (fun w' h4 h5 => hK w' ⟨_, h4, ?_, ?_⟩ h5)
  · obtain ⟨es, clock, _, _, _, e⟩ := h4
    exact ⟨_, e⟩
  · intro z d
    by_cases e : z = kl
    · subst e
      rw [Maps.atKey_put_same h2 (K.key hkey)]; simp
    · rw [Maps.atKey_put_other (fun h => e (hen _ _ h)), h3]; simp [e]

/-- A map of bools that are true: a set of keys. -/
def BMap (w : World) (P : Program) (k e : TypeId) {κ : Type} (en : κ → Lit) (b n : Nat) (f : κ → Bool) : Prop :=
  ∃ D, w.ownsMap (H := Unit) P k (plainElem P e) b n D ∧ Maps.IsMap D ∧ ∀ x, D.atKey (en x) (.lit (.bool false)) = .lit (.bool (f x))
theorem BMap.made {κ : Type} (en : κ → Lit) (w : World) (P : Program) (k e : TypeId) : BMap (w.alloc (.map #[] 0)) P k e en w.heap.size 0 (fun _ => false) :=
  ⟨_, World.ownsMap_made w P k (plainElem P e), Maps.isMap_empty, fun kl => rfl⟩
theorem BMap.lt {w : World} {P : Program} {k e : TypeId} {κ : Type} {en : κ → Lit} {b n : Nat} {f : κ → Bool} (h : BMap w P k e en b n f) : b < w.heap.size := by
  obtain ⟨D, h, _⟩ := h
  exact h.lt
theorem BMap.kept {w w' : World} {P : Program} {k e : TypeId} {κ : Type} {en : κ → Lit} {b n : Nat} {f : κ → Bool} (h : BMap w P k e en b n f) (hb : w'.heap[b]? = w.heap[b]?) : BMap w' P k e en b n f := by
  obtain ⟨D, ⟨es, clock, h1, h2⟩, r⟩ := h
  exact ⟨D, ⟨es, clock, hb.trans h1, h2⟩, r⟩
theorem BMap.below {w w' : World} {P : Program} {k e : TypeId} {κ : Type} {en : κ → Lit} {b n : Nat} {f : κ → Bool} (h : BMap w P k e en b n f) (hb : Below w.heap.size w w') : BMap w' P k e en b n f :=
  h.kept (hb.block b h.lt)
theorem BMap.look {w : World} {P : Program} {k t e : TypeId} {κ : Type} {en : κ → Lit} {b n : Nat} {f : κ → Bool} (h : BMap w P k e en b n f) (K : Keyed P k) (ht : P.underlying t = some (.map k e)) (he : P.underlying e = some .bool)
    (hz : (zeroValue e).run P w = .ok (.bool false) w) {key : Value} {kl : κ} (hkey : keyOf P k key = some (en kl)) : (Instr.lookup t (.map (some b)) key false).run P w = .ok (.bool (f kl)) w := by
  obtain ⟨D, h1, _, h3⟩ := h
  obtain ⟨v, ps, hrun, hv⟩ := h1.lookup K ht hz (plainElem_bool he false) hkey
  rw [hrun]
  rw [h3] at hv
  have : v = .bool (f kl) := by
    unfold plainElem at hv
    rw [he] at hv
    cases v <;> simp at hv
    rw [hv.1]
  rw [this]
theorem wpList_put_bool {P : Program} (w : World) {ops : Array Oper} {rest : List Oper} {o : Oper} {a : Act} {Q : Exit → Act → World → Prop}
    (hg : o.guard = none) (m x v : Operand) (t : TypeId) (hop : o.op = Op.mapUpdate t m x v) (k e : TypeId) (K : Keyed P k) (ht : P.underlying t = some (.map k e)) (he : P.underlying e = some .bool) {κ : Type} [DecidableEq κ] {en : κ → Lit} (hen : ∀ x y, en x = en y → x = y) (b n : Nat) (f : κ → Bool)
    (hm : a.eval m = .map (some b)) (hown : BMap w P k e en b n f) (hn : n < maxLen) (key : Value) (kl : κ) (hx : a.eval x = key) (hv : a.eval v = .bool true) (hkey : keyOf P k key = some (en kl))
    (hK : ∀ w', BMap w' P k e en b (n + 1) (fun z => decide (z = kl) || f z) → w.grownBy w' (some b) → wpList P ops Q rest (a.put o.dst undef) w') :
    wpList P ops Q (o :: rest) a w := by
  obtain ⟨D, h1, h2, h3⟩ := hown
  refine wpList_mapUpdate_own w hg m x v t hop k e K ht (plainElem P e) b n D hm h1 hn key _ (en kl) hx hv hkey (.lit (.bool true)) [] (plainElem_bool he true) (fun w' h4 h5 => hK w' ⟨_, h4, ?_, ?_⟩ h5)
  · obtain ⟨es, clock, _, _, _, e⟩ := h4
    exact ⟨_, e⟩
  · intro z
    by_cases e : z = kl
    · subst e
      rw [Maps.atKey_put_same h2 (K.key hkey)]; simp
    · rw [Maps.atKey_put_other (fun h => e (hen _ _ h)), h3]; simp [e]
end Go.Proofs.Ytgmhhdpggnmipaa.E
