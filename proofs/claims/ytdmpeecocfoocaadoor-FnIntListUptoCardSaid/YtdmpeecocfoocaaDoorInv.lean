/- A region that draws its order and makes memory: instead of a walk for each order, what each operation leaves is shown once, whatever came before it but for what it waits for. -/
import Derived.Test.YtdmpeecocfoocaaDoorKit
import Derived.Orders
import Derived.RegionTactic
namespace Go.Proofs.YtdmpeecocfoocaaDoor.E
open Go.RowKit Go.Proofs
set_option linter.unusedVariables false
set_option linter.unusedSimpArgs false

/-- What an operation waits for. -/
def depsOf (ops : Array Oper) (i : Nat) : List Nat := match ops[i]? with
  | none => []
  | some o => (o.after.toList.filter fun e => Region.binds .any e).map fun e => e.on
/-- What it waits for, and what that waits for, and so on. -/
def ancOf (ops : Array Oper) : Nat → Nat → List Nat
  | 0, _ => []
  | f + 1, i => depsOf ops i ++ (depsOf ops i).flatMap (ancOf ops f)
/-- All operations from m on wait for all ahead of m. -/
def lateB (ops : Array Oper) (m : Nat) : Bool := (List.range ops.size).all fun i => decide (i < m) || (List.range m).all fun j => (ancOf ops m i).contains j
/-- The operations ahead of m are there, guarded by none but such as they wait for, with these destinations. -/
def headB (ops : Array Oper) (m : Nat) (dst : Nat → Nat) (n : Nat) : Bool := (List.range m).all fun i => (match ops[i]? with
  | none => false
  | some o => (match o.guard with | none => true | some (g, _) => decide (g < m) && (depsOf ops i).contains g) && o.dst == some (dst i)) && decide (dst i < n) && (List.range m).all fun j => decide (dst i = dst j → i = j)
/-- Operations wait for earlier ones alone. -/
def backB (ops : Array Oper) (m : Nat) : Bool := (List.range m).all fun i => (depsOf ops i).all fun j => decide (j < i)
theorem least_of {p : Nat → Prop} (h : ∃ i, p i) : ∃ i, p i ∧ ∀ j, j < i → ¬ p j := by
  obtain ⟨i, hi⟩ := h
  induction i using Nat.strongRecOn with
  | _ i ih =>
    by_cases q : ∃ j, j < i ∧ p j
    · obtain ⟨j, hj, hp⟩ := q
      exact ih j hj hp
    · exact ⟨i, hi, fun j hj hp => q ⟨j, hj, hp⟩⟩
/-- A frame whose slots hold what the operations ahead of m left. -/
def putAll (a0 : Act) (dst : Nat → Nat) (x : Nat → Value) : Nat → Act
  | 0 => a0
  | m + 1 => (putAll a0 dst x m).put (some (dst m)) (x m)
def doneB (n m : Nat) : Array Bool := ((List.range n).map fun i => decide (i < m)).toArray
theorem put_size (a : Act) (d : Option Tmp) (v : Value) : (a.put d v).tmps.size = a.tmps.size := by
  unfold Act.put; cases d <;> simp
theorem put_defers (a : Act) (d : Option Tmp) (v : Value) : (a.put d v).defers = a.defers := by
  unfold Act.put; cases d <;> rfl
theorem put_at (a : Act) (d : Nat) (v : Value) (k : Nat) : (a.put (some d) v).tmps[k]? = if d = k then (if d < a.tmps.size then some v else none) else a.tmps[k]? := by
  unfold Act.put
  simp only [Array.getElem?_setIfInBounds]
theorem putAll_size (a0 : Act) (dst : Nat → Nat) (x : Nat → Value) : ∀ m, (putAll a0 dst x m).tmps.size = a0.tmps.size ∧ (putAll a0 dst x m).defers = a0.defers
  | 0 => ⟨rfl, rfl⟩
  | m + 1 => by
    have h := putAll_size a0 dst x m
    exact ⟨(put_size _ _ _).trans h.1, (put_defers _ _ _).trans h.2⟩
theorem putAll_at (a0 : Act) (dst : Nat → Nat) (x : Nat → Value) (hn : ∀ i, dst i < a0.tmps.size ∨ True) : ∀ (m : Nat) (hi : ∀ i, i < m → ∀ j, j < m → dst i = dst j → i = j) (hl : ∀ i, i < m → dst i < a0.tmps.size) (k : Nat),
    (∀ i, i < m → dst i = k → (putAll a0 dst x m).tmps[k]? = some (x i)) ∧ ((∀ i, i < m → dst i ≠ k) → (putAll a0 dst x m).tmps[k]? = a0.tmps[k]?)
  | 0, _, _, k => ⟨fun i h => absurd h (Nat.not_lt_zero _), fun _ => rfl⟩
  | m + 1, hi, hl, k => by
    obtain ⟨h1, h2⟩ := putAll_at a0 dst x hn m (fun i a j b => hi i (by omega) j (by omega)) (fun i a => hl i (by omega)) k
    have hs := (putAll_size a0 dst x m).1
    simp only [putAll]
    rw [put_at, hs]
    refine ⟨fun i hlt e => ?_, fun hne => ?_⟩
    · by_cases q : dst m = k
      · have : i = m := hi i hlt m (by omega) (by rw [e, q])
        subst this
        rw [if_pos q, if_pos (hl i hlt)]
      · rw [if_neg q]
        exact h1 i (Nat.lt_of_le_of_ne (by omega) (fun hm => by subst hm; exact absurd e q)) e
    · rw [if_neg (hne m (by omega))]
      exact h2 (fun i hlt => hne i (by omega))

section
variable {P : Program} {ops : Array Oper} {Q : Exit → Act → World → Prop}
theorem deps_listed {i : Nat} {listed : Array Bool} (h : i ∈ Region.ready .any ops listed) : ∀ j ∈ depsOf ops i, listed.getD j false = true := by
  obtain ⟨_, o, ho, hall⟩ := mem_ready.1 h
  intro j hj
  unfold depsOf at hj
  rw [ho] at hj
  obtain ⟨e, he, rfl⟩ := List.mem_map.1 hj
  obtain ⟨h1, h2⟩ := List.mem_filter.1 he
  exact hall e (by simpa using h1) h2
/-- What is listed has what it waited for. -/
def Closed (ops : Array Oper) (listed : Array Bool) : Prop := ∀ i, listed.getD i false = true → ∀ j ∈ depsOf ops i, listed.getD j false = true
theorem anc_listed {listed : Array Bool} (hc : Closed ops listed) : ∀ (f i : Nat), (∀ j ∈ depsOf ops i, listed.getD j false = true) → ∀ j ∈ ancOf ops f i, listed.getD j false = true
  | 0, i, _, j, hj => by simp [ancOf] at hj
  | f + 1, i, h, j, hj => by
    simp only [ancOf, List.mem_append, List.mem_flatMap] at hj
    rcases hj with hj | ⟨k, hk, hj⟩
    · exact h j hj
    · exact anc_listed hc f k (fun q hq => hc k (h k hk) q hq) j hj
theorem getD_listed {listed : Array Bool} {i k : Nat} (hi : i < listed.size) : (listed.setIfInBounds i true).getD k false = if i = k then true else listed.getD k false := by
  simp only [Array.getD_eq_getD_getElem?, Array.getElem?_setIfInBounds]
  by_cases h : i = k
  · subst h; simp [hi]
  · simp [h]
theorem getD_true_false {listed : Array Bool} {i : Nat} (h : listed.getD i true = false) : i < listed.size ∧ listed.getD i false = false := by
  simp only [Array.getD_eq_getD_getElem?] at h ⊢
  by_cases q : i < listed.size
  · refine ⟨q, ?_⟩
    rw [Array.getElem?_eq_getElem q] at h ⊢
    simpa using h
  · rw [Array.getElem?_eq_none (by omega)] at h; cases h
/-- A pointer to a block that is there. -/
def InW (v : Value) (w : World) : Prop := ∃ g, v = .pointer (some ⟨g, 0, none⟩) ∧ g < w.heap.size
/-- How it stands in the midst of the operations ahead of m. -/
structure MidI (ops : Array Oper) (G : World → World → Prop) (R : Nat → Value → World → Prop) (A : Nat → Bool) (dst : Nat → Nat) (m : Nat) (a0 : Act) (w0 : World) (listed : Array Bool) (a : Act) (w : World) : Prop where
  size : listed.size = ops.size
  closed : Closed ops listed
  early : ∀ i, m ≤ i → listed.getD i false = false
  num : a.tmps.size = a0.tmps.size
  dfr : a.defers = a0.defers
  keep : ∀ k, (∀ i, i < m → dst i ≠ k) → a.tmps[k]? = a0.tmps[k]?
  know : ∀ i, i < m → listed.getD i false = true → R i (a.eval (.tmp (dst i))) w
  grow : G w0 w
  diff : ∀ i j, i < m → j < m → i ≠ j → A i = true → A j = true → listed.getD i false = true → listed.getD j false = true → a.eval (.tmp (dst i)) ≠ a.eval (.tmp (dst j))
theorem eval_put_other {a : Act} {d k : Nat} {v : Value} (h : d ≠ k) : (a.put (some d) v).eval (.tmp k) = a.eval (.tmp k) := by
  simp only [Act.eval, Array.getD_eq_getD_getElem?, put_at, if_neg h]
theorem eval_put_same {a : Act} {d : Nat} {v : Value} (h : d < a.tmps.size) : (a.put (some d) v).eval (.tmp d) = v := by
  simp only [Act.eval, Array.getD_eq_getD_getElem?, put_at, if_true, if_pos h, Option.getD_some]
def cntB (listed : Array Bool) (m : Nat) : Nat := ((List.range m).filter fun i => !(listed.getD i false)).length
theorem cnt_set {listed : Array Bool} {i m : Nat} (hi : i < m) (hs : i < listed.size) (hf : listed.getD i false = false) : cntB (listed.setIfInBounds i true) m + 1 = cntB listed m := by
  unfold cntB
  have key : ∀ m, i < m → ((List.range m).filter fun k => !((listed.setIfInBounds i true).getD k false)).length + 1 = ((List.range m).filter fun k => !(listed.getD k false)).length := by
    intro m
    induction m with
    | zero => intro h; omega
    | succ m ih =>
      intro h
      rw [List.range_succ, List.filter_append, List.filter_append, List.length_append, List.length_append]
      by_cases e : i = m
      · subst e
        have h1 : ((List.range i).filter fun k => !((listed.setIfInBounds i true).getD k false)) = ((List.range i).filter fun k => !(listed.getD k false)) := by
          apply List.filter_congr
          intro k hk
          have : k < i := List.mem_range.1 hk
          rw [getD_listed hs, if_neg (by omega)]
        have h2 : ([i].filter fun k => !((listed.setIfInBounds i true).getD k false)) = [] := by
          rw [List.filter_cons, getD_listed hs, if_pos rfl]; rfl
        have h3 : ([i].filter fun k => !(listed.getD k false)) = [i] := by
          rw [List.filter_cons, hf]; rfl
        rw [h1, h2, h3]; rfl
      · have := ih (by omega)
        simp only [List.filter_cons, List.filter_nil]
        rw [getD_listed hs, if_neg e]
        omega
  exact key m hi
theorem cnt_zero {listed : Array Bool} {m : Nat} (h : cntB listed m = 0) : ∀ i, i < m → listed.getD i false = true := by
  intro i hi
  unfold cntB at h
  have h := List.eq_nil_of_length_eq_zero h
  have := (List.filter_eq_nil_iff.1 h) i (List.mem_range.2 hi)
  simpa using this
/-- The operations ahead of m, in whatever order. -/
theorem inv_walk (G : World → World → Prop) (R : Nat → Value → World → Prop) (A : Nat → Bool) (dst : Nat → Nat) (m : Nat) (a0 : Act) (w0 : World)
    (hGt : ∀ w1 w2 w3, G w1 w2 → G w2 w3 → G w1 w3) (hR : ∀ i, i < m → ∀ v w w', R i v w → G w w' → R i v w') (hA : ∀ i, i < m → A i = true → ∀ v w, R i v w → InW v w) (hgd : ∀ i, i < m → ∀ o, ops[i]? = some o → ∀ g want, o.guard = some (g, want) → ∀ v w, R g v w → v = .bool want)
    (hhead : headB ops m dst a0.tmps.size = true) (hlate : lateB ops m = true) (hback : backB ops m = true) (hm : m ≤ ops.size)
    (hstep : ∀ i, i < m → ∀ o, ops[i]? = some o → ∀ a w, G w0 w → (∀ k, (∀ j, j < m → dst j ≠ k) → a.eval (.tmp k) = a0.eval (.tmp k)) → (∀ j, (depsOf ops i).contains j = true → j < m → R j (a.eval (.tmp (dst j))) w) →
      Oper.wp P o a w (fun a' w' => ∃ v, a' = a.put (some (dst i)) v ∧ R i v w' ∧ G w w' ∧ (A i = true → ¬ InW v w)) Q)
    (hfin : ∀ (x : Nat → Value) (w : World), G w0 w → (∀ i, i < m → R i (x i) w) → (∀ i j, i < m → j < m → i ≠ j → A i = true → A j = true → x i ≠ x j) → wpAny P .any ops Q (ops.size - m) (doneB ops.size m) (putAll a0 dst x m) w) :
    ∀ (n : Nat) (listed : Array Bool) (a : Act) (w : World), MidI ops G R A dst m a0 w0 listed a w → cntB listed m = n → wpAny P .any ops Q (n + (ops.size - m)) listed a w := by
  have hh : ∀ i, i < m → (∃ o, ops[i]? = some o ∧ (∀ g want, o.guard = some (g, want) → g < m ∧ g ∈ depsOf ops i) ∧ o.dst = some (dst i)) ∧ dst i < a0.tmps.size ∧ ∀ j, j < m → dst i = dst j → i = j := by
    intro i hi
    unfold headB at hhead
    have h := (List.all_eq_true.1 hhead) i (List.mem_range.2 hi)
    simp only [Bool.and_eq_true, decide_eq_true_eq, List.all_eq_true, List.mem_range] at h
    obtain ⟨⟨h1, h2⟩, h3⟩ := h
    refine ⟨?_, h2, h3⟩
    cases ho : ops[i]? with
    | none => rw [ho] at h1; cases h1
    | some o =>
      rw [ho] at h1
      simp only [Bool.and_eq_true, beq_iff_eq] at h1
      refine ⟨o, rfl, fun g want hg => ?_, h1.2⟩
      have h4 := h1.1
      rw [hg] at h4
      simp only [Bool.and_eq_true, decide_eq_true_eq] at h4
      exact ⟨h4.1, by simpa using h4.2⟩
  have hl : ∀ i, m ≤ i → i < ops.size → ∀ j, j < m → j ∈ ancOf ops m i := by
    intro i h1 h2 j hj
    unfold lateB at hlate
    have h := (List.all_eq_true.1 hlate) i (List.mem_range.2 h2)
    simp only [Bool.or_eq_true, decide_eq_true_eq, List.all_eq_true, List.mem_range] at h
    rcases h with h | h
    · omega
    · simpa using h j hj
  intro n
  induction n with
  | zero =>
    intro listed a w I hc
    have hall := cnt_zero hc
    have e1 : listed = doneB ops.size m := by
      apply Array.ext_getElem?
      intro k
      have hd : (doneB ops.size m)[k]? = if k < ops.size then some (decide (k < m)) else none := by
        unfold doneB
        by_cases q : k < ops.size
        · rw [if_pos q]; simp [q]
        · rw [if_neg q]; simp; omega
      rw [hd]
      by_cases q : k < ops.size
      · rw [if_pos q]
        have hk : k < listed.size := by rw [I.size]; exact q
        rw [Array.getElem?_eq_getElem hk]
        by_cases qm : k < m
        · have := hall k qm
          simp only [Array.getD_eq_getD_getElem?, Array.getElem?_eq_getElem hk, Option.getD_some] at this
          rw [this, decide_eq_true qm]
        · have := I.early k (by omega)
          simp only [Array.getD_eq_getD_getElem?, Array.getElem?_eq_getElem hk, Option.getD_some] at this
          rw [this, decide_eq_false qm]
      · rw [if_neg q, Array.getElem?_eq_none (by rw [I.size]; omega)]
    have e2 : a = putAll a0 dst (fun i => a.eval (.tmp (dst i))) m := by
      have hs := putAll_size a0 dst (fun i => a.eval (.tmp (dst i))) m
      have hp := putAll_at a0 dst (fun i => a.eval (.tmp (dst i))) (fun _ => .inr trivial) m (fun i hi j hj => (hh i hi).2.2 j hj) (fun i hi => (hh i hi).2.1)
      have ht : a.tmps = (putAll a0 dst (fun i => a.eval (.tmp (dst i))) m).tmps := by
        apply Array.ext_getElem?
        intro k
        obtain ⟨p1, p2⟩ := hp k
        by_cases q : ∃ i, i < m ∧ dst i = k
        · obtain ⟨i, hi, rfl⟩ := q
          rw [p1 i hi rfl]
          have hlt : dst i < a.tmps.size := by rw [I.num]; exact (hh i hi).2.1
          simp only [Act.eval, Array.getD_eq_getD_getElem?, Array.getElem?_eq_getElem hlt, Option.getD_some]
        · have hne : ∀ i, i < m → dst i ≠ k := fun i hi e => q ⟨i, hi, e⟩
          rw [p2 hne]; exact I.keep k hne
      cases a with
      | mk t d =>
        have hd : d = (putAll a0 dst (fun i => (Act.mk t d).eval (.tmp (dst i))) m).defers := I.dfr.trans hs.2.symm
        simp only at ht
        generalize putAll a0 dst (fun i => (Act.mk t d).eval (.tmp (dst i))) m = b at ht hd ⊢
        cases b; simp only at ht hd; rw [ht, hd]
    rw [Nat.zero_add, e1, e2]
    exact hfin _ w I.grow (fun i hi => I.know i hi (hall i hi)) (fun i j hi hj hij ai aj => I.diff i j hi hj hij ai aj (hall i hi) (hall j hj))
  | succ n ih =>
    intro listed a w I hc
    have hex : ∃ i, i < m ∧ listed.getD i false = false := by
      by_cases q : ∃ i, i < m ∧ listed.getD i false = false
      · exact q
      · have : cntB listed m = 0 := by
          unfold cntB
          rw [List.filter_eq_nil_iff.2]
          · rfl
          · intro i hi
            have : ¬ listed.getD i false = false := fun e => q ⟨i, List.mem_range.1 hi, e⟩
            simpa using this
        omega
    have hless : ∀ i ∈ Region.ready .any ops listed, i < m := by
      intro i hi
      by_cases q : i < m
      · exact q
      · obtain ⟨_, o, ho, _⟩ := mem_ready.1 hi
        have hlt : i < ops.size := (Array.getElem?_eq_some_iff.1 ho).1
        obtain ⟨j, hj, hf⟩ := hex
        have := anc_listed I.closed m i (deps_listed hi) j (hl i (by omega) hlt j hj)
        rw [this] at hf; cases hf
    have hmore : Region.ready .any ops listed ≠ [] := by
      obtain ⟨i, ⟨hi, hu⟩, hmin⟩ := least_of hex
      obtain ⟨⟨o, ho, _⟩, _⟩ := hh i hi
      have hs : i < listed.size := by rw [I.size]; omega
      have hr : i ∈ Region.ready .any ops listed := mem_ready.2 ⟨by
        simp only [Array.getD_eq_getD_getElem?, Array.getElem?_eq_getElem hs, Option.getD_some] at hu ⊢; exact hu, o, ho, fun e he hb => by
        have hd : e.on ∈ depsOf ops i := by
          unfold depsOf
          rw [ho]
          exact List.mem_map.2 ⟨e, List.mem_filter.2 ⟨by simpa using he, hb⟩, rfl⟩
        have hlt : e.on < i := by
          unfold backB at hback
          have h := (List.all_eq_true.1 hback) i (List.mem_range.2 hi)
          have h := (List.all_eq_true.1 h) _ hd
          simpa using h
        have := hmin e.on hlt
        by_cases q : listed.getD e.on false = true
        · exact q
        · exact absurd ⟨by omega, by simpa using q⟩ this⟩
      intro e
      rw [e] at hr
      cases hr
    rw [show n + 1 + (ops.size - m) = (n + (ops.size - m)) + 1 by omega]
    refine ⟨fun h => absurd h hmore, fun i hi => ?_⟩
    have him := hless i hi
    obtain ⟨⟨o, ho, hg, hd⟩, hdl, hdi⟩ := hh i him
    obtain ⟨hsz, hun⟩ := getD_true_false (mem_ready.1 hi).1
    have hdeps := deps_listed hi
    unfold wpOp
    rw [ho]
    have hw : Region.wanted o (yielded ops a.tmps) = true := by
      unfold Region.wanted
      cases hgo : o.guard with
      | none => rfl
      | some gw =>
        obtain ⟨g, want⟩ := gw
        obtain ⟨hgm, hgdep⟩ := hg g want hgo
        have hv := hgd i him o ho g want hgo _ _ (I.know g hgm (hdeps g hgdep))
        obtain ⟨⟨og, hog, _, hogd⟩, hgl, _⟩ := hh g hgm
        have hlt : dst g < a.tmps.size := by rw [I.num]; exact hgl
        have hsl : a.tmps[dst g]? = some (.bool want) := by
          have : a.eval (.tmp (dst g)) = a.tmps[dst g] := by simp only [Act.eval, Array.getD_eq_getD_getElem?, Array.getElem?_eq_getElem hlt, Option.getD_some]
          rw [Array.getElem?_eq_getElem hlt, ← this, hv]
        simp only [yielded, hog, Option.bind_some, hogd, hsl, beq_self_eq_true]
    simp only [hw, if_true]
    refine .inl (Oper.wp_mono ?_ (hstep i him o ho a w I.grow (fun k hk => ?_) (fun j hj hjm => I.know j hjm (hdeps j (by simpa using hj)))))
    · rintro a' w' ⟨v, rfl, hRv, hG, hnew⟩
      refine ih _ _ _ ⟨by simp [I.size], ?_, ?_, (put_size _ _ _).trans I.num, (put_defers _ _ _).trans I.dfr, ?_, ?_, hGt _ _ _ I.grow hG, ?_⟩ ?_
      · intro k hk j hj
        rw [getD_listed hsz] at hk ⊢
        by_cases q : i = j
        · rw [if_pos q]
        · rw [if_neg q]
          by_cases q2 : i = k
          · subst q2; exact hdeps j hj
          · rw [if_neg q2] at hk; exact I.closed k hk j hj
      · intro k hk
        rw [getD_listed hsz, if_neg (by omega)]; exact I.early k hk
      · intro k hk
        rw [put_at, if_neg (hk i him)]; exact I.keep k hk
      · intro j hj hlj
        rw [getD_listed hsz] at hlj
        by_cases q : i = j
        · subst q
          rw [eval_put_same (by rw [I.num]; exact hdl)]
          exact hRv
        · rw [if_neg q] at hlj
          rw [eval_put_other (fun e => q (hdi j hj e))]
          exact hR j hj _ _ _ (I.know j hj hlj) hG
      · intro p q hp hq hpq ap aq lp lq
        rw [getD_listed hsz] at lp lq
        by_cases e : i = p
        · subst e
          rw [eval_put_same (by rw [I.num]; exact hdl), eval_put_other (fun e => hpq (hdi q hq e))]
          rw [if_neg hpq] at lq
          intro e
          exact hnew ap (by rw [e]; exact hA q hq aq _ _ (I.know q hq lq))
        · rw [if_neg e] at lp
          rw [eval_put_other (fun q => e (hdi p hp q))]
          by_cases e2 : i = q
          · subst e2
            rw [eval_put_same (by rw [I.num]; exact hdl)]
            intro e3
            exact hnew aq (by rw [← e3]; exact hA p hp ap _ _ (I.know p hp lp))
          · rw [if_neg e2] at lq
            rw [eval_put_other (fun r => e2 (hdi q hq r))]
            exact I.diff p q hp hq hpq ap aq lp lq
      · have := cnt_set him hsz hun
        omega
    · have := I.keep k hk
      simp only [Act.eval, Array.getD_eq_getD_getElem?, this]
/-- A region that draws: what its first m operations leave, shown one by one. -/
theorem region_inv {id : Nat} {a0 : Act} {w : World} (hmix : P.follows .mixedOrders = true) (G : World → World → Prop) (R : Nat → Value → World → Prop) (A : Nat → Bool) (dst : Nat → Nat) (m : Nat)
    (hG0 : G w.drew w.drew) (hGt : ∀ w1 w2 w3, G w1 w2 → G w2 w3 → G w1 w3) (hR : ∀ i, i < m → ∀ v w w', R i v w → G w w' → R i v w') (hA : ∀ i, i < m → A i = true → ∀ v w, R i v w → InW v w) (hgd : ∀ i, i < m → ∀ o, ops[i]? = some o → ∀ g want, o.guard = some (g, want) → ∀ v w, R g v w → v = .bool want)
    (hhead : headB ops m dst a0.tmps.size = true) (hlate : lateB ops m = true) (hback : backB ops m = true) (hm : decide (m ≤ ops.size) = true)
    (hstep : ∀ i, i < m → ∀ o, ops[i]? = some o → ∀ a w', G w.drew w' → (∀ k, (∀ j, j < m → dst j ≠ k) → a.eval (.tmp k) = a0.eval (.tmp k)) → (∀ j, (depsOf ops i).contains j = true → j < m → R j (a.eval (.tmp (dst j))) w') →
      Oper.wp P o a w' (fun a' w'' => ∃ v, a' = a.put (some (dst i)) v ∧ R i v w'' ∧ G w' w'' ∧ (A i = true → ¬ InW v w')) Q)
    (hfin : ∀ (x : Nat → Value) (w' : World), G w.drew w' → (∀ i, i < m → R i (x i) w') → (∀ i j, i < m → j < m → i ≠ j → A i = true → A j = true → x i ≠ x j) → wpAny P .any ops Q (ops.size - m) (doneB ops.size m) (putAll a0 dst x m) w') : (Code.region id ops true).wp P Q a0 w := by
  refine wp_region_any hmix ?_
  have hm := of_decide_eq_true hm
  have hc : cntB (Array.replicate ops.size false) m = m := by
    unfold cntB
    rw [List.filter_eq_self.2]
    · simp
    · intro i hi
      have : i < ops.size := by have := List.mem_range.1 hi; omega
      simp [Array.getD_eq_getD_getElem?, this]
  have hz : ∀ k, (Array.replicate ops.size false).getD k false = false := by
    intro k
    simp only [Array.getD_eq_getD_getElem?, Array.getElem?_replicate]
    split <;> rfl
  have h := inv_walk (P := P) (Q := Q) G R A dst m a0 w.drew hGt hR hA hgd hhead hlate hback hm hstep hfin m (Array.replicate ops.size false) a0 w.drew
    ⟨by simp, (show Closed ops _ from fun i hi => by (rw [hz] at hi; cases hi)), fun i _ => hz i, rfl, rfl, fun _ _ => rfl, fun i _ hi => by (rw [hz] at hi; cases hi), hG0, fun i j _ _ _ _ _ hi => by (rw [hz] at hi; cases hi)⟩ hc
  rw [show m + (ops.size - m) = ops.size by omega] at h
  exact h
end
end Go.Proofs.YtdmpeecocfoocaaDoor.E
