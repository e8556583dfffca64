/- A region that draws its order, makes memory and passes some of its operations over: what each operation leaves is shown once. Written by gen_invs.py. -/
import Derived.Test.YtgmhhdpggnmipaaInv
namespace Go.Proofs.Ytgmhhdpggnmipaa.E
open Go.RowKit Go.Proofs
set_option linter.unusedVariables false
set_option linter.unusedSimpArgs false
section
variable {P : Program} {ops : Array Oper} {Q : Exit → Act → World → Prop}
/-- The operations ahead of m, in whatever order. -/
theorem invs_walk (sk : Nat → Bool) (G : World → World → Prop) (R : Nat → Value → World → Prop) (A : Nat → Bool) (dst : Nat → Nat) (m : Nat) (a0 : Act) (w0 : World)
    (hGt : ∀ w1 w2 w3, G w1 w2 → G w2 w3 → G w1 w3) (hR : ∀ i, i < m → ∀ v w w', R i v w → G w w' → R i v w') (hA : ∀ i, i < m → A i = true → ∀ v w, R i v w → InW v w) (hgd : ∀ i, i < m → sk i = false → ∀ o, ops[i]? = some o → ∀ g want, o.guard = some (g, want) → ∀ v w, R g v w → v = .bool want) (hsk : ∀ i, i < m → sk i = true → A i = false ∧ (∀ v w, R i v w) ∧ ∀ o, ops[i]? = some o → ∃ g want, o.guard = some (g, want) ∧ ∀ v w, R g v w → v = .bool (!want))
    (hhead : headB ops m dst a0.tmps.size = true) (hlate : lateB ops m = true) (hback : backB ops m = true) (hm : m ≤ ops.size)
    (hstep : ∀ i, i < m → sk i = false → ∀ o, ops[i]? = some o → ∀ a w, G w0 w → (∀ k, (∀ j, j < m → dst j ≠ k) → a.eval (.tmp k) = a0.eval (.tmp k)) → (∀ j, (depsOf ops i).contains j = true → j < m → R j (a.eval (.tmp (dst j))) w) →
      Oper.wp P o a w (fun a' w' => ∃ v, a' = a.put (some (dst i)) v ∧ R i v w' ∧ G w w' ∧ (A i = true → ¬ InW v w)) Q)
    (hfin : ∀ (x : Nat → Value) (w : World), G w0 w → (∀ i, i < m → R i (x i) w) → (∀ i j, i < m → j < m → i ≠ j → A i = true → A j = true → x i ≠ x j) → wpAny P .any ops Q (ops.size - m) (doneB ops.size m) (putAll a0 dst x m) w) :
    ∀ (n : Nat) (listed : Array Bool) (a : Act) (w : World), MidI ops G R A dst m a0 w0 listed a w → cntB listed m = n → wpAny P .any ops Q (n + (ops.size - m)) listed a w := by
  have hh : ∀ i, i < m → (∃ o, ops[i]? = some o ∧ (∀ g want, o.guard = some (g, want) → g < m ∧ g ∈ depsOf ops i) ∧ o.dst = some (dst i)) ∧ dst i < a0.tmps.size ∧ ∀ j, j < m → dst i = dst j → i = j := by
    intro i hi
    unfold headB at hhead
    have h := (List.all_eq_true.1 hhead) i (List.mem_range.2 hi)
    simp only [Bool.and_eq_true, decide_eq_true_eq, List.all_eq_true, List.mem_range] at h
    obtain ⟨⟨h1, h2⟩, h3⟩ := h
    refine ⟨?_, h2, h3⟩
    cases ho : ops[i]? with
    | none => rw [ho] at h1; cases h1
    | some o =>
      rw [ho] at h1
      simp only [Bool.and_eq_true, beq_iff_eq] at h1
      refine ⟨o, rfl, fun g want hg => ?_, h1.2⟩
      have h4 := h1.1
      rw [hg] at h4
      simp only [Bool.and_eq_true, decide_eq_true_eq] at h4
      exact ⟨h4.1, by simpa using h4.2⟩
  have hl : ∀ i, m ≤ i → i < ops.size → ∀ j, j < m → j ∈ ancOf ops m i := by
    intro i h1 h2 j hj
    unfold lateB at hlate
    have h := (List.all_eq_true.1 hlate) i (List.mem_range.2 h2)
    simp only [Bool.or_eq_true, decide_eq_true_eq, List.all_eq_true, List.mem_range] at h
    rcases h with h | h
    · omega
    · simpa using h j hj
  intro n
  induction n with
  | zero =>
    intro listed a w I hc
    have hall := cnt_zero hc
    have e1 : listed = doneB ops.size m := by
      apply Array.ext_getElem?
      intro k
      have hd : (doneB ops.size m)[k]? = if k < ops.size then some (decide (k < m)) else none := by
        unfold doneB
        by_cases q : k < ops.size
        · rw [if_pos q]; simp [q]
        · rw [if_neg q]; simp; omega
      rw [hd]
      by_cases q : k < ops.size
      · rw [if_pos q]
        have hk : k < listed.size := by rw [I.size]; exact q
        rw [Array.getElem?_eq_getElem hk]
        by_cases qm : k < m
        · have := hall k qm
          simp only [Array.getD_eq_getD_getElem?, Array.getElem?_eq_getElem hk, Option.getD_some] at this
          rw [this, decide_eq_true qm]
        · have := I.early k (by omega)
          simp only [Array.getD_eq_getD_getElem?, Array.getElem?_eq_getElem hk, Option.getD_some] at this
          rw [this, decide_eq_false qm]
      · rw [if_neg q, Array.getElem?_eq_none (by rw [I.size]; omega)]
    have e2 : a = putAll a0 dst (fun i => a.eval (.tmp (dst i))) m := by
      have hs := putAll_size a0 dst (fun i => a.eval (.tmp (dst i))) m
      have hp := putAll_at a0 dst (fun i => a.eval (.tmp (dst i))) (fun _ => .inr trivial) m (fun i hi j hj => (hh i hi).2.2 j hj) (fun i hi => (hh i hi).2.1)
      have ht : a.tmps = (putAll a0 dst (fun i => a.eval (.tmp (dst i))) m).tmps := by
        apply Array.ext_getElem?
        intro k
        obtain ⟨p1, p2⟩ := hp k
        by_cases q : ∃ i, i < m ∧ dst i = k
        · obtain ⟨i, hi, rfl⟩ := q
          rw [p1 i hi rfl]
          have hlt : dst i < a.tmps.size := by rw [I.num]; exact (hh i hi).2.1
          simp only [Act.eval, Array.getD_eq_getD_getElem?, Array.getElem?_eq_getElem hlt, Option.getD_some]
        · have hne : ∀ i, i < m → dst i ≠ k := fun i hi e => q ⟨i, hi, e⟩
          rw [p2 hne]; exact I.keep k hne
      cases a with
      | mk t d =>
        have hd : d = (putAll a0 dst (fun i => (Act.mk t d).eval (.tmp (dst i))) m).defers := I.dfr.trans hs.2.symm
        simp only at ht
        generalize putAll a0 dst (fun i => (Act.mk t d).eval (.tmp (dst i))) m = b at ht hd ⊢
        cases b; simp only at ht hd; rw [ht, hd]
    rw [Nat.zero_add, e1, e2]
    exact hfin _ w I.grow (fun i hi => I.know i hi (hall i hi)) (fun i j hi hj hij ai aj => I.diff i j hi hj hij ai aj (hall i hi) (hall j hj))
  | succ n ih =>
    intro listed a w I hc
    have hex : ∃ i, i < m ∧ listed.getD i false = false := by
      by_cases q : ∃ i, i < m ∧ listed.getD i false = false
      · exact q
      · have : cntB listed m = 0 := by
          unfold cntB
          rw [List.filter_eq_nil_iff.2]
          · rfl
          · intro i hi
            have : ¬ listed.getD i false = false := fun e => q ⟨i, List.mem_range.1 hi, e⟩
            simpa using this
        omega
    have hless : ∀ i ∈ Region.ready .any ops listed, i < m := by
      intro i hi
      by_cases q : i < m
      · exact q
      · obtain ⟨_, o, ho, _⟩ := mem_ready.1 hi
        have hlt : i < ops.size := (Array.getElem?_eq_some_iff.1 ho).1
        obtain ⟨j, hj, hf⟩ := hex
        have := anc_listed I.closed m i (deps_listed hi) j (hl i (by omega) hlt j hj)
        rw [this] at hf; cases hf
    have hmore : Region.ready .any ops listed ≠ [] := by
      obtain ⟨i, ⟨hi, hu⟩, hmin⟩ := least_of hex
      obtain ⟨⟨o, ho, _⟩, _⟩ := hh i hi
      have hs : i < listed.size := by rw [I.size]; omega
      have hr : i ∈ Region.ready .any ops listed := mem_ready.2 ⟨by
        simp only [Array.getD_eq_getD_getElem?, Array.getElem?_eq_getElem hs, Option.getD_some] at hu ⊢; exact hu, o, ho, fun e he hb => by
        have hd : e.on ∈ depsOf ops i := by
          unfold depsOf
          rw [ho]
          exact List.mem_map.2 ⟨e, List.mem_filter.2 ⟨by simpa using he, hb⟩, rfl⟩
        have hlt : e.on < i := by
          unfold backB at hback
          have h := (List.all_eq_true.1 hback) i (List.mem_range.2 hi)
          have h := (List.all_eq_true.1 h) _ hd
          simpa using h
        have := hmin e.on hlt
        by_cases q : listed.getD e.on false = true
        · exact q
        · exact absurd ⟨by omega, by simpa using q⟩ this⟩
      intro e
      rw [e] at hr
      cases hr
    rw [show n + 1 + (ops.size - m) = (n + (ops.size - m)) + 1 by omega]
    refine ⟨fun h => absurd h hmore, fun i hi => ?_⟩
    have him := hless i hi
    obtain ⟨⟨o, ho, hg, hd⟩, hdl, hdi⟩ := hh i him
    obtain ⟨hsz, hun⟩ := getD_true_false (mem_ready.1 hi).1
    have hdeps := deps_listed hi
    have hsk2 := hsk i him
    cases hs : sk i with
    | true =>
      obtain ⟨hAi, hRi, hgi⟩ := hsk2 hs
      obtain ⟨g, want, hgo, hgv⟩ := hgi o ho
      unfold wpOp
      rw [ho]
      have hw : Region.wanted o (yielded ops a.tmps) = false := by
        unfold Region.wanted
        rw [hgo]
        obtain ⟨hgm, hgdep⟩ := hg g want hgo
        have hv := hgv _ _ (I.know g hgm (hdeps g hgdep))
        obtain ⟨⟨og, hog, _, hogd⟩, hgl, _⟩ := hh g hgm
        have hlt : dst g < a.tmps.size := by rw [I.num]; exact hgl
        have hsl : a.tmps[dst g]? = some (.bool (!want)) := by
          have : a.eval (.tmp (dst g)) = a.tmps[dst g] := by simp only [Act.eval, Array.getD_eq_getD_getElem?, Array.getElem?_eq_getElem hlt, Option.getD_some]
          rw [Array.getElem?_eq_getElem hlt, ← this, hv]
        simp only [yielded, hog, Option.bind_some, hogd, hsl]
        cases want <;> rfl
      simp only [hw, Bool.false_eq_true, if_false, hd]
      refine ih _ _ _ ⟨by simp [I.size], ?_, ?_, (put_size _ _ _).trans I.num, (put_defers _ _ _).trans I.dfr, ?_, ?_, I.grow, ?_⟩ ?_
      · intro k hk j hj
        rw [getD_listed hsz] at hk ⊢
        by_cases q : i = j
        · rw [if_pos q]
        · rw [if_neg q]
          by_cases q2 : i = k
          · subst q2; exact hdeps j hj
          · rw [if_neg q2] at hk; exact I.closed k hk j hj
      · intro k hk
        rw [getD_listed hsz, if_neg (by omega)]; exact I.early k hk
      · intro k hk
        rw [put_at, if_neg (hk i him)]; exact I.keep k hk
      · intro j hj hlj
        rw [getD_listed hsz] at hlj
        by_cases q : i = j
        · subst q
          exact hRi _ _
        · rw [if_neg q] at hlj
          rw [eval_put_other (fun e => q (hdi j hj e))]
          exact I.know j hj hlj
      · intro p q hp hq hpq ap aq lp lq
        rw [getD_listed hsz] at lp lq
        by_cases e : i = p
        · subst e
          rw [hAi] at ap; cases ap
        · rw [if_neg e] at lp
          rw [eval_put_other (fun q => e (hdi p hp q))]
          by_cases e2 : i = q
          · subst e2
            rw [hAi] at aq; cases aq
          · rw [if_neg e2] at lq
            rw [eval_put_other (fun r => e2 (hdi q hq r))]
            exact I.diff p q hp hq hpq ap aq lp lq
      · have := cnt_set him hsz hun
        omega
    | false =>
      unfold wpOp
      rw [ho]
      have hw : Region.wanted o (yielded ops a.tmps) = true := by
        unfold Region.wanted
        cases hgo : o.guard with
        | none => rfl
        | some gw =>
          obtain ⟨g, want⟩ := gw
          obtain ⟨hgm, hgdep⟩ := hg g want hgo
          have hv := hgd i him hs o ho g want hgo _ _ (I.know g hgm (hdeps g hgdep))
          obtain ⟨⟨og, hog, _, hogd⟩, hgl, _⟩ := hh g hgm
          have hlt : dst g < a.tmps.size := by rw [I.num]; exact hgl
          have hsl : a.tmps[dst g]? = some (.bool want) := by
            have : a.eval (.tmp (dst g)) = a.tmps[dst g] := by simp only [Act.eval, Array.getD_eq_getD_getElem?, Array.getElem?_eq_getElem hlt, Option.getD_some]
            rw [Array.getElem?_eq_getElem hlt, ← this, hv]
          simp only [yielded, hog, Option.bind_some, hogd, hsl, beq_self_eq_true]
      simp only [hw, if_true]
      refine .inl (Oper.wp_mono ?_ (hstep i him hs o ho a w I.grow (fun k hk => ?_) (fun j hj hjm => I.know j hjm (hdeps j (by simpa using hj)))))
      · rintro a' w' ⟨v, rfl, hRv, hG, hnew⟩
        refine ih _ _ _ ⟨by simp [I.size], ?_, ?_, (put_size _ _ _).trans I.num, (put_defers _ _ _).trans I.dfr, ?_, ?_, hGt _ _ _ I.grow hG, ?_⟩ ?_
        · intro k hk j hj
          rw [getD_listed hsz] at hk ⊢
          by_cases q : i = j
          · rw [if_pos q]
          · rw [if_neg q]
            by_cases q2 : i = k
            · subst q2; exact hdeps j hj
            · rw [if_neg q2] at hk; exact I.closed k hk j hj
        · intro k hk
          rw [getD_listed hsz, if_neg (by omega)]; exact I.early k hk
        · intro k hk
          rw [put_at, if_neg (hk i him)]; exact I.keep k hk
        · intro j hj hlj
          rw [getD_listed hsz] at hlj
          by_cases q : i = j
          · subst q
            rw [eval_put_same (by rw [I.num]; exact hdl)]
            exact hRv
          · rw [if_neg q] at hlj
            rw [eval_put_other (fun e => q (hdi j hj e))]
            exact hR j hj _ _ _ (I.know j hj hlj) hG
        · intro p q hp hq hpq ap aq lp lq
          rw [getD_listed hsz] at lp lq
          by_cases e : i = p
          · subst e
            rw [eval_put_same (by rw [I.num]; exact hdl), eval_put_other (fun e => hpq (hdi q hq e))]
            rw [if_neg hpq] at lq
            intro e
            exact hnew ap (by rw [e]; exact hA q hq aq _ _ (I.know q hq lq))
          · rw [if_neg e] at lp
            rw [eval_put_other (fun q => e (hdi p hp q))]
            by_cases e2 : i = q
            · subst e2
              rw [eval_put_same (by rw [I.num]; exact hdl)]
              intro e3
              exact hnew aq (by rw [← e3]; exact hA p hp ap _ _ (I.know p hp lp))
            · rw [if_neg e2] at lq
              rw [eval_put_other (fun r => e2 (hdi q hq r))]
              exact I.diff p q hp hq hpq ap aq lp lq
        · have := cnt_set him hsz hun
          omega
      · have := I.keep k hk
        simp only [Act.eval, Array.getD_eq_getD_getElem?, this]
/-- A region that draws: what its first m operations leave, shown one by one. -/
theorem region_skip (sk : Nat → Bool) {id : Nat} {a0 : Act} {w : World} (hmix : P.follows .mixedOrders = true) (G : World → World → Prop) (R : Nat → Value → World → Prop) (A : Nat → Bool) (dst : Nat → Nat) (m : Nat)
    (hG0 : G w.drew w.drew) (hGt : ∀ w1 w2 w3, G w1 w2 → G w2 w3 → G w1 w3) (hR : ∀ i, i < m → ∀ v w w', R i v w → G w w' → R i v w') (hA : ∀ i, i < m → A i = true → ∀ v w, R i v w → InW v w) (hgd : ∀ i, i < m → sk i = false → ∀ o, ops[i]? = some o → ∀ g want, o.guard = some (g, want) → ∀ v w, R g v w → v = .bool want) (hsk : ∀ i, i < m → sk i = true → A i = false ∧ (∀ v w, R i v w) ∧ ∀ o, ops[i]? = some o → ∃ g want, o.guard = some (g, want) ∧ ∀ v w, R g v w → v = .bool (!want))
    (hhead : headB ops m dst a0.tmps.size = true) (hlate : lateB ops m = true) (hback : backB ops m = true) (hm : decide (m ≤ ops.size) = true)
    (hstep : ∀ i, i < m → sk i = false → ∀ o, ops[i]? = some o → ∀ a w', G w.drew w' → (∀ k, (∀ j, j < m → dst j ≠ k) → a.eval (.tmp k) = a0.eval (.tmp k)) → (∀ j, (depsOf ops i).contains j = true → j < m → R j (a.eval (.tmp (dst j))) w') →
      Oper.wp P o a w' (fun a' w'' => ∃ v, a' = a.put (some (dst i)) v ∧ R i v w'' ∧ G w' w'' ∧ (A i = true → ¬ InW v w')) Q)
    (hfin : ∀ (x : Nat → Value) (w' : World), G w.drew w' → (∀ i, i < m → R i (x i) w') → (∀ i j, i < m → j < m → i ≠ j → A i = true → A j = true → x i ≠ x j) → wpAny P .any ops Q (ops.size - m) (doneB ops.size m) (putAll a0 dst x m) w') : (Code.region id ops true).wp P Q a0 w := by
  refine wp_region_any hmix ?_
  have hm := of_decide_eq_true hm
  have hc : cntB (Array.replicate ops.size false) m = m := by
    unfold cntB
    rw [List.filter_eq_self.2]
    · simp
    · intro i hi
      have : i < ops.size := by have := List.mem_range.1 hi; omega
      simp [Array.getD_eq_getD_getElem?, this]
  have hz : ∀ k, (Array.replicate ops.size false).getD k false = false := by
    intro k
    simp only [Array.getD_eq_getD_getElem?, Array.getElem?_replicate]
    split <;> rfl
  have h := invs_walk (P := P) (Q := Q) sk G R A dst m a0 w.drew hGt hR hA hgd hsk hhead hlate hback hm hstep hfin m (Array.replicate ops.size false) a0 w.drew
    ⟨by simp, (show Closed ops _ from fun i hi => by (rw [hz] at hi; cases hi)), fun i _ => hz i, rfl, rfl, fun _ _ => rfl, fun i _ hi => by (rw [hz] at hi; cases hi), hG0, fun i j _ _ _ _ _ hi => by (rw [hz] at hi; cases hi)⟩ hc
  rw [show m + (ops.size - m) = ops.size by omega] at h
  exact h
end
end Go.Proofs.Ytgmhhdpggnmipaa.E
