/- laws.lives14 over this seat's program: true. Written by gen_lw3.py. -/
import Derived.Test.YtgmhhdpggnmipaaLw2
import Derived.Test.YtgmhhdpggnmipaaSp2
import Derived.Test.YtgmhhdpggnmipaaOw
import Derived.Test.YtgmhhdpggnmipaaInv
import Derived.SliceStrings
import Derived.WideShapes
import Derived.Test.YtgmhhdpggnmipaaFs7
import Derived.Test.YtgmhhdpggnmipaaPQx5
import Derived.Test.YtgmhhdpggnmipaaMhs
namespace Go.Proofs.Ytgmhhdpggnmipaa.E
open Go.RowKit Go.Proofs
set_option linter.unusedVariables false
set_option linter.unusedSimpArgs false

def liveS : SetP := ⟨[⟨[110, 117, 109], [110], [], []⟩], false, false, 0⟩
theorem live_right : Right liveS := right_of (by decide) (by decide +kernel)
theorem live_goes : goes liveS none st0 [[45, 110, 53], [120]] = ⟨[(0, [53])], [[120]], -1, .no⟩ := by kernel_rfl

theorem live_set (w : World) : SetOK ((w.alloc (.cells #[.string ⟨#[110, 117, 109]⟩, .string ⟨#[110]⟩, .string ⟨#[]⟩, .slice none 0 0] 47)).alloc (.cells #[.string ⟨#[45, 110, 53]⟩, .string ⟨#[120]⟩] 9)) (some ⟨w.heap.size, 0, none⟩) liveS := by
  have h0 : ((w.alloc (.cells #[.string ⟨#[110, 117, 109]⟩, .string ⟨#[110]⟩, .string ⟨#[]⟩, .slice none 0 0] 47)).alloc (.cells #[.string ⟨#[45, 110, 53]⟩, .string ⟨#[120]⟩] 9)).heap[w.heap.size]? = some (.cells #[.string ⟨#[110, 117, 109]⟩, .string ⟨#[110]⟩, .string ⟨#[]⟩, .slice none 0 0] 47 (0, 0)) :=
    block_kept (heap_alloc_new w _) ((Below.refl _ _).alloc (Nat.le_refl _) _)
  generalize (w.alloc (.cells #[.string ⟨#[110, 117, 109]⟩, .string ⟨#[110]⟩, .string ⟨#[]⟩, .slice none 0 0] 47)).alloc (.cells #[.string ⟨#[45, 110, 53]⟩, .string ⟨#[120]⟩] 9) = W at h0 ⊢
  have hi : ∀ i, i < liveS.flags.length → i = 0 := fun i h => by have : i < 1 := h; omega
  refine ⟨?_, ?_, live_right, by decide, ?_⟩
  · intro i h
    obtain rfl := hi i h
    exact ⟨w.heap.size, 0, .slice none 0 0, rfl, (cell_blk h0 0).trans rfl, (cell_blk h0 1).trans rfl, (cell_blk h0 2).trans rfl, (cell_blk h0 3).trans rfl, Texts.nil W⟩
  · intro i h b o v e hc A' n c hv
    obtain rfl := hi i h
    cases e
    have := (cell_blk h0 3).symm.trans hc
    subst hv
    cases this
  · intro i h
    obtain rfl := hi i h
    show ([110, 117, 109] : Txt).length ≤ 2147483647
    decide
theorem live_args (w : World) (o : Obj) : TextIn ((w.alloc o).alloc (.cells #[.string ⟨#[45, 110, 53]⟩, .string ⟨#[120]⟩] 9)) (.slice (some ⟨w.heap.size + 1, 0, none⟩) 2 2) ([[45, 110, 53], [120]].map mkT) := by
  have h0 : ((w.alloc o).alloc (.cells #[.string ⟨#[45, 110, 53]⟩, .string ⟨#[120]⟩] 9)).heap[w.heap.size + 1]? = some (.cells #[.string ⟨#[45, 110, 53]⟩, .string ⟨#[120]⟩] 9 (0, 0)) := by
    have h := heap_alloc_new (w.alloc o) (.cells #[.string ⟨#[45, 110, 53]⟩, .string ⟨#[120]⟩] 9)
    have e : (w.alloc o).heap.size = w.heap.size + 1 := by simp
    rw [e] at h; exact h
  refine ⟨_, 2, rfl, ?_, by decide, by decide, (fun h => by cases h), (fun a h => by cases h; exact lt_of_block h0)⟩
  intro i hi
  have hi : i < 2 := hi
  refine ⟨_, 0, rfl, ?_⟩
  match i, hi with
  | 0, _ => exact (cell_blk h0 0).trans rfl
  | 1, _ => exact (cell_blk h0 1).trans rfl

set_option maxRecDepth 100000 in
set_option maxHeartbeats 1600000 in
theorem lives_c (w : World) : Calls Try.prog 25 #[] w fun e w' => e = .returned (.bool true) ∧ Below w.heap.size w w' := by
  have hb2 : Below w.heap.size w ((w.alloc (.cells #[.string ⟨#[110, 117, 109]⟩, .string ⟨#[110]⟩, .string ⟨#[]⟩, .slice none 0 0] 47)).alloc (.cells #[.string ⟨#[45, 110, 53]⟩, .string ⟨#[120]⟩] 9)) := ((Below.refl _ w).alloc (Nat.le_refl _) _).alloc (by simp) _
  have hp := parse_c (live_set w) 1 (live_args w _) (by decide) (by decide)
  rw [live_goes] at hp
  have HP := Lib.hid (hp.mono (R' := fun e w3 => ∃ (gg gc tb t9 tc : Nat) (ca : Option Addr) (cn cc : Nat), e = .returned (.agg #[.int .i64 0, .string ⟨#[]⟩, .string ⟨#[]⟩, .string ⟨#[]⟩, .int .i64 (-1), .slice (some ⟨gg, 0, none⟩) 1 gc, .slice (some ⟨tb, t9, none⟩) 1 tc, .int .i64 (-1), .slice ca cn cc, .bool true, .bool false]) ∧
      w3.cell? ⟨gg, 1, none⟩ = some (.string ⟨#[53]⟩) ∧ w3.cell? ⟨tb, t9, none⟩ = some (.string ⟨#[120]⟩) ∧ Below w.heap.size w w3) (by
    rintro e w3 ⟨u, rfl, ho, hb3⟩
    obtain ⟨G, A, C, rfl, hin⟩ := ho.is
    obtain ⟨⟨ga, gc, rfl, hg, _⟩, ⟨ta, tc, rfl, ht, _⟩, ⟨ca, cc, rfl, _⟩⟩ := hin
    obtain ⟨gg, rfl, q1⟩ := hg 1 (.string (mkT [53])) rfl
    obtain ⟨tb, t9, ht0, q2⟩ := ht 0 (by decide)
    subst ht0
    exact ⟨gg, gc, tb, t9, tc, ca, _, cc, rfl, q1, q2, hb2.trans (hb3.mono hb2.size)⟩))
  clear hp hb2
  go_enter Try.func25, Try.ntmps25
  go_wp2_with ((with_reducible go_at_call 26); go_loud (refine (HP.out).mono ?_; rintro e w3 ⟨gg, gc, tb, t9, tc, ca, cn, cc, rfl, q1, q2, hb3⟩; have l1 : gg < w3.heap.size := (by have := World.block_lt_of_cell? w3 _ q1; simpa using this); have l2 : tb < w3.heap.size := (by have := World.block_lt_of_cell? w3 _ q2; simpa using this); have HB3 := Lib.hid hb3; clear hb3))
  go_ret
  exact ⟨rfl, HB3.out.alloc HB3.out.size _⟩
end Go.Proofs.Ytgmhhdpggnmipaa.E

namespace Go.Proofs.Ytgmhhdpggnmipaa.E
open Go.RowKit Go.Proofs
set_option linter.unusedVariables false
set_option linter.unusedSimpArgs false
theorem eNo_zero {e : Er} : eNo e = 0 ↔ e = .no := by cases e <;> simp [eNo]
/-- The value of a set. -/
def setV (A : Option Addr) (S : SetP) (cap : Nat) : Value := .agg #[.slice A S.flags.length cap, .bool S.plain, .bool S.unknown, .int .i64 S.fold]
theorem map_mkT_inj {a b : List Txt} (h : a.map mkT = b.map mkT) : a = b := by
  have := congrArg (List.map fun s : ByteArray => s.data.toList) h
  rw [List.map_map, List.map_map] at this
  have e : (fun s : ByteArray => s.data.toList) ∘ mkT = id := by funext t; exact mkT_list t
  rw [e] at this
  simpa using this
theorem map_snoc (L : List Txt) : L.map mkT ++ [mkT [122]] = (L ++ [[122]]).map mkT := by simp
theorem one_text {w : World} {g : Nat} {s : ByteArray} {T : TypeId} (h : w.heap[g]? = some (.cells #[.string s] T (0, 0))) : TextIn w (.slice (some ⟨g, 0, none⟩) 1 1) [s] := by
  refine ⟨_, 1, rfl, ?_, Nat.le_refl _, by decide, (fun h => by cases h), (fun a e => by cases e; exact lt_of_block h)⟩
  intro i hi
  have hi : i < 1 := hi
  obtain rfl : i = 0 := by omega
  exact ⟨g, 0, rfl, (cell_blk h 0).trans rfl⟩
theorem rows1 {w : World} {g : Nat} {v : Value} {xs : List ByteArray} {T : TypeId} (h : w.heap[g]? = some (.cells #[v] T (0, 0))) (h0 : TextIn w v xs) : RowsIn w g [v] [xs] :=
  ⟨⟨T, h⟩, rfl, fun i h1 h2 => by
    have : i < 1 := h1
    obtain rfl : i = 0 := by omega
    exact h0⟩
theorem rows2 {w : World} {g : Nat} {v u : Value} {xs ys : List ByteArray} {T : TypeId} (h : w.heap[g]? = some (.cells #[v, u] T (0, 0))) (h0 : TextIn w v xs) (h1 : TextIn w u ys) : RowsIn w g [v, u] [xs, ys] :=
  ⟨⟨T, h⟩, rfl, fun i q1 q2 => by
    have : i < 2 := q1
    match i, this with
    | 0, _ => exact h0
    | 1, _ => exact h1⟩
theorem rows3 {w : World} {g : Nat} {v u t : Value} {xs ys zs : List ByteArray} {T : TypeId} (h : w.heap[g]? = some (.cells #[v, u, t] T (0, 0))) (h0 : TextIn w v xs) (h1 : TextIn w u ys) (h2 : TextIn w t zs) : RowsIn w g [v, u, t] [xs, ys, zs] :=
  ⟨⟨T, h⟩, rfl, fun i q1 q2 => by
    have : i < 3 := q1
    match i, this with
    | 0, _ => exact h0
    | 1, _ => exact h1
    | 2, _ => exact h2⟩
theorem not_in {w : World} : ¬ InW (.pointer (some ⟨w.heap.size, 0, none⟩)) w := by
  rintro ⟨g, e, h⟩
  simp only [Value.pointer.injEq, Option.some.injEq, Addr.mk.injEq] at e
  omega
theorem in_of {w : World} {g : Nat} {o : Obj} (h : w.heap[g]? = some o) : InW (.pointer (some ⟨g, 0, none⟩)) w := ⟨g, rfl, lt_of_block h⟩
theorem RowsIn.below {w w' : World} {g : Nat} {vs : List Value} {ls : List (List ByteArray)} (h : RowsIn w g vs ls) (hb : Below w.heap.size w w') : RowsIn w' g vs ls := by
  obtain ⟨⟨T, h1⟩, h2, h3⟩ := h
  exact ⟨⟨T, block_kept h1 hb⟩, h2, fun i a b => (h3 i a b).below hb⟩
end Go.Proofs.Ytgmhhdpggnmipaa.E

namespace Go.Proofs.Ytgmhhdpggnmipaa.E
open Go.RowKit Go.Proofs
set_option linter.unusedVariables false
set_option linter.unusedSimpArgs false
section
variable {P : Program} {ops : Array Oper} {Q : Exit → Act → World → Prop}
/-- The operations ahead of m, in whatever order. -/
theorem invs_walk (sk : Nat → Bool) (G : World → World → Prop) (R : Nat → Value → World → Prop) (A : Nat → Bool) (dst : Nat → Nat) (m : Nat) (a0 : Act) (w0 : World)
    (hGt : ∀ w1 w2 w3, G w1 w2 → G w2 w3 → G w1 w3) (hR : ∀ i, i < m → ∀ v w w', R i v w → G w w' → R i v w') (hA : ∀ i, i < m → A i = true → ∀ v w, R i v w → InW v w) (hgd : ∀ i, i < m → sk i = false → ∀ o, ops[i]? = some o → ∀ g want, o.guard = some (g, want) → ∀ v w, R g v w → v = .bool want) (hsk : ∀ i, i < m → sk i = true → A i = false ∧ (∀ v w, R i v w) ∧ ∀ o, ops[i]? = some o → ∃ g want, o.guard = some (g, want) ∧ ∀ v w, R g v w → v = .bool (!want))
    (hhead : headB ops m dst a0.tmps.size = true) (hlate : lateB ops m = true) (hback : backB ops m = true) (hm : m ≤ ops.size)
    (hstep : ∀ i, i < m → sk i = false → ∀ o, ops[i]? = some o → ∀ a w, G w0 w → (∀ k, (∀ j, j < m → dst j ≠ k) → a.eval (.tmp k) = a0.eval (.tmp k)) → (∀ j, (depsOf ops i).contains j = true → j < m → R j (a.eval (.tmp (dst j))) w) →
      Oper.wp P o a w (fun a' w' => ∃ v, a' = a.put (some (dst i)) v ∧ R i v w' ∧ G w w' ∧ (A i = true → ¬ InW v w)) Q)
    (hfin : ∀ (x : Nat → Value) (w : World), G w0 w → (∀ i, i < m → R i (x i) w) → (∀ i j, i < m → j < m → i ≠ j → A i = true → A j = true → x i ≠ x j) → wpAny P .any ops Q (ops.size - m) (doneB ops.size m) (putAll a0 dst x m) w) :
    ∀ (n : Nat) (listed : Array Bool) (a : Act) (w : World), MidI ops G R A dst m a0 w0 listed a w → cntB listed m = n → wpAny P .any ops Q (n + (ops.size - m)) listed a w := by
  have hh : ∀ i, i < m → (∃ o, ops[i]? = some o ∧ (∀ g want, o.guard = some (g, want) → g < m ∧ g ∈ depsOf ops i) ∧ o.dst = some (dst i)) ∧ dst i < a0.tmps.size ∧ ∀ j, j < m → dst i = dst j → i = j := by
    intro i hi
    unfold headB at hhead
    have h := (List.all_eq_true.1 hhead) i (List.mem_range.2 hi)
    simp only [Bool.and_eq_true, decide_eq_true_eq, List.all_eq_true, List.mem_range] at h
    obtain ⟨⟨h1, h2⟩, h3⟩ := h
    refine ⟨?_, h2, h3⟩
    cases ho : ops[i]? with
    | none => rw [ho] at h1; cases h1
    | some o =>
      rw [ho] at h1
      simp only [Bool.and_eq_true, beq_iff_eq] at h1
      refine ⟨o, rfl, fun g want hg => ?_, h1.2⟩
      have h4 := h1.1
      rw [hg] at h4
      simp only [Bool.and_eq_true, decide_eq_true_eq] at h4
      exact ⟨h4.1, by simpa using h4.2⟩
  have hl : ∀ i, m ≤ i → i < ops.size → ∀ j, j < m → j ∈ ancOf ops m i := by
    intro i h1 h2 j hj
    unfold lateB at hlate
    have h := (List.all_eq_true.1 hlate) i (List.mem_range.2 h2)
    simp only [Bool.or_eq_true, decide_eq_true_eq, List.all_eq_true, List.mem_range] at h
    rcases h with h | h
    · omega
    · simpa using h j hj
  intro n
  induction n with
  | zero =>
    intro listed a w I hc
    have hall := cnt_zero hc
    have e1 : listed = doneB ops.size m := by
      apply Array.ext_getElem?
      intro k
      have hd : (doneB ops.size m)[k]? = if k < ops.size then some (decide (k < m)) else none := by
        unfold doneB
        by_cases q : k < ops.size
        · rw [if_pos q]; simp [q]
        · rw [if_neg q]; simp; omega
      rw [hd]
      by_cases q : k < ops.size
      · rw [if_pos q]
        have hk : k < listed.size := by rw [I.size]; exact q
        rw [Array.getElem?_eq_getElem hk]
        by_cases qm : k < m
        · have := hall k qm
          simp only [Array.getD_eq_getD_getElem?, Array.getElem?_eq_getElem hk, Option.getD_some] at this
          rw [this, decide_eq_true qm]
        · have := I.early k (by omega)
          simp only [Array.getD_eq_getD_getElem?, Array.getElem?_eq_getElem hk, Option.getD_some] at this
          rw [this, decide_eq_false qm]
      · rw [if_neg q, Array.getElem?_eq_none (by rw [I.size]; omega)]
    have e2 : a = putAll a0 dst (fun i => a.eval (.tmp (dst i))) m := by
      have hs := putAll_size a0 dst (fun i => a.eval (.tmp (dst i))) m
      have hp := putAll_at a0 dst (fun i => a.eval (.tmp (dst i))) (fun _ => .inr trivial) m (fun i hi j hj => (hh i hi).2.2 j hj) (fun i hi => (hh i hi).2.1)
      have ht : a.tmps = (putAll a0 dst (fun i => a.eval (.tmp (dst i))) m).tmps := by
        apply Array.ext_getElem?
        intro k
        obtain ⟨p1, p2⟩ := hp k
        by_cases q : ∃ i, i < m ∧ dst i = k
        · obtain ⟨i, hi, rfl⟩ := q
          rw [p1 i hi rfl]
          have hlt : dst i < a.tmps.size := by rw [I.num]; exact (hh i hi).2.1
          simp only [Act.eval, Array.getD_eq_getD_getElem?, Array.getElem?_eq_getElem hlt, Option.getD_some]
        · have hne : ∀ i, i < m → dst i ≠ k := fun i hi e => q ⟨i, hi, e⟩
          rw [p2 hne]; exact I.keep k hne
      cases a with
      | mk t d =>
        have hd : d = (putAll a0 dst (fun i => (Act.mk t d).eval (.tmp (dst i))) m).defers := I.dfr.trans hs.2.symm
        simp only at ht
        generalize putAll a0 dst (fun i => (Act.mk t d).eval (.tmp (dst i))) m = b at ht hd ⊢
        cases b; simp only at ht hd; rw [ht, hd]
    rw [Nat.zero_add, e1, e2]
    exact hfin _ w I.grow (fun i hi => I.know i hi (hall i hi)) (fun i j hi hj hij ai aj => I.diff i j hi hj hij ai aj (hall i hi) (hall j hj))
  | succ n ih =>
    intro listed a w I hc
    have hex : ∃ i, i < m ∧ listed.getD i false = false := by
      by_cases q : ∃ i, i < m ∧ listed.getD i false = false
      · exact q
      · have : cntB listed m = 0 := by
          unfold cntB
          rw [List.filter_eq_nil_iff.2]
          · rfl
          · intro i hi
            have : ¬ listed.getD i false = false := fun e => q ⟨i, List.mem_range.1 hi, e⟩
            simpa using this
        omega
    have hless : ∀ i ∈ Region.ready .any ops listed, i < m := by
      intro i hi
      by_cases q : i < m
      · exact q
      · obtain ⟨_, o, ho, _⟩ := mem_ready.1 hi
        have hlt : i < ops.size := (Array.getElem?_eq_some_iff.1 ho).1
        obtain ⟨j, hj, hf⟩ := hex
        have := anc_listed I.closed m i (deps_listed hi) j (hl i (by omega) hlt j hj)
        rw [this] at hf; cases hf
    have hmore : Region.ready .any ops listed ≠ [] := by
      obtain ⟨i, ⟨hi, hu⟩, hmin⟩ := least_of hex
      obtain ⟨⟨o, ho, _⟩, _⟩ := hh i hi
      have hs : i < listed.size := by rw [I.size]; omega
      have hr : i ∈ Region.ready .any ops listed := mem_ready.2 ⟨by
        simp only [Array.getD_eq_getD_getElem?, Array.getElem?_eq_getElem hs, Option.getD_some] at hu ⊢; exact hu, o, ho, fun e he hb => by
        have hd : e.on ∈ depsOf ops i := by
          unfold depsOf
          rw [ho]
          exact List.mem_map.2 ⟨e, List.mem_filter.2 ⟨by simpa using he, hb⟩, rfl⟩
        have hlt : e.on < i := by
          unfold backB at hback
          have h := (List.all_eq_true.1 hback) i (List.mem_range.2 hi)
          have h := (List.all_eq_true.1 h) _ hd
          simpa using h
        have := hmin e.on hlt
        by_cases q : listed.getD e.on false = true
        · exact q
        · exact absurd ⟨by omega, by simpa using q⟩ this⟩
      intro e
      rw [e] at hr
      cases hr
    rw [show n + 1 + (ops.size - m) = (n + (ops.size - m)) + 1 by omega]
    refine ⟨fun h => absurd h hmore, fun i hi => ?_⟩
    have him := hless i hi
    obtain ⟨⟨o, ho, hg, hd⟩, hdl, hdi⟩ := hh i him
    obtain ⟨hsz, hun⟩ := getD_true_false (mem_ready.1 hi).1
    have hdeps := deps_listed hi
    have hsk2 := hsk i him
    cases hs : sk i with
    | true =>
      obtain ⟨hAi, hRi, hgi⟩ := hsk2 hs
      obtain ⟨g, want, hgo, hgv⟩ := hgi o ho
      unfold wpOp
      rw [ho]
      have hw : Region.wanted o (yielded ops a.tmps) = false := by
        unfold Region.wanted
        rw [hgo]
        obtain ⟨hgm, hgdep⟩ := hg g want hgo
        have hv := hgv _ _ (I.know g hgm (hdeps g hgdep))
        obtain ⟨⟨og, hog, _, hogd⟩, hgl, _⟩ := hh g hgm
        have hlt : dst g < a.tmps.size := by rw [I.num]; exact hgl
        have hsl : a.tmps[dst g]? = some (.bool (!want)) := by
          have : a.eval (.tmp (dst g)) = a.tmps[dst g] := by simp only [Act.eval, Array.getD_eq_getD_getElem?, Array.getElem?_eq_getElem hlt, Option.getD_some]
          rw [Array.getElem?_eq_getElem hlt, ← this, hv]
        simp only [yielded, hog, Option.bind_some, hogd, hsl]
        cases want <;> rfl
      simp only [hw, Bool.false_eq_true, if_false, hd]
      refine ih _ _ _ ⟨by simp [I.size], ?_, ?_, (put_size _ _ _).trans I.num, (put_defers _ _ _).trans I.dfr, ?_, ?_, I.grow, ?_⟩ ?_
      · intro k hk j hj
        rw [getD_listed hsz] at hk ⊢
        by_cases q : i = j
        · rw [if_pos q]
        · rw [if_neg q]
          by_cases q2 : i = k
          · subst q2; exact hdeps j hj
          · rw [if_neg q2] at hk; exact I.closed k hk j hj
      · intro k hk
        rw [getD_listed hsz, if_neg (by omega)]; exact I.early k hk
      · intro k hk
        rw [put_at, if_neg (hk i him)]; exact I.keep k hk
      · intro j hj hlj
        rw [getD_listed hsz] at hlj
        by_cases q : i = j
        · subst q
          exact hRi _ _
        · rw [if_neg q] at hlj
          rw [eval_put_other (fun e => q (hdi j hj e))]
          exact I.know j hj hlj
      · intro p q hp hq hpq ap aq lp lq
        rw [getD_listed hsz] at lp lq
        by_cases e : i = p
        · subst e
          rw [hAi] at ap; cases ap
        · rw [if_neg e] at lp
          rw [eval_put_other (fun q => e (hdi p hp q))]
          by_cases e2 : i = q
          · subst e2
            rw [hAi] at aq; cases aq
          · rw [if_neg e2] at lq
            rw [eval_put_other (fun r => e2 (hdi q hq r))]
            exact I.diff p q hp hq hpq ap aq lp lq
      · have := cnt_set him hsz hun
        omega
    | false =>
      unfold wpOp
      rw [ho]
      have hw : Region.wanted o (yielded ops a.tmps) = true := by
        unfold Region.wanted
        cases hgo : o.guard with
        | none => rfl
        | some gw =>
          obtain ⟨g, want⟩ := gw
          obtain ⟨hgm, hgdep⟩ := hg g want hgo
          have hv := hgd i him hs o ho g want hgo _ _ (I.know g hgm (hdeps g hgdep))
          obtain ⟨⟨og, hog, _, hogd⟩, hgl, _⟩ := hh g hgm
          have hlt : dst g < a.tmps.size := by rw [I.num]; exact hgl
          have hsl : a.tmps[dst g]? = some (.bool want) := by
            have : a.eval (.tmp (dst g)) = a.tmps[dst g] := by simp only [Act.eval, Array.getD_eq_getD_getElem?, Array.getElem?_eq_getElem hlt, Option.getD_some]
            rw [Array.getElem?_eq_getElem hlt, ← this, hv]
          simp only [yielded, hog, Option.bind_some, hogd, hsl, beq_self_eq_true]
      simp only [hw, if_true]
      refine .inl (Oper.wp_mono ?_ (hstep i him hs o ho a w I.grow (fun k hk => ?_) (fun j hj hjm => I.know j hjm (hdeps j (by simpa using hj)))))
      · rintro a' w' ⟨v, rfl, hRv, hG, hnew⟩
        refine ih _ _ _ ⟨by simp [I.size], ?_, ?_, (put_size _ _ _).trans I.num, (put_defers _ _ _).trans I.dfr, ?_, ?_, hGt _ _ _ I.grow hG, ?_⟩ ?_
        · intro k hk j hj
          rw [getD_listed hsz] at hk ⊢
          by_cases q : i = j
          · rw [if_pos q]
          · rw [if_neg q]
            by_cases q2 : i = k
            · subst q2; exact hdeps j hj
            · rw [if_neg q2] at hk; exact I.closed k hk j hj
        · intro k hk
          rw [getD_listed hsz, if_neg (by omega)]; exact I.early k hk
        · intro k hk
          rw [put_at, if_neg (hk i him)]; exact I.keep k hk
        · intro j hj hlj
          rw [getD_listed hsz] at hlj
          by_cases q : i = j
          · subst q
            rw [eval_put_same (by rw [I.num]; exact hdl)]
            exact hRv
          · rw [if_neg q] at hlj
            rw [eval_put_other (fun e => q (hdi j hj e))]
            exact hR j hj _ _ _ (I.know j hj hlj) hG
        · intro p q hp hq hpq ap aq lp lq
          rw [getD_listed hsz] at lp lq
          by_cases e : i = p
          · subst e
            rw [eval_put_same (by rw [I.num]; exact hdl), eval_put_other (fun e => hpq (hdi q hq e))]
            rw [if_neg hpq] at lq
            intro e
            exact hnew ap (by rw [e]; exact hA q hq aq _ _ (I.know q hq lq))
          · rw [if_neg e] at lp
            rw [eval_put_other (fun q => e (hdi p hp q))]
            by_cases e2 : i = q
            · subst e2
              rw [eval_put_same (by rw [I.num]; exact hdl)]
              intro e3
              exact hnew aq (by rw [← e3]; exact hA p hp ap _ _ (I.know p hp lp))
            · rw [if_neg e2] at lq
              rw [eval_put_other (fun r => e2 (hdi q hq r))]
              exact I.diff p q hp hq hpq ap aq lp lq
        · have := cnt_set him hsz hun
          omega
      · have := I.keep k hk
        simp only [Act.eval, Array.getD_eq_getD_getElem?, this]
/-- A region that draws: what its first m operations leave, shown one by one. -/
theorem region_skip (sk : Nat → Bool) {id : Nat} {a0 : Act} {w : World} (hmix : P.follows .mixedOrders = true) (G : World → World → Prop) (R : Nat → Value → World → Prop) (A : Nat → Bool) (dst : Nat → Nat) (m : Nat)
    (hG0 : G w.drew w.drew) (hGt : ∀ w1 w2 w3, G w1 w2 → G w2 w3 → G w1 w3) (hR : ∀ i, i < m → ∀ v w w', R i v w → G w w' → R i v w') (hA : ∀ i, i < m → A i = true → ∀ v w, R i v w → InW v w) (hgd : ∀ i, i < m → sk i = false → ∀ o, ops[i]? = some o → ∀ g want, o.guard = some (g, want) → ∀ v w, R g v w → v = .bool want) (hsk : ∀ i, i < m → sk i = true → A i = false ∧ (∀ v w, R i v w) ∧ ∀ o, ops[i]? = some o → ∃ g want, o.guard = some (g, want) ∧ ∀ v w, R g v w → v = .bool (!want))
    (hhead : headB ops m dst a0.tmps.size = true) (hlate : lateB ops m = true) (hback : backB ops m = true) (hm : decide (m ≤ ops.size) = true)
    (hstep : ∀ i, i < m → sk i = false → ∀ o, ops[i]? = some o → ∀ a w', G w.drew w' → (∀ k, (∀ j, j < m → dst j ≠ k) → a.eval (.tmp k) = a0.eval (.tmp k)) → (∀ j, (depsOf ops i).contains j = true → j < m → R j (a.eval (.tmp (dst j))) w') →
      Oper.wp P o a w' (fun a' w'' => ∃ v, a' = a.put (some (dst i)) v ∧ R i v w'' ∧ G w' w'' ∧ (A i = true → ¬ InW v w')) Q)
    (hfin : ∀ (x : Nat → Value) (w' : World), G w.drew w' → (∀ i, i < m → R i (x i) w') → (∀ i j, i < m → j < m → i ≠ j → A i = true → A j = true → x i ≠ x j) → wpAny P .any ops Q (ops.size - m) (doneB ops.size m) (putAll a0 dst x m) w') : (Code.region id ops true).wp P Q a0 w := by
  refine wp_region_any hmix ?_
  have hm := of_decide_eq_true hm
  have hc : cntB (Array.replicate ops.size false) m = m := by
    unfold cntB
    rw [List.filter_eq_self.2]
    · simp
    · intro i hi
      have : i < ops.size := by have := List.mem_range.1 hi; omega
      simp [Array.getD_eq_getD_getElem?, this]
  have hz : ∀ k, (Array.replicate ops.size false).getD k false = false := by
    intro k
    simp only [Array.getD_eq_getD_getElem?, Array.getElem?_replicate]
    split <;> rfl
  have h := invs_walk (P := P) (Q := Q) sk G R A dst m a0 w.drew hGt hR hA hgd hsk hhead hlate hback hm hstep hfin m (Array.replicate ops.size false) a0 w.drew
    ⟨by simp, (show Closed ops _ from fun i hi => by (rw [hz] at hi; cases hi)), fun i _ => hz i, rfl, rfl, fun _ _ => rfl, fun i _ hi => by (rw [hz] at hi; cases hi), hG0, fun i j _ _ _ _ _ hi => by (rw [hz] at hi; cases hi)⟩ hc
  rw [show m + (ops.size - m) = ops.size by omega] at h
  exact h
end
end Go.Proofs.Ytgmhhdpggnmipaa.E

namespace Go.Proofs.Ytgmhhdpggnmipaa.E
open Go.ChangeShapes Go.WideShapes Go.RowKit
set_option linter.unusedVariables false
set_option linter.unusedSimpArgs false

theorem list_of_each9 {α : Type} {Q : Nat → α → Prop} : ∀ n, (∀ i, i < n → ∃ x, Q i x) → ∃ L : List α, L.length = n ∧ ∀ i (h : i < L.length), Q i L[i]
  | 0, _ => ⟨[], rfl, fun i h => by simp at h⟩
  | n + 1, h => by
    obtain ⟨L, hl, hq⟩ := list_of_each9 n (fun i hi => h i (by omega))
    obtain ⟨x, hx⟩ := h n (by omega)
    refine ⟨L ++ [x], by simp [hl], fun i hi => ?_⟩
    by_cases hlt : i < L.length
    · rw [List.getElem_append_left hlt]; exact hq i hlt
    · have : i = n := by simp at hi; omega
      subst this
      rw [List.getElem_append_right (by omega)]
      simpa using hx
theorem lt_of_cell9 {w : World} {a : Addr} {v : Value} (h : w.cell? a = some v) : a.block < w.heap.size := by
  unfold World.cell? at h
  by_cases hl : a.block < w.heap.size
  · exact hl
  · rw [Array.getElem?_eq_none (by omega)] at h; simp at h
theorem add_mid9 (b o j : Nat) : (⟨b, o, none⟩ : Addr).add j = ⟨b, o + j, none⟩ := by unfold Addr.add; split <;> simp_all
theorem texts_of_trod9 {H : Type} {enc : TypeId × Value → H} {P : Program} {W : World} {t e : TypeId} {fuel : Nat} {cs : List Value} {x : DataW H × List MemPlace}
    (ht : P.underlying t = some (.slice e)) (he : P.underlying e = some .string) (hc : P.cellsOf e = 1) (h : DataW.trod enc P W 0 (fun _ => true) true fuel t cs = some x) :
    ∃ v xs, cs = [v] ∧ Texts W v xs := by
  rcases open_strings ht he hc h with ⟨hcs, hx⟩ | ⟨a, len', cap', zs, hcs, _, hl, hm, hz, hx, hcell, hwz⟩
  · exact ⟨_, [], hcs, Texts.nil W⟩
  · simp only [if_true] at hz
    unfold maxLen at hm
    have hn : (zs.take len').length = len' := by rw [List.length_take]; omega
    refine ⟨_, zs.take len', hcs, ⟨some a, cap', by rw [hn], ?_, by rw [hn]; omega, by omega, fun h => by cases h⟩⟩
    intro i hi
    rw [hn] at hi
    obtain ⟨b, o, spot⟩ := a
    have hc := hcell i (by omega)
    obtain rfl : spot = none := by simpa [Addr.add] using World.cell?_spot (hcell 0 (by omega))
    refine ⟨b, o, rfl, ?_⟩
    rw [add_mid9] at hc
    rw [hc]
    simp only [tx, List.getD_eq_getElem?_getD, List.getElem?_take]
    rw [if_pos hi]

/-- A list of flags that came in. -/
theorem flags_of_trod {H : Type} {enc : TypeId × Value → H} {P : Program} {W : World} {t e es : TypeId} {fuel : Nat} {cs : List Value} {x : DataW H × List MemPlace} {f0 f1 f2 f3 : Field}
    (ht : P.underlying t = some (.slice e)) (he : P.underlying e = some (.struct #[f0, f1, f2, f3])) (h4 : P.cellsOf e = 4)
    (o0 : f0.offset = 0) (o1 : f1.offset = 1) (o2 : f2.offset = 2) (o3 : f3.offset = 3) (c0 : P.cellsOf f0.type = 1) (c1 : P.cellsOf f1.type = 1) (c2 : P.cellsOf f2.type = 1) (c3 : P.cellsOf f3.type = 1)
    (u0 : P.underlying f0.type = some .string) (u1 : P.underlying f1.type = some .string) (u2 : P.underlying f2.type = some .string) (u3 : P.underlying f3.type = some (.slice es)) (us : P.underlying es = some .string) (hcs : P.cellsOf es = 1)
    (hf : DataW.trod enc P W 0 (fun _ => true) true fuel t cs = some x) :
    ∃ (F : List FlagP) (A : Option Addr) (cap : Nat), cs = [.slice A F.length cap] ∧ FlagsAt W A F ∧ LowBad W A F W.heap.size ∧ F.length ≤ cap ∧ cap ≤ 9223372036854775807 := by
  rcases DataW.trod_slice ht hf with ⟨hc, hx⟩ | ⟨a, len, cap, elems, rest, n, _, hc, hxx, hb, hl, hm, hlen, hel, _, _⟩
  · exact ⟨[], none, 0, hc, fun i hi => by simp at hi, fun i hi => by simp at hi, by simp, by simp⟩
  · have each : ∀ i, i < len → ∃ s : FlagP, ∃ v, W.cell? (a.add (i * 4)) = some (.string (mkT s.name)) ∧ W.cell? ((a.add (i * 4)).add 1) = some (.string (mkT s.short)) ∧ W.cell? ((a.add (i * 4)).add 2) = some (.string (mkT s.noOpt)) ∧ W.cell? ((a.add (i * 4)).add 3) = some v ∧ Texts W v (s.bad.map mkT) := by
      intro i hi
      have hi2 := hel i hi
      rw [h4, List.getElem?_eq_getElem (by omega), Option.bind_eq_some_iff] at hi2
      obtain ⟨cs', hcs', htr⟩ := hi2
      obtain ⟨xs, m, _, hx1, hl1, hl2, hfl⟩ := DataW.trod_struct he htr
      obtain ⟨hb1, hl3, hcell⟩ := World.cells?_some hcs'
      have y0 := hfl 0 f0 rfl
      have y1 := hfl 1 f1 rfl
      have y2 := hfl 2 f2 rfl
      have y3 := hfl 3 f3 rfl
      rw [o0, c0] at y0
      rw [o1, c1] at y1
      rw [o2, c2] at y2
      rw [o3, c3] at y3
      have hxl : xs.length = 4 := by simpa using hl2
      obtain ⟨p0, p1, p2, p3, rfl⟩ : ∃ p0 p1 p2 p3, xs = [p0, p1, p2, p3] := by
        match xs, hxl with
        | [p0, p1, p2, p3], _ => exact ⟨p0, p1, p2, p3, rfl⟩
      obtain ⟨q0, q1, q2, q3, rfl⟩ : ∃ q0 q1 q2 q3, cs' = [q0, q1, q2, q3] := by
        match cs', hl3 with
        | [q0, q1, q2, q3], _ => exact ⟨q0, q1, q2, q3, rfl⟩
      simp only [List.drop_zero, List.drop_succ_cons, List.take_succ_cons, List.take_zero, List.getElem?_cons_zero, List.getElem?_cons_succ] at y0 y1 y2 y3
      obtain ⟨s0, e0, _, _⟩ := DataW.trod_string u0 y0
      obtain ⟨s1, e1, _, _⟩ := DataW.trod_string u1 y1
      obtain ⟨s2, e2, _, _⟩ := DataW.trod_string u2 y2
      obtain ⟨v, zs, e3, hz⟩ := texts_of_trod9 u3 us hcs y3
      simp only [List.cons.injEq, and_true] at e0 e1 e2 e3
      subst e0 e1 e2 e3
      refine ⟨⟨s0.data.toList, s1.data.toList, s2.data.toList, zs.map fun s => s.data.toList⟩, q3, ?_, ?_, ?_, ?_, ?_⟩
      · have := hcell 0 (by omega)
        rw [show (a.add (i * 4)).add 0 = a.add (i * 4) by simp [Addr.add]] at this
        show _ = some (Value.string (mkT s0.data.toList))
        rw [of_list]
        simpa using this
      · show _ = some (Value.string (mkT s1.data.toList))
        rw [of_list]
        have := hcell 1 (by omega); simpa using this
      · show _ = some (Value.string (mkT s2.data.toList))
        rw [of_list]
        have := hcell 2 (by omega); simpa using this
      · have := hcell 3 (by omega); simpa using this
      · show Texts W _ ((zs.map fun s => s.data.toList).map mkT)
        rw [List.map_map]
        have e : (mkT ∘ fun s : ByteArray => s.data.toList) = id := by funext s; exact of_list s
        rw [e]
        simpa using hz
    obtain ⟨L, hL, hQ⟩ := list_of_each9 len each
    have hAt : FlagsAt W (some a) L := by
      intro i hi
      obtain ⟨v, k0, k1, k2, k3, k4⟩ := hQ i hi
      obtain ⟨vz, z0, _⟩ := hQ 0 (by omega)
      obtain ⟨b, o, spot⟩ := a
      obtain rfl : spot = none := by simpa [Addr.add] using World.cell?_spot z0
      rw [add_mid9] at k0 k1 k2 k3
      rw [add_mid9] at k1 k2 k3
      exact ⟨b, o, v, rfl, k0, k1, k2, k3, k4⟩
    refine ⟨L, some a, cap, by rw [hL]; exact hc, hAt, ?_, by rw [hL]; exact hl, by unfold maxLen at hm; omega⟩
    intro i hi b o v hAe hcv A' m c hv h0
    obtain ⟨b1, o1, v1, e, _, _, _, k3, k4⟩ := hAt i hi
    rw [hAe] at e
    cases e
    rw [k3] at hcv
    obtain rfl := Option.some.inj hcv
    obtain ⟨A9, c9, e9, hs, _⟩ := k4
    rw [hv] at e9
    cases e9
    obtain ⟨b2, o2, e, hc2⟩ := hs 0 h0
    cases e
    exact lt_of_cell9 hc2
/-- A set that came in. -/
theorem open_set {H : Type} {enc : TypeId × Value → H} {P : Program} {W : World} {base : Nat} {t e es : TypeId} {v : Value} {d : DataW H} {p : List MemPlace} {g0 g1 g2 g3 f0 f1 f2 f3 : Field}
    (hs : P.underlying t = some (.struct #[g0, g1, g2, g3])) (hs4 : P.cellsOf t = 4) (a0 : g0.offset = 0) (a1 : g1.offset = 1) (a2 : g2.offset = 2) (a3 : g3.offset = 3) (b0 : P.cellsOf g0.type = 1) (b1 : P.cellsOf g1.type = 1) (b2 : P.cellsOf g2.type = 1) (b3 : P.cellsOf g3.type = 1)
    (ht : P.underlying g0.type = some (.slice e)) (t1 : P.underlying g1.type = some .bool) (t2 : P.underlying g2.type = some .bool) (t3 : P.underlying g3.type = some (.int .i64))
    (he : P.underlying e = some (.struct #[f0, f1, f2, f3])) (h4 : P.cellsOf e = 4)
    (o0 : f0.offset = 0) (o1 : f1.offset = 1) (o2 : f2.offset = 2) (o3 : f3.offset = 3) (c0 : P.cellsOf f0.type = 1) (c1 : P.cellsOf f1.type = 1) (c2 : P.cellsOf f2.type = 1) (c3 : P.cellsOf f3.type = 1)
    (u0 : P.underlying f0.type = some .string) (u1 : P.underlying f1.type = some .string) (u2 : P.underlying f2.type = some .string) (u3 : P.underlying f3.type = some (.slice es)) (us : P.underlying es = some .string) (hcs : P.cellsOf es = 1)
    (hok : Value.okWide P W .any base t v) (h : DataW.Trod enc P W 0 (fun _ => true) true t v d p) :
    ∃ (F : List FlagP) (A : Option Addr) (cap : Nat) (pl un : Bool) (k : Int), v = .agg #[.slice A F.length cap, .bool pl, .bool un, .int .i64 k] ∧ FlagsAt W A F ∧ LowBad W A F W.heap.size ∧ F.length ≤ cap ∧ cap ≤ 9223372036854775807 := by
  obtain ⟨cs, rfl, hsz⟩ := okWide_struct hs hok
  obtain ⟨fuel, hf⟩ := h
  obtain ⟨xs, m, _, hx1, hl1, hl2, hfl⟩ := DataW.trod_struct hs hf
  have hcl : Value.cells (.agg cs) = cs := by simp [Value.cells]
  rw [hcl] at hfl
  rw [hs4] at hsz
  obtain ⟨q0, q1, q2, q3, hq⟩ : ∃ q0 q1 q2 q3, cs.toList = [q0, q1, q2, q3] := by
    have hl3 : cs.toList.length = 4 := by simpa using hsz
    match cs.toList, hl3 with
    | [q0, q1, q2, q3], _ => exact ⟨q0, q1, q2, q3, rfl⟩
  have hxl : xs.length = 4 := by simpa using hl2
  obtain ⟨p0, p1, p2, p3, rfl⟩ : ∃ p0 p1 p2 p3, xs = [p0, p1, p2, p3] := by
    match xs, hxl with
    | [p0, p1, p2, p3], _ => exact ⟨p0, p1, p2, p3, rfl⟩
  have y0 := hfl 0 g0 rfl
  have y1 := hfl 1 g1 rfl
  have y2 := hfl 2 g2 rfl
  have y3 := hfl 3 g3 rfl
  rw [a0, b0, hq] at y0
  rw [a1, b1, hq] at y1
  rw [a2, b2, hq] at y2
  rw [a3, b3, hq] at y3
  simp only [List.drop_zero, List.drop_succ_cons, List.take_succ_cons, List.take_zero, List.getElem?_cons_zero, List.getElem?_cons_succ] at y0 y1 y2 y3
  obtain ⟨F, A, cap, e0, r1, r2, r3, r4⟩ := flags_of_trod ht he h4 o0 o1 o2 o3 c0 c1 c2 c3 u0 u1 u2 u3 us hcs y0
  obtain ⟨pl, e1, _⟩ := DataW.trod_bool t1 y1
  obtain ⟨un, e2, _⟩ := DataW.trod_bool t2 y2
  obtain ⟨k, e3, _⟩ := DataW.trod_int t3 y3
  simp only [List.cons.injEq, and_true] at e0 e1 e2 e3
  subst e0 e1 e2 e3
  obtain rfl : cs = #[_, _, _, _] := by
    cases cs; simp at hq; subst hq; rfl
  exact ⟨F, A, cap, pl, un, k, rfl, r1, r2, r3, r4⟩
/-- A list that came in lies in memory. -/
theorem okWide_block {P : Program} {W : World} {base : Nat} {t e : TypeId} {a : Addr} {n c : Nat} (ht : P.underlying t = some (.slice e)) (h : Value.okWide P W .any base t (.slice (some a) n c)) : a.block < W.heap.size := by
  simp only [Value.okWide, ht, Cell.okWide, Cell.ok, World.has] at h
  obtain ⟨_, _, _, _, row, cells, hsh, _⟩ := h
  unfold World.shape? at hsh
  by_cases hl : a.block < W.heap.size
  · exact hl
  · rw [Array.getElem?_eq_none (by omega)] at hsh; simp at hsh
end Go.Proofs.Ytgmhhdpggnmipaa.E

namespace Go.Proofs.Ytgmhhdpggnmipaa.E
open Go.RowKit Go.Proofs
set_option linter.unusedVariables false
set_option linter.unusedSimpArgs false

theorem wt_map (L : List Txt) : wtB (L.map mkT) = wt L := by
  induction L with
  | nil => rfl
  | cons a r ih => simp only [List.map_cons, wtB, wt, ih, mkT_size]; omega
theorem wt_mem {X : List Txt} {t : Txt} (h : t ∈ X) : t.length ≤ wt X := by
  have := wtB_mem (List.mem_map_of_mem (f := mkT) h)
  rw [wt_map, mkT_size] at this; omega
/-- A law that answers true. -/
def YesEnd (w : World) (e : Ending) (w' : World) : Prop := e = .returned (.bool true) ∧ Below w.heap.size w w'
theorem yesEnd {w : World} {e : Ending} {w' : World} (h : e = .returned (.bool true)) (hb : Below w.heap.size w w') : YesEnd w e w' := ⟨h, hb⟩
theorem TextIn.slice {w : World} {v : Value} {xs : List ByteArray} (h : TextIn w v xs) : ∃ a n c, v = .slice a n c := by obtain ⟨a, c, e, _⟩ := h; exact ⟨_, _, _, e⟩
theorem textIn_of {P : Program} {W : World} {base : Nat} {t e : TypeId} {v : Value} {xs : List ByteArray} (ht : P.underlying t = some (.slice e)) (hok : Value.okWide P W .any base t v) (h : Texts W v xs) : TextIn W v xs := by
  obtain ⟨A, c, rfl, h1, h2, h3, h4⟩ := h
  exact ⟨A, c, rfl, h1, h2, h3, h4, fun a e => by subst e; exact okWide_block ht hok⟩
theorem texts_back (xs : List ByteArray) : ((xs.map fun s => s.data.toList) : List Txt).map mkT = xs := by
  rw [List.map_map]
  have e : (mkT ∘ fun s : ByteArray => s.data.toList) = id := by funext s; exact of_list s
  rw [e]; simp
/-- fits20 over flags. -/
theorem fits20_F {F : List FlagP} (h : fits20 (F.map ofFlag) = true) : F.length ≤ 2147483647 ∧ ∀ f ∈ F, f.name.length ≤ 2147483647 ∧ f.short.length ≤ 2147483647 ∧ f.noOpt.length ≤ 2147483647 := by
  unfold fits20 at h
  simp only [Bool.and_eq_true, decide_eq_true_eq, List.length_map, List.all_eq_true, List.mem_map] at h
  refine ⟨h.1, fun f hf => ?_⟩
  have h2 := h.2 (ofFlag f) ⟨f, hf, rfl⟩
  unfold fits21 at h2
  simp only [Bool.and_eq_true, decide_eq_true_eq] at h2
  have e1 : (ofFlag f).f0.size = f.name.length := mkT_size _
  have e2 : (ofFlag f).f1.size = f.short.length := mkT_size _
  have e3 : (ofFlag f).f2.size = f.noOpt.length := mkT_size _
  omega
/-- A reader that answers a truth. -/
abbrev Says (w : World) (f : Nat) (args : Array Value) (b : Bool) : Prop := ∀ (W : World), Below w.heap.size w W → Calls Try.prog f args W fun e w' => e = .returned (.bool b) ∧ Below W.heap.size W w'
theorem says19 {w : World} {A : Option Addr} {F : List FlagP} (hA : FlagsAt w A F) {cap : Nat} (hc : F.length ≤ cap) (hm : cap ≤ 9223372036854775807) (pl un : Bool) (k : Int) {b : Bool} (h : fits20 (F.map ofFlag) = b) : Says w 14 #[.agg #[.slice A F.length cap, .bool pl, .bool un, .int .i64 k]] b := fun W hb => by
  have h2 := zz19_c (hA.below hb) (by omega) cap hc pl un k
  rw [h] at h2; exact h2
theorem says2 {w : World} {v : Value} {xs : List ByteArray} (hv : TextIn w v xs) {b : Bool} (h : fits2 xs = b) : Says w 15 #[v] b := fun W hb => by
  have h2 := zz2_c (hv.below hb)
  rw [h] at h2; exact h2
theorem saysR {w : World} {A : Option Addr} {F : List FlagP} (hA : FlagsAt w A F) (cap : Nat) (pl un : Bool) (k : Int) (hf : fits20 (F.map ofFlag) = true) {b : Bool} (h : (rightL (foldGT (bits BinOp.and IntKind.i64 k 1 == 1) (bits BinOp.and IntKind.i64 k 2 == 2)) [] [] F && decide (0 ≤ k ∧ k ≤ 3)) = b) : Says w 16 #[.agg #[.slice A F.length cap, .bool pl, .bool un, .int .i64 k]] b := fun W hb => by
  have hfl := fits20_F hf
  have h2 := right_any F A cap pl un k _ _ rfl rfl W (hA.below hb) hfl.1 (fun f hf => ⟨(hfl.2 f hf).1, (hfl.2 f hf).2.1⟩)
  rw [h] at h2; exact h2
theorem saysL (w : World) : Says w 25 #[] true := fun W hb => lives_c W
/-- What a set must be for spec.Right. -/
def RightK (F : List FlagP) (k : Int) : Bool := rightL (foldGT (bits BinOp.and IntKind.i64 k 1 == 1) (bits BinOp.and IntKind.i64 k 2 == 2)) [] [] F && decide (0 ≤ k ∧ k ≤ 3)
/-- A set that fits and is right. -/
theorem setOK_of {w : World} {A : Option Addr} {F : List FlagP} (hA : FlagsAt w A F) (hlow : LowBad w A F w.heap.size) (pl un : Bool) {k : Int} (hf : fits20 (F.map ofFlag) = true) (h : RightK F k = true) : ∃ n : Nat, k = (n : Int) ∧ n ≤ 3 ∧ SetOK w A ⟨F, pl, un, n⟩ := by
  unfold RightK at h
  simp only [Bool.and_eq_true, decide_eq_true_eq] at h
  obtain ⟨h4, h5, h6⟩ := h
  obtain ⟨n, rfl⟩ := Int.eq_ofNat_of_zero_le h5
  have hn : n ≤ 3 := by omega
  have hfl := fits20_F hf
  have hfold : foldGT (bits BinOp.and IntKind.i64 (n : Int) 1 == 1) (bits BinOp.and IntKind.i64 (n : Int) 2 == 2) = foldT n := by
    rw [(foldBits n hn).1, (foldBits n hn).2]
    funext t
    exact foldGT_eq n t
  rw [hfold] at h4
  exact ⟨n, rfl, hn, hA, hlow, right_of (S := ⟨F, pl, un, n⟩) hn h4, hfl.1, fun i h => (hfl.2 _ (List.getElem_mem h)).1⟩
theorem fit14_1 {w W : World} (hb : Below w.heap.size w W) {va0 : Option Addr} {van vac : Nat} {xs : List ByteArray} (ha : TextIn w (.slice va0 van vac) xs) (hf : fits2 xs = true) {b : Bool} (h : decide (wtBB [xs] ≤ 1048576) = b) :
    Calls Try.prog 17 #[.slice (some ⟨W.heap.size, 0, none⟩) 1 1] (W.alloc (.cells #[.slice va0 van vac] 25)) fun e w' => e = .returned (.bool b) ∧ Below W.heap.size W w' := by
  subst h
  have h := fits14_c (w := W.alloc (.cells #[.slice va0 van vac] 25)) (ls := [xs]) (rows1 (heap_alloc_new W _) ((ha.below hb).below ((Below.refl _ _).alloc (Nat.le_refl _) _))) (by (show 1 ≤ 2147483647; decide)) (Nat.le_refl 1) (fun zs hz => by rw [List.mem_singleton] at hz; rw [hz]; exact hf)
  refine h.mono ?_
  rintro e w' ⟨he, hb2⟩
  exact ⟨he, ((Below.refl _ _).alloc (Nat.le_refl _) _).trans (hb2.mono (by simp))⟩
theorem mkT_app (a b : Txt) : mkT a ++ mkT b = mkT (a ++ b) := by
  apply ByteArray.ext
  simp [mkT, ByteArray.data_append]
section
variable {o : Oper} {a : Act} {w : World} {K : Act → World → Prop} {Q : Exit → Act → World → Prop}
theorem ow_field_set {x : Operand} {b i : Nat} (hi : i < 4) (ho : o.op = .fieldAddr 24 x i) (hx : a.eval x = .pointer (some ⟨b, 0, none⟩)) (h : K (a.put o.dst (.pointer (some ⟨b, i, none⟩))) w) : Oper.wp Try.prog o a w K Q := by
  unfold Oper.wp
  match i, hi with
  | 0, _ => simp [execOp, ho, hx]; go_simp; exact h
  | 1, _ => simp [execOp, ho, hx]; go_simp; exact h
  | 2, _ => simp [execOp, ho, hx]; go_simp; exact h
  | 3, _ => simp [execOp, ho, hx]; go_simp; exact h
theorem ow_load_flags {x : Operand} {b i : Nat} {v : Value} (ho : o.op = .load 22 x) (hx : a.eval x = .pointer (some ⟨b, i, none⟩)) (hb : w.cell? ⟨b, i, none⟩ = some v) (h : K (a.put o.dst v) w) : Oper.wp Try.prog o a w K Q := by
  unfold Oper.wp
  simp [execOp, ho, hx]
  go_simp
  exact h
theorem ow_load_string {x : Operand} {b i : Nat} {v : Value} (ho : o.op = .load 9 x) (hx : a.eval x = .pointer (some ⟨b, i, none⟩)) (hb : w.cell? ⟨b, i, none⟩ = some v) (h : K (a.put o.dst v) w) : Oper.wp Try.prog o a w K Q := by
  unfold Oper.wp
  simp [execOp, ho, hx]
  go_simp
  exact h
theorem ow_index_flags {x y : Operand} {b f n c i : Nat} (hi : i < n) (ho : o.op = .indexAddr 22 x y) (hx : a.eval x = .slice (some ⟨b, f, none⟩) n c) (hy : a.eval y = .int .i64 (i : Int)) (h : K (a.put o.dst (.pointer (some ⟨b, f + i * 4, none⟩))) w) : Oper.wp Try.prog o a w K Q := by
  have hi2 : (i : Int) < (n : Int) := by omega
  unfold Oper.wp
  simp [execOp, ho, hx, hy]
  go_simp
  exact h
theorem ow_field_flag {x : Operand} {b i f : Nat} (hi : i < 4) (ho : o.op = .fieldAddr 47 x i) (hx : a.eval x = .pointer (some ⟨b, f, none⟩)) (h : K (a.put o.dst (.pointer (some ⟨b, f + i, none⟩))) w) : Oper.wp Try.prog o a w K Q := by
  unfold Oper.wp
  match i, hi with
  | 0, _ => simp [execOp, ho, hx]; go_simp; exact h
  | 1, _ => simp [execOp, ho, hx]; go_simp; exact h
  | 2, _ => simp [execOp, ho, hx]; go_simp; exact h
  | 3, _ => simp [execOp, ho, hx]; go_simp; exact h
theorem ow_cat {x y : Operand} {s t : Txt} (hz : s.length + t.length ≤ 9223372036854775807) (ho : o.op = .binOp .add 9 x y 9) (hx : a.eval x = .string (mkT s)) (hy : a.eval y = .string (mkT t)) (h : K (a.put o.dst (.string (mkT (s ++ t)))) w) : Oper.wp Try.prog o a w K Q := by
  unfold Oper.wp
  have hz2 : ¬ 9223372036854775807 < (mkT s).size + (mkT t).size := by rw [mkT_size, mkT_size]; omega
  simp [execOp, ho, hx, hy]
  go_simp
  rw [mkT_app]
  exact h
theorem ow_not {x : Operand} {b : Bool} (ho : o.op = .unOp .not 4 x) (hx : a.eval x = .bool b) (h : K (a.put o.dst (.bool (!b))) w) : Oper.wp Try.prog o a w K Q := by
  unfold Oper.wp
  simp [execOp, ho, hx]
  go_simp
  exact h
theorem ow_pick_no {c x y : Operand} {v : Value} (ho : o.op = .pick c x y) (hc : a.eval c = .bool false) (hy : a.eval y = v) (h : K (a.put o.dst v) w) : Oper.wp Try.prog o a w K Q := by
  unfold Oper.wp
  simp [execOp, ho, hy, hc]
  go_simp
  exact h
theorem ow_build2 {x y : Operand} (ho : o.op = .buildSlice 25 2 #[(0, x), (1, y)]) {s t : ByteArray} (hx : a.eval x = .string s) (hy : a.eval y = .string t) (h : K (a.put o.dst (.slice (some ⟨w.heap.size, 0, none⟩) 2 2)) (w.alloc (.cells #[.string s, .string t] 9))) : Oper.wp Try.prog o a w K Q := by
  unfold Oper.wp
  simp [execOp, ho, hx, hy]
  go_simp
  exact h
theorem ow_neq_string {x y : Operand} {s t : ByteArray} (ho : o.op = .binOp .neq 9 x y 9) (hx : a.eval x = .string s) (hy : a.eval y = .string t) (h : K (a.put o.dst (.bool (!(s.toList == t.toList)))) w) : Oper.wp Try.prog o a w K Q := by
  unfold Oper.wp
  simp [execOp, ho, hx, hy]
  go_simp
  exact h
end
theorem mkT_toList (t : Txt) : (mkT t).toList = t := by rw [ByteArray.toList_eq, mkT_list]
end Go.Proofs.Ytgmhhdpggnmipaa.E

namespace Go.Proofs.Ytgmhhdpggnmipaa.E
open Go.RowKit Go.Proofs
set_option linter.unusedVariables false
set_option linter.unusedSimpArgs false
theorem ow_eql_string {o : Oper} {a : Act} {w : World} {K : Act → World → Prop} {Q : Exit → Act → World → Prop} {x y : Operand} {s t : ByteArray} (ho : o.op = .binOp .eql 9 x y 9) (hx : a.eval x = .string s) (hy : a.eval y = .string t) (h : K (a.put o.dst (.bool (s.toList == t.toList))) w) : Oper.wp Try.prog o a w K Q := by
  unfold Oper.wp
  simp [execOp, ho, hx, hy]
  go_simp
  exact h
theorem sfold_txt {k : Nat} (hk : k ≤ 3) (t : Txt) (hs : (mkT t).size ≤ 2147483647) (w : World) : Calls Try.prog 31 #[.int .i64 (k : Int), .string (mkT t)] w fun e w' => e = .returned (.string (mkT (foldT k t))) ∧ Below w.heap.size w w' := by
  have h := sfold_nat k hk (mkT t) hs w
  rw [mkT_list] at h; exact h
theorem fold_le {F : List FlagP} {k : Nat} (h : RightK F (k : Int) = true) : k ≤ 3 := by
  unfold RightK at h
  simp only [Bool.and_eq_true, decide_eq_true_eq] at h
  omega
/-- What spec.Named answers: the first place, or -1. -/
def NamedX (F : List FlagP) (kf : Nat) (t : Txt) (w : World) (e : Ending) (w' : World) : Prop := ((∃ (i : Nat) (h : i < F.length), e = .returned (.int .i64 (i : Int)) ∧ foldT kf F[i].name = foldT kf t) ∨ (e = .returned (.int .i64 (-1)) ∧ ∀ f ∈ F, foldT kf f.name ≠ foldT kf t)) ∧ Below w.heap.size w w'
structure NamedR (w wr : World) (A : Option Addr) (cap : Nat) (pl un : Bool) (kf n : Nat) : Prop where
  box : wr.heap[w.heap.size]? = some (.cells #[.slice A n cap, .bool pl, .bool un, .int .i64 (kf : Int)] 24 (0, 0))
  bel : Below w.heap.size w wr
def NX4 (bx : Nat) (fx : Nat) (kf : Nat) (t : Txt) (fn : Txt) (bb : Bool) : Nat → Value → World → Prop
  | 0, v, _ => v = .pointer (some ⟨bx, 3, none⟩)
  | 1, v, _ => v = .int .i64 (kf : Int)
  | 2, v, _ => v = .pointer (some ⟨fx, 0, none⟩)
  | 3, v, _ => v = .string (mkT (fn))
  | 4, v, _ => v = .string (mkT (foldT kf fn))
  | 5, v, _ => v = .pointer (some ⟨bx, 3, none⟩)
  | 6, v, _ => v = .int .i64 (kf : Int)
  | 7, v, _ => v = .string (mkT (t))
  | 8, v, _ => v = .string (mkT (foldT kf t))
  | 9, v, _ => v = .bool bb
  | _, _, _ => True
theorem NX4.below {bx : Nat} {fx : Nat} {kf : Nat} {t : Txt} {fn : Txt} {bb : Bool} {ix : Nat} (hix : ix < 10) {v : Value} {w w' : World} (h : NX4 bx fx kf t fn bb ix v w) (hb : Below w.heap.size w w') : NX4 bx fx kf t fn bb ix v w' := by
  match ix, hix, h with
  | 0, _, h => exact h
  | 1, _, h => exact h
  | 2, _, h => exact h
  | 3, _, h => exact h
  | 4, _, h => exact h
  | 5, _, h => exact h
  | 6, _, h => exact h
  | 7, _, h => exact h
  | 8, _, h => exact h
  | 9, _, h => exact h

set_option maxRecDepth 100000 in
set_option maxHeartbeats 3200000 in
theorem named_x {w : World} {A : Option Addr} {F : List FlagP} (hA : FlagsAt w A F) (hn : F.length ≤ 2147483647) (hsz : ∀ f ∈ F, f.name.length ≤ 2147483647) (cap : Nat) (pl un : Bool) {kf : Nat} (hk : kf ≤ 3) (t : Txt) (hz : (mkT t).size ≤ 2147483647) :
    Calls Try.prog 35 #[.agg #[.slice A F.length cap, .bool pl, .bool un, .int .i64 (kf : Int)], .string (mkT t)] w (NamedX F kf t w) := by
  have HFO1 : Hid (∀ W, Calls Try.prog 31 #[.int .i64 (kf : Int), .string (mkT t)] W fun e w' => e = .returned (.string (mkT (foldT kf t))) ∧ Below W.heap.size W w') := Lib.hid (fun W => sfold_txt hk t hz W)
  have HA := Lib.hid hA
  have HSZ := Lib.hid hsz
  have HK := Lib.hid hk
  clear hA hsz hk hz
  go_enter Try.func35, Try.ntmps35
  go_wp2
  generalize hW0 : w.alloc _ = w0
  have HR0 : Hid (NamedR w w0 A cap pl un kf F.length) := Lib.hid (by subst hW0; exact ⟨heap_alloc_new w _, (Below.refl _ _).alloc (Nat.le_refl _) _⟩)
  clear hW0
  go_loopw [10] (fun i wr => ∃ k : Nat, k ≤ F.length ∧ i = .int .i64 k ∧ Hid (NamedR w wr A cap pl un kf F.length) ∧ Hid (∀ f ∈ F.take k, foldT kf f.name ≠ foldT kf t)) (fun i _ => F.length - (intOf i).toNat)
  case atStart => exact ⟨0, Nat.zero_le _, rfl, HR0, Lib.hid (by simp)⟩
  case round =>
    clear HR0
    obtain ⟨k, hk, rfl, HR, HN⟩ := hrel
    have i0 : (0 : Int) ≤ (k : Int) := Int.natCast_nonneg _
    by_cases hlt : k < F.length
    · have i1 : (k : Int) < (F.length : Int) := by omega
      obtain ⟨b, o, v, hAe, c0, c1, c2, c3, ht⟩ := HA.out k hlt
      subst hAe
      obtain ⟨Av, cv, hve, _⟩ := ht
      generalize (F[k].bad.map mkT).length = nv at hve
      subst hve
      have d0 := cell_kept HR.out.bel c0
      have d1 := cell_kept HR.out.bel c1
      have d2 := cell_kept HR.out.bel c2
      have d3 := cell_kept HR.out.bel c3
      have hsz := HSZ.out F[k] (List.getElem_mem hlt)
      have HTK : Hid (F.take (k + 1) = F.take k ++ [F[k]]) := Lib.hid (List.take_succ_eq_append_getElem hlt)
      clear c0 c1 c2 c3
      generalize hfk : F[k] = fk at d0 d1 d2 d3 hsz HTK
      have HME : Hid (∃ h : k < F.length, F[k] = fk) := Lib.hid ⟨hlt, hfk⟩
      clear hfk
      obtain ⟨fn, fs, fo, fb⟩ := fk
      simp only at d0 d1 d2 d3 hsz
      have HX : Hid (Below wr.heap.size wr (wr.alloc (.cells #[.string (mkT fn), .string (mkT fs), .string (mkT fo), .slice Av nv cv] 47))) := (Below.refl _ _).alloc (Nat.le_refl _) _
      have HXc := Lib.hid (heap_alloc_new wr (.cells #[.string (mkT fn), .string (mkT fs), .string (mkT fo), .slice Av nv cv] 47))
      have lt0 : w.heap.size < wr.heap.size := lt_of_block HR.out.box
      go_upto_region 4 with fail
      generalize hwa : wr.alloc (.cells #[.string (mkT fn), .string (mkT fs), .string (mkT fo), .slice Av nv cv] 47) = wa at HX HXc
      have X0 : Hid (wa.cell? ⟨wr.heap.size, 0, none⟩ = some (.string (mkT fn))) := Lib.hid ((cell_blk HXc.out 0).trans rfl)
      have HBX := Lib.hid (block_kept HR.out.box HX.out)
      have Y3 : Hid (wa.cell? ⟨w.heap.size, 3, none⟩ = some (.int .i64 (kf : Int))) := Lib.hid ((cell_blk HBX.out 3).trans rfl)
      have HBA := Lib.hid (below_step HR.out.bel HX.out)
      clear hwa d0 d1 d2 d3
      have HFO2 : Hid (∀ W, Calls Try.prog 31 #[.int .i64 (kf : Int), .string (mkT fn)] W fun e w' => e = .returned (.string (mkT (foldT kf fn))) ∧ Below W.heap.size W w') := Lib.hid (fun W => sfold_txt HK.out fn (by rw [mkT_size]; exact hsz) W)
      obtain ⟨bb, hbb⟩ : ∃ bb, ((mkT (foldT kf fn)).toList == (mkT (foldT kf t)).toList) = bb := ⟨_, rfl⟩
      have HNE := Lib.hid hbb
      clear hbb
      refine region_inv (by kernel_rfl) (fun u v => Below u.heap.size u v) (NX4 (w.heap.size) (wr.heap.size) (kf) (t) (fn) (bb)) (fun i => false) (fun i => [15, 16, 17, 18, 19, 20, 21, 22, 23, 24].getD i 0) 10
        (Below.refl _ _) (fun _ _ _ h k => below_step h k) (fun i hi v u u' h hb => NX4.below hi h hb) ?_ (hgd_none (by kernel_rfl)) (by kernel_rfl) (by kernel_rfl) (by kernel_rfl) (by kernel_rfl) ?_ ?_
      · intro i hi hA; cases hA
      · intro i hi o ho a u hG hk hd
        have hG9 : Below wa.heap.size wa u := ((Below.refl _ _).drew).trans hG
        match i, hi with
        | 0, _ =>
          cases ho
          exact ow_field_set (i := 3) (by decide) rfl ((hk 2 (by decide)).trans rfl) ⟨_, rfl, rfl, Below.refl _ _, fun h => by cases h⟩
        | 1, _ =>
          cases ho
          have e15 : a.eval (.tmp 15) = _ := hd 0 (by kernel_rfl) (by decide)
          exact ow_load_int rfl e15 (cell_kept hG9 Y3.out) ⟨_, rfl, rfl, Below.refl _ _, fun h => by cases h⟩
        | 2, _ =>
          cases ho
          exact ow_field_flag (i := 0) (by decide) rfl ((hk 6 (by decide)).trans rfl) ⟨_, rfl, rfl, Below.refl _ _, fun h => by cases h⟩
        | 3, _ =>
          cases ho
          have e17 : a.eval (.tmp 17) = _ := hd 2 (by kernel_rfl) (by decide)
          exact ow_load_string rfl e17 (cell_kept hG9 X0.out) ⟨_, rfl, rfl, Below.refl _ _, fun h => by cases h⟩
        | 4, _ =>
          cases ho
          have e16 : a.eval (.tmp 16) = _ := hd 1 (by kernel_rfl) (by decide)
          have e18 : a.eval (.tmp 18) = _ := hd 3 (by kernel_rfl) (by decide)
          refine ow_call #[.tmp 16, .tmp 18] #[3, 9] 31 Try.func31 (by kernel_rfl) (by rfl) rfl #[_, _] (by simp only [List.map_toArray, List.map_cons, List.map_nil, e16, e18]) (HFO2.out u) ?_
          rintro e u2 ⟨rfl, hb2⟩
          exact ⟨_, rfl, _, rfl, rfl, hb2, fun h => by cases h⟩
        | 5, _ =>
          cases ho
          exact ow_field_set (i := 3) (by decide) rfl ((hk 2 (by decide)).trans rfl) ⟨_, rfl, rfl, Below.refl _ _, fun h => by cases h⟩
        | 6, _ =>
          cases ho
          have e20 : a.eval (.tmp 20) = _ := hd 5 (by kernel_rfl) (by decide)
          exact ow_load_int rfl e20 (cell_kept hG9 Y3.out) ⟨_, rfl, rfl, Below.refl _ _, fun h => by cases h⟩
        | 7, _ =>
          cases ho
          exact ow_move rfl ((hk 1 (by decide)).trans rfl) ⟨_, rfl, rfl, Below.refl _ _, fun h => by cases h⟩
        | 8, _ =>
          cases ho
          have e21 : a.eval (.tmp 21) = _ := hd 6 (by kernel_rfl) (by decide)
          have e22 : a.eval (.tmp 22) = _ := hd 7 (by kernel_rfl) (by decide)
          refine ow_call #[.tmp 21, .tmp 22] #[3, 9] 31 Try.func31 (by kernel_rfl) (by rfl) rfl #[_, _] (by simp only [List.map_toArray, List.map_cons, List.map_nil, e21, e22]) (HFO1.out u) ?_
          rintro e u2 ⟨rfl, hb2⟩
          exact ⟨_, rfl, _, rfl, rfl, hb2, fun h => by cases h⟩
        | 9, _ =>
          cases ho
          have e19 : a.eval (.tmp 19) = _ := hd 4 (by kernel_rfl) (by decide)
          have e23 : a.eval (.tmp 23) = _ := hd 8 (by kernel_rfl) (by decide)
          exact ow_eql_string rfl e19 e23 ⟨_, rfl, congrArg Value.bool HNE.out, Below.refl _ _, fun h => by cases h⟩
      · intro x U3 hG hx hdif
        have hlast : x 9 = _ := hx 9 (by decide)
        simp only [putAll, Act.put, List.getD_cons_zero, List.getD_cons_succ, List.setIfInBounds_toArray, List.set_cons_succ, List.set_cons_zero]
        refine wpAny_end (by kernel_rfl) ?_
        rw [hlast]
        clear hx hdif hlast
        have hU : Below wa.heap.size wa U3 := ((Below.refl _ _).drew).trans hG
        have HRU : Hid (NamedR w U3 (some ⟨b, o, none⟩) cap pl un kf F.length) := Lib.hid ⟨block_kept HBX.out hU, below_step HBA.out hU⟩
        clear hG
        cases bb with
        | true =>
          go_wp2
          go_ret
          have e : foldT kf fn = foldT kf t := by
            have h := HNE.out
            rw [mkT_toList, mkT_toList] at h
            exact eq_of_beq h
          obtain ⟨h9, e9⟩ := HME.out
          exact ⟨.inl ⟨k, h9, rfl, by rw [e9]; exact e⟩, HRU.out.bel⟩
        | false =>
          have e : foldT kf fn ≠ foldT kf t := by
            have h := HNE.out
            rw [mkT_toList, mkT_toList] at h
            exact beq_eq_false_iff_ne.1 h
          go_wp2
          go_roundw
          case rel => exact ⟨k + 1, by omega, by go_num, HRU, Lib.hid (by
            rw [HTK.out]
            intro f hf
            rcases List.mem_append.1 hf with h | h
            · exact HN.out f h
            · rw [List.mem_singleton] at h; subst h; exact e)⟩
          case measure => simp [intOf]; omega
    · have hke : k = F.length := by omega
      have i1 : ¬ (k : Int) < (F.length : Int) := by omega
      go_wp2
      go_ret
      exact ⟨.inr ⟨rfl, fun f hf => HN.out f (by rw [hke, List.take_length]; exact hf)⟩, HR.out.bel⟩
end Go.Proofs.Ytgmhhdpggnmipaa.E

namespace Go.Proofs.Ytgmhhdpggnmipaa.E
open Go.RowKit Go.Proofs
open Go.Proofs.Ytgmhhdpggnmipaa.PQ Go.Proofs.YtgmhhdpggnmipaaW.PrintWords
set_option linter.unusedVariables false
set_option linter.unusedSimpArgs false
def rnCells (S : SetP) (A : Option Addr) (cap : Nat) (st : St) (G AA CH : Value) (pr : Bool) : Array Value := #[.slice A S.flags.length cap, .bool S.plain, .bool S.unknown, .int .i64 (S.fold : Int), .int .i64 (eNo st.err), .string (mkT (eName st.err)), .string (mkT (eShort st.err)), .string (mkT (eVal st.err)), .int .i64 (eFlag st.err), G, AA, .int .i64 st.dash, CH, .bool pr, .bool false, .bool false, .slice none 0 0, .nilFunc]
/-- A run, as it lies in memory, over a set that lay there before. -/
structure RunAt (w0 w : World) (x : Nat) (S : SetP) (A : Option Addr) (cap : Nat) (st : St) (AA CH : Value) (pr : Bool) : Prop where
  bel : Below w0.heap.size w0 w
  low : w0.heap.size ≤ x
  blk : ∃ GA gc, w.heap[x]? = some (.cells (rnCells S A cap st (.slice GA st.given.length gc) AA CH pr) 41 (0, 0)) ∧ w.ownsRow w0.heap.size 57 2 (.slice GA st.given.length gc) st.given.length (gCells st.given)
theorem RunAt.below {w0 w w' : World} {x : Nat} {S : SetP} {A : Option Addr} {cap : Nat} {st : St} {AA CH : Value} {pr : Bool} (h : RunAt w0 w x S A cap st AA CH pr) (hb : Below w.heap.size w w') : RunAt w0 w' x S A cap st AA CH pr := by
  obtain ⟨h1, h2, GA, gc, h3, h4⟩ := h
  exact ⟨h1.trans (hb.mono h1.size), h2, GA, gc, block_kept h3 hb, own_kept h4 hb⟩
theorem RunAt.free {w0 w : World} {x : Nat} {S : SetP} {A : Option Addr} {cap : Nat} {st : St} {AA CH : Value} {pr : Bool} (h : RunAt w0 w x S A cap st AA CH pr) (he : st.err = .no) : ∃ GA gc, w.heap[x]? = some (.cells #[.slice A S.flags.length cap, .bool S.plain, .bool S.unknown, .int .i64 (S.fold : Int), .int .i64 0, .string ⟨#[]⟩, .string ⟨#[]⟩, .string ⟨#[]⟩, .int .i64 (-1), .slice GA st.given.length gc, AA, .int .i64 st.dash, CH, .bool pr, .bool false, .bool false, .slice none 0 0, .nilFunc] 41 (0, 0)) ∧ w.ownsRow w0.heap.size 57 2 (.slice GA st.given.length gc) st.given.length (gCells st.given) := by
  obtain ⟨h1, h2, GA, gc, h3, h4⟩ := h
  refine ⟨GA, gc, ?_, h4⟩
  unfold rnCells at h3
  rw [he] at h3
  exact h3
/-- An error is written into it. -/
theorem RunAt.turn {w0 w w' : World} {x : Nat} {S : SetP} {A : Option Addr} {cap : Nat} {st : St} {AA CH : Value} {pr : Bool} (h : RunAt w0 w x S A cap st AA CH pr) (er : Er) {GA : Option Addr} {gc : Nat} {cs : Array Value} (hx : w.heap[x]? = some (.cells cs 41 (0, 0))) (ho : w.ownsRow w0.heap.size 57 2 (.slice GA st.given.length gc) st.given.length (gCells st.given)) (hb : Below w0.heap.size w0 w') (hn : ∀ b, b ≠ x → w'.heap[b]? = w.heap[b]?) (hx2 : w'.heap[x]? = some (.cells (rnCells S A cap { st with err := er } (.slice GA st.given.length gc) AA CH pr) 41 (0, 0))) : RunAt w0 w' x S A cap { st with err := er } AA CH pr :=
  ⟨hb, h.low, GA, gc, hx2, own_of_blk ho (fun g hg => hn g (fun e => by subst e; exact own_far3 ho hx (by decide) hg))⟩
/-! ### what it calls -/
theorem ext_headS (s : ByteArray) (n : Nat) : (s.extract 0 n).data.toList = s.data.toList.take n := by
  rw [ByteArray.data_extract, Array.toList_extract, List.extract_eq_take_drop]; simp
theorem eqIn_take (w : World) (d : Nat) : (Op.equalIn (d + 1) 39 .nilFunc .nilFunc).run Try.prog w = .ok true w := by
  simp [Op.equalIn, run_underlying Try.underlying39]
theorem neq_take (w : World) : (binOp .neq 39 .nilFunc .nilFunc).run Try.prog w = .ok (.bool false) w := by
  simp only [binOp]
  simp [Op.equal, Op.maxDepth, eqIn_take w 9999]
theorem own_some {w : World} {base e size n : Nat} {v : Value} {xs : List Value} (h : w.ownsRow base e size v n xs) (hn : 0 < n) : ∃ g c, v = .slice (some ⟨g, 0, none⟩) n c ∧ True := by
  rcases h.2 with ⟨_, h0⟩ | ⟨g, cap, cur, rfl, _⟩
  · omega
  · exact ⟨g, cap, rfl, trivial⟩
set_option maxRecDepth 100000 in
theorem hasS_any (A : Option Addr) (cap : Nat) (xs : List ByteArray) (s : ByteArray) (w : World) (hx : StrsAt w A xs) (hm : xs.length ≤ 9223372036854775807) :
    Calls Try.prog 90 #[.slice A xs.length cap, .string s] w fun e w' => e = .returned (.bool (hasB xs s)) ∧ w = w' := by
  go_enter Try.func90, Try.ntmps90
  go_wp2
  go_loop [9] (fun i => ∃ k : Nat, k ≤ xs.length ∧ i = .int .i64 k ∧ Hid (∀ j, j < k → tx xs j ≠ s)) (fun i => xs.length - (intOf i).toNat)
  case atStart => exact ⟨0, Nat.zero_le _, rfl, fun j h => by omega⟩
  case round =>
    obtain ⟨k, hk, rfl, HN⟩ := hrel
    by_cases hlt : k < xs.length
    · obtain ⟨b, o, rfl, hc⟩ := hx k hlt
      have i0 : (0 : Int) ≤ (k : Int) := Int.natCast_nonneg _
      have i1 : (k : Int) < (xs.length : Int) := by omega
      by_cases he : tx xs k = s
      · have hb := bytes_same he
        have HM : Hid (hasB xs s = true) := by
          show _ = _
          rw [hasB_iff, ← he, tx_lt hlt]; exact List.getElem_mem hlt
        clear he
        generalize tx xs k = t at hc hb
        go_wp2
        go_ret
        exact ⟨by rw [HM.out]; rfl, rfl⟩
      · have hb := bytes_ne he
        have HN2 : Hid (∀ j, j < k + 1 → tx xs j ≠ s) := by
          intro j hj
          by_cases e : j = k
          · subst e; exact he
          · exact HN.out j (by omega)
        clear he
        generalize tx xs k = t at hc hb
        go_wp2
        go_round
        case rel => exact ⟨k + 1, by omega, by go_num, HN2⟩
        case measure => simp [intOf]; omega
    · have HM : Hid (hasB xs s = false) := by
        show _ = _
        rw [Bool.eq_false_iff, Ne, hasB_iff]
        intro h
        obtain ⟨j, hj, e⟩ := List.getElem_of_mem h
        exact HN.out j (by omega) (by rw [tx_lt hj]; exact e)
      go_wp2
      go_ret
      exact ⟨by rw [HM.out]; rfl, rfl⟩

set_option maxRecDepth 100000 in
set_option maxHeartbeats 1600000 in
theorem unknown_help {w0 w : World} {x : Nat} {S : SetP} {A : Option Addr} {cap : Nat} {st : St} {AA CH : Value} {pr : Bool} (h : RunAt w0 w x S A cap st AA CH pr) (he : st.err = .no) (n s : Txt) :
    Calls Try.prog 52 #[.pointer (some ⟨x, 0, none⟩), .bool true, .string (mkT n), .string (mkT s)] w (fun e w' => e = .returned (.bool false) ∧ RunAt w0 w' x S A cap { st with err := .help } AA CH pr) := by
  obtain ⟨GA, gc, hx, ho⟩ := h.free he
  have zf := free_blk hx
  have lx := lt_of_block hx
  have de : w.cell? ⟨x, 4, none⟩ = some (.int .i64 0) := (cell_blk hx 4).trans rfl
  go_enter Try.func52, Try.ntmps52
  go_wp2
  go_ret
  have b0 : _ = some (Obj.cells #[.slice A S.flags.length cap, .bool S.plain, .bool S.unknown, .int .i64 (S.fold : Int), .int .i64 1, .string ⟨#[]⟩, .string ⟨#[]⟩, .string ⟨#[]⟩, .int .i64 (-1), .slice GA st.given.length gc, AA, .int .i64 st.dash, CH, .bool pr, .bool false, .bool false, .slice none 0 0, .nilFunc] 41 (0, 0)) := blk_set hx 4 (.int .i64 1)
  exact ⟨rfl, h.turn (.help) hx ho (h.bel.setCell (p := ⟨x, 4, none⟩) h.low (.int .i64 1)) (fun b ne => blk_other ne) b0⟩
set_option maxRecDepth 100000 in
set_option maxHeartbeats 1600000 in
theorem unknown_let {w0 w : World} {x : Nat} {S : SetP} {A : Option Addr} {cap : Nat} {st : St} {AA CH : Value} {pr : Bool} (h : RunAt w0 w x S A cap st AA CH pr) (he : st.err = .no) (hu : S.unknown = true) (n s : Txt) :
    Calls Try.prog 52 #[.pointer (some ⟨x, 0, none⟩), .bool false, .string (mkT n), .string (mkT s)] w (fun e w' => e = .returned (.bool true) ∧ RunAt w0 w' x S A cap st AA CH pr) := by
  obtain ⟨GA, gc, hx, ho⟩ := h.free he
  have zf := free_blk hx
  have lx := lt_of_block hx
  have dun : w.cell? ⟨x, 2, none⟩ = some (.bool true) := (cell_blk hx 2).trans (by rw [hu]; rfl)
  clear hu
  go_enter Try.func52, Try.ntmps52
  go_wp2
  go_ret
  exact ⟨rfl, h⟩
set_option maxRecDepth 100000 in
set_option maxHeartbeats 1600000 in
theorem unknown_not {w0 w : World} {x : Nat} {S : SetP} {A : Option Addr} {cap : Nat} {st : St} {AA CH : Value} {pr : Bool} (h : RunAt w0 w x S A cap st AA CH pr) (he : st.err = .no) (hu : S.unknown = false) (n s : Txt) :
    Calls Try.prog 52 #[.pointer (some ⟨x, 0, none⟩), .bool false, .string (mkT n), .string (mkT s)] w (fun e w' => e = .returned (.bool false) ∧ RunAt w0 w' x S A cap { st with err := .notExist n s } AA CH pr) := by
  obtain ⟨GA, gc, hx, ho⟩ := h.free he
  have zf := free_blk hx
  have lx := lt_of_block hx
  have dun : w.cell? ⟨x, 2, none⟩ = some (.bool false) := (cell_blk hx 2).trans (by rw [hu]; rfl)
  clear hu
  have de : w.cell? ⟨x, 4, none⟩ = some (.int .i64 0) := (cell_blk hx 4).trans rfl
  have dn : w.cell? ⟨x, 5, none⟩ = some (.string ⟨#[]⟩) := (cell_blk hx 5).trans rfl
  have ds : w.cell? ⟨x, 6, none⟩ = some (.string ⟨#[]⟩) := (cell_blk hx 6).trans rfl
  go_enter Try.func52, Try.ntmps52
  go_wp2
  go_ret
  have b0 : _ = some (Obj.cells #[.slice A S.flags.length cap, .bool S.plain, .bool S.unknown, .int .i64 (S.fold : Int), .int .i64 2, .string ⟨#[]⟩, .string ⟨#[]⟩, .string ⟨#[]⟩, .int .i64 (-1), .slice GA st.given.length gc, AA, .int .i64 st.dash, CH, .bool pr, .bool false, .bool false, .slice none 0 0, .nilFunc] 41 (0, 0)) := blk_set hx 4 (.int .i64 2)
  have b1 : _ = some (Obj.cells #[.slice A S.flags.length cap, .bool S.plain, .bool S.unknown, .int .i64 (S.fold : Int), .int .i64 2, .string (mkT n), .string ⟨#[]⟩, .string ⟨#[]⟩, .int .i64 (-1), .slice GA st.given.length gc, AA, .int .i64 st.dash, CH, .bool pr, .bool false, .bool false, .slice none 0 0, .nilFunc] 41 (0, 0)) := blk_set b0 5 (.string (mkT n))
  have b2 : _ = some (Obj.cells #[.slice A S.flags.length cap, .bool S.plain, .bool S.unknown, .int .i64 (S.fold : Int), .int .i64 2, .string (mkT n), .string (mkT s), .string ⟨#[]⟩, .int .i64 (-1), .slice GA st.given.length gc, AA, .int .i64 st.dash, CH, .bool pr, .bool false, .bool false, .slice none 0 0, .nilFunc] 41 (0, 0)) := blk_set b1 6 (.string (mkT s))
  exact ⟨rfl, h.turn (.notExist n s) hx ho (((h.bel.setCell (p := ⟨x, 4, none⟩) h.low (.int .i64 2)).setCell (p := ⟨x, 5, none⟩) h.low (.string (mkT n))).setCell (p := ⟨x, 6, none⟩) h.low (.string (mkT s))) (fun b ne => (blk_other ne).trans ((blk_other ne).trans (blk_other ne))) b2⟩
set_option maxRecDepth 100000 in
set_option maxHeartbeats 1600000 in
theorem gives_bad {w0 w : World} {x : Nat} {S : SetP} {A : Option Addr} {cap : Nat} {st : St} {AA CH : Value} {pr : Bool} (h : RunAt w0 w x S A cap st AA CH pr) (he : st.err = .no) (hA : FlagsAt w0 A S.flags) {i : Nat} (hi : i < S.flags.length) (v : Txt) (hG : st.given.length ≤ 1099511627776) (hb : v ∈ S.flags[i].bad) :
    Calls Try.prog 54 #[.pointer (some ⟨x, 0, none⟩), .int .i64 (i : Int), .string (mkT v)] w (fun e w' => e = .returned (.tuple #[]) ∧ RunAt w0 w' x S A cap { st with err := .invalid i v } AA CH pr) := by
  obtain ⟨GA, gc, hx, ho⟩ := h.free he
  have zf := free_blk hx
  have lx := lt_of_block hx
  obtain ⟨fb, fo, fv, rfl, -, -, -, f3, htx⟩ := hA i hi
  obtain ⟨bA, bc, rfl, hbs, hbl, hbm, _⟩ := htx
  have hbn : (S.flags[i].bad.map mkT).length = S.flags[i].bad.length := List.length_map _
  have e3 := cell_kept h.bel f3
  have hi2 : (i : Int) < (S.flags.length : Int) := by omega
  have i0 : (0 : Int) ≤ (i : Int) := Int.natCast_nonneg _
  have hbB : hasB (S.flags[i].bad.map mkT) (mkT v) = decide (v ∈ S.flags[i].bad) := hasB_map ..
  have HH := Lib.hid (fun (W : World) (hw : Below w0.heap.size w0 W) => hasS_any bA bc (S.flags[i].bad.map mkT) (mkT v) W (strsAt_below hbs hw) (by omega))
  rw [hbB, decide_eq_true hb] at HH
  have HB := Lib.hid h.bel
  have dsl : w.cell? ⟨x, 0, none⟩ = some (.slice (some ⟨fb, fo, none⟩) S.flags.length cap) := (cell_blk hx 0).trans rfl
  have de : w.cell? ⟨x, 4, none⟩ = some (.int .i64 0) := (cell_blk hx 4).trans rfl
  have df : w.cell? ⟨x, 8, none⟩ = some (.int .i64 (-1)) := (cell_blk hx 8).trans rfl
  have dv : w.cell? ⟨x, 7, none⟩ = some (.string ⟨#[]⟩) := (cell_blk hx 7).trans rfl
  have dall : w.cell? ⟨x, 15, none⟩ = some (.bool false) := (cell_blk hx 15).trans rfl
  clear hbs hbl hbm hbB hb hbn f3
  generalize (S.flags[i].bad.map mkT).length = nb at e3 HH
  go_enter Try.func54, Try.ntmps54
  go_wp2_with ((with_reducible go_at_call 90); (with_reducible refine Calls.mono (HH.out _ HB.out) ?_); rintro e w3 ⟨rfl, rfl⟩)
  go_end0
  have b0 : _ = some (Obj.cells #[.slice (some ⟨fb, fo, none⟩) S.flags.length cap, .bool S.plain, .bool S.unknown, .int .i64 (S.fold : Int), .int .i64 4, .string ⟨#[]⟩, .string ⟨#[]⟩, .string ⟨#[]⟩, .int .i64 (-1), .slice GA st.given.length gc, AA, .int .i64 st.dash, CH, .bool pr, .bool false, .bool false, .slice none 0 0, .nilFunc] 41 (0, 0)) := blk_set hx 4 (.int .i64 4)
  have b1 : _ = some (Obj.cells #[.slice (some ⟨fb, fo, none⟩) S.flags.length cap, .bool S.plain, .bool S.unknown, .int .i64 (S.fold : Int), .int .i64 4, .string ⟨#[]⟩, .string ⟨#[]⟩, .string ⟨#[]⟩, .int .i64 (i : Int), .slice GA st.given.length gc, AA, .int .i64 st.dash, CH, .bool pr, .bool false, .bool false, .slice none 0 0, .nilFunc] 41 (0, 0)) := blk_set b0 8 (.int .i64 (i : Int))
  have b2 : _ = some (Obj.cells #[.slice (some ⟨fb, fo, none⟩) S.flags.length cap, .bool S.plain, .bool S.unknown, .int .i64 (S.fold : Int), .int .i64 4, .string ⟨#[]⟩, .string ⟨#[]⟩, .string (mkT v), .int .i64 (i : Int), .slice GA st.given.length gc, AA, .int .i64 st.dash, CH, .bool pr, .bool false, .bool false, .slice none 0 0, .nilFunc] 41 (0, 0)) := blk_set b1 7 (.string (mkT v))
  exact ⟨rfl, h.turn (.invalid i v) hx ho (((h.bel.setCell (p := ⟨x, 4, none⟩) h.low (.int .i64 4)).setCell (p := ⟨x, 8, none⟩) h.low (.int .i64 (i : Int))).setCell (p := ⟨x, 7, none⟩) h.low (.string (mkT v))) (fun b ne => (blk_other ne).trans ((blk_other ne).trans (blk_other ne))) b2⟩
theorem RunAt.give {w0 w wa w1 : World} {x : Nat} {S : SetP} {A : Option Addr} {cap : Nat} {st : St} {AA CH : Value} {pr : Bool} (h : RunAt w0 w x S A cap st AA CH pr) (he : st.err = .no) {i : Nat} {v : Txt} {g c : Nat} {r : Option Nat} (hr : ∀ k, r = some k → w0.heap.size ≤ k ∧ k ≠ x) (hal : Below w.heap.size w wa) (hg : wa.grownBy w1 r) (ho : w1.ownsRow w0.heap.size 57 2 (.slice (some ⟨g, 0, none⟩) (st.given.length + 1) c) (st.given.length + 1) (gCells st.given ++ [.int .i64 (i : Int), .string (mkT v)])) :
    RunAt w0 (w1.setCell ⟨x, 9, none⟩ (.slice (some ⟨g, 0, none⟩) (st.given.length + 1) c)) x S A cap { st with given := st.given ++ [(i, v)] } AA CH pr := by
  obtain ⟨GA, gc, hx, _⟩ := h.free he
  have hx1 : w1.heap[x]? = _ := grown_blk hg (block_kept hx hal) (fun e => (hr x e.symm).2 rfl)
  have hb1 : Below w0.heap.size w0 w1 := (h.bel.trans (hal.mono h.bel.size)).grown hg (Nat.le_trans h.bel.size hal.size) (fun k hk => (hr k hk).1)
  have hlen : (st.given ++ [(i, v)]).length = st.given.length + 1 := by simp
  have b0 : _ = some (Obj.cells #[.slice A S.flags.length cap, .bool S.plain, .bool S.unknown, .int .i64 (S.fold : Int), .int .i64 0, .string ⟨#[]⟩, .string ⟨#[]⟩, .string ⟨#[]⟩, .int .i64 (-1), .slice (some ⟨g, 0, none⟩) (st.given.length + 1) c, AA, .int .i64 st.dash, CH, .bool pr, .bool false, .bool false, .slice none 0 0, .nilFunc] 41 (0, 0)) := blk_set hx1 9 (.slice (some ⟨g, 0, none⟩) (st.given.length + 1) c)
  refine ⟨hb1.setCell (p := ⟨x, 9, none⟩) h.low _, h.low, some ⟨g, 0, none⟩, c, ?_, ?_⟩
  · unfold rnCells
    rw [hlen]
    show _ = some (Obj.cells #[_, _, _, _, .int .i64 (eNo st.err), .string (mkT (eName st.err)), .string (mkT (eShort st.err)), .string (mkT (eVal st.err)), .int .i64 (eFlag st.err), _, _, _, _, _, _, _, _, _] _ _)
    rw [he]; exact b0
  · rw [hlen, gCells_snoc]
    exact own_of_blk ho (fun k hk => blk_other (fun e => by subst e; exact own_far3 ho hx1 (by decide) hk))
set_option maxRecDepth 100000 in
set_option maxHeartbeats 1600000 in
theorem gives_ok {w0 w : World} {x : Nat} {S : SetP} {A : Option Addr} {cap : Nat} {st : St} {AA CH : Value} {pr : Bool} (h : RunAt w0 w x S A cap st AA CH pr) (he : st.err = .no) (hA : FlagsAt w0 A S.flags) {i : Nat} (hi : i < S.flags.length) (v : Txt) (hG : st.given.length ≤ 1099511627776) (hb : ¬ v ∈ S.flags[i].bad) :
    Calls Try.prog 54 #[.pointer (some ⟨x, 0, none⟩), .int .i64 (i : Int), .string (mkT v)] w (fun e w' => e = .returned (.tuple #[]) ∧ RunAt w0 w' x S A cap { st with given := st.given ++ [(i, v)] } AA CH pr) := by
  obtain ⟨ti, gi, hz0, hz1, hz2⟩ := info_parts Try.infoG
  obtain ⟨GA, gc, hx, ho⟩ := h.free he
  have zf := free_blk hx
  have lx := lt_of_block hx
  obtain ⟨fb, fo, fv, rfl, -, -, -, f3, htx⟩ := hA i hi
  obtain ⟨bA, bc, rfl, hbs, hbl, hbm, _⟩ := htx
  have hbn : (S.flags[i].bad.map mkT).length = S.flags[i].bad.length := List.length_map _
  have e3 := cell_kept h.bel f3
  have hi2 : (i : Int) < (S.flags.length : Int) := by omega
  have i0 : (0 : Int) ≤ (i : Int) := Int.natCast_nonneg _
  have hbB : hasB (S.flags[i].bad.map mkT) (mkT v) = decide (v ∈ S.flags[i].bad) := hasB_map ..
  have HH := Lib.hid (fun (W : World) (hw : Below w0.heap.size w0 W) => hasS_any bA bc (S.flags[i].bad.map mkT) (mkT v) W (strsAt_below hbs hw) (by omega))
  rw [hbB, decide_eq_false hb] at HH
  have HB := Lib.hid h.bel
  have dsl : w.cell? ⟨x, 0, none⟩ = some (.slice (some ⟨fb, fo, none⟩) S.flags.length cap) := (cell_blk hx 0).trans rfl
  have dG : w.cell? ⟨x, 9, none⟩ = some (.slice GA st.given.length gc) := (cell_blk hx 9).trans rfl
  have dall : w.cell? ⟨x, 15, none⟩ = some (.bool false) := (cell_blk hx 15).trans rfl
  have dtake : w.cell? ⟨x, 17, none⟩ = some (.nilFunc) := (cell_blk hx 17).trans rfl
  have hal : Below w.heap.size w (w.alloc (.cells #[.int .i64 (i : Int), .string (mkT v)] 57)) := (Below.refl _ _).alloc (Nat.le_refl _) _
  have HS := Lib.hid (own_kept ho hal)
  have HX := Lib.hid (block_kept hx hal)
  have hsx : (Value.slice GA st.given.length gc).ownBlock ≠ some x := own_far3 ho hx (by decide)
  have HSX := Lib.hid hsx
  have HLT := Lib.hid (fun k hk => (ho.lt k hk).1)
  have HB1 : Hid (w0.heap.size ≤ w.heap.size) := h.bel.size
  have HG := Lib.hid (fun (w1 : World) (g c : Nat) hr hg ho => RunAt.give (i := i) (v := v) (g := g) (c := c) (w1 := w1) (r := (Value.slice GA st.given.length gc).ownBlock) h he hr hal hg ho)
  have HN := Lib.hid (heap_alloc_new w (.cells #[.int .i64 (i : Int), .string (mkT v)] 57))
  generalize hvv : mkT v = vv at HH HS HX HG HN hal ⊢
  clear hbs hbl hbm hbB hb hbn f3 hsx ho hal hvv
  generalize (S.flags[i].bad.map mkT).length = nb at e3 HH
  have hnt := neq_take
  go_enter Try.func54, Try.ntmps54
  go_wp2_with (first
    | ((with_reducible go_at_call 90); (with_reducible refine Calls.mono (HH.out _ HB.out) ?_); rintro e w3 ⟨rfl, rfl⟩)
    | (at_builtin; refine wpList_append_any rfl (.tmp 11) (.tmp 15) 29 rfl w0.heap.size 57 ti _ 2 24 Try.underlying29 gi hz0 hz1 hz2 rfl (by decide) _ st.given.length _ rfl HS.out (some ⟨w.heap.size, 0, none⟩) 1 1 [.int .i64 (i : Int), .string vv] rfl (fun h => by cases h) rfl (fun ad e => by cases e; exact World.news_of_block (cs := #[.int .i64 (i : Int), .string vv]) (t := 57) (fr := (0, 0)) HN.out) (by simp [Value.oneCell']) (by unfold maxLen; omega) (by omega) (by have := HB1.out; simp; omega) ?_; intro v8 w8 hown8 hg8; obtain ⟨A8, c8, hv8, hA8⟩ := own_some hown8 (by omega); subst hv8; have hX8 := grown_blk hg8 HX.out (Ne.symm HSX.out); have y9 : w8.cell? ⟨x, 9, none⟩ = some (.slice GA st.given.length gc) := (cell_blk hX8 9).trans rfl; have zf8 := free_blk hX8; have lx8 := lt_of_block hX8))
  go_end0
  exact ⟨rfl, HG.out w8 A8 c8 (fun k hk => ⟨HLT.out k hk, fun e => by subst e; exact HSX.out hk⟩) hg8 hown8⟩
theorem gives_any {w0 w : World} {x : Nat} {S : SetP} {A : Option Addr} {cap : Nat} {st : St} {AA CH : Value} {pr : Bool} (h : RunAt w0 w x S A cap st AA CH pr) (he : st.err = .no) (hA : FlagsAt w0 A S.flags) {i : Nat} (hi : i < S.flags.length) (v : Txt) (hG : st.given.length ≤ 1099511627776) :
    Calls Try.prog 54 #[.pointer (some ⟨x, 0, none⟩), .int .i64 (i : Int), .string (mkT v)] w (fun e w' => e = .returned (.tuple #[]) ∧ RunAt w0 w' x S A cap (give S none st i v) AA CH pr) := by
  unfold give
  simp only
  rw [badOf_at hi]
  by_cases hb : v ∈ S.flags[i].bad
  · rw [if_pos hb]; exact gives_bad h he hA hi v hG hb
  · rw [if_neg hb]; exact gives_ok h he hA hi v hG hb
/-- Memory below which arguments lie. -/
def pcB (S : SetP) (B : Nat) : PC := ⟨S, B, 0, 0, 0, 0, [], [], .nilFunc⟩
theorem restAt_of {S : SetP} {w : World} {v : Value} {L : List Txt} (h : TextIn w v (L.map mkT)) : RestAt (pcB S w.heap.size) w v L := by
  obtain ⟨A, c, rfl, h1, h2, h3, h4, h5⟩ := h
  have hl : (L.map mkT).length = L.length := List.length_map _
  exact ⟨A, c, by rw [hl], h1, by rw [hl] at h2; exact h2, h3, h4, h5⟩
theorem textIn_rest {S : SetP} {w : World} {v : Value} {L : List Txt} (h : RestAt (pcB S w.heap.size) w v L) : TextIn w v (L.map mkT) := by
  obtain ⟨A, c, rfl, h1, h2, h3, h4, h5⟩ := h
  have hl : (L.map mkT).length = L.length := List.length_map _
  exact ⟨A, c, by rw [hl], h1, by rw [hl]; exact h2, h3, h4, h5⟩
/-- What a step leaves: the arguments that are left, and what is heard. -/
def StepS (w0 : World) (x : Nat) (S : SetP) (A : Option Addr) (cap : Nat) (AA CH : Value) (pr : Bool) (q : St × List Txt) (e : Ending) (w' : World) : Prop := ∃ v, e = .returned v ∧ RestAt (pcB S w0.heap.size) w0 v q.2 ∧ RunAt w0 w' x S A cap q.1 AA CH pr
set_option maxRecDepth 100000 in
set_option maxHeartbeats 1600000 in
theorem wants_nil {w0 w : World} {x : Nat} {S : SetP} {A : Option Addr} {cap : Nat} {st : St} {AA CH : Value} {pr : Bool} (h : RunAt w0 w x S A cap st AA CH pr) (he : st.err = .no) {vr : Value} (hr : RestAt (pcB S w0.heap.size) w0 vr []) (i : Nat) (n s : Txt) :
    Calls Try.prog 55 #[.pointer (some ⟨x, 0, none⟩), .int .i64 (i : Int), .string (mkT n), .string (mkT s), vr] w (StepS w0 x S A cap AA CH pr ({ st with err := .need i n s }, [])) := by
  obtain ⟨Ar, cr, rfl, hr1⟩ := hr
  obtain ⟨GA, gc, hx, ho⟩ := h.free he
  have zf := free_blk hx
  have lx := lt_of_block hx
  have de : w.cell? ⟨x, 4, none⟩ = some (.int .i64 0) := (cell_blk hx 4).trans rfl
  have df : w.cell? ⟨x, 8, none⟩ = some (.int .i64 (-1)) := (cell_blk hx 8).trans rfl
  have dn : w.cell? ⟨x, 5, none⟩ = some (.string ⟨#[]⟩) := (cell_blk hx 5).trans rfl
  have ds : w.cell? ⟨x, 6, none⟩ = some (.string ⟨#[]⟩) := (cell_blk hx 6).trans rfl
  go_enter Try.func55, Try.ntmps55
  go_wp2
  go_ret
  have b0 : _ = some (Obj.cells #[.slice A S.flags.length cap, .bool S.plain, .bool S.unknown, .int .i64 (S.fold : Int), .int .i64 3, .string ⟨#[]⟩, .string ⟨#[]⟩, .string ⟨#[]⟩, .int .i64 (-1), .slice GA st.given.length gc, AA, .int .i64 st.dash, CH, .bool pr, .bool false, .bool false, .slice none 0 0, .nilFunc] 41 (0, 0)) := blk_set hx 4 (.int .i64 3)
  have b1 : _ = some (Obj.cells #[.slice A S.flags.length cap, .bool S.plain, .bool S.unknown, .int .i64 (S.fold : Int), .int .i64 3, .string ⟨#[]⟩, .string ⟨#[]⟩, .string ⟨#[]⟩, .int .i64 (i : Int), .slice GA st.given.length gc, AA, .int .i64 st.dash, CH, .bool pr, .bool false, .bool false, .slice none 0 0, .nilFunc] 41 (0, 0)) := blk_set b0 8 (.int .i64 (i : Int))
  have b2 : _ = some (Obj.cells #[.slice A S.flags.length cap, .bool S.plain, .bool S.unknown, .int .i64 (S.fold : Int), .int .i64 3, .string (mkT n), .string ⟨#[]⟩, .string ⟨#[]⟩, .int .i64 (i : Int), .slice GA st.given.length gc, AA, .int .i64 st.dash, CH, .bool pr, .bool false, .bool false, .slice none 0 0, .nilFunc] 41 (0, 0)) := blk_set b1 5 (.string (mkT n))
  have b3 : _ = some (Obj.cells #[.slice A S.flags.length cap, .bool S.plain, .bool S.unknown, .int .i64 (S.fold : Int), .int .i64 3, .string (mkT n), .string (mkT s), .string ⟨#[]⟩, .int .i64 (i : Int), .slice GA st.given.length gc, AA, .int .i64 st.dash, CH, .bool pr, .bool false, .bool false, .slice none 0 0, .nilFunc] 41 (0, 0)) := blk_set b2 6 (.string (mkT s))
  exact ⟨_, rfl, ⟨Ar, cr, rfl, hr1⟩, h.turn (.need i n s) hx ho ((((h.bel.setCell (p := ⟨x, 4, none⟩) h.low (.int .i64 3)).setCell (p := ⟨x, 8, none⟩) h.low (.int .i64 (i : Int))).setCell (p := ⟨x, 5, none⟩) h.low (.string (mkT n))).setCell (p := ⟨x, 6, none⟩) h.low (.string (mkT s))) (fun b ne => (blk_other ne).trans ((blk_other ne).trans ((blk_other ne).trans (blk_other ne)))) b3⟩
set_option maxRecDepth 100000 in
set_option maxHeartbeats 1600000 in
theorem wants_next {w0 w : World} {x : Nat} {S : SetP} {A : Option Addr} {cap : Nat} {st : St} {AA CH : Value} {pr : Bool} (h : RunAt w0 w x S A cap st AA CH pr) (he : st.err = .no) (hA : FlagsAt w0 A S.flags) {i : Nat} (hi : i < S.flags.length) (hG : st.given.length ≤ 1099511627776) {vr : Value} {a : Txt} {rs : List Txt} (hr : RestAt (pcB S w0.heap.size) w0 vr (a :: rs)) (hrl : rs.length ≤ 1099511627776) (n s : Txt) :
    Calls Try.prog 55 #[.pointer (some ⟨x, 0, none⟩), .int .i64 (i : Int), .string (mkT n), .string (mkT s), vr] w (StepS w0 x S A cap AA CH pr (give S none st i a, rs)) := by
  obtain ⟨b, o, cap2, rfl, hc, A1, c1, hcut, hrest⟩ := hr.cut
  have HR := Lib.hid (hrest w0 hr)
  have hc2 := cell_kept h.bel hc
  have HGV := Lib.hid (gives_any h he hA hi a hG)
  have z0 : (((rs.length + 1 : Nat) : Int) == 0) = false := by simp; omega
  have z1 : (0 : Int) < ((rs.length + 1 : Nat) : Int) := by omega
  clear hr hrest hc h he hA hi hG
  generalize give S none st i a = st' at HGV ⊢
  generalize mkT a = AX at hc2 HGV
  go_enter Try.func55, Try.ntmps55
  go_wp2_with ((with_reducible go_at_call 54); (with_reducible refine Calls.mono HGV.out ?_); rintro e w3 ⟨rfl, hr3⟩)
  go_ret
  exact ⟨_, rfl, HR.out, hr3⟩
set_option maxRecDepth 100000 in
set_option maxHeartbeats 1600000 in
theorem strip_c {S : SetP} {w0 w : World} (hb : Below w0.heap.size w0 w) {vr : Value} {rest : List Txt} (hr : RestAt (pcB S w0.heap.size) w0 vr rest) (hl : rest.length ≤ 1099511627776) :
    Calls Try.prog 53 #[vr] w fun e w' => ∃ v, e = .returned v ∧ RestAt (pcB S w0.heap.size) w0 v (strip rest) ∧ w = w' := by
  cases rest with
  | nil =>
    obtain ⟨Ar, cr, rfl, hr1⟩ := hr
    go_enter Try.func53, Try.ntmps53
    go_wp2
    go_ret
    exact ⟨_, rfl, ⟨Ar, cr, rfl, hr1⟩, rfl⟩
  | cons a rs =>
    obtain ⟨b, o, cap2, rfl, hc, A1, c1, hcut, hrest⟩ := hr.cut
    have hc2 := cell_kept hb hc
    have z0 : (((rs.length + 1 : Nat) : Int) == 0) = false := by simp; omega
    have z1 : (0 : Int) < ((rs.length + 1 : Nat) : Int) := by omega
    have HR := Lib.hid (hrest w0 hr)
    have HRR := Lib.hid hr
    clear hr hrest hc
    cases a with
    | nil =>
      have hs : strip ([] :: rs) = rs := by simp [strip]
      rw [hs]
      have hc3 : w.cell? ⟨b, o, none⟩ = some (.string ⟨#[]⟩) := hc2
      clear hc2
      go_enter Try.func53, Try.ntmps53
      go_wp2
      go_ret
      exact ⟨_, rfl, HR.out, rfl⟩
    | cons c r =>
      obtain ⟨p0, g0⟩ := mkT_get (l := c :: r) rfl
      have po1 := nonempty_list p0
      have po2 := nonempty_not p0
      by_cases h45 : c = 45
      · have hs : strip ((c :: r) :: rs) = (c :: r) :: rs := by simp [strip, h45]
        rw [hs]
        have b1 : (((mkT (c :: r))[0].toNat : Int) == 45) = true := by rw [g0, h45]; rfl
        clear g0 hs
        generalize mkT (c :: r) = TX at hc2 p0 po1 po2 b1
        go_enter Try.func53, Try.ntmps53
        go_wp2
        go_ret
        exact ⟨_, rfl, HRR.out, rfl⟩
      · have hs : strip ((c :: r) :: rs) = rs := by simp [strip, h45]
        rw [hs]
        have b1 : (((mkT (c :: r))[0].toNat : Int) == 45) = false := nat_beq_false (b := 45) (by rw [g0]; intro e; exact h45 (UInt8.toNat_inj.1 e))
        clear g0 hs
        generalize mkT (c :: r) = TX at hc2 p0 po1 po2 b1
        go_enter Try.func53, Try.ntmps53
        go_wp2
        go_ret
        exact ⟨_, rfl, HR.out, rfl⟩
theorem named_some {w : World} {A : Option Addr} {S : SetP} (hA : FlagsAt w A S.flags) (hR : Right S) (hn : S.flags.length ≤ 2147483647) (hsz : ∀ f ∈ S.flags, f.name.length ≤ 2147483647) (cap : Nat) (t : Txt) (hz : (mkT t).size ≤ 2147483647) {i : Nat} (h : named S t = some i) :
    Calls Try.prog 35 #[.agg #[.slice A S.flags.length cap, .bool S.plain, .bool S.unknown, .int .i64 (S.fold : Int)], .string (mkT t)] w fun e w' => e = .returned (.int .i64 (i : Int)) ∧ Below w.heap.size w w' := by
  refine (named_x hA hn hsz cap S.plain S.unknown hR.fold t hz).mono ?_
  rintro e w' ⟨h1 | h1, hb⟩
  · obtain ⟨j, hj, rfl, e⟩ := h1
    have := named_of hR hj (t := t) e.symm
    rw [h] at this
    cases this
    exact ⟨rfl, hb⟩
  · unfold named at h
    obtain ⟨hi, hp, _⟩ := List.findIdx?_eq_some_iff_getElem.1 h
    exact absurd (of_decide_eq_true hp) (h1.2 _ (List.getElem_mem hi))
theorem named_none {w : World} {A : Option Addr} {S : SetP} (hA : FlagsAt w A S.flags) (hR : Right S) (hn : S.flags.length ≤ 2147483647) (hsz : ∀ f ∈ S.flags, f.name.length ≤ 2147483647) (cap : Nat) (t : Txt) (hz : (mkT t).size ≤ 2147483647) (h : named S t = none) :
    Calls Try.prog 35 #[.agg #[.slice A S.flags.length cap, .bool S.plain, .bool S.unknown, .int .i64 (S.fold : Int)], .string (mkT t)] w fun e w' => e = .returned (.int .i64 (-1)) ∧ Below w.heap.size w w' := by
  refine (named_x hA hn hsz cap S.plain S.unknown hR.fold t hz).mono ?_
  rintro e w' ⟨h1 | h1, hb⟩
  · obtain ⟨j, hj, rfl, e⟩ := h1
    have := named_of hR hj (t := t) e.symm
    rw [h] at this
    cases this
  · exact ⟨h1.1, hb⟩
set_option maxRecDepth 100000 in
set_option maxHeartbeats 1600000 in
theorem longS_syn {w0 w : World} {x : Nat} {S : SetP} {A : Option Addr} {cap : Nat} {st : St} {AA CH : Value} {pr : Bool} (h : RunAt w0 w x S A cap st AA CH pr) (he : st.err = .no) (hA : FlagsAt w0 A S.flags) (hR : Right S) (hn : S.flags.length ≤ 2147483647) (hsz : ∀ f ∈ S.flags, f.name.length ≤ 2147483647) (hG : st.given.length ≤ 1099511627776) {vr : Value} {rest : List Txt} (hr : RestAt (pcB S w0.heap.size) w0 vr rest) (hrl : rest.length ≤ 1099511627776) (t : Txt) (htl : t.length ≤ 2147483600) (hs : t = [] ∨ t.head? = some 45 ∨ t.head? = some 61) :
    Calls Try.prog 20 #[.pointer (some ⟨x, 0, none⟩), .string (mkT (45 :: 45 :: t)), vr] w (StepS w0 x S A cap AA CH pr ({ st with err := .syn (45 :: 45 :: t) }, rest)) := by
  have has : (mkT (45 :: 45 :: t)).size = t.length + 2 := by rw [mkT_size]; simp
  have hA2 : (2 : Int) ≤ ((mkT (45 :: 45 :: t)).size : Int) := by omega
  have hsl : ∀ W, (Instr.slice 9 (.string (mkT (45 :: 45 :: t))) (some (.int .i64 2)) none none).run Try.prog W = .ok (.string (mkT t)) W := fun W => by
    rw [run_slice_string_l (P := Try.prog) W 9 (mkT (45 :: 45 :: t)) Try.underlying9 .i64 2 (by omega) (by omega)]
    have e : (mkT (45 :: 45 :: t)).extract (2 : Int).toNat (mkT (45 :: 45 :: t)).size = mkT t := mkT_inj (by rw [ext_tailP, mkT_list, mkT_list]; rfl)
    rw [e]
  obtain ⟨GA, gc, hx, ho⟩ := h.free he
  have zf := free_blk hx
  have lx := lt_of_block hx
  have de : w.cell? ⟨x, 4, none⟩ = some (.int .i64 0) := (cell_blk hx 4).trans rfl
  have dn : w.cell? ⟨x, 5, none⟩ = some (.string ⟨#[]⟩) := (cell_blk hx 5).trans rfl
  rcases hs with rfl | h9 | h9
  · have z1 : mkT ([] : Txt) = ⟨#[]⟩ := rfl
    simp only [z1] at hsl
    clear has z1
    generalize hARG : mkT (45 :: 45 :: ([] : Txt)) = ARG at hsl hA2 ⊢
    go_enter Try.func20, Try.ntmps20
    go_wp2
    go_ret
    subst hARG
    have b0 : _ = some (Obj.cells #[.slice A S.flags.length cap, .bool S.plain, .bool S.unknown, .int .i64 (S.fold : Int), .int .i64 5, .string ⟨#[]⟩, .string ⟨#[]⟩, .string ⟨#[]⟩, .int .i64 (-1), .slice GA st.given.length gc, AA, .int .i64 st.dash, CH, .bool pr, .bool false, .bool false, .slice none 0 0, .nilFunc] 41 (0, 0)) := blk_set hx 4 (.int .i64 5)
    have b1 : _ = some (Obj.cells #[.slice A S.flags.length cap, .bool S.plain, .bool S.unknown, .int .i64 (S.fold : Int), .int .i64 5, .string (mkT (45 :: 45 :: ([] : Txt))), .string ⟨#[]⟩, .string ⟨#[]⟩, .int .i64 (-1), .slice GA st.given.length gc, AA, .int .i64 st.dash, CH, .bool pr, .bool false, .bool false, .slice none 0 0, .nilFunc] 41 (0, 0)) := blk_set b0 5 (.string (mkT (45 :: 45 :: ([] : Txt))))
    exact ⟨_, rfl, hr, h.turn (.syn (45 :: 45 :: ([] : Txt))) hx ho ((h.bel.setCell (p := ⟨x, 4, none⟩) h.low (.int .i64 5)).setCell (p := ⟨x, 5, none⟩) h.low (.string (mkT (45 :: 45 :: ([] : Txt))))) (fun b ne => (blk_other ne).trans (blk_other ne)) b1⟩
  · obtain ⟨c, r, rfl⟩ : ∃ c r, t = c :: r := by cases t with
      | nil => simp at h9
      | cons c r => exact ⟨c, r, rfl⟩
    obtain ⟨p0, g0⟩ := mkT_get (l := c :: r) rfl
    have po1 := nonempty_list p0
    have po2 := nonempty_not p0
    have c0 : (((mkT (c :: r))[0].toNat : Int) == 45) = true := by rw [g0]; simp only [List.head?_cons, Option.some.injEq] at h9; rw [h9]; rfl
    clear g0 h9 has
    generalize hARG : mkT (45 :: 45 :: (c :: r)) = ARG at hsl hA2 ⊢
    generalize mkT (c :: r) = TX at hsl p0 po1 po2 c0
    go_enter Try.func20, Try.ntmps20
    go_wp2
    go_ret
    subst hARG
    have b0 : _ = some (Obj.cells #[.slice A S.flags.length cap, .bool S.plain, .bool S.unknown, .int .i64 (S.fold : Int), .int .i64 5, .string ⟨#[]⟩, .string ⟨#[]⟩, .string ⟨#[]⟩, .int .i64 (-1), .slice GA st.given.length gc, AA, .int .i64 st.dash, CH, .bool pr, .bool false, .bool false, .slice none 0 0, .nilFunc] 41 (0, 0)) := blk_set hx 4 (.int .i64 5)
    have b1 : _ = some (Obj.cells #[.slice A S.flags.length cap, .bool S.plain, .bool S.unknown, .int .i64 (S.fold : Int), .int .i64 5, .string (mkT (45 :: 45 :: (c :: r))), .string ⟨#[]⟩, .string ⟨#[]⟩, .int .i64 (-1), .slice GA st.given.length gc, AA, .int .i64 st.dash, CH, .bool pr, .bool false, .bool false, .slice none 0 0, .nilFunc] 41 (0, 0)) := blk_set b0 5 (.string (mkT (45 :: 45 :: (c :: r))))
    exact ⟨_, rfl, hr, h.turn (.syn (45 :: 45 :: (c :: r))) hx ho ((h.bel.setCell (p := ⟨x, 4, none⟩) h.low (.int .i64 5)).setCell (p := ⟨x, 5, none⟩) h.low (.string (mkT (45 :: 45 :: (c :: r))))) (fun b ne => (blk_other ne).trans (blk_other ne)) b1⟩
  · obtain ⟨c, r, rfl⟩ : ∃ c r, t = c :: r := by cases t with
      | nil => simp at h9
      | cons c r => exact ⟨c, r, rfl⟩
    obtain ⟨p0, g0⟩ := mkT_get (l := c :: r) rfl
    have po1 := nonempty_list p0
    have po2 := nonempty_not p0
    have c0 : (((mkT (c :: r))[0].toNat : Int) == 45) = false := by rw [g0]; simp only [List.head?_cons, Option.some.injEq] at h9; rw [h9]; rfl
    have c1 : (((mkT (c :: r))[0].toNat : Int) == 61) = true := by rw [g0]; simp only [List.head?_cons, Option.some.injEq] at h9; rw [h9]; rfl
    clear g0 h9 has
    generalize hARG : mkT (45 :: 45 :: (c :: r)) = ARG at hsl hA2 ⊢
    generalize mkT (c :: r) = TX at hsl p0 po1 po2 c0 c1
    go_enter Try.func20, Try.ntmps20
    go_wp2
    go_ret
    subst hARG
    have b0 : _ = some (Obj.cells #[.slice A S.flags.length cap, .bool S.plain, .bool S.unknown, .int .i64 (S.fold : Int), .int .i64 5, .string ⟨#[]⟩, .string ⟨#[]⟩, .string ⟨#[]⟩, .int .i64 (-1), .slice GA st.given.length gc, AA, .int .i64 st.dash, CH, .bool pr, .bool false, .bool false, .slice none 0 0, .nilFunc] 41 (0, 0)) := blk_set hx 4 (.int .i64 5)
    have b1 : _ = some (Obj.cells #[.slice A S.flags.length cap, .bool S.plain, .bool S.unknown, .int .i64 (S.fold : Int), .int .i64 5, .string (mkT (45 :: 45 :: (c :: r))), .string ⟨#[]⟩, .string ⟨#[]⟩, .int .i64 (-1), .slice GA st.given.length gc, AA, .int .i64 st.dash, CH, .bool pr, .bool false, .bool false, .slice none 0 0, .nilFunc] 41 (0, 0)) := blk_set b0 5 (.string (mkT (45 :: 45 :: (c :: r))))
    exact ⟨_, rfl, hr, h.turn (.syn (45 :: 45 :: (c :: r))) hx ho ((h.bel.setCell (p := ⟨x, 4, none⟩) h.low (.int .i64 5)).setCell (p := ⟨x, 5, none⟩) h.low (.string (mkT (45 :: 45 :: (c :: r))))) (fun b ne => (blk_other ne).trans (blk_other ne)) b1⟩
set_option maxRecDepth 100000 in
set_option maxHeartbeats 1600000 in
theorem longS_help_y {w0 w : World} {x : Nat} {S : SetP} {A : Option Addr} {cap : Nat} {st : St} {AA CH : Value} {pr : Bool} (h : RunAt w0 w x S A cap st AA CH pr) (he : st.err = .no) (hA : FlagsAt w0 A S.flags) (hR : Right S) (hn : S.flags.length ≤ 2147483647) (hsz : ∀ f ∈ S.flags, f.name.length ≤ 2147483647) (hG : st.given.length ≤ 1099511627776) {vr : Value} {rest : List Txt} (hr : RestAt (pcB S w0.heap.size) w0 vr rest) (hrl : rest.length ≤ 1099511627776) (t : Txt) (htl : t.length ≤ 2147483600) (hm : ∃ c r, t = c :: r ∧ c ≠ 45 ∧ c ≠ 61) (hq : hasEq t = true) (hnm : named S (nameOf t) = none) (hh : nameOf t = helpT) :
    Calls Try.prog 20 #[.pointer (some ⟨x, 0, none⟩), .string (mkT (45 :: 45 :: t)), vr] w (StepS w0 x S A cap AA CH pr ({ st with err := .help }, rest)) := by
  have has : (mkT (45 :: 45 :: t)).size = t.length + 2 := by rw [mkT_size]; simp
  have hA2 : (2 : Int) ≤ ((mkT (45 :: 45 :: t)).size : Int) := by omega
  have hsl : ∀ W, (Instr.slice 9 (.string (mkT (45 :: 45 :: t))) (some (.int .i64 2)) none none).run Try.prog W = .ok (.string (mkT t)) W := fun W => by
    rw [run_slice_string_l (P := Try.prog) W 9 (mkT (45 :: 45 :: t)) Try.underlying9 .i64 2 (by omega) (by omega)]
    have e : (mkT (45 :: 45 :: t)).extract (2 : Int).toNat (mkT (45 :: 45 :: t)).size = mkT t := mkT_inj (by rw [ext_tailP, mkT_list, mkT_list]; rfl)
    rw [e]
  obtain ⟨GA, gc, hx, ho⟩ := h.free he
  have zf := free_blk hx
  have lx := lt_of_block hx
  obtain ⟨c, r, hcr, hc45, hc61⟩ := hm
  obtain ⟨p0, g0⟩ := mkT_get hcr
  have po1 := nonempty_list p0
  have po2 := nonempty_not p0
  have c0 : (((mkT t)[0].toNat : Int) == 45) = false := nat_beq_false (b := 45) (by rw [g0]; intro e; exact hc45 (UInt8.toNat_inj.1 e))
  have c1 : (((mkT t)[0].toNat : Int) == 61) = false := nat_beq_false (b := 61) (by rw [g0]; intro e; exact hc61 (UInt8.toNat_inj.1 e))
  have htt : (mkT t).size = t.length := mkT_size t
  have hnle := nameOf_le t
  have hnl : (mkT (nameOf t)).size ≤ 2147483647 := by rw [mkT_size]; omega
  have hs2 : ∀ W, (Instr.slice 9 (.string (mkT t)) none (some (.int .i64 ((nameOf t).length : Int))) none).run Try.prog W = .ok (.string (mkT (nameOf t))) W := fun W => by
    rw [run_slice_string_h (P := Try.prog) W 9 (mkT t) Try.underlying9 .i64 ((nameOf t).length : Int) (by omega) (by omega)]
    have e : (mkT t).extract 0 ((nameOf t).length : Int).toNat = mkT (nameOf t) := mkT_inj (by rw [ext_headS, mkT_list, mkT_list, Int.toNat_natCast]; exact (nameOf_take t).symm)
    rw [e]
  have HBY := Lib.hid (fun (W : World) => spec_byteAt.calls _ (mkT t) 61 _ W (byteAt_f (mkT t) (by omega)))
  simp only [mkT_list] at HBY
  have hlt : (((nameOf t).length : Int) < ((mkT t).size : Int)) := by (have q := hq; unfold hasEq at q; have q := of_decide_eq_true q; omega)
  have HNM := Lib.hid (fun (W : World) (hb : Below w0.heap.size w0 W) => named_none (hA.below hb) hR hn hsz cap (nameOf t) hnl hnm)
  have hv : ((mkT (nameOf t)).toList == [104, 101, 108, 112]) = true := by rw [ByteArray.toList_eq, mkT_list, hh]; rfl
  have heq : (((nameOf t).length : Int) == ((mkT t).size : Int)) = false := by simp; omega
  have HUN := Lib.hid (fun (W : World) (hb : Below w.heap.size w W) => (show Calls Try.prog 52 #[.pointer (some ⟨x, 0, none⟩), .bool true, .string (mkT (nameOf t)), .string ⟨#[]⟩] W (fun e w' => e = .returned (.bool false) ∧ RunAt w0 w' x S A cap { st with err := .help } AA CH pr) from unknown_help (h.below hb) he (nameOf t) []))
  clear hnm hh hq
  have HB0 := Lib.hid h.bel
  have HB := Lib.hid (Below.refl w.heap.size w)
  have dsl : w.cell? ⟨x, 0, none⟩ = some (.slice A S.flags.length cap) := (cell_blk hx 0).trans rfl
  have dpl : w.cell? ⟨x, 1, none⟩ = some (.bool S.plain) := (cell_blk hx 1).trans rfl
  have dun : w.cell? ⟨x, 2, none⟩ = some (.bool S.unknown) := (cell_blk hx 2).trans rfl
  have dk : w.cell? ⟨x, 3, none⟩ = some (.int .i64 (S.fold : Int)) := (cell_blk hx 3).trans rfl
  have HRS := Lib.hid hr
  have hnb : ((nameOf t).length : Int) ≤ 2147483600 := by omega
  have hn0 : (0 : Int) ≤ ((nameOf t).length : Int) := Int.natCast_nonneg _
  clear hA hR hsz hnl hcr hc45 hc61 g0 has hx ho h
  generalize mkT (45 :: 45 :: t) = ARG at hsl hA2 ⊢
  go_enter Try.func20, Try.ntmps20
  go_wp2_with (first | ((with_reducible go_at_call 45); (with_reducible refine Calls.mono (HBY.out _) ?_); rintro e w3 ⟨rfl, hd3⟩; have hb3 := hd3.below; have dsl := cell_kept hb3 dsl; have dpl := cell_kept hb3 dpl; have dun := cell_kept hb3 dun; have dk := cell_kept hb3 dk; have HB0 := Lib.hid (HB0.out.trans (hb3.mono HB0.out.size)); have HB := Lib.hid (HB.out.trans (hb3.mono HB.out.size)); clear hb3) | ((with_reducible go_at_call 35); (with_reducible refine Calls.mono (HNM.out _ HB0.out) ?_); rintro e w3 ⟨rfl, hb3⟩; have dsl := cell_kept hb3 dsl; have dpl := cell_kept hb3 dpl; have dun := cell_kept hb3 dun; have dk := cell_kept hb3 dk; have HB0 := Lib.hid (HB0.out.trans (hb3.mono HB0.out.size)); have HB := Lib.hid (HB.out.trans (hb3.mono HB.out.size)); clear hb3) | ((with_reducible go_at_call 52); (with_reducible refine Calls.mono (HUN.out _ HB.out) ?_); rintro e w3 ⟨rfl, hr3⟩))
  go_ret
  exact ⟨_, rfl, HRS.out, hr3⟩
set_option maxRecDepth 100000 in
set_option maxHeartbeats 1600000 in
theorem longS_not_y {w0 w : World} {x : Nat} {S : SetP} {A : Option Addr} {cap : Nat} {st : St} {AA CH : Value} {pr : Bool} (h : RunAt w0 w x S A cap st AA CH pr) (he : st.err = .no) (hA : FlagsAt w0 A S.flags) (hR : Right S) (hn : S.flags.length ≤ 2147483647) (hsz : ∀ f ∈ S.flags, f.name.length ≤ 2147483647) (hG : st.given.length ≤ 1099511627776) {vr : Value} {rest : List Txt} (hr : RestAt (pcB S w0.heap.size) w0 vr rest) (hrl : rest.length ≤ 1099511627776) (t : Txt) (htl : t.length ≤ 2147483600) (hm : ∃ c r, t = c :: r ∧ c ≠ 45 ∧ c ≠ 61) (hq : hasEq t = true) (hnm : named S (nameOf t) = none) (hh : ¬ nameOf t = helpT) (hu : S.unknown = false) :
    Calls Try.prog 20 #[.pointer (some ⟨x, 0, none⟩), .string (mkT (45 :: 45 :: t)), vr] w (StepS w0 x S A cap AA CH pr ({ st with err := .notExist (nameOf t) [] }, rest)) := by
  have has : (mkT (45 :: 45 :: t)).size = t.length + 2 := by rw [mkT_size]; simp
  have hA2 : (2 : Int) ≤ ((mkT (45 :: 45 :: t)).size : Int) := by omega
  have hsl : ∀ W, (Instr.slice 9 (.string (mkT (45 :: 45 :: t))) (some (.int .i64 2)) none none).run Try.prog W = .ok (.string (mkT t)) W := fun W => by
    rw [run_slice_string_l (P := Try.prog) W 9 (mkT (45 :: 45 :: t)) Try.underlying9 .i64 2 (by omega) (by omega)]
    have e : (mkT (45 :: 45 :: t)).extract (2 : Int).toNat (mkT (45 :: 45 :: t)).size = mkT t := mkT_inj (by rw [ext_tailP, mkT_list, mkT_list]; rfl)
    rw [e]
  obtain ⟨GA, gc, hx, ho⟩ := h.free he
  have zf := free_blk hx
  have lx := lt_of_block hx
  obtain ⟨c, r, hcr, hc45, hc61⟩ := hm
  obtain ⟨p0, g0⟩ := mkT_get hcr
  have po1 := nonempty_list p0
  have po2 := nonempty_not p0
  have c0 : (((mkT t)[0].toNat : Int) == 45) = false := nat_beq_false (b := 45) (by rw [g0]; intro e; exact hc45 (UInt8.toNat_inj.1 e))
  have c1 : (((mkT t)[0].toNat : Int) == 61) = false := nat_beq_false (b := 61) (by rw [g0]; intro e; exact hc61 (UInt8.toNat_inj.1 e))
  have htt : (mkT t).size = t.length := mkT_size t
  have hnle := nameOf_le t
  have hnl : (mkT (nameOf t)).size ≤ 2147483647 := by rw [mkT_size]; omega
  have hs2 : ∀ W, (Instr.slice 9 (.string (mkT t)) none (some (.int .i64 ((nameOf t).length : Int))) none).run Try.prog W = .ok (.string (mkT (nameOf t))) W := fun W => by
    rw [run_slice_string_h (P := Try.prog) W 9 (mkT t) Try.underlying9 .i64 ((nameOf t).length : Int) (by omega) (by omega)]
    have e : (mkT t).extract 0 ((nameOf t).length : Int).toNat = mkT (nameOf t) := mkT_inj (by rw [ext_headS, mkT_list, mkT_list, Int.toNat_natCast]; exact (nameOf_take t).symm)
    rw [e]
  have HBY := Lib.hid (fun (W : World) => spec_byteAt.calls _ (mkT t) 61 _ W (byteAt_f (mkT t) (by omega)))
  simp only [mkT_list] at HBY
  have hlt : (((nameOf t).length : Int) < ((mkT t).size : Int)) := by (have q := hq; unfold hasEq at q; have q := of_decide_eq_true q; omega)
  have HNM := Lib.hid (fun (W : World) (hb : Below w0.heap.size w0 W) => named_none (hA.below hb) hR hn hsz cap (nameOf t) hnl hnm)
  have hv : ((mkT (nameOf t)).toList == [104, 101, 108, 112]) = false := by rw [ByteArray.toList_eq, mkT_list]; simpa [helpT] using hh
  have heq : (((nameOf t).length : Int) == ((mkT t).size : Int)) = false := by simp; omega
  have HUN := Lib.hid (fun (W : World) (hb : Below w.heap.size w W) => (show Calls Try.prog 52 #[.pointer (some ⟨x, 0, none⟩), .bool false, .string (mkT (nameOf t)), .string ⟨#[]⟩] W (fun e w' => e = .returned (.bool false) ∧ RunAt w0 w' x S A cap { st with err := .notExist (nameOf t) [] } AA CH pr) from unknown_not (h.below hb) he hu (nameOf t) []))
  clear hnm hh hu hq
  have HB0 := Lib.hid h.bel
  have HB := Lib.hid (Below.refl w.heap.size w)
  have dsl : w.cell? ⟨x, 0, none⟩ = some (.slice A S.flags.length cap) := (cell_blk hx 0).trans rfl
  have dpl : w.cell? ⟨x, 1, none⟩ = some (.bool S.plain) := (cell_blk hx 1).trans rfl
  have dun : w.cell? ⟨x, 2, none⟩ = some (.bool S.unknown) := (cell_blk hx 2).trans rfl
  have dk : w.cell? ⟨x, 3, none⟩ = some (.int .i64 (S.fold : Int)) := (cell_blk hx 3).trans rfl
  have HRS := Lib.hid hr
  have hnb : ((nameOf t).length : Int) ≤ 2147483600 := by omega
  have hn0 : (0 : Int) ≤ ((nameOf t).length : Int) := Int.natCast_nonneg _
  clear hA hR hsz hnl hcr hc45 hc61 g0 has hx ho h
  generalize mkT (45 :: 45 :: t) = ARG at hsl hA2 ⊢
  go_enter Try.func20, Try.ntmps20
  go_wp2_with (first | ((with_reducible go_at_call 45); (with_reducible refine Calls.mono (HBY.out _) ?_); rintro e w3 ⟨rfl, hd3⟩; have hb3 := hd3.below; have dsl := cell_kept hb3 dsl; have dpl := cell_kept hb3 dpl; have dun := cell_kept hb3 dun; have dk := cell_kept hb3 dk; have HB0 := Lib.hid (HB0.out.trans (hb3.mono HB0.out.size)); have HB := Lib.hid (HB.out.trans (hb3.mono HB.out.size)); clear hb3) | ((with_reducible go_at_call 35); (with_reducible refine Calls.mono (HNM.out _ HB0.out) ?_); rintro e w3 ⟨rfl, hb3⟩; have dsl := cell_kept hb3 dsl; have dpl := cell_kept hb3 dpl; have dun := cell_kept hb3 dun; have dk := cell_kept hb3 dk; have HB0 := Lib.hid (HB0.out.trans (hb3.mono HB0.out.size)); have HB := Lib.hid (HB.out.trans (hb3.mono HB.out.size)); clear hb3) | ((with_reducible go_at_call 52); (with_reducible refine Calls.mono (HUN.out _ HB.out) ?_); rintro e w3 ⟨rfl, hr3⟩))
  go_ret
  exact ⟨_, rfl, HRS.out, hr3⟩
set_option maxRecDepth 100000 in
set_option maxHeartbeats 1600000 in
theorem longS_help_n {w0 w : World} {x : Nat} {S : SetP} {A : Option Addr} {cap : Nat} {st : St} {AA CH : Value} {pr : Bool} (h : RunAt w0 w x S A cap st AA CH pr) (he : st.err = .no) (hA : FlagsAt w0 A S.flags) (hR : Right S) (hn : S.flags.length ≤ 2147483647) (hsz : ∀ f ∈ S.flags, f.name.length ≤ 2147483647) (hG : st.given.length ≤ 1099511627776) {vr : Value} {rest : List Txt} (hr : RestAt (pcB S w0.heap.size) w0 vr rest) (hrl : rest.length ≤ 1099511627776) (t : Txt) (htl : t.length ≤ 2147483600) (hm : ∃ c r, t = c :: r ∧ c ≠ 45 ∧ c ≠ 61) (hq : hasEq t = false) (hnm : named S (nameOf t) = none) (hh : nameOf t = helpT) :
    Calls Try.prog 20 #[.pointer (some ⟨x, 0, none⟩), .string (mkT (45 :: 45 :: t)), vr] w (StepS w0 x S A cap AA CH pr ({ st with err := .help }, rest)) := by
  have has : (mkT (45 :: 45 :: t)).size = t.length + 2 := by rw [mkT_size]; simp
  have hA2 : (2 : Int) ≤ ((mkT (45 :: 45 :: t)).size : Int) := by omega
  have hsl : ∀ W, (Instr.slice 9 (.string (mkT (45 :: 45 :: t))) (some (.int .i64 2)) none none).run Try.prog W = .ok (.string (mkT t)) W := fun W => by
    rw [run_slice_string_l (P := Try.prog) W 9 (mkT (45 :: 45 :: t)) Try.underlying9 .i64 2 (by omega) (by omega)]
    have e : (mkT (45 :: 45 :: t)).extract (2 : Int).toNat (mkT (45 :: 45 :: t)).size = mkT t := mkT_inj (by rw [ext_tailP, mkT_list, mkT_list]; rfl)
    rw [e]
  obtain ⟨GA, gc, hx, ho⟩ := h.free he
  have zf := free_blk hx
  have lx := lt_of_block hx
  obtain ⟨c, r, hcr, hc45, hc61⟩ := hm
  obtain ⟨p0, g0⟩ := mkT_get hcr
  have po1 := nonempty_list p0
  have po2 := nonempty_not p0
  have c0 : (((mkT t)[0].toNat : Int) == 45) = false := nat_beq_false (b := 45) (by rw [g0]; intro e; exact hc45 (UInt8.toNat_inj.1 e))
  have c1 : (((mkT t)[0].toNat : Int) == 61) = false := nat_beq_false (b := 61) (by rw [g0]; intro e; exact hc61 (UInt8.toNat_inj.1 e))
  have htt : (mkT t).size = t.length := mkT_size t
  have hnle := nameOf_le t
  have hnl : (mkT (nameOf t)).size ≤ 2147483647 := by rw [mkT_size]; omega
  have hs2 : ∀ W, (Instr.slice 9 (.string (mkT t)) none (some (.int .i64 ((nameOf t).length : Int))) none).run Try.prog W = .ok (.string (mkT (nameOf t))) W := fun W => by
    rw [run_slice_string_h (P := Try.prog) W 9 (mkT t) Try.underlying9 .i64 ((nameOf t).length : Int) (by omega) (by omega)]
    have e : (mkT t).extract 0 ((nameOf t).length : Int).toNat = mkT (nameOf t) := mkT_inj (by rw [ext_headS, mkT_list, mkT_list, Int.toNat_natCast]; exact (nameOf_take t).symm)
    rw [e]
  have HBY := Lib.hid (fun (W : World) => spec_byteAt.calls _ (mkT t) 61 _ W (byteAt_f (mkT t) (by omega)))
  simp only [mkT_list] at HBY
  have hlt : ¬ (((nameOf t).length : Int) < ((mkT t).size : Int)) := by (have q := hq; unfold hasEq at q; have q := of_decide_eq_false q; omega)
  have HNM := Lib.hid (fun (W : World) (hb : Below w0.heap.size w0 W) => named_none (hA.below hb) hR hn hsz cap (nameOf t) hnl hnm)
  have hv : ((mkT (nameOf t)).toList == [104, 101, 108, 112]) = true := by rw [ByteArray.toList_eq, mkT_list, hh]; rfl
  have heq : (((nameOf t).length : Int) == ((mkT t).size : Int)) = true := by simp; omega
  have HUN := Lib.hid (fun (W : World) (hb : Below w.heap.size w W) => (show Calls Try.prog 52 #[.pointer (some ⟨x, 0, none⟩), .bool true, .string (mkT (nameOf t)), .string ⟨#[]⟩] W (fun e w' => e = .returned (.bool false) ∧ RunAt w0 w' x S A cap { st with err := .help } AA CH pr) from unknown_help (h.below hb) he (nameOf t) []))
  clear hnm hh hq
  have HB0 := Lib.hid h.bel
  have HB := Lib.hid (Below.refl w.heap.size w)
  have dsl : w.cell? ⟨x, 0, none⟩ = some (.slice A S.flags.length cap) := (cell_blk hx 0).trans rfl
  have dpl : w.cell? ⟨x, 1, none⟩ = some (.bool S.plain) := (cell_blk hx 1).trans rfl
  have dun : w.cell? ⟨x, 2, none⟩ = some (.bool S.unknown) := (cell_blk hx 2).trans rfl
  have dk : w.cell? ⟨x, 3, none⟩ = some (.int .i64 (S.fold : Int)) := (cell_blk hx 3).trans rfl
  have HRS := Lib.hid hr
  have hnb : ((nameOf t).length : Int) ≤ 2147483600 := by omega
  have hn0 : (0 : Int) ≤ ((nameOf t).length : Int) := Int.natCast_nonneg _
  clear hA hR hsz hnl hcr hc45 hc61 g0 has hx ho h
  generalize mkT (45 :: 45 :: t) = ARG at hsl hA2 ⊢
  go_enter Try.func20, Try.ntmps20
  go_wp2_with (first | ((with_reducible go_at_call 45); (with_reducible refine Calls.mono (HBY.out _) ?_); rintro e w3 ⟨rfl, hd3⟩; have hb3 := hd3.below; have dsl := cell_kept hb3 dsl; have dpl := cell_kept hb3 dpl; have dun := cell_kept hb3 dun; have dk := cell_kept hb3 dk; have HB0 := Lib.hid (HB0.out.trans (hb3.mono HB0.out.size)); have HB := Lib.hid (HB.out.trans (hb3.mono HB.out.size)); clear hb3) | ((with_reducible go_at_call 35); (with_reducible refine Calls.mono (HNM.out _ HB0.out) ?_); rintro e w3 ⟨rfl, hb3⟩; have dsl := cell_kept hb3 dsl; have dpl := cell_kept hb3 dpl; have dun := cell_kept hb3 dun; have dk := cell_kept hb3 dk; have HB0 := Lib.hid (HB0.out.trans (hb3.mono HB0.out.size)); have HB := Lib.hid (HB.out.trans (hb3.mono HB.out.size)); clear hb3) | ((with_reducible go_at_call 52); (with_reducible refine Calls.mono (HUN.out _ HB.out) ?_); rintro e w3 ⟨rfl, hr3⟩))
  go_ret
  exact ⟨_, rfl, HRS.out, hr3⟩
set_option maxRecDepth 100000 in
set_option maxHeartbeats 1600000 in
theorem longS_not_n {w0 w : World} {x : Nat} {S : SetP} {A : Option Addr} {cap : Nat} {st : St} {AA CH : Value} {pr : Bool} (h : RunAt w0 w x S A cap st AA CH pr) (he : st.err = .no) (hA : FlagsAt w0 A S.flags) (hR : Right S) (hn : S.flags.length ≤ 2147483647) (hsz : ∀ f ∈ S.flags, f.name.length ≤ 2147483647) (hG : st.given.length ≤ 1099511627776) {vr : Value} {rest : List Txt} (hr : RestAt (pcB S w0.heap.size) w0 vr rest) (hrl : rest.length ≤ 1099511627776) (t : Txt) (htl : t.length ≤ 2147483600) (hm : ∃ c r, t = c :: r ∧ c ≠ 45 ∧ c ≠ 61) (hq : hasEq t = false) (hnm : named S (nameOf t) = none) (hh : ¬ nameOf t = helpT) (hu : S.unknown = false) :
    Calls Try.prog 20 #[.pointer (some ⟨x, 0, none⟩), .string (mkT (45 :: 45 :: t)), vr] w (StepS w0 x S A cap AA CH pr ({ st with err := .notExist (nameOf t) [] }, rest)) := by
  have has : (mkT (45 :: 45 :: t)).size = t.length + 2 := by rw [mkT_size]; simp
  have hA2 : (2 : Int) ≤ ((mkT (45 :: 45 :: t)).size : Int) := by omega
  have hsl : ∀ W, (Instr.slice 9 (.string (mkT (45 :: 45 :: t))) (some (.int .i64 2)) none none).run Try.prog W = .ok (.string (mkT t)) W := fun W => by
    rw [run_slice_string_l (P := Try.prog) W 9 (mkT (45 :: 45 :: t)) Try.underlying9 .i64 2 (by omega) (by omega)]
    have e : (mkT (45 :: 45 :: t)).extract (2 : Int).toNat (mkT (45 :: 45 :: t)).size = mkT t := mkT_inj (by rw [ext_tailP, mkT_list, mkT_list]; rfl)
    rw [e]
  obtain ⟨GA, gc, hx, ho⟩ := h.free he
  have zf := free_blk hx
  have lx := lt_of_block hx
  obtain ⟨c, r, hcr, hc45, hc61⟩ := hm
  obtain ⟨p0, g0⟩ := mkT_get hcr
  have po1 := nonempty_list p0
  have po2 := nonempty_not p0
  have c0 : (((mkT t)[0].toNat : Int) == 45) = false := nat_beq_false (b := 45) (by rw [g0]; intro e; exact hc45 (UInt8.toNat_inj.1 e))
  have c1 : (((mkT t)[0].toNat : Int) == 61) = false := nat_beq_false (b := 61) (by rw [g0]; intro e; exact hc61 (UInt8.toNat_inj.1 e))
  have htt : (mkT t).size = t.length := mkT_size t
  have hnle := nameOf_le t
  have hnl : (mkT (nameOf t)).size ≤ 2147483647 := by rw [mkT_size]; omega
  have hs2 : ∀ W, (Instr.slice 9 (.string (mkT t)) none (some (.int .i64 ((nameOf t).length : Int))) none).run Try.prog W = .ok (.string (mkT (nameOf t))) W := fun W => by
    rw [run_slice_string_h (P := Try.prog) W 9 (mkT t) Try.underlying9 .i64 ((nameOf t).length : Int) (by omega) (by omega)]
    have e : (mkT t).extract 0 ((nameOf t).length : Int).toNat = mkT (nameOf t) := mkT_inj (by rw [ext_headS, mkT_list, mkT_list, Int.toNat_natCast]; exact (nameOf_take t).symm)
    rw [e]
  have HBY := Lib.hid (fun (W : World) => spec_byteAt.calls _ (mkT t) 61 _ W (byteAt_f (mkT t) (by omega)))
  simp only [mkT_list] at HBY
  have hlt : ¬ (((nameOf t).length : Int) < ((mkT t).size : Int)) := by (have q := hq; unfold hasEq at q; have q := of_decide_eq_false q; omega)
  have HNM := Lib.hid (fun (W : World) (hb : Below w0.heap.size w0 W) => named_none (hA.below hb) hR hn hsz cap (nameOf t) hnl hnm)
  have hv : ((mkT (nameOf t)).toList == [104, 101, 108, 112]) = false := by rw [ByteArray.toList_eq, mkT_list]; simpa [helpT] using hh
  have heq : (((nameOf t).length : Int) == ((mkT t).size : Int)) = true := by simp; omega
  have HUN := Lib.hid (fun (W : World) (hb : Below w.heap.size w W) => (show Calls Try.prog 52 #[.pointer (some ⟨x, 0, none⟩), .bool false, .string (mkT (nameOf t)), .string ⟨#[]⟩] W (fun e w' => e = .returned (.bool false) ∧ RunAt w0 w' x S A cap { st with err := .notExist (nameOf t) [] } AA CH pr) from unknown_not (h.below hb) he hu (nameOf t) []))
  clear hnm hh hu hq
  have HB0 := Lib.hid h.bel
  have HB := Lib.hid (Below.refl w.heap.size w)
  have dsl : w.cell? ⟨x, 0, none⟩ = some (.slice A S.flags.length cap) := (cell_blk hx 0).trans rfl
  have dpl : w.cell? ⟨x, 1, none⟩ = some (.bool S.plain) := (cell_blk hx 1).trans rfl
  have dun : w.cell? ⟨x, 2, none⟩ = some (.bool S.unknown) := (cell_blk hx 2).trans rfl
  have dk : w.cell? ⟨x, 3, none⟩ = some (.int .i64 (S.fold : Int)) := (cell_blk hx 3).trans rfl
  have HRS := Lib.hid hr
  have hnb : ((nameOf t).length : Int) ≤ 2147483600 := by omega
  have hn0 : (0 : Int) ≤ ((nameOf t).length : Int) := Int.natCast_nonneg _
  clear hA hR hsz hnl hcr hc45 hc61 g0 has hx ho h
  generalize mkT (45 :: 45 :: t) = ARG at hsl hA2 ⊢
  go_enter Try.func20, Try.ntmps20
  go_wp2_with (first | ((with_reducible go_at_call 45); (with_reducible refine Calls.mono (HBY.out _) ?_); rintro e w3 ⟨rfl, hd3⟩; have hb3 := hd3.below; have dsl := cell_kept hb3 dsl; have dpl := cell_kept hb3 dpl; have dun := cell_kept hb3 dun; have dk := cell_kept hb3 dk; have HB0 := Lib.hid (HB0.out.trans (hb3.mono HB0.out.size)); have HB := Lib.hid (HB.out.trans (hb3.mono HB.out.size)); clear hb3) | ((with_reducible go_at_call 35); (with_reducible refine Calls.mono (HNM.out _ HB0.out) ?_); rintro e w3 ⟨rfl, hb3⟩; have dsl := cell_kept hb3 dsl; have dpl := cell_kept hb3 dpl; have dun := cell_kept hb3 dun; have dk := cell_kept hb3 dk; have HB0 := Lib.hid (HB0.out.trans (hb3.mono HB0.out.size)); have HB := Lib.hid (HB.out.trans (hb3.mono HB.out.size)); clear hb3) | ((with_reducible go_at_call 52); (with_reducible refine Calls.mono (HUN.out _ HB.out) ?_); rintro e w3 ⟨rfl, hr3⟩))
  go_ret
  exact ⟨_, rfl, HRS.out, hr3⟩
set_option maxRecDepth 100000 in
set_option maxHeartbeats 1600000 in
theorem longS_let_y {w0 w : World} {x : Nat} {S : SetP} {A : Option Addr} {cap : Nat} {st : St} {AA CH : Value} {pr : Bool} (h : RunAt w0 w x S A cap st AA CH pr) (he : st.err = .no) (hA : FlagsAt w0 A S.flags) (hR : Right S) (hn : S.flags.length ≤ 2147483647) (hsz : ∀ f ∈ S.flags, f.name.length ≤ 2147483647) (hG : st.given.length ≤ 1099511627776) {vr : Value} {rest : List Txt} (hr : RestAt (pcB S w0.heap.size) w0 vr rest) (hrl : rest.length ≤ 1099511627776) (t : Txt) (htl : t.length ≤ 2147483600) (hm : ∃ c r, t = c :: r ∧ c ≠ 45 ∧ c ≠ 61) (hq : hasEq t = true) (hnm : named S (nameOf t) = none) (hh : ¬ nameOf t = helpT) (hu : S.unknown = true) :
    Calls Try.prog 20 #[.pointer (some ⟨x, 0, none⟩), .string (mkT (45 :: 45 :: t)), vr] w (StepS w0 x S A cap AA CH pr (st, rest)) := by
  have has : (mkT (45 :: 45 :: t)).size = t.length + 2 := by rw [mkT_size]; simp
  have hA2 : (2 : Int) ≤ ((mkT (45 :: 45 :: t)).size : Int) := by omega
  have hsl : ∀ W, (Instr.slice 9 (.string (mkT (45 :: 45 :: t))) (some (.int .i64 2)) none none).run Try.prog W = .ok (.string (mkT t)) W := fun W => by
    rw [run_slice_string_l (P := Try.prog) W 9 (mkT (45 :: 45 :: t)) Try.underlying9 .i64 2 (by omega) (by omega)]
    have e : (mkT (45 :: 45 :: t)).extract (2 : Int).toNat (mkT (45 :: 45 :: t)).size = mkT t := mkT_inj (by rw [ext_tailP, mkT_list, mkT_list]; rfl)
    rw [e]
  obtain ⟨GA, gc, hx, ho⟩ := h.free he
  have zf := free_blk hx
  have lx := lt_of_block hx
  obtain ⟨c, r, hcr, hc45, hc61⟩ := hm
  obtain ⟨p0, g0⟩ := mkT_get hcr
  have po1 := nonempty_list p0
  have po2 := nonempty_not p0
  have c0 : (((mkT t)[0].toNat : Int) == 45) = false := nat_beq_false (b := 45) (by rw [g0]; intro e; exact hc45 (UInt8.toNat_inj.1 e))
  have c1 : (((mkT t)[0].toNat : Int) == 61) = false := nat_beq_false (b := 61) (by rw [g0]; intro e; exact hc61 (UInt8.toNat_inj.1 e))
  have htt : (mkT t).size = t.length := mkT_size t
  have hnle := nameOf_le t
  have hnl : (mkT (nameOf t)).size ≤ 2147483647 := by rw [mkT_size]; omega
  have hs2 : ∀ W, (Instr.slice 9 (.string (mkT t)) none (some (.int .i64 ((nameOf t).length : Int))) none).run Try.prog W = .ok (.string (mkT (nameOf t))) W := fun W => by
    rw [run_slice_string_h (P := Try.prog) W 9 (mkT t) Try.underlying9 .i64 ((nameOf t).length : Int) (by omega) (by omega)]
    have e : (mkT t).extract 0 ((nameOf t).length : Int).toNat = mkT (nameOf t) := mkT_inj (by rw [ext_headS, mkT_list, mkT_list, Int.toNat_natCast]; exact (nameOf_take t).symm)
    rw [e]
  have HBY := Lib.hid (fun (W : World) => spec_byteAt.calls _ (mkT t) 61 _ W (byteAt_f (mkT t) (by omega)))
  simp only [mkT_list] at HBY
  have hlt : (((nameOf t).length : Int) < ((mkT t).size : Int)) := by (have q := hq; unfold hasEq at q; have q := of_decide_eq_true q; omega)
  have HNM := Lib.hid (fun (W : World) (hb : Below w0.heap.size w0 W) => named_none (hA.below hb) hR hn hsz cap (nameOf t) hnl hnm)
  have hv : ((mkT (nameOf t)).toList == [104, 101, 108, 112]) = false := by rw [ByteArray.toList_eq, mkT_list]; simpa [helpT] using hh
  have heq : (((nameOf t).length : Int) == ((mkT t).size : Int)) = false := by simp; omega
  have HUN := Lib.hid (fun (W : World) (hb : Below w.heap.size w W) => (show Calls Try.prog 52 #[.pointer (some ⟨x, 0, none⟩), .bool false, .string (mkT (nameOf t)), .string ⟨#[]⟩] W (fun e w' => e = .returned (.bool true) ∧ RunAt w0 w' x S A cap st AA CH pr) from unknown_let (h.below hb) he hu (nameOf t) []))
  clear hnm hh hu hq
  have HB0 := Lib.hid h.bel
  have HB := Lib.hid (Below.refl w.heap.size w)
  have dsl : w.cell? ⟨x, 0, none⟩ = some (.slice A S.flags.length cap) := (cell_blk hx 0).trans rfl
  have dpl : w.cell? ⟨x, 1, none⟩ = some (.bool S.plain) := (cell_blk hx 1).trans rfl
  have dun : w.cell? ⟨x, 2, none⟩ = some (.bool S.unknown) := (cell_blk hx 2).trans rfl
  have dk : w.cell? ⟨x, 3, none⟩ = some (.int .i64 (S.fold : Int)) := (cell_blk hx 3).trans rfl
  have HRS := Lib.hid hr
  have hnb : ((nameOf t).length : Int) ≤ 2147483600 := by omega
  have hn0 : (0 : Int) ≤ ((nameOf t).length : Int) := Int.natCast_nonneg _
  clear hA hR hsz hnl hcr hc45 hc61 g0 has hx ho h
  generalize mkT (45 :: 45 :: t) = ARG at hsl hA2 ⊢
  go_enter Try.func20, Try.ntmps20
  go_wp2_with (first | ((with_reducible go_at_call 45); (with_reducible refine Calls.mono (HBY.out _) ?_); rintro e w3 ⟨rfl, hd3⟩; have hb3 := hd3.below; have dsl := cell_kept hb3 dsl; have dpl := cell_kept hb3 dpl; have dun := cell_kept hb3 dun; have dk := cell_kept hb3 dk; have HB0 := Lib.hid (HB0.out.trans (hb3.mono HB0.out.size)); have HB := Lib.hid (HB.out.trans (hb3.mono HB.out.size)); clear hb3) | ((with_reducible go_at_call 35); (with_reducible refine Calls.mono (HNM.out _ HB0.out) ?_); rintro e w3 ⟨rfl, hb3⟩; have dsl := cell_kept hb3 dsl; have dpl := cell_kept hb3 dpl; have dun := cell_kept hb3 dun; have dk := cell_kept hb3 dk; have HB0 := Lib.hid (HB0.out.trans (hb3.mono HB0.out.size)); have HB := Lib.hid (HB.out.trans (hb3.mono HB.out.size)); clear hb3) | ((with_reducible go_at_call 52); (with_reducible refine Calls.mono (HUN.out _ HB.out) ?_); rintro e w3 ⟨rfl, hr3⟩))
  go_ret
  exact ⟨_, rfl, HRS.out, hr3⟩
set_option maxRecDepth 100000 in
set_option maxHeartbeats 1600000 in
theorem longS_let_n {w0 w : World} {x : Nat} {S : SetP} {A : Option Addr} {cap : Nat} {st : St} {AA CH : Value} {pr : Bool} (h : RunAt w0 w x S A cap st AA CH pr) (he : st.err = .no) (hA : FlagsAt w0 A S.flags) (hR : Right S) (hn : S.flags.length ≤ 2147483647) (hsz : ∀ f ∈ S.flags, f.name.length ≤ 2147483647) (hG : st.given.length ≤ 1099511627776) {vr : Value} {rest : List Txt} (hr : RestAt (pcB S w0.heap.size) w0 vr rest) (hrl : rest.length ≤ 1099511627776) (t : Txt) (htl : t.length ≤ 2147483600) (hm : ∃ c r, t = c :: r ∧ c ≠ 45 ∧ c ≠ 61) (hq : hasEq t = false) (hnm : named S (nameOf t) = none) (hh : ¬ nameOf t = helpT) (hu : S.unknown = true) :
    Calls Try.prog 20 #[.pointer (some ⟨x, 0, none⟩), .string (mkT (45 :: 45 :: t)), vr] w (StepS w0 x S A cap AA CH pr (st, strip rest)) := by
  have has : (mkT (45 :: 45 :: t)).size = t.length + 2 := by rw [mkT_size]; simp
  have hA2 : (2 : Int) ≤ ((mkT (45 :: 45 :: t)).size : Int) := by omega
  have hsl : ∀ W, (Instr.slice 9 (.string (mkT (45 :: 45 :: t))) (some (.int .i64 2)) none none).run Try.prog W = .ok (.string (mkT t)) W := fun W => by
    rw [run_slice_string_l (P := Try.prog) W 9 (mkT (45 :: 45 :: t)) Try.underlying9 .i64 2 (by omega) (by omega)]
    have e : (mkT (45 :: 45 :: t)).extract (2 : Int).toNat (mkT (45 :: 45 :: t)).size = mkT t := mkT_inj (by rw [ext_tailP, mkT_list, mkT_list]; rfl)
    rw [e]
  obtain ⟨GA, gc, hx, ho⟩ := h.free he
  have zf := free_blk hx
  have lx := lt_of_block hx
  obtain ⟨c, r, hcr, hc45, hc61⟩ := hm
  obtain ⟨p0, g0⟩ := mkT_get hcr
  have po1 := nonempty_list p0
  have po2 := nonempty_not p0
  have c0 : (((mkT t)[0].toNat : Int) == 45) = false := nat_beq_false (b := 45) (by rw [g0]; intro e; exact hc45 (UInt8.toNat_inj.1 e))
  have c1 : (((mkT t)[0].toNat : Int) == 61) = false := nat_beq_false (b := 61) (by rw [g0]; intro e; exact hc61 (UInt8.toNat_inj.1 e))
  have htt : (mkT t).size = t.length := mkT_size t
  have hnle := nameOf_le t
  have hnl : (mkT (nameOf t)).size ≤ 2147483647 := by rw [mkT_size]; omega
  have hs2 : ∀ W, (Instr.slice 9 (.string (mkT t)) none (some (.int .i64 ((nameOf t).length : Int))) none).run Try.prog W = .ok (.string (mkT (nameOf t))) W := fun W => by
    rw [run_slice_string_h (P := Try.prog) W 9 (mkT t) Try.underlying9 .i64 ((nameOf t).length : Int) (by omega) (by omega)]
    have e : (mkT t).extract 0 ((nameOf t).length : Int).toNat = mkT (nameOf t) := mkT_inj (by rw [ext_headS, mkT_list, mkT_list, Int.toNat_natCast]; exact (nameOf_take t).symm)
    rw [e]
  have HBY := Lib.hid (fun (W : World) => spec_byteAt.calls _ (mkT t) 61 _ W (byteAt_f (mkT t) (by omega)))
  simp only [mkT_list] at HBY
  have hlt : ¬ (((nameOf t).length : Int) < ((mkT t).size : Int)) := by (have q := hq; unfold hasEq at q; have q := of_decide_eq_false q; omega)
  have HNM := Lib.hid (fun (W : World) (hb : Below w0.heap.size w0 W) => named_none (hA.below hb) hR hn hsz cap (nameOf t) hnl hnm)
  have hv : ((mkT (nameOf t)).toList == [104, 101, 108, 112]) = false := by rw [ByteArray.toList_eq, mkT_list]; simpa [helpT] using hh
  have heq : (((nameOf t).length : Int) == ((mkT t).size : Int)) = true := by simp; omega
  have HUN := Lib.hid (fun (W : World) (hb : Below w.heap.size w W) => (show Calls Try.prog 52 #[.pointer (some ⟨x, 0, none⟩), .bool false, .string (mkT (nameOf t)), .string ⟨#[]⟩] W (fun e w' => e = .returned (.bool true) ∧ RunAt w0 w' x S A cap st AA CH pr) from unknown_let (h.below hb) he hu (nameOf t) []))
  have HST := Lib.hid (fun (W : World) (hb : Below w0.heap.size w0 W) => strip_c hb hr hrl)
  clear hnm hh hu hq
  have HB0 := Lib.hid h.bel
  have HB := Lib.hid (Below.refl w.heap.size w)
  have dsl : w.cell? ⟨x, 0, none⟩ = some (.slice A S.flags.length cap) := (cell_blk hx 0).trans rfl
  have dpl : w.cell? ⟨x, 1, none⟩ = some (.bool S.plain) := (cell_blk hx 1).trans rfl
  have dun : w.cell? ⟨x, 2, none⟩ = some (.bool S.unknown) := (cell_blk hx 2).trans rfl
  have dk : w.cell? ⟨x, 3, none⟩ = some (.int .i64 (S.fold : Int)) := (cell_blk hx 3).trans rfl
  have HRS := Lib.hid hr
  have hnb : ((nameOf t).length : Int) ≤ 2147483600 := by omega
  have hn0 : (0 : Int) ≤ ((nameOf t).length : Int) := Int.natCast_nonneg _
  clear hA hR hsz hnl hcr hc45 hc61 g0 has hx ho h
  generalize mkT (45 :: 45 :: t) = ARG at hsl hA2 ⊢
  go_enter Try.func20, Try.ntmps20
  go_wp2_with (first | ((with_reducible go_at_call 45); (with_reducible refine Calls.mono (HBY.out _) ?_); rintro e w3 ⟨rfl, hd3⟩; have hb3 := hd3.below; have dsl := cell_kept hb3 dsl; have dpl := cell_kept hb3 dpl; have dun := cell_kept hb3 dun; have dk := cell_kept hb3 dk; have HB0 := Lib.hid (HB0.out.trans (hb3.mono HB0.out.size)); have HB := Lib.hid (HB.out.trans (hb3.mono HB.out.size)); clear hb3) | ((with_reducible go_at_call 35); (with_reducible refine Calls.mono (HNM.out _ HB0.out) ?_); rintro e w3 ⟨rfl, hb3⟩; have dsl := cell_kept hb3 dsl; have dpl := cell_kept hb3 dpl; have dun := cell_kept hb3 dun; have dk := cell_kept hb3 dk; have HB0 := Lib.hid (HB0.out.trans (hb3.mono HB0.out.size)); have HB := Lib.hid (HB.out.trans (hb3.mono HB.out.size)); clear hb3) | ((with_reducible go_at_call 52); (with_reducible refine Calls.mono (HUN.out _ HB.out) ?_); rintro e w3 ⟨rfl, hr3⟩) | ((with_reducible go_at_call 53); (with_reducible refine Calls.mono (HST.out _ hr3.bel) ?_); rintro e w4 ⟨v4, rfl, hv4, rfl⟩))
  go_ret
  exact ⟨_, rfl, hv4, hr3⟩
set_option maxRecDepth 100000 in
set_option maxHeartbeats 1600000 in
theorem longS_eq {w0 w : World} {x : Nat} {S : SetP} {A : Option Addr} {cap : Nat} {st : St} {AA CH : Value} {pr : Bool} (h : RunAt w0 w x S A cap st AA CH pr) (he : st.err = .no) (hA : FlagsAt w0 A S.flags) (hR : Right S) (hn : S.flags.length ≤ 2147483647) (hsz : ∀ f ∈ S.flags, f.name.length ≤ 2147483647) (hG : st.given.length ≤ 1099511627776) {vr : Value} {rest : List Txt} (hr : RestAt (pcB S w0.heap.size) w0 vr rest) (hrl : rest.length ≤ 1099511627776) (t : Txt) (htl : t.length ≤ 2147483600) (hm : ∃ c r, t = c :: r ∧ c ≠ 45 ∧ c ≠ 61) (hq : hasEq t = true) {i : Nat} (hnm : named S (nameOf t) = some i) :
    Calls Try.prog 20 #[.pointer (some ⟨x, 0, none⟩), .string (mkT (45 :: 45 :: t)), vr] w (StepS w0 x S A cap AA CH pr (give S none st i (valueOf t), rest)) := by
  have has : (mkT (45 :: 45 :: t)).size = t.length + 2 := by rw [mkT_size]; simp
  have hA2 : (2 : Int) ≤ ((mkT (45 :: 45 :: t)).size : Int) := by omega
  have hsl : ∀ W, (Instr.slice 9 (.string (mkT (45 :: 45 :: t))) (some (.int .i64 2)) none none).run Try.prog W = .ok (.string (mkT t)) W := fun W => by
    rw [run_slice_string_l (P := Try.prog) W 9 (mkT (45 :: 45 :: t)) Try.underlying9 .i64 2 (by omega) (by omega)]
    have e : (mkT (45 :: 45 :: t)).extract (2 : Int).toNat (mkT (45 :: 45 :: t)).size = mkT t := mkT_inj (by rw [ext_tailP, mkT_list, mkT_list]; rfl)
    rw [e]
  obtain ⟨GA, gc, hx, ho⟩ := h.free he
  have zf := free_blk hx
  have lx := lt_of_block hx
  obtain ⟨c, r, hcr, hc45, hc61⟩ := hm
  obtain ⟨p0, g0⟩ := mkT_get hcr
  have po1 := nonempty_list p0
  have po2 := nonempty_not p0
  have c0 : (((mkT t)[0].toNat : Int) == 45) = false := nat_beq_false (b := 45) (by rw [g0]; intro e; exact hc45 (UInt8.toNat_inj.1 e))
  have c1 : (((mkT t)[0].toNat : Int) == 61) = false := nat_beq_false (b := 61) (by rw [g0]; intro e; exact hc61 (UInt8.toNat_inj.1 e))
  have htt : (mkT t).size = t.length := mkT_size t
  have hnle := nameOf_le t
  have hnl : (mkT (nameOf t)).size ≤ 2147483647 := by rw [mkT_size]; omega
  have hs2 : ∀ W, (Instr.slice 9 (.string (mkT t)) none (some (.int .i64 ((nameOf t).length : Int))) none).run Try.prog W = .ok (.string (mkT (nameOf t))) W := fun W => by
    rw [run_slice_string_h (P := Try.prog) W 9 (mkT t) Try.underlying9 .i64 ((nameOf t).length : Int) (by omega) (by omega)]
    have e : (mkT t).extract 0 ((nameOf t).length : Int).toNat = mkT (nameOf t) := mkT_inj (by rw [ext_headS, mkT_list, mkT_list, Int.toNat_natCast]; exact (nameOf_take t).symm)
    rw [e]
  have HBY := Lib.hid (fun (W : World) => spec_byteAt.calls _ (mkT t) 61 _ W (byteAt_f (mkT t) (by omega)))
  simp only [mkT_list] at HBY
  have hlt : (((nameOf t).length : Int) < ((mkT t).size : Int)) := by (have q := hq; unfold hasEq at q; have q := of_decide_eq_true q; omega)
  have hi : i < S.flags.length := findIdx_lt hnm
  have i0 : (0 : Int) ≤ (i : Int) := Int.natCast_nonneg _
  have hi2 : (i : Int) < (S.flags.length : Int) := by omega
  have HNM := Lib.hid (fun (W : World) (hb : Below w0.heap.size w0 W) => named_some (hA.below hb) hR hn hsz cap (nameOf t) hnl hnm)
  have hs3 : ∀ W, (Instr.slice 9 (.string (mkT t)) (some (.int .i64 (((nameOf t).length : Int) + 1))) none none).run Try.prog W = .ok (.string (mkT (valueOf t))) W := fun W => by
    rw [run_slice_string_l (P := Try.prog) W 9 (mkT t) Try.underlying9 .i64 (((nameOf t).length : Int) + 1) (by omega) (by omega)]
    have e : (mkT t).extract (((nameOf t).length : Int) + 1).toNat (mkT t).size = mkT (valueOf t) := mkT_inj (by rw [ext_tailP, mkT_list, mkT_list]; rfl)
    rw [e]
  have heq : (((nameOf t).length : Int) == ((mkT t).size : Int)) = false := by simp; omega
  have HGV := Lib.hid (fun (W : World) (hb : Below w.heap.size w W) => gives_any (h.below hb) he hA hi (valueOf t) hG)
  clear hnm hq
  have HB0 := Lib.hid h.bel
  have HB := Lib.hid (Below.refl w.heap.size w)
  have dsl : w.cell? ⟨x, 0, none⟩ = some (.slice A S.flags.length cap) := (cell_blk hx 0).trans rfl
  have dpl : w.cell? ⟨x, 1, none⟩ = some (.bool S.plain) := (cell_blk hx 1).trans rfl
  have dun : w.cell? ⟨x, 2, none⟩ = some (.bool S.unknown) := (cell_blk hx 2).trans rfl
  have dk : w.cell? ⟨x, 3, none⟩ = some (.int .i64 (S.fold : Int)) := (cell_blk hx 3).trans rfl
  have HRS := Lib.hid hr
  have hnb : ((nameOf t).length : Int) ≤ 2147483600 := by omega
  have hn0 : (0 : Int) ≤ ((nameOf t).length : Int) := Int.natCast_nonneg _
  clear hA hR hsz hnl hcr hc45 hc61 g0 has hx ho h
  generalize mkT (45 :: 45 :: t) = ARG at hsl hA2 ⊢
  go_enter Try.func20, Try.ntmps20
  go_wp2_with (first | ((with_reducible go_at_call 45); (with_reducible refine Calls.mono (HBY.out _) ?_); rintro e w3 ⟨rfl, hd3⟩; have hb3 := hd3.below; have dsl := cell_kept hb3 dsl; have dpl := cell_kept hb3 dpl; have dun := cell_kept hb3 dun; have dk := cell_kept hb3 dk; have HB0 := Lib.hid (HB0.out.trans (hb3.mono HB0.out.size)); have HB := Lib.hid (HB.out.trans (hb3.mono HB.out.size)); clear hb3) | ((with_reducible go_at_call 35); (with_reducible refine Calls.mono (HNM.out _ HB0.out) ?_); rintro e w3 ⟨rfl, hb3⟩; have dsl := cell_kept hb3 dsl; have dpl := cell_kept hb3 dpl; have dun := cell_kept hb3 dun; have dk := cell_kept hb3 dk; have HB0 := Lib.hid (HB0.out.trans (hb3.mono HB0.out.size)); have HB := Lib.hid (HB.out.trans (hb3.mono HB.out.size)); clear hb3) | ((with_reducible go_at_call 54); (with_reducible refine Calls.mono (HGV.out _ HB.out) ?_); rintro e w3 ⟨rfl, hr3⟩))
  go_ret
  exact ⟨_, rfl, HRS.out, hr3⟩
set_option maxRecDepth 100000 in
set_option maxHeartbeats 1600000 in
theorem longS_opt {w0 w : World} {x : Nat} {S : SetP} {A : Option Addr} {cap : Nat} {st : St} {AA CH : Value} {pr : Bool} (h : RunAt w0 w x S A cap st AA CH pr) (he : st.err = .no) (hA : FlagsAt w0 A S.flags) (hR : Right S) (hn : S.flags.length ≤ 2147483647) (hsz : ∀ f ∈ S.flags, f.name.length ≤ 2147483647) (hG : st.given.length ≤ 1099511627776) {vr : Value} {rest : List Txt} (hr : RestAt (pcB S w0.heap.size) w0 vr rest) (hrl : rest.length ≤ 1099511627776) (t : Txt) (htl : t.length ≤ 2147483600) (hm : ∃ c r, t = c :: r ∧ c ≠ 45 ∧ c ≠ 61) (hq : hasEq t = false) {i : Nat} (hnm : named S (nameOf t) = some i) (ho1 : noOptOf S i ≠ []) :
    Calls Try.prog 20 #[.pointer (some ⟨x, 0, none⟩), .string (mkT (45 :: 45 :: t)), vr] w (StepS w0 x S A cap AA CH pr (give S none st i (noOptOf S i), rest)) := by
  have has : (mkT (45 :: 45 :: t)).size = t.length + 2 := by rw [mkT_size]; simp
  have hA2 : (2 : Int) ≤ ((mkT (45 :: 45 :: t)).size : Int) := by omega
  have hsl : ∀ W, (Instr.slice 9 (.string (mkT (45 :: 45 :: t))) (some (.int .i64 2)) none none).run Try.prog W = .ok (.string (mkT t)) W := fun W => by
    rw [run_slice_string_l (P := Try.prog) W 9 (mkT (45 :: 45 :: t)) Try.underlying9 .i64 2 (by omega) (by omega)]
    have e : (mkT (45 :: 45 :: t)).extract (2 : Int).toNat (mkT (45 :: 45 :: t)).size = mkT t := mkT_inj (by rw [ext_tailP, mkT_list, mkT_list]; rfl)
    rw [e]
  obtain ⟨GA, gc, hx, ho⟩ := h.free he
  have zf := free_blk hx
  have lx := lt_of_block hx
  obtain ⟨c, r, hcr, hc45, hc61⟩ := hm
  obtain ⟨p0, g0⟩ := mkT_get hcr
  have po1 := nonempty_list p0
  have po2 := nonempty_not p0
  have c0 : (((mkT t)[0].toNat : Int) == 45) = false := nat_beq_false (b := 45) (by rw [g0]; intro e; exact hc45 (UInt8.toNat_inj.1 e))
  have c1 : (((mkT t)[0].toNat : Int) == 61) = false := nat_beq_false (b := 61) (by rw [g0]; intro e; exact hc61 (UInt8.toNat_inj.1 e))
  have htt : (mkT t).size = t.length := mkT_size t
  have hnle := nameOf_le t
  have hnl : (mkT (nameOf t)).size ≤ 2147483647 := by rw [mkT_size]; omega
  have hs2 : ∀ W, (Instr.slice 9 (.string (mkT t)) none (some (.int .i64 ((nameOf t).length : Int))) none).run Try.prog W = .ok (.string (mkT (nameOf t))) W := fun W => by
    rw [run_slice_string_h (P := Try.prog) W 9 (mkT t) Try.underlying9 .i64 ((nameOf t).length : Int) (by omega) (by omega)]
    have e : (mkT t).extract 0 ((nameOf t).length : Int).toNat = mkT (nameOf t) := mkT_inj (by rw [ext_headS, mkT_list, mkT_list, Int.toNat_natCast]; exact (nameOf_take t).symm)
    rw [e]
  have HBY := Lib.hid (fun (W : World) => spec_byteAt.calls _ (mkT t) 61 _ W (byteAt_f (mkT t) (by omega)))
  simp only [mkT_list] at HBY
  have hlt : ¬ (((nameOf t).length : Int) < ((mkT t).size : Int)) := by (have q := hq; unfold hasEq at q; have q := of_decide_eq_false q; omega)
  have hi : i < S.flags.length := findIdx_lt hnm
  have i0 : (0 : Int) ≤ (i : Int) := Int.natCast_nonneg _
  have hi2 : (i : Int) < (S.flags.length : Int) := by omega
  have HNM := Lib.hid (fun (W : World) (hb : Below w0.heap.size w0 W) => named_some (hA.below hb) hR hn hsz cap (nameOf t) hnl hnm)
  have heq : (((nameOf t).length : Int) == ((mkT t).size : Int)) = true := by simp; omega
  have hno : noOptOf S i = S.flags[i].noOpt := by simp [noOptOf, hi]
  rw [hno] at ho1
  rw [hno]
  have HGV := Lib.hid (fun (W : World) (hb : Below w.heap.size w W) => gives_any (h.below hb) he hA hi (S.flags[i].noOpt) hG)
  have po : 0 < (mkT S.flags[i].noOpt).size := by rw [mkT_size]; exact List.length_pos_iff.2 ho1
  have po3 := nonempty_list po
  have po4 := nonempty_not po
  obtain ⟨fb, fo, fv, rfl, -, -, f2, -, -⟩ := hA i hi
  have e2 := cell_kept h.bel f2
  clear f2
  generalize mkT S.flags[i].noOpt = NO at e2 po po3 po4 HGV
  clear hnm hq ho1 hno
  have HB0 := Lib.hid h.bel
  have HB := Lib.hid (Below.refl w.heap.size w)
  have dsl : w.cell? ⟨x, 0, none⟩ = some (.slice (some ⟨fb, fo, none⟩) S.flags.length cap) := (cell_blk hx 0).trans rfl
  have dpl : w.cell? ⟨x, 1, none⟩ = some (.bool S.plain) := (cell_blk hx 1).trans rfl
  have dun : w.cell? ⟨x, 2, none⟩ = some (.bool S.unknown) := (cell_blk hx 2).trans rfl
  have dk : w.cell? ⟨x, 3, none⟩ = some (.int .i64 (S.fold : Int)) := (cell_blk hx 3).trans rfl
  have HRS := Lib.hid hr
  have hnb : ((nameOf t).length : Int) ≤ 2147483600 := by omega
  have hn0 : (0 : Int) ≤ ((nameOf t).length : Int) := Int.natCast_nonneg _
  clear hA hR hsz hnl hcr hc45 hc61 g0 has hx ho h
  generalize mkT (45 :: 45 :: t) = ARG at hsl hA2 ⊢
  go_enter Try.func20, Try.ntmps20
  go_wp2_with (first | ((with_reducible go_at_call 45); (with_reducible refine Calls.mono (HBY.out _) ?_); rintro e w3 ⟨rfl, hd3⟩; have hb3 := hd3.below; have dsl := cell_kept hb3 dsl; have dpl := cell_kept hb3 dpl; have dun := cell_kept hb3 dun; have dk := cell_kept hb3 dk; have e2 := cell_kept hb3 e2; have HB0 := Lib.hid (HB0.out.trans (hb3.mono HB0.out.size)); have HB := Lib.hid (HB.out.trans (hb3.mono HB.out.size)); clear hb3) | ((with_reducible go_at_call 35); (with_reducible refine Calls.mono (HNM.out _ HB0.out) ?_); rintro e w3 ⟨rfl, hb3⟩; have dsl := cell_kept hb3 dsl; have dpl := cell_kept hb3 dpl; have dun := cell_kept hb3 dun; have dk := cell_kept hb3 dk; have e2 := cell_kept hb3 e2; have HB0 := Lib.hid (HB0.out.trans (hb3.mono HB0.out.size)); have HB := Lib.hid (HB.out.trans (hb3.mono HB.out.size)); clear hb3) | ((with_reducible go_at_call 54); (with_reducible refine Calls.mono (HGV.out _ HB.out) ?_); rintro e w3 ⟨rfl, hr3⟩))
  go_ret
  exact ⟨_, rfl, HRS.out, hr3⟩
set_option maxRecDepth 100000 in
set_option maxHeartbeats 1600000 in
theorem longS_need {w0 w : World} {x : Nat} {S : SetP} {A : Option Addr} {cap : Nat} {st : St} {AA CH : Value} {pr : Bool} (h : RunAt w0 w x S A cap st AA CH pr) (he : st.err = .no) (hA : FlagsAt w0 A S.flags) (hR : Right S) (hn : S.flags.length ≤ 2147483647) (hsz : ∀ f ∈ S.flags, f.name.length ≤ 2147483647) (hG : st.given.length ≤ 1099511627776) {vr : Value} {rest : List Txt} (hr : RestAt (pcB S w0.heap.size) w0 vr rest) (hrl : rest.length ≤ 1099511627776) (t : Txt) (htl : t.length ≤ 2147483600) (hm : ∃ c r, t = c :: r ∧ c ≠ 45 ∧ c ≠ 61) (hq : hasEq t = false) {i : Nat} (hnm : named S (nameOf t) = some i) (ho1 : noOptOf S i = []) (hr0 : rest = []) :
    Calls Try.prog 20 #[.pointer (some ⟨x, 0, none⟩), .string (mkT (45 :: 45 :: t)), vr] w (StepS w0 x S A cap AA CH pr ({ st with err := .need i (nameOf t) [] }, [])) := by
  have has : (mkT (45 :: 45 :: t)).size = t.length + 2 := by rw [mkT_size]; simp
  have hA2 : (2 : Int) ≤ ((mkT (45 :: 45 :: t)).size : Int) := by omega
  have hsl : ∀ W, (Instr.slice 9 (.string (mkT (45 :: 45 :: t))) (some (.int .i64 2)) none none).run Try.prog W = .ok (.string (mkT t)) W := fun W => by
    rw [run_slice_string_l (P := Try.prog) W 9 (mkT (45 :: 45 :: t)) Try.underlying9 .i64 2 (by omega) (by omega)]
    have e : (mkT (45 :: 45 :: t)).extract (2 : Int).toNat (mkT (45 :: 45 :: t)).size = mkT t := mkT_inj (by rw [ext_tailP, mkT_list, mkT_list]; rfl)
    rw [e]
  obtain ⟨GA, gc, hx, ho⟩ := h.free he
  have zf := free_blk hx
  have lx := lt_of_block hx
  obtain ⟨c, r, hcr, hc45, hc61⟩ := hm
  obtain ⟨p0, g0⟩ := mkT_get hcr
  have po1 := nonempty_list p0
  have po2 := nonempty_not p0
  have c0 : (((mkT t)[0].toNat : Int) == 45) = false := nat_beq_false (b := 45) (by rw [g0]; intro e; exact hc45 (UInt8.toNat_inj.1 e))
  have c1 : (((mkT t)[0].toNat : Int) == 61) = false := nat_beq_false (b := 61) (by rw [g0]; intro e; exact hc61 (UInt8.toNat_inj.1 e))
  have htt : (mkT t).size = t.length := mkT_size t
  have hnle := nameOf_le t
  have hnl : (mkT (nameOf t)).size ≤ 2147483647 := by rw [mkT_size]; omega
  have hs2 : ∀ W, (Instr.slice 9 (.string (mkT t)) none (some (.int .i64 ((nameOf t).length : Int))) none).run Try.prog W = .ok (.string (mkT (nameOf t))) W := fun W => by
    rw [run_slice_string_h (P := Try.prog) W 9 (mkT t) Try.underlying9 .i64 ((nameOf t).length : Int) (by omega) (by omega)]
    have e : (mkT t).extract 0 ((nameOf t).length : Int).toNat = mkT (nameOf t) := mkT_inj (by rw [ext_headS, mkT_list, mkT_list, Int.toNat_natCast]; exact (nameOf_take t).symm)
    rw [e]
  have HBY := Lib.hid (fun (W : World) => spec_byteAt.calls _ (mkT t) 61 _ W (byteAt_f (mkT t) (by omega)))
  simp only [mkT_list] at HBY
  have hlt : ¬ (((nameOf t).length : Int) < ((mkT t).size : Int)) := by (have q := hq; unfold hasEq at q; have q := of_decide_eq_false q; omega)
  subst hr0
  have hi : i < S.flags.length := findIdx_lt hnm
  have i0 : (0 : Int) ≤ (i : Int) := Int.natCast_nonneg _
  have hi2 : (i : Int) < (S.flags.length : Int) := by omega
  have HNM := Lib.hid (fun (W : World) (hb : Below w0.heap.size w0 W) => named_some (hA.below hb) hR hn hsz cap (nameOf t) hnl hnm)
  have heq : (((nameOf t).length : Int) == ((mkT t).size : Int)) = true := by simp; omega
  have hno : noOptOf S i = S.flags[i].noOpt := by simp [noOptOf, hi]
  rw [hno] at ho1
  have HWN := Lib.hid (fun (W : World) (hb : Below w.heap.size w W) => (show Calls Try.prog 55 #[.pointer (some ⟨x, 0, none⟩), .int .i64 (i : Int), .string (mkT (nameOf t)), .string ⟨#[]⟩, vr] W _ from wants_nil (h.below hb) he hr i (nameOf t) []))
  have po : (mkT S.flags[i].noOpt).size = 0 := by rw [mkT_size, ho1]; rfl
  have po3 := empty_list po
  have po4 := empty_not po
  obtain ⟨fb, fo, fv, rfl, -, -, f2, -, -⟩ := hA i hi
  have e2 := cell_kept h.bel f2
  clear f2
  generalize mkT S.flags[i].noOpt = NO at e2 po po3 po4
  clear hnm hq ho1 hno
  have HB0 := Lib.hid h.bel
  have HB := Lib.hid (Below.refl w.heap.size w)
  have dsl : w.cell? ⟨x, 0, none⟩ = some (.slice (some ⟨fb, fo, none⟩) S.flags.length cap) := (cell_blk hx 0).trans rfl
  have dpl : w.cell? ⟨x, 1, none⟩ = some (.bool S.plain) := (cell_blk hx 1).trans rfl
  have dun : w.cell? ⟨x, 2, none⟩ = some (.bool S.unknown) := (cell_blk hx 2).trans rfl
  have dk : w.cell? ⟨x, 3, none⟩ = some (.int .i64 (S.fold : Int)) := (cell_blk hx 3).trans rfl
  have HRS := Lib.hid hr
  have hnb : ((nameOf t).length : Int) ≤ 2147483600 := by omega
  have hn0 : (0 : Int) ≤ ((nameOf t).length : Int) := Int.natCast_nonneg _
  clear hA hR hsz hnl hcr hc45 hc61 g0 has hx ho h
  generalize mkT (45 :: 45 :: t) = ARG at hsl hA2 ⊢
  go_enter Try.func20, Try.ntmps20
  go_wp2_with (first | ((with_reducible go_at_call 45); (with_reducible refine Calls.mono (HBY.out _) ?_); rintro e w3 ⟨rfl, hd3⟩; have hb3 := hd3.below; have dsl := cell_kept hb3 dsl; have dpl := cell_kept hb3 dpl; have dun := cell_kept hb3 dun; have dk := cell_kept hb3 dk; have e2 := cell_kept hb3 e2; have HB0 := Lib.hid (HB0.out.trans (hb3.mono HB0.out.size)); have HB := Lib.hid (HB.out.trans (hb3.mono HB.out.size)); clear hb3) | ((with_reducible go_at_call 35); (with_reducible refine Calls.mono (HNM.out _ HB0.out) ?_); rintro e w3 ⟨rfl, hb3⟩; have dsl := cell_kept hb3 dsl; have dpl := cell_kept hb3 dpl; have dun := cell_kept hb3 dun; have dk := cell_kept hb3 dk; have e2 := cell_kept hb3 e2; have HB0 := Lib.hid (HB0.out.trans (hb3.mono HB0.out.size)); have HB := Lib.hid (HB.out.trans (hb3.mono HB.out.size)); clear hb3) | ((with_reducible go_at_call 55); (with_reducible refine Calls.mono (HWN.out _ HB.out) ?_); rintro e w3 ⟨v3, rfl, hv3, hr3⟩))
  go_ret
  exact ⟨_, rfl, hv3, hr3⟩
set_option maxRecDepth 100000 in
set_option maxHeartbeats 1600000 in
theorem longS_next {w0 w : World} {x : Nat} {S : SetP} {A : Option Addr} {cap : Nat} {st : St} {AA CH : Value} {pr : Bool} (h : RunAt w0 w x S A cap st AA CH pr) (he : st.err = .no) (hA : FlagsAt w0 A S.flags) (hR : Right S) (hn : S.flags.length ≤ 2147483647) (hsz : ∀ f ∈ S.flags, f.name.length ≤ 2147483647) (hG : st.given.length ≤ 1099511627776) {vr : Value} {rest : List Txt} (hr : RestAt (pcB S w0.heap.size) w0 vr rest) (hrl : rest.length ≤ 1099511627776) (t : Txt) (htl : t.length ≤ 2147483600) (hm : ∃ c r, t = c :: r ∧ c ≠ 45 ∧ c ≠ 61) (hq : hasEq t = false) {i : Nat} (hnm : named S (nameOf t) = some i) (ho1 : noOptOf S i = []) {a : Txt} {rs : List Txt} (hr0 : rest = a :: rs) :
    Calls Try.prog 20 #[.pointer (some ⟨x, 0, none⟩), .string (mkT (45 :: 45 :: t)), vr] w (StepS w0 x S A cap AA CH pr (give S none st i a, rs)) := by
  have has : (mkT (45 :: 45 :: t)).size = t.length + 2 := by rw [mkT_size]; simp
  have hA2 : (2 : Int) ≤ ((mkT (45 :: 45 :: t)).size : Int) := by omega
  have hsl : ∀ W, (Instr.slice 9 (.string (mkT (45 :: 45 :: t))) (some (.int .i64 2)) none none).run Try.prog W = .ok (.string (mkT t)) W := fun W => by
    rw [run_slice_string_l (P := Try.prog) W 9 (mkT (45 :: 45 :: t)) Try.underlying9 .i64 2 (by omega) (by omega)]
    have e : (mkT (45 :: 45 :: t)).extract (2 : Int).toNat (mkT (45 :: 45 :: t)).size = mkT t := mkT_inj (by rw [ext_tailP, mkT_list, mkT_list]; rfl)
    rw [e]
  obtain ⟨GA, gc, hx, ho⟩ := h.free he
  have zf := free_blk hx
  have lx := lt_of_block hx
  obtain ⟨c, r, hcr, hc45, hc61⟩ := hm
  obtain ⟨p0, g0⟩ := mkT_get hcr
  have po1 := nonempty_list p0
  have po2 := nonempty_not p0
  have c0 : (((mkT t)[0].toNat : Int) == 45) = false := nat_beq_false (b := 45) (by rw [g0]; intro e; exact hc45 (UInt8.toNat_inj.1 e))
  have c1 : (((mkT t)[0].toNat : Int) == 61) = false := nat_beq_false (b := 61) (by rw [g0]; intro e; exact hc61 (UInt8.toNat_inj.1 e))
  have htt : (mkT t).size = t.length := mkT_size t
  have hnle := nameOf_le t
  have hnl : (mkT (nameOf t)).size ≤ 2147483647 := by rw [mkT_size]; omega
  have hs2 : ∀ W, (Instr.slice 9 (.string (mkT t)) none (some (.int .i64 ((nameOf t).length : Int))) none).run Try.prog W = .ok (.string (mkT (nameOf t))) W := fun W => by
    rw [run_slice_string_h (P := Try.prog) W 9 (mkT t) Try.underlying9 .i64 ((nameOf t).length : Int) (by omega) (by omega)]
    have e : (mkT t).extract 0 ((nameOf t).length : Int).toNat = mkT (nameOf t) := mkT_inj (by rw [ext_headS, mkT_list, mkT_list, Int.toNat_natCast]; exact (nameOf_take t).symm)
    rw [e]
  have HBY := Lib.hid (fun (W : World) => spec_byteAt.calls _ (mkT t) 61 _ W (byteAt_f (mkT t) (by omega)))
  simp only [mkT_list] at HBY
  have hlt : ¬ (((nameOf t).length : Int) < ((mkT t).size : Int)) := by (have q := hq; unfold hasEq at q; have q := of_decide_eq_false q; omega)
  subst hr0
  have hi : i < S.flags.length := findIdx_lt hnm
  have i0 : (0 : Int) ≤ (i : Int) := Int.natCast_nonneg _
  have hi2 : (i : Int) < (S.flags.length : Int) := by omega
  have HNM := Lib.hid (fun (W : World) (hb : Below w0.heap.size w0 W) => named_some (hA.below hb) hR hn hsz cap (nameOf t) hnl hnm)
  have heq : (((nameOf t).length : Int) == ((mkT t).size : Int)) = true := by simp; omega
  have hno : noOptOf S i = S.flags[i].noOpt := by simp [noOptOf, hi]
  rw [hno] at ho1
  have hrl2 : rs.length ≤ 1099511627776 := by simp at hrl; omega
  have HWN := Lib.hid (fun (W : World) (hb : Below w.heap.size w W) => (show Calls Try.prog 55 #[.pointer (some ⟨x, 0, none⟩), .int .i64 (i : Int), .string (mkT (nameOf t)), .string ⟨#[]⟩, vr] W _ from wants_next (h.below hb) he hA hi hG hr hrl2 (nameOf t) []))
  have po : (mkT S.flags[i].noOpt).size = 0 := by rw [mkT_size, ho1]; rfl
  have po3 := empty_list po
  have po4 := empty_not po
  obtain ⟨fb, fo, fv, rfl, -, -, f2, -, -⟩ := hA i hi
  have e2 := cell_kept h.bel f2
  clear f2
  generalize mkT S.flags[i].noOpt = NO at e2 po po3 po4
  clear hnm hq ho1 hno
  have HB0 := Lib.hid h.bel
  have HB := Lib.hid (Below.refl w.heap.size w)
  have dsl : w.cell? ⟨x, 0, none⟩ = some (.slice (some ⟨fb, fo, none⟩) S.flags.length cap) := (cell_blk hx 0).trans rfl
  have dpl : w.cell? ⟨x, 1, none⟩ = some (.bool S.plain) := (cell_blk hx 1).trans rfl
  have dun : w.cell? ⟨x, 2, none⟩ = some (.bool S.unknown) := (cell_blk hx 2).trans rfl
  have dk : w.cell? ⟨x, 3, none⟩ = some (.int .i64 (S.fold : Int)) := (cell_blk hx 3).trans rfl
  have HRS := Lib.hid hr
  have hnb : ((nameOf t).length : Int) ≤ 2147483600 := by omega
  have hn0 : (0 : Int) ≤ ((nameOf t).length : Int) := Int.natCast_nonneg _
  clear hA hR hsz hnl hcr hc45 hc61 g0 has hx ho h
  generalize mkT (45 :: 45 :: t) = ARG at hsl hA2 ⊢
  go_enter Try.func20, Try.ntmps20
  go_wp2_with (first | ((with_reducible go_at_call 45); (with_reducible refine Calls.mono (HBY.out _) ?_); rintro e w3 ⟨rfl, hd3⟩; have hb3 := hd3.below; have dsl := cell_kept hb3 dsl; have dpl := cell_kept hb3 dpl; have dun := cell_kept hb3 dun; have dk := cell_kept hb3 dk; have e2 := cell_kept hb3 e2; have HB0 := Lib.hid (HB0.out.trans (hb3.mono HB0.out.size)); have HB := Lib.hid (HB.out.trans (hb3.mono HB.out.size)); clear hb3) | ((with_reducible go_at_call 35); (with_reducible refine Calls.mono (HNM.out _ HB0.out) ?_); rintro e w3 ⟨rfl, hb3⟩; have dsl := cell_kept hb3 dsl; have dpl := cell_kept hb3 dpl; have dun := cell_kept hb3 dun; have dk := cell_kept hb3 dk; have e2 := cell_kept hb3 e2; have HB0 := Lib.hid (HB0.out.trans (hb3.mono HB0.out.size)); have HB := Lib.hid (HB.out.trans (hb3.mono HB.out.size)); clear hb3) | ((with_reducible go_at_call 55); (with_reducible refine Calls.mono (HWN.out _ HB.out) ?_); rintro e w3 ⟨v3, rfl, hv3, hr3⟩))
  go_ret
  exact ⟨_, rfl, hv3, hr3⟩
set_option maxRecDepth 100000 in
set_option maxHeartbeats 1600000 in
theorem longS_any {w0 w : World} {x : Nat} {S : SetP} {A : Option Addr} {cap : Nat} {st : St} {AA CH : Value} {pr : Bool} (h : RunAt w0 w x S A cap st AA CH pr) (he : st.err = .no) (hA : FlagsAt w0 A S.flags) (hR : Right S) (hn : S.flags.length ≤ 2147483647) (hsz : ∀ f ∈ S.flags, f.name.length ≤ 2147483647) (hG : st.given.length ≤ 1099511627776) {vr : Value} {rest : List Txt} (hr : RestAt (pcB S w0.heap.size) w0 vr rest) (hrl : rest.length ≤ 1099511627776) (t : Txt) (htl : t.length ≤ 2147483600) :
    Calls Try.prog 20 #[.pointer (some ⟨x, 0, none⟩), .string (mkT (45 :: 45 :: t)), vr] w (StepS w0 x S A cap AA CH pr (longP S none st (45 :: 45 :: t) rest)) := by
  unfold longP
  simp only [List.drop_succ_cons, List.drop_zero]
  by_cases hs : t = [] ∨ t.head? = some 45 ∨ t.head? = some 61
  · rw [if_pos hs]; exact longS_syn h he hA hR hn hsz hG hr hrl t htl hs
  · rw [if_neg hs]
    have hm : ∃ c r, t = c :: r ∧ c ≠ 45 ∧ c ≠ 61 := by
      cases t with
      | nil => exact absurd (Or.inl rfl) hs
      | cons c r => exact ⟨c, r, rfl, fun e => hs (Or.inr (Or.inl (by rw [e]; rfl))), fun e => hs (Or.inr (Or.inr (by rw [e]; rfl)))⟩
    cases hnm : named S (nameOf t) with
    | none =>
      simp only
      by_cases hh : nameOf t = helpT
      · rw [if_pos hh]
        cases hq : hasEq t with
        | true => exact longS_help_y h he hA hR hn hsz hG hr hrl t htl hm hq hnm hh
        | false => exact longS_help_n h he hA hR hn hsz hG hr hrl t htl hm hq hnm hh
      · rw [if_neg hh]
        cases hu : S.unknown with
        | true =>
          rw [if_pos rfl]
          cases hq : hasEq t with
          | true => rw [if_pos rfl]; exact longS_let_y h he hA hR hn hsz hG hr hrl t htl hm hq hnm hh hu
          | false => rw [if_neg (by decide)]; exact longS_let_n h he hA hR hn hsz hG hr hrl t htl hm hq hnm hh hu
        | false =>
          rw [if_neg (by decide)]
          cases hq : hasEq t with
          | true => exact longS_not_y h he hA hR hn hsz hG hr hrl t htl hm hq hnm hh hu
          | false => exact longS_not_n h he hA hR hn hsz hG hr hrl t htl hm hq hnm hh hu
    | some i =>
      simp only
      cases hq : hasEq t with
      | true => rw [if_pos rfl]; exact longS_eq h he hA hR hn hsz hG hr hrl t htl hm hq hnm
      | false =>
        rw [if_neg (by decide)]
        by_cases ho1 : noOptOf S i = []
        · rw [if_neg (fun hc => hc ho1)]
          cases rest with
          | nil => exact longS_need h he hA hR hn hsz hG hr hrl t htl hm hq hnm ho1 rfl
          | cons a rs => exact longS_next h he hA hR hn hsz hG hr hrl t htl hm hq hnm ho1 rfl
        · rw [if_pos ho1]; exact longS_opt h he hA hR hn hsz hG hr hrl t htl hm hq hnm ho1
end Go.Proofs.Ytgmhhdpggnmipaa.E

namespace Go.Proofs.Ytgmhhdpggnmipaa.E
open Go.RowKit Go.Proofs
set_option linter.unusedVariables false
set_option linter.unusedSimpArgs false
/-- laws.flag14: is there such a place? -/
theorem flag14_c (w : World) (A : Option Addr) (n cap : Nat) (pl un : Bool) (f i : Int) :
    Calls Try.prog 24 #[.agg #[.slice A n cap, .bool pl, .bool un, .int .i64 f], .int .i64 i] w fun e w' => e = .returned (.bool (decide (0 ≤ i ∧ i < (n : Int)))) ∧ Below w.heap.size w w' := by
  by_cases h0 : 0 ≤ i
  · by_cases h1 : i < (n : Int)
    · rw [decide_eq_true ⟨h0, h1⟩]
      go_enter Try.func24, Try.ntmps24
      go_wp2
      go_ret
      exact ⟨rfl, (Below.refl _ _).alloc (Nat.le_refl _) _⟩
    · rw [decide_eq_false (fun h => h1 h.2)]
      go_enter Try.func24, Try.ntmps24
      go_wp2
      go_ret
      exact ⟨rfl, (Below.refl _ _).alloc (Nat.le_refl _) _⟩
  · rw [decide_eq_false (fun h => h0 h.1)]
    go_enter Try.func24, Try.ntmps24
    go_wp2
    go_ret
    exact ⟨rfl, (Below.refl _ _).alloc (Nat.le_refl _) _⟩
set_option maxRecDepth 100000 in
/-- laws.long14: the long form of a flag with a value. -/
theorem long14_c {w : World} {A : Option Addr} {F : List FlagP} (hA : FlagsAt w A F) (cap : Nat) (pl un : Bool) (f : Int) (i : Nat) (hi : i < F.length) (v : Txt) (hm : F.length ≤ 2147483647) (hn : F[i].name.length ≤ 2147483647) (hv : v.length ≤ 2147483647) :
    Calls Try.prog 28 #[.agg #[.slice A F.length cap, .bool pl, .bool un, .int .i64 f], .int .i64 (i : Int), .string (mkT v)] w fun e w' => ∃ s, e = .returned (.string s) ∧ s.data.toList = longT F[i].name v ∧ Below w.heap.size w w' := by
  obtain ⟨b, o, vv, rfl, c0, -⟩ := hA i hi
  generalize hF : F[i].name = nm at c0 hn ⊢
  clear hF hA
  generalize hl : F.length = ln at hi hm ⊢
  go_enter Try.func28, Try.ntmps28
  go_upto_region 1 with fail
  generalize hWX : w.alloc _ = WX
  have hb : Below w.heap.size w WX := by rw [← hWX]; exact (Below.refl _ _).alloc (Nat.le_refl _) _
  have d0 : WX.cell? ⟨w.heap.size, 0, none⟩ = some (.slice (some ⟨b, o, none⟩) ln cap) := by rw [← hWX]; exact (cell_blk (heap_alloc_new w _) 0).trans rfl
  have c1 := cell_kept hb c0
  clear hWX c0
  have hi2 : (i : Int) < (ln : Int) := by omega
  have z0 : (mkT nm).size ≤ 2147483647 := by rw [mkT_size]; exact hn
  have z1 : (mkT v).size ≤ 2147483647 := by rw [mkT_size]; exact hv
  generalize hx : mkT nm = x at c1 z0
  generalize hy : mkT v = y at z1 ⊢
  have HX := Lib.hid hx
  have HY := Lib.hid hy
  clear hx hy hn hv
  go_wp2
  all_goals try (exfalso; simp at *; omega)
  go_ret
  exact ⟨_, rfl, (by rw [← HX.out, ← HY.out]; simp [longT, mkT]), hb⟩
theorem saysF {w : World} (A : Option Addr) (n cap : Nat) (pl un : Bool) (k : Int) {j : Int} {b : Bool} (h : decide (0 ≤ j ∧ j < (n : Int)) = b) : Says w 24 #[.agg #[.slice A n cap, .bool pl, .bool un, .int .i64 k], .int .i64 j] b := fun W hb => by
  have h2 := flag14_c W A n cap pl un k j
  rw [h] at h2; exact h2
theorem list_ext {s : ByteArray} {t : Txt} (h : s.data.toList = t) : s = mkT t := by rw [← h]; exact (of_list s).symm
theorem saysLong {w : World} {A : Option Addr} {F : List FlagP} (hA : FlagsAt w A F) (cap : Nat) (pl un : Bool) (k : Int) (i : Nat) (hi : i < F.length) (v : Txt) (hm : F.length ≤ 2147483647) (hn : F[i].name.length ≤ 2147483647) (hv : v.length ≤ 2147483647) (W : World) (hb : Below w.heap.size w W) :
    Calls Try.prog 28 #[.agg #[.slice A F.length cap, .bool pl, .bool un, .int .i64 k], .int .i64 (i : Int), .string (mkT v)] W fun e w' => e = .returned (.string (mkT (longT F[i].name v))) ∧ Below W.heap.size W w' :=
  (long14_c (hA.below hb) cap pl un k i hi v hm hn hv).mono fun e w' ⟨s, he, hs, hb2⟩ => ⟨by rw [he, list_ext hs], hb2⟩
theorem says_parse {w : World} {A : Option Addr} {S : SetP} (hS : SetOK w A S) (cap : Nat) (W : World) (hb : Below w.heap.size w W) (v : Value) (L : List Txt) (hv : TextIn W v (L.map mkT)) (hwt : wt L ≤ 1099511627776) (hls : ∀ t ∈ L, t.length ≤ 8589934592) :
    Calls Try.prog 26 #[.agg #[.slice A S.flags.length cap, .bool S.plain, .bool S.unknown, .int .i64 S.fold], v] W fun e w' => ∃ u, e = .returned u ∧ HeardOwn w' (psOf none true (goes S none st0 L)) (goes S none st0 L).err S.flags.length u ∧ Below W.heap.size W w' := parse_c (hS.below hb) cap hv hwt hls
theorem mkT_pos {t : Txt} (h : t ≠ []) : 0 < (mkT t).size := by rw [mkT_size]; exact List.length_pos_iff.2 h
end Go.Proofs.Ytgmhhdpggnmipaa.E

namespace Go.Proofs.Ytgmhhdpggnmipaa.E
open Go.RowKit Go.Proofs
open Go.Proofs.Ytgmhhdpggnmipaa.PQ Go.Proofs.YtgmhhdpggnmipaaW.PrintWords Go.Proofs.YtgmhhdpggnmipaaW.PrintLast
set_option linter.unusedVariables false
set_option linter.unusedSimpArgs false
theorem takes14_from (x : ByteArray) (xs : List ByteArray) (hn : xs.length ≤ 9223372036854775806) : ∀ (d i k : Nat), xs.length - i = d → i ≤ xs.length → d < k → laws_takes14.l0 k x xs (xs.length : Int) (i : Int) = some (!(xs.drop i).any fun y => decide (y = x)) := by
  intro d
  induction d with
  | zero =>
    intro i k hd hi hk
    obtain ⟨k, rfl⟩ : ∃ m, k = m + 1 := ⟨k - 1, by omega⟩
    simp only [laws_takes14.l0]
    rw [if_neg (by omega), List.drop_eq_nil_of_le (by omega)]; rfl
  | succ d ih =>
    intro i k hd hi hk
    obtain ⟨k, rfl⟩ : ∃ m, k = m + 1 := ⟨k - 1, by omega⟩
    have ha : i < xs.length := by omega
    simp only [laws_takes14.l0]
    rw [if_pos (by omega), if_pos (by omega), if_pos (by omega), rdOf_nat xs ha, List.drop_eq_getElem_cons ha, List.any_cons]
    by_cases h : xs[i] = x
    · rw [if_pos (by rw [h]), decide_eq_true h]; rfl
    · rw [if_neg (fun e => h (bytes_eq_iff.1 e)), decide_eq_false h, wrapN (by omega), ih (i + 1) k (by omega) (by omega) (by omega)]; rfl
theorem takes14_f (F : List FlagP) (p q : Bool) (f : Int) (i : Nat) (hi : i < F.length) (v : Txt) (hm : F[i].bad.length ≤ 9223372036854775806) : laws_takes14.f (F[i].bad.length + 1) (F.map ofFlag) p q f (i : Int) (mkT v) = some (decide (v ∉ F[i].bad)) := by
  unfold laws_takes14.f
  have hl : (F.map ofFlag).length = F.length := List.length_map _
  rw [if_pos (by omega), if_pos (by omega), rdT_nat (F.map ofFlag) (by omega), List.getElem_map]
  have e : (ofFlag F[i]).f3 = F[i].bad.map mkT := rfl
  rw [e]
  have h := takes14_from (mkT v) (F[i].bad.map mkT) (by simpa using hm) F[i].bad.length 0 (F[i].bad.length + 1) (by simp) (by omega) (by omega)
  rw [Int.natCast_zero] at h
  refine h.trans ?_
  congr 1
  rw [List.drop_zero, List.any_map]
  generalize F[i].bad = l
  induction l with
  | nil => rfl
  | cons a r ih =>
    rw [List.any_cons]
    by_cases h : a = v
    · subst h; simp
    · have : decide (mkT a = mkT v) = false := decide_eq_false (fun e => h (by rw [← mkT_list a, e, mkT_list]))
      simp only [Function.comp, this, Bool.false_or] at ih ⊢
      rw [ih]
      apply decide_eq_decide.2
      simp only [List.mem_cons, not_or]
      exact ⟨fun q => ⟨fun e => h e.symm, q⟩, fun q => q.2⟩
theorem takes_c {w : World} {A : Option Addr} {F : List FlagP} (hA : FlagsAt w A F) (cap : Nat) (hc : F.length ≤ cap) (pl un : Bool) (k : Int) (i : Nat) (hi : i < F.length) (v : Txt) (hn : F.length ≤ 2147483647) (hm : F[i].bad.length ≤ 9223372036854775806) :
    Calls Try.prog 29 #[.agg #[.slice A F.length cap, .bool pl, .bool un, .int .i64 k], .int .i64 (i : Int), .string (mkT v)] w fun e w' => e = .returned (.bool (decide (v ∉ F[i].bad))) ∧ Below w.heap.size w w' := by
  have hl : (F.map ofFlag).length = F.length := List.length_map _
  have h := laws_takes14.calls _ A cap (F.map ofFlag) pl un k (i : Int) (mkT v) _ w (kd_flags hA (by omega)) (by rw [hl]; exact hc) (takes14_f F pl un k i hi v hm)
  rw [hl] at h
  exact h
theorem rdL5_nat (xs : List (List S57)) {i : Nat} (h : i < xs.length) : rd_L5 xs (i : Int) = xs[i] := by
  unfold rd_L5; rw [Int.toNat_natCast, getD_at _ h]
theorem given14_from (ls : List (List S57)) (hn : ls.length ≤ 2147483647) (hb : (ls.flatten).length < 5864062014805) : ∀ (d j : Nat), ls.length - j = d → j ≤ ls.length →
    laws_given14.l0 (d + 1) ((ls.take j).flatten) ls (ls.length : Int) (j : Int) = some ls.flatten := by
  intro d
  induction d with
  | zero =>
    intro j hd hj
    simp only [laws_given14.l0]
    rw [if_neg (by omega), List.take_of_length_le (by omega)]
  | succ d ih =>
    intro j hd hj
    have hlt : j < ls.length := by omega
    simp only [laws_given14.l0]
    have e : (ls.take j).flatten ++ ls[j] = (ls.take (j + 1)).flatten := by rw [List.take_succ_eq_append_getElem hlt, List.flatten_append]; simp
    have hl : ((ls.take (j + 1)).flatten).length ≤ ls.flatten.length := by
      conv => rhs; rw [← List.take_append_drop (j + 1) ls]
      rw [List.flatten_append, List.length_append]; omega
    have hl2 : ((ls.take j).flatten).length + ls[j].length = ((ls.take (j + 1)).flatten).length := by rw [← e, List.length_append]
    rw [if_pos (by omega), if_pos (by omega), if_pos (by omega), rdL5_nat ls hlt, if_pos (by omega), e, wrapN (by omega)]
    exact ih (j + 1) (by omega) (by omega)
theorem given14_f (ls : List (List S57)) (hn : ls.length ≤ 2147483647) (hb : (ls.flatten).length < 5864062014805) : laws_given14.f (ls.length + 1) ls = some ls.flatten := given14_from ls hn hb ls.length 0 (by omega) (by omega)
theorem reps_given {w : World} {base : Nat} {ok : Nat → Prop} : ∀ {G : List (Nat × Txt)} {inner : List Value}, Reps (k57.M w base ok) 2 (G.map ofG) inner → inner = gCells G := by
  intro G inner h
  obtain ⟨h1, h2⟩ := h
  have hlen : inner.length = G.length * 2 := by rw [h1, List.length_map]
  have hgl : ∀ G : List (Nat × Txt), (gCells G).length = G.length * 2 := by
    intro G
    induction G with
    | nil => rfl
    | cons a r ih =>
      unfold gCells at ih ⊢
      simp only [List.map_cons, List.flatten_cons, List.length_append, List.length_cons, List.length_nil, ih]; omega
  apply List.ext_getElem?
  intro q
  by_cases hq : q < G.length * 2
  · obtain ⟨j, i, hi, rfl⟩ : ∃ j i, i < 2 ∧ q = j * 2 + i := ⟨q / 2, q % 2, Nat.mod_lt _ (by decide), by omega⟩
    have hj : j < G.length := by omega
    have h3 := k57_openM (h2 j (ofG G[j]) (by rw [List.getElem?_map, List.getElem?_eq_getElem hj]; rfl))
    have h4 := gCells_at G j i hj hi
    rw [h4]
    have h5 : ((inner.drop (j * 2)).take 2)[i]? = inner[j * 2 + i]? := by rw [List.getElem?_take, if_pos hi, List.getElem?_drop]
    rw [← h5, h3]; rfl
  · rw [List.getElem?_eq_none (by omega), List.getElem?_eq_none (by rw [hgl]; omega)]
theorem reps_int {w : World} {base : Nat} {ok : Nat → Prop} {C : List Nat} {inner : List Value} (h : Reps ((Kd.int .i64).M w base ok) 1 (C.map fun (i : Nat) => (i : Int)) inner) : inner = iCells C := by
  obtain ⟨h1, h2⟩ := h
  have hl : inner.length = C.length := by rw [h1, List.length_map, Nat.mul_one]
  apply List.ext_getElem?
  intro j
  by_cases hj : j < C.length
  · have h3 : (inner.drop (j * 1)).take 1 = [.int .i64 (C[j] : Int)] := h2 j (C[j] : Int) (by rw [List.getElem?_map, List.getElem?_eq_getElem hj]; rfl)
    have h4 : inner[j]? = some (.int .i64 (C[j] : Int)) := by
      have := congrArg (fun l => l[0]?) h3
      simpa using this
    rw [h4]
    unfold iCells
    rw [List.getElem?_map, List.getElem?_eq_getElem hj]; rfl
  · rw [List.getElem?_eq_none (by omega), List.getElem?_eq_none (by unfold iCells; simp; omega)]
/-! ### spec.Changed -/
theorem changed_in (G : List S57) (hm : G.length ≤ 1099511627776) (out : List Int) (i n : Nat) (hi : i < 9223372036854775806) (ho : out.length < 17592186044416) (k0 : Nat) (A B : List Int)
    (hA : ∀ k, k0 ≤ k → spec_Changed.l0 k G (out ++ [(i : Int)]) (n : Int) ((i + 1 : Nat) : Int) = some A) (hB : ∀ k, k0 ≤ k → spec_Changed.l0 k G out (n : Int) ((i + 1 : Nat) : Int) = some B) :
    ∀ (d j k : Nat), G.length - j = d → j ≤ G.length → k0 + d < k → spec_Changed.l1 k G out (i : Int) (n : Int) (i : Int) G (G.length : Int) (j : Int) = some (if ((G.drop j).any fun g => decide (g.f0 = (i : Int))) = true then A else B) := by
  intro d
  induction d with
  | zero =>
    intro j k hd hj hk
    obtain ⟨k, rfl⟩ : ∃ m, k = m + 1 := ⟨k - 1, by omega⟩
    simp only [spec_Changed.l1]
    rw [if_neg (by omega), List.drop_eq_nil_of_le (by omega), wrapN (by omega), hB k (by omega)]; rfl
  | succ d ih =>
    intro j k hd hj hk
    obtain ⟨k, rfl⟩ : ∃ m, k = m + 1 := ⟨k - 1, by omega⟩
    have ha : j < G.length := by omega
    simp only [spec_Changed.l1]
    rw [if_pos (by omega), if_pos (by omega), if_pos (by omega), rdG_nat G ha, List.drop_eq_getElem_cons ha, List.any_cons]
    by_cases h : G[j].f0 = (i : Int)
    · rw [if_pos h, if_pos ho, decide_eq_true h, wrapN (by omega), hA k (by omega)]; rfl
    · rw [if_neg h, decide_eq_false h, wrapN (by omega), ih (j + 1) k (by omega) (by omega) (by omega)]; rfl
theorem changed_from (G : List S57) (hm : G.length ≤ 1099511627776) (n : Nat) (hn : n ≤ 2147483647) : ∀ (d i : Nat) (out : List Int), n - i = d → i ≤ n → out.length ≤ i →
    ∃ k0, ∀ k, k0 ≤ k → spec_Changed.l0 k G out (n : Int) (i : Int) = some (out ++ (((List.range n).drop i).filter fun (i : Nat) => G.any fun g => decide (g.f0 = (i : Int))).map fun (i : Nat) => (i : Int)) := by
  intro d
  induction d with
  | zero =>
    intro i out hd hi ho
    refine ⟨1, fun k hk => ?_⟩
    obtain ⟨k, rfl⟩ : ∃ m, k = m + 1 := ⟨k - 1, by omega⟩
    simp only [spec_Changed.l0]
    rw [if_neg (by omega), List.drop_eq_nil_of_le (by simp; omega)]; simp
  | succ d ih =>
    intro i out hd hi ho
    obtain ⟨ka, hA⟩ := ih (i + 1) (out ++ [(i : Int)]) (by omega) (by omega) (by simp; omega)
    obtain ⟨kb, hB⟩ := ih (i + 1) out (by omega) (by omega) (by omega)
    refine ⟨ka + kb + G.length + 2, fun k hk => ?_⟩
    obtain ⟨k, rfl⟩ : ∃ m, k = m + 1 := ⟨k - 1, by omega⟩
    simp only [spec_Changed.l0]
    have h := changed_in G hm out i n (by omega) (by omega) (ka + kb) _ _ (fun k h => hA k (by omega)) (fun k h => hB k (by omega)) G.length 0 k (by omega) (by omega) (by omega)
    rw [Int.natCast_zero, List.drop_zero] at h
    rw [if_pos (by omega), h]
    have hr : (List.range n).drop i = i :: (List.range n).drop (i + 1) := by
      rw [List.drop_eq_getElem_cons (by simp; omega), List.getElem_range]
    rw [hr, List.filter_cons]
    by_cases q : (G.any fun g => decide (g.f0 = (i : Int))) = true
    · rw [if_pos q, if_pos q]; simp
    · rw [if_neg q, if_neg q]
theorem changed_f (F : List S47) (p q : Bool) (f : Int) (G : List (Nat × Txt)) (hm : G.length ≤ 1099511627776) (hn : F.length ≤ 2147483647) : ∃ k, spec_Changed.f k F p q f (G.map ofG) = some ((chL (fun j => G.any fun g => g.1 == j) F.length).map fun (i : Nat) => (i : Int)) := by
  obtain ⟨k, h⟩ := changed_from (G.map ofG) (by rw [List.length_map]; exact hm) F.length hn F.length 0 [] (by omega) (by omega) (by simp)
  refine ⟨k, ?_⟩
  have h := h k (Nat.le_refl k)
  rw [Int.natCast_zero, List.drop_zero, List.nil_append] at h
  unfold spec_Changed.f
  rw [h]
  congr 2
  unfold chL
  congr 1
  funext j
  rw [List.any_map]
  congr 1
  funext g
  show decide (((g.1 : Nat) : Int) = (j : Int)) = (g.1 == j)
  by_cases e : g.1 = j
  · rw [decide_eq_true (by rw [e]), e]; simp
  · rw [decide_eq_false (by omega)]; simp [e]
/-! ### their contracts -/
/-- A list of what was given, the call's own. -/
def OwnG (w : World) (v : Value) (G : List (Nat × Txt)) : Prop := ∃ a c, v = .slice a G.length c ∧ w.ownsRow 0 57 2 v G.length (gCells G)
def OwnI (w : World) (v : Value) (C : List Nat) : Prop := ∃ a c, v = .slice a C.length c ∧ w.ownsRow 0 3 1 v C.length (iCells C)
theorem ownG_R {w : World} {base : Nat} {ok : Nat → Prop} {v : Value} {G : List (Nat × Txt)} (h : Kd.R k57 57 w base ok v (G.map ofG)) : OwnG w v G := by
  obtain ⟨_, inner, ho, hr⟩ := h
  have e := reps_given hr
  subst e
  have hl : (G.map ofG).length = G.length := List.length_map _
  rw [hl] at ho
  obtain ⟨A, c, e, _⟩ := own_row ho
  exact ⟨A, c, e, own_lower ho (Nat.zero_le _)⟩
theorem ownI_R {w : World} {base : Nat} {ok : Nat → Prop} {v : Value} {C : List Nat} (h : Kd.R (Kd.int .i64) 3 w base ok v (C.map fun (i : Nat) => (i : Int))) : OwnI w v C := by
  obtain ⟨_, inner, ho, hr⟩ := h
  have e := reps_int hr
  subst e
  have hl : (C.map fun (i : Nat) => (i : Int)).length = C.length := List.length_map _
  rw [hl] at ho
  obtain ⟨A, c, e, _⟩ := own_row ho
  exact ⟨A, c, e, own_lower ho (Nat.zero_le _)⟩
theorem changed_c {w : World} {A : Option Addr} {F : List FlagP} (hA : FlagsAt w A F) (cap : Nat) (hc : F.length ≤ cap) (pl un : Bool) (k : Int) {a : Option Addr} {c : Nat} {G : List (Nat × Txt)} (hn : F.length ≤ 2147483647) (h : RowAt w a (gCells G)) (hl : G.length ≤ c) (hm : G.length ≤ 1099511627776) :
    Calls Try.prog 21 #[.agg #[.slice A F.length cap, .bool pl, .bool un, .int .i64 k], .slice a G.length c] w fun e w' => ∃ v, e = .returned v ∧ OwnI w' v (chL (fun j => G.any fun g => g.1 == j) F.length) ∧ Below w.heap.size w w' := by
  have hfl : (F.map ofFlag).length = F.length := List.length_map _
  have hgl : (G.map ofG).length = G.length := List.length_map _
  obtain ⟨kk, hk⟩ := changed_f (F.map ofFlag) pl un k G hm (by rw [hfl]; exact hn)
  have h2 := spec_Changed.calls kk A cap (F.map ofFlag) pl un k a c (G.map ofG) _ w (kd_flags hA (by omega)) (by rw [hfl]; exact hc) (kd_given h (by omega)) (by rw [hgl]; exact hl) hk
  rw [hfl, hgl] at h2
  exact h2.mono fun e w' ⟨v, he, hr, hb⟩ => ⟨v, he, ownI_R hr, hb⟩
/-- Two lists of what was given, side by side. -/
theorem given_rows {w : World} {g : Nat} {T : TypeId} {a1 a2 : Option Addr} {c1 c2 : Nat} {G H : List (Nat × Txt)} (hg : w.heap[g]? = some (.cells #[.slice a1 G.length c1, .slice a2 H.length c2] T (0, 0))) (h1 : RowAt w a1 (gCells G)) (l1 : G.length ≤ c1) (m1 : G.length ≤ 1099511627776) (h2 : RowAt w a2 (gCells H)) (l2 : H.length ≤ c2) (m2 : H.length ≤ 1099511627776) :
    Kd.C (Kd.slice 57 k57) w (some ⟨g, 0, none⟩) 2 [G.map ofG, H.map ofG] := by
  have hgl : ∀ G : List (Nat × Txt), (G.map ofG).length = G.length := fun G => List.length_map _
  refine ⟨rfl, by (show 2 ≤ 9223372036854775807; decide), fun h0 => ⟨_, rfl, fun j p hp => ?_⟩⟩
  have key : ∀ (a : Option Addr) (c : Nat) (G : List (Nat × Txt)) (j : Nat), RowAt w a (gCells G) → G.length ≤ c → G.length ≤ 1099511627776 → w.cell? ⟨g, j, none⟩ = some (.slice a G.length c) → ∃ cs, cs.length = 1 ∧ (Kd.slice 57 k57).K w (G.map ofG) cs ∧ ∀ i u, cs[i]? = some u → w.cell? ((⟨g, 0, none⟩ : Addr).add (j * 1 + i)) = some u := by
    intro a c G j h l m hc
    refine ⟨[.slice a (G.map ofG).length c], rfl, ⟨a, c, rfl, by rw [hgl]; exact l, kd_given h (by omega)⟩, fun i u hu => ?_⟩
    have hi : i = 0 := by
      have := (List.getElem?_eq_some_iff.1 hu).1
      simp at this; exact this
    subst hi
    rw [addr_add, Nat.mul_one, Nat.add_zero, Nat.zero_add, hc]
    rw [hgl] at hu
    exact hu
  match j, hp with
  | 0, hp => obtain rfl := Option.some.inj hp; obtain ⟨cs, hs, h, hh⟩ := key a1 c1 G 0 h1 l1 m1 ((cell_blk hg 0).trans rfl); exact ⟨cs, hs, h, hh⟩
  | 1, hp => obtain rfl := Option.some.inj hp; obtain ⟨cs, hs, h, hh⟩ := key a2 c2 H 1 h2 l2 m2 ((cell_blk hg 1).trans rfl); exact ⟨cs, hs, h, hh⟩
  | j + 2, hp => simp at hp
theorem given_c {w : World} {g c : Nat} {T : TypeId} {a1 a2 : Option Addr} {c1 c2 : Nat} {G H : List (Nat × Txt)} (hg : w.heap[g]? = some (.cells #[.slice a1 G.length c1, .slice a2 H.length c2] T (0, 0))) (h1 : RowAt w a1 (gCells G)) (l1 : G.length ≤ c1) (m1 : G.length ≤ 1099511627776) (h2 : RowAt w a2 (gCells H)) (l2 : H.length ≤ c2) (m2 : H.length ≤ 1099511627776) (hc : 2 ≤ c) :
    Calls Try.prog 30 #[.slice (some ⟨g, 0, none⟩) 2 c] w fun e w' => ∃ v, e = .returned v ∧ OwnG w' v (G ++ H) ∧ Below w.heap.size w w' := by
  have hfl : [G.map ofG, H.map ofG].flatten = (G ++ H).map ofG := by simp
  have h := laws_given14.calls 3 _ c [G.map ofG, H.map ofG] _ w (given_rows hg h1 l1 m1 h2 l2 m2) hc (given14_f [G.map ofG, H.map ofG] (by (show 2 ≤ 2147483647; decide)) (by rw [hfl]; simp; omega))
  rw [hfl] at h
  exact h.mono fun e w' ⟨v, he, hr, hb⟩ => ⟨v, he, ownG_R hr, hb⟩
end Go.Proofs.Ytgmhhdpggnmipaa.E

namespace Go.Proofs.Ytgmhhdpggnmipaa.E
open Go.RowKit Go.Proofs
set_option linter.unusedVariables false
set_option linter.unusedSimpArgs false
set_option maxRecDepth 100000 in
set_option maxHeartbeats 1600000 in
theorem begin_c {w : World} {A : Option Addr} {S : SetP} (cap : Nat) :
    Calls Try.prog 19 #[.agg #[.slice A S.flags.length cap, .bool S.plain, .bool S.unknown, .int .i64 (S.fold : Int)]] w fun e w' => ∃ x, e = .returned (.pointer (some ⟨x, 0, none⟩)) ∧ RunAt w w' x S A cap st0 (.slice none 0 0) (.slice none 0 0) false := by
  go_enter Try.func19, Try.ntmps19
  go_wp2
  go_ret
  have h1 : Below w.heap.size w (w.alloc (.cells #[.slice A S.flags.length cap, .bool S.plain, .bool S.unknown, .int .i64 (S.fold : Int)] 24)) := (Below.refl _ _).alloc (Nat.le_refl _) _
  refine ⟨_, rfl, h1.alloc h1.size _, Nat.le_succ _, none, 0, ?_, World.ownsRow_nil _ _ _ _⟩
  have h := heap_alloc_new (w.alloc (.cells #[.slice A S.flags.length cap, .bool S.plain, .bool S.unknown, .int .i64 (S.fold : Int)] 24)) (.cells (rnCells S A cap st0 (.slice none 0 0) (.slice none 0 0) (.slice none 0 0) false) 41)
  have hs : (w.alloc (.cells #[.slice A S.flags.length cap, .bool S.plain, .bool S.unknown, .int .i64 (S.fold : Int)] 24)).heap.size = w.heap.size + 1 := by simp
  rw [hs] at h
  exact h
/-- impl.Long, its values to be read. -/
theorem implLong_c {w : World} {A : Option Addr} {S : SetP} (h : SetOK w A S) (cap : Nat) {v : Value} {L : List Txt} (hv : TextIn w v (L.map mkT)) (hrl : L.length ≤ 1099511627776) (t : Txt) (ht : t.length ≤ 8589934592) (hls : ∀ t ∈ L, t.length ≤ 8589934592) {st : St} {ts : List Txt} (hq : longP S none st0 (45 :: 45 :: t) L = (st, ts)) :
    Calls Try.prog 18 #[.agg #[.slice A S.flags.length cap, .bool S.plain, .bool S.unknown, .int .i64 S.fold], .string (mkT (45 :: 45 :: t)), v] w fun e w' => ∃ (ga : Option Addr) (gc : Nat) (ta : Option Addr) (tc : Nat) (ca : Option Addr) (cc : Nat) (la : Option Addr) (lc : Nat), e = .returned (.tuple #[.agg (hdCells (psOf none false st) st.err S.flags.length (.slice ga st.given.length gc) (.slice ta st.args.length tc) (.slice ca (chL (fun j => st.given.any fun g => g.1 == j) S.flags.length).length cc)), .slice la ts.length lc])
      ∧ HdRows 0 w' (psOf none false st) S.flags.length (.slice ga st.given.length gc) (.slice ta st.args.length tc) (.slice ca (chL (fun j => st.given.any fun g => g.1 == j) S.flags.length).length cc) ∧ TextIn w' (.slice la ts.length lc) (ts.map mkT) ∧ Below w.heap.size w w' := by
  obtain ⟨Ar, cr, rfl, h1, h2, h3, h4, h5⟩ := hv
  have hl : (L.map mkT).length = L.length := List.length_map _
  rw [hl] at h2
  have hp := implLong_any S h.right A cap t L Ar cr w h1 h2 h3 h4 h5 hrl ht hls h.flg h.low (Nat.le_trans h.num (by decide)) (fun i hi => Nat.le_trans (h.nsz i hi) (by decide))
  rw [hl]
  rw [hq] at hp
  refine hp.mono ?_
  rintro e w' ⟨GA, gc, AA, ac, CA, cc, LA, lc, rfl, hr, ho, hb⟩
  refine ⟨GA, gc, AA, ac, CA, cc, LA, lc, rfl, hr.mono (Nat.zero_le _), textIn_own (n := ts.length) (base := w.heap.size) ?_, hb⟩
  have e : strCells (ts.map mkT) = aCells ts := by unfold strCells aCells; rw [List.map_map]; rfl
  rw [e]; exact ho
section
variable {o : Oper} {a : Act} {w : World} {K : Act → World → Prop} {Q : Exit → Act → World → Prop}
theorem ow_nilCheck {x : Operand} {p : Addr} (ho : o.op = .nilCheck x) (hx : a.eval x = .pointer (some p)) (h : K (a.put o.dst (.pointer (some p))) w) : Oper.wp Try.prog o a w K Q := by
  unfold Oper.wp
  simp [execOp, ho, hx]
  go_simp
  exact h
theorem ow_field_run {x : Operand} {b : Nat} (ho : o.op = .fieldAddr 41 x 1) (hx : a.eval x = .pointer (some ⟨b, 0, none⟩)) (h : K (a.put o.dst (.pointer (some ⟨b, 4, none⟩))) w) : Oper.wp Try.prog o a w K Q := by
  unfold Oper.wp
  simp [execOp, ho, hx]
  go_simp
  exact h
theorem ow_field_hd4 {x : Operand} {b i : Nat} (hi : i < 11) (ho : o.op = .fieldAddr 32 x i) (hx : a.eval x = .pointer (some ⟨b, 4, none⟩)) (h : K (a.put o.dst (.pointer (some ⟨b, 4 + i, none⟩))) w) : Oper.wp Try.prog o a w K Q := by
  unfold Oper.wp
  match i, hi with
  | 0, _ => simp [execOp, ho, hx]; go_simp; exact h
  | 1, _ => simp [execOp, ho, hx]; go_simp; exact h
  | 2, _ => simp [execOp, ho, hx]; go_simp; exact h
  | 3, _ => simp [execOp, ho, hx]; go_simp; exact h
  | 4, _ => simp [execOp, ho, hx]; go_simp; exact h
  | 5, _ => simp [execOp, ho, hx]; go_simp; exact h
  | 6, _ => simp [execOp, ho, hx]; go_simp; exact h
  | 7, _ => simp [execOp, ho, hx]; go_simp; exact h
  | 8, _ => simp [execOp, ho, hx]; go_simp; exact h
  | 9, _ => simp [execOp, ho, hx]; go_simp; exact h
  | 10, _ => simp [execOp, ho, hx]; go_simp; exact h
theorem ow_store_ints {p x : Operand} {g i : Nat} {A : Option Addr} {n c : Nat} {u : Value} (ho : o.op = .store 30 p x) (hdst : o.dst = none) (hp : a.eval p = .pointer (some ⟨g, i, none⟩)) (hx : a.eval x = .slice A n c) (hc : w.cell? ⟨g, i, none⟩ = some u) (zf : w.frozen? ⟨g, i, none⟩ = false) (zl : g < w.heap.size) (h : K a (w.setCell ⟨g, i, none⟩ (.slice A n c))) : Oper.wp Try.prog o a w K Q := by
  unfold Oper.wp
  have h9 : K (a.put o.dst undef) (w.setCell ⟨g, i, none⟩ (.slice A n c)) := by rw [hdst]; exact h
  simp [execOp, ho, hx, hp]
  go_simp
  first | exact h9 | exact h
end
end Go.Proofs.Ytgmhhdpggnmipaa.E

namespace Go.Proofs.Ytgmhhdpggnmipaa.E
open Go.RowKit Go.Proofs
set_option linter.unusedVariables false
set_option linter.unusedSimpArgs false
theorem fit14_rv {w W : World} (hb : Below w.heap.size w W) {va0 : Option Addr} {van vac : Nat} {xs : List ByteArray} {z : ByteArray} (ha : TextIn w (.slice va0 van vac) xs) (hf : fits2 xs = true) (hz : z.size ≤ 2147483647) {b : Bool} (h : decide (wtBB [xs, [z]] ≤ 1048576) = b) :
    Calls Try.prog 17 #[.slice (some ⟨W.heap.size + 1, 0, none⟩) 2 2] ((W.alloc (.cells #[.string z] 9)).alloc (.cells #[.slice va0 van vac, .slice (some ⟨W.heap.size, 0, none⟩) 1 1] 25)) fun e w' => e = .returned (.bool b) ∧ Below W.heap.size W w' := by
  subst h
  have e : W.heap.size + 1 = (W.alloc (.cells #[.string z] 9)).heap.size := by simp
  rw [e]
  have hk : ∀ (V : World) (o : Obj), Below V.heap.size V (V.alloc o) := fun V o => (Below.refl _ _).alloc (Nat.le_refl _) _
  have h := fits14_c (w := (W.alloc (.cells #[.string z] 9)).alloc (.cells #[.slice va0 van vac, .slice (some ⟨W.heap.size, 0, none⟩) 1 1] 25)) (ls := [xs, [z]]) (rows2 (heap_alloc_new _ _) (((ha.below hb).below (hk _ _)).below (hk _ _)) ((one_text (heap_alloc_new W _)).below (hk _ _))) (by (show 2 ≤ 2147483647; decide)) (Nat.le_refl 2) (fun zs hzs => by
    simp only [List.mem_cons, List.not_mem_nil, or_false] at hzs
    rcases hzs with rfl | rfl
    · exact hf
    · exact fits2_iff.2 ⟨by simp, fun x hx => by rw [List.mem_singleton] at hx; rw [hx]; exact hz⟩)
  refine h.mono ?_
  rintro e w' ⟨he, hb2⟩
  have h2 := (hk W (.cells #[.string z] 9)).trans (((hk (W.alloc (.cells #[.string z] 9)) (.cells #[.slice va0 van vac, .slice (some ⟨W.heap.size, 0, none⟩) 1 1] 25))).mono (by simp))
  exact ⟨he, h2.trans (hb2.mono h2.size)⟩
theorem ext_dd (t : Txt) : (mkT (45 :: 45 :: t)).extract 0 2 = mkT [45, 45] := by
  apply ByteArray.ext
  apply Array.ext'
  rw [ext_headS]
  simp [mkT]

set_option maxRecDepth 100000 in
set_option maxHeartbeats 6400000 in
theorem lg_1 {w : World} {A : Option Addr} {F : List FlagP} (hA : FlagsAt w A F) {cap : Nat} (hc : F.length ≤ cap) (hm : cap ≤ 9223372036854775807) (pl un : Bool) (k : Int) (a : Txt) {vb : Value} {M : List Txt} (hvb : TextIn w vb (M.map mkT)) (h1 : fits20 (F.map ofFlag) = false)  :
    Calls Try.prog 3 #[.agg #[.slice A F.length cap, .bool pl, .bool un, .int .i64 k], .string (mkT a), vb] w (YesEnd w) := by
  have H19 := Lib.hid (says19 hA hc hm pl un k h1)
  have HVB := Lib.hid hvb
  obtain ⟨vb0, vbn, vbc, hvbe⟩ := hvb.slice
  clear hvb
  subst hvbe
  go_enter Try.func3, Try.ntmps3
  go_upto_region 1 with fail
  generalize hWX : w.alloc _ = WX
  have HB : Hid (Below w.heap.size w WX) := Lib.hid (by rw [← hWX]; exact (Below.refl _ _).alloc (Nat.le_refl _) _)
  have q3 : WX.heap[w.heap.size]? = some (.cells #[.slice A F.length cap, .bool pl, .bool un, .int .i64 k] 24 (0, 0)) := by rw [← hWX]; exact heap_alloc_new w _
  clear hWX
  have c0 : WX.cell? ⟨w.heap.size, 0, none⟩ = some (.slice A F.length cap) := (cell_blk q3 0).trans rfl
  have c1 : WX.cell? ⟨w.heap.size, 1, none⟩ = some (.bool pl) := (cell_blk q3 1).trans rfl
  have c2 : WX.cell? ⟨w.heap.size, 2, none⟩ = some (.bool un) := (cell_blk q3 2).trans rfl
  have c3 : WX.cell? ⟨w.heap.size, 3, none⟩ = some (.int .i64 k) := (cell_blk q3 3).trans rfl
  go_wp2_with (first | ((with_reducible go_at_call 14); (with_reducible refine Calls.mono (H19.out _ HB.out) ?_); rintro e w3 ⟨rfl, hb3⟩; have q3 := block_kept q3 hb3; have c0 := cell_kept hb3 c0; have c1 := cell_kept hb3 c1; have c2 := cell_kept hb3 c2; have c3 := cell_kept hb3 c3; have HB := Lib.hid (HB.out.trans (hb3.mono HB.out.size)); clear hb3) | ((with_reducible go_at_call 15); (with_reducible refine Calls.mono (H2.out _ HB.out) ?_); rintro e w3 ⟨rfl, hb3⟩; have q3 := block_kept q3 hb3; have c0 := cell_kept hb3 c0; have c1 := cell_kept hb3 c1; have c2 := cell_kept hb3 c2; have c3 := cell_kept hb3 c3; have HB := Lib.hid (HB.out.trans (hb3.mono HB.out.size)); clear hb3) | ((with_reducible go_at_call 16); (with_reducible refine Calls.mono (HRT.out _ HB.out) ?_); rintro e w3 ⟨rfl, hb3⟩; have q3 := block_kept q3 hb3; have c0 := cell_kept hb3 c0; have c1 := cell_kept hb3 c1; have c2 := cell_kept hb3 c2; have c3 := cell_kept hb3 c3; have HB := Lib.hid (HB.out.trans (hb3.mono HB.out.size)); clear hb3) | ((with_reducible go_at_call 17); (with_reducible refine Calls.mono (HF14.out _ HB.out) ?_); rintro e w3 ⟨rfl, hb3⟩; have q3 := block_kept q3 hb3; have c0 := cell_kept hb3 c0; have c1 := cell_kept hb3 c1; have c2 := cell_kept hb3 c2; have c3 := cell_kept hb3 c3; have HB := Lib.hid (HB.out.trans (hb3.mono HB.out.size)); clear hb3))
  go_ret
  exact yesEnd rfl HB.out

set_option maxRecDepth 100000 in
set_option maxHeartbeats 6400000 in
theorem lg_2 {w : World} {A : Option Addr} {F : List FlagP} (hA : FlagsAt w A F) {cap : Nat} (hc : F.length ≤ cap) (hm : cap ≤ 9223372036854775807) (pl un : Bool) (k : Int) (a : Txt) {vb : Value} {M : List Txt} (hvb : TextIn w vb (M.map mkT)) (h1 : fits20 (F.map ofFlag) = true) (hzv : ¬ (mkT a).size ≤ 2147483647) :
    Calls Try.prog 3 #[.agg #[.slice A F.length cap, .bool pl, .bool un, .int .i64 k], .string (mkT a), vb] w (YesEnd w) := by
  have H19 := Lib.hid (says19 hA hc hm pl un k h1)
  have hzv2 : (2147483647 : Int) < ((mkT a).size : Int) := by omega
  have HVB := Lib.hid hvb
  obtain ⟨vb0, vbn, vbc, hvbe⟩ := hvb.slice
  clear hvb
  subst hvbe
  go_enter Try.func3, Try.ntmps3
  go_upto_region 1 with fail
  generalize hWX : w.alloc _ = WX
  have HB : Hid (Below w.heap.size w WX) := Lib.hid (by rw [← hWX]; exact (Below.refl _ _).alloc (Nat.le_refl _) _)
  have q3 : WX.heap[w.heap.size]? = some (.cells #[.slice A F.length cap, .bool pl, .bool un, .int .i64 k] 24 (0, 0)) := by rw [← hWX]; exact heap_alloc_new w _
  clear hWX
  have c0 : WX.cell? ⟨w.heap.size, 0, none⟩ = some (.slice A F.length cap) := (cell_blk q3 0).trans rfl
  have c1 : WX.cell? ⟨w.heap.size, 1, none⟩ = some (.bool pl) := (cell_blk q3 1).trans rfl
  have c2 : WX.cell? ⟨w.heap.size, 2, none⟩ = some (.bool un) := (cell_blk q3 2).trans rfl
  have c3 : WX.cell? ⟨w.heap.size, 3, none⟩ = some (.int .i64 k) := (cell_blk q3 3).trans rfl
  go_wp2_with (first | ((with_reducible go_at_call 14); (with_reducible refine Calls.mono (H19.out _ HB.out) ?_); rintro e w3 ⟨rfl, hb3⟩; have q3 := block_kept q3 hb3; have c0 := cell_kept hb3 c0; have c1 := cell_kept hb3 c1; have c2 := cell_kept hb3 c2; have c3 := cell_kept hb3 c3; have HB := Lib.hid (HB.out.trans (hb3.mono HB.out.size)); clear hb3) | ((with_reducible go_at_call 15); (with_reducible refine Calls.mono (H2.out _ HB.out) ?_); rintro e w3 ⟨rfl, hb3⟩; have q3 := block_kept q3 hb3; have c0 := cell_kept hb3 c0; have c1 := cell_kept hb3 c1; have c2 := cell_kept hb3 c2; have c3 := cell_kept hb3 c3; have HB := Lib.hid (HB.out.trans (hb3.mono HB.out.size)); clear hb3) | ((with_reducible go_at_call 16); (with_reducible refine Calls.mono (HRT.out _ HB.out) ?_); rintro e w3 ⟨rfl, hb3⟩; have q3 := block_kept q3 hb3; have c0 := cell_kept hb3 c0; have c1 := cell_kept hb3 c1; have c2 := cell_kept hb3 c2; have c3 := cell_kept hb3 c3; have HB := Lib.hid (HB.out.trans (hb3.mono HB.out.size)); clear hb3) | ((with_reducible go_at_call 17); (with_reducible refine Calls.mono (HF14.out _ HB.out) ?_); rintro e w3 ⟨rfl, hb3⟩; have q3 := block_kept q3 hb3; have c0 := cell_kept hb3 c0; have c1 := cell_kept hb3 c1; have c2 := cell_kept hb3 c2; have c3 := cell_kept hb3 c3; have HB := Lib.hid (HB.out.trans (hb3.mono HB.out.size)); clear hb3))
  go_ret
  exact yesEnd rfl HB.out

set_option maxRecDepth 100000 in
set_option maxHeartbeats 6400000 in
theorem lg_3 {w : World} {A : Option Addr} {F : List FlagP} (hA : FlagsAt w A F) {cap : Nat} (hc : F.length ≤ cap) (hm : cap ≤ 9223372036854775807) (pl un : Bool) (k : Int) (a : Txt) {vb : Value} {M : List Txt} (hvb : TextIn w vb (M.map mkT)) (h1 : fits20 (F.map ofFlag) = true) (hzv : (mkT a).size ≤ 2147483647) (h2 : fits2 (M.map mkT) = false)  :
    Calls Try.prog 3 #[.agg #[.slice A F.length cap, .bool pl, .bool un, .int .i64 k], .string (mkT a), vb] w (YesEnd w) := by
  have H19 := Lib.hid (says19 hA hc hm pl un k h1)
  have hzv2 : ¬ (2147483647 : Int) < ((mkT a).size : Int) := by omega
  have H2 := Lib.hid (says2 hvb h2)
  have HVB := Lib.hid hvb
  obtain ⟨vb0, vbn, vbc, hvbe⟩ := hvb.slice
  clear hvb
  subst hvbe
  go_enter Try.func3, Try.ntmps3
  go_upto_region 1 with fail
  generalize hWX : w.alloc _ = WX
  have HB : Hid (Below w.heap.size w WX) := Lib.hid (by rw [← hWX]; exact (Below.refl _ _).alloc (Nat.le_refl _) _)
  have q3 : WX.heap[w.heap.size]? = some (.cells #[.slice A F.length cap, .bool pl, .bool un, .int .i64 k] 24 (0, 0)) := by rw [← hWX]; exact heap_alloc_new w _
  clear hWX
  have c0 : WX.cell? ⟨w.heap.size, 0, none⟩ = some (.slice A F.length cap) := (cell_blk q3 0).trans rfl
  have c1 : WX.cell? ⟨w.heap.size, 1, none⟩ = some (.bool pl) := (cell_blk q3 1).trans rfl
  have c2 : WX.cell? ⟨w.heap.size, 2, none⟩ = some (.bool un) := (cell_blk q3 2).trans rfl
  have c3 : WX.cell? ⟨w.heap.size, 3, none⟩ = some (.int .i64 k) := (cell_blk q3 3).trans rfl
  go_wp2_with (first | ((with_reducible go_at_call 14); (with_reducible refine Calls.mono (H19.out _ HB.out) ?_); rintro e w3 ⟨rfl, hb3⟩; have q3 := block_kept q3 hb3; have c0 := cell_kept hb3 c0; have c1 := cell_kept hb3 c1; have c2 := cell_kept hb3 c2; have c3 := cell_kept hb3 c3; have HB := Lib.hid (HB.out.trans (hb3.mono HB.out.size)); clear hb3) | ((with_reducible go_at_call 15); (with_reducible refine Calls.mono (H2.out _ HB.out) ?_); rintro e w3 ⟨rfl, hb3⟩; have q3 := block_kept q3 hb3; have c0 := cell_kept hb3 c0; have c1 := cell_kept hb3 c1; have c2 := cell_kept hb3 c2; have c3 := cell_kept hb3 c3; have HB := Lib.hid (HB.out.trans (hb3.mono HB.out.size)); clear hb3) | ((with_reducible go_at_call 16); (with_reducible refine Calls.mono (HRT.out _ HB.out) ?_); rintro e w3 ⟨rfl, hb3⟩; have q3 := block_kept q3 hb3; have c0 := cell_kept hb3 c0; have c1 := cell_kept hb3 c1; have c2 := cell_kept hb3 c2; have c3 := cell_kept hb3 c3; have HB := Lib.hid (HB.out.trans (hb3.mono HB.out.size)); clear hb3) | ((with_reducible go_at_call 17); (with_reducible refine Calls.mono (HF14.out _ HB.out) ?_); rintro e w3 ⟨rfl, hb3⟩; have q3 := block_kept q3 hb3; have c0 := cell_kept hb3 c0; have c1 := cell_kept hb3 c1; have c2 := cell_kept hb3 c2; have c3 := cell_kept hb3 c3; have HB := Lib.hid (HB.out.trans (hb3.mono HB.out.size)); clear hb3))
  go_ret
  exact yesEnd rfl HB.out

set_option maxRecDepth 100000 in
set_option maxHeartbeats 6400000 in
theorem lg_4 {w : World} {A : Option Addr} {F : List FlagP} (hA : FlagsAt w A F) {cap : Nat} (hc : F.length ≤ cap) (hm : cap ≤ 9223372036854775807) (pl un : Bool) (k : Int) (a : Txt) {vb : Value} {M : List Txt} (hvb : TextIn w vb (M.map mkT)) (h1 : fits20 (F.map ofFlag) = true) (hzv : (mkT a).size ≤ 2147483647) (h2 : fits2 (M.map mkT) = true) (h3 : RightK F k = false)  :
    Calls Try.prog 3 #[.agg #[.slice A F.length cap, .bool pl, .bool un, .int .i64 k], .string (mkT a), vb] w (YesEnd w) := by
  have H19 := Lib.hid (says19 hA hc hm pl un k h1)
  have hzv2 : ¬ (2147483647 : Int) < ((mkT a).size : Int) := by omega
  have H2 := Lib.hid (says2 hvb h2)
  have HRT := Lib.hid (saysR hA cap pl un k h1 h3)
  have HVB := Lib.hid hvb
  obtain ⟨vb0, vbn, vbc, hvbe⟩ := hvb.slice
  clear hvb
  subst hvbe
  go_enter Try.func3, Try.ntmps3
  go_upto_region 1 with fail
  generalize hWX : w.alloc _ = WX
  have HB : Hid (Below w.heap.size w WX) := Lib.hid (by rw [← hWX]; exact (Below.refl _ _).alloc (Nat.le_refl _) _)
  have q3 : WX.heap[w.heap.size]? = some (.cells #[.slice A F.length cap, .bool pl, .bool un, .int .i64 k] 24 (0, 0)) := by rw [← hWX]; exact heap_alloc_new w _
  clear hWX
  have c0 : WX.cell? ⟨w.heap.size, 0, none⟩ = some (.slice A F.length cap) := (cell_blk q3 0).trans rfl
  have c1 : WX.cell? ⟨w.heap.size, 1, none⟩ = some (.bool pl) := (cell_blk q3 1).trans rfl
  have c2 : WX.cell? ⟨w.heap.size, 2, none⟩ = some (.bool un) := (cell_blk q3 2).trans rfl
  have c3 : WX.cell? ⟨w.heap.size, 3, none⟩ = some (.int .i64 k) := (cell_blk q3 3).trans rfl
  go_wp2_with (first | ((with_reducible go_at_call 14); (with_reducible refine Calls.mono (H19.out _ HB.out) ?_); rintro e w3 ⟨rfl, hb3⟩; have q3 := block_kept q3 hb3; have c0 := cell_kept hb3 c0; have c1 := cell_kept hb3 c1; have c2 := cell_kept hb3 c2; have c3 := cell_kept hb3 c3; have HB := Lib.hid (HB.out.trans (hb3.mono HB.out.size)); clear hb3) | ((with_reducible go_at_call 15); (with_reducible refine Calls.mono (H2.out _ HB.out) ?_); rintro e w3 ⟨rfl, hb3⟩; have q3 := block_kept q3 hb3; have c0 := cell_kept hb3 c0; have c1 := cell_kept hb3 c1; have c2 := cell_kept hb3 c2; have c3 := cell_kept hb3 c3; have HB := Lib.hid (HB.out.trans (hb3.mono HB.out.size)); clear hb3) | ((with_reducible go_at_call 16); (with_reducible refine Calls.mono (HRT.out _ HB.out) ?_); rintro e w3 ⟨rfl, hb3⟩; have q3 := block_kept q3 hb3; have c0 := cell_kept hb3 c0; have c1 := cell_kept hb3 c1; have c2 := cell_kept hb3 c2; have c3 := cell_kept hb3 c3; have HB := Lib.hid (HB.out.trans (hb3.mono HB.out.size)); clear hb3) | ((with_reducible go_at_call 17); (with_reducible refine Calls.mono (HF14.out _ HB.out) ?_); rintro e w3 ⟨rfl, hb3⟩; have q3 := block_kept q3 hb3; have c0 := cell_kept hb3 c0; have c1 := cell_kept hb3 c1; have c2 := cell_kept hb3 c2; have c3 := cell_kept hb3 c3; have HB := Lib.hid (HB.out.trans (hb3.mono HB.out.size)); clear hb3))
  go_ret
  exact yesEnd rfl HB.out

set_option maxRecDepth 100000 in
set_option maxHeartbeats 6400000 in
theorem lg_5 {w : World} {A : Option Addr} {F : List FlagP} (hA : FlagsAt w A F) {cap : Nat} (hc : F.length ≤ cap) (hm : cap ≤ 9223372036854775807) (pl un : Bool) (k : Int) (a : Txt) {vb : Value} {M : List Txt} (hvb : TextIn w vb (M.map mkT)) (h1 : fits20 (F.map ofFlag) = true) (hzv : (mkT a).size ≤ 2147483647) (h2 : fits2 (M.map mkT) = true) (h3 : RightK F k = true) (h4 : decide (wtBB [M.map mkT, [mkT a]] ≤ 1048576) = false)  :
    Calls Try.prog 3 #[.agg #[.slice A F.length cap, .bool pl, .bool un, .int .i64 k], .string (mkT a), vb] w (YesEnd w) := by
  have H19 := Lib.hid (says19 hA hc hm pl un k h1)
  have hzv2 : ¬ (2147483647 : Int) < ((mkT a).size : Int) := by omega
  have H2 := Lib.hid (says2 hvb h2)
  have HRT := Lib.hid (saysR hA cap pl un k h1 h3)
  have HVB := Lib.hid hvb
  obtain ⟨vb0, vbn, vbc, hvbe⟩ := hvb.slice
  clear hvb
  subst hvbe
  have HF14 := Lib.hid (fun (W : World) (hb : Below w.heap.size w W) => fit14_rv hb HVB.out h2 hzv h4)
  go_enter Try.func3, Try.ntmps3
  go_upto_region 1 with fail
  generalize hWX : w.alloc _ = WX
  have HB : Hid (Below w.heap.size w WX) := Lib.hid (by rw [← hWX]; exact (Below.refl _ _).alloc (Nat.le_refl _) _)
  have q3 : WX.heap[w.heap.size]? = some (.cells #[.slice A F.length cap, .bool pl, .bool un, .int .i64 k] 24 (0, 0)) := by rw [← hWX]; exact heap_alloc_new w _
  clear hWX
  have c0 : WX.cell? ⟨w.heap.size, 0, none⟩ = some (.slice A F.length cap) := (cell_blk q3 0).trans rfl
  have c1 : WX.cell? ⟨w.heap.size, 1, none⟩ = some (.bool pl) := (cell_blk q3 1).trans rfl
  have c2 : WX.cell? ⟨w.heap.size, 2, none⟩ = some (.bool un) := (cell_blk q3 2).trans rfl
  have c3 : WX.cell? ⟨w.heap.size, 3, none⟩ = some (.int .i64 k) := (cell_blk q3 3).trans rfl
  go_wp2_with (first | ((with_reducible go_at_call 14); (with_reducible refine Calls.mono (H19.out _ HB.out) ?_); rintro e w3 ⟨rfl, hb3⟩; have q3 := block_kept q3 hb3; have c0 := cell_kept hb3 c0; have c1 := cell_kept hb3 c1; have c2 := cell_kept hb3 c2; have c3 := cell_kept hb3 c3; have HB := Lib.hid (HB.out.trans (hb3.mono HB.out.size)); clear hb3) | ((with_reducible go_at_call 15); (with_reducible refine Calls.mono (H2.out _ HB.out) ?_); rintro e w3 ⟨rfl, hb3⟩; have q3 := block_kept q3 hb3; have c0 := cell_kept hb3 c0; have c1 := cell_kept hb3 c1; have c2 := cell_kept hb3 c2; have c3 := cell_kept hb3 c3; have HB := Lib.hid (HB.out.trans (hb3.mono HB.out.size)); clear hb3) | ((with_reducible go_at_call 16); (with_reducible refine Calls.mono (HRT.out _ HB.out) ?_); rintro e w3 ⟨rfl, hb3⟩; have q3 := block_kept q3 hb3; have c0 := cell_kept hb3 c0; have c1 := cell_kept hb3 c1; have c2 := cell_kept hb3 c2; have c3 := cell_kept hb3 c3; have HB := Lib.hid (HB.out.trans (hb3.mono HB.out.size)); clear hb3) | ((with_reducible go_at_call 17); (with_reducible refine Calls.mono (HF14.out _ HB.out) ?_); rintro e w3 ⟨rfl, hb3⟩; have q3 := block_kept q3 hb3; have c0 := cell_kept hb3 c0; have c1 := cell_kept hb3 c1; have c2 := cell_kept hb3 c2; have c3 := cell_kept hb3 c3; have HB := Lib.hid (HB.out.trans (hb3.mono HB.out.size)); clear hb3))
  go_ret
  exact yesEnd rfl HB.out

set_option maxRecDepth 100000 in
set_option maxHeartbeats 6400000 in
theorem lg_6 {w : World} {A : Option Addr} {F : List FlagP} (hA : FlagsAt w A F) {cap : Nat} (hc : F.length ≤ cap) (hm : cap ≤ 9223372036854775807) (pl un : Bool) (k : Int) (a : Txt) {vb : Value} {M : List Txt} (hvb : TextIn w vb (M.map mkT)) (h1 : fits20 (F.map ofFlag) = true) (hzv : (mkT a).size ≤ 2147483647) (h2 : fits2 (M.map mkT) = true) (h3 : RightK F k = true) (h4 : decide (wtBB [M.map mkT, [mkT a]] ≤ 1048576) = true) (h5 : (mkT a).size < 3) :
    Calls Try.prog 3 #[.agg #[.slice A F.length cap, .bool pl, .bool un, .int .i64 k], .string (mkT a), vb] w (YesEnd w) := by
  have H19 := Lib.hid (says19 hA hc hm pl un k h1)
  have hzv2 : ¬ (2147483647 : Int) < ((mkT a).size : Int) := by omega
  have H2 := Lib.hid (says2 hvb h2)
  have HRT := Lib.hid (saysR hA cap pl un k h1 h3)
  have HVB := Lib.hid hvb
  obtain ⟨vb0, vbn, vbc, hvbe⟩ := hvb.slice
  clear hvb
  subst hvbe
  have HF14 := Lib.hid (fun (W : World) (hb : Below w.heap.size w W) => fit14_rv hb HVB.out h2 hzv h4)
  have hz3 : ((mkT a).size : Int) < 3 := by omega
  go_enter Try.func3, Try.ntmps3
  go_upto_region 1 with fail
  generalize hWX : w.alloc _ = WX
  have HB : Hid (Below w.heap.size w WX) := Lib.hid (by rw [← hWX]; exact (Below.refl _ _).alloc (Nat.le_refl _) _)
  have q3 : WX.heap[w.heap.size]? = some (.cells #[.slice A F.length cap, .bool pl, .bool un, .int .i64 k] 24 (0, 0)) := by rw [← hWX]; exact heap_alloc_new w _
  clear hWX
  have c0 : WX.cell? ⟨w.heap.size, 0, none⟩ = some (.slice A F.length cap) := (cell_blk q3 0).trans rfl
  have c1 : WX.cell? ⟨w.heap.size, 1, none⟩ = some (.bool pl) := (cell_blk q3 1).trans rfl
  have c2 : WX.cell? ⟨w.heap.size, 2, none⟩ = some (.bool un) := (cell_blk q3 2).trans rfl
  have c3 : WX.cell? ⟨w.heap.size, 3, none⟩ = some (.int .i64 k) := (cell_blk q3 3).trans rfl
  go_wp2_with (first | ((with_reducible go_at_call 14); (with_reducible refine Calls.mono (H19.out _ HB.out) ?_); rintro e w3 ⟨rfl, hb3⟩; have q3 := block_kept q3 hb3; have c0 := cell_kept hb3 c0; have c1 := cell_kept hb3 c1; have c2 := cell_kept hb3 c2; have c3 := cell_kept hb3 c3; have HB := Lib.hid (HB.out.trans (hb3.mono HB.out.size)); clear hb3) | ((with_reducible go_at_call 15); (with_reducible refine Calls.mono (H2.out _ HB.out) ?_); rintro e w3 ⟨rfl, hb3⟩; have q3 := block_kept q3 hb3; have c0 := cell_kept hb3 c0; have c1 := cell_kept hb3 c1; have c2 := cell_kept hb3 c2; have c3 := cell_kept hb3 c3; have HB := Lib.hid (HB.out.trans (hb3.mono HB.out.size)); clear hb3) | ((with_reducible go_at_call 16); (with_reducible refine Calls.mono (HRT.out _ HB.out) ?_); rintro e w3 ⟨rfl, hb3⟩; have q3 := block_kept q3 hb3; have c0 := cell_kept hb3 c0; have c1 := cell_kept hb3 c1; have c2 := cell_kept hb3 c2; have c3 := cell_kept hb3 c3; have HB := Lib.hid (HB.out.trans (hb3.mono HB.out.size)); clear hb3) | ((with_reducible go_at_call 17); (with_reducible refine Calls.mono (HF14.out _ HB.out) ?_); rintro e w3 ⟨rfl, hb3⟩; have q3 := block_kept q3 hb3; have c0 := cell_kept hb3 c0; have c1 := cell_kept hb3 c1; have c2 := cell_kept hb3 c2; have c3 := cell_kept hb3 c3; have HB := Lib.hid (HB.out.trans (hb3.mono HB.out.size)); clear hb3))
  go_ret
  exact yesEnd rfl HB.out

set_option maxRecDepth 100000 in
set_option maxHeartbeats 6400000 in
theorem lg_7 {w : World} {A : Option Addr} {F : List FlagP} (hA : FlagsAt w A F) {cap : Nat} (hc : F.length ≤ cap) (hm : cap ≤ 9223372036854775807) (pl un : Bool) (k : Int) (a : Txt) {vb : Value} {M : List Txt} (hvb : TextIn w vb (M.map mkT)) (h1 : fits20 (F.map ofFlag) = true) (hzv : (mkT a).size ≤ 2147483647) (h2 : fits2 (M.map mkT) = true) (h3 : RightK F k = true) (h4 : decide (wtBB [M.map mkT, [mkT a]] ≤ 1048576) = true) (h5 : ¬ (mkT a).size < 3) (h6 : ((mkT a).extract 0 2).toList ≠ [45, 45]) :
    Calls Try.prog 3 #[.agg #[.slice A F.length cap, .bool pl, .bool un, .int .i64 k], .string (mkT a), vb] w (YesEnd w) := by
  have H19 := Lib.hid (says19 hA hc hm pl un k h1)
  have hzv2 : ¬ (2147483647 : Int) < ((mkT a).size : Int) := by omega
  have H2 := Lib.hid (says2 hvb h2)
  have HRT := Lib.hid (saysR hA cap pl un k h1 h3)
  have HVB := Lib.hid hvb
  obtain ⟨vb0, vbn, vbc, hvbe⟩ := hvb.slice
  clear hvb
  subst hvbe
  have HF14 := Lib.hid (fun (W : World) (hb : Below w.heap.size w W) => fit14_rv hb HVB.out h2 hzv h4)
  have hz3 : ¬ ((mkT a).size : Int) < 3 := by omega
  have hz4 : (2 : Int) ≤ ((mkT a).size : Int) := by omega
  have hz5 : 2 ≤ (mkT a).size := by omega
  have hz6 : (((mkT a).extract 0 2).toList == [45, 45]) = false := by simpa using h6
  go_enter Try.func3, Try.ntmps3
  go_upto_region 1 with fail
  generalize hWX : w.alloc _ = WX
  have HB : Hid (Below w.heap.size w WX) := Lib.hid (by rw [← hWX]; exact (Below.refl _ _).alloc (Nat.le_refl _) _)
  have q3 : WX.heap[w.heap.size]? = some (.cells #[.slice A F.length cap, .bool pl, .bool un, .int .i64 k] 24 (0, 0)) := by rw [← hWX]; exact heap_alloc_new w _
  clear hWX
  have c0 : WX.cell? ⟨w.heap.size, 0, none⟩ = some (.slice A F.length cap) := (cell_blk q3 0).trans rfl
  have c1 : WX.cell? ⟨w.heap.size, 1, none⟩ = some (.bool pl) := (cell_blk q3 1).trans rfl
  have c2 : WX.cell? ⟨w.heap.size, 2, none⟩ = some (.bool un) := (cell_blk q3 2).trans rfl
  have c3 : WX.cell? ⟨w.heap.size, 3, none⟩ = some (.int .i64 k) := (cell_blk q3 3).trans rfl
  go_wp2_with (first | ((with_reducible go_at_call 14); (with_reducible refine Calls.mono (H19.out _ HB.out) ?_); rintro e w3 ⟨rfl, hb3⟩; have q3 := block_kept q3 hb3; have c0 := cell_kept hb3 c0; have c1 := cell_kept hb3 c1; have c2 := cell_kept hb3 c2; have c3 := cell_kept hb3 c3; have HB := Lib.hid (HB.out.trans (hb3.mono HB.out.size)); clear hb3) | ((with_reducible go_at_call 15); (with_reducible refine Calls.mono (H2.out _ HB.out) ?_); rintro e w3 ⟨rfl, hb3⟩; have q3 := block_kept q3 hb3; have c0 := cell_kept hb3 c0; have c1 := cell_kept hb3 c1; have c2 := cell_kept hb3 c2; have c3 := cell_kept hb3 c3; have HB := Lib.hid (HB.out.trans (hb3.mono HB.out.size)); clear hb3) | ((with_reducible go_at_call 16); (with_reducible refine Calls.mono (HRT.out _ HB.out) ?_); rintro e w3 ⟨rfl, hb3⟩; have q3 := block_kept q3 hb3; have c0 := cell_kept hb3 c0; have c1 := cell_kept hb3 c1; have c2 := cell_kept hb3 c2; have c3 := cell_kept hb3 c3; have HB := Lib.hid (HB.out.trans (hb3.mono HB.out.size)); clear hb3) | ((with_reducible go_at_call 17); (with_reducible refine Calls.mono (HF14.out _ HB.out) ?_); rintro e w3 ⟨rfl, hb3⟩; have q3 := block_kept q3 hb3; have c0 := cell_kept hb3 c0; have c1 := cell_kept hb3 c1; have c2 := cell_kept hb3 c2; have c3 := cell_kept hb3 c3; have HB := Lib.hid (HB.out.trans (hb3.mono HB.out.size)); clear hb3))
  go_ret
  exact yesEnd rfl HB.out
def L8 (sv : Value) (S : SetP) (xr : Nat) (GA : Option Addr) (gc2 : Nat) (gv : List (Nat × Txt)) : Nat → Value → World → Prop
  | 0, v, _ => v = .pointer (some ⟨xr, 0, none⟩)
  | 1, v, _ => v = sv
  | 2, v, _ => v = .pointer (some ⟨xr, 0, none⟩)
  | 3, v, _ => v = .pointer (some ⟨xr, 0, none⟩)
  | 4, v, _ => v = .pointer (some ⟨xr, 4, none⟩)
  | 5, v, _ => v = .pointer (some ⟨xr, 9, none⟩)
  | 6, v, _ => v = .slice GA gv.length gc2
  | 7, v, w => OwnI w v (chL (fun j => gv.any fun g => g.1 == j) S.flags.length)
  | 8, v, _ => v = .pointer (some ⟨xr, 0, none⟩)
  | 9, v, _ => v = .pointer (some ⟨xr, 4, none⟩)
  | 10, v, _ => v = .pointer (some ⟨xr, 12, none⟩)
  | _, _, _ => True
theorem L8.below {sv : Value} {S : SetP} {xr : Nat} {GA : Option Addr} {gc2 : Nat} {gv : List (Nat × Txt)} {ix : Nat} (hix : ix < 11) {v : Value} {w w' : World} (h : L8 sv S xr GA gc2 gv ix v w) (hb : Below w.heap.size w w') : L8 sv S xr GA gc2 gv ix v w' := by
  match ix, hix, h with
  | 0, _, h => exact h
  | 1, _, h => exact h
  | 2, _, h => exact h
  | 3, _, h => exact h
  | 4, _, h => exact h
  | 5, _, h => exact h
  | 6, _, h => exact h
  | 7, _, h => obtain ⟨a, c, e, h⟩ := h; exact ⟨a, c, e, own_kept h hb⟩
  | 8, _, h => exact h
  | 9, _, h => exact h
  | 10, _, h => exact h

set_option maxRecDepth 100000 in
set_option maxHeartbeats 12800000 in
theorem lg_8 {w : World} {A : Option Addr} {S : SetP} (hS : SetOK w A S) {cap : Nat} (hc : S.flags.length ≤ cap) (hm : cap ≤ 9223372036854775807) (t : Txt) {vb : Value} {M : List Txt} (hvb : TextIn w vb (M.map mkT)) (h1 : fits20 (S.flags.map ofFlag) = true) (hzv : (mkT (45 :: 45 :: t)).size ≤ 2147483647) (h2 : fits2 (M.map mkT) = true) (h3 : RightK S.flags S.fold = true)
    (h4 : decide (wtBB [M.map mkT, [mkT (45 :: 45 :: t)]] ≤ 1048576) = true) (h5 : ¬ (mkT (45 :: 45 :: t)).size < 3) :
    Calls Try.prog 3 #[.agg #[.slice A S.flags.length cap, .bool S.plain, .bool S.unknown, .int .i64 S.fold], .string (mkT (45 :: 45 :: t)), vb] w (YesEnd w) := by
  have hwt : wt M + (45 :: 45 :: t).length + 1 ≤ 1048576 := by
    have h := of_decide_eq_true h4
    simp only [wtBB, wtB, wt_map, mkT_size] at h; omega
  have htl : t.length ≤ 1048576 := by simp at hwt; omega
  have hwl := wt_len M
  have H19 := Lib.hid (says19 hS.flg hc hm S.plain S.unknown S.fold h1)
  have H2 := Lib.hid (says2 hvb h2)
  have HRT := Lib.hid (saysR hS.flg cap S.plain S.unknown S.fold h1 h3)
  have hl1 : ∀ x ∈ M, x.length ≤ 8589934592 := fun x hx => by have := wt_mem hx; omega
  have hgr := longP_grow S none st0 (45 :: 45 :: t) M
  have har := longP_args S none st0 (45 :: 45 :: t) M
  obtain ⟨q, hq⟩ : ∃ q, longP S none st0 (45 :: 45 :: t) M = q := ⟨_, rfl⟩
  rw [hq] at hgr har
  obtain ⟨⟨gv, ar, dsh, er⟩, ts⟩ := q
  have har2 : ar = [] := har
  clear har
  subst har2
  have hgl : gv.length ≤ 1 := hgr.1
  have htsl : ts.length ≤ 1048576 := by have h9 : ts.length ≤ M.length := hgr.2.length_le; omega
  clear hgr
  have HLO := Lib.hid (fun (W : World) (hb : Below w.heap.size w W) => implLong_c (hS.below hb) cap (hvb.below hb) (by omega) t (by omega) hl1 hq)
  have HRL := Lib.hid (fun (W W2 : World) (x : Nat) (hb : Below w.heap.size w W) (hr : RunAt W W2 x S A cap st0 (.slice none 0 0) (.slice none 0 0) false) => (show Calls Try.prog 20 #[.pointer (some ⟨x, 0, none⟩), .string (mkT (45 :: 45 :: t)), vb] W2 (StepS W x S A cap (.slice none 0 0) (.slice none 0 0) false (⟨gv, [], dsh, er⟩, ts)) from by
    have h := longS_any hr rfl (hS.flg.below hb) hS.right hS.num (fun f hf => by obtain ⟨i, hi, rfl⟩ := List.mem_iff_getElem.1 hf; exact hS.nsz i hi) (Nat.zero_le _) (restAt_of (S := S) (hvb.below hb)) (by omega) t (by omega)
    rw [hq] at h; exact h))
  have hnum := hS.num
  have HCH := Lib.hid (fun (W : World) (hb : Below w.heap.size w W) (a : Option Addr) (c : Nat) (h : RowAt W a (gCells gv)) (hl : gv.length ≤ c) => changed_c (hS.flg.below hb) cap hc S.plain S.unknown S.fold hnum h hl (by omega))
  have HNUM := Lib.hid (And.intro hnum (And.intro hgl htsl))
  have hzv2 : ¬ (2147483647 : Int) < ((mkT (45 :: 45 :: t)).size : Int) := by omega
  have hz3 : ¬ ((mkT (45 :: 45 :: t)).size : Int) < 3 := by omega
  have hz4 : (2 : Int) ≤ ((mkT (45 :: 45 :: t)).size : Int) := by omega
  have hz5 : 2 ≤ (mkT (45 :: 45 :: t)).size := by omega
  have hz6 : (((mkT (45 :: 45 :: t)).extract 0 2).toList == [45, 45]) = true := by rw [ext_dd, mkT_toList]; rfl
  have HVB := Lib.hid hvb
  obtain ⟨vb0, vbn, vbc, hvbe⟩ := hvb.slice
  clear hvb
  subst hvbe
  have HF14 := Lib.hid (fun (W : World) (hb : Below w.heap.size w W) => fit14_rv hb HVB.out h2 hzv h4)
  clear hS h1 h3 h4 h5 hq hl1 hwl hwt htl hnum hgl htsl
  generalize mkT (45 :: 45 :: t) = s at *
  go_enter Try.func3, Try.ntmps3
  go_upto_region 1 with fail
  generalize hWX : w.alloc _ = WX
  have HB : Hid (Below w.heap.size w WX) := Lib.hid (by rw [← hWX]; exact (Below.refl _ _).alloc (Nat.le_refl _) _)
  have q3 : WX.heap[w.heap.size]? = some (.cells #[.slice A S.flags.length cap, .bool S.plain, .bool S.unknown, .int .i64 S.fold] 24 (0, 0)) := by rw [← hWX]; exact heap_alloc_new w _
  clear hWX
  have c0 : WX.cell? ⟨w.heap.size, 0, none⟩ = some (.slice A S.flags.length cap) := (cell_blk q3 0).trans rfl
  have c1 : WX.cell? ⟨w.heap.size, 1, none⟩ = some (.bool S.plain) := (cell_blk q3 1).trans rfl
  have c2 : WX.cell? ⟨w.heap.size, 2, none⟩ = some (.bool S.unknown) := (cell_blk q3 2).trans rfl
  have c3 : WX.cell? ⟨w.heap.size, 3, none⟩ = some (.int .i64 S.fold) := (cell_blk q3 3).trans rfl
  go_upto_region 6 with (first | ((with_reducible go_at_call 14); (with_reducible refine Calls.mono (H19.out _ HB.out) ?_); rintro e w3 ⟨rfl, hb3⟩; have q3 := block_kept q3 hb3; have c0 := cell_kept hb3 c0; have c1 := cell_kept hb3 c1; have c2 := cell_kept hb3 c2; have c3 := cell_kept hb3 c3; have HB := Lib.hid (HB.out.trans (hb3.mono HB.out.size)); clear hb3) | ((with_reducible go_at_call 15); (with_reducible refine Calls.mono (H2.out _ HB.out) ?_); rintro e w3 ⟨rfl, hb3⟩; have q3 := block_kept q3 hb3; have c0 := cell_kept hb3 c0; have c1 := cell_kept hb3 c1; have c2 := cell_kept hb3 c2; have c3 := cell_kept hb3 c3; have HB := Lib.hid (HB.out.trans (hb3.mono HB.out.size)); clear hb3) | ((with_reducible go_at_call 16); (with_reducible refine Calls.mono (HRT.out _ HB.out) ?_); rintro e w3 ⟨rfl, hb3⟩; have q3 := block_kept q3 hb3; have c0 := cell_kept hb3 c0; have c1 := cell_kept hb3 c1; have c2 := cell_kept hb3 c2; have c3 := cell_kept hb3 c3; have HB := Lib.hid (HB.out.trans (hb3.mono HB.out.size)); clear hb3) | ((with_reducible go_at_call 17); (with_reducible refine Calls.mono (HF14.out _ HB.out) ?_); rintro e w3 ⟨rfl, hb3⟩; have q3 := block_kept q3 hb3; have c0 := cell_kept hb3 c0; have c1 := cell_kept hb3 c1; have c2 := cell_kept hb3 c2; have c3 := cell_kept hb3 c3; have HB := Lib.hid (HB.out.trans (hb3.mono HB.out.size)); clear hb3) | ((with_reducible go_at_call 18); (with_reducible refine Calls.mono (HLO.out _ HB.out) ?_); rintro e w3 ⟨ga, gc, ta, tc, ca, cc, la, lc, rfl, ho3, hl3, hb3⟩; have q3 := block_kept q3 hb3; have c0 := cell_kept hb3 c0; have c1 := cell_kept hb3 c1; have c2 := cell_kept hb3 c2; have c3 := cell_kept hb3 c3; have HB := Lib.hid (HB.out.trans (hb3.mono HB.out.size)); clear hb3; unfold hdCells))
  have hg7 := heap_alloc_new w3 (.cells #[.int .i64 (eNo er), .string (mkT (eName er)), .string (mkT (eShort er)), .string (mkT (eVal er)), .int .i64 (eFlag er), .slice ga gv.length gc, .slice ta 0 tc, .int .i64 dsh, .slice ca (chL (fun j => gv.any fun g => g.1 == j) S.flags.length).length cc, .bool false, .bool false] 32)
  have hb7 : Below w3.heap.size w3 (w3.alloc (.cells #[.int .i64 (eNo er), .string (mkT (eName er)), .string (mkT (eShort er)), .string (mkT (eVal er)), .int .i64 (eFlag er), .slice ga gv.length gc, .slice ta 0 tc, .int .i64 dsh, .slice ca (chL (fun j => gv.any fun g => g.1 == j) S.flags.length).length cc, .bool false, .bool false] 32)) := (Below.refl _ _).alloc (Nat.le_refl _) _
  change Code.wp _ _ _ _ (w3.alloc (.cells #[.int .i64 (eNo er), .string (mkT (eName er)), .string (mkT (eShort er)), .string (mkT (eVal er)), .int .i64 (eFlag er), .slice ga gv.length gc, .slice ta 0 tc, .int .i64 dsh, .slice ca (chL (fun j => gv.any fun g => g.1 == j) S.flags.length).length cc, .bool false, .bool false] 32))
  generalize w3.alloc (.cells #[.int .i64 (eNo er), .string (mkT (eName er)), .string (mkT (eShort er)), .string (mkT (eVal er)), .int .i64 (eFlag er), .slice ga gv.length gc, .slice ta 0 tc, .int .i64 dsh, .slice ca (chL (fun j => gv.any fun g => g.1 == j) S.flags.length).length cc, .bool false, .bool false] 32) = U0 at hg7 hb7 ⊢
  have HR1 : Hid (HdRows 0 U0 (psOf none false (⟨gv, [], dsh, er⟩ : St)) S.flags.length (.slice ga gv.length gc) (.slice ta 0 tc) (.slice ca (chL (fun j => gv.any fun g => g.1 == j) S.flags.length).length cc)) := Lib.hid (ho3.below hb7)
  have HL1 : Hid (TextIn U0 (.slice la ts.length lc) (ts.map mkT)) := Lib.hid (hl3.below hb7)
  have q3 := block_kept q3 hb7
  have HB : Hid (Below w.heap.size w U0) := Lib.hid (HB.out.trans (hb7.mono HB.out.size))
  clear c0 c1 c2 c3 hb7 ho3 hl3 HLO HF14 H19 H2 HRT
  generalize w3.heap.size = g7 at hg7 ⊢
  have c0 : U0.cell? ⟨w.heap.size, 0, none⟩ = some (.slice A S.flags.length cap) := (cell_blk q3 0).trans rfl
  have c1 : U0.cell? ⟨w.heap.size, 1, none⟩ = some (.bool S.plain) := (cell_blk q3 1).trans rfl
  have c2 : U0.cell? ⟨w.heap.size, 2, none⟩ = some (.bool S.unknown) := (cell_blk q3 2).trans rfl
  have c3 : U0.cell? ⟨w.heap.size, 3, none⟩ = some (.int .i64 S.fold) := (cell_blk q3 3).trans rfl
  have HG7 := Lib.hid hg7
  clear hg7
  go_upto_region 7 with ((with_reducible go_at_call 19); (with_reducible refine Calls.mono (begin_c cap) ?_); rintro e w4 ⟨xr, rfl, hrun⟩)
  have HRN := Lib.hid hrun
  clear hrun c0 c1 c2 c3
  go_upto_region 8 with ((with_reducible go_at_call 20); (with_reducible refine Calls.mono (HRL.out U0 _ xr HB.out HRN.out) ?_); rintro e w6 ⟨vw, rfl, hwr, hrun6⟩)
  obtain ⟨hb6, hlx, GA, gc2, hx6, hog⟩ := hrun6
  have hx6 : w6.heap[xr]? = some (.cells #[.slice A S.flags.length cap, .bool S.plain, .bool S.unknown, .int .i64 (S.fold : Int), .int .i64 (eNo er), .string (mkT (eName er)), .string (mkT (eShort er)), .string (mkT (eVal er)), .int .i64 (eFlag er), .slice GA gv.length gc2, .slice none 0 0, .int .i64 dsh, .slice none 0 0, .bool false, .bool false, .bool false, .slice none 0 0, .nilFunc] 41 (0, 0)) := hx6
  have hog : w6.ownsRow U0.heap.size 57 2 (.slice GA gv.length gc2) gv.length (gCells gv) := hog
  have HWR := Lib.hid (textIn_rest hwr)
  have hbx : Below w.heap.size w w6 := HB.out.trans (hb6.mono HB.out.size)
  have q3 := block_kept q3 hb6
  obtain ⟨_, hrw, hgc, _⟩ := own_full hog
  have y9 : w6.cell? ⟨xr, 9, none⟩ = some (.slice GA gv.length gc2) := (cell_blk hx6 9).trans rfl
  clear hwr
  refine region_inv (by kernel_rfl) (fun u v => Below u.heap.size u v) (L8 (.agg #[.slice A S.flags.length cap, .bool S.plain, .bool S.unknown, .int .i64 S.fold]) (S) (xr) (GA) (gc2) (gv)) (fun i => false) (fun i => [58, 59, 60, 61, 62, 63, 64, 65, 66, 67, 68].getD i 0) 11
    (Below.refl _ _) (fun _ _ _ h k => below_step h k) (fun i hi v u u' h hb => L8.below hi h hb) ?_ (hgd_none (by kernel_rfl)) (by kernel_rfl) (by kernel_rfl) (by kernel_rfl) (by kernel_rfl) ?_ ?_
  · intro i hi hA; cases hA
  · intro i hi o ho a u hG hk hd
    have hG9 : Below w6.heap.size w6 u := ((Below.refl _ _).drew).trans hG
    match i, hi with
    | 0, _ =>
      cases ho
      exact ow_move rfl ((hk 9 (by decide)).trans rfl) ⟨_, rfl, rfl, Below.refl _ _, fun h => by cases h⟩
    | 1, _ =>
      cases ho
      exact ow_load_set rfl ((hk 3 (by decide)).trans rfl) (block_kept q3 hG9) ⟨_, rfl, rfl, Below.refl _ _, fun h => by cases h⟩
    | 2, _ =>
      cases ho
      exact ow_move rfl ((hk 9 (by decide)).trans rfl) ⟨_, rfl, rfl, Below.refl _ _, fun h => by cases h⟩
    | 3, _ =>
      cases ho
      have e60 : a.eval (.tmp 60) = _ := hd 2 (by kernel_rfl) (by decide)
      exact ow_nilCheck rfl e60 ⟨_, rfl, rfl, Below.refl _ _, fun h => by cases h⟩
    | 4, _ =>
      cases ho
      have e61 : a.eval (.tmp 61) = _ := hd 3 (by kernel_rfl) (by decide)
      exact ow_field_run rfl e61 ⟨_, rfl, rfl, Below.refl _ _, fun h => by cases h⟩
    | 5, _ =>
      cases ho
      have e62 : a.eval (.tmp 62) = _ := hd 4 (by kernel_rfl) (by decide)
      exact ow_field_hd4 (i := 5) (by decide) rfl e62 ⟨_, rfl, rfl, Below.refl _ _, fun h => by cases h⟩
    | 6, _ =>
      cases ho
      have e63 : a.eval (.tmp 63) = _ := hd 5 (by kernel_rfl) (by decide)
      exact ow_load_given rfl e63 (cell_kept hG9 y9) ⟨_, rfl, rfl, Below.refl _ _, fun h => by cases h⟩
    | 7, _ =>
      cases ho
      have e59 : a.eval (.tmp 59) = _ := hd 1 (by kernel_rfl) (by decide)
      have e64 : a.eval (.tmp 64) = _ := hd 6 (by kernel_rfl) (by decide)
      refine ow_call #[.tmp 59, .tmp 64] #[24, 29] 21 Try.func21 (by kernel_rfl) (by rfl) rfl #[_, _] (by simp only [List.map_toArray, List.map_cons, List.map_nil, e59, e64]) (HCH.out u (hbx.trans (hG9.mono hbx.size)) _ _ (rowAt_below hrw hG9) hgc) ?_
      rintro e u2 ⟨v, rfl, hv2, hb2⟩
      exact ⟨v, rfl, _, rfl, hv2, hb2, fun h => by cases h⟩
    | 8, _ =>
      cases ho
      have e58 : a.eval (.tmp 58) = _ := hd 0 (by kernel_rfl) (by decide)
      exact ow_nilCheck rfl e58 ⟨_, rfl, rfl, Below.refl _ _, fun h => by cases h⟩
    | 9, _ =>
      cases ho
      have e66 : a.eval (.tmp 66) = _ := hd 8 (by kernel_rfl) (by decide)
      exact ow_field_run rfl e66 ⟨_, rfl, rfl, Below.refl _ _, fun h => by cases h⟩
    | 10, _ =>
      cases ho
      have e67 : a.eval (.tmp 67) = _ := hd 9 (by kernel_rfl) (by decide)
      exact ow_field_hd4 (i := 8) (by decide) rfl e67 ⟨_, rfl, rfl, Below.refl _ _, fun h => by cases h⟩
  · intro x u hG hx hdif
    have hG9 : Below w6.heap.size w6 u := ((Below.refl _ _).drew).trans hG
    obtain ⟨ci, ic, e7, hci⟩ := hx 7 (by decide)
    rw [e7] at hci
    have e10 : x 10 = .pointer (some ⟨xr, 12, none⟩) := hx 10 (by decide)
    simp only [putAll, Act.put, List.getD_cons_zero, List.getD_cons_succ, List.setIfInBounds_toArray, List.set_cons_succ, List.set_cons_zero]
    have hx8 := block_kept hx6 hG9
    have y12 : u.cell? ⟨xr, 12, none⟩ = some (.slice none 0 0) := (cell_blk hx8 12).trans rfl
    refine wpAny_last (i := 11) (by kernel_rfl) rfl rfl (by kernel_rfl) ?_
    refine ow_store_ints rfl rfl e10 e7 y12 (free_blk hx8 12) (lt_of_block hx8) ?_
    have hx9 : (u.setCell ⟨xr, 12, none⟩ (.slice ci (chL (fun j => gv.any fun g => g.1 == j) S.flags.length).length ic)).heap[xr]? = some (.cells #[.slice A S.flags.length cap, .bool S.plain, .bool S.unknown, .int .i64 (S.fold : Int), .int .i64 (eNo er), .string (mkT (eName er)), .string (mkT (eShort er)), .string (mkT (eVal er)), .int .i64 (eFlag er), .slice GA gv.length gc2, .slice none 0 0, .int .i64 dsh, .slice ci (chL (fun j => gv.any fun g => g.1 == j) S.flags.length).length ic, .bool false, .bool false, .bool false, .slice none 0 0, .nilFunc] 41 (0, 0)) := blk_set hx8 12 (.slice ci (chL (fun j => gv.any fun g => g.1 == j) S.flags.length).length ic)
    have hbF : Below U0.heap.size U0 (u.setCell ⟨xr, 12, none⟩ (.slice ci (chL (fun j => gv.any fun g => g.1 == j) S.flags.length).length ic)) := (hb6.trans (hG9.mono hb6.size)).setCell (p := ⟨xr, 12, none⟩) hlx _
    have hog9 := own_kept hog hG9
    have hogF := own_of_blk (w' := u.setCell ⟨xr, 12, none⟩ (.slice ci (chL (fun j => gv.any fun g => g.1 == j) S.flags.length).length ic)) hog9 (fun g hg => blk_other (fun e => by subst e; exact own_far3 hog9 hx8 (by decide) hg))
    have hciF := own_of_blk (w' := u.setCell ⟨xr, 12, none⟩ (.slice ci (chL (fun j => gv.any fun g => g.1 == j) S.flags.length).length ic)) hci (fun g hg => blk_other (fun e => by subst e; exact own_far3 hci hx8 (by decide) hg))
    clear hx8 y12 e10 e7 hdif hx hci hog9 y9 hgc hrw q3
    generalize u.setCell ⟨xr, 12, none⟩ (.slice ci (chL (fun j => gv.any fun g => g.1 == j) S.flags.length).length ic) = UF at hx9 hbF hogF hciF ⊢
    have hg7 := block_kept HG7.out hbF
    have HSM : Hid (∀ W, Below UF.heap.size UF W → Calls Try.prog 22 #[.agg #[.int .i64 (eNo er), .string (mkT (eName er)), .string (mkT (eShort er)), .string (mkT (eVal er)), .int .i64 (eFlag er), .slice ga gv.length gc, .slice ta 0 tc, .int .i64 dsh, .slice ca (chL (fun j => gv.any fun g => g.1 == j) S.flags.length).length cc, .bool false, .bool false], .agg #[.int .i64 (eNo er), .string (mkT (eName er)), .string (mkT (eShort er)), .string (mkT (eVal er)), .int .i64 (eFlag er), .slice GA gv.length gc2, .slice none 0 0, .int .i64 dsh, .slice ci (chL (fun j => gv.any fun g => g.1 == j) S.flags.length).length ic, .bool false, .bool false]] W fun e w' => e = .returned (.bool true) ∧ Below W.heap.size W w') := Lib.hid (fun W hb => by
      have k1 : HeardOwn UF (psOf none false (⟨gv, [], dsh, er⟩ : St)) er S.flags.length (.agg #[.int .i64 (eNo er), .string (mkT (eName er)), .string (mkT (eShort er)), .string (mkT (eVal er)), .int .i64 (eFlag er), .slice ga gv.length gc, .slice ta 0 tc, .int .i64 dsh, .slice ca (chL (fun j => gv.any fun g => g.1 == j) S.flags.length).length cc, .bool false, .bool false]) := ⟨ga, gc, ta, tc, ca, cc, rfl, HR1.out.below hbF⟩
      have k2 : HeardOwn UF (psOf none false (⟨gv, [], dsh, er⟩ : St)) er S.flags.length (.agg #[.int .i64 (eNo er), .string (mkT (eName er)), .string (mkT (eShort er)), .string (mkT (eVal er)), .int .i64 (eFlag er), .slice GA gv.length gc2, .slice none 0 0, .int .i64 dsh, .slice ci (chL (fun j => gv.any fun g => g.1 == j) S.flags.length).length ic, .bool false, .bool false]) := ⟨GA, gc2, none, 0, ci, ic, rfl, own_lower hogF (Nat.zero_le _), World.ownsRow_nil _ _ _ _, hciF⟩
      obtain ⟨n1, n2, n3⟩ := HNUM.out
      exact same_c (k1.below hb).is (k2.below hb).is (by show gv.length ≤ _; omega) (Nat.zero_le _) n1)
    have HST : Hid (∀ W, Below UF.heap.size UF W → Calls Try.prog 23 #[.slice la ts.length lc, vw] W fun e w' => e = .returned (.bool true) ∧ Below W.heap.size W w') := Lib.hid (fun W hb => by
      obtain ⟨n1, n2, n3⟩ := HNUM.out
      have h := sameTexts_c ((HL1.out.below hbF).below hb) ((HWR.out.below hbF).below hb) (by rw [List.length_map]; omega)
      rw [decide_eq_true rfl] at h
      exact h)
    have Y1 := bq_cell (show UF.cell? ⟨g7, 1, none⟩ = some (.string (mkT (eName er))) from (cell_blk hg7 1).trans rfl)
    have Y2 := bq_cell (show UF.cell? ⟨g7, 2, none⟩ = some (.string (mkT (eShort er))) from (cell_blk hg7 2).trans rfl)
    have Y3 := bq_cell (show UF.cell? ⟨g7, 3, none⟩ = some (.string (mkT (eVal er))) from (cell_blk hg7 3).trans rfl)
    have Y4 := bq_cell (show UF.cell? ⟨g7, 4, none⟩ = some (.int .i64 (eFlag er)) from (cell_blk hg7 4).trans rfl)
    have Y5 := bq_cell (show UF.cell? ⟨g7, 5, none⟩ = some (.slice ga gv.length gc) from (cell_blk hg7 5).trans rfl)
    have Y6 := bq_cell (show UF.cell? ⟨g7, 6, none⟩ = some (.slice ta 0 tc) from (cell_blk hg7 6).trans rfl)
    have Y7 := bq_cell (show UF.cell? ⟨g7, 7, none⟩ = some (.int .i64 dsh) from (cell_blk hg7 7).trans rfl)
    have Y8 := bq_cell (show UF.cell? ⟨g7, 8, none⟩ = some (.slice ca (chL (fun j => gv.any fun g => g.1 == j) S.flags.length).length cc) from (cell_blk hg7 8).trans rfl)
    have Y9 := bq_cell (show UF.cell? ⟨g7, 9, none⟩ = some (.bool false) from (cell_blk hg7 9).trans rfl)
    have Y10 := bq_cell (show UF.cell? ⟨g7, 10, none⟩ = some (.bool false) from (cell_blk hg7 10).trans rfl)
    have Z1 := bq_cell (show UF.cell? ⟨xr, 5, none⟩ = some (.string (mkT (eName er))) from (cell_blk hx9 5).trans rfl)
    have Z2 := bq_cell (show UF.cell? ⟨xr, 6, none⟩ = some (.string (mkT (eShort er))) from (cell_blk hx9 6).trans rfl)
    have Z3 := bq_cell (show UF.cell? ⟨xr, 7, none⟩ = some (.string (mkT (eVal er))) from (cell_blk hx9 7).trans rfl)
    have Z4 := bq_cell (show UF.cell? ⟨xr, 8, none⟩ = some (.int .i64 (eFlag er)) from (cell_blk hx9 8).trans rfl)
    have Z5 := bq_cell (show UF.cell? ⟨xr, 9, none⟩ = some (.slice GA gv.length gc2) from (cell_blk hx9 9).trans rfl)
    have Z6 := bq_cell (show UF.cell? ⟨xr, 10, none⟩ = some (.slice none 0 0) from (cell_blk hx9 10).trans rfl)
    have Z7 := bq_cell (show UF.cell? ⟨xr, 11, none⟩ = some (.int .i64 dsh) from (cell_blk hx9 11).trans rfl)
    have Z8 := bq_cell (show UF.cell? ⟨xr, 12, none⟩ = some (.slice ci (chL (fun j => gv.any fun g => g.1 == j) S.flags.length).length ic) from (cell_blk hx9 12).trans rfl)
    have Z9 := bq_cell (show UF.cell? ⟨xr, 13, none⟩ = some (.bool false) from (cell_blk hx9 13).trans rfl)
    have Z10 := bq_cell (show UF.cell? ⟨xr, 14, none⟩ = some (.bool false) from (cell_blk hx9 14).trans rfl)
    by_cases hz : er = .no
    · subst hz
      have Y0 := bq_cell (show UF.cell? ⟨g7, 0, none⟩ = some (.int .i64 (0)) from (cell_blk hg7 0).trans rfl)
      have Z0 := bq_cell (show UF.cell? ⟨xr, 4, none⟩ = some (.int .i64 (0)) from (cell_blk hx9 4).trans rfl)
      clear hx9 hg7 hogF hciF hG hG9 hx6 hog hbx hb6
      go_upto_region 9 with fail
      refine wp_region_bq (by kernel_rfl) (by kernel_rfl) ?_
      repeat (refine WQ.step (fun K hK => ?_); go_simp; first | (refine hK _ ?_; clear hK K) | (apply Exists.intro; refine ⟨fun p9 => ?_, hK _ ?_⟩; ((first | exact bq_below (HSM.out p9.W p9.h) | exact bq_below (HST.out p9.W p9.h))); clear hK K))
      refine WQ.nil ?_
      intro wq HBQ
      clear Y0 Y1 Y2 Y3 Y4 Y5 Y6 Y7 Y8 Y9 Y10 Z0 Z1 Z2 Z3 Z4 Z5 Z6 Z7 Z8 Z9 Z10
      go_wp2
      go_ret
      exact yesEnd rfl ((HB.out.trans (hbF.mono HB.out.size)).trans (HBQ.mono (Nat.le_trans HB.out.size hbF.size)))
    · have z0 : ¬ eNo er = 0 := fun q => hz (eNo_zero.1 q)
      have Y0 := bq_cell (show UF.cell? ⟨g7, 0, none⟩ = some (.int .i64 (eNo er)) from (cell_blk hg7 0).trans rfl)
      have Z0 := bq_cell (show UF.cell? ⟨xr, 4, none⟩ = some (.int .i64 (eNo er)) from (cell_blk hx9 4).trans rfl)
      clear hx9 hg7 hogF hciF hG hG9 hx6 hog hbx hb6 hz
      go_upto_region 9 with fail
      refine wp_region_bq (by kernel_rfl) (by kernel_rfl) ?_
      repeat (refine WQ.step (fun K hK => ?_); go_simp; first | (refine hK _ ?_; clear hK K) | (apply Exists.intro; refine ⟨fun p9 => ?_, hK _ ?_⟩; ((first | exact bq_below (HSM.out p9.W p9.h) | exact bq_below (HST.out p9.W p9.h))); clear hK K))
      refine WQ.nil ?_
      intro wq HBQ
      clear Y0 Y1 Y2 Y3 Y4 Y5 Y6 Y7 Y8 Y9 Y10 Z0 Z1 Z2 Z3 Z4 Z5 Z6 Z7 Z8 Z9 Z10
      go_wp2
      go_ret
      exact yesEnd rfl ((HB.out.trans (hbF.mono HB.out.size)).trans (HBQ.mono (Nat.le_trans HB.out.size hbF.size)))
end Go.Proofs.Ytgmhhdpggnmipaa.E

namespace Go.Proofs.Ytgmhhdpggnmipaa.E
open Go.RowKit Go.Proofs
set_option linter.unusedVariables false
set_option linter.unusedSimpArgs false
theorem pre_dd {s : Txt} (h : ((mkT s).extract 0 2).toList = [45, 45]) : ∃ t, s = 45 :: 45 :: t := by
  rw [ByteArray.toList_eq, ext_headS, mkT_list] at h
  match s, h with
  | [], h => cases h
  | [a], h => simp at h
  | a :: b :: r, h =>
    simp at h
    exact ⟨r, by rw [h.1, h.2]⟩
theorem fnLong_any {w : World} {A : Option Addr} {F : List FlagP} (hA : FlagsAt w A F) (hlow : LowBad w A F w.heap.size) {cap : Nat} (hc : F.length ≤ cap) (hcm : cap ≤ 9223372036854775807) (pl un : Bool) (k : Int) (y : ByteArray) {vb : Value} {ys : List ByteArray} (hvb : TextIn w vb ys) :
    Calls Try.prog 3 #[.agg #[.slice A F.length cap, .bool pl, .bool un, .int .i64 k], .string y, vb] w (YesEnd w) := by
  rw [← texts_back ys] at hvb
  generalize (ys.map fun s => s.data.toList : List Txt) = M at hvb
  rw [← of_list y]
  generalize (y.data.toList : Txt) = v
  cases h1 : fits20 (F.map ofFlag) with
  | false => exact lg_1 hA hc hcm pl un k v hvb h1
  | true =>
  by_cases hzv : (mkT v).size ≤ 2147483647
  case neg => exact lg_2 hA hc hcm pl un k v hvb h1 hzv
  cases h2 : fits2 (M.map mkT) with
  | false => exact lg_3 hA hc hcm pl un k v hvb h1 hzv h2
  | true =>
  cases h3 : RightK F k with
  | false => exact lg_4 hA hc hcm pl un k v hvb h1 hzv h2 h3
  | true =>
  cases h4 : decide (wtBB [M.map mkT, [mkT v]] ≤ 1048576) with
  | false => exact lg_5 hA hc hcm pl un k v hvb h1 hzv h2 h3 h4
  | true =>
  by_cases h5 : (mkT v).size < 3
  · exact lg_6 hA hc hcm pl un k v hvb h1 hzv h2 h3 h4 h5
  by_cases h6 : ((mkT v).extract 0 2).toList = [45, 45]
  case neg => exact lg_7 hA hc hcm pl un k v hvb h1 hzv h2 h3 h4 h5 h6
  obtain ⟨t, rfl⟩ := pre_dd h6
  obtain ⟨n, rfl, hn, hS⟩ := setOK_of hA hlow pl un h1 h3
  exact lg_8 hS hc hcm t hvb h1 hzv h2 h3 h4 h5
end Go.Proofs.Ytgmhhdpggnmipaa.E
