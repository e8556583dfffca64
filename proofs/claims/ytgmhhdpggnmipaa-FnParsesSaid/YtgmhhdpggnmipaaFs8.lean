/- Steps of a set of flags while arguments are parsed: a value that is given, over this seat's program. Written by gen_fs8.py. -/
import Derived.Test.YtgmhhdpggnmipaaFs7
import Derived.Deep.RegionLaw
namespace Go.Proofs.Ytgmhhdpggnmipaa.E
open Go.RowKit Go.Proofs
open Go.Maps (Keyed)
set_option linter.unusedVariables false
set_option linter.unusedSimpArgs false

/-- What a step of parsing may turn: no block of another type than these. -/
structure Fr (C : PC) (w w' : World) : Prop where
  os : w'.os = w.os
  tape : w'.tape = w.tape
  output : w'.output = w.output
  size : w.heap.size ≤ w'.heap.size
  keep : ∀ b cs T fr, w.heap[b]? = some (Obj.cells cs T fr) → T ≠ 131 → T ≠ 90 → T ≠ 124 → T ≠ 104 → T ≠ 57 → (T = 9 → b < C.B1) → w'.heap[b]? = some (Obj.cells cs T fr)
  low : ∀ b, b < C.B → b < w.heap.size → w'.heap[b]? = w.heap[b]?
  keepK : ∀ b, C.K b → b < w.heap.size → w'.heap[b]? = w.heap[b]?
theorem Fr.of_below {C : PC} {w w' : World} (h : Below w.heap.size w w') : Fr C w w' := ⟨h.os, h.tape, h.output, h.size, fun b cs T fr hb _ _ _ _ _ _ => block_kept hb h, fun b _ hl => h.block b hl, fun b _ hl => h.block b hl⟩
theorem Fr.refl (C : PC) (w : World) : Fr C w w := Fr.of_below (Below.refl _ _)
theorem Fr.trans {C : PC} {w w1 w2 : World} (h : Fr C w w1) (k : Fr C w1 w2) : Fr C w w2 :=
  ⟨k.os.trans h.os, k.tape.trans h.tape, k.output.trans h.output, Nat.le_trans h.size k.size, fun b cs T fr hb a1 a2 a3 a4 a5 a6 => k.keep b cs T fr (h.keep b cs T fr hb a1 a2 a3 a4 a5 a6) a1 a2 a3 a4 a5 a6, fun b hb hl => (k.low b hb (Nat.lt_of_lt_of_le hl h.size)).trans (h.low b hb hl), fun b hb hl => (k.keepK b hb (Nat.lt_of_lt_of_le hl h.size)).trans (h.keepK b hb hl)⟩
theorem Fr.of_ch {C : PC} {w w' : World} {X : Nat → Prop} (h : Ch w w' X) (hx : ∀ b, b < w.heap.size → X b → C.B ≤ b ∧ ∀ cs T fr, w.heap[b]? = some (Obj.cells cs T fr) → T = 131 ∨ T = 90 ∨ T = 124 ∨ T = 104 ∨ T = 57 ∨ (T = 9 ∧ C.B1 ≤ b)) (hK : ∀ b, X b → ¬ C.K b) : Fr C w w' := by
  refine ⟨h.os, h.tape, h.output, h.size, fun b cs T fr hb a1 a2 a3 a4 a5 a6 => ?_, fun b hb hl => h.block b hl (fun hX => by have := (hx b hl hX).1; omega), fun b hb hl => h.block b hl (fun hX => hK b hX hb)⟩
  rw [h.block b (lt_of_block hb) (fun hX => ?_)]
  · exact hb
  · rcases (hx b (lt_of_block hb) hX).2 cs T fr hb with q | q | q | q | q | ⟨q, q2⟩
    · exact a1 q
    · exact a2 q
    · exact a3 q
    · exact a4 q
    · exact a5 q
    · have := a6 q; omega

theorem nodup_inj {l : List Nat} (h : l.Nodup) {i j : Nat} (hi : i < l.length) (hj : j < l.length) (e : l[i] = l[j]) : i = j := by
  have hp := List.pairwise_iff_getElem.1 h
  rcases Nat.lt_trichotomy i j with q | q | q
  · exact absurd e (hp i j hi hj q)
  · exact q
  · exact absurd e.symm (hp j i hj hi q)
/-- Blocks of a set that are what they were. -/
theorem Pm.blk {w w' : World} {C : PC} {V : PV} {s : PS} {X : Nat → Prop} (h : Pm w C V s) (ch : Ch w w' X) {b : Nat} {cs : Array Value} {T : TypeId} {fr : Nat × Nat} (hb : w.heap[b]? = some (.cells cs T fr)) (hX : ¬ X b) : w'.heap[b]? = some (.cells cs T fr) :=
  (ch.block b (lt_of_block hb) hX).trans hb
/-- A set of which blocks of X alone turned, X being none of its own but what is given anew. -/
theorem Pm.turn {w w' : World} {C : PC} {V V' : PV} {s s' : PS} {X : Nat → Prop} (h : Pm w C V s) (ch : Ch w w' X)
    (hF : w'.heap[C.F]? = some (.cells (fsCells C.S.unknown s'.parsed (.map V'.act) V'.ord (.map V'.fmo) V'.orf (.map V'.smo) V'.av s'.dash (!C.S.plain) C.nf) 131 (0, 0)))
    (hW : w'.heap[C.Wb]? = some (.cells #[.pointer (some ⟨C.F, 0, none⟩), V'.flv, V'.said] 90 (0, 0)))
    (e1 : V'.fmo = V.fmo) (e2 : V'.smo = V.smo) (e3 : V'.flv = V.flv)
    (am : ∃ f, PMap w' Try.prog 113 enT V'.act V'.na f) (odr : ∃ xs, w'.ownsRow C.B1 104 1 V'.ord V'.no xs) (cnt : V'.na ≤ s'.G.length ∧ V'.no ≤ s'.G.length)
    (avr : w'.ownsRow C.B1 9 1 V'.av s'.A.length (aCells s'.A)) (sdr : w'.ownsRow C.B1 57 2 V'.said s'.G.length (gCells s'.G))
    (flag : ∀ i (h : i < C.S.flags.length), w'.heap[C.FL.getD i 0]? = some (.cells (flCells (mkT (foldT C.S.fold C.S.flags[i].name)) (mkT C.S.flags[i].short) (C.OW.getD i 0) (s'.chg i) (mkT C.S.flags[i].noOpt)) 124 (0, 0)))
    (actb : ∀ b, V'.act = some b → C.B1 ≤ b)
    (hx : ∀ b, b < w.heap.size → X b → C.B ≤ b ∧ V.fmo ≠ some b ∧ V.smo ≠ some b ∧ V.flv.ownBlock ≠ some b ∧ ∀ cs T fr, w.heap[b]? = some (Obj.cells cs T fr) → T = 131 ∨ T = 90 ∨ T = 124 ∨ T = 104 ∨ T = 57 ∨ (T = 9 ∧ C.B1 ≤ b))
    (hK : ∀ b, X b → ¬ C.K b) (hK2 : ∀ b, C.K b → V'.av.ownBlock ≠ some b ∧ V'.said.ownBlock ≠ some b) : Pm w' C V' s' ∧ Fr C w w' := by
  have hfr : Fr C w w' := Fr.of_ch ch (fun b hb hX => ⟨(hx b hb hX).1, (hx b hb hX).2.2.2.2⟩) hK
  obtain ⟨n1, hm1⟩ := h.fm
  obtain ⟨n2, hm2⟩ := h.sm
  refine ⟨⟨hF, hW, ⟨n1, ?_⟩, ⟨n2, ?_⟩, am, odr, cnt, ?_, avr, sdr, flag, ?_, h.inj, h.len, ?_, ?_, ?_, fun b hk => ⟨by obtain ⟨cs, T, fr, e, hT⟩ := (h.kp b hk).1; exact ⟨cs, T, fr, (hfr.keepK b hk (lt_of_block e)).trans e, hT⟩, hK2 b hk⟩⟩, hfr⟩
  · rw [e1]
    refine hm1.kept fun b e => ?_
    have hlt : b < w.heap.size := by rw [e] at hm1; exact hm1.lt
    exact ch.block b hlt (fun hX => (hx b hlt hX).2.1 e)
  · rw [e2]
    refine hm2.kept fun b e => ?_
    have hlt : b < w.heap.size := by rw [e] at hm2; exact hm2.lt
    exact ch.block b hlt (fun hX => (hx b hlt hX).2.2.1 e)
  · rw [e3]
    exact own_of_blk h.flr fun g hg => ch.block g (h.flr.lt g hg).2 (fun hX => (hx g (h.flr.lt g hg).2 hX).2.2.2.1 hg)
  · intro i hi
    obtain ⟨v, q1, q2, q3⟩ := h.own i hi
    exact ⟨v, hfr.keep _ _ _ _ q1 (by decide) (by decide) (by decide) (by decide) (by decide) (fun e => absurd e (by decide)), texts_blk q2 (fun b hb => hfr.low b hb (by have := h.low.2.2.2.2.2; omega)) q3, q3⟩
  · refine h.norm.kept fun cs fr e => ?_
    rw [hfr.keep _ _ _ _ e (by decide) (by decide) (by decide) (by decide) (by decide) (fun e => absurd e (by decide)), e]
  · exact ⟨h.low.1, h.low.2.1, h.low.2.2.1, h.low.2.2.2.1, h.low.2.2.2.2.1, h.low.2.2.2.2.2.1, Nat.le_trans h.low.2.2.2.2.2.2 hfr.size⟩
  · rw [e1, e2, e3]
    exact ⟨h.lowm.1, h.lowm.2.1, h.lowm.2.2.1, actb⟩
theorem gCells_snoc (G : List (Nat × Txt)) (i : Nat) (v : Txt) : gCells (G ++ [(i, v)]) = gCells G ++ [.int .i64 (i : Int), .string (mkT v)] := by simp [gCells]
theorem aCells_snoc (A : List Txt) (t : Txt) : aCells (A ++ [t]) = aCells A ++ [.string (mkT t)] := by simp [aCells]
theorem aCells_len (A : List Txt) : (aCells A).length = A.length := by simp [aCells]
theorem gCells_len (G : List (Nat × Txt)) : (gCells G).length = G.length * 2 := by
  induction G with
  | nil => rfl
  | cons a r ih => simp [gCells] at ih ⊢; omega
theorem getD_low {FL : List Nat} {B B1 : Nat} (h : ∀ b ∈ FL, B ≤ b ∧ b < B1) {i : Nat} (hi : i < FL.length) : B ≤ FL.getD i 0 ∧ FL.getD i 0 < B1 := h _ (getD_mem hi)
section
variable {w : World} {C : PC} {V : PV} {s : PS}
theorem Pm.nFW (h : Pm w C V s) : C.F ≠ C.Wb := blk_ne h.hF h.hW (by simp)
theorem Pm.nfl (h : Pm w C V s) {i : Nat} (hi : i < C.S.flags.length) : C.FL.getD i 0 ≠ C.F ∧ C.FL.getD i 0 ≠ C.Wb := ⟨blk_ne (h.flag i hi) h.hF (by simp), blk_ne (h.flag i hi) h.hW (by simp)⟩
theorem Pm.nm (h : Pm w C V s) {b : Nat} {cs : Array Value} {T : TypeId} {fr : Nat × Nat} (hb : w.heap[b]? = some (.cells cs T fr)) : V.fmo ≠ some b ∧ V.smo ≠ some b ∧ V.act ≠ some b := by
  obtain ⟨n1, hm1⟩ := h.fm
  obtain ⟨n2, hm2⟩ := h.sm
  obtain ⟨f3, hm3⟩ := h.am
  refine ⟨fun e => ?_, fun e => ?_, fun e => ?_⟩
  · rw [e] at hm1; exact map_ne hm1 hb rfl
  · rw [e] at hm2; exact map_ne hm2 hb rfl
  · rw [e] at hm3; exact map_ne hm3 hb rfl
theorem Pm.notK (h : Pm w C V s) {b : Nat} {cs : Array Value} {T : TypeId} {fr : Nat × Nat} (hb : w.heap[b]? = some (.cells cs T fr)) (h1 : T ≠ 9) (h2 : T ≠ 57) : ¬ C.K b := fun hk => by
  obtain ⟨cs', T', fr', e, q⟩ := (h.kp b hk).1
  rw [hb] at e
  simp only [Option.some.injEq, Obj.cells.injEq] at e
  obtain ⟨_, rfl, _⟩ := e
  exact q.elim h1 h2
theorem Pm.fl_far (h : Pm w C V s) {b : Nat} {cs : Array Value} {T : TypeId} {fr : Nat × Nat} (hb : w.heap[b]? = some (.cells cs T fr)) (hT : T ≠ 104) : V.flv.ownBlock ≠ some b := own_far3 h.flr hb hT
end
/-- A value is kept in the list of what was said. -/
theorem Pm.give {w wa w1 : World} {C : PC} {V : PV} {s : PS} (h : Pm w C V s) {i : Nat} {v : Txt} {g c : Nat} (hal : Below w.heap.size w wa)
    (hg : wa.grownBy w1 V.said.ownBlock) (ho : w1.ownsRow C.B1 57 2 (.slice (some ⟨g, 0, none⟩) (s.G.length + 1) c) (s.G.length + 1) (gCells s.G ++ [.int .i64 (i : Int), .string (mkT v)])) (hfar : V.said.ownBlock = some g ∨ w.heap.size ≤ g) :
    Pm (w1.setCell ⟨C.Wb, 2, none⟩ (.slice (some ⟨g, 0, none⟩) (s.G.length + 1) c)) C { V with said := .slice (some ⟨g, 0, none⟩) (s.G.length + 1) c } { s with G := s.G ++ [(i, v)] } ∧ Fr C w (w1.setCell ⟨C.Wb, 2, none⟩ (.slice (some ⟨g, 0, none⟩) (s.G.length + 1) c)) := by
  have ch : Ch w (w1.setCell ⟨C.Wb, 2, none⟩ (.slice (some ⟨g, 0, none⟩) (s.G.length + 1) c)) (fun b => b = C.Wb ∨ V.said.ownBlock = some b) :=
    ((Ch.of_below hal _).grown hg (fun b _ e => .inr e.symm)).set _ _ (fun _ => .inl rfl)
  have nX : ∀ {b : Nat} {cs : Array Value} {T : TypeId} {fr : Nat × Nat}, w.heap[b]? = some (.cells cs T fr) → T ≠ 90 → T ≠ 57 → ¬ (b = C.Wb ∨ V.said.ownBlock = some b) := by
    intro b cs T fr hb a1 a2 hX
    rcases hX with rfl | e
    · have := h.hW.symm.trans hb; simp only [Option.some.injEq, Obj.cells.injEq] at this; exact a1 this.2.1.symm
    · exact own_far3 h.sdr hb a2 e
  have hlen : (s.G ++ [(i, v)]).length = s.G.length + 1 := by simp
  obtain ⟨f3, hm3⟩ := h.am
  obtain ⟨xs4, ho4⟩ := h.odr
  have hW1 := grown_blk hg (block_kept h.hW hal) (fun e => own_far3 h.sdr h.hW (by decide) e.symm)
  refine h.turn ch (h.blk ch h.hF (nX h.hF (by decide) (by decide))) (blk_set hW1 2 _) rfl rfl rfl ⟨f3, ?_⟩ ⟨xs4, ?_⟩ (by have := h.cnt; show V.na ≤ (s.G ++ [(i, v)]).length ∧ V.no ≤ (s.G ++ [(i, v)]).length; rw [hlen]; omega) ?_ ?_ ?_ h.lowm.2.2.2 ?_ (fun b hX => by
    rcases hX with rfl | e
    · exact h.notK h.hW (by decide) (by decide)
    · exact fun hk => (h.kp b hk).2.2 e) (fun b hk => ⟨(h.kp b hk).2.1, fun e => by
    simp only [Value.ownBlock, Option.some.injEq] at e
    subst e
    rcases hfar with q | q
    · exact (h.kp g hk).2.2 q
    · obtain ⟨cs, T, fr, e, _⟩ := (h.kp g hk).1; have := lt_of_block e; omega⟩)
  · refine hm3.kept fun b e => ?_
    rw [e] at hm3
    refine ch.block b hm3.lt (fun hX => ?_)
    rcases hX with rfl | e2
    · exact map_ne hm3 h.hW rfl
    · exact map_own hm3 h.sdr e2
  · refine own_of_blk ho4 fun g2 hg2 => ?_
    obtain ⟨cur, hc⟩ := own_is ho4 hg2
    exact ch.block g2 (lt_of_block hc) (nX hc (by decide) (by decide))
  · refine own_of_blk h.avr fun g2 hg2 => ?_
    obtain ⟨cur, hc⟩ := own_is h.avr hg2
    exact ch.block g2 (lt_of_block hc) (nX hc (by decide) (by decide))
  · show (w1.setCell _ _).ownsRow C.B1 57 2 _ (s.G ++ [(i, v)]).length (gCells (s.G ++ [(i, v)]))
    rw [hlen, gCells_snoc]
    exact own_of_blk ho fun g2 hg2 => blk_other (fun e => own_far3 ho hW1 (by decide) (by rw [hg2, e]))
  · intro j hj
    exact h.blk ch (h.flag j hj) (nX (h.flag j hj) (by decide) (by decide))
  · intro b hb hX
    rcases hX with rfl | e
    · refine ⟨h.low.2.2.1, (h.nm h.hW).1, (h.nm h.hW).2.1, h.fl_far h.hW (by decide), ?_⟩
      intro cs T fr e
      have := h.hW.symm.trans e; simp only [Option.some.injEq, Obj.cells.injEq] at this
      exact .inr (.inl this.2.1.symm)
    · obtain ⟨cur, hc⟩ := own_is h.sdr e
      refine ⟨by have := (h.sdr.lt b e).1; have := h.low.2.2.2.2.2.1; omega, (h.nm hc).1, (h.nm hc).2.1, h.fl_far hc (by decide), ?_⟩
      intro cs T fr e
      have := hc.symm.trans e; simp only [Option.some.injEq, Obj.cells.injEq] at this
      exact .inr (.inr (.inr (.inr (.inl this.2.1.symm))))
/-- A flag is marked as changed. -/
theorem Pm.mark {w : World} {C : PC} {V : PV} {s : PS} (h : Pm w C V s) {i : Nat} (hi : i < C.S.flags.length) :
    Pm (w.setCell ⟨C.FL.getD i 0, 5, none⟩ (.bool true)) C V { s with chg := fun j => if j = i then true else s.chg j } ∧ Fr C w (w.setCell ⟨C.FL.getD i 0, 5, none⟩ (.bool true)) := by
  have ch : Ch w (w.setCell ⟨C.FL.getD i 0, 5, none⟩ (.bool true)) (fun b => b = C.FL.getD i 0) := (Ch.refl w _).set _ _ (fun _ => rfl)
  have nX : ∀ {b : Nat} {cs : Array Value} {T : TypeId} {fr : Nat × Nat}, w.heap[b]? = some (.cells cs T fr) → T ≠ 124 → ¬ (b = C.FL.getD i 0) := by
    intro b cs T fr hb a1 e
    subst e
    have := (h.flag i hi).symm.trans hb; simp only [Option.some.injEq, Obj.cells.injEq] at this; exact a1 this.2.1.symm
  obtain ⟨f3, hm3⟩ := h.am
  obtain ⟨xs4, ho4⟩ := h.odr
  refine h.turn ch (h.blk ch h.hF (nX h.hF (by decide))) (h.blk ch h.hW (nX h.hW (by decide))) rfl rfl rfl ⟨f3, ?_⟩ ⟨xs4, ?_⟩ h.cnt ?_ ?_ ?_ h.lowm.2.2.2 ?_ (fun b hX => by subst hX; exact h.notK (h.flag i hi) (by decide) (by decide)) (fun b hk => (h.kp b hk).2)
  · refine hm3.kept fun b e => ?_
    rw [e] at hm3
    exact ch.block b hm3.lt (fun hX => by subst hX; exact map_ne hm3 (h.flag i hi) rfl)
  · refine own_of_blk ho4 fun g2 hg2 => ?_
    obtain ⟨cur, hc⟩ := own_is ho4 hg2
    exact ch.block g2 (lt_of_block hc) (nX hc (by decide))
  · refine own_of_blk h.avr fun g2 hg2 => ?_
    obtain ⟨cur, hc⟩ := own_is h.avr hg2
    exact ch.block g2 (lt_of_block hc) (nX hc (by decide))
  · refine own_of_blk h.sdr fun g2 hg2 => ?_
    obtain ⟨cur, hc⟩ := own_is h.sdr hg2
    exact ch.block g2 (lt_of_block hc) (nX hc (by decide))
  · intro j hj
    by_cases e : j = i
    · subst e
      have hb := blk_set (h.flag j hj) 5 (.bool true)
      simp only [if_true]
      exact hb
    · have hne : C.FL.getD j 0 ≠ C.FL.getD i 0 := by
        intro e2
        apply e
        have hj2 : j < C.FL.length := by rw [h.len]; exact hj
        have hi2 : i < C.FL.length := by rw [h.len]; exact hi
        rw [List.getD_eq_getElem?_getD, List.getD_eq_getElem?_getD, List.getElem?_eq_getElem hj2, List.getElem?_eq_getElem hi2] at e2
        exact nodup_inj h.inj hj2 hi2 e2
      simp only [if_neg e]
      exact (blk_other hne).trans (h.flag j hj)
  · intro b hb hX
    subst hX
    have hl := getD_low h.low.2.2.2.2.1 (i := i) (by rw [h.len]; exact hi)
    refine ⟨hl.1, (h.nm (h.flag i hi)).1, (h.nm (h.flag i hi)).2.1, h.fl_far (h.flag i hi) (by decide), ?_⟩
    intro cs T fr e
    have := (h.flag i hi).symm.trans e; simp only [Option.some.injEq, Obj.cells.injEq] at this
    exact .inr (.inr (.inl this.2.1.symm))
/-- A cell of the set is turned. -/
theorem Pm.setF {w : World} {C : PC} {V V' : PV} {s s' : PS} (h : Pm w C V s) (j : Nat) (x : Value)
    (hc : (fsCells C.S.unknown s.parsed (.map V.act) V.ord (.map V.fmo) V.orf (.map V.smo) V.av s.dash (!C.S.plain) C.nf).setIfInBounds j x = fsCells C.S.unknown s'.parsed (.map V'.act) V'.ord (.map V'.fmo) V'.orf (.map V'.smo) V'.av s'.dash (!C.S.plain) C.nf)
    (e1 : V'.fmo = V.fmo) (e2 : V'.smo = V.smo) (e3 : V'.flv = V.flv) (e4 : V'.said = V.said) (e5 : s'.G = s.G) (e6 : s'.chg = s.chg)
    (am : ∃ f, PMap w Try.prog 113 enT V'.act V'.na f) (odr : ∃ xs, w.ownsRow C.B1 104 1 V'.ord V'.no xs) (cnt : V'.na ≤ s'.G.length ∧ V'.no ≤ s'.G.length)
    (avr : w.ownsRow C.B1 9 1 V'.av s'.A.length (aCells s'.A)) (actb : ∀ b, V'.act = some b → C.B1 ≤ b) (avk : V'.av = V.av ∨ ∀ b, C.K b → V'.av.ownBlock ≠ some b := by exact .inl rfl) :
    Pm (w.setCell ⟨C.F, j, none⟩ x) C V' s' ∧ Fr C w (w.setCell ⟨C.F, j, none⟩ x) := by
  have ch : Ch w (w.setCell ⟨C.F, j, none⟩ x) (fun b => b = C.F) := (Ch.refl w _).set _ _ (fun _ => rfl)
  have nX : ∀ {b : Nat} {cs : Array Value} {T : TypeId} {fr : Nat × Nat}, w.heap[b]? = some (.cells cs T fr) → T ≠ 131 → ¬ (b = C.F) := by
    intro b cs T fr hb a1 e
    subst e
    have := h.hF.symm.trans hb; simp only [Option.some.injEq, Obj.cells.injEq] at this; exact a1 this.2.1.symm
  obtain ⟨f3, hm3⟩ := am
  obtain ⟨xs4, ho4⟩ := odr
  have hb := blk_set h.hF j x
  rw [hc] at hb
  refine h.turn ch hb (by rw [e3, e4]; exact h.blk ch h.hW (nX h.hW (by decide))) e1 e2 e3 ⟨f3, ?_⟩ ⟨xs4, ?_⟩ cnt ?_ ?_ ?_ actb ?_ (fun b hX => by subst hX; exact h.notK h.hF (by decide) (by decide)) (fun b hk => ⟨avk.elim (fun e => by rw [e]; exact (h.kp b hk).2.1) (fun q => q b hk), by rw [e4]; exact (h.kp b hk).2.2⟩)
  · refine hm3.kept fun b e => ?_
    rw [e] at hm3
    exact ch.block b hm3.lt (fun hX => by subst hX; exact map_ne hm3 h.hF rfl)
  · refine own_of_blk ho4 fun g2 hg2 => ?_
    obtain ⟨cur, hc⟩ := own_is ho4 hg2
    exact ch.block g2 (lt_of_block hc) (nX hc (by decide))
  · refine own_of_blk avr fun g2 hg2 => ?_
    obtain ⟨cur, hc⟩ := own_is avr hg2
    exact ch.block g2 (lt_of_block hc) (nX hc (by decide))
  · rw [e4, e5]
    refine own_of_blk h.sdr fun g2 hg2 => ?_
    obtain ⟨cur, hc⟩ := own_is h.sdr hg2
    exact ch.block g2 (lt_of_block hc) (nX hc (by decide))
  · intro j hj
    rw [e6]
    exact h.blk ch (h.flag j hj) (nX (h.flag j hj) (by decide))
  · intro b hb hX
    subst hX
    refine ⟨h.low.1, (h.nm h.hF).1, (h.nm h.hF).2.1, h.fl_far h.hF (by decide), ?_⟩
    intro cs T fr e
    have := h.hF.symm.trans e; simp only [Option.some.injEq, Obj.cells.injEq] at this
    exact .inl this.2.1.symm
/-- The map of what was set, or the row of it, or the row of arguments turned, and the cell of the set that holds it. -/
theorem Pm.grow {w wa w1 : World} {C : PC} {V V' : PV} {s s' : PS} (h : Pm w C V s) (hal : Below w.heap.size w wa) {r : Option Nat} (hg : wa.grownBy w1 r) (hr : r = V.act ∨ r = V.ord.ownBlock ∨ r = V.av.ownBlock) (j : Nat) (x : Value)
    (hc : (fsCells C.S.unknown s.parsed (.map V.act) V.ord (.map V.fmo) V.orf (.map V.smo) V.av s.dash (!C.S.plain) C.nf).setIfInBounds j x = fsCells C.S.unknown s'.parsed (.map V'.act) V'.ord (.map V'.fmo) V'.orf (.map V'.smo) V'.av s'.dash (!C.S.plain) C.nf)
    (e1 : V'.fmo = V.fmo) (e2 : V'.smo = V.smo) (e3 : V'.flv = V.flv) (e4 : V'.said = V.said) (e5 : s'.G = s.G) (e6 : s'.chg = s.chg)
    (am : (V'.act = V.act ∧ V'.na = V.na ∧ r ≠ V.act) ∨ ∃ f, PMap w1 Try.prog 113 enT V'.act V'.na f) (odr : (V'.ord = V.ord ∧ V'.no = V.no ∧ (∀ b, V.ord.ownBlock = some b → r ≠ some b)) ∨ ∃ xs, w1.ownsRow C.B1 104 1 V'.ord V'.no xs) (cnt : V'.na ≤ s'.G.length ∧ V'.no ≤ s'.G.length)
    (avr : (V'.av = V.av ∧ s'.A = s.A ∧ (∀ b, V.av.ownBlock = some b → r ≠ some b)) ∨ w1.ownsRow C.B1 9 1 V'.av s'.A.length (aCells s'.A)) (actb : ∀ b, V'.act = some b → C.B1 ≤ b) (avk : V'.av = V.av ∨ ∀ b, C.K b → V'.av.ownBlock ≠ some b := by exact .inl rfl) :
    Pm (w1.setCell ⟨C.F, j, none⟩ x) C V' s' ∧ Fr C w (w1.setCell ⟨C.F, j, none⟩ x) := by
  have h' := h.below hal
  obtain ⟨f3, hm3⟩ := h'.am
  obtain ⟨xs4, ho4⟩ := h'.odr
  have ch : Ch wa (w1.setCell ⟨C.F, j, none⟩ x) (fun b => b = C.F ∨ some b = r) := ((Ch.refl wa _).grown hg (fun b _ e => .inr e)).set _ _ (fun _ => .inl rfl)
  have nr : ∀ {b : Nat} {cs : Array Value} {T : TypeId} {fr : Nat × Nat}, wa.heap[b]? = some (.cells cs T fr) → T ≠ 104 → T ≠ 9 → ¬ (some b = r) := by
    intro b cs T fr hb a1 a2 e
    rcases hr with q | q | q
    · exact (h'.nm hb).2.2 (by rw [← q, ← e])
    · exact own_far3 ho4 hb a1 (by rw [← q, ← e])
    · exact own_far3 h'.avr hb a2 (by rw [← q, ← e])
  have nX : ∀ {b : Nat} {cs : Array Value} {T : TypeId} {fr : Nat × Nat}, wa.heap[b]? = some (.cells cs T fr) → T ≠ 104 → T ≠ 9 → T ≠ 131 → ¬ (b = C.F ∨ some b = r) := by
    intro b cs T fr hb a1 a2 a3 e
    rcases e with rfl | e
    · have := h'.hF.symm.trans hb; simp only [Option.some.injEq, Obj.cells.injEq] at this; exact a3 this.2.1.symm
    · exact nr hb a1 a2 e
  have hB1 : ∀ b, some b = r → C.B1 ≤ b := by
    intro b e
    rcases hr with q | q | q
    · exact h.lowm.2.2.2 b (by rw [← q, ← e])
    · exact (ho4.lt b (by rw [← q, ← e])).1
    · exact (h'.avr.lt b (by rw [← q, ← e])).1
  have hx : ∀ b, b < wa.heap.size → (b = C.F ∨ some b = r) → C.B ≤ b ∧ V.fmo ≠ some b ∧ V.smo ≠ some b ∧ V.flv.ownBlock ≠ some b ∧ ∀ cs T fr, wa.heap[b]? = some (Obj.cells cs T fr) → T = 131 ∨ T = 90 ∨ T = 124 ∨ T = 104 ∨ T = 57 ∨ (T = 9 ∧ C.B1 ≤ b) := by
    intro b hb e
    rcases e with rfl | e
    · refine ⟨h.low.1, (h'.nm h'.hF).1, (h'.nm h'.hF).2.1, h'.fl_far h'.hF (by decide), ?_⟩
      intro cs T fr e
      have := h'.hF.symm.trans e; simp only [Option.some.injEq, Obj.cells.injEq] at this
      exact .inl this.2.1.symm
    · have := hB1 b e
      refine ⟨by have := h.low.2.2.2.2.2.1; omega, fun e2 => by have := h.lowm.1 b e2; omega, fun e2 => by have := h.lowm.2.1 b e2; omega, fun e2 => by have := h.lowm.2.2.1 b e2; omega, ?_⟩
      intro cs T fr hc
      by_cases h1 : T = 104
      · exact .inr (.inr (.inr (.inl h1)))
      · by_cases h2 : T = 9
        · exact .inr (.inr (.inr (.inr (.inr ⟨h2, this⟩))))
        · exact absurd e (nr hc h1 h2)
  have hF1 := grown_blk hg h'.hF (nr h'.hF (by decide) (by decide))
  have hFn := blk_set hF1 j x
  rw [hc] at hFn
  have r1 := h'.turn (V' := V') (s' := s') ch hFn (by rw [e3, e4]; exact h'.blk ch h'.hW (nX h'.hW (by decide) (by decide) (by decide))) e1 e2 e3 ?_ ?_ cnt ?_ ?_ ?_ actb hx (fun b hX => by
    rcases hX with rfl | e
    · exact h'.notK h'.hF (by decide) (by decide)
    · intro hk
      obtain ⟨⟨cs, T, fr, hc, hT⟩, k1, k2⟩ := h'.kp b hk
      rcases hr with q | q | q
      · exact (h'.nm hc).2.2 (by rw [← q, ← e])
      · exact own_far3 ho4 hc (by rcases hT with rfl | rfl <;> decide) (by rw [← q, ← e])
      · exact k1 (by rw [← q, ← e])) (fun b hk => ⟨avk.elim (fun e => by rw [e]; exact (h'.kp b hk).2.1) (fun q => q b hk), by rw [e4]; exact (h'.kp b hk).2.2⟩)
  · exact ⟨r1.1, (Fr.of_below hal).trans r1.2⟩
  · rcases am with ⟨q1, q2, q3⟩ | ⟨f, q⟩
    · rw [q1, q2]
      refine ⟨f3, hm3.kept fun b e => ?_⟩
      rw [e] at hm3
      refine ch.block b hm3.lt (fun hX => ?_)
      rcases hX with rfl | e2
      · exact map_ne hm3 h'.hF rfl
      · exact q3 (by rw [← e2, e])
    · refine ⟨f, q.kept fun b e => blk_other (fun e2 => ?_)⟩
      rw [e] at q
      exact map_ne q hF1 e2
  · rcases odr with ⟨q1, q2, q3⟩ | ⟨xs, q⟩
    · rw [q1, q2]
      refine ⟨xs4, own_of_blk ho4 fun g2 hg2 => ?_⟩
      refine ch.block g2 (ho4.lt g2 hg2).2 (fun hX => ?_)
      rcases hX with rfl | e2
      · exact own_far3 ho4 h'.hF (by decide) hg2
      · exact q3 g2 hg2 e2.symm
    · exact ⟨xs, own_of_blk q fun g2 hg2 => blk_other (fun e => own_far3 q hF1 (by decide) (by rw [hg2, e]))⟩
  · rcases avr with ⟨q1, q2, q3⟩ | q
    · rw [q1, q2]
      refine own_of_blk h'.avr fun g2 hg2 => ?_
      refine ch.block g2 (h'.avr.lt g2 hg2).2 (fun hX => ?_)
      rcases hX with rfl | e2
      · exact own_far3 h'.avr h'.hF (by decide) hg2
      · exact q3 g2 hg2 e2.symm
    · exact own_of_blk q fun g2 hg2 => blk_other (fun e => own_far3 q hF1 (by decide) (by rw [hg2, e]))
  · rw [e4, e5]
    refine own_of_blk h'.sdr fun g2 hg2 => ?_
    obtain ⟨cur, hc⟩ := own_is h'.sdr hg2
    exact ch.block g2 (lt_of_block hc) (nX hc (by decide) (by decide) (by decide))
  · intro j hj
    rw [e6]
    exact h'.blk ch (h'.flag j hj) (nX (h'.flag j hj) (by decide) (by decide) (by decide))
end Go.Proofs.Ytgmhhdpggnmipaa.E
