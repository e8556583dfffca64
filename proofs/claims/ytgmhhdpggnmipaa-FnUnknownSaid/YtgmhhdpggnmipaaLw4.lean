/- laws.complete14 over this seat's program. Written by gen_lw4.py. -/
import Derived.Test.YtgmhhdpggnmipaaRt
import Derived.Test.YtgmhhdpggnmipaaBq
namespace Go.Proofs.Ytgmhhdpggnmipaa.E
open Go.RowKit Go.Proofs
set_option linter.unusedVariables false
set_option linter.unusedSimpArgs false

/-- Arguments that are parsed without an error, and behind which nothing waits. -/
structure Comp (S : SetP) (L : List Txt) : Prop where
  err : (goes S none st0 L).err = .no
  dash : (goes S none st0 L).dash < 0
  plain : S.plain = true → (goes S none st0 L).args = []
  more : (goes S none st0 (L ++ [[122]])).args = (goes S none st0 L).args ++ [[122]]
/-- Just what complete14 asks. -/
structure CompX (S : SetP) (L : List Txt) : Prop where
  err : (goes S none st0 L).err = .no
  dash : (goes S none st0 L).dash < 0
  plain : S.plain = true → (goes S none st0 L).args = []
  err2 : (goes S none st0 (L ++ [[122]])).err = .no
  giv : (goes S none st0 L).given = (goes S none st0 (L ++ [[122]])).given
  more : (goes S none st0 (L ++ [[122]])).args = (goes S none st0 L).args ++ [[122]]
theorem CompX.comp {S : SetP} {L : List Txt} (h : CompX S L) : Comp S L := ⟨h.err, h.dash, h.plain, h.more⟩
theorem Comp.app {S : SetP} {L : List Txt} (h : Comp S L) (more : List Txt) : goes S none st0 (L ++ more) = goes S none (goes S none st0 L) more := complete_app S none L.length st0 L (Nat.le_refl _) h.err h.dash h.plain h.more more

def C5 (q5 g6 : Nat) (A1 A2 A3 A4 : Value) (st st2 : St) : Nat → Value → World → Prop
  | 0, v, _ => v = .pointer (some ⟨g6, 0, none⟩)
  | 1, v, _ => v = .int .i64 0
  | 2, v, _ => v = .bool true
  | 3, v, _ => v = .bool true
  | 4, v, _ => v = .pointer (some ⟨q5, 5, none⟩)
  | 5, v, _ => v = A1
  | 6, v, _ => v = .pointer (some ⟨g6, 5, none⟩)
  | 7, v, _ => v = A2
  | 8, v, _ => v = .bool true
  | 9, v, _ => v = .bool true
  | 10, v, _ => v = .bool true
  | 11, v, _ => v = .pointer (some ⟨q5, 6, none⟩)
  | 12, v, _ => v = A3
  | 13, v, w => ∃ g, v = .slice (some ⟨g, 0, none⟩) 1 1 ∧ w.heap[g]? = some (.cells #[.string (mkT [122])] 9 (0, 0))
  | 14, v, w => ∃ g vs, v = .slice (some ⟨g, 0, none⟩) 2 2 ∧ RowsIn w g vs [st.args.map mkT, [mkT [122]]]
  | 15, v, w => TextIn w v ((st.args ++ [[122]]).map mkT)
  | 16, v, _ => v = .pointer (some ⟨g6, 6, none⟩)
  | 17, v, _ => v = A4
  | 18, v, _ => v = .bool (decide ((st.args ++ [[122]]).map mkT = st2.args.map mkT))
  | 19, v, _ => v = .bool (decide ((st.args ++ [[122]]).map mkT = st2.args.map mkT))
  | 20, v, _ => v = .bool (decide ((st.args ++ [[122]]).map mkT = st2.args.map mkT))
  | _, _, _ => True
theorem C5.below {q5 g6 : Nat} {A1 A2 A3 A4 : Value} {st st2 : St} {i : Nat} (hi : i < 21) {v : Value} {w w' : World} (h : C5 q5 g6 A1 A2 A3 A4 st st2 i v w) (hb : Below w.heap.size w w') : C5 q5 g6 A1 A2 A3 A4 st st2 i v w' := by
  match i, hi, h with
  | 0, _, h => exact h
  | 1, _, h => exact h
  | 2, _, h => exact h
  | 3, _, h => exact h
  | 4, _, h => exact h
  | 5, _, h => exact h
  | 6, _, h => exact h
  | 7, _, h => exact h
  | 8, _, h => exact h
  | 9, _, h => exact h
  | 10, _, h => exact h
  | 11, _, h => exact h
  | 12, _, h => exact h
  | 13, _, h => obtain ⟨g, e, h⟩ := h; exact ⟨g, e, block_kept h hb⟩
  | 14, _, h => obtain ⟨g, vs, e, h⟩ := h; exact ⟨g, vs, e, h.below hb⟩
  | 15, _, h => exact TextIn.below h hb
  | 16, _, h => exact h
  | 17, _, h => exact h
  | 18, _, h => exact h
  | 19, _, h => exact h
  | 20, _, h => exact h
  | k + 21, hi, _ => exact absurd hi (by omega)

/-- What the operations ahead of the store in region 4 leave. -/
def C4 (sv : Value) (B : Nat) (S : SetP) (va : Value) (L : List Txt) : Nat → Value → World → Prop
  | 0, v, _ => v = sv
  | 1, v, _ => v = va
  | 2, v, w => ∃ g, v = .slice (some ⟨g, 0, none⟩) 1 1 ∧ w.heap[g]? = some (.cells #[.string (mkT [122])] 9 (0, 0))
  | 3, v, w => ∃ g vs, v = .slice (some ⟨g, 0, none⟩) 2 2 ∧ RowsIn w g vs [L.map mkT, [mkT [122]]]
  | 4, v, w => TextIn w v ((L ++ [[122]]).map mkT)
  | 5, v, w => HeardOwn w (psOf none true (goes S none st0 (L ++ [[122]]))) (goes S none st0 (L ++ [[122]])).err S.flags.length v
  | 6, v, w => ∃ g, v = .pointer (some ⟨g, 0, none⟩) ∧ B ≤ g ∧ w.heap[g]? = some (.cells hdZero 32 (0, 0))
  | _, _, _ => True
theorem C4.below {sv : Value} {B : Nat} {S : SetP} {va : Value} {L : List Txt} {i : Nat} (hi : i < 7) {v : Value} {w w' : World} (h : C4 sv B S va L i v w) (hb : Below w.heap.size w w') : C4 sv B S va L i v w' := by
  match i, hi, h with
  | 0, _, h => exact h
  | 1, _, h => exact h
  | 2, _, h => obtain ⟨g, e, h⟩ := h; exact ⟨g, e, block_kept h hb⟩
  | 3, _, h => obtain ⟨g, vs, e, h⟩ := h; exact ⟨g, vs, e, h.below hb⟩
  | 4, _, h => exact TextIn.below h hb
  | 5, _, h => exact HeardOwn.below h hb
  | 6, _, h => obtain ⟨g, e, hB, h⟩ := h; exact ⟨g, e, hB, block_kept h hb⟩

/-- What stands behind a call of Parse. -/
def Said1 (w : World) (S : SetP) (st : St) (e : Ending) (w3 : World) : Prop := ∃ (ga : Option Addr) (gc : Nat) (ta : Option Addr) (tc : Nat) (ca : Option Addr) (cc : Nat), e = .returned (.agg #[.int .i64 (eNo st.err), .string (mkT (eName st.err)), .string (mkT (eShort st.err)), .string (mkT (eVal st.err)), .int .i64 (eFlag st.err), .slice ga st.given.length gc, .slice ta st.args.length tc, .int .i64 st.dash, .slice ca (chL (psOf none true st).chg S.flags.length).length cc, .bool true, .bool false]) ∧
  HdRows 0 w3 (psOf none true st) S.flags.length (.slice ga st.given.length gc) (.slice ta st.args.length tc) (.slice ca (chL (psOf none true st).chg S.flags.length).length cc) ∧ Below w.heap.size w w3
theorem said_of {w : World} {S : SetP} {st : St} {e : Ending} {w3 : World} (h : ∃ u, e = .returned u ∧ HeardOwn w3 (psOf none true st) st.err S.flags.length u ∧ Below w.heap.size w w3) : Said1 w S st e w3 := by
  obtain ⟨u, rfl, ⟨ga, gc, ta, tc, ca, cc, rfl, h⟩, hb⟩ := h
  exact ⟨ga, gc, ta, tc, ca, cc, rfl, h, hb⟩
theorem parse_s {w : World} {A : Option Addr} {S : SetP} (h : SetOK w A S) (cap : Nat) {v : Value} {L : List Txt} (hv : TextIn w v (L.map mkT)) (hwt : wt L ≤ 1099511627776) (hls : ∀ t ∈ L, t.length ≤ 8589934592) :
    Calls Try.prog 26 #[.agg #[.slice A S.flags.length cap, .bool S.plain, .bool S.unknown, .int .i64 S.fold], v] w (Said1 w S (goes S none st0 L)) := (parse_c h cap hv hwt hls).mono fun e w' h => said_of h

/-- What complete14 leaves. -/
def CompEnd (w : World) (S : SetP) (L : List Txt) (e : Ending) (w' : World) : Prop := ∃ b, e = .returned (.bool b) ∧ (b = true ↔ CompX S L) ∧ Below w.heap.size w w'
theorem compEnd {w : World} {S : SetP} {L : List Txt} {e : Ending} {w' : World} (b : Bool) (h : e = .returned (.bool b)) (k : b = true ↔ CompX S L) (hb : Below w.heap.size w w') : CompEnd w S L e w' := ⟨b, h, k, hb⟩

set_option maxRecDepth 100000 in
set_option maxHeartbeats 6400000 in
theorem complete_c {w : World} {A : Option Addr} {S : SetP} (hS : SetOK w A S) (cap : Nat) {va : Value} {L : List Txt} (hv : TextIn w va (L.map mkT)) (hwt : wt L ≤ 1099511627) (hls : ∀ t ∈ L, t.length ≤ 8589934592) :
    Calls Try.prog 33 #[setV A S cap, va] w (CompEnd w S L) := by
  have HP := Lib.hid (fun (W : World) (hb : Below w.heap.size w W) => parse_s (hS.below hb) cap (hv.below hb) (by omega) hls)
  have HB := Lib.hid (Below.refl w.heap.size w)
  have HPC := Lib.hid (fun (W : World) (hb : Below w.heap.size w W) (v : Value) (M : List Txt) (hv : TextIn W v (M.map mkT)) (hwt : wt M ≤ 1099511627776) (hls : ∀ t ∈ M, t.length ≤ 8589934592) => parse_c (hS.below hb) cap hv hwt hls)
  unfold setV
  generalize hplq : S.plain = pl at HP ⊢
  have HPL := Lib.hid hplq
  clear hplq
  generalize hst : goes S none st0 L = st at HP
  have HST := Lib.hid hst
  have HS := Lib.hid hS
  have HV := Lib.hid hv
  clear hst hS hv
  by_cases he : ¬ st.err = .no
  · have e0 : ¬ eNo st.err = 0 := fun q => he (eNo_zero.1 q)
    go_enter Try.func33, Try.ntmps33
    go_wp2_with ((with_reducible go_at_call 26); refine (HP.out _ (HB.out.alloc (Nat.le_refl _) _)).mono ?_; rintro e w3 ⟨ga, gc, ta, tc, ca, cc, rfl, hf, hb3⟩; have HF := Lib.hid hf; have HB3 : Hid (Below w.heap.size w w3) := (HB.out.alloc (Nat.le_refl _) _).trans (hb3.mono (by simp)); have HB4 : Hid (∀ o, Below w.heap.size w (w3.alloc o)) := (fun o => HB3.out.alloc HB3.out.size o); have l3 : w.heap.size < w3.heap.size := (by have := hb3.size; simp at this; omega); have q3 : w3.heap[w.heap.size]? = some (.cells #[.slice A S.flags.length cap, .bool pl, .bool S.unknown, .int .i64 S.fold] 24 (0, 0)) := block_kept (heap_alloc_new w _) hb3; have b1 : w3.cell? ⟨w.heap.size, 1, none⟩ = some (.bool pl) := (cell_blk q3 1).trans rfl; clear hb3 hf)
    go_ret
    exact compEnd false rfl ⟨fun h => (by cases h), fun h => (by have q := h.err; rw [HST.out] at q; exact absurd q he)⟩ (HB4.out _)
  have he : st.err = .no := Classical.byContradiction he
  by_cases hd : 0 ≤ st.dash
  · have e0 : eNo st.err = 0 := eNo_zero.2 he
    have e1 : ¬ st.dash < 0 := by omega
    go_enter Try.func33, Try.ntmps33
    go_wp2_with ((with_reducible go_at_call 26); refine (HP.out _ (HB.out.alloc (Nat.le_refl _) _)).mono ?_; rintro e w3 ⟨ga, gc, ta, tc, ca, cc, rfl, hf, hb3⟩; have HF := Lib.hid hf; have HB3 : Hid (Below w.heap.size w w3) := (HB.out.alloc (Nat.le_refl _) _).trans (hb3.mono (by simp)); have HB4 : Hid (∀ o, Below w.heap.size w (w3.alloc o)) := (fun o => HB3.out.alloc HB3.out.size o); have l3 : w.heap.size < w3.heap.size := (by have := hb3.size; simp at this; omega); have q3 : w3.heap[w.heap.size]? = some (.cells #[.slice A S.flags.length cap, .bool pl, .bool S.unknown, .int .i64 S.fold] 24 (0, 0)) := block_kept (heap_alloc_new w _) hb3; have b1 : w3.cell? ⟨w.heap.size, 1, none⟩ = some (.bool pl) := (cell_blk q3 1).trans rfl; clear hb3 hf)
    go_ret
    exact compEnd false rfl ⟨fun h => (by cases h), fun h => (by have q := h.dash; rw [HST.out] at q; omega)⟩ (HB4.out _)
  by_cases hp : pl = true ∧ st.args ≠ []
  · obtain ⟨hp1, hp2⟩ := hp
    have e0 : eNo st.err = 0 := eNo_zero.2 he
    have e1 : st.dash < 0 := by omega
    have e2 : ¬ 0 ≤ st.dash := hd
    have e4 : 0 < st.args.length := List.length_pos_iff.2 hp2
    subst hp1
    go_enter Try.func33, Try.ntmps33
    go_wp2_with ((with_reducible go_at_call 26); refine (HP.out _ (HB.out.alloc (Nat.le_refl _) _)).mono ?_; rintro e w3 ⟨ga, gc, ta, tc, ca, cc, rfl, hf, hb3⟩; have HF := Lib.hid hf; have HB3 : Hid (Below w.heap.size w w3) := (HB.out.alloc (Nat.le_refl _) _).trans (hb3.mono (by simp)); have HB4 : Hid (∀ o, Below w.heap.size w (w3.alloc o)) := (fun o => HB3.out.alloc HB3.out.size o); have l3 : w.heap.size < w3.heap.size := (by have := hb3.size; simp at this; omega); have q3 : w3.heap[w.heap.size]? = some (.cells #[.slice A S.flags.length cap, .bool true, .bool S.unknown, .int .i64 S.fold] 24 (0, 0)) := block_kept (heap_alloc_new w _) hb3; have b1 : w3.cell? ⟨w.heap.size, 1, none⟩ = some (.bool true) := (cell_blk q3 1).trans rfl; clear hb3 hf)
    go_ret
    exact compEnd false rfl ⟨fun h => (by cases h), fun h => (by have q := h.plain HPL.out; rw [HST.out] at q; exact absurd q hp2)⟩ (HB4.out _)
  have hor : pl = false ∨ (pl = true ∧ ¬ 0 < st.args.length) := by
    by_cases q : pl = true
    · right
      refine ⟨q, fun h0 => hp ⟨q, fun e => ?_⟩⟩
      rw [e] at h0; simp at h0
    · left; simpa using q
  have e0 : eNo st.err = 0 := eNo_zero.2 he
  have e1 : st.dash < 0 := by omega
  obtain ⟨va0, van, vac, hvae⟩ : ∃ a n c, va = .slice a n c := by obtain ⟨a, c, e, _⟩ := HV.out; exact ⟨_, _, _, e⟩
  subst hvae
  rcases hor with rfl | ⟨rfl, hl0⟩
  all_goals
    go_enter Try.func33, Try.ntmps33
    go_upto_region 4 with ((with_reducible go_at_call 26); refine (HP.out _ (HB.out.alloc (Nat.le_refl _) _)).mono ?_; rintro e w3 ⟨ga, gc, ta, tc, ca, cc, rfl, hf, hb3⟩; have HF := Lib.hid hf; have HB3 : Hid (Below w.heap.size w w3) := (HB.out.alloc (Nat.le_refl _) _).trans (hb3.mono (by simp)); have HB4 : Hid (∀ o, Below w.heap.size w (w3.alloc o)) := (fun o => HB3.out.alloc HB3.out.size o); have l3 : w.heap.size < w3.heap.size := (by have := hb3.size; simp at this; omega); have q3 : w3.heap[w.heap.size]? = some (.cells #[.slice A S.flags.length cap, .bool _, .bool S.unknown, .int .i64 S.fold] 24 (0, 0)) := block_kept (heap_alloc_new w _) hb3; have b1 : w3.cell? ⟨w.heap.size, 1, none⟩ = some (.bool _) := (cell_blk q3 1).trans rfl; clear hb3 hf)
  all_goals
    generalize hWX : w3.alloc _ = WX
    have hbx : Below w.heap.size w WX := by rw [← hWX]; exact HB4.out _
    have hb9 : Below w3.heap.size w3 WX := by rw [← hWX]; exact (Below.refl _ _).alloc (Nat.le_refl _) _
    have hqx := block_kept q3 hb9
    have hh5 : WX.cell? ⟨w3.heap.size, 5, none⟩ = some (.slice ga st.given.length gc) := by rw [← hWX]; exact (cell_blk (heap_alloc_new w3 _) 5).trans rfl
    have hh6 : WX.cell? ⟨w3.heap.size, 6, none⟩ = some (.slice ta st.args.length tc) := by rw [← hWX]; exact (cell_blk (heap_alloc_new w3 _) 6).trans rfl
    have hlx : w3.heap.size < WX.heap.size := by rw [← hWX]; simp
    have HVX := Lib.hid (HV.out.below hbx)
    clear hWX b1
    refine region_inv (by kernel_rfl) (fun u v => Below u.heap.size u v) (C4 (.agg #[.slice A S.flags.length cap, .bool S.plain, .bool S.unknown, .int .i64 S.fold]) WX.heap.size S (.slice va0 van vac) L) (fun i => decide (i = 6)) (fun i => [28, 29, 30, 31, 32, 33, 6].getD i 0) 7
      (Below.refl _ _) (fun _ _ _ h k => below_step h k) (fun i hi v u u' h hb => C4.below hi h hb) ?_ (hgd_none (by kernel_rfl)) (by kernel_rfl) (by kernel_rfl) (by kernel_rfl) (by kernel_rfl) ?_ ?_
    · intro i hi hA v u h
      have : i = 6 := of_decide_eq_true hA
      subst this
      obtain ⟨g, rfl, _, h⟩ := h
      exact in_of h
    · intro i hi o ho a u hG hk hd
      have hG9 : Below WX.heap.size WX u := ((Below.refl _ _).drew).trans hG
      have hlenL : ∀ t : Txt, t ∈ L ++ [[122]] → t.length ≤ 8589934592 := by
        intro t ht
        rcases List.mem_append.1 ht with h | h
        · exact hls t h
        · simp only [List.mem_singleton] at h; subst h; decide
      match i, hi with
      | 0, _ =>
        simp only [List.getElem?_toArray, List.getElem?_cons_zero, List.getElem?_cons_succ, Option.some.injEq] at ho
        subst ho
        exact ow_load_set rfl ((hk 2 (by decide)).trans rfl) (block_kept hqx hG9) ⟨_, rfl, by (show _ = _; rw [HPL.out]), Below.refl _ _, fun h => by cases h⟩
      | 1, _ =>
        simp only [List.getElem?_toArray, List.getElem?_cons_zero, List.getElem?_cons_succ, Option.some.injEq] at ho
        subst ho
        exact ow_move rfl ((hk 1 (by decide)).trans rfl) ⟨_, rfl, rfl, Below.refl _ _, fun h => by cases h⟩
      | 2, _ =>
        simp only [List.getElem?_toArray, List.getElem?_cons_zero, List.getElem?_cons_succ, Option.some.injEq] at ho
        subst ho
        exact ow_build1 (s := mkT [122]) (v := .nilIface) rfl rfl ⟨_, rfl, ⟨_, rfl, heap_alloc_new _ _⟩, (Below.refl _ _).alloc (Nat.le_refl _) _, fun h => by cases h⟩
      | 3, _ =>
        simp only [List.getElem?_toArray, List.getElem?_cons_zero, List.getElem?_cons_succ, Option.some.injEq] at ho
        subst ho
        have h29 : a.eval (.tmp 29) = .slice va0 van vac := hd 1 (by kernel_rfl) (by decide)
        obtain ⟨g, h30, hg⟩ := hd 2 (by kernel_rfl) (by decide)
        exact ow_rows2 rfl h29 h30 ⟨_, rfl, ⟨_, _, rfl, rows2 (heap_alloc_new _ _) ((HVX.out.below hG9).below ((Below.refl _ _).alloc (Nat.le_refl _) _)) ((one_text hg).below ((Below.refl _ _).alloc (Nat.le_refl _) _))⟩, (Below.refl _ _).alloc (Nat.le_refl _) _, fun h => by cases h⟩
      | 4, _ =>
        simp only [List.getElem?_toArray, List.getElem?_cons_zero, List.getElem?_cons_succ, Option.some.injEq] at ho
        subst ho
        obtain ⟨g, vs, h31', hr⟩ := hd 3 (by kernel_rfl) (by decide)
        have h31 : a.eval (.tmp 31) = .slice (some ⟨g, 0, none⟩) 2 2 := h31'
        have hlen := wt_len L
        have hl14 : Calls Try.prog 27 #[.slice (some ⟨g, 0, none⟩) 2 2] u _ := list14_c (ls := [L.map mkT, [mkT [122]]]) hr (by (show 2 ≤ 2147483647; decide)) (Nat.le_refl 2) (by simp; omega)
        refine ow_call #[.tmp 31] #[68] 27 Try.func27 (by kernel_rfl) (by rfl) rfl #[.slice (some ⟨g, 0, none⟩) 2 2] (by simp only [List.map_toArray, List.map_cons, List.map_nil, h31]) hl14 ?_
        rintro e u2 ⟨v, rfl, hv2, hb2⟩
        refine ⟨v, rfl, _, rfl, ?_, hb2, fun h => by cases h⟩
        show TextIn u2 v ((L ++ [[122]]).map mkT)
        rw [← map_snoc]
        simpa using hv2
      | 5, _ =>
        simp only [List.getElem?_toArray, List.getElem?_cons_zero, List.getElem?_cons_succ, Option.some.injEq] at ho
        subst ho
        have h28 : a.eval (.tmp 28) = .agg #[.slice A S.flags.length cap, .bool S.plain, .bool S.unknown, .int .i64 S.fold] := hd 0 (by kernel_rfl) (by decide)
        have h32 : TextIn u (a.eval (.tmp 32)) ((L ++ [[122]]).map mkT) := hd 4 (by kernel_rfl) (by decide)
        refine ow_call #[.tmp 28, .tmp 32] #[24, 25] 26 Try.func26 (by kernel_rfl) (by rfl) rfl #[.agg #[.slice A S.flags.length cap, .bool S.plain, .bool S.unknown, .int .i64 S.fold], a.eval (.tmp 32)] (by simp only [List.map_toArray, List.map_cons, List.map_nil, h28]) (HPC.out u (hbx.trans (hG9.mono hbx.size)) _ _ h32 (by rw [wt_app]; (show wt L + 2 ≤ _); omega) hlenL) ?_
        rintro e u2 ⟨v, rfl, hv2, hb2⟩
        exact ⟨v, rfl, _, rfl, hv2, hb2, fun h => by cases h⟩
      | 6, _ =>
        simp only [List.getElem?_toArray, List.getElem?_cons_zero, List.getElem?_cons_succ, Option.some.injEq] at ho
        subst ho
        exact ow_alloc_hd rfl ⟨_, rfl, ⟨_, rfl, hG9.size, heap_alloc_new _ _⟩, (Below.refl _ _).alloc (Nat.le_refl _) _, fun _ => not_in⟩
    · intro x u hG hx hdif
      have hG9 : Below WX.heap.size WX u := ((Below.refl _ _).drew).trans hG
      obtain ⟨g6, e6, hB6, hg6⟩ := hx 6 (by decide)
      obtain ⟨ga2, gc2, ta2, tc2, ca2, cc2, e5, hrow⟩ := hx 5 (by decide)
      simp only [putAll, Act.put, List.getD_cons_zero, List.getD_cons_succ, List.setIfInBounds_toArray, List.set_cons_succ, List.set_cons_zero]
      refine wpAny_last (i := 7) (by kernel_rfl) rfl rfl (by kernel_rfl) ?_
      refine ow_store_hd (s := psOf none true (goes S none st0 (L ++ [[122]]))) (er := (goes S none st0 (L ++ [[122]])).err) (n := S.flags.length) rfl rfl e6 e5 hg6 ?_
      rw [e6]
      generalize hst2 : goes S none st0 (L ++ [[122]]) = st2 at hrow ⊢
      have HST2 := Lib.hid hst2
      clear hst2
      have hU : (hdPut u g6 (psOf none true st2) st2.err (.slice ga2 (psOf none true st2).G.length gc2) (.slice ta2 (psOf none true st2).A.length tc2) (.slice ca2 (chL (psOf none true st2).chg S.flags.length).length cc2)).heap[g6]? = _ := hdPut_blk (psOf none true st2) st2.err S.flags.length _ _ _ hg6
      have hrow2 := hrow.put (t := psOf none true st2) (er := st2.err) (G' := .slice ga2 (psOf none true st2).G.length gc2) (A' := .slice ta2 (psOf none true st2).A.length tc2) (C' := .slice ca2 (chL (psOf none true st2).chg S.flags.length).length cc2) hg6
      have hrow1 := ((HF.out.below hb9).below hG9).put (t := psOf none true st2) (er := st2.err) (G' := .slice ga2 (psOf none true st2).G.length gc2) (A' := .slice ta2 (psOf none true st2).A.length tc2) (C' := .slice ca2 (chL (psOf none true st2).chg S.flags.length).length cc2) hg6
      have hbU : Below WX.heap.size WX (hdPut u g6 (psOf none true st2) st2.err (.slice ga2 (psOf none true st2).G.length gc2) (.slice ta2 (psOf none true st2).A.length tc2) (.slice ca2 (chL (psOf none true st2).chg S.flags.length).length cc2)) := hdPut_below _ _ _ _ _ hG9 hB6
      generalize hUX : hdPut u g6 (psOf none true st2) st2.err (.slice ga2 (psOf none true st2).G.length gc2) (.slice ta2 (psOf none true st2).A.length tc2) (.slice ca2 (chL (psOf none true st2).chg S.flags.length).length cc2) = U at hU hrow1 hrow2 hbU ⊢
      clear hUX
      obtain ⟨q5, hq5⟩ : ∃ q, q = w3.heap.size := ⟨_, rfl⟩
      have y0 : U.cell? ⟨g6, 0, none⟩ = some (.int .i64 (eNo st2.err)) := (cell_blk hU 0).trans rfl
      have y2 : U.cell? ⟨g6, 5, none⟩ = some (.slice ga2 st2.given.length gc2) := (cell_blk hU 5).trans rfl
      have y4 : U.cell? ⟨g6, 6, none⟩ = some (.slice ta2 st2.args.length tc2) := (cell_blk hU 6).trans rfl
      have y1 := cell_kept hbU hh5
      have y3 := cell_kept hbU hh6
      have hlg : g6 < U.heap.size := lt_of_block hU
      have hlq : w3.heap.size < U.heap.size := Nat.lt_of_lt_of_le hlx hbU.size
      have hbwU : Below w.heap.size w U := hbx.trans (hbU.mono hbx.size)
      obtain ⟨_, r11, r12, r13, _⟩ := own_full hrow1.1
      obtain ⟨_, r21, r22, r23, _⟩ := own_full hrow2.1
      have HTA := Lib.hid ((show TextIn U (.slice ta st.args.length tc) (st.args.map mkT) from by have h := hrow1.hdIn.2.1; exact h))
      have HTB := Lib.hid ((show TextIn U (.slice ta2 st2.args.length tc2) (st2.args.map mkT) from by have h := hrow2.hdIn.2.1; exact h))
      have hlA : st.given.length ≤ 1099511627776 ∧ st.args.length ≤ 1099511627776 := by
        have h := goes_len S none st0 L
        rw [HST.out] at h
        have h1 : st.given.length ≤ 0 + wt L := h.1
        have h2 : st.args.length ≤ 0 + L.length := h.2
        have := wt_len L
        omega
      have hlB : st2.given.length ≤ 1099511627776 := by
        have h := (goes_len S none st0 (L ++ [[122]])).1
        rw [HST2.out, wt_app] at h
        have h1 : st2.given.length ≤ 0 + (wt L + 2) := h
        omega
      have HSG := Lib.hid (fun (W : World) (hb : Below U.heap.size U W) => (show Calls Try.prog 34 #[.slice ga st.given.length gc, .slice ga2 st2.given.length gc2] W (fun e w' => e = .returned (.bool (decide (st.given = st2.given))) ∧ Below W.heap.size W w') from sameGiven_c (rowAt_below r11 hb) r12 hlA.1 (rowAt_below r21 hb) r22 hlB))
      clear hrow1 hrow2 r11 r12 r13 r21 r22 r23 hU hrow hg6 e6 e5 hh5 hh6 hqx
      by_cases hz : ¬ st2.err = .no
      · have z0 : ¬ eNo st2.err = 0 := fun q => hz (eNo_zero.1 q)
        have Y0 := bq_cell y0
        go_upto_region 5 with fail
        refine wp_region_bq (by kernel_rfl) (by kernel_rfl) ?_
        repeat (refine WQ.step (fun K hK => ?_); go_simp; first | (refine hK _ ?_; clear hK K) | (apply Exists.intro; refine ⟨fun p9 => ?_, hK _ ?_⟩; (fail); clear hK K))
        refine WQ.nil ?_
        intro wq HBQ
        clear Y0
        go_wp2
        go_ret
        exact compEnd false rfl ⟨fun h => (by cases h), fun h => (by have q := h.err2; rw [HST2.out] at q; exact absurd q hz)⟩ (hbwU.trans (HBQ.mono hbwU.size))
      have hz : st2.err = .no := Classical.byContradiction hz
      have z0 : eNo st2.err = 0 := eNo_zero.2 hz
      rw [z0] at y0
      have y0 : U.cell? ⟨g6, 0, none⟩ = some (.int .i64 0) := y0
      by_cases hg : ¬ st.given = st2.given
      · have HSG := Lib.hid (fun (W : World) (hb : Below U.heap.size U W) => (HSG.out W hb))
        rw [decide_eq_false hg] at HSG
        have Y0 := bq_cell y0
        have Y1 := bq_cell y1
        have Y2 := bq_cell y2
        go_upto_region 5 with fail
        refine wp_region_bq (by kernel_rfl) (by kernel_rfl) ?_
        repeat (refine WQ.step (fun K hK => ?_); go_simp; first | (refine hK _ ?_; clear hK K) | (apply Exists.intro; refine ⟨fun p9 => ?_, hK _ ?_⟩; (exact bq_below (HSG.out p9.W p9.h)); clear hK K))
        refine WQ.nil ?_
        intro wq HBQ
        clear Y0 Y1 Y2
        go_wp2
        go_ret
        exact compEnd false rfl ⟨fun h => (by cases h), fun h => (by have q := h.giv; rw [HST.out, HST2.out] at q; exact absurd q hg)⟩ (hbwU.trans (HBQ.mono hbwU.size))
      have hg : st.given = st2.given := Classical.byContradiction hg
      rw [decide_eq_true hg] at HSG
      go_upto_region 5 with fail
      refine region_inv (by kernel_rfl) (fun u v => Below u.heap.size u v) (C5 w3.heap.size g6 (.slice ga st.given.length gc) (.slice ga2 st2.given.length gc2) (.slice ta st.args.length tc) (.slice ta2 st2.args.length tc2) st st2) (fun i => false) (fun i => [34, 35, 36, 37, 38, 39, 40, 41, 42, 43, 44, 45, 46, 47, 48, 49, 50, 51, 52, 53, 4].getD i 0) 21
        (Below.refl _ _) (fun _ _ _ h k => below_step h k) (fun i hi v u u' h hb => C5.below hi h hb) ?_ ?_ (by kernel_rfl) (by kernel_rfl) (by kernel_rfl) (by kernel_rfl) ?_ ?_
      · intro i hi hA; cases hA
      · intro i hi o ho g want hg v u hR
        match i, hi with
        | 0, _ =>
          simp only [List.getElem?_toArray, List.getElem?_cons_zero, List.getElem?_cons_succ, Option.some.injEq] at ho
          subst ho
          cases hg
        | 1, _ =>
          simp only [List.getElem?_toArray, List.getElem?_cons_zero, List.getElem?_cons_succ, Option.some.injEq] at ho
          subst ho
          cases hg
        | 2, _ =>
          simp only [List.getElem?_toArray, List.getElem?_cons_zero, List.getElem?_cons_succ, Option.some.injEq] at ho
          subst ho
          cases hg
        | 3, _ =>
          simp only [List.getElem?_toArray, List.getElem?_cons_zero, List.getElem?_cons_succ, Option.some.injEq] at ho
          subst ho
          cases hg
        | 4, _ =>
          simp only [List.getElem?_toArray, List.getElem?_cons_zero, List.getElem?_cons_succ, Option.some.injEq] at ho
          subst ho
          cases hg; exact hR
        | 5, _ =>
          simp only [List.getElem?_toArray, List.getElem?_cons_zero, List.getElem?_cons_succ, Option.some.injEq] at ho
          subst ho
          cases hg; exact hR
        | 6, _ =>
          simp only [List.getElem?_toArray, List.getElem?_cons_zero, List.getElem?_cons_succ, Option.some.injEq] at ho
          subst ho
          cases hg; exact hR
        | 7, _ =>
          simp only [List.getElem?_toArray, List.getElem?_cons_zero, List.getElem?_cons_succ, Option.some.injEq] at ho
          subst ho
          cases hg; exact hR
        | 8, _ =>
          simp only [List.getElem?_toArray, List.getElem?_cons_zero, List.getElem?_cons_succ, Option.some.injEq] at ho
          subst ho
          cases hg; exact hR
        | 9, _ =>
          simp only [List.getElem?_toArray, List.getElem?_cons_zero, List.getElem?_cons_succ, Option.some.injEq] at ho
          subst ho
          cases hg
        | 10, _ =>
          simp only [List.getElem?_toArray, List.getElem?_cons_zero, List.getElem?_cons_succ, Option.some.injEq] at ho
          subst ho
          cases hg
        | 11, _ =>
          simp only [List.getElem?_toArray, List.getElem?_cons_zero, List.getElem?_cons_succ, Option.some.injEq] at ho
          subst ho
          cases hg; exact hR
        | 12, _ =>
          simp only [List.getElem?_toArray, List.getElem?_cons_zero, List.getElem?_cons_succ, Option.some.injEq] at ho
          subst ho
          cases hg; exact hR
        | 13, _ =>
          simp only [List.getElem?_toArray, List.getElem?_cons_zero, List.getElem?_cons_succ, Option.some.injEq] at ho
          subst ho
          cases hg; exact hR
        | 14, _ =>
          simp only [List.getElem?_toArray, List.getElem?_cons_zero, List.getElem?_cons_succ, Option.some.injEq] at ho
          subst ho
          cases hg; exact hR
        | 15, _ =>
          simp only [List.getElem?_toArray, List.getElem?_cons_zero, List.getElem?_cons_succ, Option.some.injEq] at ho
          subst ho
          cases hg; exact hR
        | 16, _ =>
          simp only [List.getElem?_toArray, List.getElem?_cons_zero, List.getElem?_cons_succ, Option.some.injEq] at ho
          subst ho
          cases hg; exact hR
        | 17, _ =>
          simp only [List.getElem?_toArray, List.getElem?_cons_zero, List.getElem?_cons_succ, Option.some.injEq] at ho
          subst ho
          cases hg; exact hR
        | 18, _ =>
          simp only [List.getElem?_toArray, List.getElem?_cons_zero, List.getElem?_cons_succ, Option.some.injEq] at ho
          subst ho
          cases hg; exact hR
        | 19, _ =>
          simp only [List.getElem?_toArray, List.getElem?_cons_zero, List.getElem?_cons_succ, Option.some.injEq] at ho
          subst ho
          cases hg
        | 20, _ =>
          simp only [List.getElem?_toArray, List.getElem?_cons_zero, List.getElem?_cons_succ, Option.some.injEq] at ho
          subst ho
          cases hg
        | k + 21, hi => exact absurd hi (by omega)
      · intro i hi o ho a u hG hk hd
        have hG9 : Below U.heap.size U u := ((Below.refl _ _).drew).trans hG
        match i, hi with
        | 0, _ =>
          simp only [List.getElem?_toArray, List.getElem?_cons_zero, List.getElem?_cons_succ, Option.some.injEq] at ho
          subst ho
          exact ow_field_hd (i := 0) (by decide) rfl ((hk 6 (by decide)).trans rfl) ⟨_, rfl, rfl, Below.refl _ _, fun h => by cases h⟩
        | 1, _ =>
          simp only [List.getElem?_toArray, List.getElem?_cons_zero, List.getElem?_cons_succ, Option.some.injEq] at ho
          subst ho
          have h34 : a.eval (.tmp 34) = .pointer (some ⟨g6, 0, none⟩) := hd 0 (by kernel_rfl) (by decide)
          exact ow_load_int rfl h34 (cell_kept hG9 y0) ⟨_, rfl, rfl, Below.refl _ _, fun h => by cases h⟩
        | 2, _ =>
          simp only [List.getElem?_toArray, List.getElem?_cons_zero, List.getElem?_cons_succ, Option.some.injEq] at ho
          subst ho
          have h35 : a.eval (.tmp 35) = .int .i64 0 := hd 1 (by kernel_rfl) (by decide)
          exact ow_eql_int rfl h35 rfl ⟨_, rfl, rfl, Below.refl _ _, fun h => by cases h⟩
        | 3, _ =>
          simp only [List.getElem?_toArray, List.getElem?_cons_zero, List.getElem?_cons_succ, Option.some.injEq] at ho
          subst ho
          have h36 : a.eval (.tmp 36) = .bool true := hd 2 (by kernel_rfl) (by decide)
          exact ow_move rfl h36 ⟨_, rfl, rfl, Below.refl _ _, fun h => by cases h⟩
        | 4, _ =>
          simp only [List.getElem?_toArray, List.getElem?_cons_zero, List.getElem?_cons_succ, Option.some.injEq] at ho
          subst ho
          exact ow_field_hd (i := 5) (by decide) rfl ((hk 5 (by decide)).trans rfl) ⟨_, rfl, rfl, Below.refl _ _, fun h => by cases h⟩
        | 5, _ =>
          simp only [List.getElem?_toArray, List.getElem?_cons_zero, List.getElem?_cons_succ, Option.some.injEq] at ho
          subst ho
          have h38 : a.eval (.tmp 38) = .pointer (some ⟨w3.heap.size, 5, none⟩) := hd 4 (by kernel_rfl) (by decide)
          exact ow_load_given rfl h38 (cell_kept hG9 y1) ⟨_, rfl, rfl, Below.refl _ _, fun h => by cases h⟩
        | 6, _ =>
          simp only [List.getElem?_toArray, List.getElem?_cons_zero, List.getElem?_cons_succ, Option.some.injEq] at ho
          subst ho
          exact ow_field_hd (i := 5) (by decide) rfl ((hk 6 (by decide)).trans rfl) ⟨_, rfl, rfl, Below.refl _ _, fun h => by cases h⟩
        | 7, _ =>
          simp only [List.getElem?_toArray, List.getElem?_cons_zero, List.getElem?_cons_succ, Option.some.injEq] at ho
          subst ho
          have h40 : a.eval (.tmp 40) = .pointer (some ⟨g6, 5, none⟩) := hd 6 (by kernel_rfl) (by decide)
          exact ow_load_given rfl h40 (cell_kept hG9 y2) ⟨_, rfl, rfl, Below.refl _ _, fun h => by cases h⟩
        | 8, _ =>
          simp only [List.getElem?_toArray, List.getElem?_cons_zero, List.getElem?_cons_succ, Option.some.injEq] at ho
          subst ho
          have h39 : a.eval (.tmp 39) = _ := hd 5 (by kernel_rfl) (by decide)
          have h41 : a.eval (.tmp 41) = _ := hd 7 (by kernel_rfl) (by decide)
          refine ow_call #[.tmp 39, .tmp 41] #[29, 29] 34 Try.func34 (by kernel_rfl) (by rfl) rfl #[_, _] (by simp only [List.map_toArray, List.map_cons, List.map_nil, h39, h41]) (HSG.out u hG9) ?_
          rintro e u2 ⟨rfl, hb2⟩
          exact ⟨_, rfl, _, rfl, rfl, hb2, fun h => by cases h⟩
        | 9, _ =>
          simp only [List.getElem?_toArray, List.getElem?_cons_zero, List.getElem?_cons_succ, Option.some.injEq] at ho
          subst ho
          have h37 : a.eval (.tmp 37) = .bool true := hd 3 (by kernel_rfl) (by decide)
          have h42 : a.eval (.tmp 42) = .bool true := hd 8 (by kernel_rfl) (by decide)
          exact ow_pick rfl h37 h42 ⟨_, rfl, rfl, Below.refl _ _, fun h => by cases h⟩
        | 10, _ =>
          simp only [List.getElem?_toArray, List.getElem?_cons_zero, List.getElem?_cons_succ, Option.some.injEq] at ho
          subst ho
          have h43 : a.eval (.tmp 43) = .bool true := hd 9 (by kernel_rfl) (by decide)
          exact ow_move rfl h43 ⟨_, rfl, rfl, Below.refl _ _, fun h => by cases h⟩
        | 11, _ =>
          simp only [List.getElem?_toArray, List.getElem?_cons_zero, List.getElem?_cons_succ, Option.some.injEq] at ho
          subst ho
          exact ow_field_hd (i := 6) (by decide) rfl ((hk 5 (by decide)).trans rfl) ⟨_, rfl, rfl, Below.refl _ _, fun h => by cases h⟩
        | 12, _ =>
          simp only [List.getElem?_toArray, List.getElem?_cons_zero, List.getElem?_cons_succ, Option.some.injEq] at ho
          subst ho
          have h45 : a.eval (.tmp 45) = .pointer (some ⟨w3.heap.size, 6, none⟩) := hd 11 (by kernel_rfl) (by decide)
          exact ow_load_texts rfl h45 (cell_kept hG9 y3) ⟨_, rfl, rfl, Below.refl _ _, fun h => by cases h⟩
        | 13, _ =>
          simp only [List.getElem?_toArray, List.getElem?_cons_zero, List.getElem?_cons_succ, Option.some.injEq] at ho
          subst ho
          exact ow_build1 (s := mkT [122]) (v := .nilIface) rfl rfl ⟨_, rfl, ⟨_, rfl, heap_alloc_new _ _⟩, (Below.refl _ _).alloc (Nat.le_refl _) _, fun h => by cases h⟩
        | 14, _ =>
          simp only [List.getElem?_toArray, List.getElem?_cons_zero, List.getElem?_cons_succ, Option.some.injEq] at ho
          subst ho
          have h46 : a.eval (.tmp 46) = .slice ta st.args.length tc := hd 12 (by kernel_rfl) (by decide)
          obtain ⟨g, h47, hg⟩ := hd 13 (by kernel_rfl) (by decide)
          exact ow_rows2 rfl h46 h47 ⟨_, rfl, ⟨_, _, rfl, rows2 (heap_alloc_new _ _) ((HTA.out.below hG9).below ((Below.refl _ _).alloc (Nat.le_refl _) _)) ((one_text hg).below ((Below.refl _ _).alloc (Nat.le_refl _) _))⟩, (Below.refl _ _).alloc (Nat.le_refl _) _, fun h => by cases h⟩
        | 15, _ =>
          simp only [List.getElem?_toArray, List.getElem?_cons_zero, List.getElem?_cons_succ, Option.some.injEq] at ho
          subst ho
          obtain ⟨g, vs, h48', hr⟩ := hd 14 (by kernel_rfl) (by decide)
          have h48 : a.eval (.tmp 48) = .slice (some ⟨g, 0, none⟩) 2 2 := h48'
          have hl14 : Calls Try.prog 27 #[.slice (some ⟨g, 0, none⟩) 2 2] u _ := list14_c (ls := [st.args.map mkT, [mkT [122]]]) hr (by (show 2 ≤ 2147483647; decide)) (Nat.le_refl 2) (by simp; omega)
          refine ow_call #[.tmp 48] #[68] 27 Try.func27 (by kernel_rfl) (by rfl) rfl #[.slice (some ⟨g, 0, none⟩) 2 2] (by simp only [List.map_toArray, List.map_cons, List.map_nil, h48]) hl14 ?_
          rintro e u2 ⟨v, rfl, hv2, hb2⟩
          refine ⟨v, rfl, _, rfl, ?_, hb2, fun h => by cases h⟩
          show TextIn u2 v ((st.args ++ [[122]]).map mkT)
          rw [← map_snoc]
          simpa using hv2
        | 16, _ =>
          simp only [List.getElem?_toArray, List.getElem?_cons_zero, List.getElem?_cons_succ, Option.some.injEq] at ho
          subst ho
          exact ow_field_hd (i := 6) (by decide) rfl ((hk 6 (by decide)).trans rfl) ⟨_, rfl, rfl, Below.refl _ _, fun h => by cases h⟩
        | 17, _ =>
          simp only [List.getElem?_toArray, List.getElem?_cons_zero, List.getElem?_cons_succ, Option.some.injEq] at ho
          subst ho
          have h50 : a.eval (.tmp 50) = .pointer (some ⟨g6, 6, none⟩) := hd 16 (by kernel_rfl) (by decide)
          exact ow_load_texts rfl h50 (cell_kept hG9 y4) ⟨_, rfl, rfl, Below.refl _ _, fun h => by cases h⟩
        | 18, _ =>
          simp only [List.getElem?_toArray, List.getElem?_cons_zero, List.getElem?_cons_succ, Option.some.injEq] at ho
          subst ho
          have h49 : TextIn u (a.eval (.tmp 49)) ((st.args ++ [[122]]).map mkT) := hd 15 (by kernel_rfl) (by decide)
          have h51 : a.eval (.tmp 51) = _ := hd 17 (by kernel_rfl) (by decide)
          refine ow_call #[.tmp 49, .tmp 51] #[25, 25] 23 Try.func23 (by kernel_rfl) (by rfl) rfl #[a.eval (.tmp 49), _] (by simp only [List.map_toArray, List.map_cons, List.map_nil, h51]) (sameTexts_c h49 (HTB.out.below hG9) (by simp; omega)) ?_
          rintro e u2 ⟨rfl, hb2⟩
          exact ⟨_, rfl, _, rfl, rfl, hb2, fun h => by cases h⟩
        | 19, _ =>
          simp only [List.getElem?_toArray, List.getElem?_cons_zero, List.getElem?_cons_succ, Option.some.injEq] at ho
          subst ho
          have h44 : a.eval (.tmp 44) = .bool true := hd 10 (by kernel_rfl) (by decide)
          have h52 : a.eval (.tmp 52) = _ := hd 18 (by kernel_rfl) (by decide)
          exact ow_pick rfl h44 h52 ⟨_, rfl, rfl, Below.refl _ _, fun h => by cases h⟩
        | 20, _ =>
          simp only [List.getElem?_toArray, List.getElem?_cons_zero, List.getElem?_cons_succ, Option.some.injEq] at ho
          subst ho
          have h53 : a.eval (.tmp 53) = _ := hd 19 (by kernel_rfl) (by decide)
          exact ow_assign rfl h53 ⟨_, rfl, rfl, Below.refl _ _, fun h => by cases h⟩
        | k + 21, hi => exact absurd hi (by omega)
      · intro x u hG hx hdif
        have e20 : x 20 = _ := hx 20 (by decide)
        simp only [putAll, Act.put, List.getD_cons_zero, List.getD_cons_succ, List.setIfInBounds_toArray, List.set_cons_succ, List.set_cons_zero]
        refine wpAny_end (by kernel_rfl) ?_
        rw [e20]
        go_wp2
        go_ret
        refine compEnd _ rfl ⟨fun hb => ⟨by rw [HST.out]; exact he, by rw [HST.out]; exact e1, fun hpl => ?_, by rw [HST2.out]; exact hz, by rw [HST.out, HST2.out]; exact hg, ?_⟩, fun h => ?_⟩ (hbwU.trans ((((Below.refl _ _).drew).trans hG).mono hbwU.size))
        · rw [HST.out]
          have := HPL.out
          rw [hpl] at this
          first
            | exact absurd this (by decide)
            | exact List.eq_nil_of_length_eq_zero (by omega)
        · rw [HST.out, HST2.out]
          have h := of_decide_eq_true hb
          rw [map_snoc] at h
          exact (map_mkT_inj h).symm
        · have q := h.more
          rw [HST.out, HST2.out] at q
          rw [q]
          exact decide_eq_true (by simp)
theorem complete_yes {w : World} {A : Option Addr} {S : SetP} (hS : SetOK w A S) (cap : Nat) {va : Value} {L : List Txt} (hv : TextIn w va (L.map mkT)) (hwt : wt L ≤ 1099511627) (hls : ∀ t ∈ L, t.length ≤ 8589934592) (h : CompX S L) :
    Calls Try.prog 33 #[setV A S cap, va] w fun e w' => e = .returned (.bool true) ∧ Below w.heap.size w w' :=
  (complete_c hS cap hv hwt hls).mono fun e w' ⟨b, he, hb, hw⟩ => by
    have := hb.2 h
    subst this
    exact ⟨he, hw⟩
theorem complete_no {w : World} {A : Option Addr} {S : SetP} (hS : SetOK w A S) (cap : Nat) {va : Value} {L : List Txt} (hv : TextIn w va (L.map mkT)) (hwt : wt L ≤ 1099511627) (hls : ∀ t ∈ L, t.length ≤ 8589934592) (h : ¬ CompX S L) :
    Calls Try.prog 33 #[setV A S cap, va] w fun e w' => e = .returned (.bool false) ∧ Below w.heap.size w w' :=
  (complete_c hS cap hv hwt hls).mono fun e w' ⟨b, he, hb, hw⟩ => by
    cases b with
    | false => exact ⟨he, hw⟩
    | true => exact absurd (hb.1 rfl) h
end Go.Proofs.Ytgmhhdpggnmipaa.E
