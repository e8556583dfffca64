/- impl.ParseAll's function, which parsing hands flags and values to, over this seat's program. -/
import Derived.Test.YtgmhhdpggnmipaaOw
import Derived.Test.YtgmhhdpggnmipaaInvX
namespace Go.Proofs.Ytgmhhdpggnmipaa.E
open Go.RowKit Go.Proofs
open Go.Maps (Keyed)
set_option linter.unusedVariables false
set_option linter.unusedSimpArgs false

section
variable {o : Oper} {a : Act} {w : World} {K : Act → World → Prop} {Q : Exit → Act → World → Prop}
theorem ow_load_whole {x : Operand} {b i : Nat} {v : Value} (ho : o.op = .load 82 x) (hx : a.eval x = .pointer (some ⟨b, i, none⟩)) (hb : w.cell? ⟨b, i, none⟩ = some v) (h : K (a.put o.dst v) w) : Oper.wp Try.prog o a w K Q := by
  unfold Oper.wp
  simp [execOp, ho, hx]
  go_simp
  exact h
theorem ow_load_fset {x : Operand} {b i : Nat} {v : Value} (ho : o.op = .load 87 x) (hx : a.eval x = .pointer (some ⟨b, i, none⟩)) (hb : w.cell? ⟨b, i, none⟩ = some v) (h : K (a.put o.dst v) w) : Oper.wp Try.prog o a w K Q := by
  unfold Oper.wp
  simp [execOp, ho, hx]
  go_simp
  exact h
theorem ow_nilcheck {x : Operand} {ad : Addr} (ho : o.op = .nilCheck x) (hx : a.eval x = .pointer (some ad)) (h : K (a.put o.dst (.pointer (some ad))) w) : Oper.wp Try.prog o a w K Q := by
  unfold Oper.wp
  simp [execOp, ho, hx]
  go_simp
  first | exact h | simpa using h
theorem ow_field_whole {x : Operand} {b : Nat} (ho : o.op = .fieldAddr 90 x 0) (hx : a.eval x = .pointer (some ⟨b, 0, none⟩)) (h : K (a.put o.dst (.pointer (some ⟨b, 0, none⟩))) w) : Oper.wp Try.prog o a w K Q := by
  unfold Oper.wp
  simp [execOp, ho, hx]
  go_simp
  exact h
theorem ow_field_said {x : Operand} {b : Nat} (ho : o.op = .fieldAddr 90 x 2) (hx : a.eval x = .pointer (some ⟨b, 0, none⟩)) (h : K (a.put o.dst (.pointer (some ⟨b, 2, none⟩))) w) : Oper.wp Try.prog o a w K Q := by
  unfold Oper.wp
  simp [execOp, ho, hx]
  go_simp
  exact h
theorem ow_build_given {x y : Operand} {i : Int} {t : ByteArray} (ho : o.op = .build 57 #[(0, x), (1, y)]) (hx : a.eval x = .int .i64 i) (hy : a.eval y = .string t) (h : K (a.put o.dst (.agg #[.int .i64 i, .string t])) w) : Oper.wp Try.prog o a w K Q := by
  unfold Oper.wp
  simp [execOp, ho, hx, hy]
  go_simp
  first | exact h | simpa using h
theorem ow_given1 {x : Operand} {i : Int} {s : ByteArray} (ho : o.op = .buildSlice 29 1 #[(0, x)]) (hx : a.eval x = .agg #[.int .i64 i, .string s]) (h : K (a.put o.dst (.slice (some ⟨w.heap.size, 0, none⟩) 1 1)) (w.alloc (.cells #[.int .i64 i, .string s] 57))) : Oper.wp Try.prog o a w K Q := by
  unfold Oper.wp
  simp [execOp, ho, hx]
  go_simp
  first | exact h | simpa using h
theorem ow_store_said {p x : Operand} {b : Nat} {u : Value} {A : Option Addr} {n c : Nat} (ho : o.op = .store 29 p x) (hdst : o.dst = none) (hp : a.eval p = .pointer (some ⟨b, 2, none⟩)) (hx : a.eval x = .slice A n c) (hc : w.cell? ⟨b, 2, none⟩ = some u) (hf : w.frozen? ⟨b, 2, none⟩ = false) (h : K a (w.setCell ⟨b, 2, none⟩ (.slice A n c))) : Oper.wp Try.prog o a w K Q := by
  unfold Oper.wp
  have h9 : K (a.put o.dst undef) (w.setCell ⟨b, 2, none⟩ (.slice A n c)) := by rw [hdst]; exact h
  simp [execOp, ho, hx, hp]
  go_simp
  first | exact h9 | exact h
end
/-- What the function has caught: the whole, and no values that it refuses. -/
def HandAt (C : PC) (w : World) (wb nb : Nat) : Prop := w.heap[wb]? = some (.cells #[.pointer (some ⟨C.Wb, 0, none⟩)] 82 (0, 0)) ∧ w.heap[nb]? = some (.cells #[.slice none 0 0] 25 (0, 0)) ∧ C.S.flags.length ≤ 17179869184
theorem HandAt.below {C : PC} {w w' : World} {wb nb : Nat} (h : HandAt C w wb nb) (hb : Below w.heap.size w w') : HandAt C w' wb nb := ⟨block_kept h.1 hb, block_kept h.2.1 hb, h.2.2⟩
theorem HandAt.fr {C : PC} {w w' : World} {wb nb : Nat} (h : HandAt C w wb nb) (hf : Fr C w w') : HandAt C w' wb nb :=
  ⟨hf.keep _ _ _ _ h.1 (by decide) (by decide) (by decide) (by decide) (by decide) (fun h => absurd h (by decide)), hf.keep _ _ _ _ h.2.1 (by decide) (by decide) (by decide) (by decide) (by decide) (fun h => absurd h (by decide)), h.2.2⟩
/-- What the operations of the function's first statement leave. -/
def HA1 (Wb : Nat) (said : Value) (p i : Nat) (vv : ByteArray) (B B1 n : Nat) (cs : List Value) : Nat → Value → World → Prop
  | 0, v, _ => v = .pointer (some ⟨Wb, 0, none⟩)
  | 1, v, _ => v = .pointer (some ⟨Wb, 0, none⟩)
  | 2, v, _ => v = .pointer (some ⟨Wb, 0, none⟩)
  | 3, v, _ => v = .pointer (some ⟨Wb, 2, none⟩)
  | 4, v, _ => v = said
  | 5, v, _ => v = .pointer (some ⟨Wb, 0, none⟩)
  | 6, v, _ => v = .pointer (some ⟨p, 0, none⟩)
  | 7, v, _ => v = .int .i64 (i : Int)
  | 8, v, _ => v = .string vv
  | 9, v, _ => v = .agg #[.int .i64 (i : Int), .string vv]
  | 10, v, w => ∃ g, v = .slice (some ⟨g, 0, none⟩) 1 1 ∧ B ≤ g ∧ w.heap[g]? = some (.cells #[.int .i64 (i : Int), .string vv] 57 (0, 0))
  | 11, v, w => ∃ gg cap2, v = .slice (some ⟨gg, 0, none⟩) (n + 1) cap2 ∧ w.ownsRow B1 57 2 (.slice (some ⟨gg, 0, none⟩) (n + 1) cap2) (n + 1) (cs ++ [.int .i64 (i : Int), .string vv])
  | 12, v, _ => v = .pointer (some ⟨Wb, 0, none⟩)
  | 13, v, _ => v = .pointer (some ⟨Wb, 2, none⟩)
  | _, _, _ => True
/-- How a step turns the world: the append (c) grows the list of what was given. -/
def HG (said : Value) (c : Bool) (u v : World) : Prop := if c = true then u.grownBy v said.ownBlock else Below u.heap.size u v
def HJ (said : Value) (w : World) (c : Bool) (u : World) : Prop := if c = true then ∃ wa, Below w.heap.size w wa ∧ wa.grownBy u said.ownBlock else Below w.heap.size w u
theorem HA1.keep {Wb : Nat} {said : Value} {p i : Nat} {vv : ByteArray} {B B1 n : Nat} {cs : List Value} (hB : ∀ g, said.ownBlock = some g → g < B) {ix : Nat} (hix : ix < 14) {v : Value} {w w' : World} {c : Bool} (hc : c = true → ix ≠ 11) (h : HA1 Wb said p i vv B B1 n cs ix v w) (hg : HG said c w w') : HA1 Wb said p i vv B B1 n cs ix v w' := by
  match ix, hix, h with
  | 0, _, h => exact h
  | 1, _, h => exact h
  | 2, _, h => exact h
  | 3, _, h => exact h
  | 4, _, h => exact h
  | 5, _, h => exact h
  | 6, _, h => exact h
  | 7, _, h => exact h
  | 8, _, h => exact h
  | 9, _, h => exact h
  | 10, _, h =>
    obtain ⟨g, e, hl, hb⟩ := h
    refine ⟨g, e, hl, ?_⟩
    cases c with
    | true => exact grown_blk hg hb (fun q => by have := hB g q.symm; omega)
    | false => exact block_kept hb hg
  | 11, _, h =>
    obtain ⟨gg, cap2, e, ho⟩ := h
    cases c with
    | true => exact absurd rfl (hc rfl)
    | false => exact ⟨gg, cap2, e, own_kept ho hg⟩
  | 12, _, h => exact h
  | 13, _, h => exact h
  | k + 14, hix, _ => exact absurd hix (by omega)
theorem HJ.same {said : Value} {w u v : World} {b : Bool} (h : HJ said w b u) (hv : Below u.heap.size u v) (hb : b = true → u = v) : HJ said w (b || false) v := by
  cases b with
  | true => rw [← hb rfl]; exact h
  | false => exact below_step h hv
set_option maxRecDepth 100000 in
set_option maxHeartbeats 3200000 in
theorem handed_any (C : PC) (V : PV) (parsed : Bool) (st : St) (i : Nat) (v : Txt) (wb nb : Nat) (w : World) (hp : Pm w C V (psOf (some []) parsed st)) (hi : i < C.S.flags.length) (hG : st.given.length ≤ 1099511627776) (he : st.err = .no) (hbb : HandAt C w wb nb) :
    Calls Try.prog 63 #[.pointer (some ⟨C.FL.getD i 0, 0, none⟩), .string (mkT v), .pointer (some ⟨wb, 0, none⟩), .pointer (some ⟨nb, 0, none⟩)] w (GiveEnd (some []) C parsed (give C.S (some []) st i v) w) := by
  obtain ⟨ti, gi, hz0, hz1, hz2⟩ := info_parts Try.infoG
  obtain ⟨hwb, hnb, hn⟩ := hbb
  have hgiv : give C.S (some []) st i v = { st with given := st.given ++ [(i, v)] } := by unfold give; simp
  have hsW : V.said.ownBlock ≠ some C.Wb := own_far3 hp.sdr hp.hW (by decide)
  have hsO : V.said.ownBlock ≠ some wb := own_far3 hp.sdr hwb (by decide)
  have hsN : V.said.ownBlock ≠ some nb := own_far3 hp.sdr hnb (by decide)
  have hnW : nb ≠ C.Wb := blk_ne hnb hp.hW (by simp)
  have hBS : ∀ g, V.said.ownBlock = some g → g < w.heap.size := fun g hg => (hp.sdr.lt g hg).2
  have hst : ∀ (u : World) (b : Bool), HJ V.said w b u → ∀ (x : Nat) (cs : Array Value) (T : TypeId), V.said.ownBlock ≠ some x → w.heap[x]? = some (.cells cs T (0, 0)) → u.heap[x]? = some (.cells cs T (0, 0)) := by
    intro u b hJ x cs T hx hb
    cases b with
    | true => obtain ⟨wa, h1, h2⟩ := hJ; exact grown_blk h2 (block_kept hb h1) (Ne.symm hx)
    | false => exact block_kept hb hJ
  have KW := Lib.hid (fun (u : World) (b : Bool) (hJ : HJ V.said w b u) => hst u b hJ C.Wb _ _ hsW hp.hW)
  have KO := Lib.hid (fun (u : World) (b : Bool) (hJ : HJ V.said w b u) => hst u b hJ wb _ _ hsO hwb)
  have KN := Lib.hid (fun (u : World) (b : Bool) (hJ : HJ V.said w b u) => hst u b hJ nb _ _ hsN hnb)
  have C2 : ∀ (u : World) (b : Bool), HJ V.said w b u → u.cell? ⟨wb, 0, none⟩ = some (.pointer (some ⟨C.Wb, 0, none⟩)) := fun u b hJ => (cell_blk (KO.out u b hJ) 0).trans rfl
  have C4 : ∀ (u : World) (b : Bool), HJ V.said w b u → u.cell? ⟨C.Wb, 2, none⟩ = some V.said := fun u b hJ => (cell_blk (KW.out u b hJ) 2).trans rfl
  have PL : ∀ (u : World), Below w.heap.size w u → Calls Try.prog 64 #[.pointer (some ⟨C.Wb, 0, none⟩), .pointer (some ⟨C.FL.getD i 0, 0, none⟩)] u fun e w' => e = .returned (.int .i64 (i : Int)) ∧ u = w' := fun u hb => place_any C V _ i u (hp.below hb) hi hn
  have HS0 := Lib.hid hp.sdr
  have HB1 : Hid (C.B1 ≤ w.heap.size) := hp.low.2.2.2.2.2.2
  have HE := Lib.hid (fun (wa w1 : World) (g c : Nat) ha hg ho => Pm.give (wa := wa) (w1 := w1) (i := i) (v := v) (g := g) (c := c) hp ha hg ho)
  have hGl : (psOf (some []) parsed st).G.length ≤ 1099511627776 := hG
  have HHA := fun (W : World) => Lib.hid (has_any none 0 [] (mkT v) W (fun i hi => absurd hi (Nat.not_lt_zero _)) (by decide))
  have HST := Lib.hid he
  have e5 : (psOf (some []) parsed st).G = st.given := rfl
  rw [e5] at HS0 HE hGl
  rw [hgiv]
  clear hp hgiv hwb hnb hst e5 hi hG he hn
  generalize C.FL.getD i 0 = p at PL ⊢
  generalize hvv : mkT v = vv at HE HHA ⊢
  clear hvv
  have HC2 := Lib.hid C2
  have HC4 := Lib.hid C4
  have HPL := Lib.hid PL
  clear C2 C4 PL
  go_enter Try.func63, Try.ntmps63
  go_upto_region 1 with fail
  refine region_invx 11 (HJ V.said w) (by kernel_rfl) (HG V.said) (HA1 C.Wb V.said p i vv w.heap.size C.B1 st.given.length (gCells st.given)) (fun i => [7, 8, 9, 10, 11, 12, 13, 14, 15, 16, 17, 18, 19, 20].getD i 0) 14
    (by decide) ((Below.refl _ _).drew) (fun i hi v u u' c hc h hg => HA1.keep hBS hi hc h hg) (hgd_none (by kernel_rfl)) (by kernel_rfl) (by kernel_rfl) (by kernel_rfl) (by kernel_rfl) ?_ ?_
  · intro i2 hi2 o ho a u b hJ hbz hbd hk hd
    have C2 := HC2.out
    have C4 := HC4.out
    have PL := HPL.out
    match i2, hi2 with
    | 0, _ =>
      cases ho
      exact ow_load_whole rfl ((hk 2 (by decide)).trans rfl) (C2 u b hJ) ⟨_, rfl, rfl, Below.refl _ _, hJ.same (Below.refl _ _) (fun _ => rfl)⟩
    | 1, _ =>
      cases ho
      exact ow_load_whole rfl ((hk 2 (by decide)).trans rfl) (C2 u b hJ) ⟨_, rfl, rfl, Below.refl _ _, hJ.same (Below.refl _ _) (fun _ => rfl)⟩
    | 2, _ =>
      cases ho
      have e8 : a.eval (.tmp 8) = _ := hd 1 (by kernel_rfl) (by decide)
      exact ow_nilcheck rfl e8 ⟨_, rfl, rfl, Below.refl _ _, hJ.same (Below.refl _ _) (fun _ => rfl)⟩
    | 3, _ =>
      cases ho
      have e9 : a.eval (.tmp 9) = _ := hd 2 (by kernel_rfl) (by decide)
      exact ow_field_said rfl e9 ⟨_, rfl, rfl, Below.refl _ _, hJ.same (Below.refl _ _) (fun _ => rfl)⟩
    | 4, _ =>
      cases ho
      have e10 : a.eval (.tmp 10) = _ := hd 3 (by kernel_rfl) (by decide)
      exact ow_load_given rfl e10 (C4 u b hJ) ⟨_, rfl, rfl, Below.refl _ _, hJ.same (Below.refl _ _) (fun _ => rfl)⟩
    | 5, _ =>
      cases ho
      exact ow_load_whole rfl ((hk 2 (by decide)).trans rfl) (C2 u b hJ) ⟨_, rfl, rfl, Below.refl _ _, hJ.same (Below.refl _ _) (fun _ => rfl)⟩
    | 6, _ =>
      cases ho
      exact ow_move rfl ((hk 0 (by decide)).trans rfl) ⟨_, rfl, rfl, Below.refl _ _, hJ.same (Below.refl _ _) (fun _ => rfl)⟩
    | 7, _ =>
      cases ho
      have e12 : a.eval (.tmp 12) = _ := hd 5 (by kernel_rfl) (by decide)
      have e13 : a.eval (.tmp 13) = _ := hd 6 (by kernel_rfl) (by decide)
      refine ow_call #[.tmp 12, .tmp 13] #[82, 104] 64 Try.func64 (by kernel_rfl) (by rfl) rfl #[_, _] (by simp only [List.map_toArray, List.map_cons, List.map_nil, e12, e13]) (PL u (by
        cases b with
        | false => exact hJ
        | true => exact absurd (hbd rfl) (by decide))) ?_
      rintro e u2 ⟨rfl, rfl⟩
      exact ⟨_, rfl, _, rfl, rfl, Below.refl _ _, hJ.same (Below.refl _ _) (fun _ => rfl)⟩
    | 8, _ =>
      cases ho
      exact ow_move rfl ((hk 1 (by decide)).trans rfl) ⟨_, rfl, rfl, Below.refl _ _, hJ.same (Below.refl _ _) (fun _ => rfl)⟩
    | 9, _ =>
      cases ho
      have e14 : a.eval (.tmp 14) = _ := hd 7 (by kernel_rfl) (by decide)
      have e15 : a.eval (.tmp 15) = _ := hd 8 (by kernel_rfl) (by decide)
      exact ow_build_given rfl e14 e15 ⟨_, rfl, rfl, Below.refl _ _, hJ.same (Below.refl _ _) (fun _ => rfl)⟩
    | 10, _ =>
      cases ho
      have e16 : a.eval (.tmp 16) = _ := hd 9 (by kernel_rfl) (by decide)
      have hb0 : b = false := by
        cases b with
        | false => rfl
        | true => exact absurd (hbd rfl) (by decide)
      subst hb0
      exact ow_given1 rfl e16 ⟨_, rfl, ⟨_, rfl, (show Below _ _ _ from hJ).size, heap_alloc_new _ _⟩, (Below.refl _ _).alloc (Nat.le_refl _) _, below_step hJ ((Below.refl _ _).alloc (Nat.le_refl _) _)⟩
    | 11, _ =>
      cases ho
      have e11 : a.eval (.tmp 11) = _ := hd 4 (by kernel_rfl) (by decide)
      obtain ⟨g, e17', hgl, hgb⟩ := hd 10 (by kernel_rfl) (by decide)
      have e17 : a.eval (.tmp 17) = .slice (some ⟨g, 0, none⟩) 1 1 := e17'
      obtain rfl : b = false := hbz rfl
      have hJ : Below w.heap.size w u := hJ
      refine wp_append_own u (.tmp 11) (.tmp 17) 29 rfl C.B1 57 ti _ 2 24 Try.underlying29 gi hz0 hz1 hz2 rfl (by omega) V.said st.given.length (gCells st.given) e11 (own_kept HS0.out hJ) ⟨g, 0, none⟩ 1 1 [.int .i64 (i : Int), .string vv] e17 rfl (World.news_of_block (cs := #[.int .i64 (i : Int), .string vv]) (t := 57) (fr := (0, 0)) hgb) (by simp [Value.oneCell']) (by unfold maxLen; omega) (by omega) (Nat.le_trans HB1.out hJ.size) (fun v' w' h2 h3 h4 => ?_)
      rcases h2.2 with ⟨hv, hn0⟩ | ⟨gg, cap2, cur, hv, hr⟩
      · exact absurd hn0 (by omega)
      · subst hv
        exact ⟨_, rfl, ⟨gg, cap2, rfl, h2⟩, h3, u, hJ, h3⟩
    | 12, _ =>
      cases ho
      have e7 : a.eval (.tmp 7) = _ := hd 0 (by kernel_rfl) (by decide)
      exact ow_nilcheck rfl e7 ⟨_, rfl, rfl, Below.refl _ _, hJ.same (Below.refl _ _) (fun _ => rfl)⟩
    | 13, _ =>
      cases ho
      have e19 : a.eval (.tmp 19) = _ := hd 12 (by kernel_rfl) (by decide)
      exact ow_field_said rfl e19 ⟨_, rfl, rfl, Below.refl _ _, hJ.same (Below.refl _ _) (fun _ => rfl)⟩
    | k + 14, hi2 => exact absurd hi2 (by omega)
  · intro x u hJ hx
    obtain ⟨wa, hb, hgrow⟩ := hJ
    obtain ⟨gg, cap2, e18, hown⟩ := hx 11 (by decide)
    have e20 : x 13 = .pointer (some ⟨C.Wb, 2, none⟩) := hx 13 (by decide)
    have hJ : HJ V.said w true u := ⟨wa, hb, hgrow⟩
    have hW2 := KW.out u true hJ
    have hN2 := KN.out u true hJ
    simp only [putAll, Act.put, List.getD_cons_zero, List.getD_cons_succ, List.setIfInBounds_toArray, List.set_cons_succ, List.set_cons_zero]
    refine wpAny_last (i := 14) (by kernel_rfl) rfl rfl (by kernel_rfl) ?_
    refine ow_store_said rfl rfl e20 e18 ((cell_blk hW2 2).trans rfl) (free_blk hW2 2) ?_
    have n4 : (u.setCell ⟨C.Wb, 2, none⟩ (.slice (some ⟨gg, 0, none⟩) (st.given.length + 1) cap2)).cell? ⟨nb, 0, none⟩ = some (.slice none 0 0) := ((cell_blk ((blk_other (a := ⟨C.Wb, 2, none⟩) hnW).trans hN2) 0).trans rfl)
    have r := HE.out wa u gg cap2 hb hgrow hown
    have HR := Lib.hid r
    clear r hW2 hN2 hJ hx e18 e20 hown hgrow hb
    go_wp2_with (go_at_call 65; refine ((HHA _).out).mono ?_; rintro e wr ⟨rfl, rfl⟩)
    go_ret
    refine ⟨_, _, rfl, HR.out.1, ?_, HR.out.2⟩
    show ErrAt C _ _ st.err
    rw [HST.out]; rfl
end Go.Proofs.Ytgmhhdpggnmipaa.E
