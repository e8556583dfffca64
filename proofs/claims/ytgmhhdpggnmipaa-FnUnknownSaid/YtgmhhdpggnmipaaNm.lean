/- spec.Named: is there a flag of a name? Written by gen_nm.py. -/
import Derived.Test.YtgmhhdpggnmipaaLs
namespace Go.Proofs.Ytgmhhdpggnmipaa.E
open Go.RowKit Go.Proofs
set_option linter.unusedVariables false
set_option linter.unusedSimpArgs false
theorem ow_eql_string {o : Oper} {a : Act} {w : World} {K : Act → World → Prop} {Q : Exit → Act → World → Prop} {x y : Operand} {s t : ByteArray} (ho : o.op = .binOp .eql 9 x y 9) (hx : a.eval x = .string s) (hy : a.eval y = .string t) (h : K (a.put o.dst (.bool (s.toList == t.toList))) w) : Oper.wp Try.prog o a w K Q := by
  unfold Oper.wp
  simp [execOp, ho, hx, hy]
  go_simp
  exact h
theorem sfold_txt {k : Nat} (hk : k ≤ 3) (t : Txt) (hs : (mkT t).size ≤ 2147483647) (w : World) : Calls Try.prog 31 #[.int .i64 (k : Int), .string (mkT t)] w fun e w' => e = .returned (.string (mkT (foldT k t))) ∧ Below w.heap.size w w' := by
  have h := sfold_nat k hk (mkT t) hs w
  rw [mkT_list] at h; exact h
theorem fold_le {F : List FlagP} {k : Nat} (h : RightK F (k : Int) = true) : k ≤ 3 := by
  unfold RightK at h
  simp only [Bool.and_eq_true, decide_eq_true_eq] at h
  omega
/-- What spec.Named answers: a place, or a number below 0. -/
def NamedEnd (F : List FlagP) (kf : Nat) (t : Txt) (w : World) (e : Ending) (w' : World) : Prop := ∃ r : Int, e = .returned (.int .i64 r) ∧ (0 ≤ r ↔ ∃ f ∈ F, foldT kf f.name = foldT kf t) ∧ Below w.heap.size w w'
structure NamedR (w wr : World) (A : Option Addr) (cap : Nat) (pl un : Bool) (kf n : Nat) : Prop where
  box : wr.heap[w.heap.size]? = some (.cells #[.slice A n cap, .bool pl, .bool un, .int .i64 (kf : Int)] 24 (0, 0))
  bel : Below w.heap.size w wr
def N4 (bx : Nat) (fx : Nat) (kf : Nat) (t : Txt) (fn : Txt) (bb : Bool) : Nat → Value → World → Prop
  | 0, v, _ => v = .pointer (some ⟨bx, 3, none⟩)
  | 1, v, _ => v = .int .i64 (kf : Int)
  | 2, v, _ => v = .pointer (some ⟨fx, 0, none⟩)
  | 3, v, _ => v = .string (mkT (fn))
  | 4, v, _ => v = .string (mkT (foldT kf fn))
  | 5, v, _ => v = .pointer (some ⟨bx, 3, none⟩)
  | 6, v, _ => v = .int .i64 (kf : Int)
  | 7, v, _ => v = .string (mkT (t))
  | 8, v, _ => v = .string (mkT (foldT kf t))
  | 9, v, _ => v = .bool bb
  | _, _, _ => True
theorem N4.below {bx : Nat} {fx : Nat} {kf : Nat} {t : Txt} {fn : Txt} {bb : Bool} {ix : Nat} (hix : ix < 10) {v : Value} {w w' : World} (h : N4 bx fx kf t fn bb ix v w) (hb : Below w.heap.size w w') : N4 bx fx kf t fn bb ix v w' := by
  match ix, hix, h with
  | 0, _, h => exact h
  | 1, _, h => exact h
  | 2, _, h => exact h
  | 3, _, h => exact h
  | 4, _, h => exact h
  | 5, _, h => exact h
  | 6, _, h => exact h
  | 7, _, h => exact h
  | 8, _, h => exact h
  | 9, _, h => exact h

set_option maxRecDepth 100000 in
set_option maxHeartbeats 3200000 in
theorem named_any {w : World} {A : Option Addr} {F : List FlagP} (hA : FlagsAt w A F) (hn : F.length ≤ 2147483647) (hsz : ∀ f ∈ F, f.name.length ≤ 2147483647) (cap : Nat) (pl un : Bool) {kf : Nat} (hk : kf ≤ 3) (t : Txt) (hz : (mkT t).size ≤ 2147483647) :
    Calls Try.prog 35 #[.agg #[.slice A F.length cap, .bool pl, .bool un, .int .i64 (kf : Int)], .string (mkT t)] w (NamedEnd F kf t w) := by
  have HFO1 : Hid (∀ W, Calls Try.prog 31 #[.int .i64 (kf : Int), .string (mkT t)] W fun e w' => e = .returned (.string (mkT (foldT kf t))) ∧ Below W.heap.size W w') := Lib.hid (fun W => sfold_txt hk t hz W)
  have HA := Lib.hid hA
  have HSZ := Lib.hid hsz
  have HK := Lib.hid hk
  clear hA hsz hk hz
  go_enter Try.func35, Try.ntmps35
  go_wp2
  generalize hW0 : w.alloc _ = w0
  have HR0 : Hid (NamedR w w0 A cap pl un kf F.length) := Lib.hid (by subst hW0; exact ⟨heap_alloc_new w _, (Below.refl _ _).alloc (Nat.le_refl _) _⟩)
  clear hW0
  go_loopw [10] (fun i wr => ∃ k : Nat, k ≤ F.length ∧ i = .int .i64 k ∧ Hid (NamedR w wr A cap pl un kf F.length) ∧ Hid (∀ f ∈ F.take k, foldT kf f.name ≠ foldT kf t)) (fun i _ => F.length - (intOf i).toNat)
  case atStart => exact ⟨0, Nat.zero_le _, rfl, HR0, Lib.hid (by simp)⟩
  case round =>
    clear HR0
    obtain ⟨k, hk, rfl, HR, HN⟩ := hrel
    have i0 : (0 : Int) ≤ (k : Int) := Int.natCast_nonneg _
    by_cases hlt : k < F.length
    · have i1 : (k : Int) < (F.length : Int) := by omega
      obtain ⟨b, o, v, hAe, c0, c1, c2, c3, ht⟩ := HA.out k hlt
      subst hAe
      obtain ⟨Av, cv, hve, _⟩ := ht
      generalize (F[k].bad.map mkT).length = nv at hve
      subst hve
      have d0 := cell_kept HR.out.bel c0
      have d1 := cell_kept HR.out.bel c1
      have d2 := cell_kept HR.out.bel c2
      have d3 := cell_kept HR.out.bel c3
      have hsz := HSZ.out F[k] (List.getElem_mem hlt)
      have HTK : Hid (F.take (k + 1) = F.take k ++ [F[k]]) := Lib.hid (List.take_succ_eq_append_getElem hlt)
      have HME : Hid (F[k] ∈ F) := Lib.hid (List.getElem_mem hlt)
      clear c0 c1 c2 c3
      generalize F[k] = f at d0 d1 d2 d3 hsz HTK HME
      obtain ⟨fn, fs, fo, fb⟩ := f
      simp only at d0 d1 d2 d3 hsz
      have HX : Hid (Below wr.heap.size wr (wr.alloc (.cells #[.string (mkT fn), .string (mkT fs), .string (mkT fo), .slice Av nv cv] 47))) := (Below.refl _ _).alloc (Nat.le_refl _) _
      have HXc := Lib.hid (heap_alloc_new wr (.cells #[.string (mkT fn), .string (mkT fs), .string (mkT fo), .slice Av nv cv] 47))
      have lt0 : w.heap.size < wr.heap.size := lt_of_block HR.out.box
      go_upto_region 4 with fail
      generalize hwa : wr.alloc (.cells #[.string (mkT fn), .string (mkT fs), .string (mkT fo), .slice Av nv cv] 47) = wa at HX HXc
      have X0 : Hid (wa.cell? ⟨wr.heap.size, 0, none⟩ = some (.string (mkT fn))) := Lib.hid ((cell_blk HXc.out 0).trans rfl)
      have HBX := Lib.hid (block_kept HR.out.box HX.out)
      have Y3 : Hid (wa.cell? ⟨w.heap.size, 3, none⟩ = some (.int .i64 (kf : Int))) := Lib.hid ((cell_blk HBX.out 3).trans rfl)
      have HBA := Lib.hid (below_step HR.out.bel HX.out)
      clear hwa d0 d1 d2 d3
      have HFO2 : Hid (∀ W, Calls Try.prog 31 #[.int .i64 (kf : Int), .string (mkT fn)] W fun e w' => e = .returned (.string (mkT (foldT kf fn))) ∧ Below W.heap.size W w') := Lib.hid (fun W => sfold_txt HK.out fn (by rw [mkT_size]; exact hsz) W)
      obtain ⟨bb, hbb⟩ : ∃ bb, ((mkT (foldT kf fn)).toList == (mkT (foldT kf t)).toList) = bb := ⟨_, rfl⟩
      have HNE := Lib.hid hbb
      clear hbb
      refine region_inv (by kernel_rfl) (fun u v => Below u.heap.size u v) (N4 (w.heap.size) (wr.heap.size) (kf) (t) (fn) (bb)) (fun i => false) (fun i => [15, 16, 17, 18, 19, 20, 21, 22, 23, 24].getD i 0) 10
        (Below.refl _ _) (fun _ _ _ h k => below_step h k) (fun i hi v u u' h hb => N4.below hi h hb) ?_ (hgd_none (by kernel_rfl)) (by kernel_rfl) (by kernel_rfl) (by kernel_rfl) (by kernel_rfl) ?_ ?_
      · intro i hi hA; cases hA
      · intro i hi o ho a u hG hk hd
        have hG9 : Below wa.heap.size wa u := ((Below.refl _ _).drew).trans hG
        match i, hi with
        | 0, _ =>
          cases ho
          exact ow_field_set (i := 3) (by decide) rfl ((hk 2 (by decide)).trans rfl) ⟨_, rfl, rfl, Below.refl _ _, fun h => by cases h⟩
        | 1, _ =>
          cases ho
          have e15 : a.eval (.tmp 15) = _ := hd 0 (by kernel_rfl) (by decide)
          exact ow_load_int rfl e15 (cell_kept hG9 Y3.out) ⟨_, rfl, rfl, Below.refl _ _, fun h => by cases h⟩
        | 2, _ =>
          cases ho
          exact ow_field_flag (i := 0) (by decide) rfl ((hk 6 (by decide)).trans rfl) ⟨_, rfl, rfl, Below.refl _ _, fun h => by cases h⟩
        | 3, _ =>
          cases ho
          have e17 : a.eval (.tmp 17) = _ := hd 2 (by kernel_rfl) (by decide)
          exact ow_load_string rfl e17 (cell_kept hG9 X0.out) ⟨_, rfl, rfl, Below.refl _ _, fun h => by cases h⟩
        | 4, _ =>
          cases ho
          have e16 : a.eval (.tmp 16) = _ := hd 1 (by kernel_rfl) (by decide)
          have e18 : a.eval (.tmp 18) = _ := hd 3 (by kernel_rfl) (by decide)
          refine ow_call #[.tmp 16, .tmp 18] #[3, 9] 31 Try.func31 (by kernel_rfl) (by rfl) rfl #[_, _] (by simp only [List.map_toArray, List.map_cons, List.map_nil, e16, e18]) (HFO2.out u) ?_
          rintro e u2 ⟨rfl, hb2⟩
          exact ⟨_, rfl, _, rfl, rfl, hb2, fun h => by cases h⟩
        | 5, _ =>
          cases ho
          exact ow_field_set (i := 3) (by decide) rfl ((hk 2 (by decide)).trans rfl) ⟨_, rfl, rfl, Below.refl _ _, fun h => by cases h⟩
        | 6, _ =>
          cases ho
          have e20 : a.eval (.tmp 20) = _ := hd 5 (by kernel_rfl) (by decide)
          exact ow_load_int rfl e20 (cell_kept hG9 Y3.out) ⟨_, rfl, rfl, Below.refl _ _, fun h => by cases h⟩
        | 7, _ =>
          cases ho
          exact ow_move rfl ((hk 1 (by decide)).trans rfl) ⟨_, rfl, rfl, Below.refl _ _, fun h => by cases h⟩
        | 8, _ =>
          cases ho
          have e21 : a.eval (.tmp 21) = _ := hd 6 (by kernel_rfl) (by decide)
          have e22 : a.eval (.tmp 22) = _ := hd 7 (by kernel_rfl) (by decide)
          refine ow_call #[.tmp 21, .tmp 22] #[3, 9] 31 Try.func31 (by kernel_rfl) (by rfl) rfl #[_, _] (by simp only [List.map_toArray, List.map_cons, List.map_nil, e21, e22]) (HFO1.out u) ?_
          rintro e u2 ⟨rfl, hb2⟩
          exact ⟨_, rfl, _, rfl, rfl, hb2, fun h => by cases h⟩
        | 9, _ =>
          cases ho
          have e19 : a.eval (.tmp 19) = _ := hd 4 (by kernel_rfl) (by decide)
          have e23 : a.eval (.tmp 23) = _ := hd 8 (by kernel_rfl) (by decide)
          exact ow_eql_string rfl e19 e23 ⟨_, rfl, congrArg Value.bool HNE.out, Below.refl _ _, fun h => by cases h⟩
      · intro x U3 hG hx hdif
        have hlast : x 9 = _ := hx 9 (by decide)
        simp only [putAll, Act.put, List.getD_cons_zero, List.getD_cons_succ, List.setIfInBounds_toArray, List.set_cons_succ, List.set_cons_zero]
        refine wpAny_end (by kernel_rfl) ?_
        rw [hlast]
        clear hx hdif hlast
        have hU : Below wa.heap.size wa U3 := ((Below.refl _ _).drew).trans hG
        have HRU : Hid (NamedR w U3 (some ⟨b, o, none⟩) cap pl un kf F.length) := Lib.hid ⟨block_kept HBX.out hU, below_step HBA.out hU⟩
        clear hG
        cases bb with
        | true =>
          go_wp2
          go_ret
          have e : foldT kf fn = foldT kf t := by
            have h := HNE.out
            rw [mkT_toList, mkT_toList] at h
            exact eq_of_beq h
          exact ⟨_, rfl, ⟨fun _ => ⟨_, HME.out, e⟩, fun _ => i0⟩, HRU.out.bel⟩
        | false =>
          have e : foldT kf fn ≠ foldT kf t := by
            have h := HNE.out
            rw [mkT_toList, mkT_toList] at h
            exact beq_eq_false_iff_ne.1 h
          go_wp2
          go_roundw
          case rel => exact ⟨k + 1, by omega, by go_num, HRU, Lib.hid (by
            rw [HTK.out]
            intro f hf
            rcases List.mem_append.1 hf with h | h
            · exact HN.out f h
            · rw [List.mem_singleton] at h; subst h; exact e)⟩
          case measure => simp [intOf]; omega
    · have hke : k = F.length := by omega
      have i1 : ¬ (k : Int) < (F.length : Int) := by omega
      go_wp2
      go_ret
      refine ⟨_, rfl, ⟨fun h => absurd h (by decide), fun ⟨f, hf, e⟩ => ?_⟩, HR.out.bel⟩
      have h := HN.out f (by rw [hke, List.take_length]; exact hf)
      exact absurd e h
end Go.Proofs.Ytgmhhdpggnmipaa.E
