/- spec.Named: the place of the flag of a name. Written by gen_nm.py. -/
import Derived.Test.YtgmhhdpggnmipaaLs
import Derived.Test.YtgmhhdpggnmipaaPQx5
import Derived.Test.YtgmhhdpggnmipaaFs12
import Derived.Test.YtgmhhdpggnmipaaBq
import Derived.Deep.DeepCutAuto
import Derived.Test.YtgmhhdpggnmipaaKit
import Derived.Test.YtgmhhdpggnmipaaParts
import Derived.Test.YtgmhhdpggnmipaaPar
import Derived.Test.YtgmhhdpggnmipaaPQx6
import Derived.Test.YtgmhhdpggnmipaaFs14
import Derived.Test.YtgmhhdpggnmipaaSp2
namespace Go.Proofs.Ytgmhhdpggnmipaa.E
open Go.RowKit Go.Proofs
set_option linter.unusedVariables false
set_option linter.unusedSimpArgs false
theorem ow_eql_string {o : Oper} {a : Act} {w : World} {K : Act → World → Prop} {Q : Exit → Act → World → Prop} {x y : Operand} {s t : ByteArray} (ho : o.op = .binOp .eql 9 x y 9) (hx : a.eval x = .string s) (hy : a.eval y = .string t) (h : K (a.put o.dst (.bool (s.toList == t.toList))) w) : Oper.wp Try.prog o a w K Q := by
  unfold Oper.wp
  simp [execOp, ho, hx, hy]
  go_simp
  exact h
theorem sfold_txt {k : Nat} (hk : k ≤ 3) (t : Txt) (hs : (mkT t).size ≤ 2147483647) (w : World) : Calls Try.prog 31 #[.int .i64 (k : Int), .string (mkT t)] w fun e w' => e = .returned (.string (mkT (foldT k t))) ∧ Below w.heap.size w w' := by
  have h := sfold_nat k hk (mkT t) hs w
  rw [mkT_list] at h; exact h
theorem fold_le {F : List FlagP} {k : Nat} (h : RightK F (k : Int) = true) : k ≤ 3 := by
  unfold RightK at h
  simp only [Bool.and_eq_true, decide_eq_true_eq] at h
  omega
/-- What spec.Named answers: the first place, or -1. -/
def NamedX (F : List FlagP) (kf : Nat) (t : Txt) (w : World) (e : Ending) (w' : World) : Prop := ((∃ (i : Nat) (h : i < F.length), e = .returned (.int .i64 (i : Int)) ∧ foldT kf F[i].name = foldT kf t) ∨ (e = .returned (.int .i64 (-1)) ∧ ∀ f ∈ F, foldT kf f.name ≠ foldT kf t)) ∧ Below w.heap.size w w'
structure NamedR (w wr : World) (A : Option Addr) (cap : Nat) (pl un : Bool) (kf n : Nat) : Prop where
  box : wr.heap[w.heap.size]? = some (.cells #[.slice A n cap, .bool pl, .bool un, .int .i64 (kf : Int)] 24 (0, 0))
  bel : Below w.heap.size w wr
def NX4 (bx : Nat) (fx : Nat) (kf : Nat) (t : Txt) (fn : Txt) (bb : Bool) : Nat → Value → World → Prop
  | 0, v, _ => v = .pointer (some ⟨bx, 3, none⟩)
  | 1, v, _ => v = .int .i64 (kf : Int)
  | 2, v, _ => v = .pointer (some ⟨fx, 0, none⟩)
  | 3, v, _ => v = .string (mkT (fn))
  | 4, v, _ => v = .string (mkT (foldT kf fn))
  | 5, v, _ => v = .pointer (some ⟨bx, 3, none⟩)
  | 6, v, _ => v = .int .i64 (kf : Int)
  | 7, v, _ => v = .string (mkT (t))
  | 8, v, _ => v = .string (mkT (foldT kf t))
  | 9, v, _ => v = .bool bb
  | _, _, _ => True
theorem NX4.below {bx : Nat} {fx : Nat} {kf : Nat} {t : Txt} {fn : Txt} {bb : Bool} {ix : Nat} (hix : ix < 10) {v : Value} {w w' : World} (h : NX4 bx fx kf t fn bb ix v w) (hb : Below w.heap.size w w') : NX4 bx fx kf t fn bb ix v w' := by
  match ix, hix, h with
  | 0, _, h => exact h
  | 1, _, h => exact h
  | 2, _, h => exact h
  | 3, _, h => exact h
  | 4, _, h => exact h
  | 5, _, h => exact h
  | 6, _, h => exact h
  | 7, _, h => exact h
  | 8, _, h => exact h
  | 9, _, h => exact h

set_option maxRecDepth 100000 in
set_option maxHeartbeats 3200000 in
theorem named_x {w : World} {A : Option Addr} {F : List FlagP} (hA : FlagsAt w A F) (hn : F.length ≤ 2147483647) (hsz : ∀ f ∈ F, f.name.length ≤ 2147483647) (cap : Nat) (pl un : Bool) {kf : Nat} (hk : kf ≤ 3) (t : Txt) (hz : (mkT t).size ≤ 2147483647) :
    Calls Try.prog 35 #[.agg #[.slice A F.length cap, .bool pl, .bool un, .int .i64 (kf : Int)], .string (mkT t)] w (NamedX F kf t w) := by
  have HFO1 : Hid (∀ W, Calls Try.prog 31 #[.int .i64 (kf : Int), .string (mkT t)] W fun e w' => e = .returned (.string (mkT (foldT kf t))) ∧ Below W.heap.size W w') := Lib.hid (fun W => sfold_txt hk t hz W)
  have HA := Lib.hid hA
  have HSZ := Lib.hid hsz
  have HK := Lib.hid hk
  clear hA hsz hk hz
  go_enter Try.func35, Try.ntmps35
  go_wp2
  generalize hW0 : w.alloc _ = w0
  have HR0 : Hid (NamedR w w0 A cap pl un kf F.length) := Lib.hid (by subst hW0; exact ⟨heap_alloc_new w _, (Below.refl _ _).alloc (Nat.le_refl _) _⟩)
  clear hW0
  go_loopw [10] (fun i wr => ∃ k : Nat, k ≤ F.length ∧ i = .int .i64 k ∧ Hid (NamedR w wr A cap pl un kf F.length) ∧ Hid (∀ f ∈ F.take k, foldT kf f.name ≠ foldT kf t)) (fun i _ => F.length - (intOf i).toNat)
  case atStart => exact ⟨0, Nat.zero_le _, rfl, HR0, Lib.hid (by simp)⟩
  case round =>
    clear HR0
    obtain ⟨k, hk, rfl, HR, HN⟩ := hrel
    have i0 : (0 : Int) ≤ (k : Int) := Int.natCast_nonneg _
    by_cases hlt : k < F.length
    · have i1 : (k : Int) < (F.length : Int) := by omega
      obtain ⟨b, o, v, hAe, c0, c1, c2, c3, ht⟩ := HA.out k hlt
      subst hAe
      obtain ⟨Av, cv, hve, _⟩ := ht
      generalize (F[k].bad.map mkT).length = nv at hve
      subst hve
      have d0 := cell_kept HR.out.bel c0
      have d1 := cell_kept HR.out.bel c1
      have d2 := cell_kept HR.out.bel c2
      have d3 := cell_kept HR.out.bel c3
      have hsz := HSZ.out F[k] (List.getElem_mem hlt)
      have HTK : Hid (F.take (k + 1) = F.take k ++ [F[k]]) := Lib.hid (List.take_succ_eq_append_getElem hlt)
      clear c0 c1 c2 c3
      generalize hfk : F[k] = fk at d0 d1 d2 d3 hsz HTK
      have HME : Hid (∃ h : k < F.length, F[k] = fk) := Lib.hid ⟨hlt, hfk⟩
      clear hfk
      obtain ⟨fn, fs, fo, fb⟩ := fk
      simp only at d0 d1 d2 d3 hsz
      have HX : Hid (Below wr.heap.size wr (wr.alloc (.cells #[.string (mkT fn), .string (mkT fs), .string (mkT fo), .slice Av nv cv] 47))) := (Below.refl _ _).alloc (Nat.le_refl _) _
      have HXc := Lib.hid (heap_alloc_new wr (.cells #[.string (mkT fn), .string (mkT fs), .string (mkT fo), .slice Av nv cv] 47))
      have lt0 : w.heap.size < wr.heap.size := lt_of_block HR.out.box
      go_upto_region 4 with fail
      generalize hwa : wr.alloc (.cells #[.string (mkT fn), .string (mkT fs), .string (mkT fo), .slice Av nv cv] 47) = wa at HX HXc
      have X0 : Hid (wa.cell? ⟨wr.heap.size, 0, none⟩ = some (.string (mkT fn))) := Lib.hid ((cell_blk HXc.out 0).trans rfl)
      have HBX := Lib.hid (block_kept HR.out.box HX.out)
      have Y3 : Hid (wa.cell? ⟨w.heap.size, 3, none⟩ = some (.int .i64 (kf : Int))) := Lib.hid ((cell_blk HBX.out 3).trans rfl)
      have HBA := Lib.hid (below_step HR.out.bel HX.out)
      clear hwa d0 d1 d2 d3
      have HFO2 : Hid (∀ W, Calls Try.prog 31 #[.int .i64 (kf : Int), .string (mkT fn)] W fun e w' => e = .returned (.string (mkT (foldT kf fn))) ∧ Below W.heap.size W w') := Lib.hid (fun W => sfold_txt HK.out fn (by rw [mkT_size]; exact hsz) W)
      obtain ⟨bb, hbb⟩ : ∃ bb, ((mkT (foldT kf fn)).toList == (mkT (foldT kf t)).toList) = bb := ⟨_, rfl⟩
      have HNE := Lib.hid hbb
      clear hbb
      refine region_inv (by kernel_rfl) (fun u v => Below u.heap.size u v) (NX4 (w.heap.size) (wr.heap.size) (kf) (t) (fn) (bb)) (fun i => false) (fun i => [15, 16, 17, 18, 19, 20, 21, 22, 23, 24].getD i 0) 10
        (Below.refl _ _) (fun _ _ _ h k => below_step h k) (fun i hi v u u' h hb => NX4.below hi h hb) ?_ (hgd_none (by kernel_rfl)) (by kernel_rfl) (by kernel_rfl) (by kernel_rfl) (by kernel_rfl) ?_ ?_
      · intro i hi hA; cases hA
      · intro i hi o ho a u hG hk hd
        have hG9 : Below wa.heap.size wa u := ((Below.refl _ _).drew).trans hG
        match i, hi with
        | 0, _ =>
          cases ho
          exact ow_field_set (i := 3) (by decide) rfl ((hk 2 (by decide)).trans rfl) ⟨_, rfl, rfl, Below.refl _ _, fun h => by cases h⟩
        | 1, _ =>
          cases ho
          have e15 : a.eval (.tmp 15) = _ := hd 0 (by kernel_rfl) (by decide)
          exact ow_load_int rfl e15 (cell_kept hG9 Y3.out) ⟨_, rfl, rfl, Below.refl _ _, fun h => by cases h⟩
        | 2, _ =>
          cases ho
          exact ow_field_flag (i := 0) (by decide) rfl ((hk 6 (by decide)).trans rfl) ⟨_, rfl, rfl, Below.refl _ _, fun h => by cases h⟩
        | 3, _ =>
          cases ho
          have e17 : a.eval (.tmp 17) = _ := hd 2 (by kernel_rfl) (by decide)
          exact ow_load_string rfl e17 (cell_kept hG9 X0.out) ⟨_, rfl, rfl, Below.refl _ _, fun h => by cases h⟩
        | 4, _ =>
          cases ho
          have e16 : a.eval (.tmp 16) = _ := hd 1 (by kernel_rfl) (by decide)
          have e18 : a.eval (.tmp 18) = _ := hd 3 (by kernel_rfl) (by decide)
          refine ow_call #[.tmp 16, .tmp 18] #[3, 9] 31 Try.func31 (by kernel_rfl) (by rfl) rfl #[_, _] (by simp only [List.map_toArray, List.map_cons, List.map_nil, e16, e18]) (HFO2.out u) ?_
          rintro e u2 ⟨rfl, hb2⟩
          exact ⟨_, rfl, _, rfl, rfl, hb2, fun h => by cases h⟩
        | 5, _ =>
          cases ho
          exact ow_field_set (i := 3) (by decide) rfl ((hk 2 (by decide)).trans rfl) ⟨_, rfl, rfl, Below.refl _ _, fun h => by cases h⟩
        | 6, _ =>
          cases ho
          have e20 : a.eval (.tmp 20) = _ := hd 5 (by kernel_rfl) (by decide)
          exact ow_load_int rfl e20 (cell_kept hG9 Y3.out) ⟨_, rfl, rfl, Below.refl _ _, fun h => by cases h⟩
        | 7, _ =>
          cases ho
          exact ow_move rfl ((hk 1 (by decide)).trans rfl) ⟨_, rfl, rfl, Below.refl _ _, fun h => by cases h⟩
        | 8, _ =>
          cases ho
          have e21 : a.eval (.tmp 21) = _ := hd 6 (by kernel_rfl) (by decide)
          have e22 : a.eval (.tmp 22) = _ := hd 7 (by kernel_rfl) (by decide)
          refine ow_call #[.tmp 21, .tmp 22] #[3, 9] 31 Try.func31 (by kernel_rfl) (by rfl) rfl #[_, _] (by simp only [List.map_toArray, List.map_cons, List.map_nil, e21, e22]) (HFO1.out u) ?_
          rintro e u2 ⟨rfl, hb2⟩
          exact ⟨_, rfl, _, rfl, rfl, hb2, fun h => by cases h⟩
        | 9, _ =>
          cases ho
          have e19 : a.eval (.tmp 19) = _ := hd 4 (by kernel_rfl) (by decide)
          have e23 : a.eval (.tmp 23) = _ := hd 8 (by kernel_rfl) (by decide)
          exact ow_eql_string rfl e19 e23 ⟨_, rfl, congrArg Value.bool HNE.out, Below.refl _ _, fun h => by cases h⟩
      · intro x U3 hG hx hdif
        have hlast : x 9 = _ := hx 9 (by decide)
        simp only [putAll, Act.put, List.getD_cons_zero, List.getD_cons_succ, List.setIfInBounds_toArray, List.set_cons_succ, List.set_cons_zero]
        refine wpAny_end (by kernel_rfl) ?_
        rw [hlast]
        clear hx hdif hlast
        have hU : Below wa.heap.size wa U3 := ((Below.refl _ _).drew).trans hG
        have HRU : Hid (NamedR w U3 (some ⟨b, o, none⟩) cap pl un kf F.length) := Lib.hid ⟨block_kept HBX.out hU, below_step HBA.out hU⟩
        clear hG
        cases bb with
        | true =>
          go_wp2
          go_ret
          have e : foldT kf fn = foldT kf t := by
            have h := HNE.out
            rw [mkT_toList, mkT_toList] at h
            exact eq_of_beq h
          obtain ⟨h9, e9⟩ := HME.out
          exact ⟨.inl ⟨k, h9, rfl, by rw [e9]; exact e⟩, HRU.out.bel⟩
        | false =>
          have e : foldT kf fn ≠ foldT kf t := by
            have h := HNE.out
            rw [mkT_toList, mkT_toList] at h
            exact beq_eq_false_iff_ne.1 h
          go_wp2
          go_roundw
          case rel => exact ⟨k + 1, by omega, by go_num, HRU, Lib.hid (by
            rw [HTK.out]
            intro f hf
            rcases List.mem_append.1 hf with h | h
            · exact HN.out f h
            · rw [List.mem_singleton] at h; subst h; exact e)⟩
          case measure => simp [intOf]; omega
    · have hke : k = F.length := by omega
      have i1 : ¬ (k : Int) < (F.length : Int) := by omega
      go_wp2
      go_ret
      exact ⟨.inr ⟨rfl, fun f hf => HN.out f (by rw [hke, List.take_length]; exact hf)⟩, HR.out.bel⟩
end Go.Proofs.Ytgmhhdpggnmipaa.E

namespace Go.Proofs.Ytgmhhdpggnmipaa.E
open Go.RowKit Go.Proofs
open Go.Proofs.Ytgmhhdpggnmipaa.PQ Go.Proofs.YtgmhhdpggnmipaaW.PrintWords
set_option linter.unusedVariables false
set_option linter.unusedSimpArgs false
def rnCells (S : SetP) (A : Option Addr) (cap : Nat) (st : St) (G AA CH : Value) (pr : Bool) : Array Value := #[.slice A S.flags.length cap, .bool S.plain, .bool S.unknown, .int .i64 (S.fold : Int), .int .i64 (eNo st.err), .string (mkT (eName st.err)), .string (mkT (eShort st.err)), .string (mkT (eVal st.err)), .int .i64 (eFlag st.err), G, AA, .int .i64 st.dash, CH, .bool pr, .bool false, .bool false, .slice none 0 0, .nilFunc]
/-- A run, as it lies in memory, over a set that lay there before. -/
structure RunAt (w0 w : World) (x : Nat) (S : SetP) (A : Option Addr) (cap : Nat) (st : St) (AA CH : Value) (pr : Bool) : Prop where
  bel : Below w0.heap.size w0 w
  low : w0.heap.size ≤ x
  arg : w.ownsRow w0.heap.size 9 1 AA st.args.length (aCells st.args)
  blk : ∃ GA gc, w.heap[x]? = some (.cells (rnCells S A cap st (.slice GA st.given.length gc) AA CH pr) 41 (0, 0)) ∧ w.ownsRow w0.heap.size 57 2 (.slice GA st.given.length gc) st.given.length (gCells st.given)
theorem RunAt.below {w0 w w' : World} {x : Nat} {S : SetP} {A : Option Addr} {cap : Nat} {st : St} {AA CH : Value} {pr : Bool} (h : RunAt w0 w x S A cap st AA CH pr) (hb : Below w.heap.size w w') : RunAt w0 w' x S A cap st AA CH pr := by
  obtain ⟨h1, h2, h5, GA, gc, h3, h4⟩ := h
  exact ⟨h1.trans (hb.mono h1.size), h2, own_kept h5 hb, GA, gc, block_kept h3 hb, own_kept h4 hb⟩
theorem RunAt.free {w0 w : World} {x : Nat} {S : SetP} {A : Option Addr} {cap : Nat} {st : St} {AA CH : Value} {pr : Bool} (h : RunAt w0 w x S A cap st AA CH pr) (he : st.err = .no) : ∃ GA gc, w.heap[x]? = some (.cells #[.slice A S.flags.length cap, .bool S.plain, .bool S.unknown, .int .i64 (S.fold : Int), .int .i64 0, .string ⟨#[]⟩, .string ⟨#[]⟩, .string ⟨#[]⟩, .int .i64 (-1), .slice GA st.given.length gc, AA, .int .i64 st.dash, CH, .bool pr, .bool false, .bool false, .slice none 0 0, .nilFunc] 41 (0, 0)) ∧ w.ownsRow w0.heap.size 57 2 (.slice GA st.given.length gc) st.given.length (gCells st.given) := by
  obtain ⟨h1, h2, _, GA, gc, h3, h4⟩ := h
  refine ⟨GA, gc, ?_, h4⟩
  unfold rnCells at h3
  rw [he] at h3
  exact h3
/-- An error is written into it. -/
theorem RunAt.turn {w0 w w' : World} {x : Nat} {S : SetP} {A : Option Addr} {cap : Nat} {st : St} {AA CH : Value} {pr : Bool} (h : RunAt w0 w x S A cap st AA CH pr) (er : Er) {GA : Option Addr} {gc : Nat} {cs : Array Value} (hx : w.heap[x]? = some (.cells cs 41 (0, 0))) (ho : w.ownsRow w0.heap.size 57 2 (.slice GA st.given.length gc) st.given.length (gCells st.given)) (hb : Below w0.heap.size w0 w') (hn : ∀ b, b ≠ x → w'.heap[b]? = w.heap[b]?) (hx2 : w'.heap[x]? = some (.cells (rnCells S A cap { st with err := er } (.slice GA st.given.length gc) AA CH pr) 41 (0, 0))) : RunAt w0 w' x S A cap { st with err := er } AA CH pr :=
  ⟨hb, h.low, own_of_blk h.arg (fun g hg => hn g (fun e => by subst e; exact own_far3 h.arg hx (by decide) hg)), GA, gc, hx2, own_of_blk ho (fun g hg => hn g (fun e => by subst e; exact own_far3 ho hx (by decide) hg))⟩
/-! ### what it calls -/
theorem ext_headS (s : ByteArray) (n : Nat) : (s.extract 0 n).data.toList = s.data.toList.take n := by
  rw [ByteArray.data_extract, Array.toList_extract, List.extract_eq_take_drop]; simp
theorem eqIn_take (w : World) (d : Nat) : (Op.equalIn (d + 1) 39 .nilFunc .nilFunc).run Try.prog w = .ok true w := by
  simp [Op.equalIn, run_underlying Try.underlying39]
theorem neq_take (w : World) : (binOp .neq 39 .nilFunc .nilFunc).run Try.prog w = .ok (.bool false) w := by
  simp only [binOp]
  simp [Op.equal, Op.maxDepth, eqIn_take w 9999]
theorem own_some {w : World} {base e size n : Nat} {v : Value} {xs : List Value} (h : w.ownsRow base e size v n xs) (hn : 0 < n) : ∃ g c, v = .slice (some ⟨g, 0, none⟩) n c ∧ True := by
  rcases h.2 with ⟨_, h0⟩ | ⟨g, cap, cur, rfl, _⟩
  · omega
  · exact ⟨g, cap, rfl, trivial⟩
set_option maxRecDepth 100000 in
theorem hasS_any (A : Option Addr) (cap : Nat) (xs : List ByteArray) (s : ByteArray) (w : World) (hx : StrsAt w A xs) (hm : xs.length ≤ 9223372036854775807) :
    Calls Try.prog 90 #[.slice A xs.length cap, .string s] w fun e w' => e = .returned (.bool (hasB xs s)) ∧ w = w' := by
  go_enter Try.func90, Try.ntmps90
  go_wp2
  go_loop [9] (fun i => ∃ k : Nat, k ≤ xs.length ∧ i = .int .i64 k ∧ Hid (∀ j, j < k → tx xs j ≠ s)) (fun i => xs.length - (intOf i).toNat)
  case atStart => exact ⟨0, Nat.zero_le _, rfl, fun j h => by omega⟩
  case round =>
    obtain ⟨k, hk, rfl, HN⟩ := hrel
    by_cases hlt : k < xs.length
    · obtain ⟨b, o, rfl, hc⟩ := hx k hlt
      have i0 : (0 : Int) ≤ (k : Int) := Int.natCast_nonneg _
      have i1 : (k : Int) < (xs.length : Int) := by omega
      by_cases he : tx xs k = s
      · have hb := bytes_same he
        have HM : Hid (hasB xs s = true) := by
          show _ = _
          rw [hasB_iff, ← he, tx_lt hlt]; exact List.getElem_mem hlt
        clear he
        generalize tx xs k = t at hc hb
        go_wp2
        go_ret
        exact ⟨by rw [HM.out]; rfl, rfl⟩
      · have hb := bytes_ne he
        have HN2 : Hid (∀ j, j < k + 1 → tx xs j ≠ s) := by
          intro j hj
          by_cases e : j = k
          · subst e; exact he
          · exact HN.out j (by omega)
        clear he
        generalize tx xs k = t at hc hb
        go_wp2
        go_round
        case rel => exact ⟨k + 1, by omega, by go_num, HN2⟩
        case measure => simp [intOf]; omega
    · have HM : Hid (hasB xs s = false) := by
        show _ = _
        rw [Bool.eq_false_iff, Ne, hasB_iff]
        intro h
        obtain ⟨j, hj, e⟩ := List.getElem_of_mem h
        exact HN.out j (by omega) (by rw [tx_lt hj]; exact e)
      go_wp2
      go_ret
      exact ⟨by rw [HM.out]; rfl, rfl⟩

set_option maxRecDepth 100000 in
set_option maxHeartbeats 1600000 in
theorem unknown_help {w0 w : World} {x : Nat} {S : SetP} {A : Option Addr} {cap : Nat} {st : St} {AA CH : Value} {pr : Bool} (h : RunAt w0 w x S A cap st AA CH pr) (he : st.err = .no) (n s : Txt) :
    Calls Try.prog 52 #[.pointer (some ⟨x, 0, none⟩), .bool true, .string (mkT n), .string (mkT s)] w (fun e w' => e = .returned (.bool false) ∧ RunAt w0 w' x S A cap { st with err := .help } AA CH pr) := by
  obtain ⟨GA, gc, hx, ho⟩ := h.free he
  have zf := free_blk hx
  have lx := lt_of_block hx
  have de : w.cell? ⟨x, 4, none⟩ = some (.int .i64 0) := (cell_blk hx 4).trans rfl
  go_enter Try.func52, Try.ntmps52
  go_wp2
  go_ret
  have b0 : _ = some (Obj.cells #[.slice A S.flags.length cap, .bool S.plain, .bool S.unknown, .int .i64 (S.fold : Int), .int .i64 1, .string ⟨#[]⟩, .string ⟨#[]⟩, .string ⟨#[]⟩, .int .i64 (-1), .slice GA st.given.length gc, AA, .int .i64 st.dash, CH, .bool pr, .bool false, .bool false, .slice none 0 0, .nilFunc] 41 (0, 0)) := blk_set hx 4 (.int .i64 1)
  exact ⟨rfl, h.turn (.help) hx ho (h.bel.setCell (p := ⟨x, 4, none⟩) h.low (.int .i64 1)) (fun b ne => blk_other ne) b0⟩
set_option maxRecDepth 100000 in
set_option maxHeartbeats 1600000 in
theorem unknown_let {w0 w : World} {x : Nat} {S : SetP} {A : Option Addr} {cap : Nat} {st : St} {AA CH : Value} {pr : Bool} (h : RunAt w0 w x S A cap st AA CH pr) (he : st.err = .no) (hu : S.unknown = true) (n s : Txt) :
    Calls Try.prog 52 #[.pointer (some ⟨x, 0, none⟩), .bool false, .string (mkT n), .string (mkT s)] w (fun e w' => e = .returned (.bool true) ∧ RunAt w0 w' x S A cap st AA CH pr) := by
  obtain ⟨GA, gc, hx, ho⟩ := h.free he
  have zf := free_blk hx
  have lx := lt_of_block hx
  have dun : w.cell? ⟨x, 2, none⟩ = some (.bool true) := (cell_blk hx 2).trans (by rw [hu]; rfl)
  clear hu
  go_enter Try.func52, Try.ntmps52
  go_wp2
  go_ret
  exact ⟨rfl, h⟩
set_option maxRecDepth 100000 in
set_option maxHeartbeats 1600000 in
theorem unknown_not {w0 w : World} {x : Nat} {S : SetP} {A : Option Addr} {cap : Nat} {st : St} {AA CH : Value} {pr : Bool} (h : RunAt w0 w x S A cap st AA CH pr) (he : st.err = .no) (hu : S.unknown = false) (n s : Txt) :
    Calls Try.prog 52 #[.pointer (some ⟨x, 0, none⟩), .bool false, .string (mkT n), .string (mkT s)] w (fun e w' => e = .returned (.bool false) ∧ RunAt w0 w' x S A cap { st with err := .notExist n s } AA CH pr) := by
  obtain ⟨GA, gc, hx, ho⟩ := h.free he
  have zf := free_blk hx
  have lx := lt_of_block hx
  have dun : w.cell? ⟨x, 2, none⟩ = some (.bool false) := (cell_blk hx 2).trans (by rw [hu]; rfl)
  clear hu
  have de : w.cell? ⟨x, 4, none⟩ = some (.int .i64 0) := (cell_blk hx 4).trans rfl
  have dn : w.cell? ⟨x, 5, none⟩ = some (.string ⟨#[]⟩) := (cell_blk hx 5).trans rfl
  have ds : w.cell? ⟨x, 6, none⟩ = some (.string ⟨#[]⟩) := (cell_blk hx 6).trans rfl
  go_enter Try.func52, Try.ntmps52
  go_wp2
  go_ret
  have b0 : _ = some (Obj.cells #[.slice A S.flags.length cap, .bool S.plain, .bool S.unknown, .int .i64 (S.fold : Int), .int .i64 2, .string ⟨#[]⟩, .string ⟨#[]⟩, .string ⟨#[]⟩, .int .i64 (-1), .slice GA st.given.length gc, AA, .int .i64 st.dash, CH, .bool pr, .bool false, .bool false, .slice none 0 0, .nilFunc] 41 (0, 0)) := blk_set hx 4 (.int .i64 2)
  have b1 : _ = some (Obj.cells #[.slice A S.flags.length cap, .bool S.plain, .bool S.unknown, .int .i64 (S.fold : Int), .int .i64 2, .string (mkT n), .string ⟨#[]⟩, .string ⟨#[]⟩, .int .i64 (-1), .slice GA st.given.length gc, AA, .int .i64 st.dash, CH, .bool pr, .bool false, .bool false, .slice none 0 0, .nilFunc] 41 (0, 0)) := blk_set b0 5 (.string (mkT n))
  have b2 : _ = some (Obj.cells #[.slice A S.flags.length cap, .bool S.plain, .bool S.unknown, .int .i64 (S.fold : Int), .int .i64 2, .string (mkT n), .string (mkT s), .string ⟨#[]⟩, .int .i64 (-1), .slice GA st.given.length gc, AA, .int .i64 st.dash, CH, .bool pr, .bool false, .bool false, .slice none 0 0, .nilFunc] 41 (0, 0)) := blk_set b1 6 (.string (mkT s))
  exact ⟨rfl, h.turn (.notExist n s) hx ho (((h.bel.setCell (p := ⟨x, 4, none⟩) h.low (.int .i64 2)).setCell (p := ⟨x, 5, none⟩) h.low (.string (mkT n))).setCell (p := ⟨x, 6, none⟩) h.low (.string (mkT s))) (fun b ne => (blk_other ne).trans ((blk_other ne).trans (blk_other ne))) b2⟩
set_option maxRecDepth 100000 in
set_option maxHeartbeats 1600000 in
theorem gives_bad {w0 w : World} {x : Nat} {S : SetP} {A : Option Addr} {cap : Nat} {st : St} {AA CH : Value} {pr : Bool} (h : RunAt w0 w x S A cap st AA CH pr) (he : st.err = .no) (hA : FlagsAt w0 A S.flags) {i : Nat} (hi : i < S.flags.length) (v : Txt) (hG : st.given.length ≤ 1099511627776) (hb : v ∈ S.flags[i].bad) :
    Calls Try.prog 54 #[.pointer (some ⟨x, 0, none⟩), .int .i64 (i : Int), .string (mkT v)] w (fun e w' => e = .returned (.tuple #[]) ∧ RunAt w0 w' x S A cap { st with err := .invalid i v } AA CH pr) := by
  obtain ⟨GA, gc, hx, ho⟩ := h.free he
  have zf := free_blk hx
  have lx := lt_of_block hx
  obtain ⟨fb, fo, fv, rfl, -, -, -, f3, htx⟩ := hA i hi
  obtain ⟨bA, bc, rfl, hbs, hbl, hbm, _⟩ := htx
  have hbn : (S.flags[i].bad.map mkT).length = S.flags[i].bad.length := List.length_map _
  have e3 := cell_kept h.bel f3
  have hi2 : (i : Int) < (S.flags.length : Int) := by omega
  have i0 : (0 : Int) ≤ (i : Int) := Int.natCast_nonneg _
  have hbB : hasB (S.flags[i].bad.map mkT) (mkT v) = decide (v ∈ S.flags[i].bad) := hasB_map ..
  have HH := Lib.hid (fun (W : World) (hw : Below w0.heap.size w0 W) => hasS_any bA bc (S.flags[i].bad.map mkT) (mkT v) W (strsAt_below hbs hw) (by omega))
  rw [hbB, decide_eq_true hb] at HH
  have HB := Lib.hid h.bel
  have dsl : w.cell? ⟨x, 0, none⟩ = some (.slice (some ⟨fb, fo, none⟩) S.flags.length cap) := (cell_blk hx 0).trans rfl
  have de : w.cell? ⟨x, 4, none⟩ = some (.int .i64 0) := (cell_blk hx 4).trans rfl
  have df : w.cell? ⟨x, 8, none⟩ = some (.int .i64 (-1)) := (cell_blk hx 8).trans rfl
  have dv : w.cell? ⟨x, 7, none⟩ = some (.string ⟨#[]⟩) := (cell_blk hx 7).trans rfl
  have dall : w.cell? ⟨x, 15, none⟩ = some (.bool false) := (cell_blk hx 15).trans rfl
  clear hbs hbl hbm hbB hb hbn f3
  generalize (S.flags[i].bad.map mkT).length = nb at e3 HH
  go_enter Try.func54, Try.ntmps54
  go_wp2_with ((with_reducible go_at_call 90); (with_reducible refine Calls.mono (HH.out _ HB.out) ?_); rintro e w3 ⟨rfl, rfl⟩)
  go_end0
  have b0 : _ = some (Obj.cells #[.slice (some ⟨fb, fo, none⟩) S.flags.length cap, .bool S.plain, .bool S.unknown, .int .i64 (S.fold : Int), .int .i64 4, .string ⟨#[]⟩, .string ⟨#[]⟩, .string ⟨#[]⟩, .int .i64 (-1), .slice GA st.given.length gc, AA, .int .i64 st.dash, CH, .bool pr, .bool false, .bool false, .slice none 0 0, .nilFunc] 41 (0, 0)) := blk_set hx 4 (.int .i64 4)
  have b1 : _ = some (Obj.cells #[.slice (some ⟨fb, fo, none⟩) S.flags.length cap, .bool S.plain, .bool S.unknown, .int .i64 (S.fold : Int), .int .i64 4, .string ⟨#[]⟩, .string ⟨#[]⟩, .string ⟨#[]⟩, .int .i64 (i : Int), .slice GA st.given.length gc, AA, .int .i64 st.dash, CH, .bool pr, .bool false, .bool false, .slice none 0 0, .nilFunc] 41 (0, 0)) := blk_set b0 8 (.int .i64 (i : Int))
  have b2 : _ = some (Obj.cells #[.slice (some ⟨fb, fo, none⟩) S.flags.length cap, .bool S.plain, .bool S.unknown, .int .i64 (S.fold : Int), .int .i64 4, .string ⟨#[]⟩, .string ⟨#[]⟩, .string (mkT v), .int .i64 (i : Int), .slice GA st.given.length gc, AA, .int .i64 st.dash, CH, .bool pr, .bool false, .bool false, .slice none 0 0, .nilFunc] 41 (0, 0)) := blk_set b1 7 (.string (mkT v))
  exact ⟨rfl, h.turn (.invalid i v) hx ho (((h.bel.setCell (p := ⟨x, 4, none⟩) h.low (.int .i64 4)).setCell (p := ⟨x, 8, none⟩) h.low (.int .i64 (i : Int))).setCell (p := ⟨x, 7, none⟩) h.low (.string (mkT v))) (fun b ne => (blk_other ne).trans ((blk_other ne).trans (blk_other ne))) b2⟩
theorem RunAt.give {w0 w wa w1 : World} {x : Nat} {S : SetP} {A : Option Addr} {cap : Nat} {st : St} {AA CH : Value} {pr : Bool} (h : RunAt w0 w x S A cap st AA CH pr) (he : st.err = .no) {i : Nat} {v : Txt} {g c : Nat} {r : Option Nat} (hr : ∀ k, r = some k → w0.heap.size ≤ k ∧ k ≠ x) (hap : ∀ k, r = some k → AA.ownBlock ≠ some k) (hal : Below w.heap.size w wa) (hg : wa.grownBy w1 r) (ho : w1.ownsRow w0.heap.size 57 2 (.slice (some ⟨g, 0, none⟩) (st.given.length + 1) c) (st.given.length + 1) (gCells st.given ++ [.int .i64 (i : Int), .string (mkT v)])) :
    RunAt w0 (w1.setCell ⟨x, 9, none⟩ (.slice (some ⟨g, 0, none⟩) (st.given.length + 1) c)) x S A cap { st with given := st.given ++ [(i, v)] } AA CH pr := by
  obtain ⟨GA, gc, hx, _⟩ := h.free he
  have hx1 : w1.heap[x]? = _ := grown_blk hg (block_kept hx hal) (fun e => (hr x e.symm).2 rfl)
  have hb1 : Below w0.heap.size w0 w1 := (h.bel.trans (hal.mono h.bel.size)).grown hg (Nat.le_trans h.bel.size hal.size) (fun k hk => (hr k hk).1)
  have hlen : (st.given ++ [(i, v)]).length = st.given.length + 1 := by simp
  have b0 : _ = some (Obj.cells #[.slice A S.flags.length cap, .bool S.plain, .bool S.unknown, .int .i64 (S.fold : Int), .int .i64 0, .string ⟨#[]⟩, .string ⟨#[]⟩, .string ⟨#[]⟩, .int .i64 (-1), .slice (some ⟨g, 0, none⟩) (st.given.length + 1) c, AA, .int .i64 st.dash, CH, .bool pr, .bool false, .bool false, .slice none 0 0, .nilFunc] 41 (0, 0)) := blk_set hx1 9 (.slice (some ⟨g, 0, none⟩) (st.given.length + 1) c)
  have ha1 := own_of_blk (own_kept h.arg hal) (fun b hb => hg.block b ((own_kept h.arg hal).lt b hb).2 (fun e => hap b e.symm hb))
  have ha2 := own_of_blk (w' := w1.setCell ⟨x, 9, none⟩ (.slice (some ⟨g, 0, none⟩) (st.given.length + 1) c)) ha1 (fun k hk => blk_other (fun e => by subst e; exact own_far3 ha1 hx1 (by decide) hk))
  refine ⟨hb1.setCell (p := ⟨x, 9, none⟩) h.low _, h.low, ha2, some ⟨g, 0, none⟩, c, ?_, ?_⟩
  · unfold rnCells
    rw [hlen]
    show _ = some (Obj.cells #[_, _, _, _, .int .i64 (eNo st.err), .string (mkT (eName st.err)), .string (mkT (eShort st.err)), .string (mkT (eVal st.err)), .int .i64 (eFlag st.err), _, _, _, _, _, _, _, _, _] _ _)
    rw [he]; exact b0
  · rw [hlen, gCells_snoc]
    exact own_of_blk ho (fun k hk => blk_other (fun e => by subst e; exact own_far3 ho hx1 (by decide) hk))
set_option maxRecDepth 100000 in
set_option maxHeartbeats 1600000 in
theorem gives_ok {w0 w : World} {x : Nat} {S : SetP} {A : Option Addr} {cap : Nat} {st : St} {AA CH : Value} {pr : Bool} (h : RunAt w0 w x S A cap st AA CH pr) (he : st.err = .no) (hA : FlagsAt w0 A S.flags) {i : Nat} (hi : i < S.flags.length) (v : Txt) (hG : st.given.length ≤ 1099511627776) (hb : ¬ v ∈ S.flags[i].bad) :
    Calls Try.prog 54 #[.pointer (some ⟨x, 0, none⟩), .int .i64 (i : Int), .string (mkT v)] w (fun e w' => e = .returned (.tuple #[]) ∧ RunAt w0 w' x S A cap { st with given := st.given ++ [(i, v)] } AA CH pr) := by
  obtain ⟨ti, gi, hz0, hz1, hz2⟩ := info_parts Try.infoG
  obtain ⟨GA, gc, hx, ho⟩ := h.free he
  have zf := free_blk hx
  have lx := lt_of_block hx
  obtain ⟨fb, fo, fv, rfl, -, -, -, f3, htx⟩ := hA i hi
  obtain ⟨bA, bc, rfl, hbs, hbl, hbm, _⟩ := htx
  have hbn : (S.flags[i].bad.map mkT).length = S.flags[i].bad.length := List.length_map _
  have e3 := cell_kept h.bel f3
  have hi2 : (i : Int) < (S.flags.length : Int) := by omega
  have i0 : (0 : Int) ≤ (i : Int) := Int.natCast_nonneg _
  have hbB : hasB (S.flags[i].bad.map mkT) (mkT v) = decide (v ∈ S.flags[i].bad) := hasB_map ..
  have HH := Lib.hid (fun (W : World) (hw : Below w0.heap.size w0 W) => hasS_any bA bc (S.flags[i].bad.map mkT) (mkT v) W (strsAt_below hbs hw) (by omega))
  rw [hbB, decide_eq_false hb] at HH
  have HB := Lib.hid h.bel
  have dsl : w.cell? ⟨x, 0, none⟩ = some (.slice (some ⟨fb, fo, none⟩) S.flags.length cap) := (cell_blk hx 0).trans rfl
  have dG : w.cell? ⟨x, 9, none⟩ = some (.slice GA st.given.length gc) := (cell_blk hx 9).trans rfl
  have dall : w.cell? ⟨x, 15, none⟩ = some (.bool false) := (cell_blk hx 15).trans rfl
  have dtake : w.cell? ⟨x, 17, none⟩ = some (.nilFunc) := (cell_blk hx 17).trans rfl
  have hal : Below w.heap.size w (w.alloc (.cells #[.int .i64 (i : Int), .string (mkT v)] 57)) := (Below.refl _ _).alloc (Nat.le_refl _) _
  have HS := Lib.hid (own_kept ho hal)
  have HX := Lib.hid (block_kept hx hal)
  have hsx : (Value.slice GA st.given.length gc).ownBlock ≠ some x := own_far3 ho hx (by decide)
  have HSX := Lib.hid hsx
  have hso := ho
  have HLT := Lib.hid (fun k hk => (ho.lt k hk).1)
  have HB1 : Hid (w0.heap.size ≤ w.heap.size) := h.bel.size
  have HG := Lib.hid (fun (w1 : World) (g c : Nat) hr hg ho => RunAt.give (i := i) (v := v) (g := g) (c := c) (w1 := w1) (r := (Value.slice GA st.given.length gc).ownBlock) h he hr (fun k hk => by obtain ⟨cur, hc⟩ := own_is hso hk; exact own_far3 h.arg hc (by decide)) hal hg ho)
  have HN := Lib.hid (heap_alloc_new w (.cells #[.int .i64 (i : Int), .string (mkT v)] 57))
  generalize hvv : mkT v = vv at HH HS HX HG HN hal ⊢
  clear hbs hbl hbm hbB hb hbn f3 hsx ho hal hvv hso
  generalize (S.flags[i].bad.map mkT).length = nb at e3 HH
  have hnt := neq_take
  go_enter Try.func54, Try.ntmps54
  go_wp2_with (first
    | ((with_reducible go_at_call 90); (with_reducible refine Calls.mono (HH.out _ HB.out) ?_); rintro e w3 ⟨rfl, rfl⟩)
    | (at_builtin; refine wpList_append_any rfl (.tmp 11) (.tmp 15) 29 rfl w0.heap.size 57 ti _ 2 24 Try.underlying29 gi hz0 hz1 hz2 rfl (by decide) _ st.given.length _ rfl HS.out (some ⟨w.heap.size, 0, none⟩) 1 1 [.int .i64 (i : Int), .string vv] rfl (fun h => by cases h) rfl (fun ad e => by cases e; exact World.news_of_block (cs := #[.int .i64 (i : Int), .string vv]) (t := 57) (fr := (0, 0)) HN.out) (by simp [Value.oneCell']) (by unfold maxLen; omega) (by omega) (by have := HB1.out; simp; omega) ?_; intro v8 w8 hown8 hg8; obtain ⟨A8, c8, hv8, hA8⟩ := own_some hown8 (by omega); subst hv8; have hX8 := grown_blk hg8 HX.out (Ne.symm HSX.out); have y9 : w8.cell? ⟨x, 9, none⟩ = some (.slice GA st.given.length gc) := (cell_blk hX8 9).trans rfl; have zf8 := free_blk hX8; have lx8 := lt_of_block hX8))
  go_end0
  exact ⟨rfl, HG.out w8 A8 c8 (fun k hk => ⟨HLT.out k hk, fun e => by subst e; exact HSX.out hk⟩) hg8 hown8⟩
theorem gives_any {w0 w : World} {x : Nat} {S : SetP} {A : Option Addr} {cap : Nat} {st : St} {AA CH : Value} {pr : Bool} (h : RunAt w0 w x S A cap st AA CH pr) (he : st.err = .no) (hA : FlagsAt w0 A S.flags) {i : Nat} (hi : i < S.flags.length) (v : Txt) (hG : st.given.length ≤ 1099511627776) :
    Calls Try.prog 54 #[.pointer (some ⟨x, 0, none⟩), .int .i64 (i : Int), .string (mkT v)] w (fun e w' => e = .returned (.tuple #[]) ∧ RunAt w0 w' x S A cap (give S none st i v) AA CH pr) := by
  unfold give
  simp only
  rw [badOf_at hi]
  by_cases hb : v ∈ S.flags[i].bad
  · rw [if_pos hb]; exact gives_bad h he hA hi v hG hb
  · rw [if_neg hb]; exact gives_ok h he hA hi v hG hb
/-- Memory below which arguments lie. -/
def pcB (S : SetP) (B : Nat) : PC := ⟨S, B, 0, 0, 0, 0, [], [], .nilFunc, fun _ => False⟩
theorem restAt_of {S : SetP} {w : World} {v : Value} {L : List Txt} (h : TextIn w v (L.map mkT)) : RestAt (pcB S w.heap.size) w v L := by
  obtain ⟨A, c, rfl, h1, h2, h3, h4, h5⟩ := h
  have hl : (L.map mkT).length = L.length := List.length_map _
  exact ⟨A, c, by rw [hl], h1, by rw [hl] at h2; exact h2, h3, h4, h5⟩
theorem textIn_rest {S : SetP} {w : World} {v : Value} {L : List Txt} (h : RestAt (pcB S w.heap.size) w v L) : TextIn w v (L.map mkT) := by
  obtain ⟨A, c, rfl, h1, h2, h3, h4, h5⟩ := h
  have hl : (L.map mkT).length = L.length := List.length_map _
  exact ⟨A, c, by rw [hl], h1, by rw [hl]; exact h2, h3, h4, h5⟩
/-- What a step leaves: the arguments that are left, and what is heard. -/
def StepS (w0 : World) (x : Nat) (S : SetP) (A : Option Addr) (cap : Nat) (AA CH : Value) (pr : Bool) (q : St × List Txt) (e : Ending) (w' : World) : Prop := ∃ v, e = .returned v ∧ RestAt (pcB S w0.heap.size) w0 v q.2 ∧ RunAt w0 w' x S A cap q.1 AA CH pr
set_option maxRecDepth 100000 in
set_option maxHeartbeats 1600000 in
theorem wants_nil {w0 w : World} {x : Nat} {S : SetP} {A : Option Addr} {cap : Nat} {st : St} {AA CH : Value} {pr : Bool} (h : RunAt w0 w x S A cap st AA CH pr) (he : st.err = .no) {vr : Value} (hr : RestAt (pcB S w0.heap.size) w0 vr []) (i : Nat) (n s : Txt) :
    Calls Try.prog 55 #[.pointer (some ⟨x, 0, none⟩), .int .i64 (i : Int), .string (mkT n), .string (mkT s), vr] w (StepS w0 x S A cap AA CH pr ({ st with err := .need i n s }, [])) := by
  obtain ⟨Ar, cr, rfl, hr1⟩ := hr
  obtain ⟨GA, gc, hx, ho⟩ := h.free he
  have zf := free_blk hx
  have lx := lt_of_block hx
  have de : w.cell? ⟨x, 4, none⟩ = some (.int .i64 0) := (cell_blk hx 4).trans rfl
  have df : w.cell? ⟨x, 8, none⟩ = some (.int .i64 (-1)) := (cell_blk hx 8).trans rfl
  have dn : w.cell? ⟨x, 5, none⟩ = some (.string ⟨#[]⟩) := (cell_blk hx 5).trans rfl
  have ds : w.cell? ⟨x, 6, none⟩ = some (.string ⟨#[]⟩) := (cell_blk hx 6).trans rfl
  go_enter Try.func55, Try.ntmps55
  go_wp2
  go_ret
  have b0 : _ = some (Obj.cells #[.slice A S.flags.length cap, .bool S.plain, .bool S.unknown, .int .i64 (S.fold : Int), .int .i64 3, .string ⟨#[]⟩, .string ⟨#[]⟩, .string ⟨#[]⟩, .int .i64 (-1), .slice GA st.given.length gc, AA, .int .i64 st.dash, CH, .bool pr, .bool false, .bool false, .slice none 0 0, .nilFunc] 41 (0, 0)) := blk_set hx 4 (.int .i64 3)
  have b1 : _ = some (Obj.cells #[.slice A S.flags.length cap, .bool S.plain, .bool S.unknown, .int .i64 (S.fold : Int), .int .i64 3, .string ⟨#[]⟩, .string ⟨#[]⟩, .string ⟨#[]⟩, .int .i64 (i : Int), .slice GA st.given.length gc, AA, .int .i64 st.dash, CH, .bool pr, .bool false, .bool false, .slice none 0 0, .nilFunc] 41 (0, 0)) := blk_set b0 8 (.int .i64 (i : Int))
  have b2 : _ = some (Obj.cells #[.slice A S.flags.length cap, .bool S.plain, .bool S.unknown, .int .i64 (S.fold : Int), .int .i64 3, .string (mkT n), .string ⟨#[]⟩, .string ⟨#[]⟩, .int .i64 (i : Int), .slice GA st.given.length gc, AA, .int .i64 st.dash, CH, .bool pr, .bool false, .bool false, .slice none 0 0, .nilFunc] 41 (0, 0)) := blk_set b1 5 (.string (mkT n))
  have b3 : _ = some (Obj.cells #[.slice A S.flags.length cap, .bool S.plain, .bool S.unknown, .int .i64 (S.fold : Int), .int .i64 3, .string (mkT n), .string (mkT s), .string ⟨#[]⟩, .int .i64 (i : Int), .slice GA st.given.length gc, AA, .int .i64 st.dash, CH, .bool pr, .bool false, .bool false, .slice none 0 0, .nilFunc] 41 (0, 0)) := blk_set b2 6 (.string (mkT s))
  exact ⟨_, rfl, ⟨Ar, cr, rfl, hr1⟩, h.turn (.need i n s) hx ho ((((h.bel.setCell (p := ⟨x, 4, none⟩) h.low (.int .i64 3)).setCell (p := ⟨x, 8, none⟩) h.low (.int .i64 (i : Int))).setCell (p := ⟨x, 5, none⟩) h.low (.string (mkT n))).setCell (p := ⟨x, 6, none⟩) h.low (.string (mkT s))) (fun b ne => (blk_other ne).trans ((blk_other ne).trans ((blk_other ne).trans (blk_other ne)))) b3⟩
set_option maxRecDepth 100000 in
set_option maxHeartbeats 1600000 in
theorem wants_next {w0 w : World} {x : Nat} {S : SetP} {A : Option Addr} {cap : Nat} {st : St} {AA CH : Value} {pr : Bool} (h : RunAt w0 w x S A cap st AA CH pr) (he : st.err = .no) (hA : FlagsAt w0 A S.flags) {i : Nat} (hi : i < S.flags.length) (hG : st.given.length ≤ 1099511627776) {vr : Value} {a : Txt} {rs : List Txt} (hr : RestAt (pcB S w0.heap.size) w0 vr (a :: rs)) (hrl : rs.length ≤ 1099511627776) (n s : Txt) :
    Calls Try.prog 55 #[.pointer (some ⟨x, 0, none⟩), .int .i64 (i : Int), .string (mkT n), .string (mkT s), vr] w (StepS w0 x S A cap AA CH pr (give S none st i a, rs)) := by
  obtain ⟨b, o, cap2, rfl, hc, A1, c1, hcut, hrest⟩ := hr.cut
  have HR := Lib.hid (hrest w0 hr)
  have hc2 := cell_kept h.bel hc
  have HGV := Lib.hid (gives_any h he hA hi a hG)
  have z0 : (((rs.length + 1 : Nat) : Int) == 0) = false := by simp; omega
  have z1 : (0 : Int) < ((rs.length + 1 : Nat) : Int) := by omega
  clear hr hrest hc h he hA hi hG
  generalize give S none st i a = st' at HGV ⊢
  generalize mkT a = AX at hc2 HGV
  go_enter Try.func55, Try.ntmps55
  go_wp2_with ((with_reducible go_at_call 54); (with_reducible refine Calls.mono HGV.out ?_); rintro e w3 ⟨rfl, hr3⟩)
  go_ret
  exact ⟨_, rfl, HR.out, hr3⟩
set_option maxRecDepth 100000 in
set_option maxHeartbeats 1600000 in
theorem strip_c {S : SetP} {w0 w : World} (hb : Below w0.heap.size w0 w) {vr : Value} {rest : List Txt} (hr : RestAt (pcB S w0.heap.size) w0 vr rest) (hl : rest.length ≤ 1099511627776) :
    Calls Try.prog 53 #[vr] w fun e w' => ∃ v, e = .returned v ∧ RestAt (pcB S w0.heap.size) w0 v (strip rest) ∧ w = w' := by
  cases rest with
  | nil =>
    obtain ⟨Ar, cr, rfl, hr1⟩ := hr
    go_enter Try.func53, Try.ntmps53
    go_wp2
    go_ret
    exact ⟨_, rfl, ⟨Ar, cr, rfl, hr1⟩, rfl⟩
  | cons a rs =>
    obtain ⟨b, o, cap2, rfl, hc, A1, c1, hcut, hrest⟩ := hr.cut
    have hc2 := cell_kept hb hc
    have z0 : (((rs.length + 1 : Nat) : Int) == 0) = false := by simp; omega
    have z1 : (0 : Int) < ((rs.length + 1 : Nat) : Int) := by omega
    have HR := Lib.hid (hrest w0 hr)
    have HRR := Lib.hid hr
    clear hr hrest hc
    cases a with
    | nil =>
      have hs : strip ([] :: rs) = rs := by simp [strip]
      rw [hs]
      have hc3 : w.cell? ⟨b, o, none⟩ = some (.string ⟨#[]⟩) := hc2
      clear hc2
      go_enter Try.func53, Try.ntmps53
      go_wp2
      go_ret
      exact ⟨_, rfl, HR.out, rfl⟩
    | cons c r =>
      obtain ⟨p0, g0⟩ := mkT_get (l := c :: r) rfl
      have po1 := nonempty_list p0
      have po2 := nonempty_not p0
      by_cases h45 : c = 45
      · have hs : strip ((c :: r) :: rs) = (c :: r) :: rs := by simp [strip, h45]
        rw [hs]
        have b1 : (((mkT (c :: r))[0].toNat : Int) == 45) = true := by rw [g0, h45]; rfl
        clear g0 hs
        generalize mkT (c :: r) = TX at hc2 p0 po1 po2 b1
        go_enter Try.func53, Try.ntmps53
        go_wp2
        go_ret
        exact ⟨_, rfl, HRR.out, rfl⟩
      · have hs : strip ((c :: r) :: rs) = rs := by simp [strip, h45]
        rw [hs]
        have b1 : (((mkT (c :: r))[0].toNat : Int) == 45) = false := nat_beq_false (b := 45) (by rw [g0]; intro e; exact h45 (UInt8.toNat_inj.1 e))
        clear g0 hs
        generalize mkT (c :: r) = TX at hc2 p0 po1 po2 b1
        go_enter Try.func53, Try.ntmps53
        go_wp2
        go_ret
        exact ⟨_, rfl, HR.out, rfl⟩
theorem named_some {w : World} {A : Option Addr} {S : SetP} (hA : FlagsAt w A S.flags) (hR : Right S) (hn : S.flags.length ≤ 2147483647) (hsz : ∀ f ∈ S.flags, f.name.length ≤ 2147483647) (cap : Nat) (t : Txt) (hz : (mkT t).size ≤ 2147483647) {i : Nat} (h : named S t = some i) :
    Calls Try.prog 35 #[.agg #[.slice A S.flags.length cap, .bool S.plain, .bool S.unknown, .int .i64 (S.fold : Int)], .string (mkT t)] w fun e w' => e = .returned (.int .i64 (i : Int)) ∧ Below w.heap.size w w' := by
  refine (named_x hA hn hsz cap S.plain S.unknown hR.fold t hz).mono ?_
  rintro e w' ⟨h1 | h1, hb⟩
  · obtain ⟨j, hj, rfl, e⟩ := h1
    have := named_of hR hj (t := t) e.symm
    rw [h] at this
    cases this
    exact ⟨rfl, hb⟩
  · unfold named at h
    obtain ⟨hi, hp, _⟩ := List.findIdx?_eq_some_iff_getElem.1 h
    exact absurd (of_decide_eq_true hp) (h1.2 _ (List.getElem_mem hi))
theorem named_none {w : World} {A : Option Addr} {S : SetP} (hA : FlagsAt w A S.flags) (hR : Right S) (hn : S.flags.length ≤ 2147483647) (hsz : ∀ f ∈ S.flags, f.name.length ≤ 2147483647) (cap : Nat) (t : Txt) (hz : (mkT t).size ≤ 2147483647) (h : named S t = none) :
    Calls Try.prog 35 #[.agg #[.slice A S.flags.length cap, .bool S.plain, .bool S.unknown, .int .i64 (S.fold : Int)], .string (mkT t)] w fun e w' => e = .returned (.int .i64 (-1)) ∧ Below w.heap.size w w' := by
  refine (named_x hA hn hsz cap S.plain S.unknown hR.fold t hz).mono ?_
  rintro e w' ⟨h1 | h1, hb⟩
  · obtain ⟨j, hj, rfl, e⟩ := h1
    have := named_of hR hj (t := t) e.symm
    rw [h] at this
    cases this
  · exact ⟨h1.1, hb⟩
set_option maxRecDepth 100000 in
set_option maxHeartbeats 1600000 in
theorem longS_syn {w0 w : World} {x : Nat} {S : SetP} {A : Option Addr} {cap : Nat} {st : St} {AA CH : Value} {pr : Bool} (h : RunAt w0 w x S A cap st AA CH pr) (he : st.err = .no) (hA : FlagsAt w0 A S.flags) (hR : Right S) (hn : S.flags.length ≤ 2147483647) (hsz : ∀ f ∈ S.flags, f.name.length ≤ 2147483647) (hG : st.given.length ≤ 1099511627776) {vr : Value} {rest : List Txt} (hr : RestAt (pcB S w0.heap.size) w0 vr rest) (hrl : rest.length ≤ 1099511627776) (t : Txt) (htl : t.length ≤ 2147483600) (hs : t = [] ∨ t.head? = some 45 ∨ t.head? = some 61) :
    Calls Try.prog 20 #[.pointer (some ⟨x, 0, none⟩), .string (mkT (45 :: 45 :: t)), vr] w (StepS w0 x S A cap AA CH pr ({ st with err := .syn (45 :: 45 :: t) }, rest)) := by
  have has : (mkT (45 :: 45 :: t)).size = t.length + 2 := by rw [mkT_size]; simp
  have hA2 : (2 : Int) ≤ ((mkT (45 :: 45 :: t)).size : Int) := by omega
  have hsl : ∀ W, (Instr.slice 9 (.string (mkT (45 :: 45 :: t))) (some (.int .i64 2)) none none).run Try.prog W = .ok (.string (mkT t)) W := fun W => by
    rw [run_slice_string_l (P := Try.prog) W 9 (mkT (45 :: 45 :: t)) Try.underlying9 .i64 2 (by omega) (by omega)]
    have e : (mkT (45 :: 45 :: t)).extract (2 : Int).toNat (mkT (45 :: 45 :: t)).size = mkT t := mkT_inj (by rw [ext_tailP, mkT_list, mkT_list]; rfl)
    rw [e]
  obtain ⟨GA, gc, hx, ho⟩ := h.free he
  have zf := free_blk hx
  have lx := lt_of_block hx
  have de : w.cell? ⟨x, 4, none⟩ = some (.int .i64 0) := (cell_blk hx 4).trans rfl
  have dn : w.cell? ⟨x, 5, none⟩ = some (.string ⟨#[]⟩) := (cell_blk hx 5).trans rfl
  rcases hs with rfl | h9 | h9
  · have z1 : mkT ([] : Txt) = ⟨#[]⟩ := rfl
    simp only [z1] at hsl
    clear has z1
    generalize hARG : mkT (45 :: 45 :: ([] : Txt)) = ARG at hsl hA2 ⊢
    go_enter Try.func20, Try.ntmps20
    go_wp2
    go_ret
    subst hARG
    have b0 : _ = some (Obj.cells #[.slice A S.flags.length cap, .bool S.plain, .bool S.unknown, .int .i64 (S.fold : Int), .int .i64 5, .string ⟨#[]⟩, .string ⟨#[]⟩, .string ⟨#[]⟩, .int .i64 (-1), .slice GA st.given.length gc, AA, .int .i64 st.dash, CH, .bool pr, .bool false, .bool false, .slice none 0 0, .nilFunc] 41 (0, 0)) := blk_set hx 4 (.int .i64 5)
    have b1 : _ = some (Obj.cells #[.slice A S.flags.length cap, .bool S.plain, .bool S.unknown, .int .i64 (S.fold : Int), .int .i64 5, .string (mkT (45 :: 45 :: ([] : Txt))), .string ⟨#[]⟩, .string ⟨#[]⟩, .int .i64 (-1), .slice GA st.given.length gc, AA, .int .i64 st.dash, CH, .bool pr, .bool false, .bool false, .slice none 0 0, .nilFunc] 41 (0, 0)) := blk_set b0 5 (.string (mkT (45 :: 45 :: ([] : Txt))))
    exact ⟨_, rfl, hr, h.turn (.syn (45 :: 45 :: ([] : Txt))) hx ho ((h.bel.setCell (p := ⟨x, 4, none⟩) h.low (.int .i64 5)).setCell (p := ⟨x, 5, none⟩) h.low (.string (mkT (45 :: 45 :: ([] : Txt))))) (fun b ne => (blk_other ne).trans (blk_other ne)) b1⟩
  · obtain ⟨c, r, rfl⟩ : ∃ c r, t = c :: r := by cases t with
      | nil => simp at h9
      | cons c r => exact ⟨c, r, rfl⟩
    obtain ⟨p0, g0⟩ := mkT_get (l := c :: r) rfl
    have po1 := nonempty_list p0
    have po2 := nonempty_not p0
    have c0 : (((mkT (c :: r))[0].toNat : Int) == 45) = true := by rw [g0]; simp only [List.head?_cons, Option.some.injEq] at h9; rw [h9]; rfl
    clear g0 h9 has
    generalize hARG : mkT (45 :: 45 :: (c :: r)) = ARG at hsl hA2 ⊢
    generalize mkT (c :: r) = TX at hsl p0 po1 po2 c0
    go_enter Try.func20, Try.ntmps20
    go_wp2
    go_ret
    subst hARG
    have b0 : _ = some (Obj.cells #[.slice A S.flags.length cap, .bool S.plain, .bool S.unknown, .int .i64 (S.fold : Int), .int .i64 5, .string ⟨#[]⟩, .string ⟨#[]⟩, .string ⟨#[]⟩, .int .i64 (-1), .slice GA st.given.length gc, AA, .int .i64 st.dash, CH, .bool pr, .bool false, .bool false, .slice none 0 0, .nilFunc] 41 (0, 0)) := blk_set hx 4 (.int .i64 5)
    have b1 : _ = some (Obj.cells #[.slice A S.flags.length cap, .bool S.plain, .bool S.unknown, .int .i64 (S.fold : Int), .int .i64 5, .string (mkT (45 :: 45 :: (c :: r))), .string ⟨#[]⟩, .string ⟨#[]⟩, .int .i64 (-1), .slice GA st.given.length gc, AA, .int .i64 st.dash, CH, .bool pr, .bool false, .bool false, .slice none 0 0, .nilFunc] 41 (0, 0)) := blk_set b0 5 (.string (mkT (45 :: 45 :: (c :: r))))
    exact ⟨_, rfl, hr, h.turn (.syn (45 :: 45 :: (c :: r))) hx ho ((h.bel.setCell (p := ⟨x, 4, none⟩) h.low (.int .i64 5)).setCell (p := ⟨x, 5, none⟩) h.low (.string (mkT (45 :: 45 :: (c :: r))))) (fun b ne => (blk_other ne).trans (blk_other ne)) b1⟩
  · obtain ⟨c, r, rfl⟩ : ∃ c r, t = c :: r := by cases t with
      | nil => simp at h9
      | cons c r => exact ⟨c, r, rfl⟩
    obtain ⟨p0, g0⟩ := mkT_get (l := c :: r) rfl
    have po1 := nonempty_list p0
    have po2 := nonempty_not p0
    have c0 : (((mkT (c :: r))[0].toNat : Int) == 45) = false := by rw [g0]; simp only [List.head?_cons, Option.some.injEq] at h9; rw [h9]; rfl
    have c1 : (((mkT (c :: r))[0].toNat : Int) == 61) = true := by rw [g0]; simp only [List.head?_cons, Option.some.injEq] at h9; rw [h9]; rfl
    clear g0 h9 has
    generalize hARG : mkT (45 :: 45 :: (c :: r)) = ARG at hsl hA2 ⊢
    generalize mkT (c :: r) = TX at hsl p0 po1 po2 c0 c1
    go_enter Try.func20, Try.ntmps20
    go_wp2
    go_ret
    subst hARG
    have b0 : _ = some (Obj.cells #[.slice A S.flags.length cap, .bool S.plain, .bool S.unknown, .int .i64 (S.fold : Int), .int .i64 5, .string ⟨#[]⟩, .string ⟨#[]⟩, .string ⟨#[]⟩, .int .i64 (-1), .slice GA st.given.length gc, AA, .int .i64 st.dash, CH, .bool pr, .bool false, .bool false, .slice none 0 0, .nilFunc] 41 (0, 0)) := blk_set hx 4 (.int .i64 5)
    have b1 : _ = some (Obj.cells #[.slice A S.flags.length cap, .bool S.plain, .bool S.unknown, .int .i64 (S.fold : Int), .int .i64 5, .string (mkT (45 :: 45 :: (c :: r))), .string ⟨#[]⟩, .string ⟨#[]⟩, .int .i64 (-1), .slice GA st.given.length gc, AA, .int .i64 st.dash, CH, .bool pr, .bool false, .bool false, .slice none 0 0, .nilFunc] 41 (0, 0)) := blk_set b0 5 (.string (mkT (45 :: 45 :: (c :: r))))
    exact ⟨_, rfl, hr, h.turn (.syn (45 :: 45 :: (c :: r))) hx ho ((h.bel.setCell (p := ⟨x, 4, none⟩) h.low (.int .i64 5)).setCell (p := ⟨x, 5, none⟩) h.low (.string (mkT (45 :: 45 :: (c :: r))))) (fun b ne => (blk_other ne).trans (blk_other ne)) b1⟩
set_option maxRecDepth 100000 in
set_option maxHeartbeats 1600000 in
theorem longS_help_y {w0 w : World} {x : Nat} {S : SetP} {A : Option Addr} {cap : Nat} {st : St} {AA CH : Value} {pr : Bool} (h : RunAt w0 w x S A cap st AA CH pr) (he : st.err = .no) (hA : FlagsAt w0 A S.flags) (hR : Right S) (hn : S.flags.length ≤ 2147483647) (hsz : ∀ f ∈ S.flags, f.name.length ≤ 2147483647) (hG : st.given.length ≤ 1099511627776) {vr : Value} {rest : List Txt} (hr : RestAt (pcB S w0.heap.size) w0 vr rest) (hrl : rest.length ≤ 1099511627776) (t : Txt) (htl : t.length ≤ 2147483600) (hm : ∃ c r, t = c :: r ∧ c ≠ 45 ∧ c ≠ 61) (hq : hasEq t = true) (hnm : named S (nameOf t) = none) (hh : nameOf t = helpT) :
    Calls Try.prog 20 #[.pointer (some ⟨x, 0, none⟩), .string (mkT (45 :: 45 :: t)), vr] w (StepS w0 x S A cap AA CH pr ({ st with err := .help }, rest)) := by
  have has : (mkT (45 :: 45 :: t)).size = t.length + 2 := by rw [mkT_size]; simp
  have hA2 : (2 : Int) ≤ ((mkT (45 :: 45 :: t)).size : Int) := by omega
  have hsl : ∀ W, (Instr.slice 9 (.string (mkT (45 :: 45 :: t))) (some (.int .i64 2)) none none).run Try.prog W = .ok (.string (mkT t)) W := fun W => by
    rw [run_slice_string_l (P := Try.prog) W 9 (mkT (45 :: 45 :: t)) Try.underlying9 .i64 2 (by omega) (by omega)]
    have e : (mkT (45 :: 45 :: t)).extract (2 : Int).toNat (mkT (45 :: 45 :: t)).size = mkT t := mkT_inj (by rw [ext_tailP, mkT_list, mkT_list]; rfl)
    rw [e]
  obtain ⟨GA, gc, hx, ho⟩ := h.free he
  have zf := free_blk hx
  have lx := lt_of_block hx
  obtain ⟨c, r, hcr, hc45, hc61⟩ := hm
  obtain ⟨p0, g0⟩ := mkT_get hcr
  have po1 := nonempty_list p0
  have po2 := nonempty_not p0
  have c0 : (((mkT t)[0].toNat : Int) == 45) = false := nat_beq_false (b := 45) (by rw [g0]; intro e; exact hc45 (UInt8.toNat_inj.1 e))
  have c1 : (((mkT t)[0].toNat : Int) == 61) = false := nat_beq_false (b := 61) (by rw [g0]; intro e; exact hc61 (UInt8.toNat_inj.1 e))
  have htt : (mkT t).size = t.length := mkT_size t
  have hnle := nameOf_le t
  have hnl : (mkT (nameOf t)).size ≤ 2147483647 := by rw [mkT_size]; omega
  have hs2 : ∀ W, (Instr.slice 9 (.string (mkT t)) none (some (.int .i64 ((nameOf t).length : Int))) none).run Try.prog W = .ok (.string (mkT (nameOf t))) W := fun W => by
    rw [run_slice_string_h (P := Try.prog) W 9 (mkT t) Try.underlying9 .i64 ((nameOf t).length : Int) (by omega) (by omega)]
    have e : (mkT t).extract 0 ((nameOf t).length : Int).toNat = mkT (nameOf t) := mkT_inj (by rw [ext_headS, mkT_list, mkT_list, Int.toNat_natCast]; exact (nameOf_take t).symm)
    rw [e]
  have HBY := Lib.hid (fun (W : World) => spec_byteAt.calls _ (mkT t) 61 _ W (byteAt_f (mkT t) (by omega)))
  simp only [mkT_list] at HBY
  have hlt : (((nameOf t).length : Int) < ((mkT t).size : Int)) := by (have q := hq; unfold hasEq at q; have q := of_decide_eq_true q; omega)
  have HNM := Lib.hid (fun (W : World) (hb : Below w0.heap.size w0 W) => named_none (hA.below hb) hR hn hsz cap (nameOf t) hnl hnm)
  have hv : ((mkT (nameOf t)).toList == [104, 101, 108, 112]) = true := by rw [ByteArray.toList_eq, mkT_list, hh]; rfl
  have heq : (((nameOf t).length : Int) == ((mkT t).size : Int)) = false := by simp; omega
  have HUN := Lib.hid (fun (W : World) (hb : Below w.heap.size w W) => (show Calls Try.prog 52 #[.pointer (some ⟨x, 0, none⟩), .bool true, .string (mkT (nameOf t)), .string ⟨#[]⟩] W (fun e w' => e = .returned (.bool false) ∧ RunAt w0 w' x S A cap { st with err := .help } AA CH pr) from unknown_help (h.below hb) he (nameOf t) []))
  clear hnm hh hq
  have HB0 := Lib.hid h.bel
  have HB := Lib.hid (Below.refl w.heap.size w)
  have dsl : w.cell? ⟨x, 0, none⟩ = some (.slice A S.flags.length cap) := (cell_blk hx 0).trans rfl
  have dpl : w.cell? ⟨x, 1, none⟩ = some (.bool S.plain) := (cell_blk hx 1).trans rfl
  have dun : w.cell? ⟨x, 2, none⟩ = some (.bool S.unknown) := (cell_blk hx 2).trans rfl
  have dk : w.cell? ⟨x, 3, none⟩ = some (.int .i64 (S.fold : Int)) := (cell_blk hx 3).trans rfl
  have HRS := Lib.hid hr
  have hnb : ((nameOf t).length : Int) ≤ 2147483600 := by omega
  have hn0 : (0 : Int) ≤ ((nameOf t).length : Int) := Int.natCast_nonneg _
  clear hA hR hsz hnl hcr hc45 hc61 g0 has hx ho h
  generalize mkT (45 :: 45 :: t) = ARG at hsl hA2 ⊢
  go_enter Try.func20, Try.ntmps20
  go_wp2_with (first | ((with_reducible go_at_call 45); (with_reducible refine Calls.mono (HBY.out _) ?_); rintro e w3 ⟨rfl, hd3⟩; have hb3 := hd3.below; have dsl := cell_kept hb3 dsl; have dpl := cell_kept hb3 dpl; have dun := cell_kept hb3 dun; have dk := cell_kept hb3 dk; have HB0 := Lib.hid (HB0.out.trans (hb3.mono HB0.out.size)); have HB := Lib.hid (HB.out.trans (hb3.mono HB.out.size)); clear hb3) | ((with_reducible go_at_call 35); (with_reducible refine Calls.mono (HNM.out _ HB0.out) ?_); rintro e w3 ⟨rfl, hb3⟩; have dsl := cell_kept hb3 dsl; have dpl := cell_kept hb3 dpl; have dun := cell_kept hb3 dun; have dk := cell_kept hb3 dk; have HB0 := Lib.hid (HB0.out.trans (hb3.mono HB0.out.size)); have HB := Lib.hid (HB.out.trans (hb3.mono HB.out.size)); clear hb3) | ((with_reducible go_at_call 52); (with_reducible refine Calls.mono (HUN.out _ HB.out) ?_); rintro e w3 ⟨rfl, hr3⟩))
  go_ret
  exact ⟨_, rfl, HRS.out, hr3⟩
set_option maxRecDepth 100000 in
set_option maxHeartbeats 1600000 in
theorem longS_not_y {w0 w : World} {x : Nat} {S : SetP} {A : Option Addr} {cap : Nat} {st : St} {AA CH : Value} {pr : Bool} (h : RunAt w0 w x S A cap st AA CH pr) (he : st.err = .no) (hA : FlagsAt w0 A S.flags) (hR : Right S) (hn : S.flags.length ≤ 2147483647) (hsz : ∀ f ∈ S.flags, f.name.length ≤ 2147483647) (hG : st.given.length ≤ 1099511627776) {vr : Value} {rest : List Txt} (hr : RestAt (pcB S w0.heap.size) w0 vr rest) (hrl : rest.length ≤ 1099511627776) (t : Txt) (htl : t.length ≤ 2147483600) (hm : ∃ c r, t = c :: r ∧ c ≠ 45 ∧ c ≠ 61) (hq : hasEq t = true) (hnm : named S (nameOf t) = none) (hh : ¬ nameOf t = helpT) (hu : S.unknown = false) :
    Calls Try.prog 20 #[.pointer (some ⟨x, 0, none⟩), .string (mkT (45 :: 45 :: t)), vr] w (StepS w0 x S A cap AA CH pr ({ st with err := .notExist (nameOf t) [] }, rest)) := by
  have has : (mkT (45 :: 45 :: t)).size = t.length + 2 := by rw [mkT_size]; simp
  have hA2 : (2 : Int) ≤ ((mkT (45 :: 45 :: t)).size : Int) := by omega
  have hsl : ∀ W, (Instr.slice 9 (.string (mkT (45 :: 45 :: t))) (some (.int .i64 2)) none none).run Try.prog W = .ok (.string (mkT t)) W := fun W => by
    rw [run_slice_string_l (P := Try.prog) W 9 (mkT (45 :: 45 :: t)) Try.underlying9 .i64 2 (by omega) (by omega)]
    have e : (mkT (45 :: 45 :: t)).extract (2 : Int).toNat (mkT (45 :: 45 :: t)).size = mkT t := mkT_inj (by rw [ext_tailP, mkT_list, mkT_list]; rfl)
    rw [e]
  obtain ⟨GA, gc, hx, ho⟩ := h.free he
  have zf := free_blk hx
  have lx := lt_of_block hx
  obtain ⟨c, r, hcr, hc45, hc61⟩ := hm
  obtain ⟨p0, g0⟩ := mkT_get hcr
  have po1 := nonempty_list p0
  have po2 := nonempty_not p0
  have c0 : (((mkT t)[0].toNat : Int) == 45) = false := nat_beq_false (b := 45) (by rw [g0]; intro e; exact hc45 (UInt8.toNat_inj.1 e))
  have c1 : (((mkT t)[0].toNat : Int) == 61) = false := nat_beq_false (b := 61) (by rw [g0]; intro e; exact hc61 (UInt8.toNat_inj.1 e))
  have htt : (mkT t).size = t.length := mkT_size t
  have hnle := nameOf_le t
  have hnl : (mkT (nameOf t)).size ≤ 2147483647 := by rw [mkT_size]; omega
  have hs2 : ∀ W, (Instr.slice 9 (.string (mkT t)) none (some (.int .i64 ((nameOf t).length : Int))) none).run Try.prog W = .ok (.string (mkT (nameOf t))) W := fun W => by
    rw [run_slice_string_h (P := Try.prog) W 9 (mkT t) Try.underlying9 .i64 ((nameOf t).length : Int) (by omega) (by omega)]
    have e : (mkT t).extract 0 ((nameOf t).length : Int).toNat = mkT (nameOf t) := mkT_inj (by rw [ext_headS, mkT_list, mkT_list, Int.toNat_natCast]; exact (nameOf_take t).symm)
    rw [e]
  have HBY := Lib.hid (fun (W : World) => spec_byteAt.calls _ (mkT t) 61 _ W (byteAt_f (mkT t) (by omega)))
  simp only [mkT_list] at HBY
  have hlt : (((nameOf t).length : Int) < ((mkT t).size : Int)) := by (have q := hq; unfold hasEq at q; have q := of_decide_eq_true q; omega)
  have HNM := Lib.hid (fun (W : World) (hb : Below w0.heap.size w0 W) => named_none (hA.below hb) hR hn hsz cap (nameOf t) hnl hnm)
  have hv : ((mkT (nameOf t)).toList == [104, 101, 108, 112]) = false := by rw [ByteArray.toList_eq, mkT_list]; simpa [helpT] using hh
  have heq : (((nameOf t).length : Int) == ((mkT t).size : Int)) = false := by simp; omega
  have HUN := Lib.hid (fun (W : World) (hb : Below w.heap.size w W) => (show Calls Try.prog 52 #[.pointer (some ⟨x, 0, none⟩), .bool false, .string (mkT (nameOf t)), .string ⟨#[]⟩] W (fun e w' => e = .returned (.bool false) ∧ RunAt w0 w' x S A cap { st with err := .notExist (nameOf t) [] } AA CH pr) from unknown_not (h.below hb) he hu (nameOf t) []))
  clear hnm hh hu hq
  have HB0 := Lib.hid h.bel
  have HB := Lib.hid (Below.refl w.heap.size w)
  have dsl : w.cell? ⟨x, 0, none⟩ = some (.slice A S.flags.length cap) := (cell_blk hx 0).trans rfl
  have dpl : w.cell? ⟨x, 1, none⟩ = some (.bool S.plain) := (cell_blk hx 1).trans rfl
  have dun : w.cell? ⟨x, 2, none⟩ = some (.bool S.unknown) := (cell_blk hx 2).trans rfl
  have dk : w.cell? ⟨x, 3, none⟩ = some (.int .i64 (S.fold : Int)) := (cell_blk hx 3).trans rfl
  have HRS := Lib.hid hr
  have hnb : ((nameOf t).length : Int) ≤ 2147483600 := by omega
  have hn0 : (0 : Int) ≤ ((nameOf t).length : Int) := Int.natCast_nonneg _
  clear hA hR hsz hnl hcr hc45 hc61 g0 has hx ho h
  generalize mkT (45 :: 45 :: t) = ARG at hsl hA2 ⊢
  go_enter Try.func20, Try.ntmps20
  go_wp2_with (first | ((with_reducible go_at_call 45); (with_reducible refine Calls.mono (HBY.out _) ?_); rintro e w3 ⟨rfl, hd3⟩; have hb3 := hd3.below; have dsl := cell_kept hb3 dsl; have dpl := cell_kept hb3 dpl; have dun := cell_kept hb3 dun; have dk := cell_kept hb3 dk; have HB0 := Lib.hid (HB0.out.trans (hb3.mono HB0.out.size)); have HB := Lib.hid (HB.out.trans (hb3.mono HB.out.size)); clear hb3) | ((with_reducible go_at_call 35); (with_reducible refine Calls.mono (HNM.out _ HB0.out) ?_); rintro e w3 ⟨rfl, hb3⟩; have dsl := cell_kept hb3 dsl; have dpl := cell_kept hb3 dpl; have dun := cell_kept hb3 dun; have dk := cell_kept hb3 dk; have HB0 := Lib.hid (HB0.out.trans (hb3.mono HB0.out.size)); have HB := Lib.hid (HB.out.trans (hb3.mono HB.out.size)); clear hb3) | ((with_reducible go_at_call 52); (with_reducible refine Calls.mono (HUN.out _ HB.out) ?_); rintro e w3 ⟨rfl, hr3⟩))
  go_ret
  exact ⟨_, rfl, HRS.out, hr3⟩
set_option maxRecDepth 100000 in
set_option maxHeartbeats 1600000 in
theorem longS_help_n {w0 w : World} {x : Nat} {S : SetP} {A : Option Addr} {cap : Nat} {st : St} {AA CH : Value} {pr : Bool} (h : RunAt w0 w x S A cap st AA CH pr) (he : st.err = .no) (hA : FlagsAt w0 A S.flags) (hR : Right S) (hn : S.flags.length ≤ 2147483647) (hsz : ∀ f ∈ S.flags, f.name.length ≤ 2147483647) (hG : st.given.length ≤ 1099511627776) {vr : Value} {rest : List Txt} (hr : RestAt (pcB S w0.heap.size) w0 vr rest) (hrl : rest.length ≤ 1099511627776) (t : Txt) (htl : t.length ≤ 2147483600) (hm : ∃ c r, t = c :: r ∧ c ≠ 45 ∧ c ≠ 61) (hq : hasEq t = false) (hnm : named S (nameOf t) = none) (hh : nameOf t = helpT) :
    Calls Try.prog 20 #[.pointer (some ⟨x, 0, none⟩), .string (mkT (45 :: 45 :: t)), vr] w (StepS w0 x S A cap AA CH pr ({ st with err := .help }, rest)) := by
  have has : (mkT (45 :: 45 :: t)).size = t.length + 2 := by rw [mkT_size]; simp
  have hA2 : (2 : Int) ≤ ((mkT (45 :: 45 :: t)).size : Int) := by omega
  have hsl : ∀ W, (Instr.slice 9 (.string (mkT (45 :: 45 :: t))) (some (.int .i64 2)) none none).run Try.prog W = .ok (.string (mkT t)) W := fun W => by
    rw [run_slice_string_l (P := Try.prog) W 9 (mkT (45 :: 45 :: t)) Try.underlying9 .i64 2 (by omega) (by omega)]
    have e : (mkT (45 :: 45 :: t)).extract (2 : Int).toNat (mkT (45 :: 45 :: t)).size = mkT t := mkT_inj (by rw [ext_tailP, mkT_list, mkT_list]; rfl)
    rw [e]
  obtain ⟨GA, gc, hx, ho⟩ := h.free he
  have zf := free_blk hx
  have lx := lt_of_block hx
  obtain ⟨c, r, hcr, hc45, hc61⟩ := hm
  obtain ⟨p0, g0⟩ := mkT_get hcr
  have po1 := nonempty_list p0
  have po2 := nonempty_not p0
  have c0 : (((mkT t)[0].toNat : Int) == 45) = false := nat_beq_false (b := 45) (by rw [g0]; intro e; exact hc45 (UInt8.toNat_inj.1 e))
  have c1 : (((mkT t)[0].toNat : Int) == 61) = false := nat_beq_false (b := 61) (by rw [g0]; intro e; exact hc61 (UInt8.toNat_inj.1 e))
  have htt : (mkT t).size = t.length := mkT_size t
  have hnle := nameOf_le t
  have hnl : (mkT (nameOf t)).size ≤ 2147483647 := by rw [mkT_size]; omega
  have hs2 : ∀ W, (Instr.slice 9 (.string (mkT t)) none (some (.int .i64 ((nameOf t).length : Int))) none).run Try.prog W = .ok (.string (mkT (nameOf t))) W := fun W => by
    rw [run_slice_string_h (P := Try.prog) W 9 (mkT t) Try.underlying9 .i64 ((nameOf t).length : Int) (by omega) (by omega)]
    have e : (mkT t).extract 0 ((nameOf t).length : Int).toNat = mkT (nameOf t) := mkT_inj (by rw [ext_headS, mkT_list, mkT_list, Int.toNat_natCast]; exact (nameOf_take t).symm)
    rw [e]
  have HBY := Lib.hid (fun (W : World) => spec_byteAt.calls _ (mkT t) 61 _ W (byteAt_f (mkT t) (by omega)))
  simp only [mkT_list] at HBY
  have hlt : ¬ (((nameOf t).length : Int) < ((mkT t).size : Int)) := by (have q := hq; unfold hasEq at q; have q := of_decide_eq_false q; omega)
  have HNM := Lib.hid (fun (W : World) (hb : Below w0.heap.size w0 W) => named_none (hA.below hb) hR hn hsz cap (nameOf t) hnl hnm)
  have hv : ((mkT (nameOf t)).toList == [104, 101, 108, 112]) = true := by rw [ByteArray.toList_eq, mkT_list, hh]; rfl
  have heq : (((nameOf t).length : Int) == ((mkT t).size : Int)) = true := by simp; omega
  have HUN := Lib.hid (fun (W : World) (hb : Below w.heap.size w W) => (show Calls Try.prog 52 #[.pointer (some ⟨x, 0, none⟩), .bool true, .string (mkT (nameOf t)), .string ⟨#[]⟩] W (fun e w' => e = .returned (.bool false) ∧ RunAt w0 w' x S A cap { st with err := .help } AA CH pr) from unknown_help (h.below hb) he (nameOf t) []))
  clear hnm hh hq
  have HB0 := Lib.hid h.bel
  have HB := Lib.hid (Below.refl w.heap.size w)
  have dsl : w.cell? ⟨x, 0, none⟩ = some (.slice A S.flags.length cap) := (cell_blk hx 0).trans rfl
  have dpl : w.cell? ⟨x, 1, none⟩ = some (.bool S.plain) := (cell_blk hx 1).trans rfl
  have dun : w.cell? ⟨x, 2, none⟩ = some (.bool S.unknown) := (cell_blk hx 2).trans rfl
  have dk : w.cell? ⟨x, 3, none⟩ = some (.int .i64 (S.fold : Int)) := (cell_blk hx 3).trans rfl
  have HRS := Lib.hid hr
  have hnb : ((nameOf t).length : Int) ≤ 2147483600 := by omega
  have hn0 : (0 : Int) ≤ ((nameOf t).length : Int) := Int.natCast_nonneg _
  clear hA hR hsz hnl hcr hc45 hc61 g0 has hx ho h
  generalize mkT (45 :: 45 :: t) = ARG at hsl hA2 ⊢
  go_enter Try.func20, Try.ntmps20
  go_wp2_with (first | ((with_reducible go_at_call 45); (with_reducible refine Calls.mono (HBY.out _) ?_); rintro e w3 ⟨rfl, hd3⟩; have hb3 := hd3.below; have dsl := cell_kept hb3 dsl; have dpl := cell_kept hb3 dpl; have dun := cell_kept hb3 dun; have dk := cell_kept hb3 dk; have HB0 := Lib.hid (HB0.out.trans (hb3.mono HB0.out.size)); have HB := Lib.hid (HB.out.trans (hb3.mono HB.out.size)); clear hb3) | ((with_reducible go_at_call 35); (with_reducible refine Calls.mono (HNM.out _ HB0.out) ?_); rintro e w3 ⟨rfl, hb3⟩; have dsl := cell_kept hb3 dsl; have dpl := cell_kept hb3 dpl; have dun := cell_kept hb3 dun; have dk := cell_kept hb3 dk; have HB0 := Lib.hid (HB0.out.trans (hb3.mono HB0.out.size)); have HB := Lib.hid (HB.out.trans (hb3.mono HB.out.size)); clear hb3) | ((with_reducible go_at_call 52); (with_reducible refine Calls.mono (HUN.out _ HB.out) ?_); rintro e w3 ⟨rfl, hr3⟩))
  go_ret
  exact ⟨_, rfl, HRS.out, hr3⟩
set_option maxRecDepth 100000 in
set_option maxHeartbeats 1600000 in
theorem longS_not_n {w0 w : World} {x : Nat} {S : SetP} {A : Option Addr} {cap : Nat} {st : St} {AA CH : Value} {pr : Bool} (h : RunAt w0 w x S A cap st AA CH pr) (he : st.err = .no) (hA : FlagsAt w0 A S.flags) (hR : Right S) (hn : S.flags.length ≤ 2147483647) (hsz : ∀ f ∈ S.flags, f.name.length ≤ 2147483647) (hG : st.given.length ≤ 1099511627776) {vr : Value} {rest : List Txt} (hr : RestAt (pcB S w0.heap.size) w0 vr rest) (hrl : rest.length ≤ 1099511627776) (t : Txt) (htl : t.length ≤ 2147483600) (hm : ∃ c r, t = c :: r ∧ c ≠ 45 ∧ c ≠ 61) (hq : hasEq t = false) (hnm : named S (nameOf t) = none) (hh : ¬ nameOf t = helpT) (hu : S.unknown = false) :
    Calls Try.prog 20 #[.pointer (some ⟨x, 0, none⟩), .string (mkT (45 :: 45 :: t)), vr] w (StepS w0 x S A cap AA CH pr ({ st with err := .notExist (nameOf t) [] }, rest)) := by
  have has : (mkT (45 :: 45 :: t)).size = t.length + 2 := by rw [mkT_size]; simp
  have hA2 : (2 : Int) ≤ ((mkT (45 :: 45 :: t)).size : Int) := by omega
  have hsl : ∀ W, (Instr.slice 9 (.string (mkT (45 :: 45 :: t))) (some (.int .i64 2)) none none).run Try.prog W = .ok (.string (mkT t)) W := fun W => by
    rw [run_slice_string_l (P := Try.prog) W 9 (mkT (45 :: 45 :: t)) Try.underlying9 .i64 2 (by omega) (by omega)]
    have e : (mkT (45 :: 45 :: t)).extract (2 : Int).toNat (mkT (45 :: 45 :: t)).size = mkT t := mkT_inj (by rw [ext_tailP, mkT_list, mkT_list]; rfl)
    rw [e]
  obtain ⟨GA, gc, hx, ho⟩ := h.free he
  have zf := free_blk hx
  have lx := lt_of_block hx
  obtain ⟨c, r, hcr, hc45, hc61⟩ := hm
  obtain ⟨p0, g0⟩ := mkT_get hcr
  have po1 := nonempty_list p0
  have po2 := nonempty_not p0
  have c0 : (((mkT t)[0].toNat : Int) == 45) = false := nat_beq_false (b := 45) (by rw [g0]; intro e; exact hc45 (UInt8.toNat_inj.1 e))
  have c1 : (((mkT t)[0].toNat : Int) == 61) = false := nat_beq_false (b := 61) (by rw [g0]; intro e; exact hc61 (UInt8.toNat_inj.1 e))
  have htt : (mkT t).size = t.length := mkT_size t
  have hnle := nameOf_le t
  have hnl : (mkT (nameOf t)).size ≤ 2147483647 := by rw [mkT_size]; omega
  have hs2 : ∀ W, (Instr.slice 9 (.string (mkT t)) none (some (.int .i64 ((nameOf t).length : Int))) none).run Try.prog W = .ok (.string (mkT (nameOf t))) W := fun W => by
    rw [run_slice_string_h (P := Try.prog) W 9 (mkT t) Try.underlying9 .i64 ((nameOf t).length : Int) (by omega) (by omega)]
    have e : (mkT t).extract 0 ((nameOf t).length : Int).toNat = mkT (nameOf t) := mkT_inj (by rw [ext_headS, mkT_list, mkT_list, Int.toNat_natCast]; exact (nameOf_take t).symm)
    rw [e]
  have HBY := Lib.hid (fun (W : World) => spec_byteAt.calls _ (mkT t) 61 _ W (byteAt_f (mkT t) (by omega)))
  simp only [mkT_list] at HBY
  have hlt : ¬ (((nameOf t).length : Int) < ((mkT t).size : Int)) := by (have q := hq; unfold hasEq at q; have q := of_decide_eq_false q; omega)
  have HNM := Lib.hid (fun (W : World) (hb : Below w0.heap.size w0 W) => named_none (hA.below hb) hR hn hsz cap (nameOf t) hnl hnm)
  have hv : ((mkT (nameOf t)).toList == [104, 101, 108, 112]) = false := by rw [ByteArray.toList_eq, mkT_list]; simpa [helpT] using hh
  have heq : (((nameOf t).length : Int) == ((mkT t).size : Int)) = true := by simp; omega
  have HUN := Lib.hid (fun (W : World) (hb : Below w.heap.size w W) => (show Calls Try.prog 52 #[.pointer (some ⟨x, 0, none⟩), .bool false, .string (mkT (nameOf t)), .string ⟨#[]⟩] W (fun e w' => e = .returned (.bool false) ∧ RunAt w0 w' x S A cap { st with err := .notExist (nameOf t) [] } AA CH pr) from unknown_not (h.below hb) he hu (nameOf t) []))
  clear hnm hh hu hq
  have HB0 := Lib.hid h.bel
  have HB := Lib.hid (Below.refl w.heap.size w)
  have dsl : w.cell? ⟨x, 0, none⟩ = some (.slice A S.flags.length cap) := (cell_blk hx 0).trans rfl
  have dpl : w.cell? ⟨x, 1, none⟩ = some (.bool S.plain) := (cell_blk hx 1).trans rfl
  have dun : w.cell? ⟨x, 2, none⟩ = some (.bool S.unknown) := (cell_blk hx 2).trans rfl
  have dk : w.cell? ⟨x, 3, none⟩ = some (.int .i64 (S.fold : Int)) := (cell_blk hx 3).trans rfl
  have HRS := Lib.hid hr
  have hnb : ((nameOf t).length : Int) ≤ 2147483600 := by omega
  have hn0 : (0 : Int) ≤ ((nameOf t).length : Int) := Int.natCast_nonneg _
  clear hA hR hsz hnl hcr hc45 hc61 g0 has hx ho h
  generalize mkT (45 :: 45 :: t) = ARG at hsl hA2 ⊢
  go_enter Try.func20, Try.ntmps20
  go_wp2_with (first | ((with_reducible go_at_call 45); (with_reducible refine Calls.mono (HBY.out _) ?_); rintro e w3 ⟨rfl, hd3⟩; have hb3 := hd3.below; have dsl := cell_kept hb3 dsl; have dpl := cell_kept hb3 dpl; have dun := cell_kept hb3 dun; have dk := cell_kept hb3 dk; have HB0 := Lib.hid (HB0.out.trans (hb3.mono HB0.out.size)); have HB := Lib.hid (HB.out.trans (hb3.mono HB.out.size)); clear hb3) | ((with_reducible go_at_call 35); (with_reducible refine Calls.mono (HNM.out _ HB0.out) ?_); rintro e w3 ⟨rfl, hb3⟩; have dsl := cell_kept hb3 dsl; have dpl := cell_kept hb3 dpl; have dun := cell_kept hb3 dun; have dk := cell_kept hb3 dk; have HB0 := Lib.hid (HB0.out.trans (hb3.mono HB0.out.size)); have HB := Lib.hid (HB.out.trans (hb3.mono HB.out.size)); clear hb3) | ((with_reducible go_at_call 52); (with_reducible refine Calls.mono (HUN.out _ HB.out) ?_); rintro e w3 ⟨rfl, hr3⟩))
  go_ret
  exact ⟨_, rfl, HRS.out, hr3⟩
set_option maxRecDepth 100000 in
set_option maxHeartbeats 1600000 in
theorem longS_let_y {w0 w : World} {x : Nat} {S : SetP} {A : Option Addr} {cap : Nat} {st : St} {AA CH : Value} {pr : Bool} (h : RunAt w0 w x S A cap st AA CH pr) (he : st.err = .no) (hA : FlagsAt w0 A S.flags) (hR : Right S) (hn : S.flags.length ≤ 2147483647) (hsz : ∀ f ∈ S.flags, f.name.length ≤ 2147483647) (hG : st.given.length ≤ 1099511627776) {vr : Value} {rest : List Txt} (hr : RestAt (pcB S w0.heap.size) w0 vr rest) (hrl : rest.length ≤ 1099511627776) (t : Txt) (htl : t.length ≤ 2147483600) (hm : ∃ c r, t = c :: r ∧ c ≠ 45 ∧ c ≠ 61) (hq : hasEq t = true) (hnm : named S (nameOf t) = none) (hh : ¬ nameOf t = helpT) (hu : S.unknown = true) :
    Calls Try.prog 20 #[.pointer (some ⟨x, 0, none⟩), .string (mkT (45 :: 45 :: t)), vr] w (StepS w0 x S A cap AA CH pr (st, rest)) := by
  have has : (mkT (45 :: 45 :: t)).size = t.length + 2 := by rw [mkT_size]; simp
  have hA2 : (2 : Int) ≤ ((mkT (45 :: 45 :: t)).size : Int) := by omega
  have hsl : ∀ W, (Instr.slice 9 (.string (mkT (45 :: 45 :: t))) (some (.int .i64 2)) none none).run Try.prog W = .ok (.string (mkT t)) W := fun W => by
    rw [run_slice_string_l (P := Try.prog) W 9 (mkT (45 :: 45 :: t)) Try.underlying9 .i64 2 (by omega) (by omega)]
    have e : (mkT (45 :: 45 :: t)).extract (2 : Int).toNat (mkT (45 :: 45 :: t)).size = mkT t := mkT_inj (by rw [ext_tailP, mkT_list, mkT_list]; rfl)
    rw [e]
  obtain ⟨GA, gc, hx, ho⟩ := h.free he
  have zf := free_blk hx
  have lx := lt_of_block hx
  obtain ⟨c, r, hcr, hc45, hc61⟩ := hm
  obtain ⟨p0, g0⟩ := mkT_get hcr
  have po1 := nonempty_list p0
  have po2 := nonempty_not p0
  have c0 : (((mkT t)[0].toNat : Int) == 45) = false := nat_beq_false (b := 45) (by rw [g0]; intro e; exact hc45 (UInt8.toNat_inj.1 e))
  have c1 : (((mkT t)[0].toNat : Int) == 61) = false := nat_beq_false (b := 61) (by rw [g0]; intro e; exact hc61 (UInt8.toNat_inj.1 e))
  have htt : (mkT t).size = t.length := mkT_size t
  have hnle := nameOf_le t
  have hnl : (mkT (nameOf t)).size ≤ 2147483647 := by rw [mkT_size]; omega
  have hs2 : ∀ W, (Instr.slice 9 (.string (mkT t)) none (some (.int .i64 ((nameOf t).length : Int))) none).run Try.prog W = .ok (.string (mkT (nameOf t))) W := fun W => by
    rw [run_slice_string_h (P := Try.prog) W 9 (mkT t) Try.underlying9 .i64 ((nameOf t).length : Int) (by omega) (by omega)]
    have e : (mkT t).extract 0 ((nameOf t).length : Int).toNat = mkT (nameOf t) := mkT_inj (by rw [ext_headS, mkT_list, mkT_list, Int.toNat_natCast]; exact (nameOf_take t).symm)
    rw [e]
  have HBY := Lib.hid (fun (W : World) => spec_byteAt.calls _ (mkT t) 61 _ W (byteAt_f (mkT t) (by omega)))
  simp only [mkT_list] at HBY
  have hlt : (((nameOf t).length : Int) < ((mkT t).size : Int)) := by (have q := hq; unfold hasEq at q; have q := of_decide_eq_true q; omega)
  have HNM := Lib.hid (fun (W : World) (hb : Below w0.heap.size w0 W) => named_none (hA.below hb) hR hn hsz cap (nameOf t) hnl hnm)
  have hv : ((mkT (nameOf t)).toList == [104, 101, 108, 112]) = false := by rw [ByteArray.toList_eq, mkT_list]; simpa [helpT] using hh
  have heq : (((nameOf t).length : Int) == ((mkT t).size : Int)) = false := by simp; omega
  have HUN := Lib.hid (fun (W : World) (hb : Below w.heap.size w W) => (show Calls Try.prog 52 #[.pointer (some ⟨x, 0, none⟩), .bool false, .string (mkT (nameOf t)), .string ⟨#[]⟩] W (fun e w' => e = .returned (.bool true) ∧ RunAt w0 w' x S A cap st AA CH pr) from unknown_let (h.below hb) he hu (nameOf t) []))
  clear hnm hh hu hq
  have HB0 := Lib.hid h.bel
  have HB := Lib.hid (Below.refl w.heap.size w)
  have dsl : w.cell? ⟨x, 0, none⟩ = some (.slice A S.flags.length cap) := (cell_blk hx 0).trans rfl
  have dpl : w.cell? ⟨x, 1, none⟩ = some (.bool S.plain) := (cell_blk hx 1).trans rfl
  have dun : w.cell? ⟨x, 2, none⟩ = some (.bool S.unknown) := (cell_blk hx 2).trans rfl
  have dk : w.cell? ⟨x, 3, none⟩ = some (.int .i64 (S.fold : Int)) := (cell_blk hx 3).trans rfl
  have HRS := Lib.hid hr
  have hnb : ((nameOf t).length : Int) ≤ 2147483600 := by omega
  have hn0 : (0 : Int) ≤ ((nameOf t).length : Int) := Int.natCast_nonneg _
  clear hA hR hsz hnl hcr hc45 hc61 g0 has hx ho h
  generalize mkT (45 :: 45 :: t) = ARG at hsl hA2 ⊢
  go_enter Try.func20, Try.ntmps20
  go_wp2_with (first | ((with_reducible go_at_call 45); (with_reducible refine Calls.mono (HBY.out _) ?_); rintro e w3 ⟨rfl, hd3⟩; have hb3 := hd3.below; have dsl := cell_kept hb3 dsl; have dpl := cell_kept hb3 dpl; have dun := cell_kept hb3 dun; have dk := cell_kept hb3 dk; have HB0 := Lib.hid (HB0.out.trans (hb3.mono HB0.out.size)); have HB := Lib.hid (HB.out.trans (hb3.mono HB.out.size)); clear hb3) | ((with_reducible go_at_call 35); (with_reducible refine Calls.mono (HNM.out _ HB0.out) ?_); rintro e w3 ⟨rfl, hb3⟩; have dsl := cell_kept hb3 dsl; have dpl := cell_kept hb3 dpl; have dun := cell_kept hb3 dun; have dk := cell_kept hb3 dk; have HB0 := Lib.hid (HB0.out.trans (hb3.mono HB0.out.size)); have HB := Lib.hid (HB.out.trans (hb3.mono HB.out.size)); clear hb3) | ((with_reducible go_at_call 52); (with_reducible refine Calls.mono (HUN.out _ HB.out) ?_); rintro e w3 ⟨rfl, hr3⟩))
  go_ret
  exact ⟨_, rfl, HRS.out, hr3⟩
set_option maxRecDepth 100000 in
set_option maxHeartbeats 1600000 in
theorem longS_let_n {w0 w : World} {x : Nat} {S : SetP} {A : Option Addr} {cap : Nat} {st : St} {AA CH : Value} {pr : Bool} (h : RunAt w0 w x S A cap st AA CH pr) (he : st.err = .no) (hA : FlagsAt w0 A S.flags) (hR : Right S) (hn : S.flags.length ≤ 2147483647) (hsz : ∀ f ∈ S.flags, f.name.length ≤ 2147483647) (hG : st.given.length ≤ 1099511627776) {vr : Value} {rest : List Txt} (hr : RestAt (pcB S w0.heap.size) w0 vr rest) (hrl : rest.length ≤ 1099511627776) (t : Txt) (htl : t.length ≤ 2147483600) (hm : ∃ c r, t = c :: r ∧ c ≠ 45 ∧ c ≠ 61) (hq : hasEq t = false) (hnm : named S (nameOf t) = none) (hh : ¬ nameOf t = helpT) (hu : S.unknown = true) :
    Calls Try.prog 20 #[.pointer (some ⟨x, 0, none⟩), .string (mkT (45 :: 45 :: t)), vr] w (StepS w0 x S A cap AA CH pr (st, strip rest)) := by
  have has : (mkT (45 :: 45 :: t)).size = t.length + 2 := by rw [mkT_size]; simp
  have hA2 : (2 : Int) ≤ ((mkT (45 :: 45 :: t)).size : Int) := by omega
  have hsl : ∀ W, (Instr.slice 9 (.string (mkT (45 :: 45 :: t))) (some (.int .i64 2)) none none).run Try.prog W = .ok (.string (mkT t)) W := fun W => by
    rw [run_slice_string_l (P := Try.prog) W 9 (mkT (45 :: 45 :: t)) Try.underlying9 .i64 2 (by omega) (by omega)]
    have e : (mkT (45 :: 45 :: t)).extract (2 : Int).toNat (mkT (45 :: 45 :: t)).size = mkT t := mkT_inj (by rw [ext_tailP, mkT_list, mkT_list]; rfl)
    rw [e]
  obtain ⟨GA, gc, hx, ho⟩ := h.free he
  have zf := free_blk hx
  have lx := lt_of_block hx
  obtain ⟨c, r, hcr, hc45, hc61⟩ := hm
  obtain ⟨p0, g0⟩ := mkT_get hcr
  have po1 := nonempty_list p0
  have po2 := nonempty_not p0
  have c0 : (((mkT t)[0].toNat : Int) == 45) = false := nat_beq_false (b := 45) (by rw [g0]; intro e; exact hc45 (UInt8.toNat_inj.1 e))
  have c1 : (((mkT t)[0].toNat : Int) == 61) = false := nat_beq_false (b := 61) (by rw [g0]; intro e; exact hc61 (UInt8.toNat_inj.1 e))
  have htt : (mkT t).size = t.length := mkT_size t
  have hnle := nameOf_le t
  have hnl : (mkT (nameOf t)).size ≤ 2147483647 := by rw [mkT_size]; omega
  have hs2 : ∀ W, (Instr.slice 9 (.string (mkT t)) none (some (.int .i64 ((nameOf t).length : Int))) none).run Try.prog W = .ok (.string (mkT (nameOf t))) W := fun W => by
    rw [run_slice_string_h (P := Try.prog) W 9 (mkT t) Try.underlying9 .i64 ((nameOf t).length : Int) (by omega) (by omega)]
    have e : (mkT t).extract 0 ((nameOf t).length : Int).toNat = mkT (nameOf t) := mkT_inj (by rw [ext_headS, mkT_list, mkT_list, Int.toNat_natCast]; exact (nameOf_take t).symm)
    rw [e]
  have HBY := Lib.hid (fun (W : World) => spec_byteAt.calls _ (mkT t) 61 _ W (byteAt_f (mkT t) (by omega)))
  simp only [mkT_list] at HBY
  have hlt : ¬ (((nameOf t).length : Int) < ((mkT t).size : Int)) := by (have q := hq; unfold hasEq at q; have q := of_decide_eq_false q; omega)
  have HNM := Lib.hid (fun (W : World) (hb : Below w0.heap.size w0 W) => named_none (hA.below hb) hR hn hsz cap (nameOf t) hnl hnm)
  have hv : ((mkT (nameOf t)).toList == [104, 101, 108, 112]) = false := by rw [ByteArray.toList_eq, mkT_list]; simpa [helpT] using hh
  have heq : (((nameOf t).length : Int) == ((mkT t).size : Int)) = true := by simp; omega
  have HUN := Lib.hid (fun (W : World) (hb : Below w.heap.size w W) => (show Calls Try.prog 52 #[.pointer (some ⟨x, 0, none⟩), .bool false, .string (mkT (nameOf t)), .string ⟨#[]⟩] W (fun e w' => e = .returned (.bool true) ∧ RunAt w0 w' x S A cap st AA CH pr) from unknown_let (h.below hb) he hu (nameOf t) []))
  have HST := Lib.hid (fun (W : World) (hb : Below w0.heap.size w0 W) => strip_c hb hr hrl)
  clear hnm hh hu hq
  have HB0 := Lib.hid h.bel
  have HB := Lib.hid (Below.refl w.heap.size w)
  have dsl : w.cell? ⟨x, 0, none⟩ = some (.slice A S.flags.length cap) := (cell_blk hx 0).trans rfl
  have dpl : w.cell? ⟨x, 1, none⟩ = some (.bool S.plain) := (cell_blk hx 1).trans rfl
  have dun : w.cell? ⟨x, 2, none⟩ = some (.bool S.unknown) := (cell_blk hx 2).trans rfl
  have dk : w.cell? ⟨x, 3, none⟩ = some (.int .i64 (S.fold : Int)) := (cell_blk hx 3).trans rfl
  have HRS := Lib.hid hr
  have hnb : ((nameOf t).length : Int) ≤ 2147483600 := by omega
  have hn0 : (0 : Int) ≤ ((nameOf t).length : Int) := Int.natCast_nonneg _
  clear hA hR hsz hnl hcr hc45 hc61 g0 has hx ho h
  generalize mkT (45 :: 45 :: t) = ARG at hsl hA2 ⊢
  go_enter Try.func20, Try.ntmps20
  go_wp2_with (first | ((with_reducible go_at_call 45); (with_reducible refine Calls.mono (HBY.out _) ?_); rintro e w3 ⟨rfl, hd3⟩; have hb3 := hd3.below; have dsl := cell_kept hb3 dsl; have dpl := cell_kept hb3 dpl; have dun := cell_kept hb3 dun; have dk := cell_kept hb3 dk; have HB0 := Lib.hid (HB0.out.trans (hb3.mono HB0.out.size)); have HB := Lib.hid (HB.out.trans (hb3.mono HB.out.size)); clear hb3) | ((with_reducible go_at_call 35); (with_reducible refine Calls.mono (HNM.out _ HB0.out) ?_); rintro e w3 ⟨rfl, hb3⟩; have dsl := cell_kept hb3 dsl; have dpl := cell_kept hb3 dpl; have dun := cell_kept hb3 dun; have dk := cell_kept hb3 dk; have HB0 := Lib.hid (HB0.out.trans (hb3.mono HB0.out.size)); have HB := Lib.hid (HB.out.trans (hb3.mono HB.out.size)); clear hb3) | ((with_reducible go_at_call 52); (with_reducible refine Calls.mono (HUN.out _ HB.out) ?_); rintro e w3 ⟨rfl, hr3⟩) | ((with_reducible go_at_call 53); (with_reducible refine Calls.mono (HST.out _ hr3.bel) ?_); rintro e w4 ⟨v4, rfl, hv4, rfl⟩))
  go_ret
  exact ⟨_, rfl, hv4, hr3⟩
set_option maxRecDepth 100000 in
set_option maxHeartbeats 1600000 in
theorem longS_eq {w0 w : World} {x : Nat} {S : SetP} {A : Option Addr} {cap : Nat} {st : St} {AA CH : Value} {pr : Bool} (h : RunAt w0 w x S A cap st AA CH pr) (he : st.err = .no) (hA : FlagsAt w0 A S.flags) (hR : Right S) (hn : S.flags.length ≤ 2147483647) (hsz : ∀ f ∈ S.flags, f.name.length ≤ 2147483647) (hG : st.given.length ≤ 1099511627776) {vr : Value} {rest : List Txt} (hr : RestAt (pcB S w0.heap.size) w0 vr rest) (hrl : rest.length ≤ 1099511627776) (t : Txt) (htl : t.length ≤ 2147483600) (hm : ∃ c r, t = c :: r ∧ c ≠ 45 ∧ c ≠ 61) (hq : hasEq t = true) {i : Nat} (hnm : named S (nameOf t) = some i) :
    Calls Try.prog 20 #[.pointer (some ⟨x, 0, none⟩), .string (mkT (45 :: 45 :: t)), vr] w (StepS w0 x S A cap AA CH pr (give S none st i (valueOf t), rest)) := by
  have has : (mkT (45 :: 45 :: t)).size = t.length + 2 := by rw [mkT_size]; simp
  have hA2 : (2 : Int) ≤ ((mkT (45 :: 45 :: t)).size : Int) := by omega
  have hsl : ∀ W, (Instr.slice 9 (.string (mkT (45 :: 45 :: t))) (some (.int .i64 2)) none none).run Try.prog W = .ok (.string (mkT t)) W := fun W => by
    rw [run_slice_string_l (P := Try.prog) W 9 (mkT (45 :: 45 :: t)) Try.underlying9 .i64 2 (by omega) (by omega)]
    have e : (mkT (45 :: 45 :: t)).extract (2 : Int).toNat (mkT (45 :: 45 :: t)).size = mkT t := mkT_inj (by rw [ext_tailP, mkT_list, mkT_list]; rfl)
    rw [e]
  obtain ⟨GA, gc, hx, ho⟩ := h.free he
  have zf := free_blk hx
  have lx := lt_of_block hx
  obtain ⟨c, r, hcr, hc45, hc61⟩ := hm
  obtain ⟨p0, g0⟩ := mkT_get hcr
  have po1 := nonempty_list p0
  have po2 := nonempty_not p0
  have c0 : (((mkT t)[0].toNat : Int) == 45) = false := nat_beq_false (b := 45) (by rw [g0]; intro e; exact hc45 (UInt8.toNat_inj.1 e))
  have c1 : (((mkT t)[0].toNat : Int) == 61) = false := nat_beq_false (b := 61) (by rw [g0]; intro e; exact hc61 (UInt8.toNat_inj.1 e))
  have htt : (mkT t).size = t.length := mkT_size t
  have hnle := nameOf_le t
  have hnl : (mkT (nameOf t)).size ≤ 2147483647 := by rw [mkT_size]; omega
  have hs2 : ∀ W, (Instr.slice 9 (.string (mkT t)) none (some (.int .i64 ((nameOf t).length : Int))) none).run Try.prog W = .ok (.string (mkT (nameOf t))) W := fun W => by
    rw [run_slice_string_h (P := Try.prog) W 9 (mkT t) Try.underlying9 .i64 ((nameOf t).length : Int) (by omega) (by omega)]
    have e : (mkT t).extract 0 ((nameOf t).length : Int).toNat = mkT (nameOf t) := mkT_inj (by rw [ext_headS, mkT_list, mkT_list, Int.toNat_natCast]; exact (nameOf_take t).symm)
    rw [e]
  have HBY := Lib.hid (fun (W : World) => spec_byteAt.calls _ (mkT t) 61 _ W (byteAt_f (mkT t) (by omega)))
  simp only [mkT_list] at HBY
  have hlt : (((nameOf t).length : Int) < ((mkT t).size : Int)) := by (have q := hq; unfold hasEq at q; have q := of_decide_eq_true q; omega)
  have hi : i < S.flags.length := findIdx_lt hnm
  have i0 : (0 : Int) ≤ (i : Int) := Int.natCast_nonneg _
  have hi2 : (i : Int) < (S.flags.length : Int) := by omega
  have HNM := Lib.hid (fun (W : World) (hb : Below w0.heap.size w0 W) => named_some (hA.below hb) hR hn hsz cap (nameOf t) hnl hnm)
  have hs3 : ∀ W, (Instr.slice 9 (.string (mkT t)) (some (.int .i64 (((nameOf t).length : Int) + 1))) none none).run Try.prog W = .ok (.string (mkT (valueOf t))) W := fun W => by
    rw [run_slice_string_l (P := Try.prog) W 9 (mkT t) Try.underlying9 .i64 (((nameOf t).length : Int) + 1) (by omega) (by omega)]
    have e : (mkT t).extract (((nameOf t).length : Int) + 1).toNat (mkT t).size = mkT (valueOf t) := mkT_inj (by rw [ext_tailP, mkT_list, mkT_list]; rfl)
    rw [e]
  have heq : (((nameOf t).length : Int) == ((mkT t).size : Int)) = false := by simp; omega
  have HGV := Lib.hid (fun (W : World) (hb : Below w.heap.size w W) => gives_any (h.below hb) he hA hi (valueOf t) hG)
  clear hnm hq
  have HB0 := Lib.hid h.bel
  have HB := Lib.hid (Below.refl w.heap.size w)
  have dsl : w.cell? ⟨x, 0, none⟩ = some (.slice A S.flags.length cap) := (cell_blk hx 0).trans rfl
  have dpl : w.cell? ⟨x, 1, none⟩ = some (.bool S.plain) := (cell_blk hx 1).trans rfl
  have dun : w.cell? ⟨x, 2, none⟩ = some (.bool S.unknown) := (cell_blk hx 2).trans rfl
  have dk : w.cell? ⟨x, 3, none⟩ = some (.int .i64 (S.fold : Int)) := (cell_blk hx 3).trans rfl
  have HRS := Lib.hid hr
  have hnb : ((nameOf t).length : Int) ≤ 2147483600 := by omega
  have hn0 : (0 : Int) ≤ ((nameOf t).length : Int) := Int.natCast_nonneg _
  clear hA hR hsz hnl hcr hc45 hc61 g0 has hx ho h
  generalize mkT (45 :: 45 :: t) = ARG at hsl hA2 ⊢
  go_enter Try.func20, Try.ntmps20
  go_wp2_with (first | ((with_reducible go_at_call 45); (with_reducible refine Calls.mono (HBY.out _) ?_); rintro e w3 ⟨rfl, hd3⟩; have hb3 := hd3.below; have dsl := cell_kept hb3 dsl; have dpl := cell_kept hb3 dpl; have dun := cell_kept hb3 dun; have dk := cell_kept hb3 dk; have HB0 := Lib.hid (HB0.out.trans (hb3.mono HB0.out.size)); have HB := Lib.hid (HB.out.trans (hb3.mono HB.out.size)); clear hb3) | ((with_reducible go_at_call 35); (with_reducible refine Calls.mono (HNM.out _ HB0.out) ?_); rintro e w3 ⟨rfl, hb3⟩; have dsl := cell_kept hb3 dsl; have dpl := cell_kept hb3 dpl; have dun := cell_kept hb3 dun; have dk := cell_kept hb3 dk; have HB0 := Lib.hid (HB0.out.trans (hb3.mono HB0.out.size)); have HB := Lib.hid (HB.out.trans (hb3.mono HB.out.size)); clear hb3) | ((with_reducible go_at_call 54); (with_reducible refine Calls.mono (HGV.out _ HB.out) ?_); rintro e w3 ⟨rfl, hr3⟩))
  go_ret
  exact ⟨_, rfl, HRS.out, hr3⟩
set_option maxRecDepth 100000 in
set_option maxHeartbeats 1600000 in
theorem longS_opt {w0 w : World} {x : Nat} {S : SetP} {A : Option Addr} {cap : Nat} {st : St} {AA CH : Value} {pr : Bool} (h : RunAt w0 w x S A cap st AA CH pr) (he : st.err = .no) (hA : FlagsAt w0 A S.flags) (hR : Right S) (hn : S.flags.length ≤ 2147483647) (hsz : ∀ f ∈ S.flags, f.name.length ≤ 2147483647) (hG : st.given.length ≤ 1099511627776) {vr : Value} {rest : List Txt} (hr : RestAt (pcB S w0.heap.size) w0 vr rest) (hrl : rest.length ≤ 1099511627776) (t : Txt) (htl : t.length ≤ 2147483600) (hm : ∃ c r, t = c :: r ∧ c ≠ 45 ∧ c ≠ 61) (hq : hasEq t = false) {i : Nat} (hnm : named S (nameOf t) = some i) (ho1 : noOptOf S i ≠ []) :
    Calls Try.prog 20 #[.pointer (some ⟨x, 0, none⟩), .string (mkT (45 :: 45 :: t)), vr] w (StepS w0 x S A cap AA CH pr (give S none st i (noOptOf S i), rest)) := by
  have has : (mkT (45 :: 45 :: t)).size = t.length + 2 := by rw [mkT_size]; simp
  have hA2 : (2 : Int) ≤ ((mkT (45 :: 45 :: t)).size : Int) := by omega
  have hsl : ∀ W, (Instr.slice 9 (.string (mkT (45 :: 45 :: t))) (some (.int .i64 2)) none none).run Try.prog W = .ok (.string (mkT t)) W := fun W => by
    rw [run_slice_string_l (P := Try.prog) W 9 (mkT (45 :: 45 :: t)) Try.underlying9 .i64 2 (by omega) (by omega)]
    have e : (mkT (45 :: 45 :: t)).extract (2 : Int).toNat (mkT (45 :: 45 :: t)).size = mkT t := mkT_inj (by rw [ext_tailP, mkT_list, mkT_list]; rfl)
    rw [e]
  obtain ⟨GA, gc, hx, ho⟩ := h.free he
  have zf := free_blk hx
  have lx := lt_of_block hx
  obtain ⟨c, r, hcr, hc45, hc61⟩ := hm
  obtain ⟨p0, g0⟩ := mkT_get hcr
  have po1 := nonempty_list p0
  have po2 := nonempty_not p0
  have c0 : (((mkT t)[0].toNat : Int) == 45) = false := nat_beq_false (b := 45) (by rw [g0]; intro e; exact hc45 (UInt8.toNat_inj.1 e))
  have c1 : (((mkT t)[0].toNat : Int) == 61) = false := nat_beq_false (b := 61) (by rw [g0]; intro e; exact hc61 (UInt8.toNat_inj.1 e))
  have htt : (mkT t).size = t.length := mkT_size t
  have hnle := nameOf_le t
  have hnl : (mkT (nameOf t)).size ≤ 2147483647 := by rw [mkT_size]; omega
  have hs2 : ∀ W, (Instr.slice 9 (.string (mkT t)) none (some (.int .i64 ((nameOf t).length : Int))) none).run Try.prog W = .ok (.string (mkT (nameOf t))) W := fun W => by
    rw [run_slice_string_h (P := Try.prog) W 9 (mkT t) Try.underlying9 .i64 ((nameOf t).length : Int) (by omega) (by omega)]
    have e : (mkT t).extract 0 ((nameOf t).length : Int).toNat = mkT (nameOf t) := mkT_inj (by rw [ext_headS, mkT_list, mkT_list, Int.toNat_natCast]; exact (nameOf_take t).symm)
    rw [e]
  have HBY := Lib.hid (fun (W : World) => spec_byteAt.calls _ (mkT t) 61 _ W (byteAt_f (mkT t) (by omega)))
  simp only [mkT_list] at HBY
  have hlt : ¬ (((nameOf t).length : Int) < ((mkT t).size : Int)) := by (have q := hq; unfold hasEq at q; have q := of_decide_eq_false q; omega)
  have hi : i < S.flags.length := findIdx_lt hnm
  have i0 : (0 : Int) ≤ (i : Int) := Int.natCast_nonneg _
  have hi2 : (i : Int) < (S.flags.length : Int) := by omega
  have HNM := Lib.hid (fun (W : World) (hb : Below w0.heap.size w0 W) => named_some (hA.below hb) hR hn hsz cap (nameOf t) hnl hnm)
  have heq : (((nameOf t).length : Int) == ((mkT t).size : Int)) = true := by simp; omega
  have hno : noOptOf S i = S.flags[i].noOpt := by simp [noOptOf, hi]
  rw [hno] at ho1
  rw [hno]
  have HGV := Lib.hid (fun (W : World) (hb : Below w.heap.size w W) => gives_any (h.below hb) he hA hi (S.flags[i].noOpt) hG)
  have po : 0 < (mkT S.flags[i].noOpt).size := by rw [mkT_size]; exact List.length_pos_iff.2 ho1
  have po3 := nonempty_list po
  have po4 := nonempty_not po
  obtain ⟨fb, fo, fv, rfl, -, -, f2, -, -⟩ := hA i hi
  have e2 := cell_kept h.bel f2
  clear f2
  generalize mkT S.flags[i].noOpt = NO at e2 po po3 po4 HGV
  clear hnm hq ho1 hno
  have HB0 := Lib.hid h.bel
  have HB := Lib.hid (Below.refl w.heap.size w)
  have dsl : w.cell? ⟨x, 0, none⟩ = some (.slice (some ⟨fb, fo, none⟩) S.flags.length cap) := (cell_blk hx 0).trans rfl
  have dpl : w.cell? ⟨x, 1, none⟩ = some (.bool S.plain) := (cell_blk hx 1).trans rfl
  have dun : w.cell? ⟨x, 2, none⟩ = some (.bool S.unknown) := (cell_blk hx 2).trans rfl
  have dk : w.cell? ⟨x, 3, none⟩ = some (.int .i64 (S.fold : Int)) := (cell_blk hx 3).trans rfl
  have HRS := Lib.hid hr
  have hnb : ((nameOf t).length : Int) ≤ 2147483600 := by omega
  have hn0 : (0 : Int) ≤ ((nameOf t).length : Int) := Int.natCast_nonneg _
  clear hA hR hsz hnl hcr hc45 hc61 g0 has hx ho h
  generalize mkT (45 :: 45 :: t) = ARG at hsl hA2 ⊢
  go_enter Try.func20, Try.ntmps20
  go_wp2_with (first | ((with_reducible go_at_call 45); (with_reducible refine Calls.mono (HBY.out _) ?_); rintro e w3 ⟨rfl, hd3⟩; have hb3 := hd3.below; have dsl := cell_kept hb3 dsl; have dpl := cell_kept hb3 dpl; have dun := cell_kept hb3 dun; have dk := cell_kept hb3 dk; have e2 := cell_kept hb3 e2; have HB0 := Lib.hid (HB0.out.trans (hb3.mono HB0.out.size)); have HB := Lib.hid (HB.out.trans (hb3.mono HB.out.size)); clear hb3) | ((with_reducible go_at_call 35); (with_reducible refine Calls.mono (HNM.out _ HB0.out) ?_); rintro e w3 ⟨rfl, hb3⟩; have dsl := cell_kept hb3 dsl; have dpl := cell_kept hb3 dpl; have dun := cell_kept hb3 dun; have dk := cell_kept hb3 dk; have e2 := cell_kept hb3 e2; have HB0 := Lib.hid (HB0.out.trans (hb3.mono HB0.out.size)); have HB := Lib.hid (HB.out.trans (hb3.mono HB.out.size)); clear hb3) | ((with_reducible go_at_call 54); (with_reducible refine Calls.mono (HGV.out _ HB.out) ?_); rintro e w3 ⟨rfl, hr3⟩))
  go_ret
  exact ⟨_, rfl, HRS.out, hr3⟩
set_option maxRecDepth 100000 in
set_option maxHeartbeats 1600000 in
theorem longS_need {w0 w : World} {x : Nat} {S : SetP} {A : Option Addr} {cap : Nat} {st : St} {AA CH : Value} {pr : Bool} (h : RunAt w0 w x S A cap st AA CH pr) (he : st.err = .no) (hA : FlagsAt w0 A S.flags) (hR : Right S) (hn : S.flags.length ≤ 2147483647) (hsz : ∀ f ∈ S.flags, f.name.length ≤ 2147483647) (hG : st.given.length ≤ 1099511627776) {vr : Value} {rest : List Txt} (hr : RestAt (pcB S w0.heap.size) w0 vr rest) (hrl : rest.length ≤ 1099511627776) (t : Txt) (htl : t.length ≤ 2147483600) (hm : ∃ c r, t = c :: r ∧ c ≠ 45 ∧ c ≠ 61) (hq : hasEq t = false) {i : Nat} (hnm : named S (nameOf t) = some i) (ho1 : noOptOf S i = []) (hr0 : rest = []) :
    Calls Try.prog 20 #[.pointer (some ⟨x, 0, none⟩), .string (mkT (45 :: 45 :: t)), vr] w (StepS w0 x S A cap AA CH pr ({ st with err := .need i (nameOf t) [] }, [])) := by
  have has : (mkT (45 :: 45 :: t)).size = t.length + 2 := by rw [mkT_size]; simp
  have hA2 : (2 : Int) ≤ ((mkT (45 :: 45 :: t)).size : Int) := by omega
  have hsl : ∀ W, (Instr.slice 9 (.string (mkT (45 :: 45 :: t))) (some (.int .i64 2)) none none).run Try.prog W = .ok (.string (mkT t)) W := fun W => by
    rw [run_slice_string_l (P := Try.prog) W 9 (mkT (45 :: 45 :: t)) Try.underlying9 .i64 2 (by omega) (by omega)]
    have e : (mkT (45 :: 45 :: t)).extract (2 : Int).toNat (mkT (45 :: 45 :: t)).size = mkT t := mkT_inj (by rw [ext_tailP, mkT_list, mkT_list]; rfl)
    rw [e]
  obtain ⟨GA, gc, hx, ho⟩ := h.free he
  have zf := free_blk hx
  have lx := lt_of_block hx
  obtain ⟨c, r, hcr, hc45, hc61⟩ := hm
  obtain ⟨p0, g0⟩ := mkT_get hcr
  have po1 := nonempty_list p0
  have po2 := nonempty_not p0
  have c0 : (((mkT t)[0].toNat : Int) == 45) = false := nat_beq_false (b := 45) (by rw [g0]; intro e; exact hc45 (UInt8.toNat_inj.1 e))
  have c1 : (((mkT t)[0].toNat : Int) == 61) = false := nat_beq_false (b := 61) (by rw [g0]; intro e; exact hc61 (UInt8.toNat_inj.1 e))
  have htt : (mkT t).size = t.length := mkT_size t
  have hnle := nameOf_le t
  have hnl : (mkT (nameOf t)).size ≤ 2147483647 := by rw [mkT_size]; omega
  have hs2 : ∀ W, (Instr.slice 9 (.string (mkT t)) none (some (.int .i64 ((nameOf t).length : Int))) none).run Try.prog W = .ok (.string (mkT (nameOf t))) W := fun W => by
    rw [run_slice_string_h (P := Try.prog) W 9 (mkT t) Try.underlying9 .i64 ((nameOf t).length : Int) (by omega) (by omega)]
    have e : (mkT t).extract 0 ((nameOf t).length : Int).toNat = mkT (nameOf t) := mkT_inj (by rw [ext_headS, mkT_list, mkT_list, Int.toNat_natCast]; exact (nameOf_take t).symm)
    rw [e]
  have HBY := Lib.hid (fun (W : World) => spec_byteAt.calls _ (mkT t) 61 _ W (byteAt_f (mkT t) (by omega)))
  simp only [mkT_list] at HBY
  have hlt : ¬ (((nameOf t).length : Int) < ((mkT t).size : Int)) := by (have q := hq; unfold hasEq at q; have q := of_decide_eq_false q; omega)
  subst hr0
  have hi : i < S.flags.length := findIdx_lt hnm
  have i0 : (0 : Int) ≤ (i : Int) := Int.natCast_nonneg _
  have hi2 : (i : Int) < (S.flags.length : Int) := by omega
  have HNM := Lib.hid (fun (W : World) (hb : Below w0.heap.size w0 W) => named_some (hA.below hb) hR hn hsz cap (nameOf t) hnl hnm)
  have heq : (((nameOf t).length : Int) == ((mkT t).size : Int)) = true := by simp; omega
  have hno : noOptOf S i = S.flags[i].noOpt := by simp [noOptOf, hi]
  rw [hno] at ho1
  have HWN := Lib.hid (fun (W : World) (hb : Below w.heap.size w W) => (show Calls Try.prog 55 #[.pointer (some ⟨x, 0, none⟩), .int .i64 (i : Int), .string (mkT (nameOf t)), .string ⟨#[]⟩, vr] W _ from wants_nil (h.below hb) he hr i (nameOf t) []))
  have po : (mkT S.flags[i].noOpt).size = 0 := by rw [mkT_size, ho1]; rfl
  have po3 := empty_list po
  have po4 := empty_not po
  obtain ⟨fb, fo, fv, rfl, -, -, f2, -, -⟩ := hA i hi
  have e2 := cell_kept h.bel f2
  clear f2
  generalize mkT S.flags[i].noOpt = NO at e2 po po3 po4
  clear hnm hq ho1 hno
  have HB0 := Lib.hid h.bel
  have HB := Lib.hid (Below.refl w.heap.size w)
  have dsl : w.cell? ⟨x, 0, none⟩ = some (.slice (some ⟨fb, fo, none⟩) S.flags.length cap) := (cell_blk hx 0).trans rfl
  have dpl : w.cell? ⟨x, 1, none⟩ = some (.bool S.plain) := (cell_blk hx 1).trans rfl
  have dun : w.cell? ⟨x, 2, none⟩ = some (.bool S.unknown) := (cell_blk hx 2).trans rfl
  have dk : w.cell? ⟨x, 3, none⟩ = some (.int .i64 (S.fold : Int)) := (cell_blk hx 3).trans rfl
  have HRS := Lib.hid hr
  have hnb : ((nameOf t).length : Int) ≤ 2147483600 := by omega
  have hn0 : (0 : Int) ≤ ((nameOf t).length : Int) := Int.natCast_nonneg _
  clear hA hR hsz hnl hcr hc45 hc61 g0 has hx ho h
  generalize mkT (45 :: 45 :: t) = ARG at hsl hA2 ⊢
  go_enter Try.func20, Try.ntmps20
  go_wp2_with (first | ((with_reducible go_at_call 45); (with_reducible refine Calls.mono (HBY.out _) ?_); rintro e w3 ⟨rfl, hd3⟩; have hb3 := hd3.below; have dsl := cell_kept hb3 dsl; have dpl := cell_kept hb3 dpl; have dun := cell_kept hb3 dun; have dk := cell_kept hb3 dk; have e2 := cell_kept hb3 e2; have HB0 := Lib.hid (HB0.out.trans (hb3.mono HB0.out.size)); have HB := Lib.hid (HB.out.trans (hb3.mono HB.out.size)); clear hb3) | ((with_reducible go_at_call 35); (with_reducible refine Calls.mono (HNM.out _ HB0.out) ?_); rintro e w3 ⟨rfl, hb3⟩; have dsl := cell_kept hb3 dsl; have dpl := cell_kept hb3 dpl; have dun := cell_kept hb3 dun; have dk := cell_kept hb3 dk; have e2 := cell_kept hb3 e2; have HB0 := Lib.hid (HB0.out.trans (hb3.mono HB0.out.size)); have HB := Lib.hid (HB.out.trans (hb3.mono HB.out.size)); clear hb3) | ((with_reducible go_at_call 55); (with_reducible refine Calls.mono (HWN.out _ HB.out) ?_); rintro e w3 ⟨v3, rfl, hv3, hr3⟩))
  go_ret
  exact ⟨_, rfl, hv3, hr3⟩
set_option maxRecDepth 100000 in
set_option maxHeartbeats 1600000 in
theorem longS_next {w0 w : World} {x : Nat} {S : SetP} {A : Option Addr} {cap : Nat} {st : St} {AA CH : Value} {pr : Bool} (h : RunAt w0 w x S A cap st AA CH pr) (he : st.err = .no) (hA : FlagsAt w0 A S.flags) (hR : Right S) (hn : S.flags.length ≤ 2147483647) (hsz : ∀ f ∈ S.flags, f.name.length ≤ 2147483647) (hG : st.given.length ≤ 1099511627776) {vr : Value} {rest : List Txt} (hr : RestAt (pcB S w0.heap.size) w0 vr rest) (hrl : rest.length ≤ 1099511627776) (t : Txt) (htl : t.length ≤ 2147483600) (hm : ∃ c r, t = c :: r ∧ c ≠ 45 ∧ c ≠ 61) (hq : hasEq t = false) {i : Nat} (hnm : named S (nameOf t) = some i) (ho1 : noOptOf S i = []) {a : Txt} {rs : List Txt} (hr0 : rest = a :: rs) :
    Calls Try.prog 20 #[.pointer (some ⟨x, 0, none⟩), .string (mkT (45 :: 45 :: t)), vr] w (StepS w0 x S A cap AA CH pr (give S none st i a, rs)) := by
  have has : (mkT (45 :: 45 :: t)).size = t.length + 2 := by rw [mkT_size]; simp
  have hA2 : (2 : Int) ≤ ((mkT (45 :: 45 :: t)).size : Int) := by omega
  have hsl : ∀ W, (Instr.slice 9 (.string (mkT (45 :: 45 :: t))) (some (.int .i64 2)) none none).run Try.prog W = .ok (.string (mkT t)) W := fun W => by
    rw [run_slice_string_l (P := Try.prog) W 9 (mkT (45 :: 45 :: t)) Try.underlying9 .i64 2 (by omega) (by omega)]
    have e : (mkT (45 :: 45 :: t)).extract (2 : Int).toNat (mkT (45 :: 45 :: t)).size = mkT t := mkT_inj (by rw [ext_tailP, mkT_list, mkT_list]; rfl)
    rw [e]
  obtain ⟨GA, gc, hx, ho⟩ := h.free he
  have zf := free_blk hx
  have lx := lt_of_block hx
  obtain ⟨c, r, hcr, hc45, hc61⟩ := hm
  obtain ⟨p0, g0⟩ := mkT_get hcr
  have po1 := nonempty_list p0
  have po2 := nonempty_not p0
  have c0 : (((mkT t)[0].toNat : Int) == 45) = false := nat_beq_false (b := 45) (by rw [g0]; intro e; exact hc45 (UInt8.toNat_inj.1 e))
  have c1 : (((mkT t)[0].toNat : Int) == 61) = false := nat_beq_false (b := 61) (by rw [g0]; intro e; exact hc61 (UInt8.toNat_inj.1 e))
  have htt : (mkT t).size = t.length := mkT_size t
  have hnle := nameOf_le t
  have hnl : (mkT (nameOf t)).size ≤ 2147483647 := by rw [mkT_size]; omega
  have hs2 : ∀ W, (Instr.slice 9 (.string (mkT t)) none (some (.int .i64 ((nameOf t).length : Int))) none).run Try.prog W = .ok (.string (mkT (nameOf t))) W := fun W => by
    rw [run_slice_string_h (P := Try.prog) W 9 (mkT t) Try.underlying9 .i64 ((nameOf t).length : Int) (by omega) (by omega)]
    have e : (mkT t).extract 0 ((nameOf t).length : Int).toNat = mkT (nameOf t) := mkT_inj (by rw [ext_headS, mkT_list, mkT_list, Int.toNat_natCast]; exact (nameOf_take t).symm)
    rw [e]
  have HBY := Lib.hid (fun (W : World) => spec_byteAt.calls _ (mkT t) 61 _ W (byteAt_f (mkT t) (by omega)))
  simp only [mkT_list] at HBY
  have hlt : ¬ (((nameOf t).length : Int) < ((mkT t).size : Int)) := by (have q := hq; unfold hasEq at q; have q := of_decide_eq_false q; omega)
  subst hr0
  have hi : i < S.flags.length := findIdx_lt hnm
  have i0 : (0 : Int) ≤ (i : Int) := Int.natCast_nonneg _
  have hi2 : (i : Int) < (S.flags.length : Int) := by omega
  have HNM := Lib.hid (fun (W : World) (hb : Below w0.heap.size w0 W) => named_some (hA.below hb) hR hn hsz cap (nameOf t) hnl hnm)
  have heq : (((nameOf t).length : Int) == ((mkT t).size : Int)) = true := by simp; omega
  have hno : noOptOf S i = S.flags[i].noOpt := by simp [noOptOf, hi]
  rw [hno] at ho1
  have hrl2 : rs.length ≤ 1099511627776 := by simp at hrl; omega
  have HWN := Lib.hid (fun (W : World) (hb : Below w.heap.size w W) => (show Calls Try.prog 55 #[.pointer (some ⟨x, 0, none⟩), .int .i64 (i : Int), .string (mkT (nameOf t)), .string ⟨#[]⟩, vr] W _ from wants_next (h.below hb) he hA hi hG hr hrl2 (nameOf t) []))
  have po : (mkT S.flags[i].noOpt).size = 0 := by rw [mkT_size, ho1]; rfl
  have po3 := empty_list po
  have po4 := empty_not po
  obtain ⟨fb, fo, fv, rfl, -, -, f2, -, -⟩ := hA i hi
  have e2 := cell_kept h.bel f2
  clear f2
  generalize mkT S.flags[i].noOpt = NO at e2 po po3 po4
  clear hnm hq ho1 hno
  have HB0 := Lib.hid h.bel
  have HB := Lib.hid (Below.refl w.heap.size w)
  have dsl : w.cell? ⟨x, 0, none⟩ = some (.slice (some ⟨fb, fo, none⟩) S.flags.length cap) := (cell_blk hx 0).trans rfl
  have dpl : w.cell? ⟨x, 1, none⟩ = some (.bool S.plain) := (cell_blk hx 1).trans rfl
  have dun : w.cell? ⟨x, 2, none⟩ = some (.bool S.unknown) := (cell_blk hx 2).trans rfl
  have dk : w.cell? ⟨x, 3, none⟩ = some (.int .i64 (S.fold : Int)) := (cell_blk hx 3).trans rfl
  have HRS := Lib.hid hr
  have hnb : ((nameOf t).length : Int) ≤ 2147483600 := by omega
  have hn0 : (0 : Int) ≤ ((nameOf t).length : Int) := Int.natCast_nonneg _
  clear hA hR hsz hnl hcr hc45 hc61 g0 has hx ho h
  generalize mkT (45 :: 45 :: t) = ARG at hsl hA2 ⊢
  go_enter Try.func20, Try.ntmps20
  go_wp2_with (first | ((with_reducible go_at_call 45); (with_reducible refine Calls.mono (HBY.out _) ?_); rintro e w3 ⟨rfl, hd3⟩; have hb3 := hd3.below; have dsl := cell_kept hb3 dsl; have dpl := cell_kept hb3 dpl; have dun := cell_kept hb3 dun; have dk := cell_kept hb3 dk; have e2 := cell_kept hb3 e2; have HB0 := Lib.hid (HB0.out.trans (hb3.mono HB0.out.size)); have HB := Lib.hid (HB.out.trans (hb3.mono HB.out.size)); clear hb3) | ((with_reducible go_at_call 35); (with_reducible refine Calls.mono (HNM.out _ HB0.out) ?_); rintro e w3 ⟨rfl, hb3⟩; have dsl := cell_kept hb3 dsl; have dpl := cell_kept hb3 dpl; have dun := cell_kept hb3 dun; have dk := cell_kept hb3 dk; have e2 := cell_kept hb3 e2; have HB0 := Lib.hid (HB0.out.trans (hb3.mono HB0.out.size)); have HB := Lib.hid (HB.out.trans (hb3.mono HB.out.size)); clear hb3) | ((with_reducible go_at_call 55); (with_reducible refine Calls.mono (HWN.out _ HB.out) ?_); rintro e w3 ⟨v3, rfl, hv3, hr3⟩))
  go_ret
  exact ⟨_, rfl, hv3, hr3⟩
set_option maxRecDepth 100000 in
set_option maxHeartbeats 1600000 in
theorem longS_any {w0 w : World} {x : Nat} {S : SetP} {A : Option Addr} {cap : Nat} {st : St} {AA CH : Value} {pr : Bool} (h : RunAt w0 w x S A cap st AA CH pr) (he : st.err = .no) (hA : FlagsAt w0 A S.flags) (hR : Right S) (hn : S.flags.length ≤ 2147483647) (hsz : ∀ f ∈ S.flags, f.name.length ≤ 2147483647) (hG : st.given.length ≤ 1099511627776) {vr : Value} {rest : List Txt} (hr : RestAt (pcB S w0.heap.size) w0 vr rest) (hrl : rest.length ≤ 1099511627776) (t : Txt) (htl : t.length ≤ 2147483600) :
    Calls Try.prog 20 #[.pointer (some ⟨x, 0, none⟩), .string (mkT (45 :: 45 :: t)), vr] w (StepS w0 x S A cap AA CH pr (longP S none st (45 :: 45 :: t) rest)) := by
  unfold longP
  simp only [List.drop_succ_cons, List.drop_zero]
  by_cases hs : t = [] ∨ t.head? = some 45 ∨ t.head? = some 61
  · rw [if_pos hs]; exact longS_syn h he hA hR hn hsz hG hr hrl t htl hs
  · rw [if_neg hs]
    have hm : ∃ c r, t = c :: r ∧ c ≠ 45 ∧ c ≠ 61 := by
      cases t with
      | nil => exact absurd (Or.inl rfl) hs
      | cons c r => exact ⟨c, r, rfl, fun e => hs (Or.inr (Or.inl (by rw [e]; rfl))), fun e => hs (Or.inr (Or.inr (by rw [e]; rfl)))⟩
    cases hnm : named S (nameOf t) with
    | none =>
      simp only
      by_cases hh : nameOf t = helpT
      · rw [if_pos hh]
        cases hq : hasEq t with
        | true => exact longS_help_y h he hA hR hn hsz hG hr hrl t htl hm hq hnm hh
        | false => exact longS_help_n h he hA hR hn hsz hG hr hrl t htl hm hq hnm hh
      · rw [if_neg hh]
        cases hu : S.unknown with
        | true =>
          rw [if_pos rfl]
          cases hq : hasEq t with
          | true => rw [if_pos rfl]; exact longS_let_y h he hA hR hn hsz hG hr hrl t htl hm hq hnm hh hu
          | false => rw [if_neg (by decide)]; exact longS_let_n h he hA hR hn hsz hG hr hrl t htl hm hq hnm hh hu
        | false =>
          rw [if_neg (by decide)]
          cases hq : hasEq t with
          | true => exact longS_not_y h he hA hR hn hsz hG hr hrl t htl hm hq hnm hh hu
          | false => exact longS_not_n h he hA hR hn hsz hG hr hrl t htl hm hq hnm hh hu
    | some i =>
      simp only
      cases hq : hasEq t with
      | true => rw [if_pos rfl]; exact longS_eq h he hA hR hn hsz hG hr hrl t htl hm hq hnm
      | false =>
        rw [if_neg (by decide)]
        by_cases ho1 : noOptOf S i = []
        · rw [if_neg (fun hc => hc ho1)]
          cases rest with
          | nil => exact longS_need h he hA hR hn hsz hG hr hrl t htl hm hq hnm ho1 rfl
          | cons a rs => exact longS_next h he hA hR hn hsz hG hr hrl t htl hm hq hnm ho1 rfl
        · rw [if_pos ho1]; exact longS_opt h he hA hR hn hsz hG hr hrl t htl hm hq hnm ho1
end Go.Proofs.Ytgmhhdpggnmipaa.E

namespace Go.Proofs.Ytgmhhdpggnmipaa.E
open Go.RowKit Go.Proofs
set_option linter.unusedVariables false
set_option linter.unusedSimpArgs false
/-- The first place of a letter, or -1. -/
def letV (F : List FlagP) (c : UInt8) : Int := match F.findIdx? fun f => decide (f.short.head? = some c) with
  | some i => (i : Int)
  | none => -1
def LetX (F : List FlagP) (c : UInt8) (w : World) (e : Ending) (w' : World) : Prop := e = .returned (.int .i64 (letV F c)) ∧ Below w.heap.size w w'
theorem letX {F : List FlagP} {c : UInt8} {w w' : World} {e : Ending} {n : Int} (h : e = .returned (.int .i64 n)) (hn : n = letV F c) (hb : Below w.heap.size w w') : LetX F c w e w' := ⟨by rw [h, hn], hb⟩
theorem letV_at {F : List FlagP} {c : UInt8} {k : Nat} (hk : k < F.length) (h : F[k].short.head? = some c) (hn : ∀ f ∈ F.take k, f.short.head? ≠ some c) : (k : Int) = letV F c := by
  unfold letV
  have e : F.findIdx? (fun f => decide (f.short.head? = some c)) = some k := by
    rw [List.findIdx?_eq_some_iff_getElem]
    refine ⟨hk, by simpa using h, fun j hj => ?_⟩
    have := hn F[j] (List.mem_take_iff_getElem.2 ⟨j, by omega, rfl⟩)
    simpa using this
  rw [e]
theorem letV_no {F : List FlagP} {c : UInt8} (hn : ∀ f ∈ F, f.short.head? ≠ some c) : (-1 : Int) = letV F c := by
  unfold letV
  have e : F.findIdx? (fun f => decide (f.short.head? = some c)) = none := by
    rw [List.findIdx?_eq_none_iff]
    intro f hf
    simpa using hn f hf
  rw [e]
set_option maxRecDepth 100000 in
set_option maxHeartbeats 3200000 in
theorem lettered_x {w : World} {A : Option Addr} {F : List FlagP} (hA : FlagsAt w A F) (hn : F.length ≤ 2147483647) (cap : Nat) (pl un : Bool) (kf : Nat) (c : UInt8) :
    Calls Try.prog 106 #[.agg #[.slice A F.length cap, .bool pl, .bool un, .int .i64 (kf : Int)], .int .u8 (c.toNat : Int)] w (LetX F c w) := by
  have HA := Lib.hid hA
  clear hA
  go_enter Try.func106, Try.ntmps106
  go_wp2
  generalize hW0 : w.alloc _ = w0
  have HR0 : Hid (NamedR w w0 A cap pl un kf F.length) := Lib.hid (by subst hW0; exact ⟨heap_alloc_new w _, (Below.refl _ _).alloc (Nat.le_refl _) _⟩)
  clear hW0
  go_loopw [10] (fun i wr => ∃ k : Nat, k ≤ F.length ∧ i = .int .i64 k ∧ Hid (NamedR w wr A cap pl un kf F.length) ∧ Hid (∀ f ∈ F.take k, f.short.head? ≠ some c)) (fun i _ => F.length - (intOf i).toNat)
  case atStart => exact ⟨0, Nat.zero_le _, rfl, HR0, Lib.hid (by simp)⟩
  case round =>
    clear HR0
    obtain ⟨k, hk, rfl, HR, HN⟩ := hrel
    have i0 : (0 : Int) ≤ (k : Int) := Int.natCast_nonneg _
    by_cases hlt : k < F.length
    · have i1 : (k : Int) < (F.length : Int) := by omega
      obtain ⟨b, o, v, hAe, c0, c1, c2, c3, ht⟩ := HA.out k hlt
      subst hAe
      obtain ⟨Av, cv, hve, _⟩ := ht
      generalize (F[k].bad.map mkT).length = nv at hve
      subst hve
      have d0 := cell_kept HR.out.bel c0
      have d1 := cell_kept HR.out.bel c1
      have d2 := cell_kept HR.out.bel c2
      have d3 := cell_kept HR.out.bel c3
      have HTK : Hid (F.take (k + 1) = F.take k ++ [F[k]]) := Lib.hid (List.take_succ_eq_append_getElem hlt)
      clear c0 c1 c2 c3
      generalize hfk : F[k] = fk at d0 d1 d2 d3 HTK
      have HME : Hid (∃ h : k < F.length, F[k] = fk) := Lib.hid ⟨hlt, hfk⟩
      clear hfk
      obtain ⟨fn, fs, fo, fb⟩ := fk
      simp only at d0 d1 d2 d3
      have HB1 : Hid (NamedR w (wr.alloc (.cells #[.string (mkT fn), .string (mkT fs), .string (mkT fo), .slice Av nv cv] 47)) (some ⟨b, o, none⟩) cap pl un kf F.length) := by
        have hb9 : Below wr.heap.size wr (wr.alloc (.cells #[.string (mkT fn), .string (mkT fs), .string (mkT fo), .slice Av nv cv] 47)) := (Below.refl _ _).alloc (Nat.le_refl _) _
        exact Lib.hid ⟨block_kept HR.out.box hb9, below_step HR.out.bel hb9⟩
      cases fs with
      | nil =>
        replace d1 : wr.cell? ⟨b, o + k * 4 + 1, none⟩ = some (.string ⟨#[]⟩) := d1
        replace HB1 : Hid (NamedR w (wr.alloc (.cells #[.string (mkT fn), .string ⟨#[]⟩, .string (mkT fo), .slice Av nv cv] 47)) (some ⟨b, o, none⟩) cap pl un kf F.length) := HB1
        go_wp2
        go_roundw
        case rel => exact ⟨k + 1, by omega, by go_num, HB1, Lib.hid (by
          rw [HTK.out]
          intro f hf
          rcases List.mem_append.1 hf with h | h
          · exact HN.out f h
          · rw [List.mem_singleton] at h; subst h; simp)⟩
        case measure => simp [intOf]; omega
      | cons d r =>
        obtain ⟨p0, g0⟩ := mkT_get (l := d :: r) rfl
        have po1 := nonempty_list p0
        have po2 := nonempty_not p0
        by_cases hcd : d = c
        · have b1 : (((mkT (d :: r))[0].toNat : Int) == (c.toNat : Int)) = true := by rw [g0, hcd]; simp
          clear g0 HB1
          generalize mkT (d :: r) = TX at d1 p0 po1 po2 b1
          go_wp2
          go_ret
          obtain ⟨h9, e9⟩ := HME.out
          exact letX rfl (letV_at h9 (by rw [e9, hcd]; rfl) HN.out) (HR.out.bel.alloc HR.out.bel.size _)
        · have b1 : (((mkT (d :: r))[0].toNat : Int) == (c.toNat : Int)) = false := by
            rw [g0]; simp only [beq_eq_false_iff_ne, ne_eq]; intro e; exact hcd (UInt8.toNat_inj.1 (by omega))
          clear g0
          generalize mkT (d :: r) = TX at d1 p0 po1 po2 b1 HB1
          go_wp2
          go_roundw
          case rel => exact ⟨k + 1, by omega, by go_num, HB1, Lib.hid (by
            rw [HTK.out]
            intro f hf
            rcases List.mem_append.1 hf with h | h
            · exact HN.out f h
            · rw [List.mem_singleton] at h; subst h; simpa using hcd)⟩
          case measure => simp [intOf]; omega
    · have hke : k = F.length := by omega
      have i1 : ¬ (k : Int) < (F.length : Int) := by omega
      go_wp2
      go_ret
      exact letX rfl (letV_no (fun f hf => HN.out f (by rw [hke, List.take_length]; exact hf))) HR.out.bel
def letN : Option Nat → Int
  | some i => (i : Int)
  | none => -1
theorem lett_c {w0 w : World} {A : Option Addr} {S : SetP} (hb : Below w0.heap.size w0 w) (hA : FlagsAt w0 A S.flags) (hn : S.flags.length ≤ 2147483647) (cap : Nat) (c : UInt8) {r : Option Nat} (hr : lettered S c = r) :
    Calls Try.prog 106 #[.agg #[.slice A S.flags.length cap, .bool S.plain, .bool S.unknown, .int .i64 (S.fold : Int)], .int .u8 (c.toNat : Int)] w fun e w' => e = .returned (.int .i64 (letN r)) ∧ Below w.heap.size w w' := by
  refine (lettered_x (hA.below hb) hn cap S.plain S.unknown S.fold c).mono fun e w' ⟨he, hb⟩ => ⟨he.trans ?_, hb⟩
  subst hr
  unfold letV lettered letN
  cases S.flags.findIdx? _ <;> rfl
/-- What a step over a letter leaves. -/
def StepT (w0 : World) (x : Nat) (S : SetP) (A : Option Addr) (cap : Nat) (AA CH : Value) (pr : Bool) (q : St × Txt × List Txt) (e : Ending) (w' : World) : Prop := ∃ v, e = .returned (.tuple #[.string (mkT q.2.1), v]) ∧ RestAt (pcB S w0.heap.size) w0 v q.2.2 ∧ RunAt w0 w' x S A cap q.1 AA CH pr
theorem own_61 {c : UInt8} {more : Txt} (h : 2 < (mkT (c :: more)).size) : ∃ h1 : 1 < (mkT (c :: more)).size, (((mkT (c :: more))[1].toNat : Int) == 61) = ownB more := by
  rw [mkT_size] at h
  match more, h with
  | d :: e :: r, h =>
    obtain ⟨h1, g1⟩ := mkT_get1 (c := c) (d := d) (t := e :: r)
    refine ⟨h1, ?_⟩
    rw [g1]
    by_cases hd : d = 61
    · subst hd; simp [ownB]
    · have : ownB (d :: e :: r) = false := by simp [ownB, hd]
      rw [this]
      simp only [beq_eq_false_iff_ne, ne_eq]
      intro q; exact hd (UInt8.toNat_inj.1 (by have : (61 : UInt8).toNat = 61 := rfl; omega))
  | [d], h => simp at h
  | [], h => simp at h
theorem own_no {c : UInt8} {more : Txt} (h : ¬ 2 < (mkT (c :: more)).size) : ownB more = false := by
  rw [mkT_size] at h
  match more, h with
  | d :: e :: r, h => simp at h
  | [d], h => simp [ownB]
  | [], h => simp [ownB]
theorem test_yes {c : UInt8} {more : Txt} (h : 5 ≤ (mkT (c :: more)).size) : (((mkT (c :: more)).extract 0 5).toList == [116, 101, 115, 116, 46]) = decide ((c :: more).take 5 = testT) := by
  rw [ByteArray.toList_eq, ext_headS, mkT_list]
  by_cases q : (c :: more).take 5 = testT
  · rw [decide_eq_true q, q]; rfl
  · rw [decide_eq_false q]; simpa [testT] using q
theorem test_no {c : UInt8} {more : Txt} (h : ¬ 5 ≤ (mkT (c :: more)).size) : ¬ (c :: more).take 5 = testT := by
  intro e
  have := congrArg List.length e
  rw [List.length_take] at this
  rw [mkT_size] at h
  have h5 : testT.length = 5 := rfl
  omega
set_option maxRecDepth 100000 in
set_option maxHeartbeats 3200000 in
theorem shortS_test {w0 w : World} {x : Nat} {S : SetP} {A : Option Addr} {cap : Nat} {st : St} {AA CH : Value} {pr : Bool} (h : RunAt w0 w x S A cap st AA CH pr) (he : st.err = .no) (hA : FlagsAt w0 A S.flags) (hn : S.flags.length ≤ 2147483647) (hG : st.given.length ≤ 1099511627776) {vr : Value} {rest : List Txt} (hr : RestAt (pcB S w0.heap.size) w0 vr rest) (hrl : rest.length ≤ 1099511627776) (c : UInt8) (more : Txt) (htl : more.length ≤ 2147483600) (h5 : (c :: more).take 5 = testT) :
    Calls Try.prog 100 #[.pointer (some ⟨x, 0, none⟩), .string (mkT (c :: more)), vr] w (StepT w0 x S A cap AA CH pr (st, [], rest)) := by
  have has : (mkT (c :: more)).size = more.length + 1 := by rw [mkT_size]; simp
  have hA1 : (1 : Int) ≤ ((mkT (c :: more)).size : Int) := by omega
  have hsl : ∀ W, (Instr.slice 9 (.string (mkT (c :: more))) (some (.int .i64 1)) none none).run Try.prog W = .ok (.string (mkT more)) W := fun W => by
    rw [run_slice_string_l (P := Try.prog) W 9 (mkT (c :: more)) Try.underlying9 .i64 1 (by omega) (by omega)]
    have e : (mkT (c :: more)).extract (1 : Int).toNat (mkT (c :: more)).size = mkT more := mkT_inj (by rw [ext_tailP, mkT_list, mkT_list]; rfl)
    rw [e]
  obtain ⟨p0, g0⟩ := mkT_get (l := c :: more) rfl
  have HRU := rune_mk c
  have hcw : IntKind.i32.wrap (c.toNat : Int) = (c.toNat : Int) := by have := c.toNat_lt; simp [IntKind.wrap, IntKind.bits, IntKind.signed]; omega
  have hcw2 : wrap32 (c.toNat : Int) = (c.toNat : Int) := by have := c.toNat_lt; unfold wrap32; omega
  obtain ⟨GA, gc, hx, ho⟩ := h.free he
  have HRS := Lib.hid hr
  have HT5 := Lib.hid (fun h => test_yes (c := c) (more := more) h)
  rw [decide_eq_true h5] at HT5
  have HTN : Hid (¬ 5 ≤ (mkT (c :: more)).size → False) := Lib.hid (fun q => test_no q h5)
  have H9 := Lib.hid h
  clear h he hA hn hG hr hrl htl has hx ho h5 g0
  generalize mkT (c :: more) = TX at hsl hA1 p0 HT5 HTN ⊢
  go_enter Try.func100, Try.ntmps100
  go_upto_region 1 with fail
  go_cut [20] (fun s20 wx => s20 = .bool true ∧ w = wx)
  case first =>
    by_cases h9 : (5 : Int) ≤ (TX.size : Int)
    · have h10 : 5 ≤ TX.size := by omega
      have hq := HT5.out h10
      go_wp2
      go_meet
      exact ⟨rfl, by first | rfl | trivial⟩
    · exact absurd (HTN.out (by omega)) id
  case rest =>
  obtain ⟨rfl, hw⟩ := hcut
  subst hw
  go_wp2
  go_ret2
  exact ⟨_, rfl, HRS.out, H9.out⟩
set_option maxRecDepth 100000 in
set_option maxHeartbeats 3200000 in
theorem shortS_help {w0 w : World} {x : Nat} {S : SetP} {A : Option Addr} {cap : Nat} {st : St} {AA CH : Value} {pr : Bool} (h : RunAt w0 w x S A cap st AA CH pr) (he : st.err = .no) (hA : FlagsAt w0 A S.flags) (hn : S.flags.length ≤ 2147483647) (hG : st.given.length ≤ 1099511627776) {vr : Value} {rest : List Txt} (hr : RestAt (pcB S w0.heap.size) w0 vr rest) (hrl : rest.length ≤ 1099511627776) (c : UInt8) (more : Txt) (htl : more.length ≤ 2147483600) (h5 : ¬ (c :: more).take 5 = testT) (hl : lettered S c = none) (hc : c = 104) :
    Calls Try.prog 100 #[.pointer (some ⟨x, 0, none⟩), .string (mkT (c :: more)), vr] w (StepT w0 x S A cap AA CH pr ({ st with err := .help }, more, rest)) := by
  have has : (mkT (c :: more)).size = more.length + 1 := by rw [mkT_size]; simp
  have hA1 : (1 : Int) ≤ ((mkT (c :: more)).size : Int) := by omega
  have hsl : ∀ W, (Instr.slice 9 (.string (mkT (c :: more))) (some (.int .i64 1)) none none).run Try.prog W = .ok (.string (mkT more)) W := fun W => by
    rw [run_slice_string_l (P := Try.prog) W 9 (mkT (c :: more)) Try.underlying9 .i64 1 (by omega) (by omega)]
    have e : (mkT (c :: more)).extract (1 : Int).toNat (mkT (c :: more)).size = mkT more := mkT_inj (by rw [ext_tailP, mkT_list, mkT_list]; rfl)
    rw [e]
  obtain ⟨p0, g0⟩ := mkT_get (l := c :: more) rfl
  have HRU := rune_mk c
  have hcw : IntKind.i32.wrap (c.toNat : Int) = (c.toNat : Int) := by have := c.toNat_lt; simp [IntKind.wrap, IntKind.bits, IntKind.signed]; omega
  have hcw2 : wrap32 (c.toNat : Int) = (c.toNat : Int) := by have := c.toNat_lt; unfold wrap32; omega
  obtain ⟨GA, gc, hx, ho⟩ := h.free he
  have HRS := Lib.hid hr
  have HT5 := Lib.hid (fun h => test_yes (c := c) (more := more) h)
  rw [decide_eq_false h5] at HT5
  have HOT := Lib.hid (fun h => own_61 (c := c) (more := more) h)
  have HON := Lib.hid (fun h => own_no (c := c) (more := more) h)
  have HB0 := Lib.hid h.bel
  have HLE : Hid (∀ W, Below w0.heap.size w0 W → Calls Try.prog 106 #[.agg #[.slice A S.flags.length cap, .bool S.plain, .bool S.unknown, .int .i64 (S.fold : Int)], .int .u8 (c.toNat : Int)] W fun e w' => e = .returned (.int .i64 (-1)) ∧ Below W.heap.size W w') := Lib.hid (fun W hb => lett_c hb hA hn cap c hl)
  generalize ownB more = ob at HOT HON
  have ch : ((c.toNat : Int) == 104) = true := by rw [hc]; rfl
  have HUN := Lib.hid (fun (W : World) (hb : Below w.heap.size w W) => (show Calls Try.prog 52 #[.pointer (some ⟨x, 0, none⟩), .bool true, .string (mkT (runeT c)), .string (mkT (c :: more))] W (fun e w' => e = .returned (.bool false) ∧ RunAt w0 w' x S A cap { st with err := .help } AA CH pr) from unknown_help (h.below hb) he (runeT c) (c :: more)))
  have dsl : w.cell? ⟨x, 0, none⟩ = some (.slice A S.flags.length cap) := (cell_blk hx 0).trans rfl
  have dpl : w.cell? ⟨x, 1, none⟩ = some (.bool S.plain) := (cell_blk hx 1).trans rfl
  have dun : w.cell? ⟨x, 2, none⟩ = some (.bool S.unknown) := (cell_blk hx 2).trans rfl
  have dk : w.cell? ⟨x, 3, none⟩ = some (.int .i64 (S.fold : Int)) := (cell_blk hx 3).trans rfl
  clear h5 hl hx ho h hA hc hr
  generalize mkT (c :: more) = TX at hsl hA1 p0 g0 HT5 HOT HON HUN ⊢
  go_enter Try.func100, Try.ntmps100
  go_upto_region 1 with fail
  go_cut [20] (fun s20 wx => s20 = .bool false ∧ w = wx)
  case first =>
    by_cases h9 : (5 : Int) ≤ (TX.size : Int)
    · have h10 : 5 ≤ TX.size := by omega
      have hq := HT5.out h10
      go_wp2
      go_meet
      exact ⟨rfl, by first | rfl | trivial⟩
    · go_wp2
      go_meet
      exact ⟨rfl, by first | rfl | trivial⟩
  case rest =>
  obtain ⟨rfl, hw⟩ := hcut
  subst hw
  go_upto_region 3 with fail
  have X0 := True.intro
  refine wp_region_bq (by kernel_rfl) (by kernel_rfl) ?_
  repeat (refine WQ.step (fun K hK => ?_); go_simp; first | (refine hK _ ?_; clear hK K) | (apply Exists.intro; refine ⟨fun p9 => ?_, hK _ ?_⟩; (fail); clear hK K))
  refine WQ.nil ?_
  intro wq HBQ
  clear X0
  have HB := Lib.hid HBQ
  replace dsl := cell_kept HBQ dsl
  replace dpl := cell_kept HBQ dpl
  replace dun := cell_kept HBQ dun
  replace dk := cell_kept HBQ dk
  clear HBQ
  go_upto_region 4 with fail
  go_cut [10] (fun s10 wx => s10 = .bool ob ∧ wq = wx)
  case first =>
    by_cases h9 : (2 : Int) < (TX.size : Int)
    · obtain ⟨p1, e1⟩ := HOT.out (by omega)
      have hA5 : (1 : Int) < (TX.size : Int) := by omega
      go_wp2
      go_meet
      exact ⟨rfl, by first | rfl | trivial⟩
    · have hob := HON.out (by omega)
      subst hob
      go_wp2
      go_meet
      exact ⟨rfl, by first | rfl | trivial⟩
  case rest =>
  obtain ⟨rfl, hw⟩ := hcut
  subst hw
  go_upto_region 5 with fail
  have Z0 := bq_cell dsl
  have Z1 := bq_cell dpl
  have Z2 := bq_cell dun
  have Z3 := bq_cell dk
  have HLE2 := Lib.hid (fun (W : World) (hb : Below wq.heap.size wq W) => HLE.out W ((HB0.out.trans (HB.out.mono HB0.out.size)).trans (hb.mono (Nat.le_trans HB0.out.size HB.out.size))))
  refine wp_region_bq (by kernel_rfl) (by kernel_rfl) ?_
  repeat (refine WQ.step (fun K hK => ?_); go_simp; first | (refine hK _ ?_; clear hK K) | (apply Exists.intro; refine ⟨fun p9 => ?_, hK _ ?_⟩; (exact bq_below (HLE2.out p9.W p9.h)); clear hK K))
  refine WQ.nil ?_
  intro wq HBQ
  clear Z0 Z1 Z2 Z3
  have HB := Lib.hid (HB.out.trans (HBQ.mono HB.out.size))
  replace dsl := cell_kept HBQ dsl
  replace dpl := cell_kept HBQ dpl
  replace dun := cell_kept HBQ dun
  replace dk := cell_kept HBQ dk
  clear HBQ HLE HLE2
  go_wp2_with (first | ((with_reducible go_at_call 52); (with_reducible refine Calls.mono (HUN.out _ HB.out) ?_); rintro e w3 ⟨rfl, hr3⟩))
  go_ret2
  exact ⟨_, rfl, HRS.out, hr3⟩
set_option maxRecDepth 100000 in
set_option maxHeartbeats 3200000 in
theorem shortS_not {w0 w : World} {x : Nat} {S : SetP} {A : Option Addr} {cap : Nat} {st : St} {AA CH : Value} {pr : Bool} (h : RunAt w0 w x S A cap st AA CH pr) (he : st.err = .no) (hA : FlagsAt w0 A S.flags) (hn : S.flags.length ≤ 2147483647) (hG : st.given.length ≤ 1099511627776) {vr : Value} {rest : List Txt} (hr : RestAt (pcB S w0.heap.size) w0 vr rest) (hrl : rest.length ≤ 1099511627776) (c : UInt8) (more : Txt) (htl : more.length ≤ 2147483600) (h5 : ¬ (c :: more).take 5 = testT) (hl : lettered S c = none) (hc : ¬ c = 104) (hu : S.unknown = false) :
    Calls Try.prog 100 #[.pointer (some ⟨x, 0, none⟩), .string (mkT (c :: more)), vr] w (StepT w0 x S A cap AA CH pr ({ st with err := .notExist (runeT c) (c :: more) }, more, rest)) := by
  have has : (mkT (c :: more)).size = more.length + 1 := by rw [mkT_size]; simp
  have hA1 : (1 : Int) ≤ ((mkT (c :: more)).size : Int) := by omega
  have hsl : ∀ W, (Instr.slice 9 (.string (mkT (c :: more))) (some (.int .i64 1)) none none).run Try.prog W = .ok (.string (mkT more)) W := fun W => by
    rw [run_slice_string_l (P := Try.prog) W 9 (mkT (c :: more)) Try.underlying9 .i64 1 (by omega) (by omega)]
    have e : (mkT (c :: more)).extract (1 : Int).toNat (mkT (c :: more)).size = mkT more := mkT_inj (by rw [ext_tailP, mkT_list, mkT_list]; rfl)
    rw [e]
  obtain ⟨p0, g0⟩ := mkT_get (l := c :: more) rfl
  have HRU := rune_mk c
  have hcw : IntKind.i32.wrap (c.toNat : Int) = (c.toNat : Int) := by have := c.toNat_lt; simp [IntKind.wrap, IntKind.bits, IntKind.signed]; omega
  have hcw2 : wrap32 (c.toNat : Int) = (c.toNat : Int) := by have := c.toNat_lt; unfold wrap32; omega
  obtain ⟨GA, gc, hx, ho⟩ := h.free he
  have HRS := Lib.hid hr
  have HT5 := Lib.hid (fun h => test_yes (c := c) (more := more) h)
  rw [decide_eq_false h5] at HT5
  have HOT := Lib.hid (fun h => own_61 (c := c) (more := more) h)
  have HON := Lib.hid (fun h => own_no (c := c) (more := more) h)
  have HB0 := Lib.hid h.bel
  have HLE : Hid (∀ W, Below w0.heap.size w0 W → Calls Try.prog 106 #[.agg #[.slice A S.flags.length cap, .bool S.plain, .bool S.unknown, .int .i64 (S.fold : Int)], .int .u8 (c.toNat : Int)] W fun e w' => e = .returned (.int .i64 (-1)) ∧ Below W.heap.size W w') := Lib.hid (fun W hb => lett_c hb hA hn cap c hl)
  generalize ownB more = ob at HOT HON
  have ch : ((c.toNat : Int) == 104) = false := by simp only [beq_eq_false_iff_ne, ne_eq]; intro q; exact hc (UInt8.toNat_inj.1 (by have : (104 : UInt8).toNat = 104 := rfl; omega))
  have HUN := Lib.hid (fun (W : World) (hb : Below w.heap.size w W) => (show Calls Try.prog 52 #[.pointer (some ⟨x, 0, none⟩), .bool false, .string (mkT (runeT c)), .string (mkT (c :: more))] W (fun e w' => e = .returned (.bool false) ∧ RunAt w0 w' x S A cap { st with err := .notExist (runeT c) (c :: more) } AA CH pr) from unknown_not (h.below hb) he hu (runeT c) (c :: more)))
  have dsl : w.cell? ⟨x, 0, none⟩ = some (.slice A S.flags.length cap) := (cell_blk hx 0).trans rfl
  have dpl : w.cell? ⟨x, 1, none⟩ = some (.bool S.plain) := (cell_blk hx 1).trans rfl
  have dun : w.cell? ⟨x, 2, none⟩ = some (.bool S.unknown) := (cell_blk hx 2).trans rfl
  have dk : w.cell? ⟨x, 3, none⟩ = some (.int .i64 (S.fold : Int)) := (cell_blk hx 3).trans rfl
  clear h5 hl hx ho h hA hc hu hr
  generalize mkT (c :: more) = TX at hsl hA1 p0 g0 HT5 HOT HON HUN ⊢
  go_enter Try.func100, Try.ntmps100
  go_upto_region 1 with fail
  go_cut [20] (fun s20 wx => s20 = .bool false ∧ w = wx)
  case first =>
    by_cases h9 : (5 : Int) ≤ (TX.size : Int)
    · have h10 : 5 ≤ TX.size := by omega
      have hq := HT5.out h10
      go_wp2
      go_meet
      exact ⟨rfl, by first | rfl | trivial⟩
    · go_wp2
      go_meet
      exact ⟨rfl, by first | rfl | trivial⟩
  case rest =>
  obtain ⟨rfl, hw⟩ := hcut
  subst hw
  go_upto_region 3 with fail
  have X0 := True.intro
  refine wp_region_bq (by kernel_rfl) (by kernel_rfl) ?_
  repeat (refine WQ.step (fun K hK => ?_); go_simp; first | (refine hK _ ?_; clear hK K) | (apply Exists.intro; refine ⟨fun p9 => ?_, hK _ ?_⟩; (fail); clear hK K))
  refine WQ.nil ?_
  intro wq HBQ
  clear X0
  have HB := Lib.hid HBQ
  replace dsl := cell_kept HBQ dsl
  replace dpl := cell_kept HBQ dpl
  replace dun := cell_kept HBQ dun
  replace dk := cell_kept HBQ dk
  clear HBQ
  go_upto_region 4 with fail
  go_cut [10] (fun s10 wx => s10 = .bool ob ∧ wq = wx)
  case first =>
    by_cases h9 : (2 : Int) < (TX.size : Int)
    · obtain ⟨p1, e1⟩ := HOT.out (by omega)
      have hA5 : (1 : Int) < (TX.size : Int) := by omega
      go_wp2
      go_meet
      exact ⟨rfl, by first | rfl | trivial⟩
    · have hob := HON.out (by omega)
      subst hob
      go_wp2
      go_meet
      exact ⟨rfl, by first | rfl | trivial⟩
  case rest =>
  obtain ⟨rfl, hw⟩ := hcut
  subst hw
  go_upto_region 5 with fail
  have Z0 := bq_cell dsl
  have Z1 := bq_cell dpl
  have Z2 := bq_cell dun
  have Z3 := bq_cell dk
  have HLE2 := Lib.hid (fun (W : World) (hb : Below wq.heap.size wq W) => HLE.out W ((HB0.out.trans (HB.out.mono HB0.out.size)).trans (hb.mono (Nat.le_trans HB0.out.size HB.out.size))))
  refine wp_region_bq (by kernel_rfl) (by kernel_rfl) ?_
  repeat (refine WQ.step (fun K hK => ?_); go_simp; first | (refine hK _ ?_; clear hK K) | (apply Exists.intro; refine ⟨fun p9 => ?_, hK _ ?_⟩; (exact bq_below (HLE2.out p9.W p9.h)); clear hK K))
  refine WQ.nil ?_
  intro wq HBQ
  clear Z0 Z1 Z2 Z3
  have HB := Lib.hid (HB.out.trans (HBQ.mono HB.out.size))
  replace dsl := cell_kept HBQ dsl
  replace dpl := cell_kept HBQ dpl
  replace dun := cell_kept HBQ dun
  replace dk := cell_kept HBQ dk
  clear HBQ HLE HLE2
  go_wp2_with (first | ((with_reducible go_at_call 52); (with_reducible refine Calls.mono (HUN.out _ HB.out) ?_); rintro e w3 ⟨rfl, hr3⟩))
  go_ret2
  exact ⟨_, rfl, HRS.out, hr3⟩
set_option maxRecDepth 100000 in
set_option maxHeartbeats 3200000 in
theorem shortS_let_y {w0 w : World} {x : Nat} {S : SetP} {A : Option Addr} {cap : Nat} {st : St} {AA CH : Value} {pr : Bool} (h : RunAt w0 w x S A cap st AA CH pr) (he : st.err = .no) (hA : FlagsAt w0 A S.flags) (hn : S.flags.length ≤ 2147483647) (hG : st.given.length ≤ 1099511627776) {vr : Value} {rest : List Txt} (hr : RestAt (pcB S w0.heap.size) w0 vr rest) (hrl : rest.length ≤ 1099511627776) (c : UInt8) (more : Txt) (htl : more.length ≤ 2147483600) (h5 : ¬ (c :: more).take 5 = testT) (hl : lettered S c = none) (hc : ¬ c = 104) (hu : S.unknown = true) (ho1 : ownB more = true) :
    Calls Try.prog 100 #[.pointer (some ⟨x, 0, none⟩), .string (mkT (c :: more)), vr] w (StepT w0 x S A cap AA CH pr (st, [], rest)) := by
  have has : (mkT (c :: more)).size = more.length + 1 := by rw [mkT_size]; simp
  have hA1 : (1 : Int) ≤ ((mkT (c :: more)).size : Int) := by omega
  have hsl : ∀ W, (Instr.slice 9 (.string (mkT (c :: more))) (some (.int .i64 1)) none none).run Try.prog W = .ok (.string (mkT more)) W := fun W => by
    rw [run_slice_string_l (P := Try.prog) W 9 (mkT (c :: more)) Try.underlying9 .i64 1 (by omega) (by omega)]
    have e : (mkT (c :: more)).extract (1 : Int).toNat (mkT (c :: more)).size = mkT more := mkT_inj (by rw [ext_tailP, mkT_list, mkT_list]; rfl)
    rw [e]
  obtain ⟨p0, g0⟩ := mkT_get (l := c :: more) rfl
  have HRU := rune_mk c
  have hcw : IntKind.i32.wrap (c.toNat : Int) = (c.toNat : Int) := by have := c.toNat_lt; simp [IntKind.wrap, IntKind.bits, IntKind.signed]; omega
  have hcw2 : wrap32 (c.toNat : Int) = (c.toNat : Int) := by have := c.toNat_lt; unfold wrap32; omega
  obtain ⟨GA, gc, hx, ho⟩ := h.free he
  have HRS := Lib.hid hr
  have HT5 := Lib.hid (fun h => test_yes (c := c) (more := more) h)
  rw [decide_eq_false h5] at HT5
  have HOT := Lib.hid (fun h => own_61 (c := c) (more := more) h)
  have HON := Lib.hid (fun h => own_no (c := c) (more := more) h)
  have HB0 := Lib.hid h.bel
  have HLE : Hid (∀ W, Below w0.heap.size w0 W → Calls Try.prog 106 #[.agg #[.slice A S.flags.length cap, .bool S.plain, .bool S.unknown, .int .i64 (S.fold : Int)], .int .u8 (c.toNat : Int)] W fun e w' => e = .returned (.int .i64 (-1)) ∧ Below W.heap.size W w') := Lib.hid (fun W hb => lett_c hb hA hn cap c hl)
  rw [ho1] at HOT HON
  have ch : ((c.toNat : Int) == 104) = false := by simp only [beq_eq_false_iff_ne, ne_eq]; intro q; exact hc (UInt8.toNat_inj.1 (by have : (104 : UInt8).toNat = 104 := rfl; omega))
  have HUN := Lib.hid (fun (W : World) (hb : Below w.heap.size w W) => (show Calls Try.prog 52 #[.pointer (some ⟨x, 0, none⟩), .bool false, .string (mkT (runeT c)), .string (mkT (c :: more))] W (fun e w' => e = .returned (.bool true) ∧ RunAt w0 w' x S A cap st AA CH pr) from unknown_let (h.below hb) he hu (runeT c) (c :: more)))
  have dsl : w.cell? ⟨x, 0, none⟩ = some (.slice A S.flags.length cap) := (cell_blk hx 0).trans rfl
  have dpl : w.cell? ⟨x, 1, none⟩ = some (.bool S.plain) := (cell_blk hx 1).trans rfl
  have dun : w.cell? ⟨x, 2, none⟩ = some (.bool S.unknown) := (cell_blk hx 2).trans rfl
  have dk : w.cell? ⟨x, 3, none⟩ = some (.int .i64 (S.fold : Int)) := (cell_blk hx 3).trans rfl
  clear h5 hl hx ho h hA hc hu hr
  generalize mkT (c :: more) = TX at hsl hA1 p0 g0 HT5 HOT HON HUN ⊢
  go_enter Try.func100, Try.ntmps100
  go_upto_region 1 with fail
  go_cut [20] (fun s20 wx => s20 = .bool false ∧ w = wx)
  case first =>
    by_cases h9 : (5 : Int) ≤ (TX.size : Int)
    · have h10 : 5 ≤ TX.size := by omega
      have hq := HT5.out h10
      go_wp2
      go_meet
      exact ⟨rfl, by first | rfl | trivial⟩
    · go_wp2
      go_meet
      exact ⟨rfl, by first | rfl | trivial⟩
  case rest =>
  obtain ⟨rfl, hw⟩ := hcut
  subst hw
  go_upto_region 3 with fail
  have X0 := True.intro
  refine wp_region_bq (by kernel_rfl) (by kernel_rfl) ?_
  repeat (refine WQ.step (fun K hK => ?_); go_simp; first | (refine hK _ ?_; clear hK K) | (apply Exists.intro; refine ⟨fun p9 => ?_, hK _ ?_⟩; (fail); clear hK K))
  refine WQ.nil ?_
  intro wq HBQ
  clear X0
  have HB := Lib.hid HBQ
  replace dsl := cell_kept HBQ dsl
  replace dpl := cell_kept HBQ dpl
  replace dun := cell_kept HBQ dun
  replace dk := cell_kept HBQ dk
  clear HBQ
  go_upto_region 4 with fail
  go_cut [10] (fun s10 wx => s10 = .bool true ∧ wq = wx)
  case first =>
    by_cases h9 : (2 : Int) < (TX.size : Int)
    · obtain ⟨p1, e1⟩ := HOT.out (by omega)
      have hA5 : (1 : Int) < (TX.size : Int) := by omega
      go_wp2
      go_meet
      exact ⟨rfl, by first | rfl | trivial⟩
    · exact absurd (HON.out (by omega)) (by decide)
  case rest =>
  obtain ⟨rfl, hw⟩ := hcut
  subst hw
  go_upto_region 5 with fail
  have Z0 := bq_cell dsl
  have Z1 := bq_cell dpl
  have Z2 := bq_cell dun
  have Z3 := bq_cell dk
  have HLE2 := Lib.hid (fun (W : World) (hb : Below wq.heap.size wq W) => HLE.out W ((HB0.out.trans (HB.out.mono HB0.out.size)).trans (hb.mono (Nat.le_trans HB0.out.size HB.out.size))))
  refine wp_region_bq (by kernel_rfl) (by kernel_rfl) ?_
  repeat (refine WQ.step (fun K hK => ?_); go_simp; first | (refine hK _ ?_; clear hK K) | (apply Exists.intro; refine ⟨fun p9 => ?_, hK _ ?_⟩; (exact bq_below (HLE2.out p9.W p9.h)); clear hK K))
  refine WQ.nil ?_
  intro wq HBQ
  clear Z0 Z1 Z2 Z3
  have HB := Lib.hid (HB.out.trans (HBQ.mono HB.out.size))
  replace dsl := cell_kept HBQ dsl
  replace dpl := cell_kept HBQ dpl
  replace dun := cell_kept HBQ dun
  replace dk := cell_kept HBQ dk
  clear HBQ HLE HLE2
  go_wp2_with (first | ((with_reducible go_at_call 52); (with_reducible refine Calls.mono (HUN.out _ HB.out) ?_); rintro e w3 ⟨rfl, hr3⟩))
  go_ret2
  exact ⟨_, rfl, HRS.out, hr3⟩
set_option maxRecDepth 100000 in
set_option maxHeartbeats 3200000 in
theorem shortS_let_n {w0 w : World} {x : Nat} {S : SetP} {A : Option Addr} {cap : Nat} {st : St} {AA CH : Value} {pr : Bool} (h : RunAt w0 w x S A cap st AA CH pr) (he : st.err = .no) (hA : FlagsAt w0 A S.flags) (hn : S.flags.length ≤ 2147483647) (hG : st.given.length ≤ 1099511627776) {vr : Value} {rest : List Txt} (hr : RestAt (pcB S w0.heap.size) w0 vr rest) (hrl : rest.length ≤ 1099511627776) (c : UInt8) (more : Txt) (htl : more.length ≤ 2147483600) (h5 : ¬ (c :: more).take 5 = testT) (hl : lettered S c = none) (hc : ¬ c = 104) (hu : S.unknown = true) (ho1 : ownB more = false) :
    Calls Try.prog 100 #[.pointer (some ⟨x, 0, none⟩), .string (mkT (c :: more)), vr] w (StepT w0 x S A cap AA CH pr (st, more, strip rest)) := by
  have has : (mkT (c :: more)).size = more.length + 1 := by rw [mkT_size]; simp
  have hA1 : (1 : Int) ≤ ((mkT (c :: more)).size : Int) := by omega
  have hsl : ∀ W, (Instr.slice 9 (.string (mkT (c :: more))) (some (.int .i64 1)) none none).run Try.prog W = .ok (.string (mkT more)) W := fun W => by
    rw [run_slice_string_l (P := Try.prog) W 9 (mkT (c :: more)) Try.underlying9 .i64 1 (by omega) (by omega)]
    have e : (mkT (c :: more)).extract (1 : Int).toNat (mkT (c :: more)).size = mkT more := mkT_inj (by rw [ext_tailP, mkT_list, mkT_list]; rfl)
    rw [e]
  obtain ⟨p0, g0⟩ := mkT_get (l := c :: more) rfl
  have HRU := rune_mk c
  have hcw : IntKind.i32.wrap (c.toNat : Int) = (c.toNat : Int) := by have := c.toNat_lt; simp [IntKind.wrap, IntKind.bits, IntKind.signed]; omega
  have hcw2 : wrap32 (c.toNat : Int) = (c.toNat : Int) := by have := c.toNat_lt; unfold wrap32; omega
  obtain ⟨GA, gc, hx, ho⟩ := h.free he
  have HRS := Lib.hid hr
  have HT5 := Lib.hid (fun h => test_yes (c := c) (more := more) h)
  rw [decide_eq_false h5] at HT5
  have HOT := Lib.hid (fun h => own_61 (c := c) (more := more) h)
  have HON := Lib.hid (fun h => own_no (c := c) (more := more) h)
  have HB0 := Lib.hid h.bel
  have HLE : Hid (∀ W, Below w0.heap.size w0 W → Calls Try.prog 106 #[.agg #[.slice A S.flags.length cap, .bool S.plain, .bool S.unknown, .int .i64 (S.fold : Int)], .int .u8 (c.toNat : Int)] W fun e w' => e = .returned (.int .i64 (-1)) ∧ Below W.heap.size W w') := Lib.hid (fun W hb => lett_c hb hA hn cap c hl)
  rw [ho1] at HOT HON
  have ch : ((c.toNat : Int) == 104) = false := by simp only [beq_eq_false_iff_ne, ne_eq]; intro q; exact hc (UInt8.toNat_inj.1 (by have : (104 : UInt8).toNat = 104 := rfl; omega))
  have HUN := Lib.hid (fun (W : World) (hb : Below w.heap.size w W) => (show Calls Try.prog 52 #[.pointer (some ⟨x, 0, none⟩), .bool false, .string (mkT (runeT c)), .string (mkT (c :: more))] W (fun e w' => e = .returned (.bool true) ∧ RunAt w0 w' x S A cap st AA CH pr) from unknown_let (h.below hb) he hu (runeT c) (c :: more)))
  have HST := Lib.hid (fun (W : World) (hb : Below w0.heap.size w0 W) => strip_c hb hr hrl)
  have dsl : w.cell? ⟨x, 0, none⟩ = some (.slice A S.flags.length cap) := (cell_blk hx 0).trans rfl
  have dpl : w.cell? ⟨x, 1, none⟩ = some (.bool S.plain) := (cell_blk hx 1).trans rfl
  have dun : w.cell? ⟨x, 2, none⟩ = some (.bool S.unknown) := (cell_blk hx 2).trans rfl
  have dk : w.cell? ⟨x, 3, none⟩ = some (.int .i64 (S.fold : Int)) := (cell_blk hx 3).trans rfl
  clear h5 hl hx ho h hA hc hu hr
  generalize mkT (c :: more) = TX at hsl hA1 p0 g0 HT5 HOT HON HUN ⊢
  go_enter Try.func100, Try.ntmps100
  go_upto_region 1 with fail
  go_cut [20] (fun s20 wx => s20 = .bool false ∧ w = wx)
  case first =>
    by_cases h9 : (5 : Int) ≤ (TX.size : Int)
    · have h10 : 5 ≤ TX.size := by omega
      have hq := HT5.out h10
      go_wp2
      go_meet
      exact ⟨rfl, by first | rfl | trivial⟩
    · go_wp2
      go_meet
      exact ⟨rfl, by first | rfl | trivial⟩
  case rest =>
  obtain ⟨rfl, hw⟩ := hcut
  subst hw
  go_upto_region 3 with fail
  have X0 := True.intro
  refine wp_region_bq (by kernel_rfl) (by kernel_rfl) ?_
  repeat (refine WQ.step (fun K hK => ?_); go_simp; first | (refine hK _ ?_; clear hK K) | (apply Exists.intro; refine ⟨fun p9 => ?_, hK _ ?_⟩; (fail); clear hK K))
  refine WQ.nil ?_
  intro wq HBQ
  clear X0
  have HB := Lib.hid HBQ
  replace dsl := cell_kept HBQ dsl
  replace dpl := cell_kept HBQ dpl
  replace dun := cell_kept HBQ dun
  replace dk := cell_kept HBQ dk
  clear HBQ
  go_upto_region 4 with fail
  go_cut [10] (fun s10 wx => s10 = .bool false ∧ wq = wx)
  case first =>
    by_cases h9 : (2 : Int) < (TX.size : Int)
    · obtain ⟨p1, e1⟩ := HOT.out (by omega)
      have hA5 : (1 : Int) < (TX.size : Int) := by omega
      go_wp2
      go_meet
      exact ⟨rfl, by first | rfl | trivial⟩
    · go_wp2
      go_meet
      exact ⟨rfl, by first | rfl | trivial⟩
  case rest =>
  obtain ⟨rfl, hw⟩ := hcut
  subst hw
  go_upto_region 5 with fail
  have Z0 := bq_cell dsl
  have Z1 := bq_cell dpl
  have Z2 := bq_cell dun
  have Z3 := bq_cell dk
  have HLE2 := Lib.hid (fun (W : World) (hb : Below wq.heap.size wq W) => HLE.out W ((HB0.out.trans (HB.out.mono HB0.out.size)).trans (hb.mono (Nat.le_trans HB0.out.size HB.out.size))))
  refine wp_region_bq (by kernel_rfl) (by kernel_rfl) ?_
  repeat (refine WQ.step (fun K hK => ?_); go_simp; first | (refine hK _ ?_; clear hK K) | (apply Exists.intro; refine ⟨fun p9 => ?_, hK _ ?_⟩; (exact bq_below (HLE2.out p9.W p9.h)); clear hK K))
  refine WQ.nil ?_
  intro wq HBQ
  clear Z0 Z1 Z2 Z3
  have HB := Lib.hid (HB.out.trans (HBQ.mono HB.out.size))
  replace dsl := cell_kept HBQ dsl
  replace dpl := cell_kept HBQ dpl
  replace dun := cell_kept HBQ dun
  replace dk := cell_kept HBQ dk
  clear HBQ HLE HLE2
  go_wp2_with (first | ((with_reducible go_at_call 52); (with_reducible refine Calls.mono (HUN.out _ HB.out) ?_); rintro e w3 ⟨rfl, hr3⟩) | ((with_reducible go_at_call 53); (with_reducible refine Calls.mono (HST.out _ hr3.bel) ?_); rintro e w4 ⟨v4, rfl, hv4, rfl⟩))
  go_ret2
  exact ⟨_, rfl, hv4, hr3⟩
set_option maxRecDepth 100000 in
set_option maxHeartbeats 3200000 in
theorem shortS_own {i : Nat} {w0 w : World} {x : Nat} {S : SetP} {A : Option Addr} {cap : Nat} {st : St} {AA CH : Value} {pr : Bool} (h : RunAt w0 w x S A cap st AA CH pr) (he : st.err = .no) (hA : FlagsAt w0 A S.flags) (hn : S.flags.length ≤ 2147483647) (hG : st.given.length ≤ 1099511627776) {vr : Value} {rest : List Txt} (hr : RestAt (pcB S w0.heap.size) w0 vr rest) (hrl : rest.length ≤ 1099511627776) (c : UInt8) (more : Txt) (htl : more.length ≤ 2147483600) (h5 : ¬ (c :: more).take 5 = testT) (hl : lettered S c = some i) (ho1 : ownB more = true) :
    Calls Try.prog 100 #[.pointer (some ⟨x, 0, none⟩), .string (mkT (c :: more)), vr] w (StepT w0 x S A cap AA CH pr (give S none st i (more.drop 1), [], rest)) := by
  have has : (mkT (c :: more)).size = more.length + 1 := by rw [mkT_size]; simp
  have hA1 : (1 : Int) ≤ ((mkT (c :: more)).size : Int) := by omega
  have hsl : ∀ W, (Instr.slice 9 (.string (mkT (c :: more))) (some (.int .i64 1)) none none).run Try.prog W = .ok (.string (mkT more)) W := fun W => by
    rw [run_slice_string_l (P := Try.prog) W 9 (mkT (c :: more)) Try.underlying9 .i64 1 (by omega) (by omega)]
    have e : (mkT (c :: more)).extract (1 : Int).toNat (mkT (c :: more)).size = mkT more := mkT_inj (by rw [ext_tailP, mkT_list, mkT_list]; rfl)
    rw [e]
  obtain ⟨p0, g0⟩ := mkT_get (l := c :: more) rfl
  have HRU := rune_mk c
  have hcw : IntKind.i32.wrap (c.toNat : Int) = (c.toNat : Int) := by have := c.toNat_lt; simp [IntKind.wrap, IntKind.bits, IntKind.signed]; omega
  have hcw2 : wrap32 (c.toNat : Int) = (c.toNat : Int) := by have := c.toNat_lt; unfold wrap32; omega
  obtain ⟨GA, gc, hx, ho⟩ := h.free he
  have HRS := Lib.hid hr
  have HT5 := Lib.hid (fun h => test_yes (c := c) (more := more) h)
  rw [decide_eq_false h5] at HT5
  have HOT := Lib.hid (fun h => own_61 (c := c) (more := more) h)
  have HON := Lib.hid (fun h => own_no (c := c) (more := more) h)
  have HB0 := Lib.hid h.bel
  have HLE : Hid (∀ W, Below w0.heap.size w0 W → Calls Try.prog 106 #[.agg #[.slice A S.flags.length cap, .bool S.plain, .bool S.unknown, .int .i64 (S.fold : Int)], .int .u8 (c.toNat : Int)] W fun e w' => e = .returned (.int .i64 (i : Int)) ∧ Below W.heap.size W w') := Lib.hid (fun W hb => lett_c hb hA hn cap c hl)
  rw [ho1] at HOT HON
  have hi : i < S.flags.length := findIdx_lt hl
  have i0 : (0 : Int) ≤ (i : Int) := Int.natCast_nonneg _
  have hi2 : (i : Int) < (S.flags.length : Int) := by omega
  have hng : ¬ ((i : Int) < 0) := by omega
  have has2 : (2 : Int) ≤ ((mkT (c :: more)).size : Int) := by have h9 : 2 ≤ more.length := (by have q := ho1; simp [ownB] at q; exact q.2); omega
  have hsl2 : ∀ W, (Instr.slice 9 (.string (mkT (c :: more))) (some (.int .i64 2)) none none).run Try.prog W = .ok (.string (mkT (more.drop 1))) W := fun W => by
    rw [run_slice_string_l (P := Try.prog) W 9 (mkT (c :: more)) Try.underlying9 .i64 2 (by omega) (by omega)]
    have e : (mkT (c :: more)).extract (2 : Int).toNat (mkT (c :: more)).size = mkT (more.drop 1) := mkT_inj (by rw [ext_tailP, mkT_list, mkT_list]; rfl)
    rw [e]
  have HGV := Lib.hid (fun (W : World) (hb : Below w.heap.size w W) => gives_any (h.below hb) he hA hi (more.drop 1) hG)
  generalize more.drop 1 = MT at hsl2 HGV ⊢
  have dsl : w.cell? ⟨x, 0, none⟩ = some (.slice A S.flags.length cap) := (cell_blk hx 0).trans rfl
  have dpl : w.cell? ⟨x, 1, none⟩ = some (.bool S.plain) := (cell_blk hx 1).trans rfl
  have dun : w.cell? ⟨x, 2, none⟩ = some (.bool S.unknown) := (cell_blk hx 2).trans rfl
  have dk : w.cell? ⟨x, 3, none⟩ = some (.int .i64 (S.fold : Int)) := (cell_blk hx 3).trans rfl
  clear h5 hl hx ho h hA hr ho1
  generalize mkT (c :: more) = TX at hsl hA1 p0 g0 HT5 HOT HON hsl2 has2 ⊢
  go_enter Try.func100, Try.ntmps100
  go_upto_region 1 with fail
  go_cut [20] (fun s20 wx => s20 = .bool false ∧ w = wx)
  case first =>
    by_cases h9 : (5 : Int) ≤ (TX.size : Int)
    · have h10 : 5 ≤ TX.size := by omega
      have hq := HT5.out h10
      go_wp2
      go_meet
      exact ⟨rfl, by first | rfl | trivial⟩
    · go_wp2
      go_meet
      exact ⟨rfl, by first | rfl | trivial⟩
  case rest =>
  obtain ⟨rfl, hw⟩ := hcut
  subst hw
  go_upto_region 3 with fail
  have X0 := True.intro
  refine wp_region_bq (by kernel_rfl) (by kernel_rfl) ?_
  repeat (refine WQ.step (fun K hK => ?_); go_simp; first | (refine hK _ ?_; clear hK K) | (apply Exists.intro; refine ⟨fun p9 => ?_, hK _ ?_⟩; (fail); clear hK K))
  refine WQ.nil ?_
  intro wq HBQ
  clear X0
  have HB := Lib.hid HBQ
  replace dsl := cell_kept HBQ dsl
  replace dpl := cell_kept HBQ dpl
  replace dun := cell_kept HBQ dun
  replace dk := cell_kept HBQ dk
  clear HBQ
  go_upto_region 4 with fail
  go_cut [10] (fun s10 wx => s10 = .bool true ∧ wq = wx)
  case first =>
    by_cases h9 : (2 : Int) < (TX.size : Int)
    · obtain ⟨p1, e1⟩ := HOT.out (by omega)
      have hA5 : (1 : Int) < (TX.size : Int) := by omega
      go_wp2
      go_meet
      exact ⟨rfl, by first | rfl | trivial⟩
    · exact absurd (HON.out (by omega)) (by decide)
  case rest =>
  obtain ⟨rfl, hw⟩ := hcut
  subst hw
  go_upto_region 5 with fail
  have Z0 := bq_cell dsl
  have Z1 := bq_cell dpl
  have Z2 := bq_cell dun
  have Z3 := bq_cell dk
  have HLE2 := Lib.hid (fun (W : World) (hb : Below wq.heap.size wq W) => HLE.out W ((HB0.out.trans (HB.out.mono HB0.out.size)).trans (hb.mono (Nat.le_trans HB0.out.size HB.out.size))))
  refine wp_region_bq (by kernel_rfl) (by kernel_rfl) ?_
  repeat (refine WQ.step (fun K hK => ?_); go_simp; first | (refine hK _ ?_; clear hK K) | (apply Exists.intro; refine ⟨fun p9 => ?_, hK _ ?_⟩; (exact bq_below (HLE2.out p9.W p9.h)); clear hK K))
  refine WQ.nil ?_
  intro wq HBQ
  clear Z0 Z1 Z2 Z3
  have HB := Lib.hid (HB.out.trans (HBQ.mono HB.out.size))
  replace dsl := cell_kept HBQ dsl
  replace dpl := cell_kept HBQ dpl
  replace dun := cell_kept HBQ dun
  replace dk := cell_kept HBQ dk
  clear HBQ HLE HLE2
  go_wp2_with (first | ((with_reducible go_at_call 54); (with_reducible refine Calls.mono (HGV.out _ HB.out) ?_); rintro e w3 ⟨rfl, hr3⟩))
  go_ret2
  exact ⟨_, rfl, HRS.out, hr3⟩
set_option maxRecDepth 100000 in
set_option maxHeartbeats 3200000 in
theorem shortS_opt {i : Nat} {w0 w : World} {x : Nat} {S : SetP} {A : Option Addr} {cap : Nat} {st : St} {AA CH : Value} {pr : Bool} (h : RunAt w0 w x S A cap st AA CH pr) (he : st.err = .no) (hA : FlagsAt w0 A S.flags) (hn : S.flags.length ≤ 2147483647) (hG : st.given.length ≤ 1099511627776) {vr : Value} {rest : List Txt} (hr : RestAt (pcB S w0.heap.size) w0 vr rest) (hrl : rest.length ≤ 1099511627776) (c : UInt8) (more : Txt) (htl : more.length ≤ 2147483600) (h5 : ¬ (c :: more).take 5 = testT) (hl : lettered S c = some i) (ho1 : ownB more = false) (ho2 : noOptOf S i ≠ []) :
    Calls Try.prog 100 #[.pointer (some ⟨x, 0, none⟩), .string (mkT (c :: more)), vr] w (StepT w0 x S A cap AA CH pr (give S none st i (noOptOf S i), more, rest)) := by
  have has : (mkT (c :: more)).size = more.length + 1 := by rw [mkT_size]; simp
  have hA1 : (1 : Int) ≤ ((mkT (c :: more)).size : Int) := by omega
  have hsl : ∀ W, (Instr.slice 9 (.string (mkT (c :: more))) (some (.int .i64 1)) none none).run Try.prog W = .ok (.string (mkT more)) W := fun W => by
    rw [run_slice_string_l (P := Try.prog) W 9 (mkT (c :: more)) Try.underlying9 .i64 1 (by omega) (by omega)]
    have e : (mkT (c :: more)).extract (1 : Int).toNat (mkT (c :: more)).size = mkT more := mkT_inj (by rw [ext_tailP, mkT_list, mkT_list]; rfl)
    rw [e]
  obtain ⟨p0, g0⟩ := mkT_get (l := c :: more) rfl
  have HRU := rune_mk c
  have hcw : IntKind.i32.wrap (c.toNat : Int) = (c.toNat : Int) := by have := c.toNat_lt; simp [IntKind.wrap, IntKind.bits, IntKind.signed]; omega
  have hcw2 : wrap32 (c.toNat : Int) = (c.toNat : Int) := by have := c.toNat_lt; unfold wrap32; omega
  obtain ⟨GA, gc, hx, ho⟩ := h.free he
  have HRS := Lib.hid hr
  have HT5 := Lib.hid (fun h => test_yes (c := c) (more := more) h)
  rw [decide_eq_false h5] at HT5
  have HOT := Lib.hid (fun h => own_61 (c := c) (more := more) h)
  have HON := Lib.hid (fun h => own_no (c := c) (more := more) h)
  have HB0 := Lib.hid h.bel
  have HLE : Hid (∀ W, Below w0.heap.size w0 W → Calls Try.prog 106 #[.agg #[.slice A S.flags.length cap, .bool S.plain, .bool S.unknown, .int .i64 (S.fold : Int)], .int .u8 (c.toNat : Int)] W fun e w' => e = .returned (.int .i64 (i : Int)) ∧ Below W.heap.size W w') := Lib.hid (fun W hb => lett_c hb hA hn cap c hl)
  rw [ho1] at HOT HON
  have hi : i < S.flags.length := findIdx_lt hl
  have i0 : (0 : Int) ≤ (i : Int) := Int.natCast_nonneg _
  have hi2 : (i : Int) < (S.flags.length : Int) := by omega
  have hng : ¬ ((i : Int) < 0) := by omega
  have hno : noOptOf S i = S.flags[i].noOpt := by simp [noOptOf, hi]
  rw [hno] at ho2
  rw [hno]
  have HGV := Lib.hid (fun (W : World) (hb : Below w.heap.size w W) => gives_any (h.below hb) he hA hi (S.flags[i].noOpt) hG)
  have po : 0 < (mkT S.flags[i].noOpt).size := by rw [mkT_size]; exact List.length_pos_iff.2 ho2
  have po3 := nonempty_list po
  have po4 := nonempty_not po
  obtain ⟨fb, fo, fv, hAe, -, -, f2, -, -⟩ := hA i hi
  subst hAe
  have e2 := cell_kept h.bel f2
  clear f2
  generalize mkT S.flags[i].noOpt = NO at e2 po po3 po4 HGV
  have dsl : w.cell? ⟨x, 0, none⟩ = some (.slice (some ⟨fb, fo, none⟩) S.flags.length cap) := (cell_blk hx 0).trans rfl
  have dpl : w.cell? ⟨x, 1, none⟩ = some (.bool S.plain) := (cell_blk hx 1).trans rfl
  have dun : w.cell? ⟨x, 2, none⟩ = some (.bool S.unknown) := (cell_blk hx 2).trans rfl
  have dk : w.cell? ⟨x, 3, none⟩ = some (.int .i64 (S.fold : Int)) := (cell_blk hx 3).trans rfl
  clear h5 hl hx ho h hA hr ho1 ho2 hno
  generalize mkT (c :: more) = TX at hsl hA1 p0 g0 HT5 HOT HON ⊢
  go_enter Try.func100, Try.ntmps100
  go_upto_region 1 with fail
  go_cut [20] (fun s20 wx => s20 = .bool false ∧ w = wx)
  case first =>
    by_cases h9 : (5 : Int) ≤ (TX.size : Int)
    · have h10 : 5 ≤ TX.size := by omega
      have hq := HT5.out h10
      go_wp2
      go_meet
      exact ⟨rfl, by first | rfl | trivial⟩
    · go_wp2
      go_meet
      exact ⟨rfl, by first | rfl | trivial⟩
  case rest =>
  obtain ⟨rfl, hw⟩ := hcut
  subst hw
  go_upto_region 3 with fail
  have X0 := True.intro
  refine wp_region_bq (by kernel_rfl) (by kernel_rfl) ?_
  repeat (refine WQ.step (fun K hK => ?_); go_simp; first | (refine hK _ ?_; clear hK K) | (apply Exists.intro; refine ⟨fun p9 => ?_, hK _ ?_⟩; (fail); clear hK K))
  refine WQ.nil ?_
  intro wq HBQ
  clear X0
  have HB := Lib.hid HBQ
  replace dsl := cell_kept HBQ dsl
  replace dpl := cell_kept HBQ dpl
  replace dun := cell_kept HBQ dun
  replace dk := cell_kept HBQ dk
  replace e2 := cell_kept HBQ e2
  clear HBQ
  go_upto_region 4 with fail
  go_cut [10] (fun s10 wx => s10 = .bool false ∧ wq = wx)
  case first =>
    by_cases h9 : (2 : Int) < (TX.size : Int)
    · obtain ⟨p1, e1⟩ := HOT.out (by omega)
      have hA5 : (1 : Int) < (TX.size : Int) := by omega
      go_wp2
      go_meet
      exact ⟨rfl, by first | rfl | trivial⟩
    · go_wp2
      go_meet
      exact ⟨rfl, by first | rfl | trivial⟩
  case rest =>
  obtain ⟨rfl, hw⟩ := hcut
  subst hw
  go_upto_region 5 with fail
  have Z0 := bq_cell dsl
  have Z1 := bq_cell dpl
  have Z2 := bq_cell dun
  have Z3 := bq_cell dk
  have HLE2 := Lib.hid (fun (W : World) (hb : Below wq.heap.size wq W) => HLE.out W ((HB0.out.trans (HB.out.mono HB0.out.size)).trans (hb.mono (Nat.le_trans HB0.out.size HB.out.size))))
  refine wp_region_bq (by kernel_rfl) (by kernel_rfl) ?_
  repeat (refine WQ.step (fun K hK => ?_); go_simp; first | (refine hK _ ?_; clear hK K) | (apply Exists.intro; refine ⟨fun p9 => ?_, hK _ ?_⟩; (exact bq_below (HLE2.out p9.W p9.h)); clear hK K))
  refine WQ.nil ?_
  intro wq HBQ
  clear Z0 Z1 Z2 Z3
  have HB := Lib.hid (HB.out.trans (HBQ.mono HB.out.size))
  replace dsl := cell_kept HBQ dsl
  replace dpl := cell_kept HBQ dpl
  replace dun := cell_kept HBQ dun
  replace dk := cell_kept HBQ dk
  replace e2 := cell_kept HBQ e2
  clear HBQ HLE HLE2
  go_wp2_with (first | ((with_reducible go_at_call 54); (with_reducible refine Calls.mono (HGV.out _ HB.out) ?_); rintro e w3 ⟨rfl, hr3⟩))
  go_ret2
  exact ⟨_, rfl, HRS.out, hr3⟩
set_option maxRecDepth 100000 in
set_option maxHeartbeats 3200000 in
theorem shortS_more {i : Nat} {w0 w : World} {x : Nat} {S : SetP} {A : Option Addr} {cap : Nat} {st : St} {AA CH : Value} {pr : Bool} (h : RunAt w0 w x S A cap st AA CH pr) (he : st.err = .no) (hA : FlagsAt w0 A S.flags) (hn : S.flags.length ≤ 2147483647) (hG : st.given.length ≤ 1099511627776) {vr : Value} {rest : List Txt} (hr : RestAt (pcB S w0.heap.size) w0 vr rest) (hrl : rest.length ≤ 1099511627776) (c : UInt8) (more : Txt) (htl : more.length ≤ 2147483600) (h5 : ¬ (c :: more).take 5 = testT) (hl : lettered S c = some i) (ho1 : ownB more = false) (ho2 : noOptOf S i = []) (ho3 : more ≠ []) :
    Calls Try.prog 100 #[.pointer (some ⟨x, 0, none⟩), .string (mkT (c :: more)), vr] w (StepT w0 x S A cap AA CH pr (give S none st i more, [], rest)) := by
  have has : (mkT (c :: more)).size = more.length + 1 := by rw [mkT_size]; simp
  have hA1 : (1 : Int) ≤ ((mkT (c :: more)).size : Int) := by omega
  have hsl : ∀ W, (Instr.slice 9 (.string (mkT (c :: more))) (some (.int .i64 1)) none none).run Try.prog W = .ok (.string (mkT more)) W := fun W => by
    rw [run_slice_string_l (P := Try.prog) W 9 (mkT (c :: more)) Try.underlying9 .i64 1 (by omega) (by omega)]
    have e : (mkT (c :: more)).extract (1 : Int).toNat (mkT (c :: more)).size = mkT more := mkT_inj (by rw [ext_tailP, mkT_list, mkT_list]; rfl)
    rw [e]
  obtain ⟨p0, g0⟩ := mkT_get (l := c :: more) rfl
  have HRU := rune_mk c
  have hcw : IntKind.i32.wrap (c.toNat : Int) = (c.toNat : Int) := by have := c.toNat_lt; simp [IntKind.wrap, IntKind.bits, IntKind.signed]; omega
  have hcw2 : wrap32 (c.toNat : Int) = (c.toNat : Int) := by have := c.toNat_lt; unfold wrap32; omega
  obtain ⟨GA, gc, hx, ho⟩ := h.free he
  have HRS := Lib.hid hr
  have HT5 := Lib.hid (fun h => test_yes (c := c) (more := more) h)
  rw [decide_eq_false h5] at HT5
  have HOT := Lib.hid (fun h => own_61 (c := c) (more := more) h)
  have HON := Lib.hid (fun h => own_no (c := c) (more := more) h)
  have HB0 := Lib.hid h.bel
  have HLE : Hid (∀ W, Below w0.heap.size w0 W → Calls Try.prog 106 #[.agg #[.slice A S.flags.length cap, .bool S.plain, .bool S.unknown, .int .i64 (S.fold : Int)], .int .u8 (c.toNat : Int)] W fun e w' => e = .returned (.int .i64 (i : Int)) ∧ Below W.heap.size W w') := Lib.hid (fun W hb => lett_c hb hA hn cap c hl)
  rw [ho1] at HOT HON
  have hi : i < S.flags.length := findIdx_lt hl
  have i0 : (0 : Int) ≤ (i : Int) := Int.natCast_nonneg _
  have hi2 : (i : Int) < (S.flags.length : Int) := by omega
  have hng : ¬ ((i : Int) < 0) := by omega
  have hno : noOptOf S i = S.flags[i].noOpt := by simp [noOptOf, hi]
  rw [hno] at ho2
  have HGV := Lib.hid (fun (W : World) (hb : Below w.heap.size w W) => gives_any (h.below hb) he hA hi (more) hG)
  have po : (mkT S.flags[i].noOpt).size = 0 := by rw [mkT_size, ho2]; rfl
  have po3 := empty_list po
  have po4 := empty_not po
  obtain ⟨fb, fo, fv, hAe, -, -, f2, -, -⟩ := hA i hi
  subst hAe
  have e2 := cell_kept h.bel f2
  clear f2
  generalize mkT S.flags[i].noOpt = NO at e2 po po3 po4
  have pm : 0 < (mkT more).size := by rw [mkT_size]; exact List.length_pos_iff.2 ho3
  have pm3 := nonempty_list pm
  have pm4 := nonempty_not pm
  have dsl : w.cell? ⟨x, 0, none⟩ = some (.slice (some ⟨fb, fo, none⟩) S.flags.length cap) := (cell_blk hx 0).trans rfl
  have dpl : w.cell? ⟨x, 1, none⟩ = some (.bool S.plain) := (cell_blk hx 1).trans rfl
  have dun : w.cell? ⟨x, 2, none⟩ = some (.bool S.unknown) := (cell_blk hx 2).trans rfl
  have dk : w.cell? ⟨x, 3, none⟩ = some (.int .i64 (S.fold : Int)) := (cell_blk hx 3).trans rfl
  clear h5 hl hx ho h hA hr ho1 ho2 ho3 hno
  generalize mkT (c :: more) = TX at hsl hA1 p0 g0 HT5 HOT HON ⊢
  go_enter Try.func100, Try.ntmps100
  go_upto_region 1 with fail
  go_cut [20] (fun s20 wx => s20 = .bool false ∧ w = wx)
  case first =>
    by_cases h9 : (5 : Int) ≤ (TX.size : Int)
    · have h10 : 5 ≤ TX.size := by omega
      have hq := HT5.out h10
      go_wp2
      go_meet
      exact ⟨rfl, by first | rfl | trivial⟩
    · go_wp2
      go_meet
      exact ⟨rfl, by first | rfl | trivial⟩
  case rest =>
  obtain ⟨rfl, hw⟩ := hcut
  subst hw
  go_upto_region 3 with fail
  have X0 := True.intro
  refine wp_region_bq (by kernel_rfl) (by kernel_rfl) ?_
  repeat (refine WQ.step (fun K hK => ?_); go_simp; first | (refine hK _ ?_; clear hK K) | (apply Exists.intro; refine ⟨fun p9 => ?_, hK _ ?_⟩; (fail); clear hK K))
  refine WQ.nil ?_
  intro wq HBQ
  clear X0
  have HB := Lib.hid HBQ
  replace dsl := cell_kept HBQ dsl
  replace dpl := cell_kept HBQ dpl
  replace dun := cell_kept HBQ dun
  replace dk := cell_kept HBQ dk
  replace e2 := cell_kept HBQ e2
  clear HBQ
  go_upto_region 4 with fail
  go_cut [10] (fun s10 wx => s10 = .bool false ∧ wq = wx)
  case first =>
    by_cases h9 : (2 : Int) < (TX.size : Int)
    · obtain ⟨p1, e1⟩ := HOT.out (by omega)
      have hA5 : (1 : Int) < (TX.size : Int) := by omega
      go_wp2
      go_meet
      exact ⟨rfl, by first | rfl | trivial⟩
    · go_wp2
      go_meet
      exact ⟨rfl, by first | rfl | trivial⟩
  case rest =>
  obtain ⟨rfl, hw⟩ := hcut
  subst hw
  go_upto_region 5 with fail
  have Z0 := bq_cell dsl
  have Z1 := bq_cell dpl
  have Z2 := bq_cell dun
  have Z3 := bq_cell dk
  have HLE2 := Lib.hid (fun (W : World) (hb : Below wq.heap.size wq W) => HLE.out W ((HB0.out.trans (HB.out.mono HB0.out.size)).trans (hb.mono (Nat.le_trans HB0.out.size HB.out.size))))
  refine wp_region_bq (by kernel_rfl) (by kernel_rfl) ?_
  repeat (refine WQ.step (fun K hK => ?_); go_simp; first | (refine hK _ ?_; clear hK K) | (apply Exists.intro; refine ⟨fun p9 => ?_, hK _ ?_⟩; (exact bq_below (HLE2.out p9.W p9.h)); clear hK K))
  refine WQ.nil ?_
  intro wq HBQ
  clear Z0 Z1 Z2 Z3
  have HB := Lib.hid (HB.out.trans (HBQ.mono HB.out.size))
  replace dsl := cell_kept HBQ dsl
  replace dpl := cell_kept HBQ dpl
  replace dun := cell_kept HBQ dun
  replace dk := cell_kept HBQ dk
  replace e2 := cell_kept HBQ e2
  clear HBQ HLE HLE2
  go_wp2_with (first | ((with_reducible go_at_call 54); (with_reducible refine Calls.mono (HGV.out _ HB.out) ?_); rintro e w3 ⟨rfl, hr3⟩))
  go_ret2
  exact ⟨_, rfl, HRS.out, hr3⟩
set_option maxRecDepth 100000 in
set_option maxHeartbeats 3200000 in
theorem shortS_need {i : Nat} {w0 w : World} {x : Nat} {S : SetP} {A : Option Addr} {cap : Nat} {st : St} {AA CH : Value} {pr : Bool} (h : RunAt w0 w x S A cap st AA CH pr) (he : st.err = .no) (hA : FlagsAt w0 A S.flags) (hn : S.flags.length ≤ 2147483647) (hG : st.given.length ≤ 1099511627776) {vr : Value} {rest : List Txt} (hr : RestAt (pcB S w0.heap.size) w0 vr rest) (hrl : rest.length ≤ 1099511627776) (c : UInt8) (more : Txt) (htl : more.length ≤ 2147483600) (h5 : ¬ (c :: more).take 5 = testT) (hl : lettered S c = some i) (ho1 : ownB more = false) (ho2 : noOptOf S i = []) (ho3 : more = []) (hr0 : rest = []) :
    Calls Try.prog 100 #[.pointer (some ⟨x, 0, none⟩), .string (mkT (c :: more)), vr] w (StepT w0 x S A cap AA CH pr ({ st with err := .need i (runeT c) (c :: more) }, [], [])) := by
  have has : (mkT (c :: more)).size = more.length + 1 := by rw [mkT_size]; simp
  have hA1 : (1 : Int) ≤ ((mkT (c :: more)).size : Int) := by omega
  have hsl : ∀ W, (Instr.slice 9 (.string (mkT (c :: more))) (some (.int .i64 1)) none none).run Try.prog W = .ok (.string (mkT more)) W := fun W => by
    rw [run_slice_string_l (P := Try.prog) W 9 (mkT (c :: more)) Try.underlying9 .i64 1 (by omega) (by omega)]
    have e : (mkT (c :: more)).extract (1 : Int).toNat (mkT (c :: more)).size = mkT more := mkT_inj (by rw [ext_tailP, mkT_list, mkT_list]; rfl)
    rw [e]
  obtain ⟨p0, g0⟩ := mkT_get (l := c :: more) rfl
  have HRU := rune_mk c
  have hcw : IntKind.i32.wrap (c.toNat : Int) = (c.toNat : Int) := by have := c.toNat_lt; simp [IntKind.wrap, IntKind.bits, IntKind.signed]; omega
  have hcw2 : wrap32 (c.toNat : Int) = (c.toNat : Int) := by have := c.toNat_lt; unfold wrap32; omega
  obtain ⟨GA, gc, hx, ho⟩ := h.free he
  have HRS := Lib.hid hr
  have HT5 := Lib.hid (fun h => test_yes (c := c) (more := more) h)
  rw [decide_eq_false h5] at HT5
  have HOT := Lib.hid (fun h => own_61 (c := c) (more := more) h)
  have HON := Lib.hid (fun h => own_no (c := c) (more := more) h)
  have HB0 := Lib.hid h.bel
  have HLE : Hid (∀ W, Below w0.heap.size w0 W → Calls Try.prog 106 #[.agg #[.slice A S.flags.length cap, .bool S.plain, .bool S.unknown, .int .i64 (S.fold : Int)], .int .u8 (c.toNat : Int)] W fun e w' => e = .returned (.int .i64 (i : Int)) ∧ Below W.heap.size W w') := Lib.hid (fun W hb => lett_c hb hA hn cap c hl)
  rw [ho1] at HOT HON
  have hi : i < S.flags.length := findIdx_lt hl
  have i0 : (0 : Int) ≤ (i : Int) := Int.natCast_nonneg _
  have hi2 : (i : Int) < (S.flags.length : Int) := by omega
  have hng : ¬ ((i : Int) < 0) := by omega
  have hno : noOptOf S i = S.flags[i].noOpt := by simp [noOptOf, hi]
  rw [hno] at ho2
  subst hr0
  have HWN := Lib.hid (fun (W : World) (hb : Below w.heap.size w W) => (show Calls Try.prog 55 #[.pointer (some ⟨x, 0, none⟩), .int .i64 (i : Int), .string (mkT (runeT c)), .string (mkT (c :: more)), vr] W _ from wants_nil (h.below hb) he hr i (runeT c) (c :: more)))
  have po : (mkT S.flags[i].noOpt).size = 0 := by rw [mkT_size, ho2]; rfl
  have po3 := empty_list po
  have po4 := empty_not po
  obtain ⟨fb, fo, fv, hAe, -, -, f2, -, -⟩ := hA i hi
  subst hAe
  have e2 := cell_kept h.bel f2
  clear f2
  generalize mkT S.flags[i].noOpt = NO at e2 po po3 po4
  have hmz : mkT more = ⟨#[]⟩ := by rw [ho3]; rfl
  rw [hmz] at hsl
  have dsl : w.cell? ⟨x, 0, none⟩ = some (.slice (some ⟨fb, fo, none⟩) S.flags.length cap) := (cell_blk hx 0).trans rfl
  have dpl : w.cell? ⟨x, 1, none⟩ = some (.bool S.plain) := (cell_blk hx 1).trans rfl
  have dun : w.cell? ⟨x, 2, none⟩ = some (.bool S.unknown) := (cell_blk hx 2).trans rfl
  have dk : w.cell? ⟨x, 3, none⟩ = some (.int .i64 (S.fold : Int)) := (cell_blk hx 3).trans rfl
  clear h5 hl hx ho h hA hr ho1 ho2 ho3 hno hmz
  generalize mkT (c :: more) = TX at hsl hA1 p0 g0 HT5 HOT HON HWN ⊢
  go_enter Try.func100, Try.ntmps100
  go_upto_region 1 with fail
  go_cut [20] (fun s20 wx => s20 = .bool false ∧ w = wx)
  case first =>
    by_cases h9 : (5 : Int) ≤ (TX.size : Int)
    · have h10 : 5 ≤ TX.size := by omega
      have hq := HT5.out h10
      go_wp2
      go_meet
      exact ⟨rfl, by first | rfl | trivial⟩
    · go_wp2
      go_meet
      exact ⟨rfl, by first | rfl | trivial⟩
  case rest =>
  obtain ⟨rfl, hw⟩ := hcut
  subst hw
  go_upto_region 3 with fail
  have X0 := True.intro
  refine wp_region_bq (by kernel_rfl) (by kernel_rfl) ?_
  repeat (refine WQ.step (fun K hK => ?_); go_simp; first | (refine hK _ ?_; clear hK K) | (apply Exists.intro; refine ⟨fun p9 => ?_, hK _ ?_⟩; (fail); clear hK K))
  refine WQ.nil ?_
  intro wq HBQ
  clear X0
  have HB := Lib.hid HBQ
  replace dsl := cell_kept HBQ dsl
  replace dpl := cell_kept HBQ dpl
  replace dun := cell_kept HBQ dun
  replace dk := cell_kept HBQ dk
  replace e2 := cell_kept HBQ e2
  clear HBQ
  go_upto_region 4 with fail
  go_cut [10] (fun s10 wx => s10 = .bool false ∧ wq = wx)
  case first =>
    by_cases h9 : (2 : Int) < (TX.size : Int)
    · obtain ⟨p1, e1⟩ := HOT.out (by omega)
      have hA5 : (1 : Int) < (TX.size : Int) := by omega
      go_wp2
      go_meet
      exact ⟨rfl, by first | rfl | trivial⟩
    · go_wp2
      go_meet
      exact ⟨rfl, by first | rfl | trivial⟩
  case rest =>
  obtain ⟨rfl, hw⟩ := hcut
  subst hw
  go_upto_region 5 with fail
  have Z0 := bq_cell dsl
  have Z1 := bq_cell dpl
  have Z2 := bq_cell dun
  have Z3 := bq_cell dk
  have HLE2 := Lib.hid (fun (W : World) (hb : Below wq.heap.size wq W) => HLE.out W ((HB0.out.trans (HB.out.mono HB0.out.size)).trans (hb.mono (Nat.le_trans HB0.out.size HB.out.size))))
  refine wp_region_bq (by kernel_rfl) (by kernel_rfl) ?_
  repeat (refine WQ.step (fun K hK => ?_); go_simp; first | (refine hK _ ?_; clear hK K) | (apply Exists.intro; refine ⟨fun p9 => ?_, hK _ ?_⟩; (exact bq_below (HLE2.out p9.W p9.h)); clear hK K))
  refine WQ.nil ?_
  intro wq HBQ
  clear Z0 Z1 Z2 Z3
  have HB := Lib.hid (HB.out.trans (HBQ.mono HB.out.size))
  replace dsl := cell_kept HBQ dsl
  replace dpl := cell_kept HBQ dpl
  replace dun := cell_kept HBQ dun
  replace dk := cell_kept HBQ dk
  replace e2 := cell_kept HBQ e2
  clear HBQ HLE HLE2
  go_wp2_with (first | ((with_reducible go_at_call 55); (with_reducible refine Calls.mono (HWN.out _ HB.out) ?_); rintro e w3 ⟨v3, rfl, hv3, hr3⟩))
  go_ret2
  exact ⟨_, rfl, hv3, hr3⟩
set_option maxRecDepth 100000 in
set_option maxHeartbeats 3200000 in
theorem shortS_next {i : Nat} {w0 w : World} {x : Nat} {S : SetP} {A : Option Addr} {cap : Nat} {st : St} {AA CH : Value} {pr : Bool} (h : RunAt w0 w x S A cap st AA CH pr) (he : st.err = .no) (hA : FlagsAt w0 A S.flags) (hn : S.flags.length ≤ 2147483647) (hG : st.given.length ≤ 1099511627776) {vr : Value} {rest : List Txt} (hr : RestAt (pcB S w0.heap.size) w0 vr rest) (hrl : rest.length ≤ 1099511627776) (c : UInt8) (more : Txt) (htl : more.length ≤ 2147483600) (h5 : ¬ (c :: more).take 5 = testT) (hl : lettered S c = some i) (ho1 : ownB more = false) (ho2 : noOptOf S i = []) (ho3 : more = []) {a : Txt} {rs : List Txt} (hr0 : rest = a :: rs) :
    Calls Try.prog 100 #[.pointer (some ⟨x, 0, none⟩), .string (mkT (c :: more)), vr] w (StepT w0 x S A cap AA CH pr (give S none st i a, [], rs)) := by
  have has : (mkT (c :: more)).size = more.length + 1 := by rw [mkT_size]; simp
  have hA1 : (1 : Int) ≤ ((mkT (c :: more)).size : Int) := by omega
  have hsl : ∀ W, (Instr.slice 9 (.string (mkT (c :: more))) (some (.int .i64 1)) none none).run Try.prog W = .ok (.string (mkT more)) W := fun W => by
    rw [run_slice_string_l (P := Try.prog) W 9 (mkT (c :: more)) Try.underlying9 .i64 1 (by omega) (by omega)]
    have e : (mkT (c :: more)).extract (1 : Int).toNat (mkT (c :: more)).size = mkT more := mkT_inj (by rw [ext_tailP, mkT_list, mkT_list]; rfl)
    rw [e]
  obtain ⟨p0, g0⟩ := mkT_get (l := c :: more) rfl
  have HRU := rune_mk c
  have hcw : IntKind.i32.wrap (c.toNat : Int) = (c.toNat : Int) := by have := c.toNat_lt; simp [IntKind.wrap, IntKind.bits, IntKind.signed]; omega
  have hcw2 : wrap32 (c.toNat : Int) = (c.toNat : Int) := by have := c.toNat_lt; unfold wrap32; omega
  obtain ⟨GA, gc, hx, ho⟩ := h.free he
  have HRS := Lib.hid hr
  have HT5 := Lib.hid (fun h => test_yes (c := c) (more := more) h)
  rw [decide_eq_false h5] at HT5
  have HOT := Lib.hid (fun h => own_61 (c := c) (more := more) h)
  have HON := Lib.hid (fun h => own_no (c := c) (more := more) h)
  have HB0 := Lib.hid h.bel
  have HLE : Hid (∀ W, Below w0.heap.size w0 W → Calls Try.prog 106 #[.agg #[.slice A S.flags.length cap, .bool S.plain, .bool S.unknown, .int .i64 (S.fold : Int)], .int .u8 (c.toNat : Int)] W fun e w' => e = .returned (.int .i64 (i : Int)) ∧ Below W.heap.size W w') := Lib.hid (fun W hb => lett_c hb hA hn cap c hl)
  rw [ho1] at HOT HON
  have hi : i < S.flags.length := findIdx_lt hl
  have i0 : (0 : Int) ≤ (i : Int) := Int.natCast_nonneg _
  have hi2 : (i : Int) < (S.flags.length : Int) := by omega
  have hng : ¬ ((i : Int) < 0) := by omega
  have hno : noOptOf S i = S.flags[i].noOpt := by simp [noOptOf, hi]
  rw [hno] at ho2
  subst hr0
  have hrl2 : rs.length ≤ 1099511627776 := by simp at hrl; omega
  have HWN := Lib.hid (fun (W : World) (hb : Below w.heap.size w W) => (show Calls Try.prog 55 #[.pointer (some ⟨x, 0, none⟩), .int .i64 (i : Int), .string (mkT (runeT c)), .string (mkT (c :: more)), vr] W _ from wants_next (h.below hb) he hA hi hG hr hrl2 (runeT c) (c :: more)))
  have po : (mkT S.flags[i].noOpt).size = 0 := by rw [mkT_size, ho2]; rfl
  have po3 := empty_list po
  have po4 := empty_not po
  obtain ⟨fb, fo, fv, hAe, -, -, f2, -, -⟩ := hA i hi
  subst hAe
  have e2 := cell_kept h.bel f2
  clear f2
  generalize mkT S.flags[i].noOpt = NO at e2 po po3 po4
  have hmz : mkT more = ⟨#[]⟩ := by rw [ho3]; rfl
  rw [hmz] at hsl
  have dsl : w.cell? ⟨x, 0, none⟩ = some (.slice (some ⟨fb, fo, none⟩) S.flags.length cap) := (cell_blk hx 0).trans rfl
  have dpl : w.cell? ⟨x, 1, none⟩ = some (.bool S.plain) := (cell_blk hx 1).trans rfl
  have dun : w.cell? ⟨x, 2, none⟩ = some (.bool S.unknown) := (cell_blk hx 2).trans rfl
  have dk : w.cell? ⟨x, 3, none⟩ = some (.int .i64 (S.fold : Int)) := (cell_blk hx 3).trans rfl
  clear h5 hl hx ho h hA hr ho1 ho2 ho3 hno hmz
  generalize mkT (c :: more) = TX at hsl hA1 p0 g0 HT5 HOT HON HWN ⊢
  go_enter Try.func100, Try.ntmps100
  go_upto_region 1 with fail
  go_cut [20] (fun s20 wx => s20 = .bool false ∧ w = wx)
  case first =>
    by_cases h9 : (5 : Int) ≤ (TX.size : Int)
    · have h10 : 5 ≤ TX.size := by omega
      have hq := HT5.out h10
      go_wp2
      go_meet
      exact ⟨rfl, by first | rfl | trivial⟩
    · go_wp2
      go_meet
      exact ⟨rfl, by first | rfl | trivial⟩
  case rest =>
  obtain ⟨rfl, hw⟩ := hcut
  subst hw
  go_upto_region 3 with fail
  have X0 := True.intro
  refine wp_region_bq (by kernel_rfl) (by kernel_rfl) ?_
  repeat (refine WQ.step (fun K hK => ?_); go_simp; first | (refine hK _ ?_; clear hK K) | (apply Exists.intro; refine ⟨fun p9 => ?_, hK _ ?_⟩; (fail); clear hK K))
  refine WQ.nil ?_
  intro wq HBQ
  clear X0
  have HB := Lib.hid HBQ
  replace dsl := cell_kept HBQ dsl
  replace dpl := cell_kept HBQ dpl
  replace dun := cell_kept HBQ dun
  replace dk := cell_kept HBQ dk
  replace e2 := cell_kept HBQ e2
  clear HBQ
  go_upto_region 4 with fail
  go_cut [10] (fun s10 wx => s10 = .bool false ∧ wq = wx)
  case first =>
    by_cases h9 : (2 : Int) < (TX.size : Int)
    · obtain ⟨p1, e1⟩ := HOT.out (by omega)
      have hA5 : (1 : Int) < (TX.size : Int) := by omega
      go_wp2
      go_meet
      exact ⟨rfl, by first | rfl | trivial⟩
    · go_wp2
      go_meet
      exact ⟨rfl, by first | rfl | trivial⟩
  case rest =>
  obtain ⟨rfl, hw⟩ := hcut
  subst hw
  go_upto_region 5 with fail
  have Z0 := bq_cell dsl
  have Z1 := bq_cell dpl
  have Z2 := bq_cell dun
  have Z3 := bq_cell dk
  have HLE2 := Lib.hid (fun (W : World) (hb : Below wq.heap.size wq W) => HLE.out W ((HB0.out.trans (HB.out.mono HB0.out.size)).trans (hb.mono (Nat.le_trans HB0.out.size HB.out.size))))
  refine wp_region_bq (by kernel_rfl) (by kernel_rfl) ?_
  repeat (refine WQ.step (fun K hK => ?_); go_simp; first | (refine hK _ ?_; clear hK K) | (apply Exists.intro; refine ⟨fun p9 => ?_, hK _ ?_⟩; (exact bq_below (HLE2.out p9.W p9.h)); clear hK K))
  refine WQ.nil ?_
  intro wq HBQ
  clear Z0 Z1 Z2 Z3
  have HB := Lib.hid (HB.out.trans (HBQ.mono HB.out.size))
  replace dsl := cell_kept HBQ dsl
  replace dpl := cell_kept HBQ dpl
  replace dun := cell_kept HBQ dun
  replace dk := cell_kept HBQ dk
  replace e2 := cell_kept HBQ e2
  clear HBQ HLE HLE2
  go_wp2_with (first | ((with_reducible go_at_call 55); (with_reducible refine Calls.mono (HWN.out _ HB.out) ?_); rintro e w3 ⟨v3, rfl, hv3, hr3⟩))
  go_ret2
  exact ⟨_, rfl, hv3, hr3⟩
theorem shortS_any {w0 w : World} {x : Nat} {S : SetP} {A : Option Addr} {cap : Nat} {st : St} {AA CH : Value} {pr : Bool} (h : RunAt w0 w x S A cap st AA CH pr) (he : st.err = .no) (hA : FlagsAt w0 A S.flags) (hn : S.flags.length ≤ 2147483647) (hG : st.given.length ≤ 1099511627776) {vr : Value} {rest : List Txt} (hr : RestAt (pcB S w0.heap.size) w0 vr rest) (hrl : rest.length ≤ 1099511627776) (c : UInt8) (more : Txt) (htl : more.length ≤ 2147483600) :
    Calls Try.prog 100 #[.pointer (some ⟨x, 0, none⟩), .string (mkT (c :: more)), vr] w (StepT w0 x S A cap AA CH pr (shortP S none st c more rest)) := by
  unfold shortP
  by_cases h5 : (c :: more).take 5 = testT
  · rw [if_pos h5]; exact shortS_test h he hA hn hG hr hrl c more htl h5
  rw [if_neg h5]
  cases hl : lettered S c with
  | none =>
    simp only
    by_cases hc : c = 104
    · rw [if_pos hc]; exact shortS_help h he hA hn hG hr hrl c more htl h5 hl hc
    rw [if_neg hc]
    cases hu : S.unknown with
    | false => simp only [Bool.false_eq_true, if_false]; exact shortS_not h he hA hn hG hr hrl c more htl h5 hl hc hu
    | true =>
      simp only [if_true]
      cases ho : ownB more with
      | true => simp only [if_true]; exact shortS_let_y h he hA hn hG hr hrl c more htl h5 hl hc hu ho
      | false => simp only [Bool.false_eq_true, if_false]; exact shortS_let_n h he hA hn hG hr hrl c more htl h5 hl hc hu ho
  | some i =>
    simp only
    cases ho : ownB more with
    | true => simp only [if_true]; exact shortS_own h he hA hn hG hr hrl c more htl h5 hl ho
    | false =>
      simp only [Bool.false_eq_true, if_false]
      by_cases h2 : noOptOf S i = []
      · rw [if_neg (fun q => q h2)]
        by_cases h3 : more = []
        · rw [if_neg (fun q => q h3)]
          cases rest with
          | nil => simp only; have h9 := shortS_need h he hA hn hG hr hrl c more htl h5 hl ho h2 h3 rfl; rw [h3] at h9 ⊢; exact h9
          | cons a rs => simp only; have h9 := shortS_next h he hA hn hG hr hrl c more htl h5 hl ho h2 h3 rfl; rw [h3] at h9 ⊢; exact h9
        · rw [if_pos h3]; exact shortS_more h he hA hn hG hr hrl c more htl h5 hl ho h2 h3
      · rw [if_pos h2]; exact shortS_opt h he hA hn hG hr hrl c more htl h5 hl ho h2
end Go.Proofs.Ytgmhhdpggnmipaa.E

namespace Go.Proofs.Ytgmhhdpggnmipaa.E
open Go.RowKit Go.Proofs
open Go.Proofs.Ytgmhhdpggnmipaa.PQ Go.Proofs.YtgmhhdpggnmipaaW.PrintWords
set_option linter.unusedVariables false
set_option linter.unusedSimpArgs false
theorem ba_loop (s : ByteArray) : ∀ (d i : Nat) (r : List UInt8), s.size - i = d → ByteArray.toList.loop s i r = r.reverse ++ s.data.toList.drop i := by
  intro d
  induction d with
  | zero =>
    intro i r h
    unfold ByteArray.toList.loop
    have hl : s.data.toList.length = s.size := by simp
    rw [if_neg (by omega), List.drop_eq_nil_of_le (by omega), List.append_nil]
  | succ d ih =>
    intro i r h
    unfold ByteArray.toList.loop
    have hl : s.data.toList.length = s.size := by simp
    have hi : i < s.size := by omega
    have hi2 : i < s.data.size := hi
    have hd := List.drop_eq_getElem_cons (l := s.data.toList) (i := i) (by omega)
    rw [if_pos hi, ih (i + 1) _ (by omega), hd]
    have e : s.get! i = s.data.toList[i]'(by omega) := by
      show s.data[i]! = _
      rw [getElem!_pos s.data i hi2, Array.getElem_toList]
    rw [e]
    simp
theorem ba_toList (s : ByteArray) : s.toList = s.data.toList := by
  unfold ByteArray.toList
  rw [ba_loop s s.size 0 [] (by omega)]
  simp
theorem bare_f (t : Txt) : spec_Bare.f (mkT t) = some (bareB t) := by
  unfold spec_Bare.f bareB
  rw [ba_toList, mkT_list]
  cases t with
  | nil => rfl
  | cons c r =>
    rw [if_neg (by simp), if_pos (by rw [mkT_size]; simp only [List.length_cons]; omega)]
    have e : bt (mkT (c :: r)) 0 = (c.toNat : Int) := by
      unfold bt
      simp [mkT]
      first
        | done
        | rfl
    rw [e]
    by_cases h : c = 45
    · subst h
      rw [if_pos (by decide)]
      simp [Bool.beq_eq_decide_eq]
    · have h2 : ¬ (c.toNat : Int) = 45 := fun q => h (UInt8.toNat_inj.1 (by show c.toNat = 45; omega))
      rw [if_neg h2]
      simp [h]
theorem bare_c (t : Txt) (w : World) : Calls Try.prog 32 #[.string (mkT t)] w fun e w' => e = .returned (.bool (bareB t)) ∧ Below w.heap.size w w' :=
  (spec_Bare.calls (mkT t) _ w (bare_f t)).mono fun e w' ⟨he, hd⟩ => ⟨he, hd.below⟩
end Go.Proofs.Ytgmhhdpggnmipaa.E

namespace Go.Proofs.Ytgmhhdpggnmipaa.E
open Go.RowKit Go.Proofs
set_option linter.unusedVariables false
set_option linter.unusedSimpArgs false
/-- The cell of the error. -/
theorem RunAt.err {w0 w : World} {x : Nat} {S : SetP} {A : Option Addr} {cap : Nat} {st : St} {AA CH : Value} {pr : Bool} (h : RunAt w0 w x S A cap st AA CH pr) : w.cell? ⟨x, 4, none⟩ = some (.int .i64 (eNo st.err)) := by
  obtain ⟨_, _, _, GA, gc, hx, _⟩ := h
  exact (cell_blk hx 4).trans rfl
structure ShRelS (w0 : World) (x : Nat) (S : SetP) (A : Option Addr) (cap : Nat) (AA CH : Value) (pr : Bool) (rest : List Txt) (Q : St × List Txt) (sh : Txt) (st : St) (left : List Txt) (v : Value) (W : World) : Prop where
  run : RunAt w0 W x S A cap st AA CH pr
  lef : RestAt (pcB S w0.heap.size) w0 v left
  cnt : st.given.length + sh.length ≤ 1099511627776
  len : sh.length ≤ 2147483600
  is : (if st.err.isNo = true then shortsP S none rest sh st left else (st, left)) = Q
theorem ShRelS.fin {w0 W : World} {x : Nat} {S : SetP} {A : Option Addr} {cap : Nat} {AA CH : Value} {pr : Bool} {rest : List Txt} {Q : St × List Txt} {sh : Txt} {st : St} {left : List Txt} {v : Value} (h : ShRelS w0 x S A cap AA CH pr rest Q sh st left v W) (hs : sh = [] ∨ ¬ st.err.isNo = true) : StepS w0 x S A cap AA CH pr Q (.returned v) W := by
  have hi := h.is
  rcases hs with hs | hs
  · subst hs
    have e : Q = (st, left) := by
      rw [← hi]; split <;> rfl
    subst e
    exact ⟨v, rfl, h.lef, h.run⟩
  · rw [if_neg hs] at hi
    subst hi
    exact ⟨v, rfl, h.lef, h.run⟩
theorem stepS_eq {w0 W : World} {x : Nat} {S : SetP} {A : Option Addr} {cap : Nat} {AA CH : Value} {pr : Bool} {Q : St × List Txt} {v : Value} {e : Ending} (h : StepS w0 x S A cap AA CH pr Q (.returned v) W) (he : e = .returned v) : StepS w0 x S A cap AA CH pr Q e W := by subst he; exact h
set_option maxRecDepth 100000 in
set_option maxHeartbeats 3200000 in
theorem shortsS_any {w0 w : World} {x : Nat} {S : SetP} {A : Option Addr} {cap : Nat} {st : St} {AA CH : Value} {pr : Bool} (h : RunAt w0 w x S A cap st AA CH pr) (he : st.err = .no) (hA : FlagsAt w0 A S.flags) (hn : S.flags.length ≤ 2147483647) {vr : Value} {rest : List Txt} (hr : RestAt (pcB S w0.heap.size) w0 vr rest) (hrl : rest.length ≤ 1099511627776) (T : Txt) (hT : T.length ≤ 2147483600) (hG : st.given.length + T.length ≤ 1099511627776) :
    Calls Try.prog 93 #[.pointer (some ⟨x, 0, none⟩), .string (mkT T), vr] w (StepS w0 x S A cap AA CH pr (shortsP S none rest T st rest)) := by
  have HR0 : Hid (ShRelS w0 x S A cap AA CH pr rest (shortsP S none rest T st rest) T st rest vr w) := Lib.hid ⟨h, hr, hG, hT, by rw [if_pos (Er.isNo_iff.2 he)]⟩
  have HSH := Lib.hid (fun (st : St) (c : UInt8) (more : Txt) (W : World) (h : RunAt w0 W x S A cap st AA CH pr) (he : st.err = .no) (hG : st.given.length ≤ 1099511627776) (htl : more.length ≤ 2147483600) => shortS_any h he hA hn hG hr hrl c more htl)
  clear h he hA hn hr hrl hT hG
  generalize shortsP S none rest T st rest = Q at HR0 ⊢
  go_enter Try.func93, Try.ntmps93
  go_wp2
  go_loopw [1, 7] (fun tx v W => ∃ (sh : Txt) (st' : St) (left : List Txt), tx = .string (mkT sh) ∧ Hid (ShRelS w0 x S A cap AA CH pr rest Q sh st' left v W)) (fun tx _ _ => strLen tx)
  case atStart => exact ⟨T, st, rest, rfl, HR0⟩
  case round =>
    clear HR0
    obtain ⟨sh, st', left, rfl, HX⟩ := hrel
    cases sh with
    | nil =>
      have hz : mkT ([] : Txt) = ⟨#[]⟩ := rfl
      rw [hz]
      go_wp2
      go_ret
      exact stepS_eq (HX.out.fin (.inl rfl)) rfl
    | cons c more =>
      have y4 := HX.out.run.err
      have pz : 0 < (mkT (c :: more)).size := by rw [mkT_size]; simp
      have pz3 := nonempty_list pz
      have pz4 := nonempty_not pz
      have h3 : (mkT (c :: more)).size = more.length + 1 := by rw [mkT_size]; simp
      by_cases hq : st'.err.isNo = true
      · have he := Er.isNo_iff.1 hq
        rw [he] at y4
        replace y4 : wr.cell? ⟨x, 4, none⟩ = some (.int .i64 0) := y4
        have h := HX.out
        have hl := h.len
        have hcn := h.cnt
        simp only [List.length_cons] at hl hcn
        have HC := Lib.hid (HSH.out st' c more wr h.run he (by omega) (by omega))
        have hgr := shortP_grow S none st' c more rest
        have his := h.is
        rw [if_pos hq, shortsP] at his
        clear h HX he hq
        generalize shortP S none st' c more rest = q at HC hgr his
        obtain ⟨q1, q2, q3⟩ := q
        simp only at hgr his
        generalize mkT (c :: more) = SH at HC pz pz3 pz4 h3
        go_wp2_with ((with_reducible go_at_call 100); (with_reducible refine Calls.mono HC.out ?_); rintro e w3 ⟨v3, rfl, hv3, hr3⟩; have HV3 := Lib.hid hv3; have HR3 := Lib.hid hr3; clear hv3 hr3)
        go_roundw
        case rel =>
          refine ⟨q2, q1, q3, rfl, Lib.hid ⟨HR3.out, HV3.out, ?_, ?_, ?_⟩⟩
          · rcases hgr.2.1 with e | e
            · rw [e]; omega
            · rw [e]; simp; omega
          · rcases hgr.2.1 with e | e
            · rw [e]; omega
            · rw [e]; simp
          · by_cases hq : q1.err.isNo = true
            · rw [if_pos hq] at his ⊢
              by_cases e : q2 = []
              · subst e; rw [if_pos rfl] at his; rw [← his]; rfl
              · rw [if_neg e] at his
                rcases hgr.2.1 with e2 | e2
                · rw [e2]; exact his
                · exact absurd e2 e
            · rw [if_neg hq] at his ⊢
              exact his
        case measure =>
          simp only [strLen, h3, mkT_size]
          rcases hgr.2.1 with e | e
          · rw [e]; omega
          · rw [e]; simp
      · have z0 : (eNo st'.err == 0) = false := by simp only [beq_eq_false_iff_ne]; exact fun q => hq (Er.isNo_iff.2 (eNo_zero.1 q))
        generalize mkT (c :: more) = SH at pz pz3 pz4 h3
        go_wp2
        go_ret
        exact stepS_eq (HX.out.fin (.inr hq)) rfl
/-- One cell of a run is written. -/
theorem RunAt.set {w0 w : World} {x : Nat} {S : SetP} {A : Option Addr} {cap : Nat} {st : St} {AA CH : Value} {pr : Bool} (h : RunAt w0 w x S A cap st AA CH pr) {st' : St} {CH' : Value} {pr' : Bool} (j : Nat) (v : Value) (hc : ∀ G, (rnCells S A cap st G AA CH pr).setIfInBounds j v = rnCells S A cap st' G AA CH' pr') (hg : st'.given = st.given) (ha : st'.args = st.args) : RunAt w0 (w.setCell ⟨x, j, none⟩ v) x S A cap st' AA CH' pr' := by
  obtain ⟨h1, h2, h5, GA, gc, h3, h4⟩ := h
  have hx : (w.setCell ⟨x, j, none⟩ v).heap[x]? = some (.cells (rnCells S A cap st' (.slice GA st.given.length gc) AA CH' pr') 41 (0, 0)) := by
    rw [← hc]; exact blk_set h3 j v
  refine ⟨h1.setCell (p := ⟨x, j, none⟩) h2 _, h2, ?_, GA, gc, ?_, ?_⟩
  · rw [ha]; exact own_of_blk h5 (fun g hg => blk_other (fun e => by subst e; exact own_far3 h5 h3 (by decide) hg))
  · rw [hg]; exact hx
  · rw [hg]; exact own_of_blk h4 (fun g hg => blk_other (fun e => by subst e; exact own_far3 h4 h3 (by decide) hg))
/-- Arguments are kept: the list grew, and is written into the run. -/
theorem RunAt.args {w0 w wa w1 : World} {x : Nat} {S : SetP} {A : Option Addr} {cap : Nat} {st : St} {AA CH : Value} {pr : Bool} (h : RunAt w0 w x S A cap st AA CH pr) {L : List Txt} {v : Value} (hal : Below w.heap.size w wa) (hg : wa.grownBy w1 AA.ownBlock) (ho : w1.ownsRow w0.heap.size 9 1 v (st.args.length + L.length) (aCells st.args ++ aCells L)) :
    RunAt w0 (w1.setCell ⟨x, 10, none⟩ v) x S A cap { st with args := st.args ++ L } v CH pr := by
  obtain ⟨h1, h2, h5, GA, gc, h3, h4⟩ := h
  have ka := block_kept h3 hal
  have k1 := grown_blk hg ka (fun e => own_far3 h5 h3 (by decide) e.symm)
  have o1 := own_kept h4 hal
  have hb1 : Below w0.heap.size w0 w1 := (h1.trans (hal.mono h1.size)).grown hg (Nat.le_trans h1.size hal.size) (fun k hk => (h5.lt k hk).1)
  have o2 := own_of_blk o1 (fun b hb => hg.block b (o1.lt b hb).2 (fun e => by obtain ⟨cur, hc⟩ := own_is h4 hb; exact own_far3 h5 hc (by decide) e.symm))
  have hx : (w1.setCell ⟨x, 10, none⟩ v).heap[x]? = some (.cells (rnCells S A cap { st with args := st.args ++ L } (.slice GA st.given.length gc) v CH pr) 41 (0, 0)) := blk_set k1 10 v
  refine ⟨hb1.setCell (p := ⟨x, 10, none⟩) h2 _, h2, ?_, GA, gc, hx, ?_⟩
  · have e1 : (st.args ++ L).length = st.args.length + L.length := List.length_append
    have e2 : aCells (st.args ++ L) = aCells st.args ++ aCells L := by simp [aCells]
    show (w1.setCell ⟨x, 10, none⟩ v).ownsRow w0.heap.size 9 1 v (st.args ++ L).length (aCells (st.args ++ L))
    rw [e1, e2]
    exact own_of_blk ho (fun k hk => blk_other (fun e => by subst e; exact own_far3 ho k1 (by decide) hk))
  · exact own_of_blk o2 (fun k hk => blk_other (fun e => by subst e; exact own_far3 o2 k1 (by decide) hk))
/-- What Goes leaves. -/
def GoesEnd (w0 : World) (x : Nat) (S : SetP) (A : Option Addr) (cap : Nat) (CH : Value) (Q : St) (e : Ending) (w' : World) : Prop := e = .returned (.tuple #[]) ∧ ∃ AA ac, RunAt w0 w' x S A cap Q (.slice AA Q.args.length ac) CH true
theorem goesEnd {w0 w' : World} {x : Nat} {S : SetP} {A : Option Addr} {cap : Nat} {CH : Value} {Q : St} {e : Ending} {AA : Option Addr} {m ac : Nat} (he : e = .returned (.tuple #[])) (h : RunAt w0 w' x S A cap Q (.slice AA m ac) CH true) (hm : m = Q.args.length) : GoesEnd w0 x S A cap CH Q e w' := by
  subst hm; exact ⟨he, _, _, h⟩
theorem run_len {w0 w' : World} {x : Nat} {S : SetP} {A : Option Addr} {cap : Nat} {CH : Value} {Q : St} {AA : Option Addr} {m ac : Nat} (h : RunAt w0 w' x S A cap Q (.slice AA m ac) CH true) (hm : m = Q.args.length) : ∃ AA ac, RunAt w0 w' x S A cap Q (.slice AA Q.args.length ac) CH true := by
  subst hm; exact ⟨_, _, h⟩
structure ArgRelS (w0 : World) (x : Nat) (S : SetP) (A : Option Addr) (cap : Nat) (CH : Value) (Q : St) (L : List Txt) (st : St) (v : Value) (W : World) : Prop where
  run : ∃ AA ac, RunAt w0 W x S A cap st (.slice AA st.args.length ac) CH true
  lef : RestAt (pcB S w0.heap.size) w0 v L
  cnt : st.given.length + wt L ≤ 1099511627776
  acnt : st.args.length + L.length ≤ 1099511627776
  is : (if st.err.isNo = true then goes S none st L else st) = Q
  len : ∀ a ∈ L, a.length ≤ 2147483600
theorem ArgRelS.fin {w0 W : World} {x : Nat} {S : SetP} {A : Option Addr} {cap : Nat} {CH : Value} {Q : St} {L : List Txt} {st : St} {v : Value} {e : Ending} (h : ArgRelS w0 x S A cap CH Q L st v W) (hs : L = [] ∨ ¬ st.err.isNo = true) (he : e = .returned (.tuple #[])) : GoesEnd w0 x S A cap CH Q e W := by
  have hi := h.is
  have e2 : st = Q := by
    rcases hs with hs | hs
    · subst hs; rw [← hi]; split <;> rfl
    · rw [if_neg hs] at hi; exact hi
  subst e2
  exact ⟨he, h.run⟩
set_option maxRecDepth 100000 in
set_option maxHeartbeats 6400000 in
theorem goesS_any {w0 w : World} {x : Nat} {S : SetP} {A : Option Addr} {cap : Nat} {st : St} {AA : Option Addr} {CH : Value} {ac : Nat} {pr : Bool} (h : RunAt w0 w x S A cap st (.slice AA st.args.length ac) CH pr) (he : st.err = .no) (hA : FlagsAt w0 A S.flags) (hR : Right S) (hn : S.flags.length ≤ 2147483647) (hsz : ∀ f ∈ S.flags, f.name.length ≤ 2147483647) {vr : Value} {L : List Txt} (hr : RestAt (pcB S w0.heap.size) w0 vr L) (hG : st.given.length + wt L ≤ 1099511627776) (hGA : st.args.length + L.length ≤ 1099511627776) (hls : ∀ a ∈ L, a.length ≤ 2147483600) :
    Calls Try.prog 60 #[.pointer (some ⟨x, 0, none⟩), vr] w (GoesEnd w0 x S A cap CH (goes S none st L)) := by
  obtain ⟨ti, gi, hz0, hz1, hz2⟩ := info_parts Try.infoS14
  have HSH := Lib.hid (fun (st : St) (AA : Value) (T : Txt) (rest : List Txt) (vr : Value) (W : World) (h : RunAt w0 W x S A cap st AA CH true) (he : st.err = .no) (hr : RestAt (pcB S w0.heap.size) w0 vr rest) (hrl : rest.length ≤ 1099511627776) (hT : T.length ≤ 2147483600) (hG : st.given.length + T.length ≤ 1099511627776) => shortsS_any h he hA hn hr hrl T hT hG)
  have HLO := Lib.hid (fun (st : St) (AA : Value) (t : Txt) (rest : List Txt) (vr : Value) (W : World) (h : RunAt w0 W x S A cap st AA CH true) (he : st.err = .no) (hG : st.given.length ≤ 1099511627776) (hr : RestAt (pcB S w0.heap.size) w0 vr rest) (hrl : rest.length ≤ 1099511627776) (htl : t.length ≤ 2147483600) => longS_any h he hA hR hn hsz hG hr hrl t htl)
  have HR0 : Hid (ArgRelS w0 x S A cap CH (goes S none st L) L st vr (w.setCell ⟨x, 13, none⟩ (.bool true))) := Lib.hid ⟨⟨AA, ac, h.set 13 (.bool true) (fun G => rfl) rfl rfl⟩, hr, hG, hGA, by rw [if_pos (Er.isNo_iff.2 he)], hls⟩
  obtain ⟨_, _, _, GA0, gc0, hx0, _⟩ := h
  have y13 : w.cell? ⟨x, 13, none⟩ = some (.bool pr) := (cell_blk hx0 13).trans rfl
  have zf0 := free_blk hx0
  have lx0 := lt_of_block hx0
  clear he hA hR hn hsz hr hG hGA hls hx0
  generalize goes S none st L = Q at HR0 ⊢
  go_enter Try.func60, Try.ntmps60
  go_wp2
  generalize w.setCell ⟨x, 13, none⟩ (.bool true) = w1 at HR0 ⊢
  clear y13 zf0 lx0
  go_loopw [1] (fun v W => ∃ (L : List Txt) (st' : St) (A1 : Option Addr) (c1 : Nat), v = .slice A1 L.length c1 ∧ Hid (ArgRelS w0 x S A cap CH Q L st' v W)) (fun v _ => lenV v)
  case atStart =>
    obtain ⟨A1, c1, hv, _⟩ := HR0.out.lef
    exact ⟨L, st, A1, c1, hv, HR0⟩
  case round =>
    clear HR0
    obtain ⟨L, st', A1, c1, rfl, HX⟩ := hrel
    by_cases hq : st'.err.isNo = true
    case neg =>
      cases L with
      | nil =>
        have i0 : ((([] : List Txt).length : Nat) : Int) = 0 := rfl
        go_wp2
        go_end0
        exact HX.out.fin (.inl rfl) rfl
      | cons arg rs =>
        have i0 : (0 : Int) < (((arg :: rs).length : Nat) : Int) := by simp only [List.length_cons]; omega
        obtain ⟨_, _, hrun⟩ := HX.out.run
        have y4 := hrun.err
        have z0 : (eNo st'.err == 0) = false := by simp only [beq_eq_false_iff_ne]; exact fun q => hq (Er.isNo_iff.2 (eNo_zero.1 q))
        clear hrun
        go_wp2
        go_end0
        exact HX.out.fin (.inr hq) rfl
    cases L with
    | nil =>
      have i0 : ((([] : List Txt).length : Nat) : Int) = 0 := rfl
      go_wp2
      go_end0
      exact HX.out.fin (.inl rfl) rfl
    | cons arg rs =>
      have he := Er.isNo_iff.1 hq
      have h := HX.out
      obtain ⟨Aa, aca, hrun⟩ := h.run
      have y4 := hrun.err
      rw [he] at y4
      replace y4 : wr.cell? ⟨x, 4, none⟩ = some (.int .i64 0) := y4
      obtain ⟨b, o, cp, hve, hc, A2, c2, hsl, hcut⟩ := h.lef.cut
      simp only [Value.slice.injEq] at hve
      obtain ⟨rfl, _, rfl⟩ := hve
      have i0 : (0 : Int) < ((rs.length + 1 : Nat) : Int) := by omega
      simp only [List.length_cons]
      have hc2 := cell_kept hrun.bel hc
      have hal : arg.length ≤ 2147483600 := h.len arg (by simp)
      have his := h.is
      rw [if_pos hq, goes_cons] at his
      have hcn := h.cnt
      have hac := h.acnt
      simp only [wt, List.length_cons] at hcn hac
      have HLE := Lib.hid (hcut w0 h.lef)
      have HLF := Lib.hid h.lef
      have hlen := h.len
      have HBR := Lib.hid (fun W => bare_c arg W)
      clear h hcut hq
      go_upto_region 2 with fail
      have Y0 := bq_cell hc2
      refine wp_region_bq (by kernel_rfl) (by kernel_rfl) ?_
      repeat (refine WQ.step (fun K hK => ?_); go_simp; first | (refine hK _ ?_; clear hK K) | (apply Exists.intro; refine ⟨fun p9 => ?_, hK _ ?_⟩; (fail); clear hK K))
      refine WQ.nil ?_
      intro wq HBQ
      clear Y0
      have HRUN := Lib.hid (hrun.below HBQ)
      clear hrun HBQ y4 hc2 hc HX
      obtain ⟨GA, gc, hx⟩ : ∃ GA gc, wq.heap[x]? = some (.cells (rnCells S A cap st' (.slice GA st'.given.length gc) (.slice Aa st'.args.length aca) CH true) 41 (0, 0)) := by
        obtain ⟨_, _, _, GA, gc, hx, _⟩ := HRUN.out
        exact ⟨GA, gc, hx⟩
      have y1 : wq.cell? ⟨x, 1, none⟩ = some (.bool S.plain) := (cell_blk hx 1).trans rfl
      have y10 : wq.cell? ⟨x, 10, none⟩ = some (.slice Aa st'.args.length aca) := (cell_blk hx 10).trans rfl
      have y11 : wq.cell? ⟨x, 11, none⟩ = some (.int .i64 st'.dash) := (cell_blk hx 11).trans rfl
      have zf := free_blk hx
      have lx := lt_of_block hx
      cases hbr : bareB arg with
      | true =>
        rw [hbr] at HBR
        rw [if_pos hbr] at his
        cases hpl : S.plain with
        | true =>
          rw [if_pos hpl] at his
          rw [hpl] at y1
          have HNW := Lib.hid (fun (W : World) (hb : Below w0.heap.size w0 W) => ((HLF.out.below hb).news).2)
          go_wp2_with (first
            | ((with_reducible go_at_call 32); (with_reducible refine Calls.mono (HBR.out _) ?_); rintro e w3 ⟨rfl, hb3⟩; have y1 := cell_kept hb3 y1; have y10 := cell_kept hb3 y10; have y11 := cell_kept hb3 y11; have hx := block_kept hx hb3; have zf := free_blk hx; have lx := lt_of_block hx; have HRUN := Lib.hid (HRUN.out.below hb3); clear hb3)
            | (at_builtin; refine wpList_append_any rfl (.tmp 46) (.tmp 47) 25 rfl w0.heap.size 9 ti _ 1 16 Try.underlying25 gi hz0 hz1 hz2 rfl (by decide) _ st'.args.length _ rfl HRUN.out.arg (some ⟨b, o, none⟩) (rs.length + 1) c1 (aCells (arg :: rs)) rfl (HNW.out _ HRUN.out.bel).1 (by rw [aCells_len, Nat.mul_one]; rfl) (HNW.out _ HRUN.out.bel).2 (by intro u hu; unfold aCells at hu; obtain ⟨t9, _, rfl⟩ := List.mem_map.1 hu; rfl) (by unfold maxLen; omega) (by omega) HRUN.out.bel.size ?_; intro v8 w8 hown8 hg8; have HR8 := Lib.hid (HRUN.out.args (L := arg :: rs) (Below.refl _ _) hg8 hown8); have k8 := grown_blk hg8 hx (fun e => own_far3 HRUN.out.arg hx (by decide) e.symm); have y10 : w8.cell? ⟨x, 10, none⟩ = some (.slice Aa st'.args.length aca) := (cell_blk k8 10).trans rfl; have zf8 := free_blk k8; have lx8 := lt_of_block k8; obtain ⟨A8, c8, hv8, _⟩ := own_row hown8; subst hv8; clear hown8 hg8 k8))
          go_end0
          subst his
          exact goesEnd rfl HR8.out (by simp only [List.length_append, List.length_cons])
        | false =>
          rw [if_neg (by rw [hpl]; decide)] at his
          rw [hpl] at y1
          generalize hARG : mkT arg = ARG at HBR ⊢
          have HARG := Lib.hid hARG
          clear hARG
          go_wp2_with (first
            | ((with_reducible go_at_call 32); (with_reducible refine Calls.mono (HBR.out _) ?_); rintro e w3 ⟨rfl, hb3⟩; have y1 := cell_kept hb3 y1; have y10 := cell_kept hb3 y10; have y11 := cell_kept hb3 y11; have hx := block_kept hx hb3; have zf := free_blk hx; have lx := lt_of_block hx; have HRUN := Lib.hid (HRUN.out.below hb3); clear hb3)
            | (at_builtin; refine wpList_append_any rfl (.tmp 60) (.tmp 62) 25 rfl w0.heap.size 9 ti _ 1 16 Try.underlying25 gi hz0 hz1 hz2 rfl (by decide) _ st'.args.length _ rfl (own_kept HRUN.out.arg ((Below.refl _ _).alloc (Nat.le_refl _) (.cells #[.string ARG] 9))) (some ⟨w3.heap.size, 0, none⟩) 1 1 [.string ARG] rfl (fun h => by cases h) rfl (fun ad e => by cases e; exact World.news_of_block (cs := #[.string ARG]) (t := 9) (fr := (0, 0)) (heap_alloc_new w3 _)) (by simp [Value.oneCell']) (by unfold maxLen; omega) (by omega) (by have := HRUN.out.bel.size; simp; omega) ?_; intro v8 w8 hown8 hg8; have HR8 := Lib.hid (HRUN.out.args (L := [arg]) ((Below.refl _ _).alloc (Nat.le_refl _) (.cells #[.string ARG] 9)) hg8 (by rw [← HARG.out] at hown8; exact hown8)); have hx := block_kept hx ((Below.refl _ _).alloc (Nat.le_refl _) (.cells #[.string ARG] 9)); have HOWA := Lib.hid (own_kept HRUN.out.arg ((Below.refl _ _).alloc (Nat.le_refl _) (.cells #[.string ARG] 9))); have k8 := grown_blk hg8 hx (fun e => own_far3 HOWA.out hx (by decide) e.symm); have y10 : w8.cell? ⟨x, 10, none⟩ = some (.slice Aa st'.args.length aca) := (cell_blk k8 10).trans rfl; have zf8 := free_blk k8; have lx8 := lt_of_block k8; obtain ⟨A8, c8, hv8, _⟩ := own_row hown8; subst hv8; clear hown8 hg8 k8))
          go_roundw
          case rel =>
            exact ⟨rs, { st' with args := st'.args ++ [arg] }, A2, c2, rfl, Lib.hid ⟨run_len HR8.out (by simp), HLE.out, by show st'.given.length + _ ≤ _; omega, by show (st'.args ++ [arg]).length + _ ≤ _; rw [List.length_append, List.length_singleton]; omega, by rw [if_pos (Er.isNo_iff.2 he)]; exact his, fun a ha => hlen a (by simp [ha])⟩⟩
          case measure =>
            simp only [lenV]; omega
      | false =>
        rw [hbr] at HBR
        rw [if_neg (by rw [hbr]; decide)] at his
        rcases bare_shape arg with ⟨e, hb9⟩ | ⟨c5, r5, e, hc45, hb9⟩ | ⟨e, hb9⟩ | ⟨e, hb9⟩ | ⟨t, e, ht, hb9⟩ | ⟨d, t, e, hd, hb9⟩
        · rw [hbr] at hb9; cases hb9
        · rw [hbr] at hb9; cases hb9
        · rw [hbr] at hb9; cases hb9
        · rw [if_pos e] at his
          have hdd : ((mkT arg).toList == [45, 45]) = true := by rw [mkT_toList, e]; rfl
          have HRD := Lib.hid (fun (W : World) (h : RunAt w0 W x S A cap st' (.slice Aa st'.args.length aca) CH true) => h.set (st' := { st' with dash := (st'.args.length : Int) }) 11 (.int .i64 (st'.args.length : Int)) (fun G => rfl) rfl rfl)
          have HNW := Lib.hid (fun (W : World) (hb : Below w0.heap.size w0 W) => ((HLE.out.below hb).news).2)
          clear hb9 hbr
          generalize mkT arg = ARG at HBR hdd ⊢
          go_upto_region 11 with ((with_reducible go_at_call 32); (with_reducible refine Calls.mono (HBR.out _) ?_); rintro e w3 ⟨rfl, hb3⟩; have y1 := cell_kept hb3 y1; have y10 := cell_kept hb3 y10; have y11 := cell_kept hb3 y11; have hx := block_kept hx hb3; have zf := free_blk hx; have lx := lt_of_block hx; have HRUN := Lib.hid (HRUN.out.below hb3); clear hb3)
          have HR7 := Lib.hid (HRD.out _ HRUN.out)
          have hx7 := blk_set hx 11 (.int .i64 (st'.args.length : Int))
          generalize w3.setCell ⟨x, 11, none⟩ (.int .i64 (st'.args.length : Int)) = w7 at HR7 hx7 ⊢
          have y10 : w7.cell? ⟨x, 10, none⟩ = some (.slice Aa st'.args.length aca) := (cell_blk hx7 10).trans rfl
          have zf := free_blk hx7
          have lx := lt_of_block hx7
          go_wp2_with (at_builtin; refine wpList_append_any rfl (.tmp 86) (.tmp 87) 25 rfl w0.heap.size 9 ti _ 1 16 Try.underlying25 gi hz0 hz1 hz2 rfl (by decide) _ st'.args.length _ rfl HR7.out.arg A2 rs.length c2 (aCells rs) rfl (HNW.out _ HR7.out.bel).1 (by rw [aCells_len, Nat.mul_one]) (HNW.out _ HR7.out.bel).2 (by intro u hu; unfold aCells at hu; obtain ⟨t9, _, rfl⟩ := List.mem_map.1 hu; rfl) (by unfold maxLen; omega) (by omega) HR7.out.bel.size ?_; intro v8 w8 hown8 hg8; have HR8 := Lib.hid (HR7.out.args (L := rs) (Below.refl _ _) hg8 hown8); have k8 := grown_blk hg8 hx7 (fun e => own_far3 HR7.out.arg hx7 (by decide) e.symm); have y10 : w8.cell? ⟨x, 10, none⟩ = some (.slice Aa st'.args.length aca) := (cell_blk k8 10).trans rfl; have zf8 := free_blk k8; have lx8 := lt_of_block k8; obtain ⟨A8, c8, hv8, _⟩ := own_row hown8; subst hv8; clear hown8 hg8 k8)
          go_end0
          subst his
          exact goesEnd rfl HR8.out (by simp only [List.length_append])
        · subst e
          rw [if_neg (by intro q; simp only [List.cons.injEq, true_and] at q; exact ht q)] at his
          have h1P : oneP S none st' (45 :: 45 :: t) rs = longP S none st' (45 :: 45 :: t) rs := rfl
          rw [h1P] at his
          simp only [List.length_cons] at hal hcn
          have hdd : ((mkT (45 :: 45 :: t)).toList == [45, 45]) = false := by rw [mkT_toList]; simpa using ht
          obtain ⟨p1, g1⟩ := mkT_get1 (c := 45) (d := 45) (t := t)
          have d1 : (((mkT (45 :: 45 :: t))[1].toNat : Int) == 45) = true := by rw [g1]; rfl
          have y1' : (1 : Int) < ((mkT (45 :: 45 :: t)).size : Int) := by omega
          have hgr := longP_grow S none st' (45 :: 45 :: t) rs
          have har := longP_args S none st' (45 :: 45 :: t) rs
          have HC := Lib.hid (fun (W : World) (h : RunAt w0 W x S A cap st' (.slice Aa st'.args.length aca) CH true) => HLO.out st' _ t rs (.slice A2 rs.length c2) W h he (by omega) HLE.out (by omega) (by omega))
          generalize longP S none st' (45 :: 45 :: t) rs = q at HC his hgr har
          obtain ⟨q1, q2⟩ := q
          simp only at hgr har his
          have hwt := wt_suf hgr.2
          have hle := hgr.2.length_le
          clear hb9 hbr g1 ht
          generalize mkT (45 :: 45 :: t) = ARG at HBR hdd p1 d1 y1' HC ⊢
          go_wp2_with (first | ((with_reducible go_at_call 32); (with_reducible refine Calls.mono (HBR.out _) ?_); rintro e w3 ⟨rfl, hb3⟩; have y1 := cell_kept hb3 y1; have y10 := cell_kept hb3 y10; have y11 := cell_kept hb3 y11; have hx := block_kept hx hb3; have zf := free_blk hx; have lx := lt_of_block hx; have HRUN := Lib.hid (HRUN.out.below hb3); clear hb3) | ((with_reducible go_at_call 20); (with_reducible refine Calls.mono (HC.out _ HRUN.out) ?_); rintro e w4 ⟨v4, rfl, hv4, hr4⟩; have HV4 := Lib.hid hv4; have HR4 := Lib.hid hr4; obtain ⟨A4, c4, hv4e, _⟩ := hv4; subst hv4e; clear hr4))
          go_roundw
          case rel =>
            exact ⟨q2, q1, A4, c4, rfl, Lib.hid ⟨run_len HR4.out (by rw [har]), HV4.out, by omega, by rw [har]; omega, his, fun a ha => hlen a (by simp [hgr.2.subset ha])⟩⟩
          case measure =>
            simp only [lenV]; omega
        · subst e
          rw [if_neg (by intro q; simp only [List.cons.injEq, true_and] at q; exact hd q.1)] at his
          have h1P : oneP S none st' (45 :: d :: t) rs = shortsP S none rs (d :: t) st' rs := by
            unfold oneP
            rw [if_neg (by simpa using hd)]; rfl
          rw [h1P] at his
          simp only [List.length_cons] at hal hcn
          have hdd : ((mkT (45 :: d :: t)).toList == [45, 45]) = false := by rw [mkT_toList]; simp only [beq_eq_false_iff_ne, ne_eq, List.cons.injEq, true_and]; exact fun q => hd q.1
          obtain ⟨p1, g1⟩ := mkT_get1 (c := 45) (d := d) (t := t)
          have d1 : (((mkT (45 :: d :: t))[1].toNat : Int) == 45) = false := nat_beq_false (b := 45) (by rw [g1]; intro e; exact hd (UInt8.toNat_inj.1 e))
          have y1' : (1 : Int) < ((mkT (45 :: d :: t)).size : Int) := by omega
          have hs1 : ∀ W, (Instr.slice 9 (.string (mkT (45 :: d :: t))) (some (.int .i64 1)) none none).run Try.prog W = .ok (.string (mkT (d :: t))) W := fun W => by
            rw [run_slice_string_l (P := Try.prog) W 9 (mkT (45 :: d :: t)) Try.underlying9 .i64 1 (by omega) (by omega)]
            have e : (mkT (45 :: d :: t)).extract (1 : Int).toNat (mkT (45 :: d :: t)).size = mkT (d :: t) := mkT_inj (by rw [ext_tailP, mkT_list, mkT_list]; rfl)
            rw [e]
          have hgr := shortsP_grow S none rs (d :: t) st' rs (List.suffix_refl _)
          have har := shortsP_args S none rs (d :: t) st' rs
          have HC := Lib.hid (fun (W : World) (h : RunAt w0 W x S A cap st' (.slice Aa st'.args.length aca) CH true) => HSH.out st' _ (d :: t) rs (.slice A2 rs.length c2) W h he HLE.out (by omega) (by simp only [List.length_cons]; omega) (by simp only [List.length_cons]; omega))
          generalize shortsP S none rs (d :: t) st' rs = q at HC his hgr har
          obtain ⟨q1, q2⟩ := q
          simp only at hgr har his
          simp only [List.length_cons] at hgr
          have hwt := wt_suf hgr.2
          have hle := hgr.2.length_le
          clear hb9 hbr g1 hd
          generalize mkT (45 :: d :: t) = ARG at HBR hdd p1 d1 y1' hs1 ⊢
          generalize mkT (d :: t) = SHT at hs1 HC
          go_wp2_with (first | ((with_reducible go_at_call 32); (with_reducible refine Calls.mono (HBR.out _) ?_); rintro e w3 ⟨rfl, hb3⟩; have y1 := cell_kept hb3 y1; have y10 := cell_kept hb3 y10; have y11 := cell_kept hb3 y11; have hx := block_kept hx hb3; have zf := free_blk hx; have lx := lt_of_block hx; have HRUN := Lib.hid (HRUN.out.below hb3); clear hb3) | ((with_reducible go_at_call 93); (with_reducible refine Calls.mono (HC.out _ HRUN.out) ?_); rintro e w4 ⟨v4, rfl, hv4, hr4⟩; have HV4 := Lib.hid hv4; have HR4 := Lib.hid hr4; obtain ⟨A4, c4, hv4e, _⟩ := hv4; subst hv4e; clear hr4))
          go_roundw
          case rel =>
            exact ⟨q2, q1, A4, c4, rfl, Lib.hid ⟨run_len HR4.out (by rw [har]), HV4.out, by omega, by rw [har]; omega, his, fun a ha => hlen a (by simp [hgr.2.subset ha])⟩⟩
          case measure =>
            simp only [lenV]; omega
end Go.Proofs.Ytgmhhdpggnmipaa.E
