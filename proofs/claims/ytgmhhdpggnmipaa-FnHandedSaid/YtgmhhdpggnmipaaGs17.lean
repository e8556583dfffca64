/- impl.ParseAll with no values to refuse. Written by gen_gs15.py. -/
import Derived.Test.YtgmhhdpggnmipaaGs15
namespace Go.Proofs.Ytgmhhdpggnmipaa.E
open Go.RowKit Go.Proofs
open Go.Maps (Keyed)
set_option linter.unusedVariables false
set_option linter.unusedSimpArgs false
section
variable {o : Oper} {a : Act} {w : World} {K : Act → World → Prop} {Q : Exit → Act → World → Prop}
theorem ow_makefunc {f : Nat} {x y : Operand} {u v : Value} (ho : o.op = .makeFunc (.func f) #[] #[x, y]) (hx : a.eval x = u) (hy : a.eval y = v) (h : K (a.put o.dst (.func (.func f) #[] #[u, v])) w) : Oper.wp Try.prog o a w K Q := by
  have hmf : ∀ (fn : Fn) (first cap : Array Value) (w : World), (Instr.makeFunc fn first cap).run Try.prog w = .ok (.func fn first cap) w := fun _ _ _ _ => rfl
  unfold Oper.wp
  simp [execOp, ho, hx, hy, hmf]
  first | exact h | (go_simp; exact h)
end
def A1 (Wb F wb nb : Nat) (vr : Value) : Nat → Value → World → Prop
  | 0, v, _ => v = .pointer (some ⟨Wb, 0, none⟩)
  | 1, v, _ => v = .pointer (some ⟨Wb, 0, none⟩)
  | 2, v, _ => v = .pointer (some ⟨Wb, 0, none⟩)
  | 3, v, _ => v = .pointer (some ⟨F, 0, none⟩)
  | 4, v, _ => v = vr
  | 5, v, _ => v = .func (.func 63) #[] #[.pointer (some ⟨wb, 0, none⟩), .pointer (some ⟨nb, 0, none⟩)]
  | _, _, _ => True
theorem A1.below {Wb F wb nb : Nat} {vr : Value} {ix : Nat} (hix : ix < 6) {v : Value} {w w' : World} (h : A1 Wb F wb nb vr ix v w) (hb : Below w.heap.size w w') : A1 Wb F wb nb vr ix v w' := by
  match ix, hix, h with
  | 0, _, h => exact h
  | 1, _, h => exact h
  | 2, _, h => exact h
  | 3, _, h => exact h
  | 4, _, h => exact h
  | 5, _, h => exact h
set_option maxRecDepth 100000 in
set_option maxHeartbeats 3200000 in
theorem aclos_any (S : SetP) (hR : Right S) (A : Option Addr) (cap : Nat) (L : List Txt) (Ar : Option Addr) (cr a b nb d : Nat) (w : World) (hx : StrsAt w Ar (L.map mkT)) (hxc : L.length ≤ cr) (hxm : cr ≤ 9223372036854775807) (hx0 : Ar = none → cr = 0) (hxb : ∀ q, Ar = some q → q.block < w.heap.size) (hwt : wt L ≤ 1099511627776) (hls : ∀ t ∈ L, t.length ≤ 8589934592) (hA : FlagsAt w A S.flags) (hlow : LowBad w A S.flags w.heap.size) (hn : S.flags.length ≤ 17179869184) (hsz : ∀ i (h : i < S.flags.length), (S.flags[i].name).length ≤ 17179869184)
    (ha : w.heap[a]? = some (.cells #[.slice A S.flags.length cap, .bool S.plain, .bool S.unknown, .int .i64 S.fold] 24 (0, 0)))
    (hb : w.heap[b]? = some (.cells #[.slice Ar L.length cr] 25 (0, 0)))
    (hnb : w.heap[nb]? = some (.cells #[.slice none 0 0] 25 (0, 0)))
    (hd : w.heap[d]? = some (.cells #[.int .i64 0, .string ⟨#[]⟩, .string ⟨#[]⟩, .string ⟨#[]⟩, .int .i64 0, .slice none 0 0, .slice none 0 0, .int .i64 0, .slice none 0 0, .bool false, .bool false] 32 (0, 0))) :
    Calls Try.prog 61 #[.pointer (some ⟨a, 0, none⟩), .pointer (some ⟨b, 0, none⟩), .pointer (some ⟨nb, 0, none⟩), .pointer (some ⟨d, 0, none⟩)] w fun e w' => e = .returned (.tuple #[]) ∧ PutEnd w.heap.size d w (psOf (some []) true (goes S (some []) st0 L)) (goes S (some []) st0 L).err S.flags.length w' := by
  have hgn : (goes S (some []) st0 L).given.length ≤ 1099511627776 := by have h9 : _ ≤ ([] : List (Nat × Txt)).length + wt L := (goes_len S (some []) st0 L).1; rw [List.length_nil] at h9; omega
  have hga : (goes S (some []) st0 L).args.length ≤ 1099511627776 := by have h9 : _ ≤ ([] : List Txt).length + L.length := (goes_len S (some []) st0 L).2; have h8 := wt_len L; rw [List.length_nil] at h9; omega
  have hgi : FlagOk S (goes S (some []) st0 L).err := goes_ok
  have a0 : w.cell? ⟨a, 0, none⟩ = some (.slice A S.flags.length cap) := (cell_blk ha 0).trans rfl
  have a1 : w.cell? ⟨a, 1, none⟩ = some (.bool S.plain) := (cell_blk ha 1).trans rfl
  have a2 : w.cell? ⟨a, 2, none⟩ = some (.bool S.unknown) := (cell_blk ha 2).trans rfl
  have a3 : w.cell? ⟨a, 3, none⟩ = some (.int .i64 S.fold) := (cell_blk ha 3).trans rfl
  have HM := Lib.hid (made_any S hR A cap w hA hlow hn hsz)
  have HSZ := Lib.hid hsz
  clear hA hlow hsz
  go_enter Try.func61, Try.ntmps61
  go_upto_region 1 with (go_at_call 48; refine (HM.out).mono ?_; rintro e w1 ⟨C, V, hCS, hCB, rfl, hpm, hbel⟩)
  subst hCS
  have hbx0 : Below w1.heap.size w1 (w1.alloc (.cells #[.pointer (some ⟨C.Wb, 0, none⟩)] 82)) := (Below.refl _ _).alloc (Nat.le_refl _) _
  have hwb := heap_alloc_new w1 (.cells #[.pointer (some ⟨C.Wb, 0, none⟩)] 82)
  have hpm := hpm.below hbx0
  have hbel := below_step hbel hbx0
  generalize w1.heap.size = wb at hwb ⊢
  generalize w1.alloc (.cells #[.pointer (some ⟨C.Wb, 0, none⟩)] 82) = w1 at hwb hpm hbel ⊢
  have hnb1 := block_kept hnb hbel
  have hHA : HandAt C w1 wb nb := ⟨hwb, hnb1, hn⟩
  have w0 : w1.cell? ⟨wb, 0, none⟩ = some (.pointer (some ⟨C.Wb, 0, none⟩)) := (cell_blk hwb 0).trans rfl
  have HR1 : Hid (RestAt C w1 (.slice Ar L.length cr) L) := by
    refine RestAt.below (w := w) ⟨Ar, cr, rfl, hx, hxc, hxm, hx0, ?_⟩ hbel
    rw [hCB]; exact hxb
  have HPA := Lib.hid (fun (W : World) (hb : Below w1.heap.size w1 W) => parseAll_any C hR V false st0 L (.slice Ar L.length cr) W (hpm.below hb) HSZ.out (by show 0 + wt L ≤ _; omega) rfl (HR1.out.below hb) hls wb nb (hHA.below hb))
  have HHA := Lib.hid hHA
  have HHE := Lib.hid (fun (V3 : PV) (E : Value) (W : World) (hp3 : Pm W C V3 (psOf (some []) true (goes C.S (some []) st0 L))) (he3 : ErrAt C W E (goes C.S (some []) st0 L).err) => heard_any C V3 _ _ E W hp3 he3 hgi hn hgn hga)
  have k0 : w1.cell? ⟨C.Wb, 0, none⟩ = some (.pointer (some ⟨C.F, 0, none⟩)) := (cell_blk hpm.hW 0).trans rfl
  have hb1 := block_kept hb hbel
  have kb : w1.cell? ⟨b, 0, none⟩ = some (.slice Ar L.length cr) := (cell_blk hb1 0).trans rfl
  have hd1 := block_kept hd hbel
  have HB1 := Lib.hid hb1
  have HD1 := Lib.hid hd1
  have hlb : b < C.B := by rw [hCB]; exact lt_of_block hb
  have hld : d < C.B := by rw [hCB]; exact lt_of_block hd
  have HPM := Lib.hid hpm
  have HBL := Lib.hid hbel
  have hne2 : b ≠ d := blk_ne hb hd (by simp)
  have hne1 : C.Wb ≠ d := by have := hpm.low.2.2.1; omega
  clear hpm hbel hb hd hb1 hd1 ha hx hxb hgi hls hwb hnb hnb1 hHA hbx0
  have K0 := Lib.hid k0
  have KB := Lib.hid kb
  have W0 := Lib.hid w0
  refine region_inv (by kernel_rfl) (fun u v => Below u.heap.size u v) (A1 C.Wb C.F wb nb (.slice Ar L.length cr)) (fun i => false) (fun i => [8, 9, 10, 11, 12, 13].getD i 0) 6
    (Below.refl _ _) (fun _ _ _ h k => below_step h k) (fun i hi v u u' h hb => A1.below hi h hb) ?_ (hgd_none (by kernel_rfl)) (by kernel_rfl) (by kernel_rfl) (by kernel_rfl) (by kernel_rfl) ?_ ?_
  · intro i hi hA; cases hA
  · intro i hi o ho a u hG hk hd
    have hG9 : Below w1.heap.size w1 u := ((Below.refl _ _).drew).trans hG
    match i, hi with
    | 0, _ =>
        cases ho
        exact ow_load_whole rfl ((hk 4 (by decide)).trans rfl) (cell_kept hG9 W0.out) ⟨_, rfl, rfl, Below.refl _ _, fun h => by cases h⟩
    | 1, _ =>
        cases ho
        have e8 : a.eval (.tmp 8) = _ := hd 0 (by kernel_rfl) (by decide)
        exact ow_nilcheck rfl e8 ⟨_, rfl, rfl, Below.refl _ _, fun h => by cases h⟩
    | 2, _ =>
        cases ho
        have e9 : a.eval (.tmp 9) = _ := hd 1 (by kernel_rfl) (by decide)
        exact ow_field_whole rfl e9 ⟨_, rfl, rfl, Below.refl _ _, fun h => by cases h⟩
    | 3, _ =>
        cases ho
        have e10 : a.eval (.tmp 10) = _ := hd 2 (by kernel_rfl) (by decide)
        exact ow_load_fset rfl e10 (cell_kept hG9 K0.out) ⟨_, rfl, rfl, Below.refl _ _, fun h => by cases h⟩
    | 4, _ =>
        cases ho
        exact ow_load_texts rfl ((hk 1 (by decide)).trans rfl) (cell_kept hG9 KB.out) ⟨_, rfl, rfl, Below.refl _ _, fun h => by cases h⟩
    | 5, _ =>
        cases ho
        exact ow_makefunc rfl ((hk 4 (by decide)).trans rfl) ((hk 2 (by decide)).trans rfl) ⟨_, rfl, rfl, Below.refl _ _, fun h => by cases h⟩
  · intro x u hG hx hdif
    have hG9 : Below w1.heap.size w1 u := ((Below.refl _ _).drew).trans hG
    have e3 : x 3 = .pointer (some ⟨C.F, 0, none⟩) := hx 3 (by decide)
    have e4 : x 4 = .slice Ar L.length cr := hx 4 (by decide)
    have e5 : x 5 = .func (.func 63) #[] #[.pointer (some ⟨wb, 0, none⟩), .pointer (some ⟨nb, 0, none⟩)] := hx 5 (by decide)
    simp only [putAll, Act.put, List.getD_cons_zero, List.getD_cons_succ, List.setIfInBounds_toArray, List.set_cons_succ, List.set_cons_zero]
    refine wpAny_next (i := 6) (by kernel_rfl) rfl rfl ?_
    refine ow_call #[.tmp 11, .tmp 12, .tmp 13] #[87, 25, 92] 62 Try.func62 (by kernel_rfl) (by rfl) rfl #[x 3, x 4, x 5] (by simp [Act.eval]) (by rw [e3, e4, e5]; exact HPA.out u hG9) ?_
    rintro e w3 ⟨E, V3, rfl, hp3, he3, hf3⟩
    refine ⟨_, rfl, ?_⟩
    refine wpAny_last (i := 7) (by kernel_rfl) rfl rfl (by kernel_rfl) ?_
    refine ow_assign rfl rfl ?_
    have hf3 := (Fr.of_below hG9).trans hf3
    have HH3 := HHA.out.fr hf3
    have l4 : w3.cell? ⟨wb, 0, none⟩ = some (.pointer (some ⟨C.Wb, 0, none⟩)) := (cell_blk HH3.1 0).trans rfl
    have l0 : w3.cell? ⟨C.Wb, 0, none⟩ = some (.pointer (some ⟨C.F, 0, none⟩)) := (cell_blk hp3.hW 0).trans rfl
    have l1 : w3.cell? ⟨b, 0, none⟩ = some (.slice Ar L.length cr) := (cell_blk (hf3.low_of hlb HB1.out) 0).trans rfl
    have hd3 := hf3.low_of hld HD1.out
    have HD3 := Lib.hid hd3
    have HP3 := Lib.hid hp3
    have HE3 := Lib.hid he3
    have HF3 := Lib.hid hf3
    clear hp3 he3 hf3 hd3 HH3 e3 e4 e5 hdif hx hG hG9
    go_wp2_with ((with_reducible go_at_call 51); refine Calls.mono (HHE.out V3 E w3 HP3.out HE3.out) ?_; rintro e w4 ⟨v4, rfl, hv4, hb4⟩; obtain ⟨GA, gc, AA, ac, CA, cc, rfl, o1, o2, o3⟩ := hv4; have m0 := cell_kept hb4 l0; have m1 := cell_kept hb4 l1; have hd4 := block_kept HD3.out hb4; have z4 := free_blk hd4; have l4 := lt_of_block hd4; have n0 : w4.cell? ⟨d, 0, none⟩ = some (.int .i64 0) := (cell_blk hd4 0).trans rfl; have n1 : w4.cell? ⟨d, 1, none⟩ = some (.string ⟨#[]⟩) := (cell_blk hd4 1).trans rfl; have n2 : w4.cell? ⟨d, 2, none⟩ = some (.string ⟨#[]⟩) := (cell_blk hd4 2).trans rfl; have n3 : w4.cell? ⟨d, 3, none⟩ = some (.string ⟨#[]⟩) := (cell_blk hd4 3).trans rfl; have n4 : w4.cell? ⟨d, 4, none⟩ = some (.int .i64 0) := (cell_blk hd4 4).trans rfl; have n5 : w4.cell? ⟨d, 5, none⟩ = some (.slice none 0 0) := (cell_blk hd4 5).trans rfl; have n6 : w4.cell? ⟨d, 6, none⟩ = some (.slice none 0 0) := (cell_blk hd4 6).trans rfl; have n7 : w4.cell? ⟨d, 7, none⟩ = some (.int .i64 0) := (cell_blk hd4 7).trans rfl; have n8 : w4.cell? ⟨d, 8, none⟩ = some (.slice none 0 0) := (cell_blk hd4 8).trans rfl; have n9 : w4.cell? ⟨d, 9, none⟩ = some (.bool false) := (cell_blk hd4 9).trans rfl; have n10 : w4.cell? ⟨d, 10, none⟩ = some (.bool false) := (cell_blk hd4 10).trans rfl; have HD4 := Lib.hid hd4; have HO := Lib.hid (And.intro o1 (And.intro o2 o3)); have HB4 := Lib.hid hb4; clear hd4 o1 o2 o3 hb4)
    go_end0
    refine ⟨rfl, ?_⟩
    exact PutEnd.of HD4.out HO.out (Nat.le_trans HBL.out.size HF3.out.size) (below_fr hCB HBL.out HF3.out HB4.out)

set_option maxRecDepth 100000 in
/-- impl.guarded over the closure of pub-ensign/impl.ParseAll$1, where nothing panics. -/
theorem guarded_all (ca : Array Value) (X : Nat → Prop) (R : World → Prop) (w : World) (hX : ¬ X w.heap.size)
    (H0 : Calls Try.prog 61 ca (w.alloc (.cells #[.bool false] 4)) fun e w' => e = .returned (.tuple #[]) ∧ Ch (w.alloc (.cells #[.bool false] 4)) w' X ∧ R w') :
    Calls Try.prog 46 #[.func (.func 61) #[] ca] w fun e w' => e = .returned (.bool false) ∧ ∃ w1, Ch (w.alloc (.cells #[.bool false] 4)) w1 X ∧ R w1 ∧ w' = w1.setCell ⟨w.heap.size, 0, none⟩ (.bool false) := by
  have hmf : ∀ (fn : Fn) (first cap : Array Value) (w : World), (Instr.makeFunc fn first cap).run Try.prog w = .ok (.func fn first cap) w := fun _ _ _ _ => rfl
  have H := Lib.hid H0
  clear H0
  go_enter_defers Try.func46, Try.ntmps46
  go_wp2_with (go_at_call 61; refine (H.out).mono ?_; rintro e w1 ⟨rfl, hb1, hr1⟩; have hk1 : w1.heap[w.heap.size]? = some (.cells #[.bool false] 4 (0, 0)) := (hb1.block w.heap.size (by simp) hX).trans (heap_alloc_new w _); have hk3 := cell_of_one hk1; have hk4 := free_of_one hk1; have HR := Lib.hid (And.intro hb1 hr1); clear hb1 hr1)
  refine leaves_cons (f := 70) (args := #[.pointer (some ⟨w.heap.size, 0, none⟩)]) (by simp) (by simp [go_sem]) ?_
  refine (catch_idle ⟨w.heap.size, 0, none⟩ _).mono ?_
  rintro e u' w'' ⟨rfl, rfl, rfl⟩
  have hk5 : (w1.setCell ⟨w.heap.size, 0, none⟩ (.bool false)).cell? ⟨w.heap.size, 0, none⟩ = some (.bool false) := cell_of_one (one_setCell hk1)
  simp [Leaves, settle, results, Try.results46, go_sem, hk5]
  exact ⟨w1, HR.out.1, HR.out.2, rfl⟩

theorem hear_after {w W4 w1 : World} {r d B : Nat} {s : PS} {er : Er} {n : Nat} {GA AA CA : Option Addr} {gc ac cc : Nat} (hrd : r ≠ d) (hdW : d < W4.heap.size) (hrB : w.heap.size ≤ r) (hdB : w.heap.size ≤ d) (hB : w.heap.size ≤ B) (hb : Below w.heap.size w W4) (q3 : W4.heap[r]? = some (.cells hdZero 32 (0, 0)))
    (hch : Ch (W4.alloc (.cells #[.bool false] 4)) w1 (fun b => b = d))
    (h1 : w1.heap[d]? = some (.cells (hdCells s er n (.slice GA s.G.length gc) (.slice AA s.A.length ac) (.slice CA (chL s.chg n).length cc)) 32 (0, 0)))
    (h2 : HdRows B w1 s n (.slice GA s.G.length gc) (.slice AA s.A.length ac) (.slice CA (chL s.chg n).length cc)) :
    (w1.setCell ⟨W4.heap.size, 0, none⟩ (.bool false)).heap[r]? = some (.cells hdZero 32 (0, 0)) ∧
    (w1.setCell ⟨W4.heap.size, 0, none⟩ (.bool false)).heap[d]? = some (.cells (hdCells s er n (.slice GA s.G.length gc) (.slice AA s.A.length ac) (.slice CA (chL s.chg n).length cc)) 32 (0, 0)) ∧
    HdRows w.heap.size (w1.setCell ⟨W4.heap.size, 0, none⟩ (.bool false)) s n (.slice GA s.G.length gc) (.slice AA s.A.length ac) (.slice CA (chL s.chg n).length cc) ∧
    Below w.heap.size w (w1.setCell ⟨W4.heap.size, 0, none⟩ (.bool false)) := by
  have hl : W4.heap.size < (W4.alloc (.cells #[.bool false] 4)).heap.size := by simp
  have hlr := lt_of_block q3
  have hbx : w1.heap[W4.heap.size]? = some (.cells #[.bool false] 4 (0, 0)) := (hch.block W4.heap.size hl (by omega)).trans (heap_alloc_new W4 _)
  have h45 : Below W4.heap.size W4 (W4.alloc (.cells #[.bool false] 4)) := (Below.refl _ _).alloc (Nat.le_refl _) _
  refine ⟨?_, ?_, ?_, ?_⟩
  · rw [blk_other (show r ≠ W4.heap.size by omega), hch.block _ (by omega) (by omega)]
    exact block_kept q3 h45
  · rw [blk_other (show d ≠ W4.heap.size by omega)]; exact h1
  · exact (h2.mono hB).blk W4.heap.size hbx (by decide) (by decide) (by decide) (fun b _ ne => blk_other ne)
  · refine Below.setCell (p := ⟨W4.heap.size, 0, none⟩) ?_ (by show w.heap.size ≤ W4.heap.size; omega) _
    exact below_ch (hb.trans (h45.mono (by omega))) hch (fun b hlt => by omega)
theorem five_at (w : World) (o1 o2 o3 o4 o5 : Obj) : (((((w.alloc o1).alloc o2).alloc o3).alloc o4).alloc o5).heap[w.heap.size]? = some o1 ∧ (((((w.alloc o1).alloc o2).alloc o3).alloc o4).alloc o5).heap[w.heap.size + 1]? = some o2 ∧ (((((w.alloc o1).alloc o2).alloc o3).alloc o4).alloc o5).heap[w.heap.size + 1 + 1]? = some o3 ∧ (((((w.alloc o1).alloc o2).alloc o3).alloc o4).alloc o5).heap[w.heap.size + 1 + 1 + 1]? = some o4 ∧ (((((w.alloc o1).alloc o2).alloc o3).alloc o4).alloc o5).heap[w.heap.size + 1 + 1 + 1 + 1]? = some o5 := by
  obtain ⟨h1, h2, h3, h4⟩ := four_at w o1 o2 o3 o4
  have s4 : ((((w.alloc o1).alloc o2).alloc o3).alloc o4).heap.size = w.heap.size + 1 + 1 + 1 + 1 := by simp
  have hk : Below ((((w.alloc o1).alloc o2).alloc o3).alloc o4).heap.size ((((w.alloc o1).alloc o2).alloc o3).alloc o4) (((((w.alloc o1).alloc o2).alloc o3).alloc o4).alloc o5) := (Below.refl _ _).alloc (Nat.le_refl _) _
  exact ⟨block_kept h1 hk, block_kept h2 hk, block_kept h3 hk, block_kept h4 hk, by rw [← s4]; exact heap_alloc_new _ o5⟩
set_option maxRecDepth 100000 in
set_option maxHeartbeats 3200000 in
theorem implParseAll_any (S : SetP) (hR : Right S) (A : Option Addr) (cap : Nat) (L : List Txt) (Ar : Option Addr) (cr : Nat) (w : World) (hx : StrsAt w Ar (L.map mkT)) (hxc : L.length ≤ cr) (hxm : cr ≤ 9223372036854775807) (hx0 : Ar = none → cr = 0) (hxb : ∀ q, Ar = some q → q.block < w.heap.size) (hwt : wt L ≤ 1099511627776) (hls : ∀ t ∈ L, t.length ≤ 8589934592) (hA : FlagsAt w A S.flags) (hlow : LowBad w A S.flags w.heap.size) (hn : S.flags.length ≤ 17179869184) (hsz : ∀ i (h : i < S.flags.length), (S.flags[i].name).length ≤ 17179869184) :
    Calls Try.prog 39 #[.agg #[.slice A S.flags.length cap, .bool S.plain, .bool S.unknown, .int .i64 S.fold], .slice Ar L.length cr, .slice none 0 0] w (HearEnd w (psOf (some []) true (goes S (some []) st0 L)) (goes S (some []) st0 L).err S.flags.length) := by
  have hmf : ∀ (fn : Fn) (first cap : Array Value) (w : World), (Instr.makeFunc fn first cap).run Try.prog w = .ok (.func fn first cap) w := fun _ _ _ _ => rfl
  obtain ⟨q1, q2, qn, q3, q4⟩ := five_at w (.cells #[.slice A S.flags.length cap, .bool S.plain, .bool S.unknown, .int .i64 S.fold] 24) (.cells #[.slice Ar L.length cr] 25) (.cells #[.slice none 0 0] 25) (.cells hdZero 32) (.cells hdZero 32)
  generalize hW4 : (((((w.alloc (.cells #[.slice A S.flags.length cap, .bool S.plain, .bool S.unknown, .int .i64 S.fold] 24)).alloc (.cells #[.slice Ar L.length cr] 25)).alloc (.cells #[.slice none 0 0] 25)).alloc (.cells hdZero 32)).alloc (.cells hdZero 32)) = W4 at q1 q2 qn q3 q4
  have hs4 : W4.heap.size = w.heap.size + 1 + 1 + 1 + 1 + 1 := by rw [← hW4]; simp
  have hb4 : Below w.heap.size w W4 := by rw [← hW4]; exact ((((Below.refl _ w).alloc (Nat.le_refl _) _).alloc (by simp) _).alloc (by simp; omega) _ |>.alloc (by simp; omega) _).alloc (by simp; omega) _
  have h45 : Below W4.heap.size W4 (W4.alloc (.cells #[.bool false] 4)) := (Below.refl _ _).alloc (Nat.le_refl _) _
  have hb5 : Below w.heap.size w (W4.alloc (.cells #[.bool false] 4)) := hb4.trans (h45.mono hb4.size)
  have hpc := aclos_any S hR A cap L Ar cr w.heap.size (w.heap.size + 1) (w.heap.size + 1 + 1) (w.heap.size + 1 + 1 + 1 + 1) (W4.alloc (.cells #[.bool false] 4)) (strsAt_below hx hb5) hxc hxm hx0 (fun q hq => Nat.lt_of_lt_of_le (hxb q hq) hb5.size) hwt hls (hA.below hb5) ((hlow.below hA hb5).mono hb5.size) hn hsz (block_kept q1 h45) (block_kept q2 h45) (block_kept qn h45) (block_kept q4 h45)
  have hgu := guarded_all #[.pointer (some ⟨w.heap.size, 0, none⟩), .pointer (some ⟨w.heap.size + 1, 0, none⟩), .pointer (some ⟨w.heap.size + 1 + 1, 0, none⟩), .pointer (some ⟨w.heap.size + 1 + 1 + 1 + 1, 0, none⟩)] (fun b => b = w.heap.size + 1 + 1 + 1 + 1)
    (fun w1 => ∃ GA gc AA ac CA cc, w1.heap[w.heap.size + 1 + 1 + 1 + 1]? = some (.cells (hdCells (psOf (some []) true (goes S (some []) st0 L)) (goes S (some []) st0 L).err S.flags.length (.slice GA (psOf (some []) true (goes S (some []) st0 L)).G.length gc) (.slice AA (psOf (some []) true (goes S (some []) st0 L)).A.length ac) (.slice CA (chL (psOf (some []) true (goes S (some []) st0 L)).chg S.flags.length).length cc)) 32 (0, 0)) ∧
      HdRows (w.heap.size + 1 + 1 + 1 + 1 + 1) w1 (psOf (some []) true (goes S (some []) st0 L)) S.flags.length (.slice GA (psOf (some []) true (goes S (some []) st0 L)).G.length gc) (.slice AA (psOf (some []) true (goes S (some []) st0 L)).A.length ac) (.slice CA (chL (psOf (some []) true (goes S (some []) st0 L)).chg S.flags.length).length cc)) W4 (by rw [hs4]; omega)
    (hpc.mono fun e w' ⟨he, GA, gc, AA, ac, CA, cc, h1, h2, h3⟩ => ⟨he, h3, GA, gc, AA, ac, CA, cc, h1, h2.mono (by simp [hs4])⟩)
  have HG := Lib.hid hgu
  have HB4 := Lib.hid hb4
  have HS4 := Lib.hid hs4
  have HQ3 := Lib.hid q3
  generalize (goes S (some []) st0 L).err = er at HG ⊢
  generalize psOf (some []) true (goes S (some []) st0 L) = s at HG ⊢
  unfold hdZero at hW4
  clear hgu hpc hb5 h45 hb4 q1 q2 qn q3 q4 hx hxc hxm hx0 hxb hwt hls hA hlow hn hsz hR hs4
  go_enter Try.func39, Try.ntmps39
  go_wp2_with (go_at_call 46; (first | rw [hW4] | skip); refine (HG.out).mono ?_; rintro e w2 ⟨rfl, w1, hch, ⟨GA, gc, AA, ac, CA, cc, h1, h2⟩, rfl⟩; obtain ⟨t1, t2, t3, t4⟩ := hear_after (r := w.heap.size + 1 + 1 + 1) (d := w.heap.size + 1 + 1 + 1 + 1) (B := w.heap.size + 1 + 1 + 1 + 1 + 1) (by omega) (by rw [HS4.out]; omega) (by omega) (by omega) (by omega) HB4.out HQ3.out hch h1 h2; clear hch h1 h2; generalize (w1.setCell ⟨W4.heap.size, 0, none⟩ (.bool false)) = w2 at t1 t2 t3 t4 ⊢; obtain ⟨c0, c1, c2, c3, c4, c5, c6, c7, c8, c9, c10⟩ := hd_reads t2; obtain ⟨z0, z1, z2, z3, z4, z5, z6, z7, z8, z9, z10⟩ := hd_zeros t1; have zf := free_blk t1; have zl := lt_of_block t1; have H1 := Lib.hid t1; have H3 := Lib.hid t3; have H4 := Lib.hid t4; clear t1 t2 t3 t4)
  refine bodyPost_ret (results_cell_row rfl _ _ (w.heap.size + 1 + 1 + 1) 32 (hdCells s er S.flags.length (.slice GA s.G.length gc) (.slice AA s.A.length ac) (.slice CA (chL s.chg S.flags.length).length cc)) (0, 0) _ rfl (hdPut_blk s er S.flags.length _ _ _ H1.out) Try.underlying32 rfl (by kernel_rfl)) rfl ⟨GA, gc, AA, ac, CA, cc, rfl, H3.out.blk (w.heap.size + 1 + 1 + 1) H1.out (by decide) (by decide) (by decide) (fun b _ ne => hdPut_other s er _ _ _ ne), hdPut_below s er _ _ _ H4.out (by omega)⟩
end Go.Proofs.Ytgmhhdpggnmipaa.E
