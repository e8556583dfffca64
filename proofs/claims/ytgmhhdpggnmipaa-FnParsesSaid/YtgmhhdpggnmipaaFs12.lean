/- bare's parsing of shorthands, over this seat's program. Written by gen_fs12.py. -/
import Derived.Test.YtgmhhdpggnmipaaFs11
import Derived.OwnWalk
namespace Go.Proofs.Ytgmhhdpggnmipaa.E
open Go.RowKit Go.Proofs
open Go.Maps (Keyed)
set_option linter.unusedVariables false
set_option linter.unusedSimpArgs false

theorem shFs_all {S : SetP} (hR : Right S) {FL : List Nat} (h : FL.length = S.flags.length) (c : UInt8) : shFs S FL c = (lettered S c).map fun i => FL.getD i 0 := by
  unfold shFs lettered
  rw [h, List.take_length]
  have e : ∀ (L : List FlagP), (∀ f ∈ L, f.short = [] ∨ ∃ d, f.short = [d] ∧ letterB d = true) → L.findIdx? (fun f => decide (f.short = [c])) = L.findIdx? (fun f => decide (f.short.head? = some c)) := by
    intro L hL
    induction L with
    | nil => rfl
    | cons f r ih =>
      have e1 : decide (f.short = [c]) = decide (f.short.head? = some c) := by
        rcases hL f (by simp) with h | ⟨d, h, _⟩ <;> rw [h] <;> simp
      rw [List.findIdx?_cons, List.findIdx?_cons, ih (fun g hg => hL g (by simp [hg])), e1]
  rw [e _ hR.short]
theorem rune_mk (c : UInt8) : Utf8.encode (c.toNat : Int) = mkT (runeT c) := by
  refine mkT_inj ?_
  rw [mkT_list]
  have hv : Utf8.valid (c.toNat : Int) = true := by
    have := c.toNat_lt
    unfold Utf8.valid; simp; omega
  have hc := c.toNat_lt
  unfold Utf8.encode runeT
  simp only [hv, if_true, Int.toNat_natCast]
  by_cases h : c.toNat < 128
  · simp [h]
  · have h2 : c.toNat < 2048 := by omega
    simp [h, h2]
/-- What a step over a letter leaves. -/
def ShortEnd (m : Option (List Txt)) (C : PC) (parsed : Bool) (q : St × Txt × List Txt) (w : World) (e : Ending) (w' : World) : Prop :=
  ∃ E V v', e = .returned (.tuple #[.string (mkT q.2.1), v', E]) ∧ Pm w' C V (psOf m parsed q.1) ∧ ErrAt C w' E q.1.err ∧ Fr C w w' ∧ RestAt C w' v' q.2.2
theorem mkT_get1 {c d : UInt8} {t : Txt} : ∃ h1 : 1 < (mkT (c :: d :: t)).size, (mkT (c :: d :: t))[1] = d := by
  have h0 : 1 < (mkT (c :: d :: t)).size := by rw [mkT_size]; simp
  refine ⟨h0, ?_⟩
  rw [bget h0]; simp [mkT_list]

set_option maxRecDepth 100000 in
set_option maxHeartbeats 3200000 in
theorem short_testP (C : PC) (hR : Right C.S) (V : PV) (parsed : Bool) (st : St) (c : UInt8) (more : Txt) (rest : List Txt) (vr : Value) (w : World) (hp : Pm w C V (psOf none parsed st)) (hsz : ∀ i (h : i < C.S.flags.length), (C.S.flags[i].name).length ≤ 17179869184) (hG : st.given.length ≤ 1099511627776) (he : st.err = .no) (hr : RestAt C w vr rest) (ht : more.length ≤ 8589934592) (hrs : ∀ a ∈ rest, a.length ≤ 17179869184) (bb : Nat) (hbb : w.heap[bb]? = some (.cells #[.pointer (some ⟨C.F, 0, none⟩)] 87 (0, 0)))
    (h5 : (c :: more).take 5 = testT) :
    Calls Try.prog 105 #[.pointer (some ⟨C.F, 0, none⟩), .string (mkT (c :: more)), vr, (.func (.func 91) #[] #[.pointer (some ⟨bb, 0, none⟩)])] w (ShortEnd none C parsed (st, [], rest) w) := by
  have has : (mkT (c :: more)).size = more.length + 1 := by rw [mkT_size]; simp
  have hA2 : (1 : Int) ≤ ((mkT (c :: more)).size : Int) := by omega
  have hA3 : ((mkT (c :: more)).size : Int) ≤ 17179869184 := by omega
  have hsl : ∀ W, (Instr.slice 9 (.string (mkT (c :: more))) (some (.int .i64 1)) none none).run Try.prog W = .ok (.string (mkT more)) W := fun W => by
    rw [run_slice_string_l (P := Try.prog) W 9 (mkT (c :: more)) Try.underlying9 .i64 1 (by omega) (by omega)]
    have e : (mkT (c :: more)).extract (1 : Int).toNat (mkT (c :: more)).size = mkT more := mkT_inj (by rw [ext_tailP, mkT_list, mkT_list]; rfl)
    rw [e]
  have HT := Lib.hid (fun W => isTest_any (mkT (c :: more)) (by omega) W)
  have HP := Lib.hid hp
  have HRR := Lib.hid hr
  have hTv : isTest (mkT (c :: more)) = decide ((c :: more).take 5 = testT) := by unfold isTest; rw [mkT_list]
  have hTv : isTest (mkT (c :: more)) = true := by rw [hTv]; exact decide_eq_true h5
  rw [hTv] at HT
  have HEE := Lib.hid he
  clear hp hr hrs hsz hG he hR ht has hbb h5 hTv
  generalize mkT (c :: more) = TX at hsl hA2 hA3 HT ⊢
  go_enter Try.func105, Try.ntmps105
  go_wp2_with (go_at_call 117; refine (HT.out w).mono ?_; rintro e w1 ⟨rfl, rfl⟩)
  go_ret3
  exact ⟨_, V, vr, rfl, HP.out, (by have h := HEE.out; show ErrAt C _ _ st.err; rw [h]; rfl), Fr.refl _ _, HRR.out⟩

set_option maxRecDepth 100000 in
set_option maxHeartbeats 3200000 in
theorem short_helpP (C : PC) (hR : Right C.S) (V : PV) (parsed : Bool) (st : St) (c : UInt8) (more : Txt) (rest : List Txt) (vr : Value) (w : World) (hp : Pm w C V (psOf none parsed st)) (hsz : ∀ i (h : i < C.S.flags.length), (C.S.flags[i].name).length ≤ 17179869184) (hG : st.given.length ≤ 1099511627776) (he : st.err = .no) (hr : RestAt C w vr rest) (ht : more.length ≤ 8589934592) (hrs : ∀ a ∈ rest, a.length ≤ 17179869184) (bb : Nat) (hbb : w.heap[bb]? = some (.cells #[.pointer (some ⟨C.F, 0, none⟩)] 87 (0, 0)))
    (h5 : ¬ (c :: more).take 5 = testT) (hnm : lettered C.S c = none) (hc : c = 104) :
    Calls Try.prog 105 #[.pointer (some ⟨C.F, 0, none⟩), .string (mkT (c :: more)), vr, (.func (.func 91) #[] #[.pointer (some ⟨bb, 0, none⟩)])] w (ShortEnd none C parsed ({ st with err := .help }, more, rest) w) := by
  have has : (mkT (c :: more)).size = more.length + 1 := by rw [mkT_size]; simp
  have hA2 : (1 : Int) ≤ ((mkT (c :: more)).size : Int) := by omega
  have hA3 : ((mkT (c :: more)).size : Int) ≤ 17179869184 := by omega
  have hsl : ∀ W, (Instr.slice 9 (.string (mkT (c :: more))) (some (.int .i64 1)) none none).run Try.prog W = .ok (.string (mkT more)) W := fun W => by
    rw [run_slice_string_l (P := Try.prog) W 9 (mkT (c :: more)) Try.underlying9 .i64 1 (by omega) (by omega)]
    have e : (mkT (c :: more)).extract (1 : Int).toNat (mkT (c :: more)).size = mkT more := mkT_inj (by rw [ext_tailP, mkT_list, mkT_list]; rfl)
    rw [e]
  have HT := Lib.hid (fun W => isTest_any (mkT (c :: more)) (by omega) W)
  have HP := Lib.hid hp
  have HRR := Lib.hid hr
  have hTv : isTest (mkT (c :: more)) = decide ((c :: more).take 5 = testT) := by unfold isTest; rw [mkT_list]
  have hTv : isTest (mkT (c :: more)) = false := by rw [hTv]; exact decide_eq_false h5
  rw [hTv] at HT
  obtain ⟨p0, g0⟩ := mkT_get (l := c :: more) rfl
  have z1 : (((mkT (c :: more)).size : Int) == 0) = false := by simp only [beq_eq_false_iff_ne]; omega
  have HRU := rune_mk c
  have HLK : (Instr.lookup 129 (.map V.smo) (.int .u8 (c.toNat : Int)) true).run Try.prog w = .ok (lookR ((none).map fun i => C.FL.getD i 0)) w := by
    obtain ⟨n1, hm1⟩ := hp.sm
    have hl := hm1.look Try.kB Try.underlying129 (Try.zP w) (key_byte c)
    rw [shFs_all hR hp.len, hnm] at hl
    exact hl
  simp only [Option.map_none, Option.map_some, lookR] at HLK
  have f11 : w.cell? ⟨C.F, 11, none⟩ = some (.map V.smo) := (cell_blk hp.hF 11).trans rfl
  have f1 : w.cell? ⟨C.F, 1, none⟩ = some (.bool C.S.unknown) := (cell_blk hp.hF 1).trans rfl
  have f2 : w.cell? ⟨C.F, 2, none⟩ = some (.bool false) := (cell_blk hp.hF 2).trans rfl
  have ch : ((c.toNat : Int) == 104) = true := by rw [hc]; rfl
  clear hp hr hrs hsz hG hR ht has hbb h5 hTv hnm
  clear hc
  generalize hTXV : mkT (c :: more) = TX at hsl hA2 hA3 HT p0 z1 g0  ⊢
  go_enter Try.func105, Try.ntmps105
  go_upto_region 3 with (go_at_call 117; refine (HT.out w).mono ?_; rintro e w1 ⟨rfl, rfl⟩)
  go_wp2
  go_ret3
  exact ⟨_, V, vr, rfl, HP.out, rfl, Fr.refl _ _, HRR.out⟩

set_option maxRecDepth 100000 in
set_option maxHeartbeats 3200000 in
theorem short_notP (C : PC) (hR : Right C.S) (V : PV) (parsed : Bool) (st : St) (c : UInt8) (more : Txt) (rest : List Txt) (vr : Value) (w : World) (hp : Pm w C V (psOf none parsed st)) (hsz : ∀ i (h : i < C.S.flags.length), (C.S.flags[i].name).length ≤ 17179869184) (hG : st.given.length ≤ 1099511627776) (he : st.err = .no) (hr : RestAt C w vr rest) (ht : more.length ≤ 8589934592) (hrs : ∀ a ∈ rest, a.length ≤ 17179869184) (bb : Nat) (hbb : w.heap[bb]? = some (.cells #[.pointer (some ⟨C.F, 0, none⟩)] 87 (0, 0)))
    (h5 : ¬ (c :: more).take 5 = testT) (hnm : lettered C.S c = none) (hc : ¬ c = 104) (hu : C.S.unknown = false) :
    Calls Try.prog 105 #[.pointer (some ⟨C.F, 0, none⟩), .string (mkT (c :: more)), vr, (.func (.func 91) #[] #[.pointer (some ⟨bb, 0, none⟩)])] w (ShortEnd none C parsed ({ st with err := .notExist (runeT c) (c :: more) }, more, rest) w) := by
  have has : (mkT (c :: more)).size = more.length + 1 := by rw [mkT_size]; simp
  have hA2 : (1 : Int) ≤ ((mkT (c :: more)).size : Int) := by omega
  have hA3 : ((mkT (c :: more)).size : Int) ≤ 17179869184 := by omega
  have hsl : ∀ W, (Instr.slice 9 (.string (mkT (c :: more))) (some (.int .i64 1)) none none).run Try.prog W = .ok (.string (mkT more)) W := fun W => by
    rw [run_slice_string_l (P := Try.prog) W 9 (mkT (c :: more)) Try.underlying9 .i64 1 (by omega) (by omega)]
    have e : (mkT (c :: more)).extract (1 : Int).toNat (mkT (c :: more)).size = mkT more := mkT_inj (by rw [ext_tailP, mkT_list, mkT_list]; rfl)
    rw [e]
  have HT := Lib.hid (fun W => isTest_any (mkT (c :: more)) (by omega) W)
  have HP := Lib.hid hp
  have HRR := Lib.hid hr
  have hTv : isTest (mkT (c :: more)) = decide ((c :: more).take 5 = testT) := by unfold isTest; rw [mkT_list]
  have hTv : isTest (mkT (c :: more)) = false := by rw [hTv]; exact decide_eq_false h5
  rw [hTv] at HT
  obtain ⟨p0, g0⟩ := mkT_get (l := c :: more) rfl
  have z1 : (((mkT (c :: more)).size : Int) == 0) = false := by simp only [beq_eq_false_iff_ne]; omega
  have HRU := rune_mk c
  have HLK : (Instr.lookup 129 (.map V.smo) (.int .u8 (c.toNat : Int)) true).run Try.prog w = .ok (lookR ((none).map fun i => C.FL.getD i 0)) w := by
    obtain ⟨n1, hm1⟩ := hp.sm
    have hl := hm1.look Try.kB Try.underlying129 (Try.zP w) (key_byte c)
    rw [shFs_all hR hp.len, hnm] at hl
    exact hl
  simp only [Option.map_none, Option.map_some, lookR] at HLK
  have f11 : w.cell? ⟨C.F, 11, none⟩ = some (.map V.smo) := (cell_blk hp.hF 11).trans rfl
  have f1 : w.cell? ⟨C.F, 1, none⟩ = some (.bool C.S.unknown) := (cell_blk hp.hF 1).trans rfl
  have f2 : w.cell? ⟨C.F, 2, none⟩ = some (.bool false) := (cell_blk hp.hF 2).trans rfl
  have ch : ((c.toNat : Int) == 104) = false := nat_beq_false (b := 104) (by intro e; exact hc (UInt8.toNat_inj.1 e))
  clear hp hr hrs hsz hG hR ht has hbb h5 hTv hnm
  clear hc
  rw [hu] at f1
  have HRV := Lib.hid HRU
  generalize hTXV : mkT (c :: more) = TX at hsl hA2 hA3 HT p0 z1 g0  ⊢
  go_enter Try.func105, Try.ntmps105
  go_upto_region 3 with (go_at_call 117; refine (HT.out w).mono ?_; rintro e w1 ⟨rfl, rfl⟩)
  go_wp2
  go_ret3
  exact ⟨_, V, vr, rfl, HP.out.below ((Below.refl _ _).alloc (Nat.le_refl _) _), ⟨_, _, rfl, by rw [hTXV, ← HRV.out]; exact heap_alloc_new _ _⟩, (Fr.of_below ((Below.refl _ _).alloc (Nat.le_refl _) _)), HRR.out.below ((Below.refl _ _).alloc (Nat.le_refl _) _)⟩

set_option maxRecDepth 100000 in
set_option maxHeartbeats 3200000 in
theorem short_ownP (C : PC) (hR : Right C.S) (V : PV) (parsed : Bool) (st : St) (c : UInt8) (more : Txt) (rest : List Txt) (vr : Value) (w : World) (hp : Pm w C V (psOf none parsed st)) (hsz : ∀ i (h : i < C.S.flags.length), (C.S.flags[i].name).length ≤ 17179869184) (hG : st.given.length ≤ 1099511627776) (he : st.err = .no) (hr : RestAt C w vr rest) (ht : more.length ≤ 8589934592) (hrs : ∀ a ∈ rest, a.length ≤ 17179869184) (bb : Nat) (hbb : w.heap[bb]? = some (.cells #[.pointer (some ⟨C.F, 0, none⟩)] 87 (0, 0)))
    (h5 : ¬ (c :: more).take 5 = testT) (hnm : lettered C.S c = none) (hc : ¬ c = 104) (hu : C.S.unknown = true) (hown : ∃ d tt, more = d :: tt ∧ d = 61 ∧ tt ≠ []) :
    Calls Try.prog 105 #[.pointer (some ⟨C.F, 0, none⟩), .string (mkT (c :: more)), vr, (.func (.func 91) #[] #[.pointer (some ⟨bb, 0, none⟩)])] w (ShortEnd none C parsed (st, [], rest) w) := by
  have has : (mkT (c :: more)).size = more.length + 1 := by rw [mkT_size]; simp
  have hA2 : (1 : Int) ≤ ((mkT (c :: more)).size : Int) := by omega
  have hA3 : ((mkT (c :: more)).size : Int) ≤ 17179869184 := by omega
  have hsl : ∀ W, (Instr.slice 9 (.string (mkT (c :: more))) (some (.int .i64 1)) none none).run Try.prog W = .ok (.string (mkT more)) W := fun W => by
    rw [run_slice_string_l (P := Try.prog) W 9 (mkT (c :: more)) Try.underlying9 .i64 1 (by omega) (by omega)]
    have e : (mkT (c :: more)).extract (1 : Int).toNat (mkT (c :: more)).size = mkT more := mkT_inj (by rw [ext_tailP, mkT_list, mkT_list]; rfl)
    rw [e]
  have HT := Lib.hid (fun W => isTest_any (mkT (c :: more)) (by omega) W)
  have HP := Lib.hid hp
  have HRR := Lib.hid hr
  have hTv : isTest (mkT (c :: more)) = decide ((c :: more).take 5 = testT) := by unfold isTest; rw [mkT_list]
  have hTv : isTest (mkT (c :: more)) = false := by rw [hTv]; exact decide_eq_false h5
  rw [hTv] at HT
  obtain ⟨p0, g0⟩ := mkT_get (l := c :: more) rfl
  have z1 : (((mkT (c :: more)).size : Int) == 0) = false := by simp only [beq_eq_false_iff_ne]; omega
  have HRU := rune_mk c
  have HLK : (Instr.lookup 129 (.map V.smo) (.int .u8 (c.toNat : Int)) true).run Try.prog w = .ok (lookR ((none).map fun i => C.FL.getD i 0)) w := by
    obtain ⟨n1, hm1⟩ := hp.sm
    have hl := hm1.look Try.kB Try.underlying129 (Try.zP w) (key_byte c)
    rw [shFs_all hR hp.len, hnm] at hl
    exact hl
  simp only [Option.map_none, Option.map_some, lookR] at HLK
  have f11 : w.cell? ⟨C.F, 11, none⟩ = some (.map V.smo) := (cell_blk hp.hF 11).trans rfl
  have f1 : w.cell? ⟨C.F, 1, none⟩ = some (.bool C.S.unknown) := (cell_blk hp.hF 1).trans rfl
  have f2 : w.cell? ⟨C.F, 2, none⟩ = some (.bool false) := (cell_blk hp.hF 2).trans rfl
  obtain ⟨d, tt, hmo, hd, htt⟩ := hown
  subst hmo
  obtain ⟨p1, g1⟩ := mkT_get1 (c := c) (d := d) (t := tt)
  have hA4 : (2 : Int) < ((mkT (c :: d :: tt)).size : Int) := by have h9 := List.length_pos_iff.2 htt; rw [has]; simp only [List.length_cons]; omega
  have c61 : (((mkT (c :: d :: tt))[1].toNat : Int) == 61) = true := by rw [g1, hd]; rfl
  have hsl2 : ∀ W, (Instr.slice 9 (.string (mkT (c :: d :: tt))) (some (.int .i64 2)) none none).run Try.prog W = .ok (.string (mkT tt)) W := fun W => by
    rw [run_slice_string_l (P := Try.prog) W 9 (mkT (c :: d :: tt)) Try.underlying9 .i64 2 (by omega) (by omega)]
    have e : (mkT (c :: d :: tt)).extract (2 : Int).toNat (mkT (c :: d :: tt)).size = mkT tt := mkT_inj (by rw [ext_tailP, mkT_list, mkT_list]; rfl)
    rw [e]
  have hA5 : (1 : Int) < ((mkT (c :: d :: tt)).size : Int) := by omega
  clear g1 hd htt
  have ch : ((c.toNat : Int) == 104) = false := nat_beq_false (b := 104) (by intro e; exact hc (UInt8.toNat_inj.1 e))
  clear hp hr hrs hsz hG hR ht has hbb h5 hTv hnm
  clear hc
  rw [hu] at f1
  have HEE := Lib.hid he
  generalize hTXV : mkT (c :: d :: tt) = TX at hsl hA2 hA3 HT p0 z1 g0 p1 hA4 c61 hsl2 hA5  ⊢
  go_enter Try.func105, Try.ntmps105
  go_upto_region 3 with (go_at_call 117; refine (HT.out w).mono ?_; rintro e w1 ⟨rfl, rfl⟩)
  go_wp2
  go_ret3
  exact ⟨_, V, vr, rfl, HP.out, (by have h := HEE.out; show ErrAt C _ _ st.err; rw [h]; rfl), Fr.refl _ _, HRR.out⟩

set_option maxRecDepth 100000 in
set_option maxHeartbeats 3200000 in
theorem short_let_nP (C : PC) (hR : Right C.S) (V : PV) (parsed : Bool) (st : St) (c : UInt8) (more : Txt) (rest : List Txt) (vr : Value) (w : World) (hp : Pm w C V (psOf none parsed st)) (hsz : ∀ i (h : i < C.S.flags.length), (C.S.flags[i].name).length ≤ 17179869184) (hG : st.given.length ≤ 1099511627776) (he : st.err = .no) (hr : RestAt C w vr rest) (ht : more.length ≤ 8589934592) (hrs : ∀ a ∈ rest, a.length ≤ 17179869184) (bb : Nat) (hbb : w.heap[bb]? = some (.cells #[.pointer (some ⟨C.F, 0, none⟩)] 87 (0, 0)))
    (h5 : ¬ (c :: more).take 5 = testT) (hnm : lettered C.S c = none) (hc : ¬ c = 104) (hu : C.S.unknown = true) (hown : ∃ d tt, more = d :: tt ∧ d ≠ 61 ∧ tt ≠ []) :
    Calls Try.prog 105 #[.pointer (some ⟨C.F, 0, none⟩), .string (mkT (c :: more)), vr, (.func (.func 91) #[] #[.pointer (some ⟨bb, 0, none⟩)])] w (ShortEnd none C parsed (st, more, strip rest) w) := by
  have has : (mkT (c :: more)).size = more.length + 1 := by rw [mkT_size]; simp
  have hA2 : (1 : Int) ≤ ((mkT (c :: more)).size : Int) := by omega
  have hA3 : ((mkT (c :: more)).size : Int) ≤ 17179869184 := by omega
  have hsl : ∀ W, (Instr.slice 9 (.string (mkT (c :: more))) (some (.int .i64 1)) none none).run Try.prog W = .ok (.string (mkT more)) W := fun W => by
    rw [run_slice_string_l (P := Try.prog) W 9 (mkT (c :: more)) Try.underlying9 .i64 1 (by omega) (by omega)]
    have e : (mkT (c :: more)).extract (1 : Int).toNat (mkT (c :: more)).size = mkT more := mkT_inj (by rw [ext_tailP, mkT_list, mkT_list]; rfl)
    rw [e]
  have HT := Lib.hid (fun W => isTest_any (mkT (c :: more)) (by omega) W)
  have HP := Lib.hid hp
  have HRR := Lib.hid hr
  have hTv : isTest (mkT (c :: more)) = decide ((c :: more).take 5 = testT) := by unfold isTest; rw [mkT_list]
  have hTv : isTest (mkT (c :: more)) = false := by rw [hTv]; exact decide_eq_false h5
  rw [hTv] at HT
  obtain ⟨p0, g0⟩ := mkT_get (l := c :: more) rfl
  have z1 : (((mkT (c :: more)).size : Int) == 0) = false := by simp only [beq_eq_false_iff_ne]; omega
  have HRU := rune_mk c
  have HLK : (Instr.lookup 129 (.map V.smo) (.int .u8 (c.toNat : Int)) true).run Try.prog w = .ok (lookR ((none).map fun i => C.FL.getD i 0)) w := by
    obtain ⟨n1, hm1⟩ := hp.sm
    have hl := hm1.look Try.kB Try.underlying129 (Try.zP w) (key_byte c)
    rw [shFs_all hR hp.len, hnm] at hl
    exact hl
  simp only [Option.map_none, Option.map_some, lookR] at HLK
  have f11 : w.cell? ⟨C.F, 11, none⟩ = some (.map V.smo) := (cell_blk hp.hF 11).trans rfl
  have f1 : w.cell? ⟨C.F, 1, none⟩ = some (.bool C.S.unknown) := (cell_blk hp.hF 1).trans rfl
  have f2 : w.cell? ⟨C.F, 2, none⟩ = some (.bool false) := (cell_blk hp.hF 2).trans rfl
  obtain ⟨d, tt, hmo, hd, htt⟩ := hown
  subst hmo
  obtain ⟨p1, g1⟩ := mkT_get1 (c := c) (d := d) (t := tt)
  have hA4 : (2 : Int) < ((mkT (c :: d :: tt)).size : Int) := by have h9 := List.length_pos_iff.2 htt; rw [has]; simp only [List.length_cons]; omega
  have c61 : (((mkT (c :: d :: tt))[1].toNat : Int) == 61) = false := nat_beq_false (b := 61) (by rw [g1]; intro e; exact hd (UInt8.toNat_inj.1 e))
  have hA5 : (1 : Int) < ((mkT (c :: d :: tt)).size : Int) := by omega
  clear g1 hd htt
  have ch : ((c.toNat : Int) == 104) = false := nat_beq_false (b := 104) (by intro e; exact hc (UInt8.toNat_inj.1 e))
  have HST := Lib.hid (stripR_any C vr rest w hr hrs)
  clear hp hr hrs hsz hG hR ht has hbb h5 hTv hnm
  clear hc
  rw [hu] at f1
  have HEE := Lib.hid he
  generalize hTXV : mkT (c :: d :: tt) = TX at hsl hA2 hA3 HT p0 z1 g0 p1 hA4 c61 hA5  ⊢
  go_enter Try.func105, Try.ntmps105
  go_upto_region 3 with (go_at_call 117; refine (HT.out w).mono ?_; rintro e w1 ⟨rfl, rfl⟩)
  go_wp2_with (go_at_call 98; refine (HST.out).mono ?_; rintro e w3 ⟨⟨v3, rfl, hr3⟩, rfl⟩; have HR3 := Lib.hid hr3; clear hr3)
  go_ret3
  exact ⟨_, V, v3, rfl, HP.out, (by have h := HEE.out; show ErrAt C _ _ st.err; rw [h]; rfl), Fr.refl _ _, HR3.out⟩

set_option maxRecDepth 100000 in
set_option maxHeartbeats 3200000 in
theorem short_let_sP (C : PC) (hR : Right C.S) (V : PV) (parsed : Bool) (st : St) (c : UInt8) (more : Txt) (rest : List Txt) (vr : Value) (w : World) (hp : Pm w C V (psOf none parsed st)) (hsz : ∀ i (h : i < C.S.flags.length), (C.S.flags[i].name).length ≤ 17179869184) (hG : st.given.length ≤ 1099511627776) (he : st.err = .no) (hr : RestAt C w vr rest) (ht : more.length ≤ 8589934592) (hrs : ∀ a ∈ rest, a.length ≤ 17179869184) (bb : Nat) (hbb : w.heap[bb]? = some (.cells #[.pointer (some ⟨C.F, 0, none⟩)] 87 (0, 0)))
    (h5 : ¬ (c :: more).take 5 = testT) (hnm : lettered C.S c = none) (hc : ¬ c = 104) (hu : C.S.unknown = true) (hown : more.length = 0) :
    Calls Try.prog 105 #[.pointer (some ⟨C.F, 0, none⟩), .string (mkT (c :: more)), vr, (.func (.func 91) #[] #[.pointer (some ⟨bb, 0, none⟩)])] w (ShortEnd none C parsed (st, more, strip rest) w) := by
  have has : (mkT (c :: more)).size = more.length + 1 := by rw [mkT_size]; simp
  have hA2 : (1 : Int) ≤ ((mkT (c :: more)).size : Int) := by omega
  have hA3 : ((mkT (c :: more)).size : Int) ≤ 17179869184 := by omega
  have hsl : ∀ W, (Instr.slice 9 (.string (mkT (c :: more))) (some (.int .i64 1)) none none).run Try.prog W = .ok (.string (mkT more)) W := fun W => by
    rw [run_slice_string_l (P := Try.prog) W 9 (mkT (c :: more)) Try.underlying9 .i64 1 (by omega) (by omega)]
    have e : (mkT (c :: more)).extract (1 : Int).toNat (mkT (c :: more)).size = mkT more := mkT_inj (by rw [ext_tailP, mkT_list, mkT_list]; rfl)
    rw [e]
  have HT := Lib.hid (fun W => isTest_any (mkT (c :: more)) (by omega) W)
  have HP := Lib.hid hp
  have HRR := Lib.hid hr
  have hTv : isTest (mkT (c :: more)) = decide ((c :: more).take 5 = testT) := by unfold isTest; rw [mkT_list]
  have hTv : isTest (mkT (c :: more)) = false := by rw [hTv]; exact decide_eq_false h5
  rw [hTv] at HT
  obtain ⟨p0, g0⟩ := mkT_get (l := c :: more) rfl
  have z1 : (((mkT (c :: more)).size : Int) == 0) = false := by simp only [beq_eq_false_iff_ne]; omega
  have HRU := rune_mk c
  have HLK : (Instr.lookup 129 (.map V.smo) (.int .u8 (c.toNat : Int)) true).run Try.prog w = .ok (lookR ((none).map fun i => C.FL.getD i 0)) w := by
    obtain ⟨n1, hm1⟩ := hp.sm
    have hl := hm1.look Try.kB Try.underlying129 (Try.zP w) (key_byte c)
    rw [shFs_all hR hp.len, hnm] at hl
    exact hl
  simp only [Option.map_none, Option.map_some, lookR] at HLK
  have f11 : w.cell? ⟨C.F, 11, none⟩ = some (.map V.smo) := (cell_blk hp.hF 11).trans rfl
  have f1 : w.cell? ⟨C.F, 1, none⟩ = some (.bool C.S.unknown) := (cell_blk hp.hF 1).trans rfl
  have f2 : w.cell? ⟨C.F, 2, none⟩ = some (.bool false) := (cell_blk hp.hF 2).trans rfl
  have hA4 : ((mkT (c :: more)).size : Int) = 1 := by rw [has]; omega
  clear hown
  have ch : ((c.toNat : Int) == 104) = false := nat_beq_false (b := 104) (by intro e; exact hc (UInt8.toNat_inj.1 e))
  have HST := Lib.hid (stripR_any C vr rest w hr hrs)
  clear hp hr hrs hsz hG hR ht has hbb h5 hTv hnm
  clear hc
  rw [hu] at f1
  have HEE := Lib.hid he
  generalize hTXV : mkT (c :: more) = TX at hsl hA2 hA3 HT p0 z1 g0 hA4  ⊢
  go_enter Try.func105, Try.ntmps105
  go_upto_region 3 with (go_at_call 117; refine (HT.out w).mono ?_; rintro e w1 ⟨rfl, rfl⟩)
  go_wp2_with (go_at_call 98; refine (HST.out).mono ?_; rintro e w3 ⟨⟨v3, rfl, hr3⟩, rfl⟩; have HR3 := Lib.hid hr3; clear hr3)
  go_ret3
  exact ⟨_, V, v3, rfl, HP.out, (by have h := HEE.out; show ErrAt C _ _ st.err; rw [h]; rfl), Fr.refl _ _, HR3.out⟩

set_option maxRecDepth 100000 in
set_option maxHeartbeats 3200000 in
theorem short_let_tP (C : PC) (hR : Right C.S) (V : PV) (parsed : Bool) (st : St) (c : UInt8) (more : Txt) (rest : List Txt) (vr : Value) (w : World) (hp : Pm w C V (psOf none parsed st)) (hsz : ∀ i (h : i < C.S.flags.length), (C.S.flags[i].name).length ≤ 17179869184) (hG : st.given.length ≤ 1099511627776) (he : st.err = .no) (hr : RestAt C w vr rest) (ht : more.length ≤ 8589934592) (hrs : ∀ a ∈ rest, a.length ≤ 17179869184) (bb : Nat) (hbb : w.heap[bb]? = some (.cells #[.pointer (some ⟨C.F, 0, none⟩)] 87 (0, 0)))
    (h5 : ¬ (c :: more).take 5 = testT) (hnm : lettered C.S c = none) (hc : ¬ c = 104) (hu : C.S.unknown = true) (hown : more.length = 1) :
    Calls Try.prog 105 #[.pointer (some ⟨C.F, 0, none⟩), .string (mkT (c :: more)), vr, (.func (.func 91) #[] #[.pointer (some ⟨bb, 0, none⟩)])] w (ShortEnd none C parsed (st, more, strip rest) w) := by
  have has : (mkT (c :: more)).size = more.length + 1 := by rw [mkT_size]; simp
  have hA2 : (1 : Int) ≤ ((mkT (c :: more)).size : Int) := by omega
  have hA3 : ((mkT (c :: more)).size : Int) ≤ 17179869184 := by omega
  have hsl : ∀ W, (Instr.slice 9 (.string (mkT (c :: more))) (some (.int .i64 1)) none none).run Try.prog W = .ok (.string (mkT more)) W := fun W => by
    rw [run_slice_string_l (P := Try.prog) W 9 (mkT (c :: more)) Try.underlying9 .i64 1 (by omega) (by omega)]
    have e : (mkT (c :: more)).extract (1 : Int).toNat (mkT (c :: more)).size = mkT more := mkT_inj (by rw [ext_tailP, mkT_list, mkT_list]; rfl)
    rw [e]
  have HT := Lib.hid (fun W => isTest_any (mkT (c :: more)) (by omega) W)
  have HP := Lib.hid hp
  have HRR := Lib.hid hr
  have hTv : isTest (mkT (c :: more)) = decide ((c :: more).take 5 = testT) := by unfold isTest; rw [mkT_list]
  have hTv : isTest (mkT (c :: more)) = false := by rw [hTv]; exact decide_eq_false h5
  rw [hTv] at HT
  obtain ⟨p0, g0⟩ := mkT_get (l := c :: more) rfl
  have z1 : (((mkT (c :: more)).size : Int) == 0) = false := by simp only [beq_eq_false_iff_ne]; omega
  have HRU := rune_mk c
  have HLK : (Instr.lookup 129 (.map V.smo) (.int .u8 (c.toNat : Int)) true).run Try.prog w = .ok (lookR ((none).map fun i => C.FL.getD i 0)) w := by
    obtain ⟨n1, hm1⟩ := hp.sm
    have hl := hm1.look Try.kB Try.underlying129 (Try.zP w) (key_byte c)
    rw [shFs_all hR hp.len, hnm] at hl
    exact hl
  simp only [Option.map_none, Option.map_some, lookR] at HLK
  have f11 : w.cell? ⟨C.F, 11, none⟩ = some (.map V.smo) := (cell_blk hp.hF 11).trans rfl
  have f1 : w.cell? ⟨C.F, 1, none⟩ = some (.bool C.S.unknown) := (cell_blk hp.hF 1).trans rfl
  have f2 : w.cell? ⟨C.F, 2, none⟩ = some (.bool false) := (cell_blk hp.hF 2).trans rfl
  have hA4 : ((mkT (c :: more)).size : Int) = 2 := by rw [has]; omega
  clear hown
  have ch : ((c.toNat : Int) == 104) = false := nat_beq_false (b := 104) (by intro e; exact hc (UInt8.toNat_inj.1 e))
  have HST := Lib.hid (stripR_any C vr rest w hr hrs)
  clear hp hr hrs hsz hG hR ht has hbb h5 hTv hnm
  clear hc
  rw [hu] at f1
  have HEE := Lib.hid he
  generalize hTXV : mkT (c :: more) = TX at hsl hA2 hA3 HT p0 z1 g0 hA4  ⊢
  go_enter Try.func105, Try.ntmps105
  go_upto_region 3 with (go_at_call 117; refine (HT.out w).mono ?_; rintro e w1 ⟨rfl, rfl⟩)
  go_wp2_with (go_at_call 98; refine (HST.out).mono ?_; rintro e w3 ⟨⟨v3, rfl, hr3⟩, rfl⟩; have HR3 := Lib.hid hr3; clear hr3)
  go_ret3
  exact ⟨_, V, v3, rfl, HP.out, (by have h := HEE.out; show ErrAt C _ _ st.err; rw [h]; rfl), Fr.refl _ _, HR3.out⟩

set_option maxRecDepth 100000 in
set_option maxHeartbeats 3200000 in
theorem short_valP (C : PC) (hR : Right C.S) (V : PV) (parsed : Bool) (st : St) (c : UInt8) (more : Txt) (rest : List Txt) (vr : Value) (w : World) (hp : Pm w C V (psOf none parsed st)) (hsz : ∀ i (h : i < C.S.flags.length), (C.S.flags[i].name).length ≤ 17179869184) (hG : st.given.length ≤ 1099511627776) (he : st.err = .no) (hr : RestAt C w vr rest) (ht : more.length ≤ 8589934592) (hrs : ∀ a ∈ rest, a.length ≤ 17179869184) (bb : Nat) (hbb : w.heap[bb]? = some (.cells #[.pointer (some ⟨C.F, 0, none⟩)] 87 (0, 0)))
    (i : Nat) (h5 : ¬ (c :: more).take 5 = testT) (hnm : lettered C.S c = some i) (hi : i < C.S.flags.length) (hown : ∃ d tt, more = d :: tt ∧ d = 61 ∧ tt ≠ []) :
    Calls Try.prog 105 #[.pointer (some ⟨C.F, 0, none⟩), .string (mkT (c :: more)), vr, (.func (.func 91) #[] #[.pointer (some ⟨bb, 0, none⟩)])] w (ShortEnd none C parsed (give C.S none st i (more.drop 1), [], rest) w) := by
  have has : (mkT (c :: more)).size = more.length + 1 := by rw [mkT_size]; simp
  have hA2 : (1 : Int) ≤ ((mkT (c :: more)).size : Int) := by omega
  have hA3 : ((mkT (c :: more)).size : Int) ≤ 17179869184 := by omega
  have hsl : ∀ W, (Instr.slice 9 (.string (mkT (c :: more))) (some (.int .i64 1)) none none).run Try.prog W = .ok (.string (mkT more)) W := fun W => by
    rw [run_slice_string_l (P := Try.prog) W 9 (mkT (c :: more)) Try.underlying9 .i64 1 (by omega) (by omega)]
    have e : (mkT (c :: more)).extract (1 : Int).toNat (mkT (c :: more)).size = mkT more := mkT_inj (by rw [ext_tailP, mkT_list, mkT_list]; rfl)
    rw [e]
  have HT := Lib.hid (fun W => isTest_any (mkT (c :: more)) (by omega) W)
  have HP := Lib.hid hp
  have HRR := Lib.hid hr
  have hTv : isTest (mkT (c :: more)) = decide ((c :: more).take 5 = testT) := by unfold isTest; rw [mkT_list]
  have hTv : isTest (mkT (c :: more)) = false := by rw [hTv]; exact decide_eq_false h5
  rw [hTv] at HT
  obtain ⟨p0, g0⟩ := mkT_get (l := c :: more) rfl
  have z1 : (((mkT (c :: more)).size : Int) == 0) = false := by simp only [beq_eq_false_iff_ne]; omega
  have HRU := rune_mk c
  have HLK : (Instr.lookup 129 (.map V.smo) (.int .u8 (c.toNat : Int)) true).run Try.prog w = .ok (lookR ((some i).map fun i => C.FL.getD i 0)) w := by
    obtain ⟨n1, hm1⟩ := hp.sm
    have hl := hm1.look Try.kB Try.underlying129 (Try.zP w) (key_byte c)
    rw [shFs_all hR hp.len, hnm] at hl
    exact hl
  simp only [Option.map_none, Option.map_some, lookR] at HLK
  have f11 : w.cell? ⟨C.F, 11, none⟩ = some (.map V.smo) := (cell_blk hp.hF 11).trans rfl
  have f1 : w.cell? ⟨C.F, 1, none⟩ = some (.bool C.S.unknown) := (cell_blk hp.hF 1).trans rfl
  have f2 : w.cell? ⟨C.F, 2, none⟩ = some (.bool false) := (cell_blk hp.hF 2).trans rfl
  obtain ⟨d, tt, hmo, hd, htt⟩ := hown
  subst hmo
  obtain ⟨p1, g1⟩ := mkT_get1 (c := c) (d := d) (t := tt)
  have hA4 : (2 : Int) < ((mkT (c :: d :: tt)).size : Int) := by have h9 := List.length_pos_iff.2 htt; rw [has]; simp only [List.length_cons]; omega
  have c61 : (((mkT (c :: d :: tt))[1].toNat : Int) == 61) = true := by rw [g1, hd]; rfl
  have hsl2 : ∀ W, (Instr.slice 9 (.string (mkT (c :: d :: tt))) (some (.int .i64 2)) none none).run Try.prog W = .ok (.string (mkT tt)) W := fun W => by
    rw [run_slice_string_l (P := Try.prog) W 9 (mkT (c :: d :: tt)) Try.underlying9 .i64 2 (by omega) (by omega)]
    have e : (mkT (c :: d :: tt)).extract (2 : Int).toNat (mkT (c :: d :: tt)).size = mkT tt := mkT_inj (by rw [ext_tailP, mkT_list, mkT_list]; rfl)
    rw [e]
  have hA5 : (1 : Int) < ((mkT (c :: d :: tt)).size : Int) := by omega
  clear g1 hd htt
  have HFN := Lib.hid (fun (W : World) (hb : Below w.heap.size w W) => (fun (W : World) (hb : Below w.heap.size w W) (i : Nat) (hi : i < C.S.flags.length) (v : Txt) => parse1_any C hR V parsed st i v ⟨bb, 0, none⟩ W (hp.below hb) hi (hsz i hi) hG he ((cell_blk (block_kept hbb hb) 0).trans rfl)) W hb i hi tt)
  clear hp hr hrs hsz hG hR ht has hbb h5 hTv hnm
  show Calls _ _ _ _ (ShortEnd none C parsed (give C.S none st i tt, [], rest) w)
  generalize mkT tt = VL at hsl2 HFN
  generalize give C.S none st i tt = st' at HFN ⊢
  generalize C.FL.getD i 0 = p at HLK HFN
  clear hi
  generalize hTXV : mkT (c :: d :: tt) = TX at hsl hA2 hA3 HT p0 z1 g0 p1 hA4 c61 hsl2 hA5  ⊢
  go_enter Try.func105, Try.ntmps105
  go_upto_region 3 with (go_at_call 117; refine (HT.out w).mono ?_; rintro e w1 ⟨rfl, rfl⟩)
  go_wp2_with (go_at_call 91; refine (HFN.out w (Below.refl _ _)).mono ?_; rintro e w3 ⟨E, V3, rfl, h3, he3, hf3⟩)
  go_ret3
  exact ⟨E, V3, vr, rfl, h3, he3, hf3, HRR.out.fr hf3⟩

set_option maxRecDepth 100000 in
set_option maxHeartbeats 3200000 in
theorem short_opt_nP (C : PC) (hR : Right C.S) (V : PV) (parsed : Bool) (st : St) (c : UInt8) (more : Txt) (rest : List Txt) (vr : Value) (w : World) (hp : Pm w C V (psOf none parsed st)) (hsz : ∀ i (h : i < C.S.flags.length), (C.S.flags[i].name).length ≤ 17179869184) (hG : st.given.length ≤ 1099511627776) (he : st.err = .no) (hr : RestAt C w vr rest) (ht : more.length ≤ 8589934592) (hrs : ∀ a ∈ rest, a.length ≤ 17179869184) (bb : Nat) (hbb : w.heap[bb]? = some (.cells #[.pointer (some ⟨C.F, 0, none⟩)] 87 (0, 0)))
    (i : Nat) (h5 : ¬ (c :: more).take 5 = testT) (hnm : lettered C.S c = some i) (hi : i < C.S.flags.length) (ho : C.S.flags[i].noOpt ≠ []) (hown : ∃ d tt, more = d :: tt ∧ d ≠ 61 ∧ tt ≠ []) :
    Calls Try.prog 105 #[.pointer (some ⟨C.F, 0, none⟩), .string (mkT (c :: more)), vr, (.func (.func 91) #[] #[.pointer (some ⟨bb, 0, none⟩)])] w (ShortEnd none C parsed (give C.S none st i C.S.flags[i].noOpt, more, rest) w) := by
  have has : (mkT (c :: more)).size = more.length + 1 := by rw [mkT_size]; simp
  have hA2 : (1 : Int) ≤ ((mkT (c :: more)).size : Int) := by omega
  have hA3 : ((mkT (c :: more)).size : Int) ≤ 17179869184 := by omega
  have hsl : ∀ W, (Instr.slice 9 (.string (mkT (c :: more))) (some (.int .i64 1)) none none).run Try.prog W = .ok (.string (mkT more)) W := fun W => by
    rw [run_slice_string_l (P := Try.prog) W 9 (mkT (c :: more)) Try.underlying9 .i64 1 (by omega) (by omega)]
    have e : (mkT (c :: more)).extract (1 : Int).toNat (mkT (c :: more)).size = mkT more := mkT_inj (by rw [ext_tailP, mkT_list, mkT_list]; rfl)
    rw [e]
  have HT := Lib.hid (fun W => isTest_any (mkT (c :: more)) (by omega) W)
  have HP := Lib.hid hp
  have HRR := Lib.hid hr
  have hTv : isTest (mkT (c :: more)) = decide ((c :: more).take 5 = testT) := by unfold isTest; rw [mkT_list]
  have hTv : isTest (mkT (c :: more)) = false := by rw [hTv]; exact decide_eq_false h5
  rw [hTv] at HT
  obtain ⟨p0, g0⟩ := mkT_get (l := c :: more) rfl
  have z1 : (((mkT (c :: more)).size : Int) == 0) = false := by simp only [beq_eq_false_iff_ne]; omega
  have HRU := rune_mk c
  have HLK : (Instr.lookup 129 (.map V.smo) (.int .u8 (c.toNat : Int)) true).run Try.prog w = .ok (lookR ((some i).map fun i => C.FL.getD i 0)) w := by
    obtain ⟨n1, hm1⟩ := hp.sm
    have hl := hm1.look Try.kB Try.underlying129 (Try.zP w) (key_byte c)
    rw [shFs_all hR hp.len, hnm] at hl
    exact hl
  simp only [Option.map_none, Option.map_some, lookR] at HLK
  have f11 : w.cell? ⟨C.F, 11, none⟩ = some (.map V.smo) := (cell_blk hp.hF 11).trans rfl
  have f1 : w.cell? ⟨C.F, 1, none⟩ = some (.bool C.S.unknown) := (cell_blk hp.hF 1).trans rfl
  have f2 : w.cell? ⟨C.F, 2, none⟩ = some (.bool false) := (cell_blk hp.hF 2).trans rfl
  obtain ⟨d, tt, hmo, hd, htt⟩ := hown
  subst hmo
  obtain ⟨p1, g1⟩ := mkT_get1 (c := c) (d := d) (t := tt)
  have hA4 : (2 : Int) < ((mkT (c :: d :: tt)).size : Int) := by have h9 := List.length_pos_iff.2 htt; rw [has]; simp only [List.length_cons]; omega
  have c61 : (((mkT (c :: d :: tt))[1].toNat : Int) == 61) = false := nat_beq_false (b := 61) (by rw [g1]; intro e; exact hd (UInt8.toNat_inj.1 e))
  have hA5 : (1 : Int) < ((mkT (c :: d :: tt)).size : Int) := by omega
  clear g1 hd htt
  have HFN := Lib.hid (fun (W : World) (hb : Below w.heap.size w W) => (fun (W : World) (hb : Below w.heap.size w W) (i : Nat) (hi : i < C.S.flags.length) (v : Txt) => parse1_any C hR V parsed st i v ⟨bb, 0, none⟩ W (hp.below hb) hi (hsz i hi) hG he ((cell_blk (block_kept hbb hb) 0).trans rfl)) W hb i hi C.S.flags[i].noOpt)
  have l6 : w.cell? ⟨C.FL.getD i 0, 6, none⟩ = some (.string (mkT C.S.flags[i].noOpt)) := (cell_blk (hp.flag i hi) 6).trans rfl
  have po : 0 < (mkT C.S.flags[i].noOpt).size := by rw [mkT_size]; exact List.length_pos_iff.2 ho
  have po1 := nonempty_list po
  have po2 := nonempty_not po
  clear hp hr hrs hsz hG hR ht has hbb h5 hTv hnm
  generalize give C.S none st i C.S.flags[i].noOpt = st' at HFN ⊢
  generalize mkT C.S.flags[i].noOpt = NO at HFN l6 po po1 po2
  clear ho
  generalize C.FL.getD i 0 = p at HLK HFN l6
  clear hi
  generalize hTXV : mkT (c :: d :: tt) = TX at hsl hA2 hA3 HT p0 z1 g0 p1 hA4 c61 hA5  ⊢
  go_enter Try.func105, Try.ntmps105
  go_upto_region 3 with (go_at_call 117; refine (HT.out w).mono ?_; rintro e w1 ⟨rfl, rfl⟩)
  go_wp2_with (go_at_call 91; refine (HFN.out w (Below.refl _ _)).mono ?_; rintro e w3 ⟨E, V3, rfl, h3, he3, hf3⟩)
  go_ret3
  exact ⟨E, V3, vr, rfl, h3, he3, hf3, HRR.out.fr hf3⟩

set_option maxRecDepth 100000 in
set_option maxHeartbeats 3200000 in
theorem short_opt_sP (C : PC) (hR : Right C.S) (V : PV) (parsed : Bool) (st : St) (c : UInt8) (more : Txt) (rest : List Txt) (vr : Value) (w : World) (hp : Pm w C V (psOf none parsed st)) (hsz : ∀ i (h : i < C.S.flags.length), (C.S.flags[i].name).length ≤ 17179869184) (hG : st.given.length ≤ 1099511627776) (he : st.err = .no) (hr : RestAt C w vr rest) (ht : more.length ≤ 8589934592) (hrs : ∀ a ∈ rest, a.length ≤ 17179869184) (bb : Nat) (hbb : w.heap[bb]? = some (.cells #[.pointer (some ⟨C.F, 0, none⟩)] 87 (0, 0)))
    (i : Nat) (h5 : ¬ (c :: more).take 5 = testT) (hnm : lettered C.S c = some i) (hi : i < C.S.flags.length) (ho : C.S.flags[i].noOpt ≠ []) (hown : more.length = 0) :
    Calls Try.prog 105 #[.pointer (some ⟨C.F, 0, none⟩), .string (mkT (c :: more)), vr, (.func (.func 91) #[] #[.pointer (some ⟨bb, 0, none⟩)])] w (ShortEnd none C parsed (give C.S none st i C.S.flags[i].noOpt, more, rest) w) := by
  have has : (mkT (c :: more)).size = more.length + 1 := by rw [mkT_size]; simp
  have hA2 : (1 : Int) ≤ ((mkT (c :: more)).size : Int) := by omega
  have hA3 : ((mkT (c :: more)).size : Int) ≤ 17179869184 := by omega
  have hsl : ∀ W, (Instr.slice 9 (.string (mkT (c :: more))) (some (.int .i64 1)) none none).run Try.prog W = .ok (.string (mkT more)) W := fun W => by
    rw [run_slice_string_l (P := Try.prog) W 9 (mkT (c :: more)) Try.underlying9 .i64 1 (by omega) (by omega)]
    have e : (mkT (c :: more)).extract (1 : Int).toNat (mkT (c :: more)).size = mkT more := mkT_inj (by rw [ext_tailP, mkT_list, mkT_list]; rfl)
    rw [e]
  have HT := Lib.hid (fun W => isTest_any (mkT (c :: more)) (by omega) W)
  have HP := Lib.hid hp
  have HRR := Lib.hid hr
  have hTv : isTest (mkT (c :: more)) = decide ((c :: more).take 5 = testT) := by unfold isTest; rw [mkT_list]
  have hTv : isTest (mkT (c :: more)) = false := by rw [hTv]; exact decide_eq_false h5
  rw [hTv] at HT
  obtain ⟨p0, g0⟩ := mkT_get (l := c :: more) rfl
  have z1 : (((mkT (c :: more)).size : Int) == 0) = false := by simp only [beq_eq_false_iff_ne]; omega
  have HRU := rune_mk c
  have HLK : (Instr.lookup 129 (.map V.smo) (.int .u8 (c.toNat : Int)) true).run Try.prog w = .ok (lookR ((some i).map fun i => C.FL.getD i 0)) w := by
    obtain ⟨n1, hm1⟩ := hp.sm
    have hl := hm1.look Try.kB Try.underlying129 (Try.zP w) (key_byte c)
    rw [shFs_all hR hp.len, hnm] at hl
    exact hl
  simp only [Option.map_none, Option.map_some, lookR] at HLK
  have f11 : w.cell? ⟨C.F, 11, none⟩ = some (.map V.smo) := (cell_blk hp.hF 11).trans rfl
  have f1 : w.cell? ⟨C.F, 1, none⟩ = some (.bool C.S.unknown) := (cell_blk hp.hF 1).trans rfl
  have f2 : w.cell? ⟨C.F, 2, none⟩ = some (.bool false) := (cell_blk hp.hF 2).trans rfl
  have hA4 : ((mkT (c :: more)).size : Int) = 1 := by rw [has]; omega
  clear hown
  have HFN := Lib.hid (fun (W : World) (hb : Below w.heap.size w W) => (fun (W : World) (hb : Below w.heap.size w W) (i : Nat) (hi : i < C.S.flags.length) (v : Txt) => parse1_any C hR V parsed st i v ⟨bb, 0, none⟩ W (hp.below hb) hi (hsz i hi) hG he ((cell_blk (block_kept hbb hb) 0).trans rfl)) W hb i hi C.S.flags[i].noOpt)
  have l6 : w.cell? ⟨C.FL.getD i 0, 6, none⟩ = some (.string (mkT C.S.flags[i].noOpt)) := (cell_blk (hp.flag i hi) 6).trans rfl
  have po : 0 < (mkT C.S.flags[i].noOpt).size := by rw [mkT_size]; exact List.length_pos_iff.2 ho
  have po1 := nonempty_list po
  have po2 := nonempty_not po
  clear hp hr hrs hsz hG hR ht has hbb h5 hTv hnm
  generalize give C.S none st i C.S.flags[i].noOpt = st' at HFN ⊢
  generalize mkT C.S.flags[i].noOpt = NO at HFN l6 po po1 po2
  clear ho
  generalize C.FL.getD i 0 = p at HLK HFN l6
  clear hi
  generalize hTXV : mkT (c :: more) = TX at hsl hA2 hA3 HT p0 z1 g0 hA4  ⊢
  go_enter Try.func105, Try.ntmps105
  go_upto_region 3 with (go_at_call 117; refine (HT.out w).mono ?_; rintro e w1 ⟨rfl, rfl⟩)
  go_wp2_with (go_at_call 91; refine (HFN.out w (Below.refl _ _)).mono ?_; rintro e w3 ⟨E, V3, rfl, h3, he3, hf3⟩)
  go_ret3
  exact ⟨E, V3, vr, rfl, h3, he3, hf3, HRR.out.fr hf3⟩

set_option maxRecDepth 100000 in
set_option maxHeartbeats 3200000 in
theorem short_opt_tP (C : PC) (hR : Right C.S) (V : PV) (parsed : Bool) (st : St) (c : UInt8) (more : Txt) (rest : List Txt) (vr : Value) (w : World) (hp : Pm w C V (psOf none parsed st)) (hsz : ∀ i (h : i < C.S.flags.length), (C.S.flags[i].name).length ≤ 17179869184) (hG : st.given.length ≤ 1099511627776) (he : st.err = .no) (hr : RestAt C w vr rest) (ht : more.length ≤ 8589934592) (hrs : ∀ a ∈ rest, a.length ≤ 17179869184) (bb : Nat) (hbb : w.heap[bb]? = some (.cells #[.pointer (some ⟨C.F, 0, none⟩)] 87 (0, 0)))
    (i : Nat) (h5 : ¬ (c :: more).take 5 = testT) (hnm : lettered C.S c = some i) (hi : i < C.S.flags.length) (ho : C.S.flags[i].noOpt ≠ []) (hown : more.length = 1) :
    Calls Try.prog 105 #[.pointer (some ⟨C.F, 0, none⟩), .string (mkT (c :: more)), vr, (.func (.func 91) #[] #[.pointer (some ⟨bb, 0, none⟩)])] w (ShortEnd none C parsed (give C.S none st i C.S.flags[i].noOpt, more, rest) w) := by
  have has : (mkT (c :: more)).size = more.length + 1 := by rw [mkT_size]; simp
  have hA2 : (1 : Int) ≤ ((mkT (c :: more)).size : Int) := by omega
  have hA3 : ((mkT (c :: more)).size : Int) ≤ 17179869184 := by omega
  have hsl : ∀ W, (Instr.slice 9 (.string (mkT (c :: more))) (some (.int .i64 1)) none none).run Try.prog W = .ok (.string (mkT more)) W := fun W => by
    rw [run_slice_string_l (P := Try.prog) W 9 (mkT (c :: more)) Try.underlying9 .i64 1 (by omega) (by omega)]
    have e : (mkT (c :: more)).extract (1 : Int).toNat (mkT (c :: more)).size = mkT more := mkT_inj (by rw [ext_tailP, mkT_list, mkT_list]; rfl)
    rw [e]
  have HT := Lib.hid (fun W => isTest_any (mkT (c :: more)) (by omega) W)
  have HP := Lib.hid hp
  have HRR := Lib.hid hr
  have hTv : isTest (mkT (c :: more)) = decide ((c :: more).take 5 = testT) := by unfold isTest; rw [mkT_list]
  have hTv : isTest (mkT (c :: more)) = false := by rw [hTv]; exact decide_eq_false h5
  rw [hTv] at HT
  obtain ⟨p0, g0⟩ := mkT_get (l := c :: more) rfl
  have z1 : (((mkT (c :: more)).size : Int) == 0) = false := by simp only [beq_eq_false_iff_ne]; omega
  have HRU := rune_mk c
  have HLK : (Instr.lookup 129 (.map V.smo) (.int .u8 (c.toNat : Int)) true).run Try.prog w = .ok (lookR ((some i).map fun i => C.FL.getD i 0)) w := by
    obtain ⟨n1, hm1⟩ := hp.sm
    have hl := hm1.look Try.kB Try.underlying129 (Try.zP w) (key_byte c)
    rw [shFs_all hR hp.len, hnm] at hl
    exact hl
  simp only [Option.map_none, Option.map_some, lookR] at HLK
  have f11 : w.cell? ⟨C.F, 11, none⟩ = some (.map V.smo) := (cell_blk hp.hF 11).trans rfl
  have f1 : w.cell? ⟨C.F, 1, none⟩ = some (.bool C.S.unknown) := (cell_blk hp.hF 1).trans rfl
  have f2 : w.cell? ⟨C.F, 2, none⟩ = some (.bool false) := (cell_blk hp.hF 2).trans rfl
  have hA4 : ((mkT (c :: more)).size : Int) = 2 := by rw [has]; omega
  clear hown
  have HFN := Lib.hid (fun (W : World) (hb : Below w.heap.size w W) => (fun (W : World) (hb : Below w.heap.size w W) (i : Nat) (hi : i < C.S.flags.length) (v : Txt) => parse1_any C hR V parsed st i v ⟨bb, 0, none⟩ W (hp.below hb) hi (hsz i hi) hG he ((cell_blk (block_kept hbb hb) 0).trans rfl)) W hb i hi C.S.flags[i].noOpt)
  have l6 : w.cell? ⟨C.FL.getD i 0, 6, none⟩ = some (.string (mkT C.S.flags[i].noOpt)) := (cell_blk (hp.flag i hi) 6).trans rfl
  have po : 0 < (mkT C.S.flags[i].noOpt).size := by rw [mkT_size]; exact List.length_pos_iff.2 ho
  have po1 := nonempty_list po
  have po2 := nonempty_not po
  clear hp hr hrs hsz hG hR ht has hbb h5 hTv hnm
  generalize give C.S none st i C.S.flags[i].noOpt = st' at HFN ⊢
  generalize mkT C.S.flags[i].noOpt = NO at HFN l6 po po1 po2
  clear ho
  generalize C.FL.getD i 0 = p at HLK HFN l6
  clear hi
  generalize hTXV : mkT (c :: more) = TX at hsl hA2 hA3 HT p0 z1 g0 hA4  ⊢
  go_enter Try.func105, Try.ntmps105
  go_upto_region 3 with (go_at_call 117; refine (HT.out w).mono ?_; rintro e w1 ⟨rfl, rfl⟩)
  go_wp2_with (go_at_call 91; refine (HFN.out w (Below.refl _ _)).mono ?_; rintro e w3 ⟨E, V3, rfl, h3, he3, hf3⟩)
  go_ret3
  exact ⟨E, V3, vr, rfl, h3, he3, hf3, HRR.out.fr hf3⟩

set_option maxRecDepth 100000 in
set_option maxHeartbeats 3200000 in
theorem short_tied_nP (C : PC) (hR : Right C.S) (V : PV) (parsed : Bool) (st : St) (c : UInt8) (more : Txt) (rest : List Txt) (vr : Value) (w : World) (hp : Pm w C V (psOf none parsed st)) (hsz : ∀ i (h : i < C.S.flags.length), (C.S.flags[i].name).length ≤ 17179869184) (hG : st.given.length ≤ 1099511627776) (he : st.err = .no) (hr : RestAt C w vr rest) (ht : more.length ≤ 8589934592) (hrs : ∀ a ∈ rest, a.length ≤ 17179869184) (bb : Nat) (hbb : w.heap[bb]? = some (.cells #[.pointer (some ⟨C.F, 0, none⟩)] 87 (0, 0)))
    (i : Nat) (h5 : ¬ (c :: more).take 5 = testT) (hnm : lettered C.S c = some i) (hi : i < C.S.flags.length) (ho : C.S.flags[i].noOpt = []) (hown : ∃ d tt, more = d :: tt ∧ d ≠ 61 ∧ tt ≠ []) :
    Calls Try.prog 105 #[.pointer (some ⟨C.F, 0, none⟩), .string (mkT (c :: more)), vr, (.func (.func 91) #[] #[.pointer (some ⟨bb, 0, none⟩)])] w (ShortEnd none C parsed (give C.S none st i more, [], rest) w) := by
  have has : (mkT (c :: more)).size = more.length + 1 := by rw [mkT_size]; simp
  have hA2 : (1 : Int) ≤ ((mkT (c :: more)).size : Int) := by omega
  have hA3 : ((mkT (c :: more)).size : Int) ≤ 17179869184 := by omega
  have hsl : ∀ W, (Instr.slice 9 (.string (mkT (c :: more))) (some (.int .i64 1)) none none).run Try.prog W = .ok (.string (mkT more)) W := fun W => by
    rw [run_slice_string_l (P := Try.prog) W 9 (mkT (c :: more)) Try.underlying9 .i64 1 (by omega) (by omega)]
    have e : (mkT (c :: more)).extract (1 : Int).toNat (mkT (c :: more)).size = mkT more := mkT_inj (by rw [ext_tailP, mkT_list, mkT_list]; rfl)
    rw [e]
  have HT := Lib.hid (fun W => isTest_any (mkT (c :: more)) (by omega) W)
  have HP := Lib.hid hp
  have HRR := Lib.hid hr
  have hTv : isTest (mkT (c :: more)) = decide ((c :: more).take 5 = testT) := by unfold isTest; rw [mkT_list]
  have hTv : isTest (mkT (c :: more)) = false := by rw [hTv]; exact decide_eq_false h5
  rw [hTv] at HT
  obtain ⟨p0, g0⟩ := mkT_get (l := c :: more) rfl
  have z1 : (((mkT (c :: more)).size : Int) == 0) = false := by simp only [beq_eq_false_iff_ne]; omega
  have HRU := rune_mk c
  have HLK : (Instr.lookup 129 (.map V.smo) (.int .u8 (c.toNat : Int)) true).run Try.prog w = .ok (lookR ((some i).map fun i => C.FL.getD i 0)) w := by
    obtain ⟨n1, hm1⟩ := hp.sm
    have hl := hm1.look Try.kB Try.underlying129 (Try.zP w) (key_byte c)
    rw [shFs_all hR hp.len, hnm] at hl
    exact hl
  simp only [Option.map_none, Option.map_some, lookR] at HLK
  have f11 : w.cell? ⟨C.F, 11, none⟩ = some (.map V.smo) := (cell_blk hp.hF 11).trans rfl
  have f1 : w.cell? ⟨C.F, 1, none⟩ = some (.bool C.S.unknown) := (cell_blk hp.hF 1).trans rfl
  have f2 : w.cell? ⟨C.F, 2, none⟩ = some (.bool false) := (cell_blk hp.hF 2).trans rfl
  obtain ⟨d, tt, hmo, hd, htt⟩ := hown
  subst hmo
  obtain ⟨p1, g1⟩ := mkT_get1 (c := c) (d := d) (t := tt)
  have hA4 : (2 : Int) < ((mkT (c :: d :: tt)).size : Int) := by have h9 := List.length_pos_iff.2 htt; rw [has]; simp only [List.length_cons]; omega
  have c61 : (((mkT (c :: d :: tt))[1].toNat : Int) == 61) = false := nat_beq_false (b := 61) (by rw [g1]; intro e; exact hd (UInt8.toNat_inj.1 e))
  have hA5 : (1 : Int) < ((mkT (c :: d :: tt)).size : Int) := by omega
  clear g1 hd htt
  have HFN := Lib.hid (fun (W : World) (hb : Below w.heap.size w W) => (fun (W : World) (hb : Below w.heap.size w W) (i : Nat) (hi : i < C.S.flags.length) (v : Txt) => parse1_any C hR V parsed st i v ⟨bb, 0, none⟩ W (hp.below hb) hi (hsz i hi) hG he ((cell_blk (block_kept hbb hb) 0).trans rfl)) W hb i hi (d :: tt))
  have l6 : w.cell? ⟨C.FL.getD i 0, 6, none⟩ = some (.string (mkT C.S.flags[i].noOpt)) := (cell_blk (hp.flag i hi) 6).trans rfl
  have po : (mkT C.S.flags[i].noOpt).size = 0 := by rw [mkT_size, ho]; rfl
  have po1 := empty_list po
  have po2 := empty_not po
  clear hp hr hrs hsz hG hR ht has hbb h5 hTv hnm
  generalize mkT (d :: tt) = VL at hsl HFN
  generalize give C.S none st i (d :: tt) = st' at HFN ⊢
  generalize mkT C.S.flags[i].noOpt = NO at l6 po po1 po2
  clear ho
  generalize C.FL.getD i 0 = p at HLK HFN l6
  clear hi
  generalize hTXV : mkT (c :: d :: tt) = TX at hsl hA2 hA3 HT p0 z1 g0 p1 hA4 c61 hA5  ⊢
  go_enter Try.func105, Try.ntmps105
  go_upto_region 3 with (go_at_call 117; refine (HT.out w).mono ?_; rintro e w1 ⟨rfl, rfl⟩)
  go_wp2_with (go_at_call 91; refine (HFN.out w (Below.refl _ _)).mono ?_; rintro e w3 ⟨E, V3, rfl, h3, he3, hf3⟩)
  go_ret3
  exact ⟨E, V3, vr, rfl, h3, he3, hf3, HRR.out.fr hf3⟩

set_option maxRecDepth 100000 in
set_option maxHeartbeats 3200000 in
theorem short_tied_tP (C : PC) (hR : Right C.S) (V : PV) (parsed : Bool) (st : St) (c : UInt8) (more : Txt) (rest : List Txt) (vr : Value) (w : World) (hp : Pm w C V (psOf none parsed st)) (hsz : ∀ i (h : i < C.S.flags.length), (C.S.flags[i].name).length ≤ 17179869184) (hG : st.given.length ≤ 1099511627776) (he : st.err = .no) (hr : RestAt C w vr rest) (ht : more.length ≤ 8589934592) (hrs : ∀ a ∈ rest, a.length ≤ 17179869184) (bb : Nat) (hbb : w.heap[bb]? = some (.cells #[.pointer (some ⟨C.F, 0, none⟩)] 87 (0, 0)))
    (i : Nat) (h5 : ¬ (c :: more).take 5 = testT) (hnm : lettered C.S c = some i) (hi : i < C.S.flags.length) (ho : C.S.flags[i].noOpt = []) (hown : more.length = 1) :
    Calls Try.prog 105 #[.pointer (some ⟨C.F, 0, none⟩), .string (mkT (c :: more)), vr, (.func (.func 91) #[] #[.pointer (some ⟨bb, 0, none⟩)])] w (ShortEnd none C parsed (give C.S none st i more, [], rest) w) := by
  have has : (mkT (c :: more)).size = more.length + 1 := by rw [mkT_size]; simp
  have hA2 : (1 : Int) ≤ ((mkT (c :: more)).size : Int) := by omega
  have hA3 : ((mkT (c :: more)).size : Int) ≤ 17179869184 := by omega
  have hsl : ∀ W, (Instr.slice 9 (.string (mkT (c :: more))) (some (.int .i64 1)) none none).run Try.prog W = .ok (.string (mkT more)) W := fun W => by
    rw [run_slice_string_l (P := Try.prog) W 9 (mkT (c :: more)) Try.underlying9 .i64 1 (by omega) (by omega)]
    have e : (mkT (c :: more)).extract (1 : Int).toNat (mkT (c :: more)).size = mkT more := mkT_inj (by rw [ext_tailP, mkT_list, mkT_list]; rfl)
    rw [e]
  have HT := Lib.hid (fun W => isTest_any (mkT (c :: more)) (by omega) W)
  have HP := Lib.hid hp
  have HRR := Lib.hid hr
  have hTv : isTest (mkT (c :: more)) = decide ((c :: more).take 5 = testT) := by unfold isTest; rw [mkT_list]
  have hTv : isTest (mkT (c :: more)) = false := by rw [hTv]; exact decide_eq_false h5
  rw [hTv] at HT
  obtain ⟨p0, g0⟩ := mkT_get (l := c :: more) rfl
  have z1 : (((mkT (c :: more)).size : Int) == 0) = false := by simp only [beq_eq_false_iff_ne]; omega
  have HRU := rune_mk c
  have HLK : (Instr.lookup 129 (.map V.smo) (.int .u8 (c.toNat : Int)) true).run Try.prog w = .ok (lookR ((some i).map fun i => C.FL.getD i 0)) w := by
    obtain ⟨n1, hm1⟩ := hp.sm
    have hl := hm1.look Try.kB Try.underlying129 (Try.zP w) (key_byte c)
    rw [shFs_all hR hp.len, hnm] at hl
    exact hl
  simp only [Option.map_none, Option.map_some, lookR] at HLK
  have f11 : w.cell? ⟨C.F, 11, none⟩ = some (.map V.smo) := (cell_blk hp.hF 11).trans rfl
  have f1 : w.cell? ⟨C.F, 1, none⟩ = some (.bool C.S.unknown) := (cell_blk hp.hF 1).trans rfl
  have f2 : w.cell? ⟨C.F, 2, none⟩ = some (.bool false) := (cell_blk hp.hF 2).trans rfl
  have hA4 : ((mkT (c :: more)).size : Int) = 2 := by rw [has]; omega
  clear hown
  have HFN := Lib.hid (fun (W : World) (hb : Below w.heap.size w W) => (fun (W : World) (hb : Below w.heap.size w W) (i : Nat) (hi : i < C.S.flags.length) (v : Txt) => parse1_any C hR V parsed st i v ⟨bb, 0, none⟩ W (hp.below hb) hi (hsz i hi) hG he ((cell_blk (block_kept hbb hb) 0).trans rfl)) W hb i hi more)
  have l6 : w.cell? ⟨C.FL.getD i 0, 6, none⟩ = some (.string (mkT C.S.flags[i].noOpt)) := (cell_blk (hp.flag i hi) 6).trans rfl
  have po : (mkT C.S.flags[i].noOpt).size = 0 := by rw [mkT_size, ho]; rfl
  have po1 := empty_list po
  have po2 := empty_not po
  clear hp hr hrs hsz hG hR ht has hbb h5 hTv hnm
  generalize mkT more = VL at hsl HFN
  generalize give C.S none st i more = st' at HFN ⊢
  generalize mkT C.S.flags[i].noOpt = NO at l6 po po1 po2
  clear ho
  generalize C.FL.getD i 0 = p at HLK HFN l6
  clear hi
  generalize hTXV : mkT (c :: more) = TX at hsl hA2 hA3 HT p0 z1 g0 hA4  ⊢
  go_enter Try.func105, Try.ntmps105
  go_upto_region 3 with (go_at_call 117; refine (HT.out w).mono ?_; rintro e w1 ⟨rfl, rfl⟩)
  go_wp2_with (go_at_call 91; refine (HFN.out w (Below.refl _ _)).mono ?_; rintro e w3 ⟨E, V3, rfl, h3, he3, hf3⟩)
  go_ret3
  exact ⟨E, V3, vr, rfl, h3, he3, hf3, HRR.out.fr hf3⟩

set_option maxRecDepth 100000 in
set_option maxHeartbeats 3200000 in
theorem short_needP (C : PC) (hR : Right C.S) (V : PV) (parsed : Bool) (st : St) (c : UInt8) (more : Txt) (rest : List Txt) (vr : Value) (w : World) (hp : Pm w C V (psOf none parsed st)) (hsz : ∀ i (h : i < C.S.flags.length), (C.S.flags[i].name).length ≤ 17179869184) (hG : st.given.length ≤ 1099511627776) (he : st.err = .no) (hr : RestAt C w vr rest) (ht : more.length ≤ 8589934592) (hrs : ∀ a ∈ rest, a.length ≤ 17179869184) (bb : Nat) (hbb : w.heap[bb]? = some (.cells #[.pointer (some ⟨C.F, 0, none⟩)] 87 (0, 0)))
    (i : Nat) (h5 : ¬ (c :: more).take 5 = testT) (hnm : lettered C.S c = some i) (hi : i < C.S.flags.length) (ho : C.S.flags[i].noOpt = []) (hmr : more = []) (hr0 : rest = []) (hown : more.length = 0) :
    Calls Try.prog 105 #[.pointer (some ⟨C.F, 0, none⟩), .string (mkT (c :: more)), vr, (.func (.func 91) #[] #[.pointer (some ⟨bb, 0, none⟩)])] w (ShortEnd none C parsed ({ st with err := .need i (runeT c) (c :: more) }, more, []) w) := by
  have has : (mkT (c :: more)).size = more.length + 1 := by rw [mkT_size]; simp
  have hA2 : (1 : Int) ≤ ((mkT (c :: more)).size : Int) := by omega
  have hA3 : ((mkT (c :: more)).size : Int) ≤ 17179869184 := by omega
  have hsl : ∀ W, (Instr.slice 9 (.string (mkT (c :: more))) (some (.int .i64 1)) none none).run Try.prog W = .ok (.string (mkT more)) W := fun W => by
    rw [run_slice_string_l (P := Try.prog) W 9 (mkT (c :: more)) Try.underlying9 .i64 1 (by omega) (by omega)]
    have e : (mkT (c :: more)).extract (1 : Int).toNat (mkT (c :: more)).size = mkT more := mkT_inj (by rw [ext_tailP, mkT_list, mkT_list]; rfl)
    rw [e]
  have HT := Lib.hid (fun W => isTest_any (mkT (c :: more)) (by omega) W)
  have HP := Lib.hid hp
  have HRR := Lib.hid hr
  have hTv : isTest (mkT (c :: more)) = decide ((c :: more).take 5 = testT) := by unfold isTest; rw [mkT_list]
  have hTv : isTest (mkT (c :: more)) = false := by rw [hTv]; exact decide_eq_false h5
  rw [hTv] at HT
  obtain ⟨p0, g0⟩ := mkT_get (l := c :: more) rfl
  have z1 : (((mkT (c :: more)).size : Int) == 0) = false := by simp only [beq_eq_false_iff_ne]; omega
  have HRU := rune_mk c
  have HLK : (Instr.lookup 129 (.map V.smo) (.int .u8 (c.toNat : Int)) true).run Try.prog w = .ok (lookR ((some i).map fun i => C.FL.getD i 0)) w := by
    obtain ⟨n1, hm1⟩ := hp.sm
    have hl := hm1.look Try.kB Try.underlying129 (Try.zP w) (key_byte c)
    rw [shFs_all hR hp.len, hnm] at hl
    exact hl
  simp only [Option.map_none, Option.map_some, lookR] at HLK
  have f11 : w.cell? ⟨C.F, 11, none⟩ = some (.map V.smo) := (cell_blk hp.hF 11).trans rfl
  have f1 : w.cell? ⟨C.F, 1, none⟩ = some (.bool C.S.unknown) := (cell_blk hp.hF 1).trans rfl
  have f2 : w.cell? ⟨C.F, 2, none⟩ = some (.bool false) := (cell_blk hp.hF 2).trans rfl
  have hA4 : ((mkT (c :: more)).size : Int) = 1 := by rw [has]; omega
  clear hown
  have l6 : w.cell? ⟨C.FL.getD i 0, 6, none⟩ = some (.string (mkT C.S.flags[i].noOpt)) := (cell_blk (hp.flag i hi) 6).trans rfl
  have po : (mkT C.S.flags[i].noOpt).size = 0 := by rw [mkT_size, ho]; rfl
  have po1 := empty_list po
  have po2 := empty_not po
  subst hr0
  obtain ⟨Ar, cr, rfl, hr1⟩ := hr
  have HPI : Hid (∃ p, p = C.FL.getD i 0) := ⟨_, rfl⟩
  clear hp hr1 hrs hsz hG hR ht has hbb h5 hTv hnm
  generalize mkT C.S.flags[i].noOpt = NO at l6 po po1 po2
  obtain ⟨p, hpe⟩ := HPI.out
  rw [← hpe] at HLK l6
  have HPE := Lib.hid hpe
  have HRV := Lib.hid HRU
  clear hi ho hpe HPI hmr
  generalize hTXV : mkT (c :: more) = TX at hsl hA2 hA3 HT p0 z1 g0 hA4  ⊢
  go_enter Try.func105, Try.ntmps105
  go_upto_region 3 with (go_at_call 117; refine (HT.out w).mono ?_; rintro e w1 ⟨rfl, rfl⟩)
  go_wp2
  go_ret3
  exact ⟨_, V, _, rfl, HP.out.below ((Below.refl _ _).alloc (Nat.le_refl _) _), ⟨_, rfl, by rw [hTXV, ← HRV.out, ← HPE.out]; exact heap_alloc_new _ _⟩, (Fr.of_below ((Below.refl _ _).alloc (Nat.le_refl _) _)), HRR.out.below ((Below.refl _ _).alloc (Nat.le_refl _) _)⟩

set_option maxRecDepth 100000 in
set_option maxHeartbeats 3200000 in
theorem short_nextP (C : PC) (hR : Right C.S) (V : PV) (parsed : Bool) (st : St) (c : UInt8) (more : Txt) (rest : List Txt) (vr : Value) (w : World) (hp : Pm w C V (psOf none parsed st)) (hsz : ∀ i (h : i < C.S.flags.length), (C.S.flags[i].name).length ≤ 17179869184) (hG : st.given.length ≤ 1099511627776) (he : st.err = .no) (hr : RestAt C w vr rest) (ht : more.length ≤ 8589934592) (hrs : ∀ a ∈ rest, a.length ≤ 17179869184) (bb : Nat) (hbb : w.heap[bb]? = some (.cells #[.pointer (some ⟨C.F, 0, none⟩)] 87 (0, 0)))
    (i : Nat) (h5 : ¬ (c :: more).take 5 = testT) (hnm : lettered C.S c = some i) (hi : i < C.S.flags.length) (ho : C.S.flags[i].noOpt = []) (hmr : more = []) (a : Txt) (rs : List Txt) (hr0 : rest = a :: rs) (hown : more.length = 0) :
    Calls Try.prog 105 #[.pointer (some ⟨C.F, 0, none⟩), .string (mkT (c :: more)), vr, (.func (.func 91) #[] #[.pointer (some ⟨bb, 0, none⟩)])] w (ShortEnd none C parsed (give C.S none st i a, more, rs) w) := by
  have has : (mkT (c :: more)).size = more.length + 1 := by rw [mkT_size]; simp
  have hA2 : (1 : Int) ≤ ((mkT (c :: more)).size : Int) := by omega
  have hA3 : ((mkT (c :: more)).size : Int) ≤ 17179869184 := by omega
  have hsl : ∀ W, (Instr.slice 9 (.string (mkT (c :: more))) (some (.int .i64 1)) none none).run Try.prog W = .ok (.string (mkT more)) W := fun W => by
    rw [run_slice_string_l (P := Try.prog) W 9 (mkT (c :: more)) Try.underlying9 .i64 1 (by omega) (by omega)]
    have e : (mkT (c :: more)).extract (1 : Int).toNat (mkT (c :: more)).size = mkT more := mkT_inj (by rw [ext_tailP, mkT_list, mkT_list]; rfl)
    rw [e]
  have HT := Lib.hid (fun W => isTest_any (mkT (c :: more)) (by omega) W)
  have HP := Lib.hid hp
  have HRR := Lib.hid hr
  have hTv : isTest (mkT (c :: more)) = decide ((c :: more).take 5 = testT) := by unfold isTest; rw [mkT_list]
  have hTv : isTest (mkT (c :: more)) = false := by rw [hTv]; exact decide_eq_false h5
  rw [hTv] at HT
  obtain ⟨p0, g0⟩ := mkT_get (l := c :: more) rfl
  have z1 : (((mkT (c :: more)).size : Int) == 0) = false := by simp only [beq_eq_false_iff_ne]; omega
  have HRU := rune_mk c
  have HLK : (Instr.lookup 129 (.map V.smo) (.int .u8 (c.toNat : Int)) true).run Try.prog w = .ok (lookR ((some i).map fun i => C.FL.getD i 0)) w := by
    obtain ⟨n1, hm1⟩ := hp.sm
    have hl := hm1.look Try.kB Try.underlying129 (Try.zP w) (key_byte c)
    rw [shFs_all hR hp.len, hnm] at hl
    exact hl
  simp only [Option.map_none, Option.map_some, lookR] at HLK
  have f11 : w.cell? ⟨C.F, 11, none⟩ = some (.map V.smo) := (cell_blk hp.hF 11).trans rfl
  have f1 : w.cell? ⟨C.F, 1, none⟩ = some (.bool C.S.unknown) := (cell_blk hp.hF 1).trans rfl
  have f2 : w.cell? ⟨C.F, 2, none⟩ = some (.bool false) := (cell_blk hp.hF 2).trans rfl
  have hA4 : ((mkT (c :: more)).size : Int) = 1 := by rw [has]; omega
  clear hown
  have HFN := Lib.hid (fun (W : World) (hb : Below w.heap.size w W) => (fun (W : World) (hb : Below w.heap.size w W) (i : Nat) (hi : i < C.S.flags.length) (v : Txt) => parse1_any C hR V parsed st i v ⟨bb, 0, none⟩ W (hp.below hb) hi (hsz i hi) hG he ((cell_blk (block_kept hbb hb) 0).trans rfl)) W hb i hi a)
  have l6 : w.cell? ⟨C.FL.getD i 0, 6, none⟩ = some (.string (mkT C.S.flags[i].noOpt)) := (cell_blk (hp.flag i hi) 6).trans rfl
  have po : (mkT C.S.flags[i].noOpt).size = 0 := by rw [mkT_size, ho]; rfl
  have po1 := empty_list po
  have po2 := empty_not po
  subst hr0
  obtain ⟨br, ro, cr, rfl, hrc, hrl, hrm, hr9⟩ := hr.head
  have hrp : 0 < rs.length + 1 := by omega
  have i1 : (1 : Int) ≤ (rs.length : Int) + 1 := by omega
  have i2 : ((rs.length : Int) + 1) ≤ (cr : Int) := by omega
  clear hp hr hrs hsz hG hR ht has hbb h5 hTv hnm
  generalize give C.S none st i a = st' at HFN ⊢
  generalize mkT a = AA at HFN hrc
  generalize mkT C.S.flags[i].noOpt = NO at l6 po po1 po2
  clear ho hmr hr9
  generalize C.FL.getD i 0 = p at HLK HFN l6
  clear hi
  generalize hTXV : mkT (c :: more) = TX at hsl hA2 hA3 HT p0 z1 g0 hA4  ⊢
  by_cases hc1 : cr = 1
  · go_enter Try.func105, Try.ntmps105
    go_upto_region 3 with (go_at_call 117; refine (HT.out w).mono ?_; rintro e w1 ⟨rfl, rfl⟩)
    go_wp2_with (go_at_call 91; refine (HFN.out w (Below.refl _ _)).mono ?_; rintro e w3 ⟨E, V3, rfl, h3, he3, hf3⟩)
    go_ret3
    exact ⟨E, V3, _, rfl, h3, he3, hf3, (HRR.out.tail1 hc1).fr hf3⟩
  · go_enter Try.func105, Try.ntmps105
    go_upto_region 3 with (go_at_call 117; refine (HT.out w).mono ?_; rintro e w1 ⟨rfl, rfl⟩)
    go_wp2_with (go_at_call 91; refine (HFN.out w (Below.refl _ _)).mono ?_; rintro e w3 ⟨E, V3, rfl, h3, he3, hf3⟩)
    go_ret3
    exact ⟨E, V3, _, rfl, h3, he3, hf3, HRR.out.tail.fr hf3⟩
end Go.Proofs.Ytgmhhdpggnmipaa.E
