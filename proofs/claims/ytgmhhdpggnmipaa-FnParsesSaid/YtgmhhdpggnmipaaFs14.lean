/- bare's loop over arguments, over this seat's program. Written by gen_fs14.py. -/
import Derived.Test.YtgmhhdpggnmipaaFs13
import Derived.Test.YtgmhhdpggnmipaaAp
namespace Go.Proofs.Ytgmhhdpggnmipaa.E
open Go.RowKit Go.Proofs
open Go.Maps (Keyed)
set_option linter.unusedVariables false
set_option linter.unusedSimpArgs false

theorem Try.infoS14 : (Try.prog.info? 9).map (fun i => (i.zero, i.size, i.bytes)) = some (some (.string ⟨#[]⟩), 1, 16) := by kernel_rfl
def lenV : Value → Nat
  | .slice _ n _ => n
  | _ => 0
def wt : List Txt → Nat
  | [] => 0
  | a :: r => a.length + 1 + wt r
theorem wt_app (p l : List Txt) : wt (p ++ l) = wt p + wt l := by
  induction p with
  | nil => simp [wt]
  | cons a r ih => simp only [List.cons_append, wt, ih]; omega
theorem wt_suf {l l' : List Txt} (h : l <:+ l') : wt l ≤ wt l' := by
  obtain ⟨p, rfl⟩ := h
  rw [wt_app]; omega
theorem wt_len (l : List Txt) : l.length ≤ wt l := by
  induction l with
  | nil => simp [wt]
  | cons a r ih => simp only [List.length_cons, wt]; omega
theorem oneP_grow (S : SetP) (m : Option (List Txt)) (st : St) (arg : Txt) (rest : List Txt) : (oneP S m st arg rest).1.given.length ≤ st.given.length + arg.length + 1 ∧ (oneP S m st arg rest).2 <:+ rest := by
  unfold oneP
  split
  · have h := longP_grow S m st arg rest
    exact ⟨by omega, h.2⟩
  · have h := shortsP_grow S m rest (arg.drop 1) st rest (List.suffix_refl _)
    have := List.length_drop (i := 1) (l := arg)
    exact ⟨by omega, h.2⟩
theorem give_args (S : SetP) (m : Option (List Txt)) (st : St) (i : Nat) (v : Txt) : (give S m st i v).args = st.args := by
  unfold give
  split <;> split <;> rfl
theorem shortP_args (S : SetP) (m : Option (List Txt)) (st : St) (c : UInt8) (more : Txt) (rest : List Txt) : (shortP S m st c more rest).1.args = st.args := by
  unfold shortP
  repeat' split
  all_goals first | rfl | exact give_args _ _ _ _ _
theorem longP_args (S : SetP) (m : Option (List Txt)) (st : St) (arg : Txt) (rest : List Txt) : (longP S m st arg rest).1.args = st.args := by
  unfold longP
  simp only
  repeat' split
  all_goals first | rfl | exact give_args _ _ _ _ _
theorem shortsP_args (S : SetP) (m : Option (List Txt)) (rest : List Txt) : ∀ (t : Txt) (st : St) (left : List Txt), (shortsP S m rest t st left).1.args = st.args
  | [], st, left => rfl
  | c :: more, st, left => by
    have h1 := shortP_args S m st c more rest
    simp only [shortsP]
    split
    · split
      · exact h1
      · rw [shortsP_args S m rest more]; exact h1
    · exact h1
theorem RestAt.news {C : PC} {w : World} {A : Option Addr} {n c : Nat} {rs : List Txt} (h : RestAt C w (.slice A n c) rs) : n = rs.length ∧ (A = none → n = 0 ∧ c = 0) ∧ ∀ ad, A = some ad → ∀ j u, (aCells rs)[j]? = some u → w.cell? (ad.add j) = some u := by
  obtain ⟨A', cap', e, h1, h2, h3, h4, h5⟩ := h
  simp only [Value.slice.injEq] at e
  obtain ⟨rfl, rfl, rfl⟩ := e
  refine ⟨rfl, fun e => ?_, fun ad e j u hj => ?_⟩
  · have := h4 e
    refine ⟨by omega, this⟩
  · have hl : j < rs.length := by
      by_cases q : j < rs.length
      · exact q
      · rw [List.getElem?_eq_none (by rw [aCells_len]; omega)] at hj; cases hj
    obtain ⟨b, o, e2, hc⟩ := h1 j (by simpa using hl)
    rw [e] at e2
    cases e2
    have hu : u = .string (tx (rs.map mkT) j) := by
      unfold aCells at hj
      rw [List.getElem?_map, List.getElem?_eq_getElem hl] at hj
      rw [tx_lt (by simpa using hl)]
      simpa using hj.symm
    have hadd : (⟨b, o, none⟩ : Addr).add j = ⟨b, o + j, none⟩ := by unfold Addr.add; split <;> simp_all
    rw [hadd, hu, hc]
theorem slice_tail (w : World) (a : Addr) (n cap : Nat) : (Instr.slice 25 (.slice (some a) (n + 1) cap) (some (.int .i64 1)) none none).run Try.prog w = .ok (sliced (some a) 1 (n + 1) cap 1) w := by
  rw [run_slice_l (P := Try.prog) w 25 (some a) (n + 1) cap (by kernel_rfl) .i64 1 (by omega) (by omega)]
  have e : (sizeOf (Try.prog.elem 25)).run Try.prog w = .ok 1 w := by kernel_rfl
  rw [e]; rfl
theorem RestAt.cut {C : PC} {vr : Value} {a : Txt} {rs : List Txt} {w : World} (h : RestAt C w vr (a :: rs)) : ∃ b o cap, vr = .slice (some ⟨b, o, none⟩) (rs.length + 1) cap ∧ w.cell? ⟨b, o, none⟩ = some (.string (mkT a)) ∧ ∃ A1 c1, (∀ W, (Instr.slice 25 (.slice (some ⟨b, o, none⟩) (rs.length + 1) cap) (some (.int .i64 1)) none none).run Try.prog W = .ok (.slice A1 rs.length c1) W) ∧ ∀ W, RestAt C W vr (a :: rs) → RestAt C W (.slice A1 rs.length c1) rs := by
  obtain ⟨b, o, cap, rfl, hc, _, _, _⟩ := h.head
  refine ⟨b, o, cap, rfl, hc, ?_⟩
  by_cases h1 : cap = 1
  · subst h1
    exact ⟨some ⟨b, o, none⟩, 0, fun W => slice_tail W _ _ _, fun W hW => hW.tail1 rfl⟩
  · refine ⟨some ⟨b, o + 1, none⟩, cap - 1, fun W => ?_, fun W hW => hW.tail⟩
    rw [slice_tail]
    simp [sliced, h1, Addr.add]
theorem Pm.push {w wa w1 : World} {C : PC} {V : PV} {m : Option (List Txt)} {parsed : Bool} {st : St} (h : Pm w C V (psOf m parsed st)) (hal : Below w.heap.size w wa) (hg : wa.grownBy w1 V.av.ownBlock) {v' : Value} (L : List Txt)
    (hown : w1.ownsRow C.B1 9 1 v' (st.args.length + L.length) (aCells st.args ++ aCells L)) (hfar : ∀ b, v'.ownBlock = some b → V.av.ownBlock = some b ∨ b = wa.heap.size) :
    Pm (w1.setCell ⟨C.F, 12, none⟩ v') C { V with av := v' } (psOf m parsed { st with args := st.args ++ L }) ∧ Fr C w (w1.setCell ⟨C.F, 12, none⟩ v') := by
  have ham : ({ V with av := v' } : PV).act = V.act ∧ ({ V with av := v' } : PV).na = V.na ∧ V.av.ownBlock ≠ V.act ∨ ∃ f, PMap w1 Try.prog 113 enT ({ V with av := v' } : PV).act ({ V with av := v' } : PV).na f := by
    cases ha : V.act with
    | none =>
      obtain ⟨f3, hm3⟩ := h.am
      rw [ha] at hm3
      refine .inr ⟨f3, ?_⟩
      exact hm3.kept fun b e => by cases e
    | some b => exact .inl ⟨rfl, rfl, (ordr_ne h).2.1 b ha⟩
  refine h.grow (V' := { V with av := v' }) (s' := psOf m parsed { st with args := st.args ++ L }) hal hg (.inr (.inr rfl)) 12 v' rfl rfl rfl rfl rfl rfl rfl ham (.inl ⟨rfl, rfl, fun b e e2 => ?_⟩) h.cnt (.inr ?_) (fun b e => h.lowm.2.2.2 b e) (.inr fun b hk e => by
    rcases hfar b e with q | q
    · exact (h.kp b hk).2.1 q
    · obtain ⟨cs, T, fr, hc, _⟩ := (h.kp b hk).1; have := lt_of_block hc; have := hal.size; omega)
  · exact (ordr_ne h).2.2 b e2 e
  · have e : aCells (st.args ++ L) = aCells st.args ++ aCells L := by simp [aCells]
    show w1.ownsRow C.B1 9 1 v' (st.args ++ L).length (aCells (st.args ++ L))
    rw [e, List.length_append]; exact hown

/-- How it stands between two arguments. -/
structure ArgRelP (C : PC) (parsed : Bool) (w : World) (Q : St) (L : List Txt) (st : St) (V : PV) (v : Value) (W : World) : Prop where
  pm : Pm W C V (psOf none parsed st)
  er : st.err = .no
  cnt : st.given.length + wt L ≤ 1099511627776
  acnt : st.args.length + L.length ≤ 1099511627776
  lef : RestAt C W v L
  fr : Fr C w W
  is : goes C.S none st L = Q
  len : ∀ a ∈ L, a.length ≤ 8589934592
theorem ArgRelP.fin {C : PC} {parsed : Bool} {w W : World} {Q : St} {L : List Txt} {st : St} {V : PV} {v : Value} (h : ArgRelP C parsed w Q L st V v W) (hl : L = []) : GiveEnd none C parsed Q w (.returned .nilIface) W := by
  have e := h.is
  rw [hl, goes_nil] at e
  exact ⟨_, V, rfl, by rw [← e]; exact h.pm, by rw [← e]; show ErrAt C _ _ st.err; rw [h.er]; rfl, h.fr⟩
theorem bare_shape (a : Txt) : (a = [] ∧ bareB a = true) ∨ (∃ c r, a = c :: r ∧ c ≠ 45 ∧ bareB a = true) ∨ (a = [45] ∧ bareB a = true) ∨ (a = [45, 45] ∧ bareB a = false) ∨ (∃ t, a = 45 :: 45 :: t ∧ t ≠ [] ∧ bareB a = false) ∨ (∃ d t, a = 45 :: d :: t ∧ d ≠ 45 ∧ bareB a = false) := by
  match a with
  | [] => exact .inl ⟨rfl, rfl⟩
  | c :: r =>
    by_cases hc : c = 45
    · subst hc
      match r with
      | [] => exact .inr (.inr (.inl ⟨rfl, rfl⟩))
      | d :: t =>
        have hb : bareB (45 :: d :: t) = false := by simp [bareB]
        by_cases hd : d = 45
        · subst hd
          match t with
          | [] => exact .inr (.inr (.inr (.inl ⟨rfl, hb⟩)))
          | x :: y => exact .inr (.inr (.inr (.inr (.inl ⟨x :: y, rfl, by simp, hb⟩))))
        · exact .inr (.inr (.inr (.inr (.inr ⟨d, t, rfl, hd, hb⟩))))
    · exact .inr (.inl ⟨c, r, rfl, hc, by simp [bareB, hc]⟩)

set_option maxRecDepth 100000 in
set_option maxHeartbeats 6400000 in
theorem args_anyP (C : PC) (hR : Right C.S) (V : PV) (parsed : Bool) (st : St) (L : List Txt) (vr : Value) (w : World) (hp : Pm w C V (psOf none parsed st)) (hsz : ∀ i (h : i < C.S.flags.length), (C.S.flags[i].name).length ≤ 17179869184) (hG : st.given.length + wt L ≤ 1099511627776) (hGA : st.args.length + L.length ≤ 1099511627776) (he : st.err = .no) (hr : RestAt C w vr L) (hrs : ∀ a ∈ L, a.length ≤ 8589934592) (bb : Nat) (hbb : w.heap[bb]? = some (.cells #[.pointer (some ⟨C.F, 0, none⟩)] 87 (0, 0))) :
    Calls Try.prog 92 #[.pointer (some ⟨C.F, 0, none⟩), vr, (.func (.func 91) #[] #[.pointer (some ⟨bb, 0, none⟩)])] w (GiveEnd none C parsed (goes C.S none st L) w) := by
  obtain ⟨ti, gi, hz0, hz1, hz2⟩ := info_parts Try.infoS14
  have HR0 : Hid (ArgRelP C parsed w (goes C.S none st L) L st V vr w) := ⟨hp, he, hG, hGA, hr, Fr.refl _ _, rfl, hrs⟩
  have HSH := Lib.hid (fun (st : St) (t : Txt) (rest : List Txt) (V : PV) (vr : Value) (W : World) (hp : Pm W C V (psOf none parsed st)) (hG : st.given.length + t.length ≤ 1099511627776) (he : st.err = .no) (hr : RestAt C W vr rest) (ht : t.length ≤ 8589934592) (hrs : ∀ a ∈ rest, a.length ≤ 17179869184) (hf : Fr C w W) => shorts_anyP C hR V parsed st t rest vr W hp hsz hG he hr ht hrs bb (hf.keep _ _ _ _ hbb (by decide) (by decide) (by decide) (by decide) (by decide) (fun h => absurd h (by decide))))
  have HLO := Lib.hid (fun (st : St) (t : Txt) (rest : List Txt) (V : PV) (vr : Value) (W : World) (hp : Pm W C V (psOf none parsed st)) (hG : st.given.length ≤ 1099511627776) (he : st.err = .no) (hr : RestAt C W vr rest) (ht : t.length ≤ 8589934592) (hrs : ∀ a ∈ rest, a.length ≤ 17179869184) (hf : Fr C w W) => long_anyP C hR V parsed st t rest vr W hp hsz hG he hr ht hrs bb (hf.keep _ _ _ _ hbb (by decide) (by decide) (by decide) (by decide) (by decide) (fun h => absurd h (by decide))))
  clear hp hsz hG hGA he hr hrs hR
  generalize goes C.S none st L = Q at HR0 ⊢
  go_enter Try.func92, Try.ntmps92
  go_wp2
  go_loopw [1, 6] (fun v E W => ∃ (L : List Txt) (st' : St) (V' : PV) (A : Option Addr) (c : Nat), E = .nilIface ∧ v = .slice A L.length c ∧ Hid (ArgRelP C parsed w Q L st' V' v W)) (fun v _ _ => lenV v)
  case atStart =>
    obtain ⟨A, c, hv, _⟩ := HR0.out.lef
    exact ⟨L, st, V, A, c, rfl, hv, HR0⟩
  case round =>
    clear HR0
    obtain ⟨L, st', V', A, c, rfl, rfl, HX⟩ := hrel
    cases L with
    | nil =>
      have i0 : ((([] : List Txt).length : Nat) : Int) = 0 := rfl
      have i1 : ([] : List Txt).length = 0 := rfl
      go_wp2
      go_ret
      exact HX.out.fin rfl
    | cons arg rs =>
      have i0 : (0 : Int) < (((arg :: rs).length : Nat) : Int) := by simp only [List.length_cons]; omega
      have h := HX.out
      obtain ⟨b, o, cap, hve, hc, A1, c1, hsl, hcut⟩ := h.lef.cut
      simp only [Value.slice.injEq] at hve
      obtain ⟨rfl, _, rfl⟩ := hve
      simp only [List.length_cons] at i0 ⊢
      have hal : arg.length ≤ 8589934592 := h.len arg (by simp)
      have his := h.is
      rw [goes_cons] at his
      have hcn := h.cnt
      have hac := h.acnt
      simp only [wt, List.length_cons] at hcn hac
      have hb1 : C.B1 ≤ wr.heap.size := h.pm.low.2.2.2.2.2.2
      have f12 : wr.cell? ⟨C.F, 12, none⟩ = some V'.av := (cell_blk h.pm.hF 12).trans rfl
      have f15 : wr.cell? ⟨C.F, 15, none⟩ = some (.bool (!C.S.plain)) := (cell_blk h.pm.hF 15).trans rfl
      have zF := free_blk h.pm.hF
      have lF := lt_of_block h.pm.hF
      have hsA : (mkT arg).size = arg.length := mkT_size arg
      obtain ⟨Av, cv, hav, _⟩ := own_row h.pm.avr
      have hav : V'.av = .slice Av st'.args.length cv := hav
      rcases bare_shape arg with ⟨e, hbr⟩ | ⟨c5, r5, e, hc45, hbr⟩ | ⟨e, hbr⟩ | ⟨e, hbr⟩ | ⟨t, e, ht, hbr⟩ | ⟨d, t, e, hd, hbr⟩
      · have HAV := Lib.hid hav
        have HPM := Lib.hid h.pm
        have HOWN : Hid ((wr.alloc (.cells #[.string (mkT arg)] 9)).ownsRow C.B1 9 1 (.slice Av st'.args.length cv) st'.args.length (aCells st'.args)) := by
          have q := h.pm.avr
          rw [hav] at q
          exact own_kept q ((Below.refl _ _).alloc (Nat.le_refl _) _)
        have HPA := Lib.hid (h.pm.below ((Below.refl _ _).alloc (Nat.le_refl _) (.cells #[.string (mkT arg)] 9)))
        have HLE := Lib.hid (hcut wr h.lef)
        have HFR := Lib.hid h.fr
        have her := h.er
        have hlen := h.len
        rw [if_pos hbr] at his
        rw [hav] at f12
        have x0 : ((mkT arg).size : Int) = 0 := by rw [hsA, e]; rfl
        clear HX h hbr hav hcut
        generalize hARG : mkT arg = ARG at hc HOWN HPA x0
        have HARG := Lib.hid hARG
        clear hARG
        by_cases hpl : C.S.plain = true
        · rw [if_pos hpl] at his
          rw [hpl] at f15
          go_wp2_with (first
            | (at_builtin; refine wpList_append_far rfl (.tmp 38) (.tmp 40) 25 rfl C.B1 9 ti _ 1 16 Try.underlying25 gi hz0 hz1 hz2 rfl (by decide) _ st'.args.length _ rfl HOWN.out (some ⟨wr.heap.size, 0, none⟩) 1 1 [.string ARG] rfl (fun h => by cases h) rfl (fun ad e => by cases e; exact World.news_of_block (cs := #[.string ARG]) (t := 9) (fr := (0, 0)) (heap_alloc_new wr _)) (by simp [Value.oneCell']) (by unfold maxLen; omega) (by omega) (by simp; omega) ?_; intro v6 w6 hown6 hg6 hfar6; have HQ6 := HPM.out.push ((Below.refl _ _).alloc (Nat.le_refl _) (.cells #[.string ARG] 9)) (by rw [HAV.out]; exact hg6) [arg] (by rw [show aCells [arg] = [.string (mkT arg)] from rfl, HARG.out]; exact hown6) (by rw [HAV.out]; exact hfar6); obtain ⟨A6, c6, hv6, _⟩ := own_row hown6; subst hv6; have HP6 := Lib.hid HQ6.1; have HF6 := Lib.hid HQ6.2; have k6 := grown_blk hg6 (HPA.out).hF (fun e => own_far3 HOWN.out HPA.out.hF (by decide) e.symm); have g12 : w6.cell? ⟨C.F, 12, none⟩ = some (.slice Av st'.args.length cv) := ((cell_blk k6 12).trans (by show some V'.av = _; rw [HAV.out])); have zF6 := free_blk k6; have lF6 := lt_of_block k6; clear HQ6 hown6 hg6 hfar6 k6; have HN7 : Hid (st'.args.length + 1 = (st'.args ++ [arg]).length) := (by show _ = _; simp); have HNW := Lib.hid (((HLE.out.fr HF6.out).news).2); have HP7 := HP6; have HOWN7 : Hid ((w6.setCell ⟨C.F, 12, none⟩ (.slice A6 (st'.args.length + 1) c6)).ownsRow C.B1 9 1 (.slice A6 (st'.args.length + 1) c6) (st'.args ++ [arg]).length (aCells (st'.args ++ [arg]))) := HP6.out.avr; have HB17 : Hid (C.B1 ≤ (w6.setCell ⟨C.F, 12, none⟩ (.slice A6 (st'.args.length + 1) c6)).heap.size) := HP6.out.low.2.2.2.2.2.2; have HAV7 : Hid (({ V' with av := .slice A6 (st'.args.length + 1) c6 } : PV).av = .slice A6 (st'.args.length + 1) c6) := rfl; have hn7 : (st'.args ++ [arg]).length = st'.args.length + 1 := (by simp))
            | (at_builtin; refine wpList_append_far rfl (.tmp 48) (.tmp 49) 25 rfl C.B1 9 ti _ 1 16 Try.underlying25 gi hz0 hz1 hz2 rfl (by decide) _ (st'.args ++ [arg]).length _ rfl HOWN7.out A1 rs.length c1 (aCells rs) rfl HNW.out.1 (by rw [aCells_len, Nat.mul_one]) HNW.out.2 (by intro u hu; unfold aCells at hu; obtain ⟨t9, _, rfl⟩ := List.mem_map.1 hu; rfl) (by unfold maxLen; omega) (by omega) HB17.out ?_; intro v8 w8 hown8 hg8 hfar8; have HQ8 := HP7.out.push (Below.refl _ _) (by rw [HAV7.out]; exact hg8) rs hown8 (by rw [HAV7.out]; exact hfar8); obtain ⟨A8, c8, hv8, _⟩ := own_row hown8; subst hv8; have HP8 := Lib.hid HQ8.1; have HF8 := Lib.hid HQ8.2; have k8 := grown_blk hg8 (HP7.out).hF (fun e => own_far3 HOWN7.out HP7.out.hF (by decide) e.symm); have g12 : w8.cell? ⟨C.F, 12, none⟩ = some (.slice A6 (st'.args.length + 1) c6) := ((cell_blk k8 12).trans (by show some ({ V' with av := .slice A6 (st'.args.length + 1) c6 } : PV).av = _; rw [HAV7.out])); have zF8 := free_blk k8; have lF8 := lt_of_block k8; clear HQ8 hown8 hg8 hfar8 k8))
          go_ret
          subst his
          rw [hn7] at HP8 HF8
          have q := HP8.out
          have eA : (st'.args ++ [arg]) ++ rs = st'.args ++ arg :: rs := by simp
          simp only [eA] at q
          exact ⟨.nilIface, _, rfl, q, (by show ErrAt C _ _ st'.err; rw [her]; rfl), (HFR.out.trans HF6.out).trans HF8.out⟩
        · rw [if_neg hpl] at his
          have hpl' : C.S.plain = false := by simpa using hpl
          rw [hpl'] at f15
          go_wp2_with (at_builtin; refine wpList_append_far rfl (.tmp 57) (.tmp 59) 25 rfl C.B1 9 ti _ 1 16 Try.underlying25 gi hz0 hz1 hz2 rfl (by decide) _ st'.args.length _ rfl HOWN.out (some ⟨wr.heap.size, 0, none⟩) 1 1 [.string ARG] rfl (fun h => by cases h) rfl (fun ad e => by cases e; exact World.news_of_block (cs := #[.string ARG]) (t := 9) (fr := (0, 0)) (heap_alloc_new wr _)) (by simp [Value.oneCell']) (by unfold maxLen; omega) (by omega) (by simp; omega) ?_; intro v6 w6 hown6 hg6 hfar6; have HQ6 := HPM.out.push ((Below.refl _ _).alloc (Nat.le_refl _) (.cells #[.string ARG] 9)) (by rw [HAV.out]; exact hg6) [arg] (by rw [show aCells [arg] = [.string (mkT arg)] from rfl, HARG.out]; exact hown6) (by rw [HAV.out]; exact hfar6); obtain ⟨A6, c6, hv6, _⟩ := own_row hown6; subst hv6; have HP6 := Lib.hid HQ6.1; have HF6 := Lib.hid HQ6.2; have k6 := grown_blk hg6 (HPA.out).hF (fun e => own_far3 HOWN.out HPA.out.hF (by decide) e.symm); have g12 : w6.cell? ⟨C.F, 12, none⟩ = some (.slice Av st'.args.length cv) := ((cell_blk k6 12).trans (by show some V'.av = _; rw [HAV.out])); have zF6 := free_blk k6; have lF6 := lt_of_block k6; clear HQ6 hown6 hg6 hfar6 k6)
          go_roundw
          case rel =>
            exact ⟨rs, { st' with args := st'.args ++ [arg] }, { V' with av := .slice A6 (st'.args.length + 1) c6 }, A1, c1, rfl, rfl, ⟨HP6.out, her, by show st'.given.length + _ ≤ _; omega, by show (st'.args ++ [arg]).length + _ ≤ _; rw [List.length_append, List.length_singleton]; omega, HLE.out.fr HF6.out, HFR.out.trans HF6.out, his, fun a ha => hlen a (by simp [ha])⟩⟩
          case measure =>
            simp only [lenV]; omega
      · have HAV := Lib.hid hav
        have HPM := Lib.hid h.pm
        have HOWN : Hid ((wr.alloc (.cells #[.string (mkT arg)] 9)).ownsRow C.B1 9 1 (.slice Av st'.args.length cv) st'.args.length (aCells st'.args)) := by
          have q := h.pm.avr
          rw [hav] at q
          exact own_kept q ((Below.refl _ _).alloc (Nat.le_refl _) _)
        have HPA := Lib.hid (h.pm.below ((Below.refl _ _).alloc (Nat.le_refl _) (.cells #[.string (mkT arg)] 9)))
        have HLE := Lib.hid (hcut wr h.lef)
        have HFR := Lib.hid h.fr
        have her := h.er
        have hlen := h.len
        rw [if_pos hbr] at his
        rw [hav] at f12
        obtain ⟨p0, g0⟩ := mkT_get e
        have x0 : (((mkT arg).size : Int) == 0) = false := by simp only [beq_eq_false_iff_ne]; omega
        have d0 : (((mkT arg)[0].toNat : Int) == 45) = false := nat_beq_false (b := 45) (by rw [g0]; intro e; exact hc45 (UInt8.toNat_inj.1 e))
        have d0' : (((mkT arg)[0].toNat : Int) != 45) = true := by simp only [bne, d0]; rfl
        clear g0
        clear HX h hbr hav hcut
        generalize hARG : mkT arg = ARG at hc HOWN HPA p0 x0 d0 d0'
        have HARG := Lib.hid hARG
        clear hARG
        by_cases hpl : C.S.plain = true
        · rw [if_pos hpl] at his
          rw [hpl] at f15
          go_wp2_with (first
            | (at_builtin; refine wpList_append_far rfl (.tmp 38) (.tmp 40) 25 rfl C.B1 9 ti _ 1 16 Try.underlying25 gi hz0 hz1 hz2 rfl (by decide) _ st'.args.length _ rfl HOWN.out (some ⟨wr.heap.size, 0, none⟩) 1 1 [.string ARG] rfl (fun h => by cases h) rfl (fun ad e => by cases e; exact World.news_of_block (cs := #[.string ARG]) (t := 9) (fr := (0, 0)) (heap_alloc_new wr _)) (by simp [Value.oneCell']) (by unfold maxLen; omega) (by omega) (by simp; omega) ?_; intro v6 w6 hown6 hg6 hfar6; have HQ6 := HPM.out.push ((Below.refl _ _).alloc (Nat.le_refl _) (.cells #[.string ARG] 9)) (by rw [HAV.out]; exact hg6) [arg] (by rw [show aCells [arg] = [.string (mkT arg)] from rfl, HARG.out]; exact hown6) (by rw [HAV.out]; exact hfar6); obtain ⟨A6, c6, hv6, _⟩ := own_row hown6; subst hv6; have HP6 := Lib.hid HQ6.1; have HF6 := Lib.hid HQ6.2; have k6 := grown_blk hg6 (HPA.out).hF (fun e => own_far3 HOWN.out HPA.out.hF (by decide) e.symm); have g12 : w6.cell? ⟨C.F, 12, none⟩ = some (.slice Av st'.args.length cv) := ((cell_blk k6 12).trans (by show some V'.av = _; rw [HAV.out])); have zF6 := free_blk k6; have lF6 := lt_of_block k6; clear HQ6 hown6 hg6 hfar6 k6; have HN7 : Hid (st'.args.length + 1 = (st'.args ++ [arg]).length) := (by show _ = _; simp); have HNW := Lib.hid (((HLE.out.fr HF6.out).news).2); have HP7 := HP6; have HOWN7 : Hid ((w6.setCell ⟨C.F, 12, none⟩ (.slice A6 (st'.args.length + 1) c6)).ownsRow C.B1 9 1 (.slice A6 (st'.args.length + 1) c6) (st'.args ++ [arg]).length (aCells (st'.args ++ [arg]))) := HP6.out.avr; have HB17 : Hid (C.B1 ≤ (w6.setCell ⟨C.F, 12, none⟩ (.slice A6 (st'.args.length + 1) c6)).heap.size) := HP6.out.low.2.2.2.2.2.2; have HAV7 : Hid (({ V' with av := .slice A6 (st'.args.length + 1) c6 } : PV).av = .slice A6 (st'.args.length + 1) c6) := rfl; have hn7 : (st'.args ++ [arg]).length = st'.args.length + 1 := (by simp))
            | (at_builtin; refine wpList_append_far rfl (.tmp 48) (.tmp 49) 25 rfl C.B1 9 ti _ 1 16 Try.underlying25 gi hz0 hz1 hz2 rfl (by decide) _ (st'.args ++ [arg]).length _ rfl HOWN7.out A1 rs.length c1 (aCells rs) rfl HNW.out.1 (by rw [aCells_len, Nat.mul_one]) HNW.out.2 (by intro u hu; unfold aCells at hu; obtain ⟨t9, _, rfl⟩ := List.mem_map.1 hu; rfl) (by unfold maxLen; omega) (by omega) HB17.out ?_; intro v8 w8 hown8 hg8 hfar8; have HQ8 := HP7.out.push (Below.refl _ _) (by rw [HAV7.out]; exact hg8) rs hown8 (by rw [HAV7.out]; exact hfar8); obtain ⟨A8, c8, hv8, _⟩ := own_row hown8; subst hv8; have HP8 := Lib.hid HQ8.1; have HF8 := Lib.hid HQ8.2; have k8 := grown_blk hg8 (HP7.out).hF (fun e => own_far3 HOWN7.out HP7.out.hF (by decide) e.symm); have g12 : w8.cell? ⟨C.F, 12, none⟩ = some (.slice A6 (st'.args.length + 1) c6) := ((cell_blk k8 12).trans (by show some ({ V' with av := .slice A6 (st'.args.length + 1) c6 } : PV).av = _; rw [HAV7.out])); have zF8 := free_blk k8; have lF8 := lt_of_block k8; clear HQ8 hown8 hg8 hfar8 k8))
          go_ret
          subst his
          rw [hn7] at HP8 HF8
          have q := HP8.out
          have eA : (st'.args ++ [arg]) ++ rs = st'.args ++ arg :: rs := by simp
          simp only [eA] at q
          exact ⟨.nilIface, _, rfl, q, (by show ErrAt C _ _ st'.err; rw [her]; rfl), (HFR.out.trans HF6.out).trans HF8.out⟩
        · rw [if_neg hpl] at his
          have hpl' : C.S.plain = false := by simpa using hpl
          rw [hpl'] at f15
          go_wp2_with (at_builtin; refine wpList_append_far rfl (.tmp 57) (.tmp 59) 25 rfl C.B1 9 ti _ 1 16 Try.underlying25 gi hz0 hz1 hz2 rfl (by decide) _ st'.args.length _ rfl HOWN.out (some ⟨wr.heap.size, 0, none⟩) 1 1 [.string ARG] rfl (fun h => by cases h) rfl (fun ad e => by cases e; exact World.news_of_block (cs := #[.string ARG]) (t := 9) (fr := (0, 0)) (heap_alloc_new wr _)) (by simp [Value.oneCell']) (by unfold maxLen; omega) (by omega) (by simp; omega) ?_; intro v6 w6 hown6 hg6 hfar6; have HQ6 := HPM.out.push ((Below.refl _ _).alloc (Nat.le_refl _) (.cells #[.string ARG] 9)) (by rw [HAV.out]; exact hg6) [arg] (by rw [show aCells [arg] = [.string (mkT arg)] from rfl, HARG.out]; exact hown6) (by rw [HAV.out]; exact hfar6); obtain ⟨A6, c6, hv6, _⟩ := own_row hown6; subst hv6; have HP6 := Lib.hid HQ6.1; have HF6 := Lib.hid HQ6.2; have k6 := grown_blk hg6 (HPA.out).hF (fun e => own_far3 HOWN.out HPA.out.hF (by decide) e.symm); have g12 : w6.cell? ⟨C.F, 12, none⟩ = some (.slice Av st'.args.length cv) := ((cell_blk k6 12).trans (by show some V'.av = _; rw [HAV.out])); have zF6 := free_blk k6; have lF6 := lt_of_block k6; clear HQ6 hown6 hg6 hfar6 k6)
          go_roundw
          case rel =>
            exact ⟨rs, { st' with args := st'.args ++ [arg] }, { V' with av := .slice A6 (st'.args.length + 1) c6 }, A1, c1, rfl, rfl, ⟨HP6.out, her, by show st'.given.length + _ ≤ _; omega, by show (st'.args ++ [arg]).length + _ ≤ _; rw [List.length_append, List.length_singleton]; omega, HLE.out.fr HF6.out, HFR.out.trans HF6.out, his, fun a ha => hlen a (by simp [ha])⟩⟩
          case measure =>
            simp only [lenV]; omega
      · have HAV := Lib.hid hav
        have HPM := Lib.hid h.pm
        have HOWN : Hid ((wr.alloc (.cells #[.string (mkT arg)] 9)).ownsRow C.B1 9 1 (.slice Av st'.args.length cv) st'.args.length (aCells st'.args)) := by
          have q := h.pm.avr
          rw [hav] at q
          exact own_kept q ((Below.refl _ _).alloc (Nat.le_refl _) _)
        have HPA := Lib.hid (h.pm.below ((Below.refl _ _).alloc (Nat.le_refl _) (.cells #[.string (mkT arg)] 9)))
        have HLE := Lib.hid (hcut wr h.lef)
        have HFR := Lib.hid h.fr
        have her := h.er
        have hlen := h.len
        rw [if_pos hbr] at his
        rw [hav] at f12
        obtain ⟨p0, g0⟩ := mkT_get e
        have x1 : ((mkT arg).size : Int) = 1 := by rw [hsA, e]; rfl
        have x0 : (((mkT arg).size : Int) == 0) = false := by simp only [beq_eq_false_iff_ne]; omega
        have d0 : (((mkT arg)[0].toNat : Int) == 45) = true := by rw [g0]; rfl
        have d0' : (((mkT arg)[0].toNat : Int) != 45) = false := by rw [g0]; rfl
        clear g0
        clear HX h hbr hav hcut
        generalize hARG : mkT arg = ARG at hc HOWN HPA p0 x0 x1 d0 d0'
        have HARG := Lib.hid hARG
        clear hARG
        by_cases hpl : C.S.plain = true
        · rw [if_pos hpl] at his
          rw [hpl] at f15
          go_wp2_with (first
            | (at_builtin; refine wpList_append_far rfl (.tmp 38) (.tmp 40) 25 rfl C.B1 9 ti _ 1 16 Try.underlying25 gi hz0 hz1 hz2 rfl (by decide) _ st'.args.length _ rfl HOWN.out (some ⟨wr.heap.size, 0, none⟩) 1 1 [.string ARG] rfl (fun h => by cases h) rfl (fun ad e => by cases e; exact World.news_of_block (cs := #[.string ARG]) (t := 9) (fr := (0, 0)) (heap_alloc_new wr _)) (by simp [Value.oneCell']) (by unfold maxLen; omega) (by omega) (by simp; omega) ?_; intro v6 w6 hown6 hg6 hfar6; have HQ6 := HPM.out.push ((Below.refl _ _).alloc (Nat.le_refl _) (.cells #[.string ARG] 9)) (by rw [HAV.out]; exact hg6) [arg] (by rw [show aCells [arg] = [.string (mkT arg)] from rfl, HARG.out]; exact hown6) (by rw [HAV.out]; exact hfar6); obtain ⟨A6, c6, hv6, _⟩ := own_row hown6; subst hv6; have HP6 := Lib.hid HQ6.1; have HF6 := Lib.hid HQ6.2; have k6 := grown_blk hg6 (HPA.out).hF (fun e => own_far3 HOWN.out HPA.out.hF (by decide) e.symm); have g12 : w6.cell? ⟨C.F, 12, none⟩ = some (.slice Av st'.args.length cv) := ((cell_blk k6 12).trans (by show some V'.av = _; rw [HAV.out])); have zF6 := free_blk k6; have lF6 := lt_of_block k6; clear HQ6 hown6 hg6 hfar6 k6; have HN7 : Hid (st'.args.length + 1 = (st'.args ++ [arg]).length) := (by show _ = _; simp); have HNW := Lib.hid (((HLE.out.fr HF6.out).news).2); have HP7 := HP6; have HOWN7 : Hid ((w6.setCell ⟨C.F, 12, none⟩ (.slice A6 (st'.args.length + 1) c6)).ownsRow C.B1 9 1 (.slice A6 (st'.args.length + 1) c6) (st'.args ++ [arg]).length (aCells (st'.args ++ [arg]))) := HP6.out.avr; have HB17 : Hid (C.B1 ≤ (w6.setCell ⟨C.F, 12, none⟩ (.slice A6 (st'.args.length + 1) c6)).heap.size) := HP6.out.low.2.2.2.2.2.2; have HAV7 : Hid (({ V' with av := .slice A6 (st'.args.length + 1) c6 } : PV).av = .slice A6 (st'.args.length + 1) c6) := rfl; have hn7 : (st'.args ++ [arg]).length = st'.args.length + 1 := (by simp))
            | (at_builtin; refine wpList_append_far rfl (.tmp 48) (.tmp 49) 25 rfl C.B1 9 ti _ 1 16 Try.underlying25 gi hz0 hz1 hz2 rfl (by decide) _ (st'.args ++ [arg]).length _ rfl HOWN7.out A1 rs.length c1 (aCells rs) rfl HNW.out.1 (by rw [aCells_len, Nat.mul_one]) HNW.out.2 (by intro u hu; unfold aCells at hu; obtain ⟨t9, _, rfl⟩ := List.mem_map.1 hu; rfl) (by unfold maxLen; omega) (by omega) HB17.out ?_; intro v8 w8 hown8 hg8 hfar8; have HQ8 := HP7.out.push (Below.refl _ _) (by rw [HAV7.out]; exact hg8) rs hown8 (by rw [HAV7.out]; exact hfar8); obtain ⟨A8, c8, hv8, _⟩ := own_row hown8; subst hv8; have HP8 := Lib.hid HQ8.1; have HF8 := Lib.hid HQ8.2; have k8 := grown_blk hg8 (HP7.out).hF (fun e => own_far3 HOWN7.out HP7.out.hF (by decide) e.symm); have g12 : w8.cell? ⟨C.F, 12, none⟩ = some (.slice A6 (st'.args.length + 1) c6) := ((cell_blk k8 12).trans (by show some ({ V' with av := .slice A6 (st'.args.length + 1) c6 } : PV).av = _; rw [HAV7.out])); have zF8 := free_blk k8; have lF8 := lt_of_block k8; clear HQ8 hown8 hg8 hfar8 k8))
          go_ret
          subst his
          rw [hn7] at HP8 HF8
          have q := HP8.out
          have eA : (st'.args ++ [arg]) ++ rs = st'.args ++ arg :: rs := by simp
          simp only [eA] at q
          exact ⟨.nilIface, _, rfl, q, (by show ErrAt C _ _ st'.err; rw [her]; rfl), (HFR.out.trans HF6.out).trans HF8.out⟩
        · rw [if_neg hpl] at his
          have hpl' : C.S.plain = false := by simpa using hpl
          rw [hpl'] at f15
          go_wp2_with (at_builtin; refine wpList_append_far rfl (.tmp 57) (.tmp 59) 25 rfl C.B1 9 ti _ 1 16 Try.underlying25 gi hz0 hz1 hz2 rfl (by decide) _ st'.args.length _ rfl HOWN.out (some ⟨wr.heap.size, 0, none⟩) 1 1 [.string ARG] rfl (fun h => by cases h) rfl (fun ad e => by cases e; exact World.news_of_block (cs := #[.string ARG]) (t := 9) (fr := (0, 0)) (heap_alloc_new wr _)) (by simp [Value.oneCell']) (by unfold maxLen; omega) (by omega) (by simp; omega) ?_; intro v6 w6 hown6 hg6 hfar6; have HQ6 := HPM.out.push ((Below.refl _ _).alloc (Nat.le_refl _) (.cells #[.string ARG] 9)) (by rw [HAV.out]; exact hg6) [arg] (by rw [show aCells [arg] = [.string (mkT arg)] from rfl, HARG.out]; exact hown6) (by rw [HAV.out]; exact hfar6); obtain ⟨A6, c6, hv6, _⟩ := own_row hown6; subst hv6; have HP6 := Lib.hid HQ6.1; have HF6 := Lib.hid HQ6.2; have k6 := grown_blk hg6 (HPA.out).hF (fun e => own_far3 HOWN.out HPA.out.hF (by decide) e.symm); have g12 : w6.cell? ⟨C.F, 12, none⟩ = some (.slice Av st'.args.length cv) := ((cell_blk k6 12).trans (by show some V'.av = _; rw [HAV.out])); have zF6 := free_blk k6; have lF6 := lt_of_block k6; clear HQ6 hown6 hg6 hfar6 k6)
          go_roundw
          case rel =>
            exact ⟨rs, { st' with args := st'.args ++ [arg] }, { V' with av := .slice A6 (st'.args.length + 1) c6 }, A1, c1, rfl, rfl, ⟨HP6.out, her, by show st'.given.length + _ ≤ _; omega, by show (st'.args ++ [arg]).length + _ ≤ _; rw [List.length_append, List.length_singleton]; omega, HLE.out.fr HF6.out, HFR.out.trans HF6.out, his, fun a ha => hlen a (by simp [ha])⟩⟩
          case measure =>
            simp only [lenV]; omega
      · have HAV := Lib.hid hav
        have HPM := Lib.hid h.pm
        have HLE := Lib.hid (hcut wr h.lef)
        have HFR := Lib.hid h.fr
        have her := h.er
        rw [if_neg (by rw [hbr]; simp), if_pos e] at his
        rw [hav] at f12
        have f13 : wr.cell? ⟨C.F, 13, none⟩ = some (.int .i64 st'.dash) := (cell_blk h.pm.hF 13).trans rfl
        obtain ⟨p0, g0⟩ := mkT_get e
        have y2 : ((mkT arg).size : Int) = 2 := by rw [hsA, e]; rfl
        have x0 : (((mkT arg).size : Int) == 0) = false := by simp only [beq_eq_false_iff_ne]; omega
        have x1 : (((mkT arg).size : Int) == 1) = false := by simp only [beq_eq_false_iff_ne]; omega
        have d0 : (((mkT arg)[0].toNat : Int) == 45) = true := by rw [g0]; rfl
        have d0' : (((mkT arg)[0].toNat : Int) != 45) = false := by rw [g0]; rfl
        have p1 : 1 < (mkT arg).size := by omega
        have d1 : (((mkT arg)[1].toNat : Int) == 45) = true := by
          have q : (mkT arg)[1] = 45 := by rw [bget p1]; simp [mkT_list, e]
          rw [q]; rfl
        have HQ7 := h.pm.setF (V' := V') (s' := psOf none parsed { st' with dash := (st'.args.length : Int) }) 13 (.int .i64 st'.args.length) rfl rfl rfl rfl rfl rfl rfl h.pm.am h.pm.odr h.pm.cnt h.pm.avr h.pm.lowm.2.2.2
        have HP7 := Lib.hid HQ7.1
        have HF7 := Lib.hid HQ7.2
        have HNW := Lib.hid (((HLE.out.fr HF7.out).news).2)
        have HOWN7 : Hid ((wr.setCell ⟨C.F, 13, none⟩ (.int .i64 st'.args.length)).ownsRow C.B1 9 1 (.slice Av st'.args.length cv) st'.args.length (aCells st'.args)) := by
          have q := HP7.out.avr
          rw [hav] at q
          exact q
        have HB17 : Hid (C.B1 ≤ (wr.setCell ⟨C.F, 13, none⟩ (.int .i64 st'.args.length)).heap.size) := HP7.out.low.2.2.2.2.2.2
        have HAV7 : Hid (V'.av = .slice Av st'.args.length cv) := hav
        clear HX h hbr hav hcut g0 HQ7
        generalize mkT arg = ARG at hc p0 p1 x0 x1 y2 d0 d0' d1
        go_wp2_with (at_builtin; refine wpList_append_far rfl (.tmp 81) (.tmp 82) 25 rfl C.B1 9 ti _ 1 16 Try.underlying25 gi hz0 hz1 hz2 rfl (by decide) _ st'.args.length _ rfl HOWN7.out A1 rs.length c1 (aCells rs) rfl HNW.out.1 (by rw [aCells_len, Nat.mul_one]) HNW.out.2 (by intro u hu; unfold aCells at hu; obtain ⟨t9, _, rfl⟩ := List.mem_map.1 hu; rfl) (by unfold maxLen; omega) (by omega) HB17.out ?_; intro v8 w8 hown8 hg8 hfar8; have HQ8 := HP7.out.push (Below.refl _ _) (by rw [HAV7.out]; exact hg8) rs hown8 (by rw [HAV7.out]; exact hfar8); obtain ⟨A8, c8, hv8, _⟩ := own_row hown8; subst hv8; have HP8 := Lib.hid HQ8.1; have HF8 := Lib.hid HQ8.2; have k8 := grown_blk hg8 (HP7.out).hF (fun e => own_far3 HOWN7.out HP7.out.hF (by decide) e.symm); have g12 : w8.cell? ⟨C.F, 12, none⟩ = some (.slice Av st'.args.length cv) := ((cell_blk k8 12).trans (by show some V'.av = _; rw [HAV7.out])); have zF8 := free_blk k8; have lF8 := lt_of_block k8; clear HQ8 hown8 hg8 hfar8 k8)
        go_ret
        subst his
        exact ⟨.nilIface, _, rfl, HP8.out, (by show ErrAt C _ _ st'.err; rw [her]; rfl), (HFR.out.trans HF7.out).trans HF8.out⟩
      · subst e
        rw [if_neg (by rw [hbr]; simp), if_neg (by intro q; simp only [List.cons.injEq, true_and] at q; exact ht q)] at his
        simp only [List.length_cons] at hal hsA hcn
        have h1P : oneP C.S none st' (45 :: 45 :: t) rs = longP C.S none st' (45 :: 45 :: t) rs := rfl
        rw [h1P] at his
        have htp := List.length_pos_iff.2 ht
        have HC := Lib.hid (HLO.out st' t rs V' (.slice A1 rs.length c1) wr h.pm (by omega) h.er (hcut wr h.lef) (by omega) (fun a ha => Nat.le_trans (h.len a (by simp [ha])) (by omega)) h.fr)
        obtain ⟨p0, g0⟩ := mkT_get (l := 45 :: 45 :: t) rfl
        obtain ⟨p1, g1⟩ := mkT_get1 (c := 45) (d := 45) (t := t)
        have d1 : (((mkT (45 :: 45 :: t))[1].toNat : Int) == 45) = true := by rw [g1]; rfl
        have x2 : (((mkT (45 :: 45 :: t)).size : Int) == 2) = false := by rw [hsA]; simp only [beq_eq_false_iff_ne]; omega
        have d0 : (((mkT (45 :: 45 :: t))[0].toNat : Int) == 45) = true := by rw [g0]; rfl
        have d0' : (((mkT (45 :: 45 :: t))[0].toNat : Int) != 45) = false := by rw [g0]; rfl
        have x0 : (((mkT (45 :: 45 :: t)).size : Int) == 0) = false := by rw [hsA]; simp only [beq_eq_false_iff_ne]; omega
        have x1 : (((mkT (45 :: 45 :: t)).size : Int) == 1) = false := by rw [hsA]; simp only [beq_eq_false_iff_ne]; omega
        have y1 : (1 : Int) < ((mkT (45 :: 45 :: t)).size : Int) := by rw [hsA]; omega
        clear g0 g1 hsA ht hbr
        have hgr := longP_grow C.S none st' (45 :: 45 :: t) rs
        have har := longP_args C.S none st' (45 :: 45 :: t) rs
        generalize longP C.S none st' (45 :: 45 :: t) rs = q at HC his hgr har
        obtain ⟨q1, q2⟩ := q
        simp only at hgr har his
        have hst := HC.out
        have HFR := Lib.hid h.fr
        have hwt := wt_suf hgr.2
        have hle := hgr.2.length_le
        have hlen := h.len
        clear HX h
        generalize mkT (45 :: 45 :: t) = ARG at hc HC p0 p1 d0 d0' d1 x0 x1 x2 y1
        by_cases hq : q1.err.isNo = true
        · go_wp2_with (go_at_call 77; refine (HC.out).mono ?_; rintro e w3 ⟨E, V3, v3, rfl, hp3, he3, hf3, hr3⟩; have hE := he3.none (Er.isNo_iff.1 hq); subst hE; obtain ⟨A3, c3, hv3, _⟩ := (⟨hr3, trivial⟩ : RestAt C w3 v3 q2 ∧ True).1; subst hv3; have HP3 := Lib.hid hp3; have HF3 := Lib.hid hf3; have HR3 := Lib.hid hr3; clear hp3 he3 hf3 hr3)
          go_roundw
          case rel =>
            rw [if_pos hq] at his
            exact ⟨q2, q1, V3, A3, c3, rfl, rfl, ⟨HP3.out, Er.isNo_iff.1 hq, by omega, by rw [har]; omega, HR3.out, HFR.out.trans HF3.out, his, fun a ha => hlen a (by simp [hgr.2.subset ha])⟩⟩
          case measure =>
            simp only [lenV]; omega
        · go_wp2_with (go_at_call 77; refine (HC.out).mono ?_; rintro e w3 ⟨E, V3, v3, rfl, hp3, he3, hf3, hr3⟩; obtain ⟨TE, xE, hE⟩ := he3.shape hq; have HE3 := Lib.hid he3; rw [hE] at HE3; subst hE; have HP3 := Lib.hid hp3; have HF3 := Lib.hid hf3; clear hp3 he3 hf3 hr3)
          go_ret
          rw [if_neg hq] at his
          subst his
          exact ⟨_, V3, rfl, HP3.out, HE3.out, HFR.out.trans HF3.out⟩
      · subst e
        rw [if_neg (by rw [hbr]; simp), if_neg (by intro q; simp only [List.cons.injEq, true_and] at q; exact hd q.1)] at his
        simp only [List.length_cons] at hal hsA hcn
        have h1P : oneP C.S none st' (45 :: d :: t) rs = shortsP C.S none rs (d :: t) st' rs := by
          unfold oneP
          rw [if_neg (by simpa using hd)]; rfl
        rw [h1P] at his
        have HC := Lib.hid (HSH.out st' (d :: t) rs V' (.slice A1 rs.length c1) wr h.pm (by simp only [List.length_cons]; omega) h.er (hcut wr h.lef) (by simp only [List.length_cons]; omega) (fun a ha => Nat.le_trans (h.len a (by simp [ha])) (by omega)) h.fr)
        obtain ⟨p0, g0⟩ := mkT_get (l := 45 :: d :: t) rfl
        obtain ⟨p1, g1⟩ := mkT_get1 (c := 45) (d := d) (t := t)
        have d1 : (((mkT (45 :: d :: t))[1].toNat : Int) == 45) = false := nat_beq_false (b := 45) (by rw [g1]; intro e; exact hd (UInt8.toNat_inj.1 e))
        have d0 : (((mkT (45 :: d :: t))[0].toNat : Int) == 45) = true := by rw [g0]; rfl
        have d0' : (((mkT (45 :: d :: t))[0].toNat : Int) != 45) = false := by rw [g0]; rfl
        have x0 : (((mkT (45 :: d :: t)).size : Int) == 0) = false := by rw [hsA]; simp only [beq_eq_false_iff_ne]; omega
        have x1 : (((mkT (45 :: d :: t)).size : Int) == 1) = false := by rw [hsA]; simp only [beq_eq_false_iff_ne]; omega
        have y1 : (1 : Int) < ((mkT (45 :: d :: t)).size : Int) := by rw [hsA]; omega
        clear g0 g1 hsA hbr hd
        have hgr := shortsP_grow C.S none rs (d :: t) st' rs (List.suffix_refl _)
        have har := shortsP_args C.S none rs (d :: t) st' rs
        generalize shortsP C.S none rs (d :: t) st' rs = q at HC his hgr har
        obtain ⟨q1, q2⟩ := q
        simp only at hgr har his
        simp only [List.length_cons] at hgr
        have hst := HC.out
        have HFR := Lib.hid h.fr
        have hwt := wt_suf hgr.2
        have hle := hgr.2.length_le
        have hlen := h.len
        clear HX h
        generalize mkT (45 :: d :: t) = ARG at hc HC p0 p1 d0 d0' d1 x0 x1 y1
        by_cases hq : q1.err.isNo = true
        · go_wp2_with (go_at_call 99; refine (HC.out).mono ?_; rintro e w3 ⟨E, V3, v3, rfl, hp3, he3, hf3, hr3⟩; have hE := he3.none (Er.isNo_iff.1 hq); subst hE; obtain ⟨A3, c3, hv3, _⟩ := (⟨hr3, trivial⟩ : RestAt C w3 v3 q2 ∧ True).1; subst hv3; have HP3 := Lib.hid hp3; have HF3 := Lib.hid hf3; have HR3 := Lib.hid hr3; clear hp3 he3 hf3 hr3)
          go_roundw
          case rel =>
            rw [if_pos hq] at his
            exact ⟨q2, q1, V3, A3, c3, rfl, rfl, ⟨HP3.out, Er.isNo_iff.1 hq, by omega, by rw [har]; omega, HR3.out, HFR.out.trans HF3.out, his, fun a ha => hlen a (by simp [hgr.2.subset ha])⟩⟩
          case measure =>
            simp only [lenV]; omega
        · go_wp2_with (go_at_call 99; refine (HC.out).mono ?_; rintro e w3 ⟨E, V3, v3, rfl, hp3, he3, hf3, hr3⟩; obtain ⟨TE, xE, hE⟩ := he3.shape hq; have HE3 := Lib.hid he3; rw [hE] at HE3; subst hE; have HP3 := Lib.hid hp3; have HF3 := Lib.hid hf3; clear hp3 he3 hf3 hr3)
          go_ret
          rw [if_neg hq] at his
          subst his
          exact ⟨_, V3, rfl, HP3.out, HE3.out, HFR.out.trans HF3.out⟩
end Go.Proofs.Ytgmhhdpggnmipaa.E
