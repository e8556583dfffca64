/- A flag is given a value: own.Set and FlagSet.Set, over this seat's program. Written by gen_fs9.py. -/
import Derived.Test.YtgmhhdpggnmipaaFs8
import Derived.Deep.DeepCutAuto
import Derived.Deep.CutBlock
namespace Go.Proofs.Ytgmhhdpggnmipaa.E
open Go.RowKit Go.Proofs
open Go.Maps (Keyed)
set_option linter.unusedVariables false
set_option linter.unusedSimpArgs false

theorem hasB_map (L : List Txt) (v : Txt) : hasB (L.map mkT) (mkT v) = decide (v ∈ L) := by
  rw [Bool.eq_iff_iff, hasB_iff, decide_eq_true_iff]
  constructor
  · intro h
    obtain ⟨t, ht, e⟩ := List.mem_map.1 h
    have := congrArg (fun s : ByteArray => s.data.toList) e
    simp only [mkT_list] at this
    rw [← this]; exact ht
  · intro h
    exact List.mem_map.2 ⟨v, h, rfl⟩
theorem Try.infoG : (Try.prog.info? 57).map (fun i => (i.zero, i.size, i.bytes)) = some (some (.agg #[.int .i64 0, .string ⟨#[]⟩]), 2, 24) := by kernel_rfl
/-- A flag's place in a set. -/
structure At (w : World) (C : PC) (i : Nat) (vb : Value) (L : List Txt) : Prop where
  hi : ∃ h : i < C.S.flags.length, L = (C.S.flags[i]'h).bad
  ob : w.heap[C.OW.getD i 0]? = some (.cells (ownCells i vb C.Wb) 119 (0, 0))
  tx : Texts w vb (L.map mkT)
theorem Pm.at {w : World} {C : PC} {V : PV} {s : PS} (h : Pm w C V s) {i : Nat} (hi : i < C.S.flags.length) : ∃ vb, At w C i vb (C.S.flags[i].bad) := by
  obtain ⟨v, e1, e2, _⟩ := h.own i hi
  exact ⟨v, ⟨hi, rfl⟩, e1, e2⟩

set_option maxRecDepth 100000 in
theorem ownSet_bad (C : PC) (i : Nat) (vb : Value) (L : List Txt) (v : Txt) (w : World) (h : At w C i vb L) (hb : v ∈ L) :
    Calls Try.prog 145 #[.pointer (some ⟨C.OW.getD i 0, 0, none⟩), .string (mkT v)] w fun e w' => e = .returned (.iface 108 (.agg #[])) ∧ w = w' := by
  have hbB : hasB (L.map mkT) (mkT v) = true := by rw [hasB_map]; exact decide_eq_true hb
  obtain ⟨A, cap, rfl, hs, _, hc, _⟩ := h.tx
  have hl : (L.map mkT).length ≤ 9223372036854775807 := by have := h.tx; obtain ⟨_, _, e, _, h1, h2, _⟩ := this; omega
  have c1 : w.cell? ⟨C.OW.getD i 0, 1, none⟩ = some (.slice A (L.map mkT).length cap) := (cell_blk h.ob 1).trans rfl
  have HH := Lib.hid (has_any A cap (L.map mkT) (mkT v) w hs hl)
  rw [hbB] at HH
  generalize C.OW.getD i 0 = ow at c1 ⊢
  generalize (L.map mkT).length = n at c1 HH
  clear hs hc hl hb hbB h
  generalize mkT v = vv at HH ⊢
  go_enter Try.func145, Try.ntmps145
  go_wp2_with (go_at_call 65; refine (HH.out).mono ?_; rintro e w1 ⟨rfl, rfl⟩)
  go_ret
  exact ⟨rfl, rfl⟩

/-- What own.Set leaves where the text is not refused. -/
def OwnEnd (C : PC) (V : PV) (s : PS) (i : Nat) (v : Txt) (w : World) (e : Ending) (w' : World) : Prop :=
  e = .returned .nilIface ∧ ∃ said, Pm w' C { V with said := said } { s with G := s.G ++ [(i, v)] } ∧ Fr C w w'

set_option maxRecDepth 100000 in
set_option maxHeartbeats 1600000 in
theorem ownSet_ok (C : PC) (V : PV) (s : PS) (i : Nat) (vb : Value) (L : List Txt) (v : Txt) (w : World) (hp : Pm w C V s) (h : At w C i vb L) (hb : ¬ v ∈ L) (hG : s.G.length ≤ 1099511627776) :
    Calls Try.prog 145 #[.pointer (some ⟨C.OW.getD i 0, 0, none⟩), .string (mkT v)] w (OwnEnd C V s i v w) := by
  obtain ⟨ti, gi, hz0, hz1, hz2⟩ := info_parts Try.infoG
  have hbB : hasB (L.map mkT) (mkT v) = false := by rw [hasB_map]; exact decide_eq_false hb
  have htx := h.tx
  obtain ⟨A, cap, rfl, hs, _, hc, _⟩ := h.tx
  have hl : (L.map mkT).length ≤ 9223372036854775807 := by obtain ⟨_, _, e, _, h1, h2, _⟩ := htx; omega
  have c0 : w.cell? ⟨C.OW.getD i 0, 0, none⟩ = some (.int .i64 (i : Int)) := (cell_blk h.ob 0).trans rfl
  have c1 : w.cell? ⟨C.OW.getD i 0, 1, none⟩ = some (.slice A (L.map mkT).length cap) := (cell_blk h.ob 1).trans rfl
  have c2 : w.cell? ⟨C.OW.getD i 0, 2, none⟩ = some (.pointer (some ⟨C.Wb, 2, none⟩)) := (cell_blk h.ob 2).trans rfl
  have k2 : w.cell? ⟨C.Wb, 2, none⟩ = some V.said := (cell_blk hp.hW 2).trans rfl
  have zk := free_blk hp.hW 2
  have lW := lt_of_block hp.hW
  have lO := lt_of_block h.ob
  have hsW : V.said.ownBlock ≠ some C.Wb := own_far3 hp.sdr hp.hW (by decide)
  have HH := Lib.hid (has_any A cap (L.map mkT) (mkT v) w hs hl)
  rw [hbB] at HH
  have hal : Below w.heap.size w (w.alloc (.cells #[.int .i64 (i : Int), .string (mkT v)] 57)) := (Below.refl _ _).alloc (Nat.le_refl _) _
  have HS := Lib.hid (own_kept hp.sdr hal)
  have HW := Lib.hid (block_kept hp.hW hal)
  have HO := Lib.hid (block_kept h.ob hal)
  have HB1 : Hid (C.B1 ≤ w.heap.size) := hp.low.2.2.2.2.2.2
  have HN := Lib.hid (heap_alloc_new w (.cells #[.int .i64 (i : Int), .string (mkT v)] 57))
  have HE := Lib.hid (fun (wa w1 : World) (g c : Nat) ha hg ho hf => Pm.give (wa := wa) (w1 := w1) (i := i) (v := v) (g := g) (c := c) hp ha hg ho hf)
  have HAL := Lib.hid hal
  unfold OwnEnd
  have HPO : Hid (C.OW.getD i 0 ≠ C.Wb) := blk_ne h.ob hp.hW (by simp)
  have HSO : Hid (V.said.ownBlock ≠ some (C.OW.getD i 0)) := own_far3 hp.sdr h.ob (by decide)
  generalize C.OW.getD i 0 = ow at c0 c1 c2 lO HO HPO HSO ⊢
  generalize (L.map mkT).length = n at c1 HH
  clear hs hc hl hb hbB h htx hp hal
  generalize hvv : mkT v = vv at HH HS HW HO HN HE HAL ⊢
  clear hvv
  go_enter Try.func145, Try.ntmps145
  go_upto_region 3 with (go_at_call 65; refine (HH.out).mono ?_; rintro e wr ⟨rfl, rfl⟩)
  have a2 : ∀ o, (w.alloc o).cell? ⟨ow, 2, none⟩ = some (.pointer (some ⟨C.Wb, 2, none⟩)) := fun o => cell_kept ((Below.refl _ _).alloc (Nat.le_refl _) o) c2
  have a0 : ∀ o, (w.alloc o).cell? ⟨ow, 0, none⟩ = some (.int .i64 (i : Int)) := fun o => cell_kept ((Below.refl _ _).alloc (Nat.le_refl _) o) c0
  have ak : ∀ o, (w.alloc o).cell? ⟨C.Wb, 2, none⟩ = some V.said := fun o => cell_kept ((Below.refl _ _).alloc (Nat.le_refl _) o) k2
  have bk : ∀ o, (w.alloc o).frozen? ⟨C.Wb, 2, none⟩ = false := fun o => frozen_kept ((Below.refl _ _).alloc (Nat.le_refl _) o) k2 zk
  go_region_law ((refine step_append_lies _ (by rfl) _ _ _ (by rfl) C.B1 57 ti _ 2 24 Try.underlying29 gi hz0 hz1 hz2 rfl (by omega) V.said s.G.length (gCells s.G) (by rfl) HS.out ⟨w.heap.size, 0, none⟩ 1 1 [.int .i64 (i : Int), .string vv] (by rfl) (by rfl) (World.news_of_block (cs := #[.int .i64 (i : Int), .string vv]) (t := 57) (fr := (0, 0)) HN.out) (by simp [Value.oneCell']) (by omega) (by unfold maxLen; omega) (by omega) (by have := HB1.out; simp; omega) (w.heap.size + 1) (by simp) ?_; intro gg cap2 w2 hown2 hgrow hat hlt2; have hW2 := grown_blk hgrow HW.out (Ne.symm hsW); have hO2 := grown_blk hgrow HO.out (Ne.symm HSO.out); have k0 : w2.cell? ⟨C.Wb, 2, none⟩ = some V.said := ((cell_blk hW2 2).trans rfl); have k1 : w2.frozen? ⟨C.Wb, 2, none⟩ = false := free_blk hW2 2; have k3 : w2.cell? ⟨ow, 2, none⟩ = some (.pointer (some ⟨C.Wb, 2, none⟩)) := ((cell_blk hO2 2).trans rfl)))
  all_goals
    go_wp2
    go_ret
    have r := HE.out _ w2 gg cap2 (by first | exact HAL.out.drew | exact HAL.out | exact HAL.out.drew.drew) hgrow hown2 (hat.imp id (fun e => by rw [e]; exact Nat.le_succ _))
    exact ⟨rfl, _, r.1, r.2⟩

/-! ### FlagSet.Set -/
def chgM (m : Option (List Txt)) (G : List (Nat × Txt)) : Nat → Bool := match m with
  | none => fun j => G.any fun g => g.1 == j
  | some _ => fun _ => false
def psOf (m : Option (List Txt)) (parsed : Bool) (st : St) : PS := ⟨parsed, st.given, st.args, st.dash, chgM m st.given⟩
/-- An error as it lies in memory. -/
def ErrAt (C : PC) (w : World) (E : Value) : Er → Prop
  | .no => E = .nilIface
  | .help => E = .iface 141 (.string ⟨#[112, 102, 108, 97, 103, 58, 32, 104, 101, 108, 112, 32, 114, 101, 113, 117, 101, 115, 116, 101, 100]⟩)
  | .notExist n s => ∃ (p : Nat) (k : Int), E = .iface 135 (.pointer (some ⟨p, 0, none⟩)) ∧ w.heap[p]? = some (.cells #[.string (mkT n), .string (mkT s), .int .i64 k] 153 (0, 0))
  | .need i n s => ∃ p : Nat, E = .iface 137 (.pointer (some ⟨p, 0, none⟩)) ∧ w.heap[p]? = some (.cells #[.pointer (some ⟨C.FL.getD i 0, 0, none⟩), .string (mkT n), .string (mkT s)] 155 (0, 0))
  | .invalid i v => ∃ (p : Nat) (q : Value), E = .iface 139 (.pointer (some ⟨p, 0, none⟩)) ∧ w.heap[p]? = some (.cells #[.pointer (some ⟨C.FL.getD i 0, 0, none⟩), .string (mkT v), q] 158 (0, 0))
  | .syn a => ∃ p : Nat, E = .iface 140 (.pointer (some ⟨p, 0, none⟩)) ∧ w.heap[p]? = some (.cells #[.string (mkT a)] 149 (0, 0))
  | .other => E = .iface 108 (.agg #[])
theorem ErrAt.below {C : PC} {w w' : World} {E : Value} {er : Er} (h : ErrAt C w E er) (hb : Below w.heap.size w w') : ErrAt C w' E er := by
  cases er with
  | no => exact h
  | help => exact h
  | other => exact h
  | notExist n s => obtain ⟨p, k, e, q⟩ := h; exact ⟨p, k, e, block_kept q hb⟩
  | need i n s => obtain ⟨p, e, q⟩ := h; exact ⟨p, e, block_kept q hb⟩
  | invalid i v => obtain ⟨p, k, e, q⟩ := h; exact ⟨p, k, e, block_kept q hb⟩
  | syn a => obtain ⟨p, e, q⟩ := h; exact ⟨p, e, block_kept q hb⟩
/-- What a step of parsing comes to. -/
def GiveEnd (m : Option (List Txt)) (C : PC) (parsed : Bool) (st : St) (w : World) (e : Ending) (w' : World) : Prop :=
  ∃ E V, e = .returned E ∧ Pm w' C V (psOf m parsed st) ∧ ErrAt C w' E st.err ∧ Fr C w w'
theorem foldB_idem (k : Nat) (c : UInt8) : foldB k (foldB k c) = foldB k c := by
  by_cases h1 : (k = 1 ∨ k = 3) ∧ 65 ≤ c.toNat ∧ c.toNat ≤ 90
  · have e := foldB_up h1.1 h1.2.1 h1.2.2
    refine foldB_not (by omega) (by omega)
  · by_cases h2 : (k = 2 ∨ k = 3) ∧ (c.toNat = 95 ∨ c.toNat = 46)
    · have e := foldB_dash h2.1 h2.2
      refine foldB_not (by omega) (by omega)
    · rw [foldB_not h1 h2]; exact foldB_not h1 h2
theorem foldT_idem (k : Nat) (t : Txt) : foldT k (foldT k t) = foldT k t := by
  unfold foldT
  rw [List.map_map]
  apply List.map_congr_left
  intro c _
  exact foldB_idem k c
theorem nmF_all {S : SetP} {FL : List Nat} (h : FL.length = S.flags.length) (t : Txt) : nmF S FL (foldT S.fold t) = (named S t).map fun i => FL.getD i 0 := by
  unfold nmF named
  rw [h, List.take_length]
theorem Pm.norm_at {w : World} {C : PC} {V : PV} {s : PS} (h : Pm w C V s) : NormAt w C.F C.S.fold := h.norm.at ((cell_blk h.hF 16).trans rfl)
theorem method_set (a : Addr) (w : World) : (method 303 116 (.pointer (some a)) "Set").run Try.prog w = .ok (145, .pointer (some a)) w := by kernel_rfl
theorem chg_old {G : List (Nat × Txt)} {i : Nat} {v : Txt} (h : chgM none G i = true) : chgM none (G ++ [(i, v)]) = chgM none G := by
  funext j
  simp only [chgM, List.any_append, List.any_cons, List.any_nil, Bool.or_false]
  by_cases e : i = j
  · subst e
    have : G.any (fun g => g.1 == i) = true := h
    rw [this]; simp
  · have : (i == j) = false := by simpa using e
    rw [this]; simp
theorem chg_new (G : List (Nat × Txt)) (i : Nat) (v : Txt) : chgM none (G ++ [(i, v)]) = fun j => if j = i then true else chgM none G j := by
  funext j
  simp only [chgM, List.any_append, List.any_cons, List.any_nil, Bool.or_false]
  by_cases e : j = i
  · subst e; simp
  · have : (i == j) = false := by simpa using fun h => e h.symm
    rw [this, if_neg e]; simp
/-- What is known of the flag that is looked up, behind the translation of its name. -/
structure Found (w : World) (C : PC) (V : PV) (s : PS) (i p ow : Nat) (NM no : ByteArray) : Prop where
  look : ∀ t, t = 128 → (Instr.lookup t (.map V.fmo) (.string NM) true).run Try.prog w = .ok (.tuple #[.pointer (some ⟨p, 0, none⟩), .bool true]) w
  f8 : w.cell? ⟨C.F, 8, none⟩ = some (.map V.fmo)
  l3 : w.cell? ⟨p, 3, none⟩ = some (.iface 116 (.pointer (some ⟨ow, 0, none⟩)))
  l5 : w.cell? ⟨p, 5, none⟩ = some (.bool (s.chg i))
  l6 : w.cell? ⟨p, 6, none⟩ = some (.string no)
theorem Pm.found {w : World} {C : PC} {V : PV} {s : PS} (h : Pm w C V s) (hR : Right C.S) {i : Nat} (hi : i < C.S.flags.length) (hs : (C.S.flags[i].name).length ≤ 17179869184) :
    Found w C V s i (C.FL.getD i 0) (C.OW.getD i 0) (mkT (foldT C.S.fold C.S.flags[i].name)) (mkT C.S.flags[i].noOpt) := by
  obtain ⟨n1, hm1⟩ := h.fm
  refine ⟨?_, (cell_blk h.hF 8).trans rfl, (cell_blk (h.flag i hi) 3).trans rfl, (cell_blk (h.flag i hi) 5).trans rfl, (cell_blk (h.flag i hi) 6).trans rfl⟩
  rintro t rfl
  have hl := hm1.look Try.kN Try.underlying128 (Try.zP w) (key_txt (mkT (foldT C.S.fold C.S.flags[i].name)) (by rw [mkT_size]; simp [foldT]; omega))
  rw [mkT_list, nmF_all h.len, named_of hR hi rfl] at hl
  exact hl

set_option maxRecDepth 100000 in
set_option maxHeartbeats 1600000 in
theorem set_bad (C : PC) (hR : Right C.S) (V : PV) (parsed : Bool) (st : St) (i : Nat) (v : Txt) (w : World) (hp : Pm w C V (psOf none parsed st)) (hi : i < C.S.flags.length) (hs : (C.S.flags[i].name).length ≤ 17179869184) (hb : v ∈ C.S.flags[i].bad) :
    Calls Try.prog 78 #[.pointer (some ⟨C.F, 0, none⟩), .string (mkT (foldT C.S.fold C.S.flags[i].name)), .string (mkT v)] w (GiveEnd none C parsed { st with err := .invalid i v } w) := by
  have hns : (mkT (foldT C.S.fold C.S.flags[i].name)).size ≤ 17179869184 := by rw [mkT_size]; simp [foldT]; exact hs
  have HN := Lib.hid (norm_any C.F C.S.fold (mkT (foldT C.S.fold C.S.flags[i].name)) hns w hp.norm_at)
  rw [mkT_list, foldT_idem] at HN
  have HF := Lib.hid (fun w1 (hb1 : Below w.heap.size w w1) => (hp.below hb1).found hR hi hs)
  have HO := Lib.hid (fun w1 (hb1 : Below w.heap.size w w1) => by
    obtain ⟨vb, hat⟩ := (hp.below hb1).at hi
    exact ownSet_bad C i vb _ v w1 hat hb)
  have HP := Lib.hid hp
  have qms := method_set
  generalize mkT (foldT C.S.fold C.S.flags[i].name) = NM at HN HF ⊢
  generalize C.OW.getD i 0 = ow at HF HO
  generalize C.S.flags[i].noOpt = no at HF
  have HGP : Hid (∃ p, p = C.FL.getD i 0) := ⟨_, rfl⟩
  obtain ⟨p, hpe⟩ := HGP.out
  rw [← hpe] at HF
  have HPE := Lib.hid hpe
  clear hp hb hR hns hpe HGP hs hi
  go_enter Try.func78, Try.ntmps78
  go_wp2_with (first
    | (go_at_call 95; refine (HN.out).mono ?_; rintro e w1 ⟨rfl, hb1⟩; have HF1 := HF.out w1 hb1; have hlk := HF1.look _ rfl; have f8 := HF1.f8; have l3 := HF1.l3; have HB1 := Lib.hid hb1; have HO1 := Lib.hid (HO.out w1 hb1); clear HF1 hb1)
    | (go_at_call 145; refine (HO1.out).mono ?_; rintro e w2 ⟨rfl, rfl⟩))
  go_ret
  refine ⟨_, V, rfl, (HP.out.below HB1.out).below ((Below.refl _ _).alloc (Nat.le_refl _) _), ⟨_, _, rfl, by rw [← HPE.out]; exact heap_alloc_new _ _⟩, (Fr.of_below HB1.out).trans (Fr.of_below ((Below.refl _ _).alloc (Nat.le_refl _) _))⟩

set_option maxRecDepth 100000 in
set_option maxHeartbeats 1600000 in
theorem set_again (C : PC) (hR : Right C.S) (V : PV) (parsed : Bool) (st : St) (i : Nat) (v : Txt) (w : World) (hp : Pm w C V (psOf none parsed st)) (hi : i < C.S.flags.length) (hs : (C.S.flags[i].name).length ≤ 17179869184) (hb : ¬ v ∈ C.S.flags[i].bad) (hG : st.given.length ≤ 1099511627776) (he : st.err = .no)
    (hch : chgM none st.given i = true) :
    Calls Try.prog 78 #[.pointer (some ⟨C.F, 0, none⟩), .string (mkT (foldT C.S.fold C.S.flags[i].name)), .string (mkT v)] w (GiveEnd none C parsed { st with given := st.given ++ [(i, v)] } w) := by
  have hns : (mkT (foldT C.S.fold C.S.flags[i].name)).size ≤ 17179869184 := by rw [mkT_size]; simp [foldT]; exact hs
  have HN := Lib.hid (norm_any C.F C.S.fold (mkT (foldT C.S.fold C.S.flags[i].name)) hns w hp.norm_at)
  rw [mkT_list, foldT_idem] at HN
  have HF := Lib.hid (fun w1 (hb1 : Below w.heap.size w w1) => (hp.below hb1).found hR hi hs)
  have HO := Lib.hid (fun w1 (hb1 : Below w.heap.size w w1) => by
    obtain ⟨vb, hat⟩ := (hp.below hb1).at hi
    exact ownSet_ok C V (psOf none parsed st) i vb _ v w1 (hp.below hb1) hat hb hG)
  have HC : Hid (∀ w2 said, Pm w2 C { V with said := said } { psOf none parsed st with G := (psOf none parsed st).G ++ [(i, v)] } → w2.cell? ⟨C.FL.getD i 0, 5, none⟩ = some (.bool true)) := by
    show ∀ w2 said, _
    intro w2 said h2
    exact (cell_blk (h2.flag i hi) 5).trans (by show some (Value.bool (chgM none st.given i)) = _; rw [hch])
  have HPS : Hid ({ psOf none parsed st with G := (psOf none parsed st).G ++ [(i, v)] } = psOf none parsed { st with given := st.given ++ [(i, v)] }) := by
    show _ = _
    unfold psOf
    simp only
    rw [chg_old hch]
  have HER := Lib.hid he
  have qms := method_set
  generalize mkT (foldT C.S.fold C.S.flags[i].name) = NM at HN HF ⊢
  generalize C.OW.getD i 0 = ow at HF HO
  generalize C.S.flags[i].noOpt = no at HF
  generalize C.FL.getD i 0 = p at HF HC
  clear hp hb hR hns hs hi hch he
  unfold OwnEnd at HO
  go_enter Try.func78, Try.ntmps78
  go_wp2_with (first
    | (go_at_call 95; refine (HN.out).mono ?_; rintro e w1 ⟨rfl, hb1⟩; have HF1 := HF.out w1 hb1; have hlk := HF1.look _ rfl; have f8 := HF1.f8; have l3 := HF1.l3; have HB1 := Lib.hid hb1; have HO1 := Lib.hid (HO.out w1 hb1); clear HF1 hb1)
    | (go_at_call 145; refine (HO1.out).mono ?_; rintro e w2 ⟨rfl, said, h2, hfr⟩; have l5 := HC.out w2 said h2; have HP2 := Lib.hid h2; have HFR := Lib.hid hfr; clear h2 hfr))
  go_ret
  have h2 := HP2.out
  rw [HPS.out] at h2
  exact ⟨_, _, rfl, h2, (by have h := HER.out; show ErrAt C _ _ st.err; rw [h]; rfl), (Fr.of_below HB1.out).trans HFR.out⟩

theorem ordr_ne {w : World} {C : PC} {V : PV} {s : PS} (h : Pm w C V s) : (∀ b, V.act = some b → V.ord.ownBlock ≠ some b) ∧ (∀ b, V.act = some b → V.av.ownBlock ≠ some b) ∧ (∀ b, V.av.ownBlock = some b → V.ord.ownBlock ≠ some b) := by
  obtain ⟨f3, hm3⟩ := h.am
  obtain ⟨xs4, ho4⟩ := h.odr
  refine ⟨fun b e => ?_, fun b e => ?_, fun b e e2 => ?_⟩
  · rw [e] at hm3; exact map_own hm3 ho4
  · rw [e] at hm3; exact map_own hm3 h.avr
  · obtain ⟨cur, hc⟩ := own_is h.avr e
    exact own_far3 ho4 hc (by decide) e2
/-- A map of what was set is made. -/
theorem Pm.actNew {w : World} {C : PC} {V : PV} {s : PS} (h : Pm w C V s) (hn : V.act = none) :
    Pm ((w.setCell ⟨C.F, 5, none⟩ (.map (some w.heap.size))).alloc (.map #[] 0)) C { V with act := some w.heap.size, na := 0 } s ∧ Fr C w ((w.setCell ⟨C.F, 5, none⟩ (.map (some w.heap.size))).alloc (.map #[] 0)) := by
  have lF := lt_of_block h.hF
  have hal : Below w.heap.size w (w.alloc (.map #[] 0)) := (Below.refl _ _).alloc (Nat.le_refl _) _
  have h' := h.below hal
  have e : (w.alloc (.map #[] 0)).setCell ⟨C.F, 5, none⟩ (.map (some w.heap.size)) = (w.setCell ⟨C.F, 5, none⟩ (.map (some w.heap.size))).alloc (.map #[] 0) := World.setCell_alloc_past _ _ _ _ lF
  have r := h'.setF (V' := { V with act := some w.heap.size, na := 0 }) (s' := s) 5 (.map (some w.heap.size)) rfl rfl rfl rfl rfl rfl rfl ⟨_, PMap.made enT w _ _⟩ h'.odr ⟨Nat.zero_le _, h.cnt.2⟩ h'.avr (fun b e => by cases e; exact h.low.2.2.2.2.2.2)
  rw [e] at r
  exact ⟨r.1, (Fr.of_below hal).trans r.2⟩
/-- An entry is laid into it. -/
theorem Pm.actPut {w w1 : World} {C : PC} {V : PV} {s : PS} (h : Pm w C V s) {b : Nat} (hb : V.act = some b) (hg : w.grownBy w1 (some b)) {f : Txt → Option Nat} (hm : PMap w1 Try.prog 113 enT (some b) (V.na + 1) f) (hc : V.na + 1 ≤ s.G.length) :
    Pm w1 C { V with na := V.na + 1 } s ∧ Fr C w w1 := by
  have ch : Ch w w1 (fun x => x = b) := ⟨hg.os, hg.tape, hg.output, hg.size, fun x hx hX => hg.block x hx (fun e => hX (Option.some.inj e))⟩
  obtain ⟨xs4, ho4⟩ := h.odr
  obtain ⟨f3, hm3⟩ := h.am
  have hB1 := h.lowm.2.2.2 b hb
  obtain ⟨q1, q2, _⟩ := ordr_ne h
  have nX : ∀ {x : Nat} {cs : Array Value} {T : TypeId} {fr : Nat × Nat}, w.heap[x]? = some (.cells cs T fr) → ¬ (x = b) := by
    intro x cs T fr hx e
    subst e
    exact (h.nm hx).2.2 hb
  refine h.turn (V' := { V with na := V.na + 1 }) (s' := s) ch (h.blk ch h.hF (nX h.hF)) (h.blk ch h.hW (nX h.hW)) rfl rfl rfl ⟨f, by show PMap w1 _ _ _ V.act _ _; rw [hb]; exact hm⟩ ⟨xs4, ?_⟩ ⟨hc, h.cnt.2⟩ ?_ ?_ ?_ h.lowm.2.2.2 ?_ (fun x hX hk => by obtain ⟨cs, T, fr, hx, _⟩ := (h.kp x hk).1; exact nX hx hX) (fun x hk => (h.kp x hk).2)
  · exact own_of_blk ho4 fun g hg2 => ch.block g (ho4.lt g hg2).2 (fun e => by subst e; exact q1 g hb hg2)
  · exact own_of_blk h.avr fun g hg2 => ch.block g (h.avr.lt g hg2).2 (fun e => by subst e; exact q2 g hb hg2)
  · refine own_of_blk h.sdr fun g2 hg2 => ?_
    obtain ⟨cur, hc⟩ := own_is h.sdr hg2
    exact ch.block g2 (lt_of_block hc) (nX hc)
  · intro j hj
    exact h.blk ch (h.flag j hj) (nX (h.flag j hj))
  · intro x hx e
    subst e
    refine ⟨by have := h.low.2.2.2.2.2.1; omega, fun e2 => by have := h.lowm.1 x e2; omega, fun e2 => by have := h.lowm.2.1 x e2; omega, fun e2 => by have := h.lowm.2.2.1 x e2; omega, fun cs T fr hc => absurd rfl (nX hc)⟩


theorem made_at (w : World) (F : Nat) : PMap ((w.setCell ⟨F, 5, none⟩ (.map (some w.heap.size))).alloc (.map #[] 0)) Try.prog 113 enT (some w.heap.size) 0 (fun _ => none) := by
  have h := PMap.made enT (w.setCell ⟨F, 5, none⟩ (.map (some w.heap.size))) Try.prog 113
  rwa [show (w.setCell ⟨F, 5, none⟩ (.map (some w.heap.size))).heap.size = w.heap.size by simp] at h

set_option maxRecDepth 100000 in
set_option maxHeartbeats 3200000 in
theorem set_new_some (C : PC) (hR : Right C.S) (V : PV) (parsed : Bool) (st : St) (i : Nat) (v : Txt) (w : World) (hp : Pm w C V (psOf none parsed st)) (hi : i < C.S.flags.length) (hs : (C.S.flags[i].name).length ≤ 17179869184) (hb : ¬ v ∈ C.S.flags[i].bad) (hG : st.given.length ≤ 1099511627776) (he : st.err = .no)
    (hch : chgM none st.given i = false) (ba : Nat) (ha : V.act = some ba) :
    Calls Try.prog 78 #[.pointer (some ⟨C.F, 0, none⟩), .string (mkT (foldT C.S.fold C.S.flags[i].name)), .string (mkT v)] w (GiveEnd none C parsed { st with given := st.given ++ [(i, v)] } w) := by
  obtain ⟨ti, gi, hz0, hz1, hz2⟩ := info_parts Try.infoP
  have hns : (mkT (foldT C.S.fold C.S.flags[i].name)).size ≤ 17179869184 := by rw [mkT_size]; simp [foldT]; exact hs
  have HN := Lib.hid (norm_any C.F C.S.fold (mkT (foldT C.S.fold C.S.flags[i].name)) hns w hp.norm_at)
  rw [mkT_list, foldT_idem] at HN
  have HF := Lib.hid (fun w1 (hb1 : Below w.heap.size w w1) => (hp.below hb1).found hR hi hs)
  have HO := Lib.hid (fun w1 (hb1 : Below w.heap.size w w1) => by
    obtain ⟨vb, hat⟩ := (hp.below hb1).at hi
    exact ownSet_ok C V (psOf none parsed st) i vb _ v w1 (hp.below hb1) hat hb hG)
  have HPS : Hid (∀ w2 V', Pm w2 C V' { ({ psOf none parsed st with G := (psOf none parsed st).G ++ [(i, v)] } : PS) with chg := fun j => if j = i then true else ({ psOf none parsed st with G := (psOf none parsed st).G ++ [(i, v)] } : PS).chg j } → Pm w2 C V' (psOf none parsed { st with given := st.given ++ [(i, v)] })) := by
    show ∀ w2 V', _
    intro w2 V' h2
    have e : psOf none parsed { st with given := st.given ++ [(i, v)] } = { ({ psOf none parsed st with G := (psOf none parsed st).G ++ [(i, v)] } : PS) with chg := fun j => if j = i then true else ({ psOf none parsed st with G := (psOf none parsed st).G ++ [(i, v)] } : PS).chg j } := by
      unfold psOf; simp only; rw [chg_new]
    rw [e]; exact h2
  have HER := Lib.hid he
  have HI := Lib.hid hi
  have HCH : Hid (({ psOf none parsed st with G := (psOf none parsed st).G ++ [(i, v)] } : PS).chg i = false) := hch
  have HGL : Hid (({ psOf none parsed st with G := (psOf none parsed st).G ++ [(i, v)] } : PS).G.length = st.given.length + 1) := by show (st.given ++ [(i, v)]).length = _; simp
  have hcn : V.na ≤ st.given.length ∧ V.no ≤ st.given.length := hp.cnt
  have HKN := Lib.hid (key_txt (mkT (foldT C.S.fold C.S.flags[i].name)) (by omega))
  unfold OwnEnd at HO
  generalize ({ psOf none parsed st with G := (psOf none parsed st).G ++ [(i, v)] } : PS) = s2 at HO HPS HCH HGL
  have qms := method_set
  have qm := fun (w : World) (r : Option Nat) => run_eql_map_nil (P := Try.prog) w 128 113 104 r Try.underlying128
  have hmm := @run_makeMap Try.prog
  generalize mkT (foldT C.S.fold C.S.flags[i].name) = NM at HN HF HKN ⊢
  generalize C.OW.getD i 0 = ow at HF HO
  generalize C.S.flags[i].noOpt = no at HF
  have HGP : Hid (∃ p, p = C.FL.getD i 0) := ⟨_, rfl⟩
  obtain ⟨p, hpe⟩ := HGP.out
  rw [← hpe] at HF
  have HPE := Lib.hid hpe
  clear hp hb hR hns hs hi hch he hpe HGP
  go_enter Try.func78, Try.ntmps78
  go_wp2_with (first
    | (go_at_call 95; refine (HN.out).mono ?_; rintro e w1 ⟨rfl, hb1⟩; have HF1 := HF.out w1 hb1; have hlk := HF1.look _ rfl; have f8 := HF1.f8; have l3 := HF1.l3; have HB1 := Lib.hid hb1; have HO1 := Lib.hid (HO.out w1 hb1); clear HF1 hb1)
    | (go_at_call 145; refine (HO1.out).mono ?_; rintro e w2 ⟨rfl, said, h2, hfr⟩; have HP2 := Lib.hid h2; have HFR := Lib.hid hfr; have l5 : w2.cell? ⟨p, 5, none⟩ = some (.bool false) := (by rw [HPE.out]; exact (cell_blk (h2.flag i HI.out) 5).trans (by show some (Value.bool (s2.chg i)) = _; rw [HCH.out])); have z5 : w2.frozen? ⟨p, 5, none⟩ = false := (by rw [HPE.out]; exact free_blk (h2.flag i HI.out) 5); have f5 : w2.cell? ⟨C.F, 5, none⟩ = some (.map (some ba)) := ((cell_blk h2.hF 5).trans (by show some (Value.map V.act) = _; rw [ha])); have zF := free_blk h2.hF; have lF := lt_of_block h2.hF; have lp : p < w2.heap.size := (by rw [HPE.out]; exact lt_of_block (h2.flag i HI.out)); have nFp : C.F ≠ p := (by rw [HPE.out]; exact Ne.symm (h2.nfl HI.out).1); have npF := Ne.symm nFp; have HP3 := Lib.hid h2; have HFR3 := Lib.hid (Fr.refl C w2); have HMP0 := h2.am; obtain ⟨fa, hmp⟩ := HMP0; have HMP : Hid (PMap w2 Try.prog 113 enT (some ba) V.na fa) := (by have q := hmp; rw [show ({ V with said := said } : PV).act = some ba from ha] at q; exact q); clear hmp; clear h2 hfr)
    | (at_mapUpdate; refine wpList_put_ptr _ rfl _ _ _ 128 rfl 113 104 Try.kN Try.underlying128 enT_inj ba V.na _ rfl HMP.out (by unfold maxLen; omega) _ p NM.data.toList rfl rfl HKN.out ?_; intro w4 hm4 hg4; have HQ4 := HP3.out.actPut ha hg4 hm4 (by rw [HGL.out]; show V.na + 1 ≤ _; omega); have HP4 := Lib.hid HQ4.1; have HFR4 := Lib.hid (HFR3.out.trans HQ4.2); have f6 : w4.cell? ⟨C.F, 6, none⟩ = some V.ord := ((cell_blk HQ4.1.hF 6).trans rfl); have zF4 := free_blk HQ4.1.hF; have lF4 := lt_of_block HQ4.1.hF; have HP4A := Lib.hid (HQ4.1.below ((Below.refl _ _).alloc (Nat.le_refl _) (.cells #[.pointer (some ⟨p, 0, none⟩)] 104))); have HOR := Lib.hid HP4A.out.odr; obtain ⟨xs4, hor⟩ := HOR.out; have HOW := Lib.hid hor; have HB14 : Hid (C.B1 ≤ w4.heap.size) := HQ4.1.low.2.2.2.2.2.2; clear HQ4 hm4 hg4 hor)
    | (at_builtin; refine wpList_append_lies _ rfl (.tmp 67) (.tmp 69) 88 rfl C.B1 104 ti _ 1 8 Try.underlying88 gi hz0 hz1 hz2 rfl (by decide) _ V.no _ rfl HOW.out ⟨w4.heap.size, 0, none⟩ 1 1 [.pointer (some ⟨p, 0, none⟩)] rfl rfl (World.news_of_block (cs := #[.pointer (some ⟨p, 0, none⟩)]) (t := 104) (fr := (0, 0)) (heap_alloc_new w4 _)) (by simp [Value.oneCell']) (by omega) (by unfold maxLen; omega) (by omega) (by have := HB14.out; simp; omega) (w4.heap.size + 1) (by simp) ?_; intro g5 cap5 w5 hown5 hg5 hat5 hlt5; have HQ5 := HP4.out.grow (V' := { V with said := said, na := V.na + 1, ord := .slice (some ⟨g5, 0, none⟩) (V.no + 1) cap5, no := V.no + 1 }) (s' := s2) ((Below.refl _ _).alloc (Nat.le_refl _) (.cells #[.pointer (some ⟨p, 0, none⟩)] 104)) hg5 (.inr (.inl rfl)) 6 (.slice (some ⟨g5, 0, none⟩) (V.no + 1) cap5) rfl rfl rfl rfl rfl rfl rfl (.inl ⟨rfl, rfl, fun e => (ordr_ne HP4.out).1 ba ha (e.trans ha)⟩) (.inr ⟨_, hown5⟩) (by rw [HGL.out]; show V.na + 1 ≤ _ ∧ V.no + 1 ≤ _; omega) (.inl ⟨rfl, rfl, fun b e e2 => (ordr_ne HP4.out).2.2 b e e2⟩) (fun b e => HP4.out.lowm.2.2.2 b e); have HQ6 := HQ5.1.mark HI.out; rw [← HPE.out] at HQ6; have HP6 := Lib.hid HQ6.1; have HFR6 := Lib.hid ((HFR4.out.trans HQ5.2).trans HQ6.2); have k5 := (grown_blk hg5 (HP4A.out).hF (fun e => own_far3 HOW.out HP4A.out.hF (by decide) e.symm)); have k6 : w5.cell? ⟨C.F, 6, none⟩ = some V.ord := ((cell_blk k5 6).trans rfl); have z6 := free_blk k5; have m5 : w5.heap[p]? = (w4.alloc (.cells #[.pointer (some ⟨p, 0, none⟩)] 104)).heap[p]? := (by have h := hg5.block (C.FL.getD i 0) (lt_of_block (HP4A.out.flag i HI.out)) (fun e => own_far3 HOW.out (HP4A.out.flag i HI.out) (by decide) e.symm); rw [← HPE.out] at h; exact h); have n5 : w5.cell? ⟨p, 5, none⟩ = some (.bool (s2.chg i)) := (by have h := HP4A.out.flag i HI.out; rw [← HPE.out] at h; rw [← m5] at h; exact (cell_blk h 5).trans rfl); have n6 : w5.frozen? ⟨p, 5, none⟩ = false := (by have h := HP4A.out.flag i HI.out; rw [← HPE.out] at h; rw [← m5] at h; exact free_blk h 5); clear HQ5 HQ6 m5 k5))
  go_ret
  exact ⟨_, _, rfl, HPS.out _ _ HP6.out, (by have h := HER.out; show ErrAt C _ _ st.err; rw [h]; rfl), ((Fr.of_below HB1.out).trans HFR.out).trans HFR6.out⟩

set_option maxRecDepth 100000 in
set_option maxHeartbeats 3200000 in
theorem set_new_none (C : PC) (hR : Right C.S) (V : PV) (parsed : Bool) (st : St) (i : Nat) (v : Txt) (w : World) (hp : Pm w C V (psOf none parsed st)) (hi : i < C.S.flags.length) (hs : (C.S.flags[i].name).length ≤ 17179869184) (hb : ¬ v ∈ C.S.flags[i].bad) (hG : st.given.length ≤ 1099511627776) (he : st.err = .no)
    (hch : chgM none st.given i = false) (ha : V.act = none) :
    Calls Try.prog 78 #[.pointer (some ⟨C.F, 0, none⟩), .string (mkT (foldT C.S.fold C.S.flags[i].name)), .string (mkT v)] w (GiveEnd none C parsed { st with given := st.given ++ [(i, v)] } w) := by
  obtain ⟨ti, gi, hz0, hz1, hz2⟩ := info_parts Try.infoP
  have hns : (mkT (foldT C.S.fold C.S.flags[i].name)).size ≤ 17179869184 := by rw [mkT_size]; simp [foldT]; exact hs
  have HN := Lib.hid (norm_any C.F C.S.fold (mkT (foldT C.S.fold C.S.flags[i].name)) hns w hp.norm_at)
  rw [mkT_list, foldT_idem] at HN
  have HF := Lib.hid (fun w1 (hb1 : Below w.heap.size w w1) => (hp.below hb1).found hR hi hs)
  have HO := Lib.hid (fun w1 (hb1 : Below w.heap.size w w1) => by
    obtain ⟨vb, hat⟩ := (hp.below hb1).at hi
    exact ownSet_ok C V (psOf none parsed st) i vb _ v w1 (hp.below hb1) hat hb hG)
  have HPS : Hid (∀ w2 V', Pm w2 C V' { ({ psOf none parsed st with G := (psOf none parsed st).G ++ [(i, v)] } : PS) with chg := fun j => if j = i then true else ({ psOf none parsed st with G := (psOf none parsed st).G ++ [(i, v)] } : PS).chg j } → Pm w2 C V' (psOf none parsed { st with given := st.given ++ [(i, v)] })) := by
    show ∀ w2 V', _
    intro w2 V' h2
    have e : psOf none parsed { st with given := st.given ++ [(i, v)] } = { ({ psOf none parsed st with G := (psOf none parsed st).G ++ [(i, v)] } : PS) with chg := fun j => if j = i then true else ({ psOf none parsed st with G := (psOf none parsed st).G ++ [(i, v)] } : PS).chg j } := by
      unfold psOf; simp only; rw [chg_new]
    rw [e]; exact h2
  have HER := Lib.hid he
  have HI := Lib.hid hi
  have HCH : Hid (({ psOf none parsed st with G := (psOf none parsed st).G ++ [(i, v)] } : PS).chg i = false) := hch
  have HGL : Hid (({ psOf none parsed st with G := (psOf none parsed st).G ++ [(i, v)] } : PS).G.length = st.given.length + 1) := by show (st.given ++ [(i, v)]).length = _; simp
  have hcn : V.na ≤ st.given.length ∧ V.no ≤ st.given.length := hp.cnt
  have HKN := Lib.hid (key_txt (mkT (foldT C.S.fold C.S.flags[i].name)) (by omega))
  unfold OwnEnd at HO
  generalize ({ psOf none parsed st with G := (psOf none parsed st).G ++ [(i, v)] } : PS) = s2 at HO HPS HCH HGL
  have qms := method_set
  have qm := fun (w : World) (r : Option Nat) => run_eql_map_nil (P := Try.prog) w 128 113 104 r Try.underlying128
  have hmm := @run_makeMap Try.prog
  generalize mkT (foldT C.S.fold C.S.flags[i].name) = NM at HN HF HKN ⊢
  generalize C.OW.getD i 0 = ow at HF HO
  generalize C.S.flags[i].noOpt = no at HF
  have HGP : Hid (∃ p, p = C.FL.getD i 0) := ⟨_, rfl⟩
  obtain ⟨p, hpe⟩ := HGP.out
  rw [← hpe] at HF
  have HPE := Lib.hid hpe
  clear hp hb hR hns hs hi hch he hpe HGP
  go_enter Try.func78, Try.ntmps78
  go_wp2_with (first
    | (go_at_call 95; refine (HN.out).mono ?_; rintro e w1 ⟨rfl, hb1⟩; have HF1 := HF.out w1 hb1; have hlk := HF1.look _ rfl; have f8 := HF1.f8; have l3 := HF1.l3; have HB1 := Lib.hid hb1; have HO1 := Lib.hid (HO.out w1 hb1); clear HF1 hb1)
    | (go_at_call 145; refine (HO1.out).mono ?_; rintro e w2 ⟨rfl, said, h2, hfr⟩; have HP2 := Lib.hid h2; have HFR := Lib.hid hfr; have l5 : w2.cell? ⟨p, 5, none⟩ = some (.bool false) := (by rw [HPE.out]; exact (cell_blk (h2.flag i HI.out) 5).trans (by show some (Value.bool (s2.chg i)) = _; rw [HCH.out])); have z5 : w2.frozen? ⟨p, 5, none⟩ = false := (by rw [HPE.out]; exact free_blk (h2.flag i HI.out) 5); have f5 : w2.cell? ⟨C.F, 5, none⟩ = some (.map none) := ((cell_blk h2.hF 5).trans (by show some (Value.map V.act) = _; rw [ha])); have zF := free_blk h2.hF; have lF := lt_of_block h2.hF; have lp : p < w2.heap.size := (by rw [HPE.out]; exact lt_of_block (h2.flag i HI.out)); have nFp : C.F ≠ p := (by rw [HPE.out]; exact Ne.symm (h2.nfl HI.out).1); have npF := Ne.symm nFp; have HQ3 := h2.actNew ha; have HP3 := Lib.hid HQ3.1; have HFR3 := Lib.hid HQ3.2; clear HQ3; have HMP := Lib.hid (made_at w2 C.F); clear h2 hfr)
    | (at_mapUpdate; refine wpList_put_ptr _ rfl _ _ _ 128 rfl 113 104 Try.kN Try.underlying128 enT_inj w2.heap.size 0 _ rfl HMP.out (by unfold maxLen; omega) _ p NM.data.toList rfl rfl HKN.out ?_; intro w4 hm4 hg4; have HQ4 := HP3.out.actPut rfl hg4 hm4 (by rw [HGL.out]; show 0 + 1 ≤ _; omega); have HP4 := Lib.hid HQ4.1; have HFR4 := Lib.hid (HFR3.out.trans HQ4.2); have f6 : w4.cell? ⟨C.F, 6, none⟩ = some V.ord := ((cell_blk HQ4.1.hF 6).trans rfl); have zF4 := free_blk HQ4.1.hF; have lF4 := lt_of_block HQ4.1.hF; have HP4A := Lib.hid (HQ4.1.below ((Below.refl _ _).alloc (Nat.le_refl _) (.cells #[.pointer (some ⟨p, 0, none⟩)] 104))); have HOR := Lib.hid HP4A.out.odr; obtain ⟨xs4, hor⟩ := HOR.out; have HOW := Lib.hid hor; have HB14 : Hid (C.B1 ≤ w4.heap.size) := HQ4.1.low.2.2.2.2.2.2; clear HQ4 hm4 hg4 hor)
    | (at_builtin; refine wpList_append_lies _ rfl (.tmp 67) (.tmp 69) 88 rfl C.B1 104 ti _ 1 8 Try.underlying88 gi hz0 hz1 hz2 rfl (by decide) _ V.no _ rfl HOW.out ⟨w4.heap.size, 0, none⟩ 1 1 [.pointer (some ⟨p, 0, none⟩)] rfl rfl (World.news_of_block (cs := #[.pointer (some ⟨p, 0, none⟩)]) (t := 104) (fr := (0, 0)) (heap_alloc_new w4 _)) (by simp [Value.oneCell']) (by omega) (by unfold maxLen; omega) (by omega) (by have := HB14.out; simp; omega) (w4.heap.size + 1) (by simp) ?_; intro g5 cap5 w5 hown5 hg5 hat5 hlt5; have HQ5 := HP4.out.grow (V' := { V with said := said, act := some w2.heap.size, na := 0 + 1, ord := .slice (some ⟨g5, 0, none⟩) (V.no + 1) cap5, no := V.no + 1 }) (s' := s2) ((Below.refl _ _).alloc (Nat.le_refl _) (.cells #[.pointer (some ⟨p, 0, none⟩)] 104)) hg5 (.inr (.inl rfl)) 6 (.slice (some ⟨g5, 0, none⟩) (V.no + 1) cap5) rfl rfl rfl rfl rfl rfl rfl (.inl ⟨rfl, rfl, fun e => (ordr_ne HP4.out).1 w2.heap.size rfl e⟩) (.inr ⟨_, hown5⟩) (by rw [HGL.out]; show 0 + 1 ≤ _ ∧ V.no + 1 ≤ _; omega) (.inl ⟨rfl, rfl, fun b e e2 => (ordr_ne HP4.out).2.2 b e e2⟩) (fun b e => HP4.out.lowm.2.2.2 b e); have HQ6 := HQ5.1.mark HI.out; rw [← HPE.out] at HQ6; have HP6 := Lib.hid HQ6.1; have HFR6 := Lib.hid ((HFR4.out.trans HQ5.2).trans HQ6.2); have k5 := (grown_blk hg5 (HP4A.out).hF (fun e => own_far3 HOW.out HP4A.out.hF (by decide) e.symm)); have k6 : w5.cell? ⟨C.F, 6, none⟩ = some V.ord := ((cell_blk k5 6).trans rfl); have z6 := free_blk k5; have m5 : w5.heap[p]? = (w4.alloc (.cells #[.pointer (some ⟨p, 0, none⟩)] 104)).heap[p]? := (by have h := hg5.block (C.FL.getD i 0) (lt_of_block (HP4A.out.flag i HI.out)) (fun e => own_far3 HOW.out (HP4A.out.flag i HI.out) (by decide) e.symm); rw [← HPE.out] at h; exact h); have n5 : w5.cell? ⟨p, 5, none⟩ = some (.bool (s2.chg i)) := (by have h := HP4A.out.flag i HI.out; rw [← HPE.out] at h; rw [← m5] at h; exact (cell_blk h 5).trans rfl); have n6 : w5.frozen? ⟨p, 5, none⟩ = false := (by have h := HP4A.out.flag i HI.out; rw [← HPE.out] at h; rw [← m5] at h; exact free_blk h 5); clear HQ5 HQ6 m5 k5))
  go_ret
  exact ⟨_, _, rfl, HPS.out _ _ HP6.out, (by have h := HER.out; show ErrAt C _ _ st.err; rw [h]; rfl), ((Fr.of_below HB1.out).trans HFR.out).trans HFR6.out⟩
end Go.Proofs.Ytgmhhdpggnmipaa.E
