/- bare's parsing of one long argument, over this seat's program. Written by gen_fs11.py. -/
import Derived.Test.YtgmhhdpggnmipaaFs10
namespace Go.Proofs.Ytgmhhdpggnmipaa.E
open Go.RowKit Go.Proofs
open Go.Maps (Keyed)
set_option linter.unusedVariables false
set_option linter.unusedSimpArgs false

/-- Arguments that are left, as they lie in memory below a set. -/
def RestAt (C : PC) (w : World) (v : Value) (rest : List Txt) : Prop := ∃ A cap, v = .slice A rest.length cap ∧ StrsAt w A (rest.map mkT) ∧ rest.length ≤ cap ∧ cap ≤ 9223372036854775807 ∧ (A = none → cap = 0) ∧ ∀ a, A = some a → a.block < C.B
theorem RestAt.texts {C : PC} {w : World} {v : Value} {rest : List Txt} (h : RestAt C w v rest) : Texts w v (rest.map mkT) := by
  obtain ⟨A, cap, rfl, h1, h2, h3, h4, _⟩ := h
  exact ⟨A, cap, by simp, h1, by simpa using h2, h3, h4⟩
theorem RestAt.fr {C : PC} {w w' : World} {v : Value} {rest : List Txt} (h : RestAt C w v rest) (hf : Fr C w w') : RestAt C w' v rest := by
  obtain ⟨A, cap, rfl, h1, h2, h3, h4, h5⟩ := h
  refine ⟨A, cap, rfl, ?_, h2, h3, h4, h5⟩
  intro i hi
  obtain ⟨b, o, e, hc⟩ := h1 i hi
  refine ⟨b, o, e, ?_⟩
  rw [World.cell?_of_block (hf.low b (h5 _ e) (by have := World.block_lt_of_cell? w _ hc; simpa using this))]
  exact hc
theorem RestAt.below {C : PC} {w w' : World} {v : Value} {rest : List Txt} (h : RestAt C w v rest) (hb : Below w.heap.size w w') : RestAt C w' v rest := h.fr (Fr.of_below hb)
theorem RestAt.nil (C : PC) (w : World) : RestAt C w (.slice none 0 0) [] := ⟨none, 0, rfl, fun i hi => by simp at hi, by simp, by simp, fun _ => rfl, fun a h => by cases h⟩
theorem RestAt.head {C : PC} {w : World} {v : Value} {a : Txt} {r : List Txt} (h : RestAt C w v (a :: r)) : ∃ b o cap, v = .slice (some ⟨b, o, none⟩) (r.length + 1) cap ∧ w.cell? ⟨b, o, none⟩ = some (.string (mkT a)) ∧ r.length + 1 ≤ cap ∧ cap ≤ 9223372036854775807 ∧ (∀ W, StrsAt W (some ⟨b, o, none⟩) ((a :: r).map mkT) → StrsAt W (some ⟨b, o + 1, none⟩) (r.map mkT)) ∧ StrsAt w (some ⟨b, o, none⟩) ((a :: r).map mkT) ∧ b < C.B := by
  obtain ⟨A, cap, rfl, h1, h2, h3, h4, h5⟩ := h
  obtain ⟨b, o, rfl, hc⟩ := strsAt_head h1
  exact ⟨b, o, cap, rfl, hc, h2, h3, fun W hW => strsAt_tail hW, h1, h5 _ rfl⟩
theorem RestAt.tail {C : PC} {w : World} {b o cap : Nat} {a : Txt} {r : List Txt} (h : RestAt C w (.slice (some ⟨b, o, none⟩) (r.length + 1) cap) (a :: r)) : RestAt C w (.slice (some ⟨b, o + 1, none⟩) (r.length + 1 - 1) (cap - 1)) r := by
  obtain ⟨A, cap', e, h1, h2, h3, h4, h5⟩ := h
  simp only [Value.slice.injEq] at e
  obtain ⟨rfl, _, rfl⟩ := e
  exact ⟨_, cap - 1, by simp, strsAt_tail h1, by simp at h2; omega, by omega, (fun h => by cases h), (fun a h => by cases h; exact h5 ⟨b, o, none⟩ rfl)⟩
theorem RestAt.tail1 {C : PC} {w : World} {b o cap : Nat} {a : Txt} {r : List Txt} (h : RestAt C w (.slice (some ⟨b, o, none⟩) (r.length + 1) cap) (a :: r)) (hc : cap = 1) : RestAt C w (.slice (some ⟨b, o, none⟩) (r.length + 1 - 1) 0) r := by
  obtain ⟨A, cap', e, h1, h2, h3, h4, h5⟩ := h
  simp only [Value.slice.injEq] at e
  obtain ⟨rfl, _, rfl⟩ := e
  have hr : r = [] := List.length_eq_zero_iff.1 (by rw [List.length_cons] at h2; omega)
  subst hr
  exact ⟨_, 0, rfl, fun i hi => by simp at hi, by simp, by omega, (fun h => by cases h), (fun a h => by cases h; exact h5 ⟨b, o, none⟩ rfl)⟩
theorem nameOf_all {t : Txt} (h : hasEq t = false) : nameOf t = t := by
  have h : ¬ (nameOf t).length < t.length := by simpa [hasEq] using h
  rw [nameOf_take, List.take_of_length_le (by omega)]
/-- What a step over an argument leaves. -/
def StepEnd (m : Option (List Txt)) (C : PC) (parsed : Bool) (q : St × List Txt) (w : World) (e : Ending) (w' : World) : Prop :=
  ∃ E V v', e = .returned (.tuple #[v', E]) ∧ Pm w' C V (psOf m parsed q.1) ∧ ErrAt C w' E q.1.err ∧ Fr C w w' ∧ RestAt C w' v' q.2
theorem cut_yes (s : ByteArray) (hs : s.size ≤ 17179869184) (h : hasEq s.data.toList = true) (w : World) : Calls Try.prog 97 #[.string s, .int .u8 61] w fun e w' => ∃ g c, e = .returned (.slice (some ⟨g, 0, none⟩) 2 c) ∧ w'.cell? ⟨g, 0, none⟩ = some (.string (mkT (nameOf s.data.toList))) ∧ w'.cell? ⟨g, 1, none⟩ = some (.string (mkT (valueOf s.data.toList))) ∧ Below w.heap.size w w' := by
  refine (splitTwo_any s hs w).mono ?_
  rintro e w' ⟨⟨g, c, h1 | h1⟩, hb⟩
  · exact ⟨g, c, h1.2.1, h1.2.2.1, h1.2.2.2, hb⟩
  · rw [h] at h1; cases h1.1
theorem cut_no (s : ByteArray) (hs : s.size ≤ 17179869184) (h : hasEq s.data.toList = false) (w : World) : Calls Try.prog 97 #[.string s, .int .u8 61] w fun e w' => ∃ g c, e = .returned (.slice (some ⟨g, 0, none⟩) 1 c) ∧ w'.cell? ⟨g, 0, none⟩ = some (.string s) ∧ Below w.heap.size w w' := by
  refine (splitTwo_any s hs w).mono ?_
  rintro e w' ⟨⟨g, c, h1 | h1⟩, hb⟩
  · rw [h] at h1; cases h1.1
  · exact ⟨g, c, h1.2.1, h1.2.2, hb⟩
theorem strip_map (L : List Txt) : stripped (L.map mkT) = (strip L).map mkT := by
  cases L with
  | nil => rfl
  | cons a r =>
    simp only [List.map_cons, stripped, strip]
    have e : dashed (mkT a) = true ↔ a.head? = some 45 := by
      unfold dashed
      cases a with
      | nil => simp [mkT_size]
      | cons c t =>
        have h0 : 0 < (mkT (c :: t)).size := by rw [mkT_size]; simp
        rw [dif_pos h0, bget h0]
        simp [mkT_list]
    by_cases h : a.head? = some 45
    · rw [if_pos (e.2 h), if_pos h]; rfl
    · rw [if_neg (fun q => h (e.1 q)), if_neg h]
theorem stripR_any (C : PC) (v : Value) (rest : List Txt) (w : World) (h : RestAt C w v rest) (hs : ∀ t ∈ rest, t.length ≤ 17179869184) :
    Calls Try.prog 98 #[v] w fun e w' => (∃ v', e = .returned v' ∧ RestAt C w v' (strip rest)) ∧ w = w' := by
  obtain ⟨A, cap, rfl, hx, hcap, hm, hA, hB⟩ := h
  match rest, hx, hcap, hs with
  | [], hx, hcap, hs => exact (stripB_nil A cap w).mono fun e w' ⟨h1, h2⟩ => ⟨⟨_, h1, ⟨A, cap, rfl, hx, hcap, hm, hA, hB⟩⟩, h2⟩
  | x :: r, hx, hcap, hs =>
    have hx0 := hx
    obtain ⟨b, o, rfl, hc⟩ := strsAt_head hx
    have hsx : (mkT x).size ≤ 17179869184 := by rw [mkT_size]; exact hs x (by simp)
    have e : dashed (mkT x) = true ↔ x.head? = some 45 := by
      unfold dashed
      cases x with
      | nil => simp [mkT_size]
      | cons c t =>
        have h0 : 0 < (mkT (c :: t)).size := by rw [mkT_size]; simp
        rw [dif_pos h0, bget h0]
        simp [mkT_list]
    simp only [List.length_cons] at hcap ⊢
    by_cases hd : dashed (mkT x) = true
    · have hpos : 0 < (mkT x).size := by
        by_cases h : 0 < (mkT x).size
        · exact h
        · simp [dashed, h] at hd
      have h1 : (mkT x)[0] = 45 := by simpa [dashed, hpos] using hd
      refine (stripB_dash b o (r.length + 1) cap (mkT x) w (by omega) hc hpos h1).mono fun e' w' ⟨h1, h2⟩ => ⟨⟨_, h1, ?_⟩, h2⟩
      simp only [strip, if_pos (e.1 hd)]
      exact ⟨_, cap, rfl, hx0, hcap, hm, hA, hB⟩
    · have hd' : dashed (mkT x) = false := by simpa using hd
      have hn : ¬ x.head? = some 45 := fun q => hd (e.2 q)
      match r, hx0, hcap, hs with
      | [], hx0, hcap, hs =>
        refine (stripB_one b o cap (mkT x) w hc hsx hd').mono fun e' w' ⟨h1, h2⟩ => ⟨⟨_, h1, ?_⟩, h2⟩
        simp only [strip, if_neg hn]
        exact RestAt.nil C w
      | y :: r, hx0, hcap, hs =>
        simp only [List.length_cons] at hcap ⊢
        refine (stripB_more b o (r.length + 1 + 1) cap (mkT x) w (by omega) (by omega) hm hc hsx hd').mono fun e' w' ⟨h1, h2⟩ => ⟨⟨_, h1, ?_⟩, h2⟩
        simp only [strip, if_neg hn]
        exact ⟨_, cap - 1, by simp, strsAt_tail hx0, by simp; omega, by omega, (fun h => by cases h), (fun a h => by cases h; exact hB ⟨b, o, none⟩ rfl)⟩
theorem mkT_get {l : Txt} {c : UInt8} {t : Txt} (h : l = c :: t) : ∃ h0 : 0 < (mkT l).size, (mkT l)[0] = c := by
  subst h
  have h0 : 0 < (mkT (c :: t)).size := by rw [mkT_size]; simp
  refine ⟨h0, ?_⟩
  rw [bget h0]; simp [mkT_list]

set_option maxRecDepth 100000 in
set_option maxHeartbeats 3200000 in
theorem long_synP (C : PC) (hR : Right C.S) (V : PV) (parsed : Bool) (st : St) (t : Txt) (rest : List Txt) (vr : Value) (w : World) (hp : Pm w C V (psOf none parsed st)) (hsz : ∀ i (h : i < C.S.flags.length), (C.S.flags[i].name).length ≤ 17179869184) (hG : st.given.length ≤ 1099511627776) (he : st.err = .no) (hr : RestAt C w vr rest) (ht : t.length ≤ 8589934592) (hrs : ∀ a ∈ rest, a.length ≤ 17179869184) (bb : Nat) (hbb : w.heap[bb]? = some (.cells #[.pointer (some ⟨C.F, 0, none⟩)] 87 (0, 0)))
    (hs : t = [] ∨ t.head? = some 45 ∨ t.head? = some 61) :
    Calls Try.prog 77 #[.pointer (some ⟨C.F, 0, none⟩), .string (mkT (45 :: 45 :: t)), vr, (.func (.func 91) #[] #[.pointer (some ⟨bb, 0, none⟩)])] w (StepEnd none C parsed ({ st with err := .syn (45 :: 45 :: t) }, rest) w) := by
  have has : (mkT (45 :: 45 :: t)).size = t.length + 2 := by rw [mkT_size]; simp
  have hA2 : (2 : Int) ≤ ((mkT (45 :: 45 :: t)).size : Int) := by omega
  have hA3 : ((mkT (45 :: 45 :: t)).size : Int) ≤ 17179869184 := by omega
  have hsl : ∀ W, (Instr.slice 9 (.string (mkT (45 :: 45 :: t))) (some (.int .i64 2)) none none).run Try.prog W = .ok (.string (mkT t)) W := fun W => by
    rw [run_slice_string_l (P := Try.prog) W 9 (mkT (45 :: 45 :: t)) Try.underlying9 .i64 2 (by omega) (by omega)]
    have e : (mkT (45 :: 45 :: t)).extract (2 : Int).toNat (mkT (45 :: 45 :: t)).size = mkT t := mkT_inj (by rw [ext_tailP, mkT_list, mkT_list]; rfl)
    rw [e]
  have hts : (mkT t).size = t.length := mkT_size t
  have HP := Lib.hid hp
  have HRR := Lib.hid hr
  unfold StepEnd ErrAt
  rcases hs with rfl | h | h
  · have z0 : (mkT ([] : Txt)).size = 0 := by rw [mkT_size]; rfl
    clear hp hr hrs hsz hG he hR hts ht has hbb
    generalize hARG : mkT (45 :: 45 :: ([] : Txt)) = ARG at hsl hA2 hA3 ⊢
    have HARG := Lib.hid hARG
    clear hARG
    generalize mkT ([] : Txt) = TX at hsl z0
    go_enter Try.func77, Try.ntmps77
    go_wp2
    go_ret2
    exact ⟨_, V, vr, rfl, HP.out.below ((Below.refl _ _).alloc (Nat.le_refl _) _), ⟨_, rfl, by rw [HARG.out]; exact heap_alloc_new _ _⟩, Fr.of_below ((Below.refl _ _).alloc (Nat.le_refl _) _), HRR.out.below ((Below.refl _ _).alloc (Nat.le_refl _) _)⟩
  · obtain ⟨c, r, rfl⟩ : ∃ c r, t = c :: r := by cases t with
      | nil => simp at h
      | cons c r => exact ⟨c, r, rfl⟩
    obtain ⟨p0, g0⟩ := mkT_get (l := c :: r) rfl
    have z1 : (((mkT (c :: r)).size : Int) == 0) = false := by simp only [beq_eq_false_iff_ne]; omega
    have c0 : (((mkT (c :: r))[0].toNat : Int) == 45) = true := by rw [g0]; simp only [List.head?_cons, Option.some.injEq] at h; rw [h]; rfl
    clear g0 h
    clear hp hr hrs hsz hG he hR hts ht has hbb
    generalize hARG : mkT (45 :: 45 :: (c :: r)) = ARG at hsl hA2 hA3 ⊢
    have HARG := Lib.hid hARG
    clear hARG
    generalize mkT (c :: r) = TX at hsl p0 z1 c0
    go_enter Try.func77, Try.ntmps77
    go_wp2
    go_ret2
    exact ⟨_, V, vr, rfl, HP.out.below ((Below.refl _ _).alloc (Nat.le_refl _) _), ⟨_, rfl, by rw [HARG.out]; exact heap_alloc_new _ _⟩, Fr.of_below ((Below.refl _ _).alloc (Nat.le_refl _) _), HRR.out.below ((Below.refl _ _).alloc (Nat.le_refl _) _)⟩
  · obtain ⟨c, r, rfl⟩ : ∃ c r, t = c :: r := by cases t with
      | nil => simp at h
      | cons c r => exact ⟨c, r, rfl⟩
    obtain ⟨p0, g0⟩ := mkT_get (l := c :: r) rfl
    have z1 : (((mkT (c :: r)).size : Int) == 0) = false := by simp only [beq_eq_false_iff_ne]; omega
    have c0 : (((mkT (c :: r))[0].toNat : Int) == 45) = false := by rw [g0]; simp only [List.head?_cons, Option.some.injEq] at h; rw [h]; rfl
    have c1 : (((mkT (c :: r))[0].toNat : Int) == 61) = true := by rw [g0]; simp only [List.head?_cons, Option.some.injEq] at h; rw [h]; rfl
    clear g0 h
    clear hp hr hrs hsz hG he hR hts ht has hbb
    generalize hARG : mkT (45 :: 45 :: (c :: r)) = ARG at hsl hA2 hA3 ⊢
    have HARG := Lib.hid hARG
    clear hARG
    generalize mkT (c :: r) = TX at hsl p0 z1 c0 c1
    go_enter Try.func77, Try.ntmps77
    go_wp2
    go_ret2
    exact ⟨_, V, vr, rfl, HP.out.below ((Below.refl _ _).alloc (Nat.le_refl _) _), ⟨_, rfl, by rw [HARG.out]; exact heap_alloc_new _ _⟩, Fr.of_below ((Below.refl _ _).alloc (Nat.le_refl _) _), HRR.out.below ((Below.refl _ _).alloc (Nat.le_refl _) _)⟩

set_option maxRecDepth 100000 in
set_option maxHeartbeats 3200000 in
theorem long_help_yP (C : PC) (hR : Right C.S) (V : PV) (parsed : Bool) (st : St) (t : Txt) (rest : List Txt) (vr : Value) (w : World) (hp : Pm w C V (psOf none parsed st)) (hsz : ∀ i (h : i < C.S.flags.length), (C.S.flags[i].name).length ≤ 17179869184) (hG : st.given.length ≤ 1099511627776) (he : st.err = .no) (hr : RestAt C w vr rest) (ht : t.length ≤ 8589934592) (hrs : ∀ a ∈ rest, a.length ≤ 17179869184) (bb : Nat) (hbb : w.heap[bb]? = some (.cells #[.pointer (some ⟨C.F, 0, none⟩)] 87 (0, 0)))
    (hm : ∃ c r, t = c :: r ∧ c ≠ 45 ∧ c ≠ 61) (hq : hasEq t = true) (hnm : named C.S (nameOf t) = none) (hh : (nameOf t) = helpT) :
    Calls Try.prog 77 #[.pointer (some ⟨C.F, 0, none⟩), .string (mkT (45 :: 45 :: t)), vr, (.func (.func 91) #[] #[.pointer (some ⟨bb, 0, none⟩)])] w (StepEnd none C parsed ({ st with err := .help }, rest) w) := by
  have has : (mkT (45 :: 45 :: t)).size = t.length + 2 := by rw [mkT_size]; simp
  have hA2 : (2 : Int) ≤ ((mkT (45 :: 45 :: t)).size : Int) := by omega
  have hA3 : ((mkT (45 :: 45 :: t)).size : Int) ≤ 17179869184 := by omega
  have hsl : ∀ W, (Instr.slice 9 (.string (mkT (45 :: 45 :: t))) (some (.int .i64 2)) none none).run Try.prog W = .ok (.string (mkT t)) W := fun W => by
    rw [run_slice_string_l (P := Try.prog) W 9 (mkT (45 :: 45 :: t)) Try.underlying9 .i64 2 (by omega) (by omega)]
    have e : (mkT (45 :: 45 :: t)).extract (2 : Int).toNat (mkT (45 :: 45 :: t)).size = mkT t := mkT_inj (by rw [ext_tailP, mkT_list, mkT_list]; rfl)
    rw [e]
  have hts : (mkT t).size = t.length := mkT_size t
  have HP := Lib.hid hp
  have HRR := Lib.hid hr
  obtain ⟨c, r, hcr, hc45, hc61⟩ := hm
  obtain ⟨p0, g0⟩ := mkT_get hcr
  have z1 : (((mkT t).size : Int) == 0) = false := by simp only [beq_eq_false_iff_ne]; omega
  have c0 : (((mkT t)[0].toNat : Int) == 45) = false := nat_beq_false (b := 45) (by rw [g0]; intro e; exact hc45 (UInt8.toNat_inj.1 e))
  have c1 : (((mkT t)[0].toNat : Int) == 61) = false := nat_beq_false (b := 61) (by rw [g0]; intro e; exact hc61 (UInt8.toNat_inj.1 e))
  have hnl : (mkT (nameOf t)).size ≤ 17179869184 := by rw [mkT_size]; have := nameOf_le t; omega
  have HNR := Lib.hid (fun (W : World) (hb : Below w.heap.size w W) => norm_any C.F C.S.fold (mkT (nameOf t)) hnl W (hp.below hb).norm_at)
  simp only [mkT_list] at HNR
  have HLK := Lib.hid (fun (W : World) (hb : Below w.heap.size w W) => by
    obtain ⟨n1, hm1⟩ := (hp.below hb).fm
    have hl := hm1.look Try.kN Try.underlying128 (Try.zP W) (key_txt (mkT (foldT C.S.fold (nameOf t))) (by rw [mkT_size]; simp [foldT]; have := hnl; rw [mkT_size] at this; omega))
    rw [mkT_list, nmF_all (hp.len), hnm] at hl
    exact hl)
  simp only [Option.map_none, Option.map_some, lookR] at HLK
  have HCUT := Lib.hid (cut_yes (mkT t) (by rw [mkT_size]; omega) (by rw [mkT_list]; exact hq) w)
  simp only [mkT_list] at HCUT
  have hv : ((mkT (nameOf t)).toList == [104, 101, 108, 112]) = true := by rw [ByteArray.toList_eq, mkT_list, hh]; rfl
  clear hp hr hrs hsz hG hR hts ht has hbb hq hcr hc45 hc61 g0 hnl hnm
  generalize mkT (45 :: 45 :: t) = ARG at hsl hA2 hA3 ⊢
  generalize mkT t = TX at hsl p0 z1 c0 c1 HCUT
  generalize mkT (foldT C.S.fold (nameOf t)) = NN at HNR HLK
  generalize mkT (nameOf t) = NMV at HNR HCUT hv
  go_enter Try.func77, Try.ntmps77
  go_upto_region 7 with (go_at_call 97; refine (HCUT.out).mono ?_; rintro e w1 ⟨g, cg, rfl, k0, k1, hb1⟩; have HB1 := Lib.hid hb1; have f8 : w1.cell? ⟨C.F, 8, none⟩ = some (.map V.fmo) := (cell_blk (HP.out.below hb1).hF 8).trans rfl; have HK0 := Lib.hid k0; have HK1 := Lib.hid k1; have HBD := Lib.hid hb1.drew; clear hb1)
  go_region_held3 (fun w' => w'.cell? ⟨C.F, 8, none⟩ = some (.map V.fmo)) (first | assumption | go_keep)
    (first
      | (go_at_call 95; refine (HNR.out _ HBD.out).mono ?_; rintro e w2 ⟨rfl, hb2⟩; have HB2 := Lib.hid (below_step HBD.out hb2); have f8' : w2.cell? ⟨C.F, 8, none⟩ = some (.map V.fmo) := (cell_blk (HP.out.below HB2.out).hF 8).trans rfl; have f1 : w2.cell? ⟨C.F, 1, none⟩ = some (.bool C.S.unknown) := (cell_blk (HP.out.below HB2.out).hF 1).trans rfl; have f2 : w2.cell? ⟨C.F, 2, none⟩ = some (.bool false) := (cell_blk (HP.out.below HB2.out).hF 2).trans rfl; have hlk := HLK.out w2 HB2.out; have q0 := cell_kept hb2 (show w1.drew.cell? _ = _ from HK0.out); have q1 := cell_kept hb2 (show w1.drew.cell? _ = _ from HK1.out); have HP2 := Lib.hid (HP.out.below HB2.out); have HR2 := Lib.hid (HRR.out.below HB2.out); clear hb2))
  go_wp2
  go_ret2
  exact ⟨_, V, vr, rfl, HP2.out, rfl, Fr.of_below HB2.out, HR2.out⟩

set_option maxRecDepth 100000 in
set_option maxHeartbeats 3200000 in
theorem long_not_yP (C : PC) (hR : Right C.S) (V : PV) (parsed : Bool) (st : St) (t : Txt) (rest : List Txt) (vr : Value) (w : World) (hp : Pm w C V (psOf none parsed st)) (hsz : ∀ i (h : i < C.S.flags.length), (C.S.flags[i].name).length ≤ 17179869184) (hG : st.given.length ≤ 1099511627776) (he : st.err = .no) (hr : RestAt C w vr rest) (ht : t.length ≤ 8589934592) (hrs : ∀ a ∈ rest, a.length ≤ 17179869184) (bb : Nat) (hbb : w.heap[bb]? = some (.cells #[.pointer (some ⟨C.F, 0, none⟩)] 87 (0, 0)))
    (hm : ∃ c r, t = c :: r ∧ c ≠ 45 ∧ c ≠ 61) (hq : hasEq t = true) (hnm : named C.S (nameOf t) = none) (hh : ¬ (nameOf t) = helpT) (hu : C.S.unknown = false) :
    Calls Try.prog 77 #[.pointer (some ⟨C.F, 0, none⟩), .string (mkT (45 :: 45 :: t)), vr, (.func (.func 91) #[] #[.pointer (some ⟨bb, 0, none⟩)])] w (StepEnd none C parsed ({ st with err := .notExist (nameOf t) [] }, rest) w) := by
  have has : (mkT (45 :: 45 :: t)).size = t.length + 2 := by rw [mkT_size]; simp
  have hA2 : (2 : Int) ≤ ((mkT (45 :: 45 :: t)).size : Int) := by omega
  have hA3 : ((mkT (45 :: 45 :: t)).size : Int) ≤ 17179869184 := by omega
  have hsl : ∀ W, (Instr.slice 9 (.string (mkT (45 :: 45 :: t))) (some (.int .i64 2)) none none).run Try.prog W = .ok (.string (mkT t)) W := fun W => by
    rw [run_slice_string_l (P := Try.prog) W 9 (mkT (45 :: 45 :: t)) Try.underlying9 .i64 2 (by omega) (by omega)]
    have e : (mkT (45 :: 45 :: t)).extract (2 : Int).toNat (mkT (45 :: 45 :: t)).size = mkT t := mkT_inj (by rw [ext_tailP, mkT_list, mkT_list]; rfl)
    rw [e]
  have hts : (mkT t).size = t.length := mkT_size t
  have HP := Lib.hid hp
  have HRR := Lib.hid hr
  obtain ⟨c, r, hcr, hc45, hc61⟩ := hm
  obtain ⟨p0, g0⟩ := mkT_get hcr
  have z1 : (((mkT t).size : Int) == 0) = false := by simp only [beq_eq_false_iff_ne]; omega
  have c0 : (((mkT t)[0].toNat : Int) == 45) = false := nat_beq_false (b := 45) (by rw [g0]; intro e; exact hc45 (UInt8.toNat_inj.1 e))
  have c1 : (((mkT t)[0].toNat : Int) == 61) = false := nat_beq_false (b := 61) (by rw [g0]; intro e; exact hc61 (UInt8.toNat_inj.1 e))
  have hnl : (mkT (nameOf t)).size ≤ 17179869184 := by rw [mkT_size]; have := nameOf_le t; omega
  have HNR := Lib.hid (fun (W : World) (hb : Below w.heap.size w W) => norm_any C.F C.S.fold (mkT (nameOf t)) hnl W (hp.below hb).norm_at)
  simp only [mkT_list] at HNR
  have HLK := Lib.hid (fun (W : World) (hb : Below w.heap.size w W) => by
    obtain ⟨n1, hm1⟩ := (hp.below hb).fm
    have hl := hm1.look Try.kN Try.underlying128 (Try.zP W) (key_txt (mkT (foldT C.S.fold (nameOf t))) (by rw [mkT_size]; simp [foldT]; have := hnl; rw [mkT_size] at this; omega))
    rw [mkT_list, nmF_all (hp.len), hnm] at hl
    exact hl)
  simp only [Option.map_none, Option.map_some, lookR] at HLK
  have HCUT := Lib.hid (cut_yes (mkT t) (by rw [mkT_size]; omega) (by rw [mkT_list]; exact hq) w)
  simp only [mkT_list] at HCUT
  have hv : ((mkT (nameOf t)).toList == [104, 101, 108, 112]) = false := by rw [ByteArray.toList_eq, mkT_list]; simpa [helpT] using hh
  clear hp hr hrs hsz hG hR hts ht has hbb hq hcr hc45 hc61 g0 hnl hnm
  generalize mkT (45 :: 45 :: t) = ARG at hsl hA2 hA3 ⊢
  generalize mkT t = TX at hsl p0 z1 c0 c1 HCUT
  generalize mkT (foldT C.S.fold (nameOf t)) = NN at HNR HLK
  generalize hNMV : mkT (nameOf t) = NMV at HNR HCUT hv
  go_enter Try.func77, Try.ntmps77
  go_upto_region 7 with (go_at_call 97; refine (HCUT.out).mono ?_; rintro e w1 ⟨g, cg, rfl, k0, k1, hb1⟩; have HB1 := Lib.hid hb1; have f8 : w1.cell? ⟨C.F, 8, none⟩ = some (.map V.fmo) := (cell_blk (HP.out.below hb1).hF 8).trans rfl; have HK0 := Lib.hid k0; have HK1 := Lib.hid k1; have HBD := Lib.hid hb1.drew; clear hb1)
  go_region_held3 (fun w' => w'.cell? ⟨C.F, 8, none⟩ = some (.map V.fmo)) (first | assumption | go_keep)
    (first
      | (go_at_call 95; refine (HNR.out _ HBD.out).mono ?_; rintro e w2 ⟨rfl, hb2⟩; have HB2 := Lib.hid (below_step HBD.out hb2); have f8' : w2.cell? ⟨C.F, 8, none⟩ = some (.map V.fmo) := (cell_blk (HP.out.below HB2.out).hF 8).trans rfl; have f1 : w2.cell? ⟨C.F, 1, none⟩ = some (.bool C.S.unknown) := (cell_blk (HP.out.below HB2.out).hF 1).trans rfl; have f2 : w2.cell? ⟨C.F, 2, none⟩ = some (.bool false) := (cell_blk (HP.out.below HB2.out).hF 2).trans rfl; have hlk := HLK.out w2 HB2.out; have q0 := cell_kept hb2 (show w1.drew.cell? _ = _ from HK0.out); have q1 := cell_kept hb2 (show w1.drew.cell? _ = _ from HK1.out); have HP2 := Lib.hid (HP.out.below HB2.out); have HR2 := Lib.hid (HRR.out.below HB2.out); clear hb2))
  rw [hu] at f1
  go_wp2
  go_ret2
  exact ⟨_, V, vr, rfl, HP2.out.below ((Below.refl _ _).alloc (Nat.le_refl _) _), ⟨_, _, rfl, by rw [hNMV]; exact heap_alloc_new _ _⟩, (Fr.of_below HB2.out).trans (Fr.of_below ((Below.refl _ _).alloc (Nat.le_refl _) _)), HR2.out.below ((Below.refl _ _).alloc (Nat.le_refl _) _)⟩

set_option maxRecDepth 100000 in
set_option maxHeartbeats 3200000 in
theorem long_let_yP (C : PC) (hR : Right C.S) (V : PV) (parsed : Bool) (st : St) (t : Txt) (rest : List Txt) (vr : Value) (w : World) (hp : Pm w C V (psOf none parsed st)) (hsz : ∀ i (h : i < C.S.flags.length), (C.S.flags[i].name).length ≤ 17179869184) (hG : st.given.length ≤ 1099511627776) (he : st.err = .no) (hr : RestAt C w vr rest) (ht : t.length ≤ 8589934592) (hrs : ∀ a ∈ rest, a.length ≤ 17179869184) (bb : Nat) (hbb : w.heap[bb]? = some (.cells #[.pointer (some ⟨C.F, 0, none⟩)] 87 (0, 0)))
    (hm : ∃ c r, t = c :: r ∧ c ≠ 45 ∧ c ≠ 61) (hq : hasEq t = true) (hnm : named C.S (nameOf t) = none) (hh : ¬ (nameOf t) = helpT) (hu : C.S.unknown = true) :
    Calls Try.prog 77 #[.pointer (some ⟨C.F, 0, none⟩), .string (mkT (45 :: 45 :: t)), vr, (.func (.func 91) #[] #[.pointer (some ⟨bb, 0, none⟩)])] w (StepEnd none C parsed (st, rest) w) := by
  have has : (mkT (45 :: 45 :: t)).size = t.length + 2 := by rw [mkT_size]; simp
  have hA2 : (2 : Int) ≤ ((mkT (45 :: 45 :: t)).size : Int) := by omega
  have hA3 : ((mkT (45 :: 45 :: t)).size : Int) ≤ 17179869184 := by omega
  have hsl : ∀ W, (Instr.slice 9 (.string (mkT (45 :: 45 :: t))) (some (.int .i64 2)) none none).run Try.prog W = .ok (.string (mkT t)) W := fun W => by
    rw [run_slice_string_l (P := Try.prog) W 9 (mkT (45 :: 45 :: t)) Try.underlying9 .i64 2 (by omega) (by omega)]
    have e : (mkT (45 :: 45 :: t)).extract (2 : Int).toNat (mkT (45 :: 45 :: t)).size = mkT t := mkT_inj (by rw [ext_tailP, mkT_list, mkT_list]; rfl)
    rw [e]
  have hts : (mkT t).size = t.length := mkT_size t
  have HP := Lib.hid hp
  have HRR := Lib.hid hr
  obtain ⟨c, r, hcr, hc45, hc61⟩ := hm
  obtain ⟨p0, g0⟩ := mkT_get hcr
  have z1 : (((mkT t).size : Int) == 0) = false := by simp only [beq_eq_false_iff_ne]; omega
  have c0 : (((mkT t)[0].toNat : Int) == 45) = false := nat_beq_false (b := 45) (by rw [g0]; intro e; exact hc45 (UInt8.toNat_inj.1 e))
  have c1 : (((mkT t)[0].toNat : Int) == 61) = false := nat_beq_false (b := 61) (by rw [g0]; intro e; exact hc61 (UInt8.toNat_inj.1 e))
  have hnl : (mkT (nameOf t)).size ≤ 17179869184 := by rw [mkT_size]; have := nameOf_le t; omega
  have HNR := Lib.hid (fun (W : World) (hb : Below w.heap.size w W) => norm_any C.F C.S.fold (mkT (nameOf t)) hnl W (hp.below hb).norm_at)
  simp only [mkT_list] at HNR
  have HLK := Lib.hid (fun (W : World) (hb : Below w.heap.size w W) => by
    obtain ⟨n1, hm1⟩ := (hp.below hb).fm
    have hl := hm1.look Try.kN Try.underlying128 (Try.zP W) (key_txt (mkT (foldT C.S.fold (nameOf t))) (by rw [mkT_size]; simp [foldT]; have := hnl; rw [mkT_size] at this; omega))
    rw [mkT_list, nmF_all (hp.len), hnm] at hl
    exact hl)
  simp only [Option.map_none, Option.map_some, lookR] at HLK
  have HCUT := Lib.hid (cut_yes (mkT t) (by rw [mkT_size]; omega) (by rw [mkT_list]; exact hq) w)
  simp only [mkT_list] at HCUT
  have hv : ((mkT (nameOf t)).toList == [104, 101, 108, 112]) = false := by rw [ByteArray.toList_eq, mkT_list]; simpa [helpT] using hh
  have HEE := Lib.hid he
  clear hp hr hrs hsz hG hR hts ht has hbb hq hcr hc45 hc61 g0 hnl hnm
  generalize mkT (45 :: 45 :: t) = ARG at hsl hA2 hA3 ⊢
  generalize mkT t = TX at hsl p0 z1 c0 c1 HCUT
  generalize mkT (foldT C.S.fold (nameOf t)) = NN at HNR HLK
  generalize mkT (nameOf t) = NMV at HNR HCUT hv
  go_enter Try.func77, Try.ntmps77
  go_upto_region 7 with (go_at_call 97; refine (HCUT.out).mono ?_; rintro e w1 ⟨g, cg, rfl, k0, k1, hb1⟩; have HB1 := Lib.hid hb1; have f8 : w1.cell? ⟨C.F, 8, none⟩ = some (.map V.fmo) := (cell_blk (HP.out.below hb1).hF 8).trans rfl; have HK0 := Lib.hid k0; have HK1 := Lib.hid k1; have HBD := Lib.hid hb1.drew; clear hb1)
  go_region_held3 (fun w' => w'.cell? ⟨C.F, 8, none⟩ = some (.map V.fmo)) (first | assumption | go_keep)
    (first
      | (go_at_call 95; refine (HNR.out _ HBD.out).mono ?_; rintro e w2 ⟨rfl, hb2⟩; have HB2 := Lib.hid (below_step HBD.out hb2); have f8' : w2.cell? ⟨C.F, 8, none⟩ = some (.map V.fmo) := (cell_blk (HP.out.below HB2.out).hF 8).trans rfl; have f1 : w2.cell? ⟨C.F, 1, none⟩ = some (.bool C.S.unknown) := (cell_blk (HP.out.below HB2.out).hF 1).trans rfl; have f2 : w2.cell? ⟨C.F, 2, none⟩ = some (.bool false) := (cell_blk (HP.out.below HB2.out).hF 2).trans rfl; have hlk := HLK.out w2 HB2.out; have q0 := cell_kept hb2 (show w1.drew.cell? _ = _ from HK0.out); have q1 := cell_kept hb2 (show w1.drew.cell? _ = _ from HK1.out); have HP2 := Lib.hid (HP.out.below HB2.out); have HR2 := Lib.hid (HRR.out.below HB2.out); clear hb2))
  rw [hu] at f1
  go_wp2
  go_ret2
  exact ⟨_, V, vr, rfl, HP2.out, (by have h := HEE.out; show ErrAt C _ _ st.err; rw [h]; rfl), Fr.of_below HB2.out, HR2.out⟩

set_option maxRecDepth 100000 in
set_option maxHeartbeats 3200000 in
theorem long_help_nP (C : PC) (hR : Right C.S) (V : PV) (parsed : Bool) (st : St) (t : Txt) (rest : List Txt) (vr : Value) (w : World) (hp : Pm w C V (psOf none parsed st)) (hsz : ∀ i (h : i < C.S.flags.length), (C.S.flags[i].name).length ≤ 17179869184) (hG : st.given.length ≤ 1099511627776) (he : st.err = .no) (hr : RestAt C w vr rest) (ht : t.length ≤ 8589934592) (hrs : ∀ a ∈ rest, a.length ≤ 17179869184) (bb : Nat) (hbb : w.heap[bb]? = some (.cells #[.pointer (some ⟨C.F, 0, none⟩)] 87 (0, 0)))
    (hm : ∃ c r, t = c :: r ∧ c ≠ 45 ∧ c ≠ 61) (hq : hasEq t = false) (hnm : named C.S t = none) (hh : t = helpT) :
    Calls Try.prog 77 #[.pointer (some ⟨C.F, 0, none⟩), .string (mkT (45 :: 45 :: t)), vr, (.func (.func 91) #[] #[.pointer (some ⟨bb, 0, none⟩)])] w (StepEnd none C parsed ({ st with err := .help }, rest) w) := by
  have has : (mkT (45 :: 45 :: t)).size = t.length + 2 := by rw [mkT_size]; simp
  have hA2 : (2 : Int) ≤ ((mkT (45 :: 45 :: t)).size : Int) := by omega
  have hA3 : ((mkT (45 :: 45 :: t)).size : Int) ≤ 17179869184 := by omega
  have hsl : ∀ W, (Instr.slice 9 (.string (mkT (45 :: 45 :: t))) (some (.int .i64 2)) none none).run Try.prog W = .ok (.string (mkT t)) W := fun W => by
    rw [run_slice_string_l (P := Try.prog) W 9 (mkT (45 :: 45 :: t)) Try.underlying9 .i64 2 (by omega) (by omega)]
    have e : (mkT (45 :: 45 :: t)).extract (2 : Int).toNat (mkT (45 :: 45 :: t)).size = mkT t := mkT_inj (by rw [ext_tailP, mkT_list, mkT_list]; rfl)
    rw [e]
  have hts : (mkT t).size = t.length := mkT_size t
  have HP := Lib.hid hp
  have HRR := Lib.hid hr
  obtain ⟨c, r, hcr, hc45, hc61⟩ := hm
  obtain ⟨p0, g0⟩ := mkT_get hcr
  have z1 : (((mkT t).size : Int) == 0) = false := by simp only [beq_eq_false_iff_ne]; omega
  have c0 : (((mkT t)[0].toNat : Int) == 45) = false := nat_beq_false (b := 45) (by rw [g0]; intro e; exact hc45 (UInt8.toNat_inj.1 e))
  have c1 : (((mkT t)[0].toNat : Int) == 61) = false := nat_beq_false (b := 61) (by rw [g0]; intro e; exact hc61 (UInt8.toNat_inj.1 e))
  have hnl : (mkT t).size ≤ 17179869184 := by rw [mkT_size]; omega
  have HNR := Lib.hid (fun (W : World) (hb : Below w.heap.size w W) => norm_any C.F C.S.fold (mkT t) hnl W (hp.below hb).norm_at)
  simp only [mkT_list] at HNR
  have HLK := Lib.hid (fun (W : World) (hb : Below w.heap.size w W) => by
    obtain ⟨n1, hm1⟩ := (hp.below hb).fm
    have hl := hm1.look Try.kN Try.underlying128 (Try.zP W) (key_txt (mkT (foldT C.S.fold t)) (by rw [mkT_size]; simp [foldT]; have := hnl; rw [mkT_size] at this; omega))
    rw [mkT_list, nmF_all (hp.len), hnm] at hl
    exact hl)
  simp only [Option.map_none, Option.map_some, lookR] at HLK
  have HCUT := Lib.hid (cut_no (mkT t) (by rw [mkT_size]; omega) (by rw [mkT_list]; exact hq) w)
  have hv : ((mkT t).toList == [104, 101, 108, 112]) = true := by rw [ByteArray.toList_eq, mkT_list, hh]; rfl
  clear hp hr hrs hsz hG hR hts ht has hbb hq hcr hc45 hc61 g0 hnl hnm
  generalize mkT (45 :: 45 :: t) = ARG at hsl hA2 hA3 ⊢
  generalize mkT (foldT C.S.fold t) = NN at HNR HLK
  generalize mkT t = NMV at hsl p0 z1 c0 c1 HCUT HNR hv
  go_enter Try.func77, Try.ntmps77
  go_upto_region 7 with (go_at_call 97; refine (HCUT.out).mono ?_; rintro e w1 ⟨g, cg, rfl, k0, hb1⟩; have HB1 := Lib.hid hb1; have f8 : w1.cell? ⟨C.F, 8, none⟩ = some (.map V.fmo) := (cell_blk (HP.out.below hb1).hF 8).trans rfl; have HK0 := Lib.hid k0; have HBD := Lib.hid hb1.drew; clear hb1)
  go_region_held3 (fun w' => w'.cell? ⟨C.F, 8, none⟩ = some (.map V.fmo)) (first | assumption | go_keep)
    (first
      | (go_at_call 95; refine (HNR.out _ HBD.out).mono ?_; rintro e w2 ⟨rfl, hb2⟩; have HB2 := Lib.hid (below_step HBD.out hb2); have f8' : w2.cell? ⟨C.F, 8, none⟩ = some (.map V.fmo) := (cell_blk (HP.out.below HB2.out).hF 8).trans rfl; have f1 : w2.cell? ⟨C.F, 1, none⟩ = some (.bool C.S.unknown) := (cell_blk (HP.out.below HB2.out).hF 1).trans rfl; have f2 : w2.cell? ⟨C.F, 2, none⟩ = some (.bool false) := (cell_blk (HP.out.below HB2.out).hF 2).trans rfl; have hlk := HLK.out w2 HB2.out; have q0 := cell_kept hb2 (show w1.drew.cell? _ = _ from HK0.out); have HP2 := Lib.hid (HP.out.below HB2.out); have HR2 := Lib.hid (HRR.out.below HB2.out); clear hb2))
  go_wp2
  go_ret2
  exact ⟨_, V, vr, rfl, HP2.out, rfl, Fr.of_below HB2.out, HR2.out⟩

set_option maxRecDepth 100000 in
set_option maxHeartbeats 3200000 in
theorem long_not_nP (C : PC) (hR : Right C.S) (V : PV) (parsed : Bool) (st : St) (t : Txt) (rest : List Txt) (vr : Value) (w : World) (hp : Pm w C V (psOf none parsed st)) (hsz : ∀ i (h : i < C.S.flags.length), (C.S.flags[i].name).length ≤ 17179869184) (hG : st.given.length ≤ 1099511627776) (he : st.err = .no) (hr : RestAt C w vr rest) (ht : t.length ≤ 8589934592) (hrs : ∀ a ∈ rest, a.length ≤ 17179869184) (bb : Nat) (hbb : w.heap[bb]? = some (.cells #[.pointer (some ⟨C.F, 0, none⟩)] 87 (0, 0)))
    (hm : ∃ c r, t = c :: r ∧ c ≠ 45 ∧ c ≠ 61) (hq : hasEq t = false) (hnm : named C.S t = none) (hh : ¬ t = helpT) (hu : C.S.unknown = false) :
    Calls Try.prog 77 #[.pointer (some ⟨C.F, 0, none⟩), .string (mkT (45 :: 45 :: t)), vr, (.func (.func 91) #[] #[.pointer (some ⟨bb, 0, none⟩)])] w (StepEnd none C parsed ({ st with err := .notExist t [] }, rest) w) := by
  have has : (mkT (45 :: 45 :: t)).size = t.length + 2 := by rw [mkT_size]; simp
  have hA2 : (2 : Int) ≤ ((mkT (45 :: 45 :: t)).size : Int) := by omega
  have hA3 : ((mkT (45 :: 45 :: t)).size : Int) ≤ 17179869184 := by omega
  have hsl : ∀ W, (Instr.slice 9 (.string (mkT (45 :: 45 :: t))) (some (.int .i64 2)) none none).run Try.prog W = .ok (.string (mkT t)) W := fun W => by
    rw [run_slice_string_l (P := Try.prog) W 9 (mkT (45 :: 45 :: t)) Try.underlying9 .i64 2 (by omega) (by omega)]
    have e : (mkT (45 :: 45 :: t)).extract (2 : Int).toNat (mkT (45 :: 45 :: t)).size = mkT t := mkT_inj (by rw [ext_tailP, mkT_list, mkT_list]; rfl)
    rw [e]
  have hts : (mkT t).size = t.length := mkT_size t
  have HP := Lib.hid hp
  have HRR := Lib.hid hr
  obtain ⟨c, r, hcr, hc45, hc61⟩ := hm
  obtain ⟨p0, g0⟩ := mkT_get hcr
  have z1 : (((mkT t).size : Int) == 0) = false := by simp only [beq_eq_false_iff_ne]; omega
  have c0 : (((mkT t)[0].toNat : Int) == 45) = false := nat_beq_false (b := 45) (by rw [g0]; intro e; exact hc45 (UInt8.toNat_inj.1 e))
  have c1 : (((mkT t)[0].toNat : Int) == 61) = false := nat_beq_false (b := 61) (by rw [g0]; intro e; exact hc61 (UInt8.toNat_inj.1 e))
  have hnl : (mkT t).size ≤ 17179869184 := by rw [mkT_size]; omega
  have HNR := Lib.hid (fun (W : World) (hb : Below w.heap.size w W) => norm_any C.F C.S.fold (mkT t) hnl W (hp.below hb).norm_at)
  simp only [mkT_list] at HNR
  have HLK := Lib.hid (fun (W : World) (hb : Below w.heap.size w W) => by
    obtain ⟨n1, hm1⟩ := (hp.below hb).fm
    have hl := hm1.look Try.kN Try.underlying128 (Try.zP W) (key_txt (mkT (foldT C.S.fold t)) (by rw [mkT_size]; simp [foldT]; have := hnl; rw [mkT_size] at this; omega))
    rw [mkT_list, nmF_all (hp.len), hnm] at hl
    exact hl)
  simp only [Option.map_none, Option.map_some, lookR] at HLK
  have HCUT := Lib.hid (cut_no (mkT t) (by rw [mkT_size]; omega) (by rw [mkT_list]; exact hq) w)
  have hv : ((mkT t).toList == [104, 101, 108, 112]) = false := by rw [ByteArray.toList_eq, mkT_list]; simpa [helpT] using hh
  clear hp hr hrs hsz hG hR hts ht has hbb hq hcr hc45 hc61 g0 hnl hnm
  generalize mkT (45 :: 45 :: t) = ARG at hsl hA2 hA3 ⊢
  generalize mkT (foldT C.S.fold t) = NN at HNR HLK
  generalize hNMV : mkT t = NMV at hsl p0 z1 c0 c1 HCUT HNR hv
  go_enter Try.func77, Try.ntmps77
  go_upto_region 7 with (go_at_call 97; refine (HCUT.out).mono ?_; rintro e w1 ⟨g, cg, rfl, k0, hb1⟩; have HB1 := Lib.hid hb1; have f8 : w1.cell? ⟨C.F, 8, none⟩ = some (.map V.fmo) := (cell_blk (HP.out.below hb1).hF 8).trans rfl; have HK0 := Lib.hid k0; have HBD := Lib.hid hb1.drew; clear hb1)
  go_region_held3 (fun w' => w'.cell? ⟨C.F, 8, none⟩ = some (.map V.fmo)) (first | assumption | go_keep)
    (first
      | (go_at_call 95; refine (HNR.out _ HBD.out).mono ?_; rintro e w2 ⟨rfl, hb2⟩; have HB2 := Lib.hid (below_step HBD.out hb2); have f8' : w2.cell? ⟨C.F, 8, none⟩ = some (.map V.fmo) := (cell_blk (HP.out.below HB2.out).hF 8).trans rfl; have f1 : w2.cell? ⟨C.F, 1, none⟩ = some (.bool C.S.unknown) := (cell_blk (HP.out.below HB2.out).hF 1).trans rfl; have f2 : w2.cell? ⟨C.F, 2, none⟩ = some (.bool false) := (cell_blk (HP.out.below HB2.out).hF 2).trans rfl; have hlk := HLK.out w2 HB2.out; have q0 := cell_kept hb2 (show w1.drew.cell? _ = _ from HK0.out); have HP2 := Lib.hid (HP.out.below HB2.out); have HR2 := Lib.hid (HRR.out.below HB2.out); clear hb2))
  rw [hu] at f1
  go_wp2
  go_ret2
  exact ⟨_, V, vr, rfl, HP2.out.below ((Below.refl _ _).alloc (Nat.le_refl _) _), ⟨_, _, rfl, by rw [hNMV]; exact heap_alloc_new _ _⟩, (Fr.of_below HB2.out).trans (Fr.of_below ((Below.refl _ _).alloc (Nat.le_refl _) _)), HR2.out.below ((Below.refl _ _).alloc (Nat.le_refl _) _)⟩

set_option maxRecDepth 100000 in
set_option maxHeartbeats 3200000 in
theorem long_let_nP (C : PC) (hR : Right C.S) (V : PV) (parsed : Bool) (st : St) (t : Txt) (rest : List Txt) (vr : Value) (w : World) (hp : Pm w C V (psOf none parsed st)) (hsz : ∀ i (h : i < C.S.flags.length), (C.S.flags[i].name).length ≤ 17179869184) (hG : st.given.length ≤ 1099511627776) (he : st.err = .no) (hr : RestAt C w vr rest) (ht : t.length ≤ 8589934592) (hrs : ∀ a ∈ rest, a.length ≤ 17179869184) (bb : Nat) (hbb : w.heap[bb]? = some (.cells #[.pointer (some ⟨C.F, 0, none⟩)] 87 (0, 0)))
    (hm : ∃ c r, t = c :: r ∧ c ≠ 45 ∧ c ≠ 61) (hq : hasEq t = false) (hnm : named C.S t = none) (hh : ¬ t = helpT) (hu : C.S.unknown = true) :
    Calls Try.prog 77 #[.pointer (some ⟨C.F, 0, none⟩), .string (mkT (45 :: 45 :: t)), vr, (.func (.func 91) #[] #[.pointer (some ⟨bb, 0, none⟩)])] w (StepEnd none C parsed (st, strip rest) w) := by
  have has : (mkT (45 :: 45 :: t)).size = t.length + 2 := by rw [mkT_size]; simp
  have hA2 : (2 : Int) ≤ ((mkT (45 :: 45 :: t)).size : Int) := by omega
  have hA3 : ((mkT (45 :: 45 :: t)).size : Int) ≤ 17179869184 := by omega
  have hsl : ∀ W, (Instr.slice 9 (.string (mkT (45 :: 45 :: t))) (some (.int .i64 2)) none none).run Try.prog W = .ok (.string (mkT t)) W := fun W => by
    rw [run_slice_string_l (P := Try.prog) W 9 (mkT (45 :: 45 :: t)) Try.underlying9 .i64 2 (by omega) (by omega)]
    have e : (mkT (45 :: 45 :: t)).extract (2 : Int).toNat (mkT (45 :: 45 :: t)).size = mkT t := mkT_inj (by rw [ext_tailP, mkT_list, mkT_list]; rfl)
    rw [e]
  have hts : (mkT t).size = t.length := mkT_size t
  have HP := Lib.hid hp
  have HRR := Lib.hid hr
  obtain ⟨c, r, hcr, hc45, hc61⟩ := hm
  obtain ⟨p0, g0⟩ := mkT_get hcr
  have z1 : (((mkT t).size : Int) == 0) = false := by simp only [beq_eq_false_iff_ne]; omega
  have c0 : (((mkT t)[0].toNat : Int) == 45) = false := nat_beq_false (b := 45) (by rw [g0]; intro e; exact hc45 (UInt8.toNat_inj.1 e))
  have c1 : (((mkT t)[0].toNat : Int) == 61) = false := nat_beq_false (b := 61) (by rw [g0]; intro e; exact hc61 (UInt8.toNat_inj.1 e))
  have hnl : (mkT t).size ≤ 17179869184 := by rw [mkT_size]; omega
  have HNR := Lib.hid (fun (W : World) (hb : Below w.heap.size w W) => norm_any C.F C.S.fold (mkT t) hnl W (hp.below hb).norm_at)
  simp only [mkT_list] at HNR
  have HLK := Lib.hid (fun (W : World) (hb : Below w.heap.size w W) => by
    obtain ⟨n1, hm1⟩ := (hp.below hb).fm
    have hl := hm1.look Try.kN Try.underlying128 (Try.zP W) (key_txt (mkT (foldT C.S.fold t)) (by rw [mkT_size]; simp [foldT]; have := hnl; rw [mkT_size] at this; omega))
    rw [mkT_list, nmF_all (hp.len), hnm] at hl
    exact hl)
  simp only [Option.map_none, Option.map_some, lookR] at HLK
  have HCUT := Lib.hid (cut_no (mkT t) (by rw [mkT_size]; omega) (by rw [mkT_list]; exact hq) w)
  have hv : ((mkT t).toList == [104, 101, 108, 112]) = false := by rw [ByteArray.toList_eq, mkT_list]; simpa [helpT] using hh
  have HEE := Lib.hid he
  have HST := Lib.hid (fun (W : World) (hr : RestAt C W vr rest) => stripR_any C vr rest W hr hrs)
  clear hp hr hrs hsz hG hR hts ht has hbb hq hcr hc45 hc61 g0 hnl hnm
  generalize mkT (45 :: 45 :: t) = ARG at hsl hA2 hA3 ⊢
  generalize mkT (foldT C.S.fold t) = NN at HNR HLK
  generalize mkT t = NMV at hsl p0 z1 c0 c1 HCUT HNR hv
  go_enter Try.func77, Try.ntmps77
  go_upto_region 7 with (go_at_call 97; refine (HCUT.out).mono ?_; rintro e w1 ⟨g, cg, rfl, k0, hb1⟩; have HB1 := Lib.hid hb1; have f8 : w1.cell? ⟨C.F, 8, none⟩ = some (.map V.fmo) := (cell_blk (HP.out.below hb1).hF 8).trans rfl; have HK0 := Lib.hid k0; have HBD := Lib.hid hb1.drew; clear hb1)
  go_region_held3 (fun w' => w'.cell? ⟨C.F, 8, none⟩ = some (.map V.fmo)) (first | assumption | go_keep)
    (first
      | (go_at_call 95; refine (HNR.out _ HBD.out).mono ?_; rintro e w2 ⟨rfl, hb2⟩; have HB2 := Lib.hid (below_step HBD.out hb2); have f8' : w2.cell? ⟨C.F, 8, none⟩ = some (.map V.fmo) := (cell_blk (HP.out.below HB2.out).hF 8).trans rfl; have f1 : w2.cell? ⟨C.F, 1, none⟩ = some (.bool C.S.unknown) := (cell_blk (HP.out.below HB2.out).hF 1).trans rfl; have f2 : w2.cell? ⟨C.F, 2, none⟩ = some (.bool false) := (cell_blk (HP.out.below HB2.out).hF 2).trans rfl; have hlk := HLK.out w2 HB2.out; have q0 := cell_kept hb2 (show w1.drew.cell? _ = _ from HK0.out); have HP2 := Lib.hid (HP.out.below HB2.out); have HR2 := Lib.hid (HRR.out.below HB2.out); clear hb2))
  rw [hu] at f1
  go_wp2_with (go_at_call 98; refine (HST.out w2 HR2.out).mono ?_; rintro e w3 ⟨⟨v3, rfl, hr3⟩, rfl⟩; have HR3 := Lib.hid hr3; clear hr3)
  go_ret2
  exact ⟨_, V, v3, rfl, HP2.out, (by have h := HEE.out; show ErrAt C _ _ st.err; rw [h]; rfl), Fr.of_below HB2.out, HR3.out⟩

set_option maxRecDepth 100000 in
set_option maxHeartbeats 3200000 in
theorem long_valP (C : PC) (hR : Right C.S) (V : PV) (parsed : Bool) (st : St) (t : Txt) (rest : List Txt) (vr : Value) (w : World) (hp : Pm w C V (psOf none parsed st)) (hsz : ∀ i (h : i < C.S.flags.length), (C.S.flags[i].name).length ≤ 17179869184) (hG : st.given.length ≤ 1099511627776) (he : st.err = .no) (hr : RestAt C w vr rest) (ht : t.length ≤ 8589934592) (hrs : ∀ a ∈ rest, a.length ≤ 17179869184) (bb : Nat) (hbb : w.heap[bb]? = some (.cells #[.pointer (some ⟨C.F, 0, none⟩)] 87 (0, 0)))
    (i : Nat) (hm : ∃ c r, t = c :: r ∧ c ≠ 45 ∧ c ≠ 61) (hq : hasEq t = true) (hnm : named C.S (nameOf t) = some i) (hi : i < C.S.flags.length) :
    Calls Try.prog 77 #[.pointer (some ⟨C.F, 0, none⟩), .string (mkT (45 :: 45 :: t)), vr, (.func (.func 91) #[] #[.pointer (some ⟨bb, 0, none⟩)])] w (StepEnd none C parsed (give C.S none st i (valueOf t), rest) w) := by
  have has : (mkT (45 :: 45 :: t)).size = t.length + 2 := by rw [mkT_size]; simp
  have hA2 : (2 : Int) ≤ ((mkT (45 :: 45 :: t)).size : Int) := by omega
  have hA3 : ((mkT (45 :: 45 :: t)).size : Int) ≤ 17179869184 := by omega
  have hsl : ∀ W, (Instr.slice 9 (.string (mkT (45 :: 45 :: t))) (some (.int .i64 2)) none none).run Try.prog W = .ok (.string (mkT t)) W := fun W => by
    rw [run_slice_string_l (P := Try.prog) W 9 (mkT (45 :: 45 :: t)) Try.underlying9 .i64 2 (by omega) (by omega)]
    have e : (mkT (45 :: 45 :: t)).extract (2 : Int).toNat (mkT (45 :: 45 :: t)).size = mkT t := mkT_inj (by rw [ext_tailP, mkT_list, mkT_list]; rfl)
    rw [e]
  have hts : (mkT t).size = t.length := mkT_size t
  have HP := Lib.hid hp
  have HRR := Lib.hid hr
  obtain ⟨c, r, hcr, hc45, hc61⟩ := hm
  obtain ⟨p0, g0⟩ := mkT_get hcr
  have z1 : (((mkT t).size : Int) == 0) = false := by simp only [beq_eq_false_iff_ne]; omega
  have c0 : (((mkT t)[0].toNat : Int) == 45) = false := nat_beq_false (b := 45) (by rw [g0]; intro e; exact hc45 (UInt8.toNat_inj.1 e))
  have c1 : (((mkT t)[0].toNat : Int) == 61) = false := nat_beq_false (b := 61) (by rw [g0]; intro e; exact hc61 (UInt8.toNat_inj.1 e))
  have hnl : (mkT (nameOf t)).size ≤ 17179869184 := by rw [mkT_size]; have := nameOf_le t; omega
  have HNR := Lib.hid (fun (W : World) (hb : Below w.heap.size w W) => norm_any C.F C.S.fold (mkT (nameOf t)) hnl W (hp.below hb).norm_at)
  simp only [mkT_list] at HNR
  have HLK := Lib.hid (fun (W : World) (hb : Below w.heap.size w W) => by
    obtain ⟨n1, hm1⟩ := (hp.below hb).fm
    have hl := hm1.look Try.kN Try.underlying128 (Try.zP W) (key_txt (mkT (foldT C.S.fold (nameOf t))) (by rw [mkT_size]; simp [foldT]; have := hnl; rw [mkT_size] at this; omega))
    rw [mkT_list, nmF_all (hp.len), hnm] at hl
    exact hl)
  simp only [Option.map_none, Option.map_some, lookR] at HLK
  have HCUT := Lib.hid (cut_yes (mkT t) (by rw [mkT_size]; omega) (by rw [mkT_list]; exact hq) w)
  simp only [mkT_list] at HCUT
  have HFN := Lib.hid (fun (W : World) (hb : Below w.heap.size w W) => (fun (W : World) (hb : Below w.heap.size w W) (i : Nat) (hi : i < C.S.flags.length) (v : Txt) => parse1_any C hR V parsed st i v ⟨bb, 0, none⟩ W (hp.below hb) hi (hsz i hi) hG he ((cell_blk (block_kept hbb hb) 0).trans rfl)) W hb i hi (valueOf t))
  clear hp hr hrs hsz hG hR hts ht has hbb hq hcr hc45 hc61 g0 hnl hnm
  generalize mkT (45 :: 45 :: t) = ARG at hsl hA2 hA3 ⊢
  generalize mkT t = TX at hsl p0 z1 c0 c1 HCUT
  generalize mkT (foldT C.S.fold (nameOf t)) = NN at HNR HLK
  generalize mkT (nameOf t) = NMV at HNR HCUT
  generalize mkT (valueOf t) = VL at HCUT HFN
  generalize C.FL.getD i 0 = p at HLK HFN
  generalize give C.S none st i (valueOf t) = st' at HFN ⊢
  clear hi
  go_enter Try.func77, Try.ntmps77
  go_upto_region 7 with (go_at_call 97; refine (HCUT.out).mono ?_; rintro e w1 ⟨g, cg, rfl, k0, k1, hb1⟩; have HB1 := Lib.hid hb1; have f8 : w1.cell? ⟨C.F, 8, none⟩ = some (.map V.fmo) := (cell_blk (HP.out.below hb1).hF 8).trans rfl; have HK0 := Lib.hid k0; have HK1 := Lib.hid k1; have HBD := Lib.hid hb1.drew; clear hb1)
  go_region_held3 (fun w' => w'.cell? ⟨C.F, 8, none⟩ = some (.map V.fmo)) (first | assumption | go_keep)
    (first
      | (go_at_call 95; refine (HNR.out _ HBD.out).mono ?_; rintro e w2 ⟨rfl, hb2⟩; have HB2 := Lib.hid (below_step HBD.out hb2); have f8' : w2.cell? ⟨C.F, 8, none⟩ = some (.map V.fmo) := (cell_blk (HP.out.below HB2.out).hF 8).trans rfl; have f1 : w2.cell? ⟨C.F, 1, none⟩ = some (.bool C.S.unknown) := (cell_blk (HP.out.below HB2.out).hF 1).trans rfl; have f2 : w2.cell? ⟨C.F, 2, none⟩ = some (.bool false) := (cell_blk (HP.out.below HB2.out).hF 2).trans rfl; have hlk := HLK.out w2 HB2.out; have q0 := cell_kept hb2 (show w1.drew.cell? _ = _ from HK0.out); have q1 := cell_kept hb2 (show w1.drew.cell? _ = _ from HK1.out); have HP2 := Lib.hid (HP.out.below HB2.out); have HR2 := Lib.hid (HRR.out.below HB2.out); clear hb2))
  go_wp2_with (go_at_call 91; refine (HFN.out w2 HB2.out).mono ?_; rintro e w3 ⟨E, V3, rfl, h3, he3, hf3⟩)
  go_ret2
  exact ⟨E, V3, vr, rfl, h3, he3, (Fr.of_below HB2.out).trans hf3, HR2.out.fr hf3⟩

set_option maxRecDepth 100000 in
set_option maxHeartbeats 3200000 in
theorem long_optP (C : PC) (hR : Right C.S) (V : PV) (parsed : Bool) (st : St) (t : Txt) (rest : List Txt) (vr : Value) (w : World) (hp : Pm w C V (psOf none parsed st)) (hsz : ∀ i (h : i < C.S.flags.length), (C.S.flags[i].name).length ≤ 17179869184) (hG : st.given.length ≤ 1099511627776) (he : st.err = .no) (hr : RestAt C w vr rest) (ht : t.length ≤ 8589934592) (hrs : ∀ a ∈ rest, a.length ≤ 17179869184) (bb : Nat) (hbb : w.heap[bb]? = some (.cells #[.pointer (some ⟨C.F, 0, none⟩)] 87 (0, 0)))
    (i : Nat) (hm : ∃ c r, t = c :: r ∧ c ≠ 45 ∧ c ≠ 61) (hq : hasEq t = false) (hnm : named C.S t = some i) (hi : i < C.S.flags.length) (ho : C.S.flags[i].noOpt ≠ []) :
    Calls Try.prog 77 #[.pointer (some ⟨C.F, 0, none⟩), .string (mkT (45 :: 45 :: t)), vr, (.func (.func 91) #[] #[.pointer (some ⟨bb, 0, none⟩)])] w (StepEnd none C parsed (give C.S none st i C.S.flags[i].noOpt, rest) w) := by
  have has : (mkT (45 :: 45 :: t)).size = t.length + 2 := by rw [mkT_size]; simp
  have hA2 : (2 : Int) ≤ ((mkT (45 :: 45 :: t)).size : Int) := by omega
  have hA3 : ((mkT (45 :: 45 :: t)).size : Int) ≤ 17179869184 := by omega
  have hsl : ∀ W, (Instr.slice 9 (.string (mkT (45 :: 45 :: t))) (some (.int .i64 2)) none none).run Try.prog W = .ok (.string (mkT t)) W := fun W => by
    rw [run_slice_string_l (P := Try.prog) W 9 (mkT (45 :: 45 :: t)) Try.underlying9 .i64 2 (by omega) (by omega)]
    have e : (mkT (45 :: 45 :: t)).extract (2 : Int).toNat (mkT (45 :: 45 :: t)).size = mkT t := mkT_inj (by rw [ext_tailP, mkT_list, mkT_list]; rfl)
    rw [e]
  have hts : (mkT t).size = t.length := mkT_size t
  have HP := Lib.hid hp
  have HRR := Lib.hid hr
  obtain ⟨c, r, hcr, hc45, hc61⟩ := hm
  obtain ⟨p0, g0⟩ := mkT_get hcr
  have z1 : (((mkT t).size : Int) == 0) = false := by simp only [beq_eq_false_iff_ne]; omega
  have c0 : (((mkT t)[0].toNat : Int) == 45) = false := nat_beq_false (b := 45) (by rw [g0]; intro e; exact hc45 (UInt8.toNat_inj.1 e))
  have c1 : (((mkT t)[0].toNat : Int) == 61) = false := nat_beq_false (b := 61) (by rw [g0]; intro e; exact hc61 (UInt8.toNat_inj.1 e))
  have hnl : (mkT t).size ≤ 17179869184 := by rw [mkT_size]; omega
  have HNR := Lib.hid (fun (W : World) (hb : Below w.heap.size w W) => norm_any C.F C.S.fold (mkT t) hnl W (hp.below hb).norm_at)
  simp only [mkT_list] at HNR
  have HLK := Lib.hid (fun (W : World) (hb : Below w.heap.size w W) => by
    obtain ⟨n1, hm1⟩ := (hp.below hb).fm
    have hl := hm1.look Try.kN Try.underlying128 (Try.zP W) (key_txt (mkT (foldT C.S.fold t)) (by rw [mkT_size]; simp [foldT]; have := hnl; rw [mkT_size] at this; omega))
    rw [mkT_list, nmF_all (hp.len), hnm] at hl
    exact hl)
  simp only [Option.map_none, Option.map_some, lookR] at HLK
  have HCUT := Lib.hid (cut_no (mkT t) (by rw [mkT_size]; omega) (by rw [mkT_list]; exact hq) w)
  have HFN := Lib.hid (fun (W : World) (hb : Below w.heap.size w W) => (fun (W : World) (hb : Below w.heap.size w W) (i : Nat) (hi : i < C.S.flags.length) (v : Txt) => parse1_any C hR V parsed st i v ⟨bb, 0, none⟩ W (hp.below hb) hi (hsz i hi) hG he ((cell_blk (block_kept hbb hb) 0).trans rfl)) W hb i hi C.S.flags[i].noOpt)
  have HFL := Lib.hid (fun (W : World) (hb : Below w.heap.size w W) => ((cell_blk ((hp.below hb).flag i hi) 6).trans rfl : W.cell? ⟨C.FL.getD i 0, 6, none⟩ = some (.string (mkT C.S.flags[i].noOpt))))
  have po : 0 < (mkT C.S.flags[i].noOpt).size := by rw [mkT_size]; exact List.length_pos_iff.2 ho
  have po1 := nonempty_list po
  have po2 := nonempty_not po
  clear hp hr hrs hsz hG hR hts ht has hbb hq hcr hc45 hc61 g0 hnl hnm
  generalize mkT (45 :: 45 :: t) = ARG at hsl hA2 hA3 ⊢
  generalize mkT (foldT C.S.fold t) = NN at HNR HLK
  generalize mkT t = NMV at hsl p0 z1 c0 c1 HCUT HNR
  generalize give C.S none st i C.S.flags[i].noOpt = st' at HFN ⊢
  generalize mkT C.S.flags[i].noOpt = NO at HFN HFL po po1 po2
  generalize C.FL.getD i 0 = p at HLK HFN HFL
  clear hi ho
  go_enter Try.func77, Try.ntmps77
  go_upto_region 7 with (go_at_call 97; refine (HCUT.out).mono ?_; rintro e w1 ⟨g, cg, rfl, k0, hb1⟩; have HB1 := Lib.hid hb1; have f8 : w1.cell? ⟨C.F, 8, none⟩ = some (.map V.fmo) := (cell_blk (HP.out.below hb1).hF 8).trans rfl; have HK0 := Lib.hid k0; have HBD := Lib.hid hb1.drew; clear hb1)
  go_region_held3 (fun w' => w'.cell? ⟨C.F, 8, none⟩ = some (.map V.fmo)) (first | assumption | go_keep)
    (first
      | (go_at_call 95; refine (HNR.out _ HBD.out).mono ?_; rintro e w2 ⟨rfl, hb2⟩; have HB2 := Lib.hid (below_step HBD.out hb2); have f8' : w2.cell? ⟨C.F, 8, none⟩ = some (.map V.fmo) := (cell_blk (HP.out.below HB2.out).hF 8).trans rfl; have f1 : w2.cell? ⟨C.F, 1, none⟩ = some (.bool C.S.unknown) := (cell_blk (HP.out.below HB2.out).hF 1).trans rfl; have f2 : w2.cell? ⟨C.F, 2, none⟩ = some (.bool false) := (cell_blk (HP.out.below HB2.out).hF 2).trans rfl; have hlk := HLK.out w2 HB2.out; have q0 := cell_kept hb2 (show w1.drew.cell? _ = _ from HK0.out); have HP2 := Lib.hid (HP.out.below HB2.out); have HR2 := Lib.hid (HRR.out.below HB2.out); clear hb2))
  have l6 := HFL.out w2 HB2.out
  go_wp2_with (go_at_call 91; refine (HFN.out w2 HB2.out).mono ?_; rintro e w3 ⟨E, V3, rfl, h3, he3, hf3⟩)
  go_ret2
  exact ⟨E, V3, vr, rfl, h3, he3, (Fr.of_below HB2.out).trans hf3, HR2.out.fr hf3⟩

set_option maxRecDepth 100000 in
set_option maxHeartbeats 3200000 in
theorem long_needP (C : PC) (hR : Right C.S) (V : PV) (parsed : Bool) (st : St) (t : Txt) (rest : List Txt) (vr : Value) (w : World) (hp : Pm w C V (psOf none parsed st)) (hsz : ∀ i (h : i < C.S.flags.length), (C.S.flags[i].name).length ≤ 17179869184) (hG : st.given.length ≤ 1099511627776) (he : st.err = .no) (hr : RestAt C w vr rest) (ht : t.length ≤ 8589934592) (hrs : ∀ a ∈ rest, a.length ≤ 17179869184) (bb : Nat) (hbb : w.heap[bb]? = some (.cells #[.pointer (some ⟨C.F, 0, none⟩)] 87 (0, 0)))
    (i : Nat) (hm : ∃ c r, t = c :: r ∧ c ≠ 45 ∧ c ≠ 61) (hq : hasEq t = false) (hnm : named C.S t = some i) (hi : i < C.S.flags.length) (ho : C.S.flags[i].noOpt = []) (hr0 : rest = []) :
    Calls Try.prog 77 #[.pointer (some ⟨C.F, 0, none⟩), .string (mkT (45 :: 45 :: t)), vr, (.func (.func 91) #[] #[.pointer (some ⟨bb, 0, none⟩)])] w (StepEnd none C parsed ({ st with err := .need i t [] }, []) w) := by
  have has : (mkT (45 :: 45 :: t)).size = t.length + 2 := by rw [mkT_size]; simp
  have hA2 : (2 : Int) ≤ ((mkT (45 :: 45 :: t)).size : Int) := by omega
  have hA3 : ((mkT (45 :: 45 :: t)).size : Int) ≤ 17179869184 := by omega
  have hsl : ∀ W, (Instr.slice 9 (.string (mkT (45 :: 45 :: t))) (some (.int .i64 2)) none none).run Try.prog W = .ok (.string (mkT t)) W := fun W => by
    rw [run_slice_string_l (P := Try.prog) W 9 (mkT (45 :: 45 :: t)) Try.underlying9 .i64 2 (by omega) (by omega)]
    have e : (mkT (45 :: 45 :: t)).extract (2 : Int).toNat (mkT (45 :: 45 :: t)).size = mkT t := mkT_inj (by rw [ext_tailP, mkT_list, mkT_list]; rfl)
    rw [e]
  have hts : (mkT t).size = t.length := mkT_size t
  have HP := Lib.hid hp
  have HRR := Lib.hid hr
  obtain ⟨c, r, hcr, hc45, hc61⟩ := hm
  obtain ⟨p0, g0⟩ := mkT_get hcr
  have z1 : (((mkT t).size : Int) == 0) = false := by simp only [beq_eq_false_iff_ne]; omega
  have c0 : (((mkT t)[0].toNat : Int) == 45) = false := nat_beq_false (b := 45) (by rw [g0]; intro e; exact hc45 (UInt8.toNat_inj.1 e))
  have c1 : (((mkT t)[0].toNat : Int) == 61) = false := nat_beq_false (b := 61) (by rw [g0]; intro e; exact hc61 (UInt8.toNat_inj.1 e))
  have hnl : (mkT t).size ≤ 17179869184 := by rw [mkT_size]; omega
  have HNR := Lib.hid (fun (W : World) (hb : Below w.heap.size w W) => norm_any C.F C.S.fold (mkT t) hnl W (hp.below hb).norm_at)
  simp only [mkT_list] at HNR
  have HLK := Lib.hid (fun (W : World) (hb : Below w.heap.size w W) => by
    obtain ⟨n1, hm1⟩ := (hp.below hb).fm
    have hl := hm1.look Try.kN Try.underlying128 (Try.zP W) (key_txt (mkT (foldT C.S.fold t)) (by rw [mkT_size]; simp [foldT]; have := hnl; rw [mkT_size] at this; omega))
    rw [mkT_list, nmF_all (hp.len), hnm] at hl
    exact hl)
  simp only [Option.map_none, Option.map_some, lookR] at HLK
  have HCUT := Lib.hid (cut_no (mkT t) (by rw [mkT_size]; omega) (by rw [mkT_list]; exact hq) w)
  have HFL := Lib.hid (fun (W : World) (hb : Below w.heap.size w W) => ((cell_blk ((hp.below hb).flag i hi) 6).trans rfl : W.cell? ⟨C.FL.getD i 0, 6, none⟩ = some (.string (mkT C.S.flags[i].noOpt))))
  have po : (mkT C.S.flags[i].noOpt).size = 0 := by rw [mkT_size, ho]; rfl
  have po1 := empty_list po
  have po2 := empty_not po
  subst hr0
  obtain ⟨Ar, cr, rfl, hr1⟩ := hr
  have HPI : Hid (∃ p, p = C.FL.getD i 0) := ⟨_, rfl⟩
  clear hp hr1 hrs hsz hG hR hts ht has hbb hq hcr hc45 hc61 g0 hnl hnm
  generalize mkT (45 :: 45 :: t) = ARG at hsl hA2 hA3 ⊢
  generalize mkT (foldT C.S.fold t) = NN at HNR HLK
  generalize hNMV : mkT t = NMV at hsl p0 z1 c0 c1 HCUT HNR
  generalize mkT C.S.flags[i].noOpt = NO at HFL po po1 po2
  obtain ⟨p, hpe⟩ := HPI.out
  rw [← hpe] at HLK HFL
  have HPE := Lib.hid hpe
  clear hi ho hpe HPI
  go_enter Try.func77, Try.ntmps77
  go_upto_region 7 with (go_at_call 97; refine (HCUT.out).mono ?_; rintro e w1 ⟨g, cg, rfl, k0, hb1⟩; have HB1 := Lib.hid hb1; have f8 : w1.cell? ⟨C.F, 8, none⟩ = some (.map V.fmo) := (cell_blk (HP.out.below hb1).hF 8).trans rfl; have HK0 := Lib.hid k0; have HBD := Lib.hid hb1.drew; clear hb1)
  go_region_held3 (fun w' => w'.cell? ⟨C.F, 8, none⟩ = some (.map V.fmo)) (first | assumption | go_keep)
    (first
      | (go_at_call 95; refine (HNR.out _ HBD.out).mono ?_; rintro e w2 ⟨rfl, hb2⟩; have HB2 := Lib.hid (below_step HBD.out hb2); have f8' : w2.cell? ⟨C.F, 8, none⟩ = some (.map V.fmo) := (cell_blk (HP.out.below HB2.out).hF 8).trans rfl; have f1 : w2.cell? ⟨C.F, 1, none⟩ = some (.bool C.S.unknown) := (cell_blk (HP.out.below HB2.out).hF 1).trans rfl; have f2 : w2.cell? ⟨C.F, 2, none⟩ = some (.bool false) := (cell_blk (HP.out.below HB2.out).hF 2).trans rfl; have hlk := HLK.out w2 HB2.out; have q0 := cell_kept hb2 (show w1.drew.cell? _ = _ from HK0.out); have HP2 := Lib.hid (HP.out.below HB2.out); have HR2 := Lib.hid (HRR.out.below HB2.out); clear hb2))
  have l6 := HFL.out w2 HB2.out
  go_wp2
  go_ret2
  exact ⟨_, V, _, rfl, HP2.out.below ((Below.refl _ _).alloc (Nat.le_refl _) _), ⟨_, rfl, by rw [hNMV, ← HPE.out]; exact heap_alloc_new _ _⟩, (Fr.of_below HB2.out).trans (Fr.of_below ((Below.refl _ _).alloc (Nat.le_refl _) _)), HR2.out.below ((Below.refl _ _).alloc (Nat.le_refl _) _)⟩

set_option maxRecDepth 100000 in
set_option maxHeartbeats 3200000 in
theorem long_nextP (C : PC) (hR : Right C.S) (V : PV) (parsed : Bool) (st : St) (t : Txt) (rest : List Txt) (vr : Value) (w : World) (hp : Pm w C V (psOf none parsed st)) (hsz : ∀ i (h : i < C.S.flags.length), (C.S.flags[i].name).length ≤ 17179869184) (hG : st.given.length ≤ 1099511627776) (he : st.err = .no) (hr : RestAt C w vr rest) (ht : t.length ≤ 8589934592) (hrs : ∀ a ∈ rest, a.length ≤ 17179869184) (bb : Nat) (hbb : w.heap[bb]? = some (.cells #[.pointer (some ⟨C.F, 0, none⟩)] 87 (0, 0)))
    (i : Nat) (hm : ∃ c r, t = c :: r ∧ c ≠ 45 ∧ c ≠ 61) (hq : hasEq t = false) (hnm : named C.S t = some i) (hi : i < C.S.flags.length) (ho : C.S.flags[i].noOpt = []) (a : Txt) (rs : List Txt) (hr0 : rest = a :: rs) :
    Calls Try.prog 77 #[.pointer (some ⟨C.F, 0, none⟩), .string (mkT (45 :: 45 :: t)), vr, (.func (.func 91) #[] #[.pointer (some ⟨bb, 0, none⟩)])] w (StepEnd none C parsed (give C.S none st i a, rs) w) := by
  have has : (mkT (45 :: 45 :: t)).size = t.length + 2 := by rw [mkT_size]; simp
  have hA2 : (2 : Int) ≤ ((mkT (45 :: 45 :: t)).size : Int) := by omega
  have hA3 : ((mkT (45 :: 45 :: t)).size : Int) ≤ 17179869184 := by omega
  have hsl : ∀ W, (Instr.slice 9 (.string (mkT (45 :: 45 :: t))) (some (.int .i64 2)) none none).run Try.prog W = .ok (.string (mkT t)) W := fun W => by
    rw [run_slice_string_l (P := Try.prog) W 9 (mkT (45 :: 45 :: t)) Try.underlying9 .i64 2 (by omega) (by omega)]
    have e : (mkT (45 :: 45 :: t)).extract (2 : Int).toNat (mkT (45 :: 45 :: t)).size = mkT t := mkT_inj (by rw [ext_tailP, mkT_list, mkT_list]; rfl)
    rw [e]
  have hts : (mkT t).size = t.length := mkT_size t
  have HP := Lib.hid hp
  have HRR := Lib.hid hr
  obtain ⟨c, r, hcr, hc45, hc61⟩ := hm
  obtain ⟨p0, g0⟩ := mkT_get hcr
  have z1 : (((mkT t).size : Int) == 0) = false := by simp only [beq_eq_false_iff_ne]; omega
  have c0 : (((mkT t)[0].toNat : Int) == 45) = false := nat_beq_false (b := 45) (by rw [g0]; intro e; exact hc45 (UInt8.toNat_inj.1 e))
  have c1 : (((mkT t)[0].toNat : Int) == 61) = false := nat_beq_false (b := 61) (by rw [g0]; intro e; exact hc61 (UInt8.toNat_inj.1 e))
  have hnl : (mkT t).size ≤ 17179869184 := by rw [mkT_size]; omega
  have HNR := Lib.hid (fun (W : World) (hb : Below w.heap.size w W) => norm_any C.F C.S.fold (mkT t) hnl W (hp.below hb).norm_at)
  simp only [mkT_list] at HNR
  have HLK := Lib.hid (fun (W : World) (hb : Below w.heap.size w W) => by
    obtain ⟨n1, hm1⟩ := (hp.below hb).fm
    have hl := hm1.look Try.kN Try.underlying128 (Try.zP W) (key_txt (mkT (foldT C.S.fold t)) (by rw [mkT_size]; simp [foldT]; have := hnl; rw [mkT_size] at this; omega))
    rw [mkT_list, nmF_all (hp.len), hnm] at hl
    exact hl)
  simp only [Option.map_none, Option.map_some, lookR] at HLK
  have HCUT := Lib.hid (cut_no (mkT t) (by rw [mkT_size]; omega) (by rw [mkT_list]; exact hq) w)
  have HFN := Lib.hid (fun (W : World) (hb : Below w.heap.size w W) => (fun (W : World) (hb : Below w.heap.size w W) (i : Nat) (hi : i < C.S.flags.length) (v : Txt) => parse1_any C hR V parsed st i v ⟨bb, 0, none⟩ W (hp.below hb) hi (hsz i hi) hG he ((cell_blk (block_kept hbb hb) 0).trans rfl)) W hb i hi a)
  have HFL := Lib.hid (fun (W : World) (hb : Below w.heap.size w W) => ((cell_blk ((hp.below hb).flag i hi) 6).trans rfl : W.cell? ⟨C.FL.getD i 0, 6, none⟩ = some (.string (mkT C.S.flags[i].noOpt))))
  have po : (mkT C.S.flags[i].noOpt).size = 0 := by rw [mkT_size, ho]; rfl
  have po1 := empty_list po
  have po2 := empty_not po
  subst hr0
  obtain ⟨br, ro, cr, rfl, hrc, hrl, hrm, _⟩ := hr.head
  have hrp : 0 < rs.length + 1 := by omega
  have i1 : (1 : Int) ≤ (rs.length : Int) + 1 := by omega
  have i2 : ((rs.length : Int) + 1) ≤ (cr : Int) := by omega
  have HRC := Lib.hid hrc
  clear hp hr hrc hrs hsz hG hR hts ht has hbb hq hcr hc45 hc61 g0 hnl hnm
  generalize mkT (45 :: 45 :: t) = ARG at hsl hA2 hA3 ⊢
  generalize mkT (foldT C.S.fold t) = NN at HNR HLK
  generalize mkT t = NMV at hsl p0 z1 c0 c1 HCUT HNR
  generalize give C.S none st i a = st' at HFN ⊢
  generalize mkT a = AA at HFN HRC
  generalize mkT C.S.flags[i].noOpt = NO at HFL po po1 po2
  generalize C.FL.getD i 0 = p at HLK HFN HFL
  clear hi ho
  go_enter Try.func77, Try.ntmps77
  go_upto_region 7 with (go_at_call 97; refine (HCUT.out).mono ?_; rintro e w1 ⟨g, cg, rfl, k0, hb1⟩; have HB1 := Lib.hid hb1; have f8 : w1.cell? ⟨C.F, 8, none⟩ = some (.map V.fmo) := (cell_blk (HP.out.below hb1).hF 8).trans rfl; have HK0 := Lib.hid k0; have HBD := Lib.hid hb1.drew; clear hb1)
  go_region_held3 (fun w' => w'.cell? ⟨C.F, 8, none⟩ = some (.map V.fmo)) (first | assumption | go_keep)
    (first
      | (go_at_call 95; refine (HNR.out _ HBD.out).mono ?_; rintro e w2 ⟨rfl, hb2⟩; have HB2 := Lib.hid (below_step HBD.out hb2); have f8' : w2.cell? ⟨C.F, 8, none⟩ = some (.map V.fmo) := (cell_blk (HP.out.below HB2.out).hF 8).trans rfl; have f1 : w2.cell? ⟨C.F, 1, none⟩ = some (.bool C.S.unknown) := (cell_blk (HP.out.below HB2.out).hF 1).trans rfl; have f2 : w2.cell? ⟨C.F, 2, none⟩ = some (.bool false) := (cell_blk (HP.out.below HB2.out).hF 2).trans rfl; have hlk := HLK.out w2 HB2.out; have q0 := cell_kept hb2 (show w1.drew.cell? _ = _ from HK0.out); have HP2 := Lib.hid (HP.out.below HB2.out); have HR2 := Lib.hid (HRR.out.below HB2.out); clear hb2))
  have l6 := HFL.out w2 HB2.out
  have lr := cell_kept HB2.out HRC.out
  go_wp2_with (go_at_call 91; refine (HFN.out w2 HB2.out).mono ?_; rintro e w3 ⟨E, V3, rfl, h3, he3, hf3⟩)
  · go_ret2
    exact ⟨E, V3, _, rfl, h3, he3, (Fr.of_below HB2.out).trans hf3, (HR2.out.tail1 (by assumption)).fr hf3⟩
  · go_ret2
    exact ⟨E, V3, _, rfl, h3, he3, (Fr.of_below HB2.out).trans hf3, HR2.out.tail.fr hf3⟩

theorem long_anyP (C : PC) (hR : Right C.S) (V : PV) (parsed : Bool) (st : St) (t : Txt) (rest : List Txt) (vr : Value) (w : World) (hp : Pm w C V (psOf none parsed st)) (hsz : ∀ i (h : i < C.S.flags.length), (C.S.flags[i].name).length ≤ 17179869184) (hG : st.given.length ≤ 1099511627776) (he : st.err = .no) (hr : RestAt C w vr rest) (ht : t.length ≤ 8589934592) (hrs : ∀ a ∈ rest, a.length ≤ 17179869184) (bb : Nat) (hbb : w.heap[bb]? = some (.cells #[.pointer (some ⟨C.F, 0, none⟩)] 87 (0, 0))) :
    Calls Try.prog 77 #[.pointer (some ⟨C.F, 0, none⟩), .string (mkT (45 :: 45 :: t)), vr, (.func (.func 91) #[] #[.pointer (some ⟨bb, 0, none⟩)])] w (StepEnd none C parsed (longP C.S none st (45 :: 45 :: t) rest) w) := by
  have hd : (45 :: 45 :: t).drop 2 = t := rfl
  unfold longP
  simp only [hd]
  by_cases h1 : t = [] ∨ t.head? = some 45 ∨ t.head? = some 61
  · rw [if_pos h1]
    exact long_synP C hR V parsed st t rest vr w hp hsz hG he hr ht hrs bb hbb h1
  · rw [if_neg h1]
    have hm : ∃ c r, t = c :: r ∧ c ≠ 45 ∧ c ≠ 61 := by
      cases t with
      | nil => exact absurd (Or.inl rfl) h1
      | cons c r => exact ⟨c, r, rfl, fun e => h1 (Or.inr (Or.inl (by rw [e]; rfl))), fun e => h1 (Or.inr (Or.inr (by rw [e]; rfl)))⟩
    cases hn : named C.S (nameOf t) with
    | none =>
      simp only
      by_cases hh : nameOf t = helpT
      · rw [if_pos hh]
        by_cases hq : hasEq t = true
        · exact long_help_yP C hR V parsed st t rest vr w hp hsz hG he hr ht hrs bb hbb hm hq hn hh
        · have hq : hasEq t = false := by simpa using hq
          have e := nameOf_all hq
          rw [e] at hh hn
          exact long_help_nP C hR V parsed st t rest vr w hp hsz hG he hr ht hrs bb hbb hm hq hn hh
      · rw [if_neg hh]
        by_cases hu : C.S.unknown = true
        · rw [if_pos hu]
          by_cases hq : hasEq t = true
          · rw [if_pos hq]; exact long_let_yP C hR V parsed st t rest vr w hp hsz hG he hr ht hrs bb hbb hm hq hn hh hu
          · rw [if_neg hq]
            have hq : hasEq t = false := by simpa using hq
            have e := nameOf_all hq
            rw [e] at hh hn
            exact long_let_nP C hR V parsed st t rest vr w hp hsz hG he hr ht hrs bb hbb hm hq hn hh hu
        · rw [if_neg hu]
          have hu : C.S.unknown = false := by simpa using hu
          by_cases hq : hasEq t = true
          · exact long_not_yP C hR V parsed st t rest vr w hp hsz hG he hr ht hrs bb hbb hm hq hn hh hu
          · have hq : hasEq t = false := by simpa using hq
            have e := nameOf_all hq
            rw [e] at hh hn ⊢
            exact long_not_nP C hR V parsed st t rest vr w hp hsz hG he hr ht hrs bb hbb hm hq hn hh hu
    | some i =>
      simp only
      have hi : i < C.S.flags.length := findIdx_lt hn
      by_cases hq : hasEq t = true
      · rw [if_pos hq]; exact long_valP C hR V parsed st t rest vr w hp hsz hG he hr ht hrs bb hbb i hm hq hn hi
      · rw [if_neg hq]
        have hq : hasEq t = false := by simpa using hq
        have e := nameOf_all hq
        have no : noOptOf C.S i = C.S.flags[i].noOpt := by simp [noOptOf, hi]
        rw [e] at hn ⊢
        rw [no]
        by_cases ho : C.S.flags[i].noOpt = []
        · rw [if_neg (fun h => h ho)]
          cases hr0 : rest with
          | nil => subst hr0; exact long_needP C hR V parsed st t [] vr w hp hsz hG he hr ht hrs bb hbb i hm hq hn hi ho rfl
          | cons a rs => subst hr0; exact long_nextP C hR V parsed st t (a :: rs) vr w hp hsz hG he hr ht hrs bb hbb i hm hq hn hi ho a rs rfl
        · rw [if_pos ho]
          exact long_optP C hR V parsed st t rest vr w hp hsz hG he hr ht hrs bb hbb i hm hq hn hi ho
end Go.Proofs.Ytgmhhdpggnmipaa.E
