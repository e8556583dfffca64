/- One long argument, where values are handed to impl.ParseAll's function. Written by gen_gs.py. -/
import Derived.Test.YtgmhhdpggnmipaaGs10
namespace Go.Proofs.Ytgmhhdpggnmipaa.E
open Go.RowKit Go.Proofs
open Go.Maps (Keyed)
set_option linter.unusedVariables false
set_option linter.unusedSimpArgs false

set_option maxRecDepth 100000 in
set_option maxHeartbeats 3200000 in
theorem long_synA (C : PC) (hR : Right C.S) (V : PV) (parsed : Bool) (st : St) (t : Txt) (rest : List Txt) (vr : Value) (w : World) (hp : Pm w C V (psOf (some []) parsed st)) (hsz : ∀ i (h : i < C.S.flags.length), (C.S.flags[i].name).length ≤ 17179869184) (hG : st.given.length ≤ 1099511627776) (he : st.err = .no) (hr : RestAt C w vr rest) (ht : t.length ≤ 8589934592) (hrs : ∀ a ∈ rest, a.length ≤ 17179869184) (wb nb : Nat) (hbb : HandAt C w wb nb)
    (hs : t = [] ∨ t.head? = some 45 ∨ t.head? = some 61) :
    Calls Try.prog 77 #[.pointer (some ⟨C.F, 0, none⟩), .string (mkT (45 :: 45 :: t)), vr, (.func (.func 63) #[] #[.pointer (some ⟨wb, 0, none⟩), .pointer (some ⟨nb, 0, none⟩)])] w (StepEnd (some []) C parsed ({ st with err := .syn (45 :: 45 :: t) }, rest) w) := by
  have has : (mkT (45 :: 45 :: t)).size = t.length + 2 := by rw [mkT_size]; simp
  have hA2 : (2 : Int) ≤ ((mkT (45 :: 45 :: t)).size : Int) := by omega
  have hA3 : ((mkT (45 :: 45 :: t)).size : Int) ≤ 17179869184 := by omega
  have hsl : ∀ W, (Instr.slice 9 (.string (mkT (45 :: 45 :: t))) (some (.int .i64 2)) none none).run Try.prog W = .ok (.string (mkT t)) W := fun W => by
    rw [run_slice_string_l (P := Try.prog) W 9 (mkT (45 :: 45 :: t)) Try.underlying9 .i64 2 (by omega) (by omega)]
    have e : (mkT (45 :: 45 :: t)).extract (2 : Int).toNat (mkT (45 :: 45 :: t)).size = mkT t := mkT_inj (by rw [ext_tailP, mkT_list, mkT_list]; rfl)
    rw [e]
  have hts : (mkT t).size = t.length := mkT_size t
  have HP := Lib.hid hp
  have HRR := Lib.hid hr
  unfold StepEnd ErrAt
  rcases hs with rfl | h | h
  · have z0 : (mkT ([] : Txt)).size = 0 := by rw [mkT_size]; rfl
    clear hp hr hrs hsz hG he hR hts ht has hbb
    generalize hARG : mkT (45 :: 45 :: ([] : Txt)) = ARG at hsl hA2 hA3 ⊢
    have HARG := Lib.hid hARG
    clear hARG
    generalize mkT ([] : Txt) = TX at hsl z0
    go_enter Try.func77, Try.ntmps77
    go_wp2
    go_ret2
    exact ⟨_, V, vr, rfl, HP.out.below ((Below.refl _ _).alloc (Nat.le_refl _) _), ⟨_, rfl, by rw [HARG.out]; exact heap_alloc_new _ _⟩, Fr.of_below ((Below.refl _ _).alloc (Nat.le_refl _) _), HRR.out.below ((Below.refl _ _).alloc (Nat.le_refl _) _)⟩
  · obtain ⟨c, r, rfl⟩ : ∃ c r, t = c :: r := by cases t with
      | nil => simp at h
      | cons c r => exact ⟨c, r, rfl⟩
    obtain ⟨p0, g0⟩ := mkT_get (l := c :: r) rfl
    have z1 : (((mkT (c :: r)).size : Int) == 0) = false := by simp only [beq_eq_false_iff_ne]; omega
    have c0 : (((mkT (c :: r))[0].toNat : Int) == 45) = true := by rw [g0]; simp only [List.head?_cons, Option.some.injEq] at h; rw [h]; rfl
    clear g0 h
    clear hp hr hrs hsz hG he hR hts ht has hbb
    generalize hARG : mkT (45 :: 45 :: (c :: r)) = ARG at hsl hA2 hA3 ⊢
    have HARG := Lib.hid hARG
    clear hARG
    generalize mkT (c :: r) = TX at hsl p0 z1 c0
    go_enter Try.func77, Try.ntmps77
    go_wp2
    go_ret2
    exact ⟨_, V, vr, rfl, HP.out.below ((Below.refl _ _).alloc (Nat.le_refl _) _), ⟨_, rfl, by rw [HARG.out]; exact heap_alloc_new _ _⟩, Fr.of_below ((Below.refl _ _).alloc (Nat.le_refl _) _), HRR.out.below ((Below.refl _ _).alloc (Nat.le_refl _) _)⟩
  · obtain ⟨c, r, rfl⟩ : ∃ c r, t = c :: r := by cases t with
      | nil => simp at h
      | cons c r => exact ⟨c, r, rfl⟩
    obtain ⟨p0, g0⟩ := mkT_get (l := c :: r) rfl
    have z1 : (((mkT (c :: r)).size : Int) == 0) = false := by simp only [beq_eq_false_iff_ne]; omega
    have c0 : (((mkT (c :: r))[0].toNat : Int) == 45) = false := by rw [g0]; simp only [List.head?_cons, Option.some.injEq] at h; rw [h]; rfl
    have c1 : (((mkT (c :: r))[0].toNat : Int) == 61) = true := by rw [g0]; simp only [List.head?_cons, Option.some.injEq] at h; rw [h]; rfl
    clear g0 h
    clear hp hr hrs hsz hG he hR hts ht has hbb
    generalize hARG : mkT (45 :: 45 :: (c :: r)) = ARG at hsl hA2 hA3 ⊢
    have HARG := Lib.hid hARG
    clear hARG
    generalize mkT (c :: r) = TX at hsl p0 z1 c0 c1
    go_enter Try.func77, Try.ntmps77
    go_wp2
    go_ret2
    exact ⟨_, V, vr, rfl, HP.out.below ((Below.refl _ _).alloc (Nat.le_refl _) _), ⟨_, rfl, by rw [HARG.out]; exact heap_alloc_new _ _⟩, Fr.of_below ((Below.refl _ _).alloc (Nat.le_refl _) _), HRR.out.below ((Below.refl _ _).alloc (Nat.le_refl _) _)⟩

set_option maxRecDepth 100000 in
set_option maxHeartbeats 3200000 in
theorem long_help_yA (C : PC) (hR : Right C.S) (V : PV) (parsed : Bool) (st : St) (t : Txt) (rest : List Txt) (vr : Value) (w : World) (hp : Pm w C V (psOf (some []) parsed st)) (hsz : ∀ i (h : i < C.S.flags.length), (C.S.flags[i].name).length ≤ 17179869184) (hG : st.given.length ≤ 1099511627776) (he : st.err = .no) (hr : RestAt C w vr rest) (ht : t.length ≤ 8589934592) (hrs : ∀ a ∈ rest, a.length ≤ 17179869184) (wb nb : Nat) (hbb : HandAt C w wb nb)
    (hm : ∃ c r, t = c :: r ∧ c ≠ 45 ∧ c ≠ 61) (hq : hasEq t = true) (hnm : named C.S (nameOf t) = none) (hh : (nameOf t) = helpT) :
    Calls Try.prog 77 #[.pointer (some ⟨C.F, 0, none⟩), .string (mkT (45 :: 45 :: t)), vr, (.func (.func 63) #[] #[.pointer (some ⟨wb, 0, none⟩), .pointer (some ⟨nb, 0, none⟩)])] w (StepEnd (some []) C parsed ({ st with err := .help }, rest) w) := by
  have has : (mkT (45 :: 45 :: t)).size = t.length + 2 := by rw [mkT_size]; simp
  have hA2 : (2 : Int) ≤ ((mkT (45 :: 45 :: t)).size : Int) := by omega
  have hA3 : ((mkT (45 :: 45 :: t)).size : Int) ≤ 17179869184 := by omega
  have hsl : ∀ W, (Instr.slice 9 (.string (mkT (45 :: 45 :: t))) (some (.int .i64 2)) none none).run Try.prog W = .ok (.string (mkT t)) W := fun W => by
    rw [run_slice_string_l (P := Try.prog) W 9 (mkT (45 :: 45 :: t)) Try.underlying9 .i64 2 (by omega) (by omega)]
    have e : (mkT (45 :: 45 :: t)).extract (2 : Int).toNat (mkT (45 :: 45 :: t)).size = mkT t := mkT_inj (by rw [ext_tailP, mkT_list, mkT_list]; rfl)
    rw [e]
  have hts : (mkT t).size = t.length := mkT_size t
  have HP := Lib.hid hp
  have HRR := Lib.hid hr
  obtain ⟨c, r, hcr, hc45, hc61⟩ := hm
  obtain ⟨p0, g0⟩ := mkT_get hcr
  have z1 : (((mkT t).size : Int) == 0) = false := by simp only [beq_eq_false_iff_ne]; omega
  have c0 : (((mkT t)[0].toNat : Int) == 45) = false := nat_beq_false (b := 45) (by rw [g0]; intro e; exact hc45 (UInt8.toNat_inj.1 e))
  have c1 : (((mkT t)[0].toNat : Int) == 61) = false := nat_beq_false (b := 61) (by rw [g0]; intro e; exact hc61 (UInt8.toNat_inj.1 e))
  have hnl : (mkT (nameOf t)).size ≤ 17179869184 := by rw [mkT_size]; have := nameOf_le t; omega
  have HNR := Lib.hid (fun (W : World) (hb : Below w.heap.size w W) => norm_any C.F C.S.fold (mkT (nameOf t)) hnl W (hp.below hb).norm_at)
  simp only [mkT_list] at HNR
  have HLK := Lib.hid (fun (W : World) (hb : Below w.heap.size w W) => by
    obtain ⟨n1, hm1⟩ := (hp.below hb).fm
    have hl := hm1.look Try.kN Try.underlying128 (Try.zP W) (key_txt (mkT (foldT C.S.fold (nameOf t))) (by rw [mkT_size]; simp [foldT]; have := hnl; rw [mkT_size] at this; omega))
    rw [mkT_list, nmF_all (hp.len), hnm] at hl
    exact hl)
  simp only [Option.map_none, Option.map_some, lookR] at HLK
  have HCUT := Lib.hid (cut_yes (mkT t) (by rw [mkT_size]; omega) (by rw [mkT_list]; exact hq) w)
  simp only [mkT_list] at HCUT
  have hv : ((mkT (nameOf t)).toList == [104, 101, 108, 112]) = true := by rw [ByteArray.toList_eq, mkT_list, hh]; rfl
  clear hp hr hrs hsz hG hR hts ht has hbb hq hcr hc45 hc61 g0 hnl hnm
  generalize mkT (45 :: 45 :: t) = ARG at hsl hA2 hA3 ⊢
  generalize mkT t = TX at hsl p0 z1 c0 c1 HCUT
  generalize mkT (foldT C.S.fold (nameOf t)) = NN at HNR HLK
  generalize mkT (nameOf t) = NMV at HNR HCUT hv
  go_enter Try.func77, Try.ntmps77
  go_upto_region 7 with (go_at_call 97; refine (HCUT.out).mono ?_; rintro e w1 ⟨g, cg, rfl, k0, k1, hb1⟩; have HB1 := Lib.hid hb1; have f8 : w1.cell? ⟨C.F, 8, none⟩ = some (.map V.fmo) := (cell_blk (HP.out.below hb1).hF 8).trans rfl; have HK0 := Lib.hid k0; have HK1 := Lib.hid k1; have HBD := Lib.hid hb1.drew; clear hb1)
  go_region_held3 (fun w' => w'.cell? ⟨C.F, 8, none⟩ = some (.map V.fmo)) (first | assumption | go_keep)
    (first
      | (go_at_call 95; refine (HNR.out _ HBD.out).mono ?_; rintro e w2 ⟨rfl, hb2⟩; have HB2 := Lib.hid (below_step HBD.out hb2); have f8' : w2.cell? ⟨C.F, 8, none⟩ = some (.map V.fmo) := (cell_blk (HP.out.below HB2.out).hF 8).trans rfl; have f1 : w2.cell? ⟨C.F, 1, none⟩ = some (.bool C.S.unknown) := (cell_blk (HP.out.below HB2.out).hF 1).trans rfl; have f2 : w2.cell? ⟨C.F, 2, none⟩ = some (.bool false) := (cell_blk (HP.out.below HB2.out).hF 2).trans rfl; have hlk := HLK.out w2 HB2.out; have q0 := cell_kept hb2 (show w1.drew.cell? _ = _ from HK0.out); have q1 := cell_kept hb2 (show w1.drew.cell? _ = _ from HK1.out); have HP2 := Lib.hid (HP.out.below HB2.out); have HR2 := Lib.hid (HRR.out.below HB2.out); clear hb2))
  go_wp2
  go_ret2
  exact ⟨_, V, vr, rfl, HP2.out, rfl, Fr.of_below HB2.out, HR2.out⟩

set_option maxRecDepth 100000 in
set_option maxHeartbeats 3200000 in
theorem long_not_yA (C : PC) (hR : Right C.S) (V : PV) (parsed : Bool) (st : St) (t : Txt) (rest : List Txt) (vr : Value) (w : World) (hp : Pm w C V (psOf (some []) parsed st)) (hsz : ∀ i (h : i < C.S.flags.length), (C.S.flags[i].name).length ≤ 17179869184) (hG : st.given.length ≤ 1099511627776) (he : st.err = .no) (hr : RestAt C w vr rest) (ht : t.length ≤ 8589934592) (hrs : ∀ a ∈ rest, a.length ≤ 17179869184) (wb nb : Nat) (hbb : HandAt C w wb nb)
    (hm : ∃ c r, t = c :: r ∧ c ≠ 45 ∧ c ≠ 61) (hq : hasEq t = true) (hnm : named C.S (nameOf t) = none) (hh : ¬ (nameOf t) = helpT) (hu : C.S.unknown = false) :
    Calls Try.prog 77 #[.pointer (some ⟨C.F, 0, none⟩), .string (mkT (45 :: 45 :: t)), vr, (.func (.func 63) #[] #[.pointer (some ⟨wb, 0, none⟩), .pointer (some ⟨nb, 0, none⟩)])] w (StepEnd (some []) C parsed ({ st with err := .notExist (nameOf t) [] }, rest) w) := by
  have has : (mkT (45 :: 45 :: t)).size = t.length + 2 := by rw [mkT_size]; simp
  have hA2 : (2 : Int) ≤ ((mkT (45 :: 45 :: t)).size : Int) := by omega
  have hA3 : ((mkT (45 :: 45 :: t)).size : Int) ≤ 17179869184 := by omega
  have hsl : ∀ W, (Instr.slice 9 (.string (mkT (45 :: 45 :: t))) (some (.int .i64 2)) none none).run Try.prog W = .ok (.string (mkT t)) W := fun W => by
    rw [run_slice_string_l (P := Try.prog) W 9 (mkT (45 :: 45 :: t)) Try.underlying9 .i64 2 (by omega) (by omega)]
    have e : (mkT (45 :: 45 :: t)).extract (2 : Int).toNat (mkT (45 :: 45 :: t)).size = mkT t := mkT_inj (by rw [ext_tailP, mkT_list, mkT_list]; rfl)
    rw [e]
  have hts : (mkT t).size = t.length := mkT_size t
  have HP := Lib.hid hp
  have HRR := Lib.hid hr
  obtain ⟨c, r, hcr, hc45, hc61⟩ := hm
  obtain ⟨p0, g0⟩ := mkT_get hcr
  have z1 : (((mkT t).size : Int) == 0) = false := by simp only [beq_eq_false_iff_ne]; omega
  have c0 : (((mkT t)[0].toNat : Int) == 45) = false := nat_beq_false (b := 45) (by rw [g0]; intro e; exact hc45 (UInt8.toNat_inj.1 e))
  have c1 : (((mkT t)[0].toNat : Int) == 61) = false := nat_beq_false (b := 61) (by rw [g0]; intro e; exact hc61 (UInt8.toNat_inj.1 e))
  have hnl : (mkT (nameOf t)).size ≤ 17179869184 := by rw [mkT_size]; have := nameOf_le t; omega
  have HNR := Lib.hid (fun (W : World) (hb : Below w.heap.size w W) => norm_any C.F C.S.fold (mkT (nameOf t)) hnl W (hp.below hb).norm_at)
  simp only [mkT_list] at HNR
  have HLK := Lib.hid (fun (W : World) (hb : Below w.heap.size w W) => by
    obtain ⟨n1, hm1⟩ := (hp.below hb).fm
    have hl := hm1.look Try.kN Try.underlying128 (Try.zP W) (key_txt (mkT (foldT C.S.fold (nameOf t))) (by rw [mkT_size]; simp [foldT]; have := hnl; rw [mkT_size] at this; omega))
    rw [mkT_list, nmF_all (hp.len), hnm] at hl
    exact hl)
  simp only [Option.map_none, Option.map_some, lookR] at HLK
  have HCUT := Lib.hid (cut_yes (mkT t) (by rw [mkT_size]; omega) (by rw [mkT_list]; exact hq) w)
  simp only [mkT_list] at HCUT
  have hv : ((mkT (nameOf t)).toList == [104, 101, 108, 112]) = false := by rw [ByteArray.toList_eq, mkT_list]; simpa [helpT] using hh
  clear hp hr hrs hsz hG hR hts ht has hbb hq hcr hc45 hc61 g0 hnl hnm
  generalize mkT (45 :: 45 :: t) = ARG at hsl hA2 hA3 ⊢
  generalize mkT t = TX at hsl p0 z1 c0 c1 HCUT
  generalize mkT (foldT C.S.fold (nameOf t)) = NN at HNR HLK
  generalize hNMV : mkT (nameOf t) = NMV at HNR HCUT hv
  go_enter Try.func77, Try.ntmps77
  go_upto_region 7 with (go_at_call 97; refine (HCUT.out).mono ?_; rintro e w1 ⟨g, cg, rfl, k0, k1, hb1⟩; have HB1 := Lib.hid hb1; have f8 : w1.cell? ⟨C.F, 8, none⟩ = some (.map V.fmo) := (cell_blk (HP.out.below hb1).hF 8).trans rfl; have HK0 := Lib.hid k0; have HK1 := Lib.hid k1; have HBD := Lib.hid hb1.drew; clear hb1)
  go_region_held3 (fun w' => w'.cell? ⟨C.F, 8, none⟩ = some (.map V.fmo)) (first | assumption | go_keep)
    (first
      | (go_at_call 95; refine (HNR.out _ HBD.out).mono ?_; rintro e w2 ⟨rfl, hb2⟩; have HB2 := Lib.hid (below_step HBD.out hb2); have f8' : w2.cell? ⟨C.F, 8, none⟩ = some (.map V.fmo) := (cell_blk (HP.out.below HB2.out).hF 8).trans rfl; have f1 : w2.cell? ⟨C.F, 1, none⟩ = some (.bool C.S.unknown) := (cell_blk (HP.out.below HB2.out).hF 1).trans rfl; have f2 : w2.cell? ⟨C.F, 2, none⟩ = some (.bool false) := (cell_blk (HP.out.below HB2.out).hF 2).trans rfl; have hlk := HLK.out w2 HB2.out; have q0 := cell_kept hb2 (show w1.drew.cell? _ = _ from HK0.out); have q1 := cell_kept hb2 (show w1.drew.cell? _ = _ from HK1.out); have HP2 := Lib.hid (HP.out.below HB2.out); have HR2 := Lib.hid (HRR.out.below HB2.out); clear hb2))
  rw [hu] at f1
  go_wp2
  go_ret2
  exact ⟨_, V, vr, rfl, HP2.out.below ((Below.refl _ _).alloc (Nat.le_refl _) _), ⟨_, _, rfl, by rw [hNMV]; exact heap_alloc_new _ _⟩, (Fr.of_below HB2.out).trans (Fr.of_below ((Below.refl _ _).alloc (Nat.le_refl _) _)), HR2.out.below ((Below.refl _ _).alloc (Nat.le_refl _) _)⟩

set_option maxRecDepth 100000 in
set_option maxHeartbeats 3200000 in
theorem long_let_yA (C : PC) (hR : Right C.S) (V : PV) (parsed : Bool) (st : St) (t : Txt) (rest : List Txt) (vr : Value) (w : World) (hp : Pm w C V (psOf (some []) parsed st)) (hsz : ∀ i (h : i < C.S.flags.length), (C.S.flags[i].name).length ≤ 17179869184) (hG : st.given.length ≤ 1099511627776) (he : st.err = .no) (hr : RestAt C w vr rest) (ht : t.length ≤ 8589934592) (hrs : ∀ a ∈ rest, a.length ≤ 17179869184) (wb nb : Nat) (hbb : HandAt C w wb nb)
    (hm : ∃ c r, t = c :: r ∧ c ≠ 45 ∧ c ≠ 61) (hq : hasEq t = true) (hnm : named C.S (nameOf t) = none) (hh : ¬ (nameOf t) = helpT) (hu : C.S.unknown = true) :
    Calls Try.prog 77 #[.pointer (some ⟨C.F, 0, none⟩), .string (mkT (45 :: 45 :: t)), vr, (.func (.func 63) #[] #[.pointer (some ⟨wb, 0, none⟩), .pointer (some ⟨nb, 0, none⟩)])] w (StepEnd (some []) C parsed (st, rest) w) := by
  have has : (mkT (45 :: 45 :: t)).size = t.length + 2 := by rw [mkT_size]; simp
  have hA2 : (2 : Int) ≤ ((mkT (45 :: 45 :: t)).size : Int) := by omega
  have hA3 : ((mkT (45 :: 45 :: t)).size : Int) ≤ 17179869184 := by omega
  have hsl : ∀ W, (Instr.slice 9 (.string (mkT (45 :: 45 :: t))) (some (.int .i64 2)) none none).run Try.prog W = .ok (.string (mkT t)) W := fun W => by
    rw [run_slice_string_l (P := Try.prog) W 9 (mkT (45 :: 45 :: t)) Try.underlying9 .i64 2 (by omega) (by omega)]
    have e : (mkT (45 :: 45 :: t)).extract (2 : Int).toNat (mkT (45 :: 45 :: t)).size = mkT t := mkT_inj (by rw [ext_tailP, mkT_list, mkT_list]; rfl)
    rw [e]
  have hts : (mkT t).size = t.length := mkT_size t
  have HP := Lib.hid hp
  have HRR := Lib.hid hr
  obtain ⟨c, r, hcr, hc45, hc61⟩ := hm
  obtain ⟨p0, g0⟩ := mkT_get hcr
  have z1 : (((mkT t).size : Int) == 0) = false := by simp only [beq_eq_false_iff_ne]; omega
  have c0 : (((mkT t)[0].toNat : Int) == 45) = false := nat_beq_false (b := 45) (by rw [g0]; intro e; exact hc45 (UInt8.toNat_inj.1 e))
  have c1 : (((mkT t)[0].toNat : Int) == 61) = false := nat_beq_false (b := 61) (by rw [g0]; intro e; exact hc61 (UInt8.toNat_inj.1 e))
  have hnl : (mkT (nameOf t)).size ≤ 17179869184 := by rw [mkT_size]; have := nameOf_le t; omega
  have HNR := Lib.hid (fun (W : World) (hb : Below w.heap.size w W) => norm_any C.F C.S.fold (mkT (nameOf t)) hnl W (hp.below hb).norm_at)
  simp only [mkT_list] at HNR
  have HLK := Lib.hid (fun (W : World) (hb : Below w.heap.size w W) => by
    obtain ⟨n1, hm1⟩ := (hp.below hb).fm
    have hl := hm1.look Try.kN Try.underlying128 (Try.zP W) (key_txt (mkT (foldT C.S.fold (nameOf t))) (by rw [mkT_size]; simp [foldT]; have := hnl; rw [mkT_size] at this; omega))
    rw [mkT_list, nmF_all (hp.len), hnm] at hl
    exact hl)
  simp only [Option.map_none, Option.map_some, lookR] at HLK
  have HCUT := Lib.hid (cut_yes (mkT t) (by rw [mkT_size]; omega) (by rw [mkT_list]; exact hq) w)
  simp only [mkT_list] at HCUT
  have hv : ((mkT (nameOf t)).toList == [104, 101, 108, 112]) = false := by rw [ByteArray.toList_eq, mkT_list]; simpa [helpT] using hh
  have HEE := Lib.hid he
  clear hp hr hrs hsz hG hR hts ht has hbb hq hcr hc45 hc61 g0 hnl hnm
  generalize mkT (45 :: 45 :: t) = ARG at hsl hA2 hA3 ⊢
  generalize mkT t = TX at hsl p0 z1 c0 c1 HCUT
  generalize mkT (foldT C.S.fold (nameOf t)) = NN at HNR HLK
  generalize mkT (nameOf t) = NMV at HNR HCUT hv
  go_enter Try.func77, Try.ntmps77
  go_upto_region 7 with (go_at_call 97; refine (HCUT.out).mono ?_; rintro e w1 ⟨g, cg, rfl, k0, k1, hb1⟩; have HB1 := Lib.hid hb1; have f8 : w1.cell? ⟨C.F, 8, none⟩ = some (.map V.fmo) := (cell_blk (HP.out.below hb1).hF 8).trans rfl; have HK0 := Lib.hid k0; have HK1 := Lib.hid k1; have HBD := Lib.hid hb1.drew; clear hb1)
  go_region_held3 (fun w' => w'.cell? ⟨C.F, 8, none⟩ = some (.map V.fmo)) (first | assumption | go_keep)
    (first
      | (go_at_call 95; refine (HNR.out _ HBD.out).mono ?_; rintro e w2 ⟨rfl, hb2⟩; have HB2 := Lib.hid (below_step HBD.out hb2); have f8' : w2.cell? ⟨C.F, 8, none⟩ = some (.map V.fmo) := (cell_blk (HP.out.below HB2.out).hF 8).trans rfl; have f1 : w2.cell? ⟨C.F, 1, none⟩ = some (.bool C.S.unknown) := (cell_blk (HP.out.below HB2.out).hF 1).trans rfl; have f2 : w2.cell? ⟨C.F, 2, none⟩ = some (.bool false) := (cell_blk (HP.out.below HB2.out).hF 2).trans rfl; have hlk := HLK.out w2 HB2.out; have q0 := cell_kept hb2 (show w1.drew.cell? _ = _ from HK0.out); have q1 := cell_kept hb2 (show w1.drew.cell? _ = _ from HK1.out); have HP2 := Lib.hid (HP.out.below HB2.out); have HR2 := Lib.hid (HRR.out.below HB2.out); clear hb2))
  rw [hu] at f1
  go_wp2
  go_ret2
  exact ⟨_, V, vr, rfl, HP2.out, (by have h := HEE.out; show ErrAt C _ _ st.err; rw [h]; rfl), Fr.of_below HB2.out, HR2.out⟩

set_option maxRecDepth 100000 in
set_option maxHeartbeats 3200000 in
theorem long_help_nA (C : PC) (hR : Right C.S) (V : PV) (parsed : Bool) (st : St) (t : Txt) (rest : List Txt) (vr : Value) (w : World) (hp : Pm w C V (psOf (some []) parsed st)) (hsz : ∀ i (h : i < C.S.flags.length), (C.S.flags[i].name).length ≤ 17179869184) (hG : st.given.length ≤ 1099511627776) (he : st.err = .no) (hr : RestAt C w vr rest) (ht : t.length ≤ 8589934592) (hrs : ∀ a ∈ rest, a.length ≤ 17179869184) (wb nb : Nat) (hbb : HandAt C w wb nb)
    (hm : ∃ c r, t = c :: r ∧ c ≠ 45 ∧ c ≠ 61) (hq : hasEq t = false) (hnm : named C.S t = none) (hh : t = helpT) :
    Calls Try.prog 77 #[.pointer (some ⟨C.F, 0, none⟩), .string (mkT (45 :: 45 :: t)), vr, (.func (.func 63) #[] #[.pointer (some ⟨wb, 0, none⟩), .pointer (some ⟨nb, 0, none⟩)])] w (StepEnd (some []) C parsed ({ st with err := .help }, rest) w) := by
  have has : (mkT (45 :: 45 :: t)).size = t.length + 2 := by rw [mkT_size]; simp
  have hA2 : (2 : Int) ≤ ((mkT (45 :: 45 :: t)).size : Int) := by omega
  have hA3 : ((mkT (45 :: 45 :: t)).size : Int) ≤ 17179869184 := by omega
  have hsl : ∀ W, (Instr.slice 9 (.string (mkT (45 :: 45 :: t))) (some (.int .i64 2)) none none).run Try.prog W = .ok (.string (mkT t)) W := fun W => by
    rw [run_slice_string_l (P := Try.prog) W 9 (mkT (45 :: 45 :: t)) Try.underlying9 .i64 2 (by omega) (by omega)]
    have e : (mkT (45 :: 45 :: t)).extract (2 : Int).toNat (mkT (45 :: 45 :: t)).size = mkT t := mkT_inj (by rw [ext_tailP, mkT_list, mkT_list]; rfl)
    rw [e]
  have hts : (mkT t).size = t.length := mkT_size t
  have HP := Lib.hid hp
  have HRR := Lib.hid hr
  obtain ⟨c, r, hcr, hc45, hc61⟩ := hm
  obtain ⟨p0, g0⟩ := mkT_get hcr
  have z1 : (((mkT t).size : Int) == 0) = false := by simp only [beq_eq_false_iff_ne]; omega
  have c0 : (((mkT t)[0].toNat : Int) == 45) = false := nat_beq_false (b := 45) (by rw [g0]; intro e; exact hc45 (UInt8.toNat_inj.1 e))
  have c1 : (((mkT t)[0].toNat : Int) == 61) = false := nat_beq_false (b := 61) (by rw [g0]; intro e; exact hc61 (UInt8.toNat_inj.1 e))
  have hnl : (mkT t).size ≤ 17179869184 := by rw [mkT_size]; omega
  have HNR := Lib.hid (fun (W : World) (hb : Below w.heap.size w W) => norm_any C.F C.S.fold (mkT t) hnl W (hp.below hb).norm_at)
  simp only [mkT_list] at HNR
  have HLK := Lib.hid (fun (W : World) (hb : Below w.heap.size w W) => by
    obtain ⟨n1, hm1⟩ := (hp.below hb).fm
    have hl := hm1.look Try.kN Try.underlying128 (Try.zP W) (key_txt (mkT (foldT C.S.fold t)) (by rw [mkT_size]; simp [foldT]; have := hnl; rw [mkT_size] at this; omega))
    rw [mkT_list, nmF_all (hp.len), hnm] at hl
    exact hl)
  simp only [Option.map_none, Option.map_some, lookR] at HLK
  have HCUT := Lib.hid (cut_no (mkT t) (by rw [mkT_size]; omega) (by rw [mkT_list]; exact hq) w)
  have hv : ((mkT t).toList == [104, 101, 108, 112]) = true := by rw [ByteArray.toList_eq, mkT_list, hh]; rfl
  clear hp hr hrs hsz hG hR hts ht has hbb hq hcr hc45 hc61 g0 hnl hnm
  generalize mkT (45 :: 45 :: t) = ARG at hsl hA2 hA3 ⊢
  generalize mkT (foldT C.S.fold t) = NN at HNR HLK
  generalize mkT t = NMV at hsl p0 z1 c0 c1 HCUT HNR hv
  go_enter Try.func77, Try.ntmps77
  go_upto_region 7 with (go_at_call 97; refine (HCUT.out).mono ?_; rintro e w1 ⟨g, cg, rfl, k0, hb1⟩; have HB1 := Lib.hid hb1; have f8 : w1.cell? ⟨C.F, 8, none⟩ = some (.map V.fmo) := (cell_blk (HP.out.below hb1).hF 8).trans rfl; have HK0 := Lib.hid k0; have HBD := Lib.hid hb1.drew; clear hb1)
  go_region_held3 (fun w' => w'.cell? ⟨C.F, 8, none⟩ = some (.map V.fmo)) (first | assumption | go_keep)
    (first
      | (go_at_call 95; refine (HNR.out _ HBD.out).mono ?_; rintro e w2 ⟨rfl, hb2⟩; have HB2 := Lib.hid (below_step HBD.out hb2); have f8' : w2.cell? ⟨C.F, 8, none⟩ = some (.map V.fmo) := (cell_blk (HP.out.below HB2.out).hF 8).trans rfl; have f1 : w2.cell? ⟨C.F, 1, none⟩ = some (.bool C.S.unknown) := (cell_blk (HP.out.below HB2.out).hF 1).trans rfl; have f2 : w2.cell? ⟨C.F, 2, none⟩ = some (.bool false) := (cell_blk (HP.out.below HB2.out).hF 2).trans rfl; have hlk := HLK.out w2 HB2.out; have q0 := cell_kept hb2 (show w1.drew.cell? _ = _ from HK0.out); have HP2 := Lib.hid (HP.out.below HB2.out); have HR2 := Lib.hid (HRR.out.below HB2.out); clear hb2))
  go_wp2
  go_ret2
  exact ⟨_, V, vr, rfl, HP2.out, rfl, Fr.of_below HB2.out, HR2.out⟩

set_option maxRecDepth 100000 in
set_option maxHeartbeats 3200000 in
theorem long_not_nA (C : PC) (hR : Right C.S) (V : PV) (parsed : Bool) (st : St) (t : Txt) (rest : List Txt) (vr : Value) (w : World) (hp : Pm w C V (psOf (some []) parsed st)) (hsz : ∀ i (h : i < C.S.flags.length), (C.S.flags[i].name).length ≤ 17179869184) (hG : st.given.length ≤ 1099511627776) (he : st.err = .no) (hr : RestAt C w vr rest) (ht : t.length ≤ 8589934592) (hrs : ∀ a ∈ rest, a.length ≤ 17179869184) (wb nb : Nat) (hbb : HandAt C w wb nb)
    (hm : ∃ c r, t = c :: r ∧ c ≠ 45 ∧ c ≠ 61) (hq : hasEq t = false) (hnm : named C.S t = none) (hh : ¬ t = helpT) (hu : C.S.unknown = false) :
    Calls Try.prog 77 #[.pointer (some ⟨C.F, 0, none⟩), .string (mkT (45 :: 45 :: t)), vr, (.func (.func 63) #[] #[.pointer (some ⟨wb, 0, none⟩), .pointer (some ⟨nb, 0, none⟩)])] w (StepEnd (some []) C parsed ({ st with err := .notExist t [] }, rest) w) := by
  have has : (mkT (45 :: 45 :: t)).size = t.length + 2 := by rw [mkT_size]; simp
  have hA2 : (2 : Int) ≤ ((mkT (45 :: 45 :: t)).size : Int) := by omega
  have hA3 : ((mkT (45 :: 45 :: t)).size : Int) ≤ 17179869184 := by omega
  have hsl : ∀ W, (Instr.slice 9 (.string (mkT (45 :: 45 :: t))) (some (.int .i64 2)) none none).run Try.prog W = .ok (.string (mkT t)) W := fun W => by
    rw [run_slice_string_l (P := Try.prog) W 9 (mkT (45 :: 45 :: t)) Try.underlying9 .i64 2 (by omega) (by omega)]
    have e : (mkT (45 :: 45 :: t)).extract (2 : Int).toNat (mkT (45 :: 45 :: t)).size = mkT t := mkT_inj (by rw [ext_tailP, mkT_list, mkT_list]; rfl)
    rw [e]
  have hts : (mkT t).size = t.length := mkT_size t
  have HP := Lib.hid hp
  have HRR := Lib.hid hr
  obtain ⟨c, r, hcr, hc45, hc61⟩ := hm
  obtain ⟨p0, g0⟩ := mkT_get hcr
  have z1 : (((mkT t).size : Int) == 0) = false := by simp only [beq_eq_false_iff_ne]; omega
  have c0 : (((mkT t)[0].toNat : Int) == 45) = false := nat_beq_false (b := 45) (by rw [g0]; intro e; exact hc45 (UInt8.toNat_inj.1 e))
  have c1 : (((mkT t)[0].toNat : Int) == 61) = false := nat_beq_false (b := 61) (by rw [g0]; intro e; exact hc61 (UInt8.toNat_inj.1 e))
  have hnl : (mkT t).size ≤ 17179869184 := by rw [mkT_size]; omega
  have HNR := Lib.hid (fun (W : World) (hb : Below w.heap.size w W) => norm_any C.F C.S.fold (mkT t) hnl W (hp.below hb).norm_at)
  simp only [mkT_list] at HNR
  have HLK := Lib.hid (fun (W : World) (hb : Below w.heap.size w W) => by
    obtain ⟨n1, hm1⟩ := (hp.below hb).fm
    have hl := hm1.look Try.kN Try.underlying128 (Try.zP W) (key_txt (mkT (foldT C.S.fold t)) (by rw [mkT_size]; simp [foldT]; have := hnl; rw [mkT_size] at this; omega))
    rw [mkT_list, nmF_all (hp.len), hnm] at hl
    exact hl)
  simp only [Option.map_none, Option.map_some, lookR] at HLK
  have HCUT := Lib.hid (cut_no (mkT t) (by rw [mkT_size]; omega) (by rw [mkT_list]; exact hq) w)
  have hv : ((mkT t).toList == [104, 101, 108, 112]) = false := by rw [ByteArray.toList_eq, mkT_list]; simpa [helpT] using hh
  clear hp hr hrs hsz hG hR hts ht has hbb hq hcr hc45 hc61 g0 hnl hnm
  generalize mkT (45 :: 45 :: t) = ARG at hsl hA2 hA3 ⊢
  generalize mkT (foldT C.S.fold t) = NN at HNR HLK
  generalize hNMV : mkT t = NMV at hsl p0 z1 c0 c1 HCUT HNR hv
  go_enter Try.func77, Try.ntmps77
  go_upto_region 7 with (go_at_call 97; refine (HCUT.out).mono ?_; rintro e w1 ⟨g, cg, rfl, k0, hb1⟩; have HB1 := Lib.hid hb1; have f8 : w1.cell? ⟨C.F, 8, none⟩ = some (.map V.fmo) := (cell_blk (HP.out.below hb1).hF 8).trans rfl; have HK0 := Lib.hid k0; have HBD := Lib.hid hb1.drew; clear hb1)
  go_region_held3 (fun w' => w'.cell? ⟨C.F, 8, none⟩ = some (.map V.fmo)) (first | assumption | go_keep)
    (first
      | (go_at_call 95; refine (HNR.out _ HBD.out).mono ?_; rintro e w2 ⟨rfl, hb2⟩; have HB2 := Lib.hid (below_step HBD.out hb2); have f8' : w2.cell? ⟨C.F, 8, none⟩ = some (.map V.fmo) := (cell_blk (HP.out.below HB2.out).hF 8).trans rfl; have f1 : w2.cell? ⟨C.F, 1, none⟩ = some (.bool C.S.unknown) := (cell_blk (HP.out.below HB2.out).hF 1).trans rfl; have f2 : w2.cell? ⟨C.F, 2, none⟩ = some (.bool false) := (cell_blk (HP.out.below HB2.out).hF 2).trans rfl; have hlk := HLK.out w2 HB2.out; have q0 := cell_kept hb2 (show w1.drew.cell? _ = _ from HK0.out); have HP2 := Lib.hid (HP.out.below HB2.out); have HR2 := Lib.hid (HRR.out.below HB2.out); clear hb2))
  rw [hu] at f1
  go_wp2
  go_ret2
  exact ⟨_, V, vr, rfl, HP2.out.below ((Below.refl _ _).alloc (Nat.le_refl _) _), ⟨_, _, rfl, by rw [hNMV]; exact heap_alloc_new _ _⟩, (Fr.of_below HB2.out).trans (Fr.of_below ((Below.refl _ _).alloc (Nat.le_refl _) _)), HR2.out.below ((Below.refl _ _).alloc (Nat.le_refl _) _)⟩

set_option maxRecDepth 100000 in
set_option maxHeartbeats 3200000 in
theorem long_let_nA (C : PC) (hR : Right C.S) (V : PV) (parsed : Bool) (st : St) (t : Txt) (rest : List Txt) (vr : Value) (w : World) (hp : Pm w C V (psOf (some []) parsed st)) (hsz : ∀ i (h : i < C.S.flags.length), (C.S.flags[i].name).length ≤ 17179869184) (hG : st.given.length ≤ 1099511627776) (he : st.err = .no) (hr : RestAt C w vr rest) (ht : t.length ≤ 8589934592) (hrs : ∀ a ∈ rest, a.length ≤ 17179869184) (wb nb : Nat) (hbb : HandAt C w wb nb)
    (hm : ∃ c r, t = c :: r ∧ c ≠ 45 ∧ c ≠ 61) (hq : hasEq t = false) (hnm : named C.S t = none) (hh : ¬ t = helpT) (hu : C.S.unknown = true) :
    Calls Try.prog 77 #[.pointer (some ⟨C.F, 0, none⟩), .string (mkT (45 :: 45 :: t)), vr, (.func (.func 63) #[] #[.pointer (some ⟨wb, 0, none⟩), .pointer (some ⟨nb, 0, none⟩)])] w (StepEnd (some []) C parsed (st, strip rest) w) := by
  have has : (mkT (45 :: 45 :: t)).size = t.length + 2 := by rw [mkT_size]; simp
  have hA2 : (2 : Int) ≤ ((mkT (45 :: 45 :: t)).size : Int) := by omega
  have hA3 : ((mkT (45 :: 45 :: t)).size : Int) ≤ 17179869184 := by omega
  have hsl : ∀ W, (Instr.slice 9 (.string (mkT (45 :: 45 :: t))) (some (.int .i64 2)) none none).run Try.prog W = .ok (.string (mkT t)) W := fun W => by
    rw [run_slice_string_l (P := Try.prog) W 9 (mkT (45 :: 45 :: t)) Try.underlying9 .i64 2 (by omega) (by omega)]
    have e : (mkT (45 :: 45 :: t)).extract (2 : Int).toNat (mkT (45 :: 45 :: t)).size = mkT t := mkT_inj (by rw [ext_tailP, mkT_list, mkT_list]; rfl)
    rw [e]
  have hts : (mkT t).size = t.length := mkT_size t
  have HP := Lib.hid hp
  have HRR := Lib.hid hr
  obtain ⟨c, r, hcr, hc45, hc61⟩ := hm
  obtain ⟨p0, g0⟩ := mkT_get hcr
  have z1 : (((mkT t).size : Int) == 0) = false := by simp only [beq_eq_false_iff_ne]; omega
  have c0 : (((mkT t)[0].toNat : Int) == 45) = false := nat_beq_false (b := 45) (by rw [g0]; intro e; exact hc45 (UInt8.toNat_inj.1 e))
  have c1 : (((mkT t)[0].toNat : Int) == 61) = false := nat_beq_false (b := 61) (by rw [g0]; intro e; exact hc61 (UInt8.toNat_inj.1 e))
  have hnl : (mkT t).size ≤ 17179869184 := by rw [mkT_size]; omega
  have HNR := Lib.hid (fun (W : World) (hb : Below w.heap.size w W) => norm_any C.F C.S.fold (mkT t) hnl W (hp.below hb).norm_at)
  simp only [mkT_list] at HNR
  have HLK := Lib.hid (fun (W : World) (hb : Below w.heap.size w W) => by
    obtain ⟨n1, hm1⟩ := (hp.below hb).fm
    have hl := hm1.look Try.kN Try.underlying128 (Try.zP W) (key_txt (mkT (foldT C.S.fold t)) (by rw [mkT_size]; simp [foldT]; have := hnl; rw [mkT_size] at this; omega))
    rw [mkT_list, nmF_all (hp.len), hnm] at hl
    exact hl)
  simp only [Option.map_none, Option.map_some, lookR] at HLK
  have HCUT := Lib.hid (cut_no (mkT t) (by rw [mkT_size]; omega) (by rw [mkT_list]; exact hq) w)
  have hv : ((mkT t).toList == [104, 101, 108, 112]) = false := by rw [ByteArray.toList_eq, mkT_list]; simpa [helpT] using hh
  have HEE := Lib.hid he
  have HST := Lib.hid (fun (W : World) (hr : RestAt C W vr rest) => stripR_any C vr rest W hr hrs)
  clear hp hr hrs hsz hG hR hts ht has hbb hq hcr hc45 hc61 g0 hnl hnm
  generalize mkT (45 :: 45 :: t) = ARG at hsl hA2 hA3 ⊢
  generalize mkT (foldT C.S.fold t) = NN at HNR HLK
  generalize mkT t = NMV at hsl p0 z1 c0 c1 HCUT HNR hv
  go_enter Try.func77, Try.ntmps77
  go_upto_region 7 with (go_at_call 97; refine (HCUT.out).mono ?_; rintro e w1 ⟨g, cg, rfl, k0, hb1⟩; have HB1 := Lib.hid hb1; have f8 : w1.cell? ⟨C.F, 8, none⟩ = some (.map V.fmo) := (cell_blk (HP.out.below hb1).hF 8).trans rfl; have HK0 := Lib.hid k0; have HBD := Lib.hid hb1.drew; clear hb1)
  go_region_held3 (fun w' => w'.cell? ⟨C.F, 8, none⟩ = some (.map V.fmo)) (first | assumption | go_keep)
    (first
      | (go_at_call 95; refine (HNR.out _ HBD.out).mono ?_; rintro e w2 ⟨rfl, hb2⟩; have HB2 := Lib.hid (below_step HBD.out hb2); have f8' : w2.cell? ⟨C.F, 8, none⟩ = some (.map V.fmo) := (cell_blk (HP.out.below HB2.out).hF 8).trans rfl; have f1 : w2.cell? ⟨C.F, 1, none⟩ = some (.bool C.S.unknown) := (cell_blk (HP.out.below HB2.out).hF 1).trans rfl; have f2 : w2.cell? ⟨C.F, 2, none⟩ = some (.bool false) := (cell_blk (HP.out.below HB2.out).hF 2).trans rfl; have hlk := HLK.out w2 HB2.out; have q0 := cell_kept hb2 (show w1.drew.cell? _ = _ from HK0.out); have HP2 := Lib.hid (HP.out.below HB2.out); have HR2 := Lib.hid (HRR.out.below HB2.out); clear hb2))
  rw [hu] at f1
  go_wp2_with (go_at_call 98; refine (HST.out w2 HR2.out).mono ?_; rintro e w3 ⟨⟨v3, rfl, hr3⟩, rfl⟩; have HR3 := Lib.hid hr3; clear hr3)
  go_ret2
  exact ⟨_, V, v3, rfl, HP2.out, (by have h := HEE.out; show ErrAt C _ _ st.err; rw [h]; rfl), Fr.of_below HB2.out, HR3.out⟩

set_option maxRecDepth 100000 in
set_option maxHeartbeats 3200000 in
theorem long_valA (C : PC) (hR : Right C.S) (V : PV) (parsed : Bool) (st : St) (t : Txt) (rest : List Txt) (vr : Value) (w : World) (hp : Pm w C V (psOf (some []) parsed st)) (hsz : ∀ i (h : i < C.S.flags.length), (C.S.flags[i].name).length ≤ 17179869184) (hG : st.given.length ≤ 1099511627776) (he : st.err = .no) (hr : RestAt C w vr rest) (ht : t.length ≤ 8589934592) (hrs : ∀ a ∈ rest, a.length ≤ 17179869184) (wb nb : Nat) (hbb : HandAt C w wb nb)
    (i : Nat) (hm : ∃ c r, t = c :: r ∧ c ≠ 45 ∧ c ≠ 61) (hq : hasEq t = true) (hnm : named C.S (nameOf t) = some i) (hi : i < C.S.flags.length) :
    Calls Try.prog 77 #[.pointer (some ⟨C.F, 0, none⟩), .string (mkT (45 :: 45 :: t)), vr, (.func (.func 63) #[] #[.pointer (some ⟨wb, 0, none⟩), .pointer (some ⟨nb, 0, none⟩)])] w (StepEnd (some []) C parsed (give C.S (some []) st i (valueOf t), rest) w) := by
  have has : (mkT (45 :: 45 :: t)).size = t.length + 2 := by rw [mkT_size]; simp
  have hA2 : (2 : Int) ≤ ((mkT (45 :: 45 :: t)).size : Int) := by omega
  have hA3 : ((mkT (45 :: 45 :: t)).size : Int) ≤ 17179869184 := by omega
  have hsl : ∀ W, (Instr.slice 9 (.string (mkT (45 :: 45 :: t))) (some (.int .i64 2)) none none).run Try.prog W = .ok (.string (mkT t)) W := fun W => by
    rw [run_slice_string_l (P := Try.prog) W 9 (mkT (45 :: 45 :: t)) Try.underlying9 .i64 2 (by omega) (by omega)]
    have e : (mkT (45 :: 45 :: t)).extract (2 : Int).toNat (mkT (45 :: 45 :: t)).size = mkT t := mkT_inj (by rw [ext_tailP, mkT_list, mkT_list]; rfl)
    rw [e]
  have hts : (mkT t).size = t.length := mkT_size t
  have HP := Lib.hid hp
  have HRR := Lib.hid hr
  obtain ⟨c, r, hcr, hc45, hc61⟩ := hm
  obtain ⟨p0, g0⟩ := mkT_get hcr
  have z1 : (((mkT t).size : Int) == 0) = false := by simp only [beq_eq_false_iff_ne]; omega
  have c0 : (((mkT t)[0].toNat : Int) == 45) = false := nat_beq_false (b := 45) (by rw [g0]; intro e; exact hc45 (UInt8.toNat_inj.1 e))
  have c1 : (((mkT t)[0].toNat : Int) == 61) = false := nat_beq_false (b := 61) (by rw [g0]; intro e; exact hc61 (UInt8.toNat_inj.1 e))
  have hnl : (mkT (nameOf t)).size ≤ 17179869184 := by rw [mkT_size]; have := nameOf_le t; omega
  have HNR := Lib.hid (fun (W : World) (hb : Below w.heap.size w W) => norm_any C.F C.S.fold (mkT (nameOf t)) hnl W (hp.below hb).norm_at)
  simp only [mkT_list] at HNR
  have HLK := Lib.hid (fun (W : World) (hb : Below w.heap.size w W) => by
    obtain ⟨n1, hm1⟩ := (hp.below hb).fm
    have hl := hm1.look Try.kN Try.underlying128 (Try.zP W) (key_txt (mkT (foldT C.S.fold (nameOf t))) (by rw [mkT_size]; simp [foldT]; have := hnl; rw [mkT_size] at this; omega))
    rw [mkT_list, nmF_all (hp.len), hnm] at hl
    exact hl)
  simp only [Option.map_none, Option.map_some, lookR] at HLK
  have HCUT := Lib.hid (cut_yes (mkT t) (by rw [mkT_size]; omega) (by rw [mkT_list]; exact hq) w)
  simp only [mkT_list] at HCUT
  have HFN := Lib.hid (fun (W : World) (hb : Below w.heap.size w W) => (fun (W : World) (hb : Below w.heap.size w W) (i : Nat) (hi : i < C.S.flags.length) (v : Txt) => handed_any C V parsed st i v wb nb W (hp.below hb) hi hG he (hbb.below hb)) W hb i hi (valueOf t))
  clear hp hr hrs hsz hG hR hts ht has hbb hq hcr hc45 hc61 g0 hnl hnm
  generalize mkT (45 :: 45 :: t) = ARG at hsl hA2 hA3 ⊢
  generalize mkT t = TX at hsl p0 z1 c0 c1 HCUT
  generalize mkT (foldT C.S.fold (nameOf t)) = NN at HNR HLK
  generalize mkT (nameOf t) = NMV at HNR HCUT
  generalize mkT (valueOf t) = VL at HCUT HFN
  generalize C.FL.getD i 0 = p at HLK HFN
  generalize give C.S (some []) st i (valueOf t) = st' at HFN ⊢
  clear hi
  go_enter Try.func77, Try.ntmps77
  go_upto_region 7 with (go_at_call 97; refine (HCUT.out).mono ?_; rintro e w1 ⟨g, cg, rfl, k0, k1, hb1⟩; have HB1 := Lib.hid hb1; have f8 : w1.cell? ⟨C.F, 8, none⟩ = some (.map V.fmo) := (cell_blk (HP.out.below hb1).hF 8).trans rfl; have HK0 := Lib.hid k0; have HK1 := Lib.hid k1; have HBD := Lib.hid hb1.drew; clear hb1)
  go_region_held3 (fun w' => w'.cell? ⟨C.F, 8, none⟩ = some (.map V.fmo)) (first | assumption | go_keep)
    (first
      | (go_at_call 95; refine (HNR.out _ HBD.out).mono ?_; rintro e w2 ⟨rfl, hb2⟩; have HB2 := Lib.hid (below_step HBD.out hb2); have f8' : w2.cell? ⟨C.F, 8, none⟩ = some (.map V.fmo) := (cell_blk (HP.out.below HB2.out).hF 8).trans rfl; have f1 : w2.cell? ⟨C.F, 1, none⟩ = some (.bool C.S.unknown) := (cell_blk (HP.out.below HB2.out).hF 1).trans rfl; have f2 : w2.cell? ⟨C.F, 2, none⟩ = some (.bool false) := (cell_blk (HP.out.below HB2.out).hF 2).trans rfl; have hlk := HLK.out w2 HB2.out; have q0 := cell_kept hb2 (show w1.drew.cell? _ = _ from HK0.out); have q1 := cell_kept hb2 (show w1.drew.cell? _ = _ from HK1.out); have HP2 := Lib.hid (HP.out.below HB2.out); have HR2 := Lib.hid (HRR.out.below HB2.out); clear hb2))
  go_wp2_with (go_at_call 63; refine (HFN.out w2 HB2.out).mono ?_; rintro e w3 ⟨E, V3, rfl, h3, he3, hf3⟩)
  go_ret2
  exact ⟨E, V3, vr, rfl, h3, he3, (Fr.of_below HB2.out).trans hf3, HR2.out.fr hf3⟩

set_option maxRecDepth 100000 in
set_option maxHeartbeats 3200000 in
theorem long_optA (C : PC) (hR : Right C.S) (V : PV) (parsed : Bool) (st : St) (t : Txt) (rest : List Txt) (vr : Value) (w : World) (hp : Pm w C V (psOf (some []) parsed st)) (hsz : ∀ i (h : i < C.S.flags.length), (C.S.flags[i].name).length ≤ 17179869184) (hG : st.given.length ≤ 1099511627776) (he : st.err = .no) (hr : RestAt C w vr rest) (ht : t.length ≤ 8589934592) (hrs : ∀ a ∈ rest, a.length ≤ 17179869184) (wb nb : Nat) (hbb : HandAt C w wb nb)
    (i : Nat) (hm : ∃ c r, t = c :: r ∧ c ≠ 45 ∧ c ≠ 61) (hq : hasEq t = false) (hnm : named C.S t = some i) (hi : i < C.S.flags.length) (ho : C.S.flags[i].noOpt ≠ []) :
    Calls Try.prog 77 #[.pointer (some ⟨C.F, 0, none⟩), .string (mkT (45 :: 45 :: t)), vr, (.func (.func 63) #[] #[.pointer (some ⟨wb, 0, none⟩), .pointer (some ⟨nb, 0, none⟩)])] w (StepEnd (some []) C parsed (give C.S (some []) st i C.S.flags[i].noOpt, rest) w) := by
  have has : (mkT (45 :: 45 :: t)).size = t.length + 2 := by rw [mkT_size]; simp
  have hA2 : (2 : Int) ≤ ((mkT (45 :: 45 :: t)).size : Int) := by omega
  have hA3 : ((mkT (45 :: 45 :: t)).size : Int) ≤ 17179869184 := by omega
  have hsl : ∀ W, (Instr.slice 9 (.string (mkT (45 :: 45 :: t))) (some (.int .i64 2)) none none).run Try.prog W = .ok (.string (mkT t)) W := fun W => by
    rw [run_slice_string_l (P := Try.prog) W 9 (mkT (45 :: 45 :: t)) Try.underlying9 .i64 2 (by omega) (by omega)]
    have e : (mkT (45 :: 45 :: t)).extract (2 : Int).toNat (mkT (45 :: 45 :: t)).size = mkT t := mkT_inj (by rw [ext_tailP, mkT_list, mkT_list]; rfl)
    rw [e]
  have hts : (mkT t).size = t.length := mkT_size t
  have HP := Lib.hid hp
  have HRR := Lib.hid hr
  obtain ⟨c, r, hcr, hc45, hc61⟩ := hm
  obtain ⟨p0, g0⟩ := mkT_get hcr
  have z1 : (((mkT t).size : Int) == 0) = false := by simp only [beq_eq_false_iff_ne]; omega
  have c0 : (((mkT t)[0].toNat : Int) == 45) = false := nat_beq_false (b := 45) (by rw [g0]; intro e; exact hc45 (UInt8.toNat_inj.1 e))
  have c1 : (((mkT t)[0].toNat : Int) == 61) = false := nat_beq_false (b := 61) (by rw [g0]; intro e; exact hc61 (UInt8.toNat_inj.1 e))
  have hnl : (mkT t).size ≤ 17179869184 := by rw [mkT_size]; omega
  have HNR := Lib.hid (fun (W : World) (hb : Below w.heap.size w W) => norm_any C.F C.S.fold (mkT t) hnl W (hp.below hb).norm_at)
  simp only [mkT_list] at HNR
  have HLK := Lib.hid (fun (W : World) (hb : Below w.heap.size w W) => by
    obtain ⟨n1, hm1⟩ := (hp.below hb).fm
    have hl := hm1.look Try.kN Try.underlying128 (Try.zP W) (key_txt (mkT (foldT C.S.fold t)) (by rw [mkT_size]; simp [foldT]; have := hnl; rw [mkT_size] at this; omega))
    rw [mkT_list, nmF_all (hp.len), hnm] at hl
    exact hl)
  simp only [Option.map_none, Option.map_some, lookR] at HLK
  have HCUT := Lib.hid (cut_no (mkT t) (by rw [mkT_size]; omega) (by rw [mkT_list]; exact hq) w)
  have HFN := Lib.hid (fun (W : World) (hb : Below w.heap.size w W) => (fun (W : World) (hb : Below w.heap.size w W) (i : Nat) (hi : i < C.S.flags.length) (v : Txt) => handed_any C V parsed st i v wb nb W (hp.below hb) hi hG he (hbb.below hb)) W hb i hi C.S.flags[i].noOpt)
  have HFL := Lib.hid (fun (W : World) (hb : Below w.heap.size w W) => ((cell_blk ((hp.below hb).flag i hi) 6).trans rfl : W.cell? ⟨C.FL.getD i 0, 6, none⟩ = some (.string (mkT C.S.flags[i].noOpt))))
  have po : 0 < (mkT C.S.flags[i].noOpt).size := by rw [mkT_size]; exact List.length_pos_iff.2 ho
  have po1 := nonempty_list po
  have po2 := nonempty_not po
  clear hp hr hrs hsz hG hR hts ht has hbb hq hcr hc45 hc61 g0 hnl hnm
  generalize mkT (45 :: 45 :: t) = ARG at hsl hA2 hA3 ⊢
  generalize mkT (foldT C.S.fold t) = NN at HNR HLK
  generalize mkT t = NMV at hsl p0 z1 c0 c1 HCUT HNR
  generalize give C.S (some []) st i C.S.flags[i].noOpt = st' at HFN ⊢
  generalize mkT C.S.flags[i].noOpt = NO at HFN HFL po po1 po2
  generalize C.FL.getD i 0 = p at HLK HFN HFL
  clear hi ho
  go_enter Try.func77, Try.ntmps77
  go_upto_region 7 with (go_at_call 97; refine (HCUT.out).mono ?_; rintro e w1 ⟨g, cg, rfl, k0, hb1⟩; have HB1 := Lib.hid hb1; have f8 : w1.cell? ⟨C.F, 8, none⟩ = some (.map V.fmo) := (cell_blk (HP.out.below hb1).hF 8).trans rfl; have HK0 := Lib.hid k0; have HBD := Lib.hid hb1.drew; clear hb1)
  go_region_held3 (fun w' => w'.cell? ⟨C.F, 8, none⟩ = some (.map V.fmo)) (first | assumption | go_keep)
    (first
      | (go_at_call 95; refine (HNR.out _ HBD.out).mono ?_; rintro e w2 ⟨rfl, hb2⟩; have HB2 := Lib.hid (below_step HBD.out hb2); have f8' : w2.cell? ⟨C.F, 8, none⟩ = some (.map V.fmo) := (cell_blk (HP.out.below HB2.out).hF 8).trans rfl; have f1 : w2.cell? ⟨C.F, 1, none⟩ = some (.bool C.S.unknown) := (cell_blk (HP.out.below HB2.out).hF 1).trans rfl; have f2 : w2.cell? ⟨C.F, 2, none⟩ = some (.bool false) := (cell_blk (HP.out.below HB2.out).hF 2).trans rfl; have hlk := HLK.out w2 HB2.out; have q0 := cell_kept hb2 (show w1.drew.cell? _ = _ from HK0.out); have HP2 := Lib.hid (HP.out.below HB2.out); have HR2 := Lib.hid (HRR.out.below HB2.out); clear hb2))
  have l6 := HFL.out w2 HB2.out
  go_wp2_with (go_at_call 63; refine (HFN.out w2 HB2.out).mono ?_; rintro e w3 ⟨E, V3, rfl, h3, he3, hf3⟩)
  go_ret2
  exact ⟨E, V3, vr, rfl, h3, he3, (Fr.of_below HB2.out).trans hf3, HR2.out.fr hf3⟩

set_option maxRecDepth 100000 in
set_option maxHeartbeats 3200000 in
theorem long_needA (C : PC) (hR : Right C.S) (V : PV) (parsed : Bool) (st : St) (t : Txt) (rest : List Txt) (vr : Value) (w : World) (hp : Pm w C V (psOf (some []) parsed st)) (hsz : ∀ i (h : i < C.S.flags.length), (C.S.flags[i].name).length ≤ 17179869184) (hG : st.given.length ≤ 1099511627776) (he : st.err = .no) (hr : RestAt C w vr rest) (ht : t.length ≤ 8589934592) (hrs : ∀ a ∈ rest, a.length ≤ 17179869184) (wb nb : Nat) (hbb : HandAt C w wb nb)
    (i : Nat) (hm : ∃ c r, t = c :: r ∧ c ≠ 45 ∧ c ≠ 61) (hq : hasEq t = false) (hnm : named C.S t = some i) (hi : i < C.S.flags.length) (ho : C.S.flags[i].noOpt = []) (hr0 : rest = []) :
    Calls Try.prog 77 #[.pointer (some ⟨C.F, 0, none⟩), .string (mkT (45 :: 45 :: t)), vr, (.func (.func 63) #[] #[.pointer (some ⟨wb, 0, none⟩), .pointer (some ⟨nb, 0, none⟩)])] w (StepEnd (some []) C parsed ({ st with err := .need i t [] }, []) w) := by
  have has : (mkT (45 :: 45 :: t)).size = t.length + 2 := by rw [mkT_size]; simp
  have hA2 : (2 : Int) ≤ ((mkT (45 :: 45 :: t)).size : Int) := by omega
  have hA3 : ((mkT (45 :: 45 :: t)).size : Int) ≤ 17179869184 := by omega
  have hsl : ∀ W, (Instr.slice 9 (.string (mkT (45 :: 45 :: t))) (some (.int .i64 2)) none none).run Try.prog W = .ok (.string (mkT t)) W := fun W => by
    rw [run_slice_string_l (P := Try.prog) W 9 (mkT (45 :: 45 :: t)) Try.underlying9 .i64 2 (by omega) (by omega)]
    have e : (mkT (45 :: 45 :: t)).extract (2 : Int).toNat (mkT (45 :: 45 :: t)).size = mkT t := mkT_inj (by rw [ext_tailP, mkT_list, mkT_list]; rfl)
    rw [e]
  have hts : (mkT t).size = t.length := mkT_size t
  have HP := Lib.hid hp
  have HRR := Lib.hid hr
  obtain ⟨c, r, hcr, hc45, hc61⟩ := hm
  obtain ⟨p0, g0⟩ := mkT_get hcr
  have z1 : (((mkT t).size : Int) == 0) = false := by simp only [beq_eq_false_iff_ne]; omega
  have c0 : (((mkT t)[0].toNat : Int) == 45) = false := nat_beq_false (b := 45) (by rw [g0]; intro e; exact hc45 (UInt8.toNat_inj.1 e))
  have c1 : (((mkT t)[0].toNat : Int) == 61) = false := nat_beq_false (b := 61) (by rw [g0]; intro e; exact hc61 (UInt8.toNat_inj.1 e))
  have hnl : (mkT t).size ≤ 17179869184 := by rw [mkT_size]; omega
  have HNR := Lib.hid (fun (W : World) (hb : Below w.heap.size w W) => norm_any C.F C.S.fold (mkT t) hnl W (hp.below hb).norm_at)
  simp only [mkT_list] at HNR
  have HLK := Lib.hid (fun (W : World) (hb : Below w.heap.size w W) => by
    obtain ⟨n1, hm1⟩ := (hp.below hb).fm
    have hl := hm1.look Try.kN Try.underlying128 (Try.zP W) (key_txt (mkT (foldT C.S.fold t)) (by rw [mkT_size]; simp [foldT]; have := hnl; rw [mkT_size] at this; omega))
    rw [mkT_list, nmF_all (hp.len), hnm] at hl
    exact hl)
  simp only [Option.map_none, Option.map_some, lookR] at HLK
  have HCUT := Lib.hid (cut_no (mkT t) (by rw [mkT_size]; omega) (by rw [mkT_list]; exact hq) w)
  have HFL := Lib.hid (fun (W : World) (hb : Below w.heap.size w W) => ((cell_blk ((hp.below hb).flag i hi) 6).trans rfl : W.cell? ⟨C.FL.getD i 0, 6, none⟩ = some (.string (mkT C.S.flags[i].noOpt))))
  have po : (mkT C.S.flags[i].noOpt).size = 0 := by rw [mkT_size, ho]; rfl
  have po1 := empty_list po
  have po2 := empty_not po
  subst hr0
  obtain ⟨Ar, cr, rfl, hr1⟩ := hr
  have HPI : Hid (∃ p, p = C.FL.getD i 0) := ⟨_, rfl⟩
  clear hp hr1 hrs hsz hG hR hts ht has hbb hq hcr hc45 hc61 g0 hnl hnm
  generalize mkT (45 :: 45 :: t) = ARG at hsl hA2 hA3 ⊢
  generalize mkT (foldT C.S.fold t) = NN at HNR HLK
  generalize hNMV : mkT t = NMV at hsl p0 z1 c0 c1 HCUT HNR
  generalize mkT C.S.flags[i].noOpt = NO at HFL po po1 po2
  obtain ⟨p, hpe⟩ := HPI.out
  rw [← hpe] at HLK HFL
  have HPE := Lib.hid hpe
  clear hi ho hpe HPI
  go_enter Try.func77, Try.ntmps77
  go_upto_region 7 with (go_at_call 97; refine (HCUT.out).mono ?_; rintro e w1 ⟨g, cg, rfl, k0, hb1⟩; have HB1 := Lib.hid hb1; have f8 : w1.cell? ⟨C.F, 8, none⟩ = some (.map V.fmo) := (cell_blk (HP.out.below hb1).hF 8).trans rfl; have HK0 := Lib.hid k0; have HBD := Lib.hid hb1.drew; clear hb1)
  go_region_held3 (fun w' => w'.cell? ⟨C.F, 8, none⟩ = some (.map V.fmo)) (first | assumption | go_keep)
    (first
      | (go_at_call 95; refine (HNR.out _ HBD.out).mono ?_; rintro e w2 ⟨rfl, hb2⟩; have HB2 := Lib.hid (below_step HBD.out hb2); have f8' : w2.cell? ⟨C.F, 8, none⟩ = some (.map V.fmo) := (cell_blk (HP.out.below HB2.out).hF 8).trans rfl; have f1 : w2.cell? ⟨C.F, 1, none⟩ = some (.bool C.S.unknown) := (cell_blk (HP.out.below HB2.out).hF 1).trans rfl; have f2 : w2.cell? ⟨C.F, 2, none⟩ = some (.bool false) := (cell_blk (HP.out.below HB2.out).hF 2).trans rfl; have hlk := HLK.out w2 HB2.out; have q0 := cell_kept hb2 (show w1.drew.cell? _ = _ from HK0.out); have HP2 := Lib.hid (HP.out.below HB2.out); have HR2 := Lib.hid (HRR.out.below HB2.out); clear hb2))
  have l6 := HFL.out w2 HB2.out
  go_wp2
  go_ret2
  exact ⟨_, V, _, rfl, HP2.out.below ((Below.refl _ _).alloc (Nat.le_refl _) _), ⟨_, rfl, by rw [hNMV, ← HPE.out]; exact heap_alloc_new _ _⟩, (Fr.of_below HB2.out).trans (Fr.of_below ((Below.refl _ _).alloc (Nat.le_refl _) _)), HR2.out.below ((Below.refl _ _).alloc (Nat.le_refl _) _)⟩

set_option maxRecDepth 100000 in
set_option maxHeartbeats 3200000 in
theorem long_nextA (C : PC) (hR : Right C.S) (V : PV) (parsed : Bool) (st : St) (t : Txt) (rest : List Txt) (vr : Value) (w : World) (hp : Pm w C V (psOf (some []) parsed st)) (hsz : ∀ i (h : i < C.S.flags.length), (C.S.flags[i].name).length ≤ 17179869184) (hG : st.given.length ≤ 1099511627776) (he : st.err = .no) (hr : RestAt C w vr rest) (ht : t.length ≤ 8589934592) (hrs : ∀ a ∈ rest, a.length ≤ 17179869184) (wb nb : Nat) (hbb : HandAt C w wb nb)
    (i : Nat) (hm : ∃ c r, t = c :: r ∧ c ≠ 45 ∧ c ≠ 61) (hq : hasEq t = false) (hnm : named C.S t = some i) (hi : i < C.S.flags.length) (ho : C.S.flags[i].noOpt = []) (a : Txt) (rs : List Txt) (hr0 : rest = a :: rs) :
    Calls Try.prog 77 #[.pointer (some ⟨C.F, 0, none⟩), .string (mkT (45 :: 45 :: t)), vr, (.func (.func 63) #[] #[.pointer (some ⟨wb, 0, none⟩), .pointer (some ⟨nb, 0, none⟩)])] w (StepEnd (some []) C parsed (give C.S (some []) st i a, rs) w) := by
  have has : (mkT (45 :: 45 :: t)).size = t.length + 2 := by rw [mkT_size]; simp
  have hA2 : (2 : Int) ≤ ((mkT (45 :: 45 :: t)).size : Int) := by omega
  have hA3 : ((mkT (45 :: 45 :: t)).size : Int) ≤ 17179869184 := by omega
  have hsl : ∀ W, (Instr.slice 9 (.string (mkT (45 :: 45 :: t))) (some (.int .i64 2)) none none).run Try.prog W = .ok (.string (mkT t)) W := fun W => by
    rw [run_slice_string_l (P := Try.prog) W 9 (mkT (45 :: 45 :: t)) Try.underlying9 .i64 2 (by omega) (by omega)]
    have e : (mkT (45 :: 45 :: t)).extract (2 : Int).toNat (mkT (45 :: 45 :: t)).size = mkT t := mkT_inj (by rw [ext_tailP, mkT_list, mkT_list]; rfl)
    rw [e]
  have hts : (mkT t).size = t.length := mkT_size t
  have HP := Lib.hid hp
  have HRR := Lib.hid hr
  obtain ⟨c, r, hcr, hc45, hc61⟩ := hm
  obtain ⟨p0, g0⟩ := mkT_get hcr
  have z1 : (((mkT t).size : Int) == 0) = false := by simp only [beq_eq_false_iff_ne]; omega
  have c0 : (((mkT t)[0].toNat : Int) == 45) = false := nat_beq_false (b := 45) (by rw [g0]; intro e; exact hc45 (UInt8.toNat_inj.1 e))
  have c1 : (((mkT t)[0].toNat : Int) == 61) = false := nat_beq_false (b := 61) (by rw [g0]; intro e; exact hc61 (UInt8.toNat_inj.1 e))
  have hnl : (mkT t).size ≤ 17179869184 := by rw [mkT_size]; omega
  have HNR := Lib.hid (fun (W : World) (hb : Below w.heap.size w W) => norm_any C.F C.S.fold (mkT t) hnl W (hp.below hb).norm_at)
  simp only [mkT_list] at HNR
  have HLK := Lib.hid (fun (W : World) (hb : Below w.heap.size w W) => by
    obtain ⟨n1, hm1⟩ := (hp.below hb).fm
    have hl := hm1.look Try.kN Try.underlying128 (Try.zP W) (key_txt (mkT (foldT C.S.fold t)) (by rw [mkT_size]; simp [foldT]; have := hnl; rw [mkT_size] at this; omega))
    rw [mkT_list, nmF_all (hp.len), hnm] at hl
    exact hl)
  simp only [Option.map_none, Option.map_some, lookR] at HLK
  have HCUT := Lib.hid (cut_no (mkT t) (by rw [mkT_size]; omega) (by rw [mkT_list]; exact hq) w)
  have HFN := Lib.hid (fun (W : World) (hb : Below w.heap.size w W) => (fun (W : World) (hb : Below w.heap.size w W) (i : Nat) (hi : i < C.S.flags.length) (v : Txt) => handed_any C V parsed st i v wb nb W (hp.below hb) hi hG he (hbb.below hb)) W hb i hi a)
  have HFL := Lib.hid (fun (W : World) (hb : Below w.heap.size w W) => ((cell_blk ((hp.below hb).flag i hi) 6).trans rfl : W.cell? ⟨C.FL.getD i 0, 6, none⟩ = some (.string (mkT C.S.flags[i].noOpt))))
  have po : (mkT C.S.flags[i].noOpt).size = 0 := by rw [mkT_size, ho]; rfl
  have po1 := empty_list po
  have po2 := empty_not po
  subst hr0
  obtain ⟨br, ro, cr, rfl, hrc, hrl, hrm, _⟩ := hr.head
  have hrp : 0 < rs.length + 1 := by omega
  have i1 : (1 : Int) ≤ (rs.length : Int) + 1 := by omega
  have i2 : ((rs.length : Int) + 1) ≤ (cr : Int) := by omega
  have HRC := Lib.hid hrc
  clear hp hr hrc hrs hsz hG hR hts ht has hbb hq hcr hc45 hc61 g0 hnl hnm
  generalize mkT (45 :: 45 :: t) = ARG at hsl hA2 hA3 ⊢
  generalize mkT (foldT C.S.fold t) = NN at HNR HLK
  generalize mkT t = NMV at hsl p0 z1 c0 c1 HCUT HNR
  generalize give C.S (some []) st i a = st' at HFN ⊢
  generalize mkT a = AA at HFN HRC
  generalize mkT C.S.flags[i].noOpt = NO at HFL po po1 po2
  generalize C.FL.getD i 0 = p at HLK HFN HFL
  clear hi ho
  go_enter Try.func77, Try.ntmps77
  go_upto_region 7 with (go_at_call 97; refine (HCUT.out).mono ?_; rintro e w1 ⟨g, cg, rfl, k0, hb1⟩; have HB1 := Lib.hid hb1; have f8 : w1.cell? ⟨C.F, 8, none⟩ = some (.map V.fmo) := (cell_blk (HP.out.below hb1).hF 8).trans rfl; have HK0 := Lib.hid k0; have HBD := Lib.hid hb1.drew; clear hb1)
  go_region_held3 (fun w' => w'.cell? ⟨C.F, 8, none⟩ = some (.map V.fmo)) (first | assumption | go_keep)
    (first
      | (go_at_call 95; refine (HNR.out _ HBD.out).mono ?_; rintro e w2 ⟨rfl, hb2⟩; have HB2 := Lib.hid (below_step HBD.out hb2); have f8' : w2.cell? ⟨C.F, 8, none⟩ = some (.map V.fmo) := (cell_blk (HP.out.below HB2.out).hF 8).trans rfl; have f1 : w2.cell? ⟨C.F, 1, none⟩ = some (.bool C.S.unknown) := (cell_blk (HP.out.below HB2.out).hF 1).trans rfl; have f2 : w2.cell? ⟨C.F, 2, none⟩ = some (.bool false) := (cell_blk (HP.out.below HB2.out).hF 2).trans rfl; have hlk := HLK.out w2 HB2.out; have q0 := cell_kept hb2 (show w1.drew.cell? _ = _ from HK0.out); have HP2 := Lib.hid (HP.out.below HB2.out); have HR2 := Lib.hid (HRR.out.below HB2.out); clear hb2))
  have l6 := HFL.out w2 HB2.out
  have lr := cell_kept HB2.out HRC.out
  go_wp2_with (go_at_call 63; refine (HFN.out w2 HB2.out).mono ?_; rintro e w3 ⟨E, V3, rfl, h3, he3, hf3⟩)
  · go_ret2
    exact ⟨E, V3, _, rfl, h3, he3, (Fr.of_below HB2.out).trans hf3, (HR2.out.tail1 (by assumption)).fr hf3⟩
  · go_ret2
    exact ⟨E, V3, _, rfl, h3, he3, (Fr.of_below HB2.out).trans hf3, HR2.out.tail.fr hf3⟩

theorem long_anyA (C : PC) (hR : Right C.S) (V : PV) (parsed : Bool) (st : St) (t : Txt) (rest : List Txt) (vr : Value) (w : World) (hp : Pm w C V (psOf (some []) parsed st)) (hsz : ∀ i (h : i < C.S.flags.length), (C.S.flags[i].name).length ≤ 17179869184) (hG : st.given.length ≤ 1099511627776) (he : st.err = .no) (hr : RestAt C w vr rest) (ht : t.length ≤ 8589934592) (hrs : ∀ a ∈ rest, a.length ≤ 17179869184) (wb nb : Nat) (hbb : HandAt C w wb nb) :
    Calls Try.prog 77 #[.pointer (some ⟨C.F, 0, none⟩), .string (mkT (45 :: 45 :: t)), vr, (.func (.func 63) #[] #[.pointer (some ⟨wb, 0, none⟩), .pointer (some ⟨nb, 0, none⟩)])] w (StepEnd (some []) C parsed (longP C.S (some []) st (45 :: 45 :: t) rest) w) := by
  have hd : (45 :: 45 :: t).drop 2 = t := rfl
  unfold longP
  simp only [hd]
  by_cases h1 : t = [] ∨ t.head? = some 45 ∨ t.head? = some 61
  · rw [if_pos h1]
    exact long_synA C hR V parsed st t rest vr w hp hsz hG he hr ht hrs wb nb hbb h1
  · rw [if_neg h1]
    have hm : ∃ c r, t = c :: r ∧ c ≠ 45 ∧ c ≠ 61 := by
      cases t with
      | nil => exact absurd (Or.inl rfl) h1
      | cons c r => exact ⟨c, r, rfl, fun e => h1 (Or.inr (Or.inl (by rw [e]; rfl))), fun e => h1 (Or.inr (Or.inr (by rw [e]; rfl)))⟩
    cases hn : named C.S (nameOf t) with
    | none =>
      simp only
      by_cases hh : nameOf t = helpT
      · rw [if_pos hh]
        by_cases hq : hasEq t = true
        · exact long_help_yA C hR V parsed st t rest vr w hp hsz hG he hr ht hrs wb nb hbb hm hq hn hh
        · have hq : hasEq t = false := by simpa using hq
          have e := nameOf_all hq
          rw [e] at hh hn
          exact long_help_nA C hR V parsed st t rest vr w hp hsz hG he hr ht hrs wb nb hbb hm hq hn hh
      · rw [if_neg hh]
        by_cases hu : C.S.unknown = true
        · rw [if_pos hu]
          by_cases hq : hasEq t = true
          · rw [if_pos hq]; exact long_let_yA C hR V parsed st t rest vr w hp hsz hG he hr ht hrs wb nb hbb hm hq hn hh hu
          · rw [if_neg hq]
            have hq : hasEq t = false := by simpa using hq
            have e := nameOf_all hq
            rw [e] at hh hn
            exact long_let_nA C hR V parsed st t rest vr w hp hsz hG he hr ht hrs wb nb hbb hm hq hn hh hu
        · rw [if_neg hu]
          have hu : C.S.unknown = false := by simpa using hu
          by_cases hq : hasEq t = true
          · exact long_not_yA C hR V parsed st t rest vr w hp hsz hG he hr ht hrs wb nb hbb hm hq hn hh hu
          · have hq : hasEq t = false := by simpa using hq
            have e := nameOf_all hq
            rw [e] at hh hn ⊢
            exact long_not_nA C hR V parsed st t rest vr w hp hsz hG he hr ht hrs wb nb hbb hm hq hn hh hu
    | some i =>
      simp only
      have hi : i < C.S.flags.length := findIdx_lt hn
      by_cases hq : hasEq t = true
      · rw [if_pos hq]; exact long_valA C hR V parsed st t rest vr w hp hsz hG he hr ht hrs wb nb hbb i hm hq hn hi
      · rw [if_neg hq]
        have hq : hasEq t = false := by simpa using hq
        have e := nameOf_all hq
        have no : noOptOf C.S i = C.S.flags[i].noOpt := by simp [noOptOf, hi]
        rw [e] at hn ⊢
        rw [no]
        by_cases ho : C.S.flags[i].noOpt = []
        · rw [if_neg (fun h => h ho)]
          cases hr0 : rest with
          | nil => subst hr0; exact long_needA C hR V parsed st t [] vr w hp hsz hG he hr ht hrs wb nb hbb i hm hq hn hi ho rfl
          | cons a rs => subst hr0; exact long_nextA C hR V parsed st t (a :: rs) vr w hp hsz hG he hr ht hrs wb nb hbb i hm hq hn hi ho a rs rfl
        · rw [if_pos ho]
          exact long_optA C hR V parsed st t rest vr w hp hsz hG he hr ht hrs wb nb hbb i hm hq hn hi ho
end Go.Proofs.Ytgmhhdpggnmipaa.E
