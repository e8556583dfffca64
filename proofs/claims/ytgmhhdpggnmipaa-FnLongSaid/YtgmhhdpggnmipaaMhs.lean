/- One long argument, where values are handed to whole.sets. Written by gen_hs.py. -/
import Derived.Test.YtgmhhdpggnmipaaFs11
import Derived.Test.YtgmhhdpggnmipaaOw
import Derived.Defers
import Derived.Recover
import Derived.Tactics2
import Derived.Laws.Pointers
namespace Go.Proofs.Ytgmhhdpggnmipaa.E
open Go.RowKit Go.Proofs
open Go.Maps (Keyed)
set_option linter.unusedVariables false
set_option linter.unusedSimpArgs false

set_option maxRecDepth 100000 in
set_option maxHeartbeats 3200000 in
theorem long_synL (C : PC) (hR : Right C.S) (V : PV) (parsed : Bool) (st : St) (t : Txt) (rest : List Txt) (vr : Value) (w : World) (hp : Pm w C V (psOf none parsed st)) (hsz : ∀ i (h : i < C.S.flags.length), (C.S.flags[i].name).length ≤ 17179869184) (hG : st.given.length ≤ 1099511627776) (he : st.err = .no) (hr : RestAt C w vr rest) (ht : t.length ≤ 8589934592) (hrs : ∀ a ∈ rest, a.length ≤ 17179869184) 
    (hs : t = [] ∨ t.head? = some 45 ∨ t.head? = some 61) :
    Calls Try.prog 77 #[.pointer (some ⟨C.F, 0, none⟩), .string (mkT (45 :: 45 :: t)), vr, (.func (.func 50) #[.pointer (some ⟨C.Wb, 0, none⟩)] #[])] w (StepEnd none C parsed ({ st with err := .syn (45 :: 45 :: t) }, rest) w) := by
  have has : (mkT (45 :: 45 :: t)).size = t.length + 2 := by rw [mkT_size]; simp
  have hA2 : (2 : Int) ≤ ((mkT (45 :: 45 :: t)).size : Int) := by omega
  have hA3 : ((mkT (45 :: 45 :: t)).size : Int) ≤ 17179869184 := by omega
  have hsl : ∀ W, (Instr.slice 9 (.string (mkT (45 :: 45 :: t))) (some (.int .i64 2)) none none).run Try.prog W = .ok (.string (mkT t)) W := fun W => by
    rw [run_slice_string_l (P := Try.prog) W 9 (mkT (45 :: 45 :: t)) Try.underlying9 .i64 2 (by omega) (by omega)]
    have e : (mkT (45 :: 45 :: t)).extract (2 : Int).toNat (mkT (45 :: 45 :: t)).size = mkT t := mkT_inj (by rw [ext_tailP, mkT_list, mkT_list]; rfl)
    rw [e]
  have hts : (mkT t).size = t.length := mkT_size t
  have HP := Lib.hid hp
  have HRR := Lib.hid hr
  unfold StepEnd ErrAt
  rcases hs with rfl | h | h
  · have z0 : (mkT ([] : Txt)).size = 0 := by rw [mkT_size]; rfl
    clear hp hr hrs hsz hG he hR hts ht has 
    generalize hARG : mkT (45 :: 45 :: ([] : Txt)) = ARG at hsl hA2 hA3 ⊢
    have HARG := Lib.hid hARG
    clear hARG
    generalize mkT ([] : Txt) = TX at hsl z0
    go_enter Try.func77, Try.ntmps77
    go_wp2
    go_ret2
    exact ⟨_, V, vr, rfl, HP.out.below ((Below.refl _ _).alloc (Nat.le_refl _) _), ⟨_, rfl, by rw [HARG.out]; exact heap_alloc_new _ _⟩, Fr.of_below ((Below.refl _ _).alloc (Nat.le_refl _) _), HRR.out.below ((Below.refl _ _).alloc (Nat.le_refl _) _)⟩
  · obtain ⟨c, r, rfl⟩ : ∃ c r, t = c :: r := by cases t with
      | nil => simp at h
      | cons c r => exact ⟨c, r, rfl⟩
    obtain ⟨p0, g0⟩ := mkT_get (l := c :: r) rfl
    have z1 : (((mkT (c :: r)).size : Int) == 0) = false := by simp only [beq_eq_false_iff_ne]; omega
    have c0 : (((mkT (c :: r))[0].toNat : Int) == 45) = true := by rw [g0]; simp only [List.head?_cons, Option.some.injEq] at h; rw [h]; rfl
    clear g0 h
    clear hp hr hrs hsz hG he hR hts ht has 
    generalize hARG : mkT (45 :: 45 :: (c :: r)) = ARG at hsl hA2 hA3 ⊢
    have HARG := Lib.hid hARG
    clear hARG
    generalize mkT (c :: r) = TX at hsl p0 z1 c0
    go_enter Try.func77, Try.ntmps77
    go_wp2
    go_ret2
    exact ⟨_, V, vr, rfl, HP.out.below ((Below.refl _ _).alloc (Nat.le_refl _) _), ⟨_, rfl, by rw [HARG.out]; exact heap_alloc_new _ _⟩, Fr.of_below ((Below.refl _ _).alloc (Nat.le_refl _) _), HRR.out.below ((Below.refl _ _).alloc (Nat.le_refl _) _)⟩
  · obtain ⟨c, r, rfl⟩ : ∃ c r, t = c :: r := by cases t with
      | nil => simp at h
      | cons c r => exact ⟨c, r, rfl⟩
    obtain ⟨p0, g0⟩ := mkT_get (l := c :: r) rfl
    have z1 : (((mkT (c :: r)).size : Int) == 0) = false := by simp only [beq_eq_false_iff_ne]; omega
    have c0 : (((mkT (c :: r))[0].toNat : Int) == 45) = false := by rw [g0]; simp only [List.head?_cons, Option.some.injEq] at h; rw [h]; rfl
    have c1 : (((mkT (c :: r))[0].toNat : Int) == 61) = true := by rw [g0]; simp only [List.head?_cons, Option.some.injEq] at h; rw [h]; rfl
    clear g0 h
    clear hp hr hrs hsz hG he hR hts ht has 
    generalize hARG : mkT (45 :: 45 :: (c :: r)) = ARG at hsl hA2 hA3 ⊢
    have HARG := Lib.hid hARG
    clear hARG
    generalize mkT (c :: r) = TX at hsl p0 z1 c0 c1
    go_enter Try.func77, Try.ntmps77
    go_wp2
    go_ret2
    exact ⟨_, V, vr, rfl, HP.out.below ((Below.refl _ _).alloc (Nat.le_refl _) _), ⟨_, rfl, by rw [HARG.out]; exact heap_alloc_new _ _⟩, Fr.of_below ((Below.refl _ _).alloc (Nat.le_refl _) _), HRR.out.below ((Below.refl _ _).alloc (Nat.le_refl _) _)⟩

set_option maxRecDepth 100000 in
set_option maxHeartbeats 3200000 in
theorem long_help_yL (C : PC) (hR : Right C.S) (V : PV) (parsed : Bool) (st : St) (t : Txt) (rest : List Txt) (vr : Value) (w : World) (hp : Pm w C V (psOf none parsed st)) (hsz : ∀ i (h : i < C.S.flags.length), (C.S.flags[i].name).length ≤ 17179869184) (hG : st.given.length ≤ 1099511627776) (he : st.err = .no) (hr : RestAt C w vr rest) (ht : t.length ≤ 8589934592) (hrs : ∀ a ∈ rest, a.length ≤ 17179869184) 
    (hm : ∃ c r, t = c :: r ∧ c ≠ 45 ∧ c ≠ 61) (hq : hasEq t = true) (hnm : named C.S (nameOf t) = none) (hh : (nameOf t) = helpT) :
    Calls Try.prog 77 #[.pointer (some ⟨C.F, 0, none⟩), .string (mkT (45 :: 45 :: t)), vr, (.func (.func 50) #[.pointer (some ⟨C.Wb, 0, none⟩)] #[])] w (StepEnd none C parsed ({ st with err := .help }, rest) w) := by
  have has : (mkT (45 :: 45 :: t)).size = t.length + 2 := by rw [mkT_size]; simp
  have hA2 : (2 : Int) ≤ ((mkT (45 :: 45 :: t)).size : Int) := by omega
  have hA3 : ((mkT (45 :: 45 :: t)).size : Int) ≤ 17179869184 := by omega
  have hsl : ∀ W, (Instr.slice 9 (.string (mkT (45 :: 45 :: t))) (some (.int .i64 2)) none none).run Try.prog W = .ok (.string (mkT t)) W := fun W => by
    rw [run_slice_string_l (P := Try.prog) W 9 (mkT (45 :: 45 :: t)) Try.underlying9 .i64 2 (by omega) (by omega)]
    have e : (mkT (45 :: 45 :: t)).extract (2 : Int).toNat (mkT (45 :: 45 :: t)).size = mkT t := mkT_inj (by rw [ext_tailP, mkT_list, mkT_list]; rfl)
    rw [e]
  have hts : (mkT t).size = t.length := mkT_size t
  have HP := Lib.hid hp
  have HRR := Lib.hid hr
  obtain ⟨c, r, hcr, hc45, hc61⟩ := hm
  obtain ⟨p0, g0⟩ := mkT_get hcr
  have z1 : (((mkT t).size : Int) == 0) = false := by simp only [beq_eq_false_iff_ne]; omega
  have c0 : (((mkT t)[0].toNat : Int) == 45) = false := nat_beq_false (b := 45) (by rw [g0]; intro e; exact hc45 (UInt8.toNat_inj.1 e))
  have c1 : (((mkT t)[0].toNat : Int) == 61) = false := nat_beq_false (b := 61) (by rw [g0]; intro e; exact hc61 (UInt8.toNat_inj.1 e))
  have hnl : (mkT (nameOf t)).size ≤ 17179869184 := by rw [mkT_size]; have := nameOf_le t; omega
  have HNR := Lib.hid (fun (W : World) (hb : Below w.heap.size w W) => norm_any C.F C.S.fold (mkT (nameOf t)) hnl W (hp.below hb).norm_at)
  simp only [mkT_list] at HNR
  have HLK := Lib.hid (fun (W : World) (hb : Below w.heap.size w W) => by
    obtain ⟨n1, hm1⟩ := (hp.below hb).fm
    have hl := hm1.look Try.kN Try.underlying128 (Try.zP W) (key_txt (mkT (foldT C.S.fold (nameOf t))) (by rw [mkT_size]; simp [foldT]; have := hnl; rw [mkT_size] at this; omega))
    rw [mkT_list, nmF_all (hp.len), hnm] at hl
    exact hl)
  simp only [Option.map_none, Option.map_some, lookR] at HLK
  have HCUT := Lib.hid (cut_yes (mkT t) (by rw [mkT_size]; omega) (by rw [mkT_list]; exact hq) w)
  simp only [mkT_list] at HCUT
  have hv : ((mkT (nameOf t)).toList == [104, 101, 108, 112]) = true := by rw [ByteArray.toList_eq, mkT_list, hh]; rfl
  clear hp hr hrs hsz hG hR hts ht has  hq hcr hc45 hc61 g0 hnl hnm
  generalize mkT (45 :: 45 :: t) = ARG at hsl hA2 hA3 ⊢
  generalize mkT t = TX at hsl p0 z1 c0 c1 HCUT
  generalize mkT (foldT C.S.fold (nameOf t)) = NN at HNR HLK
  generalize mkT (nameOf t) = NMV at HNR HCUT hv
  go_enter Try.func77, Try.ntmps77
  go_upto_region 7 with (go_at_call 97; refine (HCUT.out).mono ?_; rintro e w1 ⟨g, cg, rfl, k0, k1, hb1⟩; have HB1 := Lib.hid hb1; have f8 : w1.cell? ⟨C.F, 8, none⟩ = some (.map V.fmo) := (cell_blk (HP.out.below hb1).hF 8).trans rfl; have HK0 := Lib.hid k0; have HK1 := Lib.hid k1; have HBD := Lib.hid hb1.drew; clear hb1)
  go_region_held3 (fun w' => w'.cell? ⟨C.F, 8, none⟩ = some (.map V.fmo)) (first | assumption | go_keep)
    (first
      | (go_at_call 95; refine (HNR.out _ HBD.out).mono ?_; rintro e w2 ⟨rfl, hb2⟩; have HB2 := Lib.hid (below_step HBD.out hb2); have f8' : w2.cell? ⟨C.F, 8, none⟩ = some (.map V.fmo) := (cell_blk (HP.out.below HB2.out).hF 8).trans rfl; have f1 : w2.cell? ⟨C.F, 1, none⟩ = some (.bool C.S.unknown) := (cell_blk (HP.out.below HB2.out).hF 1).trans rfl; have f2 : w2.cell? ⟨C.F, 2, none⟩ = some (.bool false) := (cell_blk (HP.out.below HB2.out).hF 2).trans rfl; have hlk := HLK.out w2 HB2.out; have q0 := cell_kept hb2 (show w1.drew.cell? _ = _ from HK0.out); have q1 := cell_kept hb2 (show w1.drew.cell? _ = _ from HK1.out); have HP2 := Lib.hid (HP.out.below HB2.out); have HR2 := Lib.hid (HRR.out.below HB2.out); clear hb2))
  go_wp2
  go_ret2
  exact ⟨_, V, vr, rfl, HP2.out, rfl, Fr.of_below HB2.out, HR2.out⟩

set_option maxRecDepth 100000 in
set_option maxHeartbeats 3200000 in
theorem long_not_yL (C : PC) (hR : Right C.S) (V : PV) (parsed : Bool) (st : St) (t : Txt) (rest : List Txt) (vr : Value) (w : World) (hp : Pm w C V (psOf none parsed st)) (hsz : ∀ i (h : i < C.S.flags.length), (C.S.flags[i].name).length ≤ 17179869184) (hG : st.given.length ≤ 1099511627776) (he : st.err = .no) (hr : RestAt C w vr rest) (ht : t.length ≤ 8589934592) (hrs : ∀ a ∈ rest, a.length ≤ 17179869184) 
    (hm : ∃ c r, t = c :: r ∧ c ≠ 45 ∧ c ≠ 61) (hq : hasEq t = true) (hnm : named C.S (nameOf t) = none) (hh : ¬ (nameOf t) = helpT) (hu : C.S.unknown = false) :
    Calls Try.prog 77 #[.pointer (some ⟨C.F, 0, none⟩), .string (mkT (45 :: 45 :: t)), vr, (.func (.func 50) #[.pointer (some ⟨C.Wb, 0, none⟩)] #[])] w (StepEnd none C parsed ({ st with err := .notExist (nameOf t) [] }, rest) w) := by
  have has : (mkT (45 :: 45 :: t)).size = t.length + 2 := by rw [mkT_size]; simp
  have hA2 : (2 : Int) ≤ ((mkT (45 :: 45 :: t)).size : Int) := by omega
  have hA3 : ((mkT (45 :: 45 :: t)).size : Int) ≤ 17179869184 := by omega
  have hsl : ∀ W, (Instr.slice 9 (.string (mkT (45 :: 45 :: t))) (some (.int .i64 2)) none none).run Try.prog W = .ok (.string (mkT t)) W := fun W => by
    rw [run_slice_string_l (P := Try.prog) W 9 (mkT (45 :: 45 :: t)) Try.underlying9 .i64 2 (by omega) (by omega)]
    have e : (mkT (45 :: 45 :: t)).extract (2 : Int).toNat (mkT (45 :: 45 :: t)).size = mkT t := mkT_inj (by rw [ext_tailP, mkT_list, mkT_list]; rfl)
    rw [e]
  have hts : (mkT t).size = t.length := mkT_size t
  have HP := Lib.hid hp
  have HRR := Lib.hid hr
  obtain ⟨c, r, hcr, hc45, hc61⟩ := hm
  obtain ⟨p0, g0⟩ := mkT_get hcr
  have z1 : (((mkT t).size : Int) == 0) = false := by simp only [beq_eq_false_iff_ne]; omega
  have c0 : (((mkT t)[0].toNat : Int) == 45) = false := nat_beq_false (b := 45) (by rw [g0]; intro e; exact hc45 (UInt8.toNat_inj.1 e))
  have c1 : (((mkT t)[0].toNat : Int) == 61) = false := nat_beq_false (b := 61) (by rw [g0]; intro e; exact hc61 (UInt8.toNat_inj.1 e))
  have hnl : (mkT (nameOf t)).size ≤ 17179869184 := by rw [mkT_size]; have := nameOf_le t; omega
  have HNR := Lib.hid (fun (W : World) (hb : Below w.heap.size w W) => norm_any C.F C.S.fold (mkT (nameOf t)) hnl W (hp.below hb).norm_at)
  simp only [mkT_list] at HNR
  have HLK := Lib.hid (fun (W : World) (hb : Below w.heap.size w W) => by
    obtain ⟨n1, hm1⟩ := (hp.below hb).fm
    have hl := hm1.look Try.kN Try.underlying128 (Try.zP W) (key_txt (mkT (foldT C.S.fold (nameOf t))) (by rw [mkT_size]; simp [foldT]; have := hnl; rw [mkT_size] at this; omega))
    rw [mkT_list, nmF_all (hp.len), hnm] at hl
    exact hl)
  simp only [Option.map_none, Option.map_some, lookR] at HLK
  have HCUT := Lib.hid (cut_yes (mkT t) (by rw [mkT_size]; omega) (by rw [mkT_list]; exact hq) w)
  simp only [mkT_list] at HCUT
  have hv : ((mkT (nameOf t)).toList == [104, 101, 108, 112]) = false := by rw [ByteArray.toList_eq, mkT_list]; simpa [helpT] using hh
  clear hp hr hrs hsz hG hR hts ht has  hq hcr hc45 hc61 g0 hnl hnm
  generalize mkT (45 :: 45 :: t) = ARG at hsl hA2 hA3 ⊢
  generalize mkT t = TX at hsl p0 z1 c0 c1 HCUT
  generalize mkT (foldT C.S.fold (nameOf t)) = NN at HNR HLK
  generalize hNMV : mkT (nameOf t) = NMV at HNR HCUT hv
  go_enter Try.func77, Try.ntmps77
  go_upto_region 7 with (go_at_call 97; refine (HCUT.out).mono ?_; rintro e w1 ⟨g, cg, rfl, k0, k1, hb1⟩; have HB1 := Lib.hid hb1; have f8 : w1.cell? ⟨C.F, 8, none⟩ = some (.map V.fmo) := (cell_blk (HP.out.below hb1).hF 8).trans rfl; have HK0 := Lib.hid k0; have HK1 := Lib.hid k1; have HBD := Lib.hid hb1.drew; clear hb1)
  go_region_held3 (fun w' => w'.cell? ⟨C.F, 8, none⟩ = some (.map V.fmo)) (first | assumption | go_keep)
    (first
      | (go_at_call 95; refine (HNR.out _ HBD.out).mono ?_; rintro e w2 ⟨rfl, hb2⟩; have HB2 := Lib.hid (below_step HBD.out hb2); have f8' : w2.cell? ⟨C.F, 8, none⟩ = some (.map V.fmo) := (cell_blk (HP.out.below HB2.out).hF 8).trans rfl; have f1 : w2.cell? ⟨C.F, 1, none⟩ = some (.bool C.S.unknown) := (cell_blk (HP.out.below HB2.out).hF 1).trans rfl; have f2 : w2.cell? ⟨C.F, 2, none⟩ = some (.bool false) := (cell_blk (HP.out.below HB2.out).hF 2).trans rfl; have hlk := HLK.out w2 HB2.out; have q0 := cell_kept hb2 (show w1.drew.cell? _ = _ from HK0.out); have q1 := cell_kept hb2 (show w1.drew.cell? _ = _ from HK1.out); have HP2 := Lib.hid (HP.out.below HB2.out); have HR2 := Lib.hid (HRR.out.below HB2.out); clear hb2))
  rw [hu] at f1
  go_wp2
  go_ret2
  exact ⟨_, V, vr, rfl, HP2.out.below ((Below.refl _ _).alloc (Nat.le_refl _) _), ⟨_, _, rfl, by rw [hNMV]; exact heap_alloc_new _ _⟩, (Fr.of_below HB2.out).trans (Fr.of_below ((Below.refl _ _).alloc (Nat.le_refl _) _)), HR2.out.below ((Below.refl _ _).alloc (Nat.le_refl _) _)⟩

set_option maxRecDepth 100000 in
set_option maxHeartbeats 3200000 in
theorem long_let_yL (C : PC) (hR : Right C.S) (V : PV) (parsed : Bool) (st : St) (t : Txt) (rest : List Txt) (vr : Value) (w : World) (hp : Pm w C V (psOf none parsed st)) (hsz : ∀ i (h : i < C.S.flags.length), (C.S.flags[i].name).length ≤ 17179869184) (hG : st.given.length ≤ 1099511627776) (he : st.err = .no) (hr : RestAt C w vr rest) (ht : t.length ≤ 8589934592) (hrs : ∀ a ∈ rest, a.length ≤ 17179869184) 
    (hm : ∃ c r, t = c :: r ∧ c ≠ 45 ∧ c ≠ 61) (hq : hasEq t = true) (hnm : named C.S (nameOf t) = none) (hh : ¬ (nameOf t) = helpT) (hu : C.S.unknown = true) :
    Calls Try.prog 77 #[.pointer (some ⟨C.F, 0, none⟩), .string (mkT (45 :: 45 :: t)), vr, (.func (.func 50) #[.pointer (some ⟨C.Wb, 0, none⟩)] #[])] w (StepEnd none C parsed (st, rest) w) := by
  have has : (mkT (45 :: 45 :: t)).size = t.length + 2 := by rw [mkT_size]; simp
  have hA2 : (2 : Int) ≤ ((mkT (45 :: 45 :: t)).size : Int) := by omega
  have hA3 : ((mkT (45 :: 45 :: t)).size : Int) ≤ 17179869184 := by omega
  have hsl : ∀ W, (Instr.slice 9 (.string (mkT (45 :: 45 :: t))) (some (.int .i64 2)) none none).run Try.prog W = .ok (.string (mkT t)) W := fun W => by
    rw [run_slice_string_l (P := Try.prog) W 9 (mkT (45 :: 45 :: t)) Try.underlying9 .i64 2 (by omega) (by omega)]
    have e : (mkT (45 :: 45 :: t)).extract (2 : Int).toNat (mkT (45 :: 45 :: t)).size = mkT t := mkT_inj (by rw [ext_tailP, mkT_list, mkT_list]; rfl)
    rw [e]
  have hts : (mkT t).size = t.length := mkT_size t
  have HP := Lib.hid hp
  have HRR := Lib.hid hr
  obtain ⟨c, r, hcr, hc45, hc61⟩ := hm
  obtain ⟨p0, g0⟩ := mkT_get hcr
  have z1 : (((mkT t).size : Int) == 0) = false := by simp only [beq_eq_false_iff_ne]; omega
  have c0 : (((mkT t)[0].toNat : Int) == 45) = false := nat_beq_false (b := 45) (by rw [g0]; intro e; exact hc45 (UInt8.toNat_inj.1 e))
  have c1 : (((mkT t)[0].toNat : Int) == 61) = false := nat_beq_false (b := 61) (by rw [g0]; intro e; exact hc61 (UInt8.toNat_inj.1 e))
  have hnl : (mkT (nameOf t)).size ≤ 17179869184 := by rw [mkT_size]; have := nameOf_le t; omega
  have HNR := Lib.hid (fun (W : World) (hb : Below w.heap.size w W) => norm_any C.F C.S.fold (mkT (nameOf t)) hnl W (hp.below hb).norm_at)
  simp only [mkT_list] at HNR
  have HLK := Lib.hid (fun (W : World) (hb : Below w.heap.size w W) => by
    obtain ⟨n1, hm1⟩ := (hp.below hb).fm
    have hl := hm1.look Try.kN Try.underlying128 (Try.zP W) (key_txt (mkT (foldT C.S.fold (nameOf t))) (by rw [mkT_size]; simp [foldT]; have := hnl; rw [mkT_size] at this; omega))
    rw [mkT_list, nmF_all (hp.len), hnm] at hl
    exact hl)
  simp only [Option.map_none, Option.map_some, lookR] at HLK
  have HCUT := Lib.hid (cut_yes (mkT t) (by rw [mkT_size]; omega) (by rw [mkT_list]; exact hq) w)
  simp only [mkT_list] at HCUT
  have hv : ((mkT (nameOf t)).toList == [104, 101, 108, 112]) = false := by rw [ByteArray.toList_eq, mkT_list]; simpa [helpT] using hh
  have HEE := Lib.hid he
  clear hp hr hrs hsz hG hR hts ht has  hq hcr hc45 hc61 g0 hnl hnm
  generalize mkT (45 :: 45 :: t) = ARG at hsl hA2 hA3 ⊢
  generalize mkT t = TX at hsl p0 z1 c0 c1 HCUT
  generalize mkT (foldT C.S.fold (nameOf t)) = NN at HNR HLK
  generalize mkT (nameOf t) = NMV at HNR HCUT hv
  go_enter Try.func77, Try.ntmps77
  go_upto_region 7 with (go_at_call 97; refine (HCUT.out).mono ?_; rintro e w1 ⟨g, cg, rfl, k0, k1, hb1⟩; have HB1 := Lib.hid hb1; have f8 : w1.cell? ⟨C.F, 8, none⟩ = some (.map V.fmo) := (cell_blk (HP.out.below hb1).hF 8).trans rfl; have HK0 := Lib.hid k0; have HK1 := Lib.hid k1; have HBD := Lib.hid hb1.drew; clear hb1)
  go_region_held3 (fun w' => w'.cell? ⟨C.F, 8, none⟩ = some (.map V.fmo)) (first | assumption | go_keep)
    (first
      | (go_at_call 95; refine (HNR.out _ HBD.out).mono ?_; rintro e w2 ⟨rfl, hb2⟩; have HB2 := Lib.hid (below_step HBD.out hb2); have f8' : w2.cell? ⟨C.F, 8, none⟩ = some (.map V.fmo) := (cell_blk (HP.out.below HB2.out).hF 8).trans rfl; have f1 : w2.cell? ⟨C.F, 1, none⟩ = some (.bool C.S.unknown) := (cell_blk (HP.out.below HB2.out).hF 1).trans rfl; have f2 : w2.cell? ⟨C.F, 2, none⟩ = some (.bool false) := (cell_blk (HP.out.below HB2.out).hF 2).trans rfl; have hlk := HLK.out w2 HB2.out; have q0 := cell_kept hb2 (show w1.drew.cell? _ = _ from HK0.out); have q1 := cell_kept hb2 (show w1.drew.cell? _ = _ from HK1.out); have HP2 := Lib.hid (HP.out.below HB2.out); have HR2 := Lib.hid (HRR.out.below HB2.out); clear hb2))
  rw [hu] at f1
  go_wp2
  go_ret2
  exact ⟨_, V, vr, rfl, HP2.out, (by have h := HEE.out; show ErrAt C _ _ st.err; rw [h]; rfl), Fr.of_below HB2.out, HR2.out⟩

set_option maxRecDepth 100000 in
set_option maxHeartbeats 3200000 in
theorem long_help_nL (C : PC) (hR : Right C.S) (V : PV) (parsed : Bool) (st : St) (t : Txt) (rest : List Txt) (vr : Value) (w : World) (hp : Pm w C V (psOf none parsed st)) (hsz : ∀ i (h : i < C.S.flags.length), (C.S.flags[i].name).length ≤ 17179869184) (hG : st.given.length ≤ 1099511627776) (he : st.err = .no) (hr : RestAt C w vr rest) (ht : t.length ≤ 8589934592) (hrs : ∀ a ∈ rest, a.length ≤ 17179869184) 
    (hm : ∃ c r, t = c :: r ∧ c ≠ 45 ∧ c ≠ 61) (hq : hasEq t = false) (hnm : named C.S t = none) (hh : t = helpT) :
    Calls Try.prog 77 #[.pointer (some ⟨C.F, 0, none⟩), .string (mkT (45 :: 45 :: t)), vr, (.func (.func 50) #[.pointer (some ⟨C.Wb, 0, none⟩)] #[])] w (StepEnd none C parsed ({ st with err := .help }, rest) w) := by
  have has : (mkT (45 :: 45 :: t)).size = t.length + 2 := by rw [mkT_size]; simp
  have hA2 : (2 : Int) ≤ ((mkT (45 :: 45 :: t)).size : Int) := by omega
  have hA3 : ((mkT (45 :: 45 :: t)).size : Int) ≤ 17179869184 := by omega
  have hsl : ∀ W, (Instr.slice 9 (.string (mkT (45 :: 45 :: t))) (some (.int .i64 2)) none none).run Try.prog W = .ok (.string (mkT t)) W := fun W => by
    rw [run_slice_string_l (P := Try.prog) W 9 (mkT (45 :: 45 :: t)) Try.underlying9 .i64 2 (by omega) (by omega)]
    have e : (mkT (45 :: 45 :: t)).extract (2 : Int).toNat (mkT (45 :: 45 :: t)).size = mkT t := mkT_inj (by rw [ext_tailP, mkT_list, mkT_list]; rfl)
    rw [e]
  have hts : (mkT t).size = t.length := mkT_size t
  have HP := Lib.hid hp
  have HRR := Lib.hid hr
  obtain ⟨c, r, hcr, hc45, hc61⟩ := hm
  obtain ⟨p0, g0⟩ := mkT_get hcr
  have z1 : (((mkT t).size : Int) == 0) = false := by simp only [beq_eq_false_iff_ne]; omega
  have c0 : (((mkT t)[0].toNat : Int) == 45) = false := nat_beq_false (b := 45) (by rw [g0]; intro e; exact hc45 (UInt8.toNat_inj.1 e))
  have c1 : (((mkT t)[0].toNat : Int) == 61) = false := nat_beq_false (b := 61) (by rw [g0]; intro e; exact hc61 (UInt8.toNat_inj.1 e))
  have hnl : (mkT t).size ≤ 17179869184 := by rw [mkT_size]; omega
  have HNR := Lib.hid (fun (W : World) (hb : Below w.heap.size w W) => norm_any C.F C.S.fold (mkT t) hnl W (hp.below hb).norm_at)
  simp only [mkT_list] at HNR
  have HLK := Lib.hid (fun (W : World) (hb : Below w.heap.size w W) => by
    obtain ⟨n1, hm1⟩ := (hp.below hb).fm
    have hl := hm1.look Try.kN Try.underlying128 (Try.zP W) (key_txt (mkT (foldT C.S.fold t)) (by rw [mkT_size]; simp [foldT]; have := hnl; rw [mkT_size] at this; omega))
    rw [mkT_list, nmF_all (hp.len), hnm] at hl
    exact hl)
  simp only [Option.map_none, Option.map_some, lookR] at HLK
  have HCUT := Lib.hid (cut_no (mkT t) (by rw [mkT_size]; omega) (by rw [mkT_list]; exact hq) w)
  have hv : ((mkT t).toList == [104, 101, 108, 112]) = true := by rw [ByteArray.toList_eq, mkT_list, hh]; rfl
  clear hp hr hrs hsz hG hR hts ht has  hq hcr hc45 hc61 g0 hnl hnm
  generalize mkT (45 :: 45 :: t) = ARG at hsl hA2 hA3 ⊢
  generalize mkT (foldT C.S.fold t) = NN at HNR HLK
  generalize mkT t = NMV at hsl p0 z1 c0 c1 HCUT HNR hv
  go_enter Try.func77, Try.ntmps77
  go_upto_region 7 with (go_at_call 97; refine (HCUT.out).mono ?_; rintro e w1 ⟨g, cg, rfl, k0, hb1⟩; have HB1 := Lib.hid hb1; have f8 : w1.cell? ⟨C.F, 8, none⟩ = some (.map V.fmo) := (cell_blk (HP.out.below hb1).hF 8).trans rfl; have HK0 := Lib.hid k0; have HBD := Lib.hid hb1.drew; clear hb1)
  go_region_held3 (fun w' => w'.cell? ⟨C.F, 8, none⟩ = some (.map V.fmo)) (first | assumption | go_keep)
    (first
      | (go_at_call 95; refine (HNR.out _ HBD.out).mono ?_; rintro e w2 ⟨rfl, hb2⟩; have HB2 := Lib.hid (below_step HBD.out hb2); have f8' : w2.cell? ⟨C.F, 8, none⟩ = some (.map V.fmo) := (cell_blk (HP.out.below HB2.out).hF 8).trans rfl; have f1 : w2.cell? ⟨C.F, 1, none⟩ = some (.bool C.S.unknown) := (cell_blk (HP.out.below HB2.out).hF 1).trans rfl; have f2 : w2.cell? ⟨C.F, 2, none⟩ = some (.bool false) := (cell_blk (HP.out.below HB2.out).hF 2).trans rfl; have hlk := HLK.out w2 HB2.out; have q0 := cell_kept hb2 (show w1.drew.cell? _ = _ from HK0.out); have HP2 := Lib.hid (HP.out.below HB2.out); have HR2 := Lib.hid (HRR.out.below HB2.out); clear hb2))
  go_wp2
  go_ret2
  exact ⟨_, V, vr, rfl, HP2.out, rfl, Fr.of_below HB2.out, HR2.out⟩

set_option maxRecDepth 100000 in
set_option maxHeartbeats 3200000 in
theorem long_not_nL (C : PC) (hR : Right C.S) (V : PV) (parsed : Bool) (st : St) (t : Txt) (rest : List Txt) (vr : Value) (w : World) (hp : Pm w C V (psOf none parsed st)) (hsz : ∀ i (h : i < C.S.flags.length), (C.S.flags[i].name).length ≤ 17179869184) (hG : st.given.length ≤ 1099511627776) (he : st.err = .no) (hr : RestAt C w vr rest) (ht : t.length ≤ 8589934592) (hrs : ∀ a ∈ rest, a.length ≤ 17179869184) 
    (hm : ∃ c r, t = c :: r ∧ c ≠ 45 ∧ c ≠ 61) (hq : hasEq t = false) (hnm : named C.S t = none) (hh : ¬ t = helpT) (hu : C.S.unknown = false) :
    Calls Try.prog 77 #[.pointer (some ⟨C.F, 0, none⟩), .string (mkT (45 :: 45 :: t)), vr, (.func (.func 50) #[.pointer (some ⟨C.Wb, 0, none⟩)] #[])] w (StepEnd none C parsed ({ st with err := .notExist t [] }, rest) w) := by
  have has : (mkT (45 :: 45 :: t)).size = t.length + 2 := by rw [mkT_size]; simp
  have hA2 : (2 : Int) ≤ ((mkT (45 :: 45 :: t)).size : Int) := by omega
  have hA3 : ((mkT (45 :: 45 :: t)).size : Int) ≤ 17179869184 := by omega
  have hsl : ∀ W, (Instr.slice 9 (.string (mkT (45 :: 45 :: t))) (some (.int .i64 2)) none none).run Try.prog W = .ok (.string (mkT t)) W := fun W => by
    rw [run_slice_string_l (P := Try.prog) W 9 (mkT (45 :: 45 :: t)) Try.underlying9 .i64 2 (by omega) (by omega)]
    have e : (mkT (45 :: 45 :: t)).extract (2 : Int).toNat (mkT (45 :: 45 :: t)).size = mkT t := mkT_inj (by rw [ext_tailP, mkT_list, mkT_list]; rfl)
    rw [e]
  have hts : (mkT t).size = t.length := mkT_size t
  have HP := Lib.hid hp
  have HRR := Lib.hid hr
  obtain ⟨c, r, hcr, hc45, hc61⟩ := hm
  obtain ⟨p0, g0⟩ := mkT_get hcr
  have z1 : (((mkT t).size : Int) == 0) = false := by simp only [beq_eq_false_iff_ne]; omega
  have c0 : (((mkT t)[0].toNat : Int) == 45) = false := nat_beq_false (b := 45) (by rw [g0]; intro e; exact hc45 (UInt8.toNat_inj.1 e))
  have c1 : (((mkT t)[0].toNat : Int) == 61) = false := nat_beq_false (b := 61) (by rw [g0]; intro e; exact hc61 (UInt8.toNat_inj.1 e))
  have hnl : (mkT t).size ≤ 17179869184 := by rw [mkT_size]; omega
  have HNR := Lib.hid (fun (W : World) (hb : Below w.heap.size w W) => norm_any C.F C.S.fold (mkT t) hnl W (hp.below hb).norm_at)
  simp only [mkT_list] at HNR
  have HLK := Lib.hid (fun (W : World) (hb : Below w.heap.size w W) => by
    obtain ⟨n1, hm1⟩ := (hp.below hb).fm
    have hl := hm1.look Try.kN Try.underlying128 (Try.zP W) (key_txt (mkT (foldT C.S.fold t)) (by rw [mkT_size]; simp [foldT]; have := hnl; rw [mkT_size] at this; omega))
    rw [mkT_list, nmF_all (hp.len), hnm] at hl
    exact hl)
  simp only [Option.map_none, Option.map_some, lookR] at HLK
  have HCUT := Lib.hid (cut_no (mkT t) (by rw [mkT_size]; omega) (by rw [mkT_list]; exact hq) w)
  have hv : ((mkT t).toList == [104, 101, 108, 112]) = false := by rw [ByteArray.toList_eq, mkT_list]; simpa [helpT] using hh
  clear hp hr hrs hsz hG hR hts ht has  hq hcr hc45 hc61 g0 hnl hnm
  generalize mkT (45 :: 45 :: t) = ARG at hsl hA2 hA3 ⊢
  generalize mkT (foldT C.S.fold t) = NN at HNR HLK
  generalize hNMV : mkT t = NMV at hsl p0 z1 c0 c1 HCUT HNR hv
  go_enter Try.func77, Try.ntmps77
  go_upto_region 7 with (go_at_call 97; refine (HCUT.out).mono ?_; rintro e w1 ⟨g, cg, rfl, k0, hb1⟩; have HB1 := Lib.hid hb1; have f8 : w1.cell? ⟨C.F, 8, none⟩ = some (.map V.fmo) := (cell_blk (HP.out.below hb1).hF 8).trans rfl; have HK0 := Lib.hid k0; have HBD := Lib.hid hb1.drew; clear hb1)
  go_region_held3 (fun w' => w'.cell? ⟨C.F, 8, none⟩ = some (.map V.fmo)) (first | assumption | go_keep)
    (first
      | (go_at_call 95; refine (HNR.out _ HBD.out).mono ?_; rintro e w2 ⟨rfl, hb2⟩; have HB2 := Lib.hid (below_step HBD.out hb2); have f8' : w2.cell? ⟨C.F, 8, none⟩ = some (.map V.fmo) := (cell_blk (HP.out.below HB2.out).hF 8).trans rfl; have f1 : w2.cell? ⟨C.F, 1, none⟩ = some (.bool C.S.unknown) := (cell_blk (HP.out.below HB2.out).hF 1).trans rfl; have f2 : w2.cell? ⟨C.F, 2, none⟩ = some (.bool false) := (cell_blk (HP.out.below HB2.out).hF 2).trans rfl; have hlk := HLK.out w2 HB2.out; have q0 := cell_kept hb2 (show w1.drew.cell? _ = _ from HK0.out); have HP2 := Lib.hid (HP.out.below HB2.out); have HR2 := Lib.hid (HRR.out.below HB2.out); clear hb2))
  rw [hu] at f1
  go_wp2
  go_ret2
  exact ⟨_, V, vr, rfl, HP2.out.below ((Below.refl _ _).alloc (Nat.le_refl _) _), ⟨_, _, rfl, by rw [hNMV]; exact heap_alloc_new _ _⟩, (Fr.of_below HB2.out).trans (Fr.of_below ((Below.refl _ _).alloc (Nat.le_refl _) _)), HR2.out.below ((Below.refl _ _).alloc (Nat.le_refl _) _)⟩

set_option maxRecDepth 100000 in
set_option maxHeartbeats 3200000 in
theorem long_let_nL (C : PC) (hR : Right C.S) (V : PV) (parsed : Bool) (st : St) (t : Txt) (rest : List Txt) (vr : Value) (w : World) (hp : Pm w C V (psOf none parsed st)) (hsz : ∀ i (h : i < C.S.flags.length), (C.S.flags[i].name).length ≤ 17179869184) (hG : st.given.length ≤ 1099511627776) (he : st.err = .no) (hr : RestAt C w vr rest) (ht : t.length ≤ 8589934592) (hrs : ∀ a ∈ rest, a.length ≤ 17179869184) 
    (hm : ∃ c r, t = c :: r ∧ c ≠ 45 ∧ c ≠ 61) (hq : hasEq t = false) (hnm : named C.S t = none) (hh : ¬ t = helpT) (hu : C.S.unknown = true) :
    Calls Try.prog 77 #[.pointer (some ⟨C.F, 0, none⟩), .string (mkT (45 :: 45 :: t)), vr, (.func (.func 50) #[.pointer (some ⟨C.Wb, 0, none⟩)] #[])] w (StepEnd none C parsed (st, strip rest) w) := by
  have has : (mkT (45 :: 45 :: t)).size = t.length + 2 := by rw [mkT_size]; simp
  have hA2 : (2 : Int) ≤ ((mkT (45 :: 45 :: t)).size : Int) := by omega
  have hA3 : ((mkT (45 :: 45 :: t)).size : Int) ≤ 17179869184 := by omega
  have hsl : ∀ W, (Instr.slice 9 (.string (mkT (45 :: 45 :: t))) (some (.int .i64 2)) none none).run Try.prog W = .ok (.string (mkT t)) W := fun W => by
    rw [run_slice_string_l (P := Try.prog) W 9 (mkT (45 :: 45 :: t)) Try.underlying9 .i64 2 (by omega) (by omega)]
    have e : (mkT (45 :: 45 :: t)).extract (2 : Int).toNat (mkT (45 :: 45 :: t)).size = mkT t := mkT_inj (by rw [ext_tailP, mkT_list, mkT_list]; rfl)
    rw [e]
  have hts : (mkT t).size = t.length := mkT_size t
  have HP := Lib.hid hp
  have HRR := Lib.hid hr
  obtain ⟨c, r, hcr, hc45, hc61⟩ := hm
  obtain ⟨p0, g0⟩ := mkT_get hcr
  have z1 : (((mkT t).size : Int) == 0) = false := by simp only [beq_eq_false_iff_ne]; omega
  have c0 : (((mkT t)[0].toNat : Int) == 45) = false := nat_beq_false (b := 45) (by rw [g0]; intro e; exact hc45 (UInt8.toNat_inj.1 e))
  have c1 : (((mkT t)[0].toNat : Int) == 61) = false := nat_beq_false (b := 61) (by rw [g0]; intro e; exact hc61 (UInt8.toNat_inj.1 e))
  have hnl : (mkT t).size ≤ 17179869184 := by rw [mkT_size]; omega
  have HNR := Lib.hid (fun (W : World) (hb : Below w.heap.size w W) => norm_any C.F C.S.fold (mkT t) hnl W (hp.below hb).norm_at)
  simp only [mkT_list] at HNR
  have HLK := Lib.hid (fun (W : World) (hb : Below w.heap.size w W) => by
    obtain ⟨n1, hm1⟩ := (hp.below hb).fm
    have hl := hm1.look Try.kN Try.underlying128 (Try.zP W) (key_txt (mkT (foldT C.S.fold t)) (by rw [mkT_size]; simp [foldT]; have := hnl; rw [mkT_size] at this; omega))
    rw [mkT_list, nmF_all (hp.len), hnm] at hl
    exact hl)
  simp only [Option.map_none, Option.map_some, lookR] at HLK
  have HCUT := Lib.hid (cut_no (mkT t) (by rw [mkT_size]; omega) (by rw [mkT_list]; exact hq) w)
  have hv : ((mkT t).toList == [104, 101, 108, 112]) = false := by rw [ByteArray.toList_eq, mkT_list]; simpa [helpT] using hh
  have HEE := Lib.hid he
  have HST := Lib.hid (fun (W : World) (hr : RestAt C W vr rest) => stripR_any C vr rest W hr hrs)
  clear hp hr hrs hsz hG hR hts ht has  hq hcr hc45 hc61 g0 hnl hnm
  generalize mkT (45 :: 45 :: t) = ARG at hsl hA2 hA3 ⊢
  generalize mkT (foldT C.S.fold t) = NN at HNR HLK
  generalize mkT t = NMV at hsl p0 z1 c0 c1 HCUT HNR hv
  go_enter Try.func77, Try.ntmps77
  go_upto_region 7 with (go_at_call 97; refine (HCUT.out).mono ?_; rintro e w1 ⟨g, cg, rfl, k0, hb1⟩; have HB1 := Lib.hid hb1; have f8 : w1.cell? ⟨C.F, 8, none⟩ = some (.map V.fmo) := (cell_blk (HP.out.below hb1).hF 8).trans rfl; have HK0 := Lib.hid k0; have HBD := Lib.hid hb1.drew; clear hb1)
  go_region_held3 (fun w' => w'.cell? ⟨C.F, 8, none⟩ = some (.map V.fmo)) (first | assumption | go_keep)
    (first
      | (go_at_call 95; refine (HNR.out _ HBD.out).mono ?_; rintro e w2 ⟨rfl, hb2⟩; have HB2 := Lib.hid (below_step HBD.out hb2); have f8' : w2.cell? ⟨C.F, 8, none⟩ = some (.map V.fmo) := (cell_blk (HP.out.below HB2.out).hF 8).trans rfl; have f1 : w2.cell? ⟨C.F, 1, none⟩ = some (.bool C.S.unknown) := (cell_blk (HP.out.below HB2.out).hF 1).trans rfl; have f2 : w2.cell? ⟨C.F, 2, none⟩ = some (.bool false) := (cell_blk (HP.out.below HB2.out).hF 2).trans rfl; have hlk := HLK.out w2 HB2.out; have q0 := cell_kept hb2 (show w1.drew.cell? _ = _ from HK0.out); have HP2 := Lib.hid (HP.out.below HB2.out); have HR2 := Lib.hid (HRR.out.below HB2.out); clear hb2))
  rw [hu] at f1
  go_wp2_with (go_at_call 98; refine (HST.out w2 HR2.out).mono ?_; rintro e w3 ⟨⟨v3, rfl, hr3⟩, rfl⟩; have HR3 := Lib.hid hr3; clear hr3)
  go_ret2
  exact ⟨_, V, v3, rfl, HP2.out, (by have h := HEE.out; show ErrAt C _ _ st.err; rw [h]; rfl), Fr.of_below HB2.out, HR3.out⟩

set_option maxRecDepth 100000 in
set_option maxHeartbeats 3200000 in
theorem long_valL (C : PC) (hR : Right C.S) (V : PV) (parsed : Bool) (st : St) (t : Txt) (rest : List Txt) (vr : Value) (w : World) (hp : Pm w C V (psOf none parsed st)) (hsz : ∀ i (h : i < C.S.flags.length), (C.S.flags[i].name).length ≤ 17179869184) (hG : st.given.length ≤ 1099511627776) (he : st.err = .no) (hr : RestAt C w vr rest) (ht : t.length ≤ 8589934592) (hrs : ∀ a ∈ rest, a.length ≤ 17179869184) 
    (i : Nat) (hm : ∃ c r, t = c :: r ∧ c ≠ 45 ∧ c ≠ 61) (hq : hasEq t = true) (hnm : named C.S (nameOf t) = some i) (hi : i < C.S.flags.length) :
    Calls Try.prog 77 #[.pointer (some ⟨C.F, 0, none⟩), .string (mkT (45 :: 45 :: t)), vr, (.func (.func 50) #[.pointer (some ⟨C.Wb, 0, none⟩)] #[])] w (StepEnd none C parsed (give C.S none st i (valueOf t), rest) w) := by
  have has : (mkT (45 :: 45 :: t)).size = t.length + 2 := by rw [mkT_size]; simp
  have hA2 : (2 : Int) ≤ ((mkT (45 :: 45 :: t)).size : Int) := by omega
  have hA3 : ((mkT (45 :: 45 :: t)).size : Int) ≤ 17179869184 := by omega
  have hsl : ∀ W, (Instr.slice 9 (.string (mkT (45 :: 45 :: t))) (some (.int .i64 2)) none none).run Try.prog W = .ok (.string (mkT t)) W := fun W => by
    rw [run_slice_string_l (P := Try.prog) W 9 (mkT (45 :: 45 :: t)) Try.underlying9 .i64 2 (by omega) (by omega)]
    have e : (mkT (45 :: 45 :: t)).extract (2 : Int).toNat (mkT (45 :: 45 :: t)).size = mkT t := mkT_inj (by rw [ext_tailP, mkT_list, mkT_list]; rfl)
    rw [e]
  have hts : (mkT t).size = t.length := mkT_size t
  have HP := Lib.hid hp
  have HRR := Lib.hid hr
  obtain ⟨c, r, hcr, hc45, hc61⟩ := hm
  obtain ⟨p0, g0⟩ := mkT_get hcr
  have z1 : (((mkT t).size : Int) == 0) = false := by simp only [beq_eq_false_iff_ne]; omega
  have c0 : (((mkT t)[0].toNat : Int) == 45) = false := nat_beq_false (b := 45) (by rw [g0]; intro e; exact hc45 (UInt8.toNat_inj.1 e))
  have c1 : (((mkT t)[0].toNat : Int) == 61) = false := nat_beq_false (b := 61) (by rw [g0]; intro e; exact hc61 (UInt8.toNat_inj.1 e))
  have hnl : (mkT (nameOf t)).size ≤ 17179869184 := by rw [mkT_size]; have := nameOf_le t; omega
  have HNR := Lib.hid (fun (W : World) (hb : Below w.heap.size w W) => norm_any C.F C.S.fold (mkT (nameOf t)) hnl W (hp.below hb).norm_at)
  simp only [mkT_list] at HNR
  have HLK := Lib.hid (fun (W : World) (hb : Below w.heap.size w W) => by
    obtain ⟨n1, hm1⟩ := (hp.below hb).fm
    have hl := hm1.look Try.kN Try.underlying128 (Try.zP W) (key_txt (mkT (foldT C.S.fold (nameOf t))) (by rw [mkT_size]; simp [foldT]; have := hnl; rw [mkT_size] at this; omega))
    rw [mkT_list, nmF_all (hp.len), hnm] at hl
    exact hl)
  simp only [Option.map_none, Option.map_some, lookR] at HLK
  have HCUT := Lib.hid (cut_yes (mkT t) (by rw [mkT_size]; omega) (by rw [mkT_list]; exact hq) w)
  simp only [mkT_list] at HCUT
  have HFN := Lib.hid (fun (W : World) (hb : Below w.heap.size w W) => (fun (W : World) (hb : Below w.heap.size w W) (i : Nat) (hi : i < C.S.flags.length) (v : Txt) => sets_any C hR V parsed st i v W (hp.below hb) hi (hsz i hi) hG he) W hb i hi (valueOf t))
  clear hp hr hrs hsz hG hR hts ht has  hq hcr hc45 hc61 g0 hnl hnm
  generalize mkT (45 :: 45 :: t) = ARG at hsl hA2 hA3 ⊢
  generalize mkT t = TX at hsl p0 z1 c0 c1 HCUT
  generalize mkT (foldT C.S.fold (nameOf t)) = NN at HNR HLK
  generalize mkT (nameOf t) = NMV at HNR HCUT
  generalize mkT (valueOf t) = VL at HCUT HFN
  generalize C.FL.getD i 0 = p at HLK HFN
  generalize give C.S none st i (valueOf t) = st' at HFN ⊢
  clear hi
  go_enter Try.func77, Try.ntmps77
  go_upto_region 7 with (go_at_call 97; refine (HCUT.out).mono ?_; rintro e w1 ⟨g, cg, rfl, k0, k1, hb1⟩; have HB1 := Lib.hid hb1; have f8 : w1.cell? ⟨C.F, 8, none⟩ = some (.map V.fmo) := (cell_blk (HP.out.below hb1).hF 8).trans rfl; have HK0 := Lib.hid k0; have HK1 := Lib.hid k1; have HBD := Lib.hid hb1.drew; clear hb1)
  go_region_held3 (fun w' => w'.cell? ⟨C.F, 8, none⟩ = some (.map V.fmo)) (first | assumption | go_keep)
    (first
      | (go_at_call 95; refine (HNR.out _ HBD.out).mono ?_; rintro e w2 ⟨rfl, hb2⟩; have HB2 := Lib.hid (below_step HBD.out hb2); have f8' : w2.cell? ⟨C.F, 8, none⟩ = some (.map V.fmo) := (cell_blk (HP.out.below HB2.out).hF 8).trans rfl; have f1 : w2.cell? ⟨C.F, 1, none⟩ = some (.bool C.S.unknown) := (cell_blk (HP.out.below HB2.out).hF 1).trans rfl; have f2 : w2.cell? ⟨C.F, 2, none⟩ = some (.bool false) := (cell_blk (HP.out.below HB2.out).hF 2).trans rfl; have hlk := HLK.out w2 HB2.out; have q0 := cell_kept hb2 (show w1.drew.cell? _ = _ from HK0.out); have q1 := cell_kept hb2 (show w1.drew.cell? _ = _ from HK1.out); have HP2 := Lib.hid (HP.out.below HB2.out); have HR2 := Lib.hid (HRR.out.below HB2.out); clear hb2))
  go_wp2_with (go_at_call 50; refine (HFN.out w2 HB2.out).mono ?_; rintro e w3 ⟨E, V3, rfl, h3, he3, hf3⟩)
  go_ret2
  exact ⟨E, V3, vr, rfl, h3, he3, (Fr.of_below HB2.out).trans hf3, HR2.out.fr hf3⟩

set_option maxRecDepth 100000 in
set_option maxHeartbeats 3200000 in
theorem long_optL (C : PC) (hR : Right C.S) (V : PV) (parsed : Bool) (st : St) (t : Txt) (rest : List Txt) (vr : Value) (w : World) (hp : Pm w C V (psOf none parsed st)) (hsz : ∀ i (h : i < C.S.flags.length), (C.S.flags[i].name).length ≤ 17179869184) (hG : st.given.length ≤ 1099511627776) (he : st.err = .no) (hr : RestAt C w vr rest) (ht : t.length ≤ 8589934592) (hrs : ∀ a ∈ rest, a.length ≤ 17179869184) 
    (i : Nat) (hm : ∃ c r, t = c :: r ∧ c ≠ 45 ∧ c ≠ 61) (hq : hasEq t = false) (hnm : named C.S t = some i) (hi : i < C.S.flags.length) (ho : C.S.flags[i].noOpt ≠ []) :
    Calls Try.prog 77 #[.pointer (some ⟨C.F, 0, none⟩), .string (mkT (45 :: 45 :: t)), vr, (.func (.func 50) #[.pointer (some ⟨C.Wb, 0, none⟩)] #[])] w (StepEnd none C parsed (give C.S none st i C.S.flags[i].noOpt, rest) w) := by
  have has : (mkT (45 :: 45 :: t)).size = t.length + 2 := by rw [mkT_size]; simp
  have hA2 : (2 : Int) ≤ ((mkT (45 :: 45 :: t)).size : Int) := by omega
  have hA3 : ((mkT (45 :: 45 :: t)).size : Int) ≤ 17179869184 := by omega
  have hsl : ∀ W, (Instr.slice 9 (.string (mkT (45 :: 45 :: t))) (some (.int .i64 2)) none none).run Try.prog W = .ok (.string (mkT t)) W := fun W => by
    rw [run_slice_string_l (P := Try.prog) W 9 (mkT (45 :: 45 :: t)) Try.underlying9 .i64 2 (by omega) (by omega)]
    have e : (mkT (45 :: 45 :: t)).extract (2 : Int).toNat (mkT (45 :: 45 :: t)).size = mkT t := mkT_inj (by rw [ext_tailP, mkT_list, mkT_list]; rfl)
    rw [e]
  have hts : (mkT t).size = t.length := mkT_size t
  have HP := Lib.hid hp
  have HRR := Lib.hid hr
  obtain ⟨c, r, hcr, hc45, hc61⟩ := hm
  obtain ⟨p0, g0⟩ := mkT_get hcr
  have z1 : (((mkT t).size : Int) == 0) = false := by simp only [beq_eq_false_iff_ne]; omega
  have c0 : (((mkT t)[0].toNat : Int) == 45) = false := nat_beq_false (b := 45) (by rw [g0]; intro e; exact hc45 (UInt8.toNat_inj.1 e))
  have c1 : (((mkT t)[0].toNat : Int) == 61) = false := nat_beq_false (b := 61) (by rw [g0]; intro e; exact hc61 (UInt8.toNat_inj.1 e))
  have hnl : (mkT t).size ≤ 17179869184 := by rw [mkT_size]; omega
  have HNR := Lib.hid (fun (W : World) (hb : Below w.heap.size w W) => norm_any C.F C.S.fold (mkT t) hnl W (hp.below hb).norm_at)
  simp only [mkT_list] at HNR
  have HLK := Lib.hid (fun (W : World) (hb : Below w.heap.size w W) => by
    obtain ⟨n1, hm1⟩ := (hp.below hb).fm
    have hl := hm1.look Try.kN Try.underlying128 (Try.zP W) (key_txt (mkT (foldT C.S.fold t)) (by rw [mkT_size]; simp [foldT]; have := hnl; rw [mkT_size] at this; omega))
    rw [mkT_list, nmF_all (hp.len), hnm] at hl
    exact hl)
  simp only [Option.map_none, Option.map_some, lookR] at HLK
  have HCUT := Lib.hid (cut_no (mkT t) (by rw [mkT_size]; omega) (by rw [mkT_list]; exact hq) w)
  have HFN := Lib.hid (fun (W : World) (hb : Below w.heap.size w W) => (fun (W : World) (hb : Below w.heap.size w W) (i : Nat) (hi : i < C.S.flags.length) (v : Txt) => sets_any C hR V parsed st i v W (hp.below hb) hi (hsz i hi) hG he) W hb i hi C.S.flags[i].noOpt)
  have HFL := Lib.hid (fun (W : World) (hb : Below w.heap.size w W) => ((cell_blk ((hp.below hb).flag i hi) 6).trans rfl : W.cell? ⟨C.FL.getD i 0, 6, none⟩ = some (.string (mkT C.S.flags[i].noOpt))))
  have po : 0 < (mkT C.S.flags[i].noOpt).size := by rw [mkT_size]; exact List.length_pos_iff.2 ho
  have po1 := nonempty_list po
  have po2 := nonempty_not po
  clear hp hr hrs hsz hG hR hts ht has  hq hcr hc45 hc61 g0 hnl hnm
  generalize mkT (45 :: 45 :: t) = ARG at hsl hA2 hA3 ⊢
  generalize mkT (foldT C.S.fold t) = NN at HNR HLK
  generalize mkT t = NMV at hsl p0 z1 c0 c1 HCUT HNR
  generalize give C.S none st i C.S.flags[i].noOpt = st' at HFN ⊢
  generalize mkT C.S.flags[i].noOpt = NO at HFN HFL po po1 po2
  generalize C.FL.getD i 0 = p at HLK HFN HFL
  clear hi ho
  go_enter Try.func77, Try.ntmps77
  go_upto_region 7 with (go_at_call 97; refine (HCUT.out).mono ?_; rintro e w1 ⟨g, cg, rfl, k0, hb1⟩; have HB1 := Lib.hid hb1; have f8 : w1.cell? ⟨C.F, 8, none⟩ = some (.map V.fmo) := (cell_blk (HP.out.below hb1).hF 8).trans rfl; have HK0 := Lib.hid k0; have HBD := Lib.hid hb1.drew; clear hb1)
  go_region_held3 (fun w' => w'.cell? ⟨C.F, 8, none⟩ = some (.map V.fmo)) (first | assumption | go_keep)
    (first
      | (go_at_call 95; refine (HNR.out _ HBD.out).mono ?_; rintro e w2 ⟨rfl, hb2⟩; have HB2 := Lib.hid (below_step HBD.out hb2); have f8' : w2.cell? ⟨C.F, 8, none⟩ = some (.map V.fmo) := (cell_blk (HP.out.below HB2.out).hF 8).trans rfl; have f1 : w2.cell? ⟨C.F, 1, none⟩ = some (.bool C.S.unknown) := (cell_blk (HP.out.below HB2.out).hF 1).trans rfl; have f2 : w2.cell? ⟨C.F, 2, none⟩ = some (.bool false) := (cell_blk (HP.out.below HB2.out).hF 2).trans rfl; have hlk := HLK.out w2 HB2.out; have q0 := cell_kept hb2 (show w1.drew.cell? _ = _ from HK0.out); have HP2 := Lib.hid (HP.out.below HB2.out); have HR2 := Lib.hid (HRR.out.below HB2.out); clear hb2))
  have l6 := HFL.out w2 HB2.out
  go_wp2_with (go_at_call 50; refine (HFN.out w2 HB2.out).mono ?_; rintro e w3 ⟨E, V3, rfl, h3, he3, hf3⟩)
  go_ret2
  exact ⟨E, V3, vr, rfl, h3, he3, (Fr.of_below HB2.out).trans hf3, HR2.out.fr hf3⟩

set_option maxRecDepth 100000 in
set_option maxHeartbeats 3200000 in
theorem long_needL (C : PC) (hR : Right C.S) (V : PV) (parsed : Bool) (st : St) (t : Txt) (rest : List Txt) (vr : Value) (w : World) (hp : Pm w C V (psOf none parsed st)) (hsz : ∀ i (h : i < C.S.flags.length), (C.S.flags[i].name).length ≤ 17179869184) (hG : st.given.length ≤ 1099511627776) (he : st.err = .no) (hr : RestAt C w vr rest) (ht : t.length ≤ 8589934592) (hrs : ∀ a ∈ rest, a.length ≤ 17179869184) 
    (i : Nat) (hm : ∃ c r, t = c :: r ∧ c ≠ 45 ∧ c ≠ 61) (hq : hasEq t = false) (hnm : named C.S t = some i) (hi : i < C.S.flags.length) (ho : C.S.flags[i].noOpt = []) (hr0 : rest = []) :
    Calls Try.prog 77 #[.pointer (some ⟨C.F, 0, none⟩), .string (mkT (45 :: 45 :: t)), vr, (.func (.func 50) #[.pointer (some ⟨C.Wb, 0, none⟩)] #[])] w (StepEnd none C parsed ({ st with err := .need i t [] }, []) w) := by
  have has : (mkT (45 :: 45 :: t)).size = t.length + 2 := by rw [mkT_size]; simp
  have hA2 : (2 : Int) ≤ ((mkT (45 :: 45 :: t)).size : Int) := by omega
  have hA3 : ((mkT (45 :: 45 :: t)).size : Int) ≤ 17179869184 := by omega
  have hsl : ∀ W, (Instr.slice 9 (.string (mkT (45 :: 45 :: t))) (some (.int .i64 2)) none none).run Try.prog W = .ok (.string (mkT t)) W := fun W => by
    rw [run_slice_string_l (P := Try.prog) W 9 (mkT (45 :: 45 :: t)) Try.underlying9 .i64 2 (by omega) (by omega)]
    have e : (mkT (45 :: 45 :: t)).extract (2 : Int).toNat (mkT (45 :: 45 :: t)).size = mkT t := mkT_inj (by rw [ext_tailP, mkT_list, mkT_list]; rfl)
    rw [e]
  have hts : (mkT t).size = t.length := mkT_size t
  have HP := Lib.hid hp
  have HRR := Lib.hid hr
  obtain ⟨c, r, hcr, hc45, hc61⟩ := hm
  obtain ⟨p0, g0⟩ := mkT_get hcr
  have z1 : (((mkT t).size : Int) == 0) = false := by simp only [beq_eq_false_iff_ne]; omega
  have c0 : (((mkT t)[0].toNat : Int) == 45) = false := nat_beq_false (b := 45) (by rw [g0]; intro e; exact hc45 (UInt8.toNat_inj.1 e))
  have c1 : (((mkT t)[0].toNat : Int) == 61) = false := nat_beq_false (b := 61) (by rw [g0]; intro e; exact hc61 (UInt8.toNat_inj.1 e))
  have hnl : (mkT t).size ≤ 17179869184 := by rw [mkT_size]; omega
  have HNR := Lib.hid (fun (W : World) (hb : Below w.heap.size w W) => norm_any C.F C.S.fold (mkT t) hnl W (hp.below hb).norm_at)
  simp only [mkT_list] at HNR
  have HLK := Lib.hid (fun (W : World) (hb : Below w.heap.size w W) => by
    obtain ⟨n1, hm1⟩ := (hp.below hb).fm
    have hl := hm1.look Try.kN Try.underlying128 (Try.zP W) (key_txt (mkT (foldT C.S.fold t)) (by rw [mkT_size]; simp [foldT]; have := hnl; rw [mkT_size] at this; omega))
    rw [mkT_list, nmF_all (hp.len), hnm] at hl
    exact hl)
  simp only [Option.map_none, Option.map_some, lookR] at HLK
  have HCUT := Lib.hid (cut_no (mkT t) (by rw [mkT_size]; omega) (by rw [mkT_list]; exact hq) w)
  have HFL := Lib.hid (fun (W : World) (hb : Below w.heap.size w W) => ((cell_blk ((hp.below hb).flag i hi) 6).trans rfl : W.cell? ⟨C.FL.getD i 0, 6, none⟩ = some (.string (mkT C.S.flags[i].noOpt))))
  have po : (mkT C.S.flags[i].noOpt).size = 0 := by rw [mkT_size, ho]; rfl
  have po1 := empty_list po
  have po2 := empty_not po
  subst hr0
  obtain ⟨Ar, cr, rfl, hr1⟩ := hr
  have HPI : Hid (∃ p, p = C.FL.getD i 0) := ⟨_, rfl⟩
  clear hp hr1 hrs hsz hG hR hts ht has  hq hcr hc45 hc61 g0 hnl hnm
  generalize mkT (45 :: 45 :: t) = ARG at hsl hA2 hA3 ⊢
  generalize mkT (foldT C.S.fold t) = NN at HNR HLK
  generalize hNMV : mkT t = NMV at hsl p0 z1 c0 c1 HCUT HNR
  generalize mkT C.S.flags[i].noOpt = NO at HFL po po1 po2
  obtain ⟨p, hpe⟩ := HPI.out
  rw [← hpe] at HLK HFL
  have HPE := Lib.hid hpe
  clear hi ho hpe HPI
  go_enter Try.func77, Try.ntmps77
  go_upto_region 7 with (go_at_call 97; refine (HCUT.out).mono ?_; rintro e w1 ⟨g, cg, rfl, k0, hb1⟩; have HB1 := Lib.hid hb1; have f8 : w1.cell? ⟨C.F, 8, none⟩ = some (.map V.fmo) := (cell_blk (HP.out.below hb1).hF 8).trans rfl; have HK0 := Lib.hid k0; have HBD := Lib.hid hb1.drew; clear hb1)
  go_region_held3 (fun w' => w'.cell? ⟨C.F, 8, none⟩ = some (.map V.fmo)) (first | assumption | go_keep)
    (first
      | (go_at_call 95; refine (HNR.out _ HBD.out).mono ?_; rintro e w2 ⟨rfl, hb2⟩; have HB2 := Lib.hid (below_step HBD.out hb2); have f8' : w2.cell? ⟨C.F, 8, none⟩ = some (.map V.fmo) := (cell_blk (HP.out.below HB2.out).hF 8).trans rfl; have f1 : w2.cell? ⟨C.F, 1, none⟩ = some (.bool C.S.unknown) := (cell_blk (HP.out.below HB2.out).hF 1).trans rfl; have f2 : w2.cell? ⟨C.F, 2, none⟩ = some (.bool false) := (cell_blk (HP.out.below HB2.out).hF 2).trans rfl; have hlk := HLK.out w2 HB2.out; have q0 := cell_kept hb2 (show w1.drew.cell? _ = _ from HK0.out); have HP2 := Lib.hid (HP.out.below HB2.out); have HR2 := Lib.hid (HRR.out.below HB2.out); clear hb2))
  have l6 := HFL.out w2 HB2.out
  go_wp2
  go_ret2
  exact ⟨_, V, _, rfl, HP2.out.below ((Below.refl _ _).alloc (Nat.le_refl _) _), ⟨_, rfl, by rw [hNMV, ← HPE.out]; exact heap_alloc_new _ _⟩, (Fr.of_below HB2.out).trans (Fr.of_below ((Below.refl _ _).alloc (Nat.le_refl _) _)), HR2.out.below ((Below.refl _ _).alloc (Nat.le_refl _) _)⟩

set_option maxRecDepth 100000 in
set_option maxHeartbeats 3200000 in
theorem long_nextL (C : PC) (hR : Right C.S) (V : PV) (parsed : Bool) (st : St) (t : Txt) (rest : List Txt) (vr : Value) (w : World) (hp : Pm w C V (psOf none parsed st)) (hsz : ∀ i (h : i < C.S.flags.length), (C.S.flags[i].name).length ≤ 17179869184) (hG : st.given.length ≤ 1099511627776) (he : st.err = .no) (hr : RestAt C w vr rest) (ht : t.length ≤ 8589934592) (hrs : ∀ a ∈ rest, a.length ≤ 17179869184) 
    (i : Nat) (hm : ∃ c r, t = c :: r ∧ c ≠ 45 ∧ c ≠ 61) (hq : hasEq t = false) (hnm : named C.S t = some i) (hi : i < C.S.flags.length) (ho : C.S.flags[i].noOpt = []) (a : Txt) (rs : List Txt) (hr0 : rest = a :: rs) :
    Calls Try.prog 77 #[.pointer (some ⟨C.F, 0, none⟩), .string (mkT (45 :: 45 :: t)), vr, (.func (.func 50) #[.pointer (some ⟨C.Wb, 0, none⟩)] #[])] w (StepEnd none C parsed (give C.S none st i a, rs) w) := by
  have has : (mkT (45 :: 45 :: t)).size = t.length + 2 := by rw [mkT_size]; simp
  have hA2 : (2 : Int) ≤ ((mkT (45 :: 45 :: t)).size : Int) := by omega
  have hA3 : ((mkT (45 :: 45 :: t)).size : Int) ≤ 17179869184 := by omega
  have hsl : ∀ W, (Instr.slice 9 (.string (mkT (45 :: 45 :: t))) (some (.int .i64 2)) none none).run Try.prog W = .ok (.string (mkT t)) W := fun W => by
    rw [run_slice_string_l (P := Try.prog) W 9 (mkT (45 :: 45 :: t)) Try.underlying9 .i64 2 (by omega) (by omega)]
    have e : (mkT (45 :: 45 :: t)).extract (2 : Int).toNat (mkT (45 :: 45 :: t)).size = mkT t := mkT_inj (by rw [ext_tailP, mkT_list, mkT_list]; rfl)
    rw [e]
  have hts : (mkT t).size = t.length := mkT_size t
  have HP := Lib.hid hp
  have HRR := Lib.hid hr
  obtain ⟨c, r, hcr, hc45, hc61⟩ := hm
  obtain ⟨p0, g0⟩ := mkT_get hcr
  have z1 : (((mkT t).size : Int) == 0) = false := by simp only [beq_eq_false_iff_ne]; omega
  have c0 : (((mkT t)[0].toNat : Int) == 45) = false := nat_beq_false (b := 45) (by rw [g0]; intro e; exact hc45 (UInt8.toNat_inj.1 e))
  have c1 : (((mkT t)[0].toNat : Int) == 61) = false := nat_beq_false (b := 61) (by rw [g0]; intro e; exact hc61 (UInt8.toNat_inj.1 e))
  have hnl : (mkT t).size ≤ 17179869184 := by rw [mkT_size]; omega
  have HNR := Lib.hid (fun (W : World) (hb : Below w.heap.size w W) => norm_any C.F C.S.fold (mkT t) hnl W (hp.below hb).norm_at)
  simp only [mkT_list] at HNR
  have HLK := Lib.hid (fun (W : World) (hb : Below w.heap.size w W) => by
    obtain ⟨n1, hm1⟩ := (hp.below hb).fm
    have hl := hm1.look Try.kN Try.underlying128 (Try.zP W) (key_txt (mkT (foldT C.S.fold t)) (by rw [mkT_size]; simp [foldT]; have := hnl; rw [mkT_size] at this; omega))
    rw [mkT_list, nmF_all (hp.len), hnm] at hl
    exact hl)
  simp only [Option.map_none, Option.map_some, lookR] at HLK
  have HCUT := Lib.hid (cut_no (mkT t) (by rw [mkT_size]; omega) (by rw [mkT_list]; exact hq) w)
  have HFN := Lib.hid (fun (W : World) (hb : Below w.heap.size w W) => (fun (W : World) (hb : Below w.heap.size w W) (i : Nat) (hi : i < C.S.flags.length) (v : Txt) => sets_any C hR V parsed st i v W (hp.below hb) hi (hsz i hi) hG he) W hb i hi a)
  have HFL := Lib.hid (fun (W : World) (hb : Below w.heap.size w W) => ((cell_blk ((hp.below hb).flag i hi) 6).trans rfl : W.cell? ⟨C.FL.getD i 0, 6, none⟩ = some (.string (mkT C.S.flags[i].noOpt))))
  have po : (mkT C.S.flags[i].noOpt).size = 0 := by rw [mkT_size, ho]; rfl
  have po1 := empty_list po
  have po2 := empty_not po
  subst hr0
  obtain ⟨br, ro, cr, rfl, hrc, hrl, hrm, _⟩ := hr.head
  have hrp : 0 < rs.length + 1 := by omega
  have i1 : (1 : Int) ≤ (rs.length : Int) + 1 := by omega
  have i2 : ((rs.length : Int) + 1) ≤ (cr : Int) := by omega
  have HRC := Lib.hid hrc
  clear hp hr hrc hrs hsz hG hR hts ht has  hq hcr hc45 hc61 g0 hnl hnm
  generalize mkT (45 :: 45 :: t) = ARG at hsl hA2 hA3 ⊢
  generalize mkT (foldT C.S.fold t) = NN at HNR HLK
  generalize mkT t = NMV at hsl p0 z1 c0 c1 HCUT HNR
  generalize give C.S none st i a = st' at HFN ⊢
  generalize mkT a = AA at HFN HRC
  generalize mkT C.S.flags[i].noOpt = NO at HFL po po1 po2
  generalize C.FL.getD i 0 = p at HLK HFN HFL
  clear hi ho
  go_enter Try.func77, Try.ntmps77
  go_upto_region 7 with (go_at_call 97; refine (HCUT.out).mono ?_; rintro e w1 ⟨g, cg, rfl, k0, hb1⟩; have HB1 := Lib.hid hb1; have f8 : w1.cell? ⟨C.F, 8, none⟩ = some (.map V.fmo) := (cell_blk (HP.out.below hb1).hF 8).trans rfl; have HK0 := Lib.hid k0; have HBD := Lib.hid hb1.drew; clear hb1)
  go_region_held3 (fun w' => w'.cell? ⟨C.F, 8, none⟩ = some (.map V.fmo)) (first | assumption | go_keep)
    (first
      | (go_at_call 95; refine (HNR.out _ HBD.out).mono ?_; rintro e w2 ⟨rfl, hb2⟩; have HB2 := Lib.hid (below_step HBD.out hb2); have f8' : w2.cell? ⟨C.F, 8, none⟩ = some (.map V.fmo) := (cell_blk (HP.out.below HB2.out).hF 8).trans rfl; have f1 : w2.cell? ⟨C.F, 1, none⟩ = some (.bool C.S.unknown) := (cell_blk (HP.out.below HB2.out).hF 1).trans rfl; have f2 : w2.cell? ⟨C.F, 2, none⟩ = some (.bool false) := (cell_blk (HP.out.below HB2.out).hF 2).trans rfl; have hlk := HLK.out w2 HB2.out; have q0 := cell_kept hb2 (show w1.drew.cell? _ = _ from HK0.out); have HP2 := Lib.hid (HP.out.below HB2.out); have HR2 := Lib.hid (HRR.out.below HB2.out); clear hb2))
  have l6 := HFL.out w2 HB2.out
  have lr := cell_kept HB2.out HRC.out
  go_wp2_with (go_at_call 50; refine (HFN.out w2 HB2.out).mono ?_; rintro e w3 ⟨E, V3, rfl, h3, he3, hf3⟩)
  · go_ret2
    exact ⟨E, V3, _, rfl, h3, he3, (Fr.of_below HB2.out).trans hf3, (HR2.out.tail1 (by assumption)).fr hf3⟩
  · go_ret2
    exact ⟨E, V3, _, rfl, h3, he3, (Fr.of_below HB2.out).trans hf3, HR2.out.tail.fr hf3⟩

theorem long_anyL (C : PC) (hR : Right C.S) (V : PV) (parsed : Bool) (st : St) (t : Txt) (rest : List Txt) (vr : Value) (w : World) (hp : Pm w C V (psOf none parsed st)) (hsz : ∀ i (h : i < C.S.flags.length), (C.S.flags[i].name).length ≤ 17179869184) (hG : st.given.length ≤ 1099511627776) (he : st.err = .no) (hr : RestAt C w vr rest) (ht : t.length ≤ 8589934592) (hrs : ∀ a ∈ rest, a.length ≤ 17179869184)  :
    Calls Try.prog 77 #[.pointer (some ⟨C.F, 0, none⟩), .string (mkT (45 :: 45 :: t)), vr, (.func (.func 50) #[.pointer (some ⟨C.Wb, 0, none⟩)] #[])] w (StepEnd none C parsed (longP C.S none st (45 :: 45 :: t) rest) w) := by
  have hd : (45 :: 45 :: t).drop 2 = t := rfl
  unfold longP
  simp only [hd]
  by_cases h1 : t = [] ∨ t.head? = some 45 ∨ t.head? = some 61
  · rw [if_pos h1]
    exact long_synL C hR V parsed st t rest vr w hp hsz hG he hr ht hrs  h1
  · rw [if_neg h1]
    have hm : ∃ c r, t = c :: r ∧ c ≠ 45 ∧ c ≠ 61 := by
      cases t with
      | nil => exact absurd (Or.inl rfl) h1
      | cons c r => exact ⟨c, r, rfl, fun e => h1 (Or.inr (Or.inl (by rw [e]; rfl))), fun e => h1 (Or.inr (Or.inr (by rw [e]; rfl)))⟩
    cases hn : named C.S (nameOf t) with
    | none =>
      simp only
      by_cases hh : nameOf t = helpT
      · rw [if_pos hh]
        by_cases hq : hasEq t = true
        · exact long_help_yL C hR V parsed st t rest vr w hp hsz hG he hr ht hrs  hm hq hn hh
        · have hq : hasEq t = false := by simpa using hq
          have e := nameOf_all hq
          rw [e] at hh hn
          exact long_help_nL C hR V parsed st t rest vr w hp hsz hG he hr ht hrs  hm hq hn hh
      · rw [if_neg hh]
        by_cases hu : C.S.unknown = true
        · rw [if_pos hu]
          by_cases hq : hasEq t = true
          · rw [if_pos hq]; exact long_let_yL C hR V parsed st t rest vr w hp hsz hG he hr ht hrs  hm hq hn hh hu
          · rw [if_neg hq]
            have hq : hasEq t = false := by simpa using hq
            have e := nameOf_all hq
            rw [e] at hh hn
            exact long_let_nL C hR V parsed st t rest vr w hp hsz hG he hr ht hrs  hm hq hn hh hu
        · rw [if_neg hu]
          have hu : C.S.unknown = false := by simpa using hu
          by_cases hq : hasEq t = true
          · exact long_not_yL C hR V parsed st t rest vr w hp hsz hG he hr ht hrs  hm hq hn hh hu
          · have hq : hasEq t = false := by simpa using hq
            have e := nameOf_all hq
            rw [e] at hh hn ⊢
            exact long_not_nL C hR V parsed st t rest vr w hp hsz hG he hr ht hrs  hm hq hn hh hu
    | some i =>
      simp only
      have hi : i < C.S.flags.length := findIdx_lt hn
      by_cases hq : hasEq t = true
      · rw [if_pos hq]; exact long_valL C hR V parsed st t rest vr w hp hsz hG he hr ht hrs  i hm hq hn hi
      · rw [if_neg hq]
        have hq : hasEq t = false := by simpa using hq
        have e := nameOf_all hq
        have no : noOptOf C.S i = C.S.flags[i].noOpt := by simp [noOptOf, hi]
        rw [e] at hn ⊢
        rw [no]
        by_cases ho : C.S.flags[i].noOpt = []
        · rw [if_neg (fun h => h ho)]
          cases hr0 : rest with
          | nil => subst hr0; exact long_needL C hR V parsed st t [] vr w hp hsz hG he hr ht hrs  i hm hq hn hi ho rfl
          | cons a rs => subst hr0; exact long_nextL C hR V parsed st t (a :: rs) vr w hp hsz hG he hr ht hrs  i hm hq hn hi ho a rs rfl
        · rw [if_pos ho]
          exact long_optL C hR V parsed st t rest vr w hp hsz hG he hr ht hrs  i hm hq hn hi ho
end Go.Proofs.Ytgmhhdpggnmipaa.E

namespace Go.Proofs.Ytgmhhdpggnmipaa.E
open Go.RowKit Go.Proofs
open Go.Maps (Keyed)
set_option linter.unusedVariables false
set_option linter.unusedSimpArgs false
section
variable {o : Oper} {a : Act} {w : World} {K : Act → World → Prop} {Q : Exit → Act → World → Prop}
theorem lo_load_string {x : Operand} {b i : Nat} {v : Value} (ho : o.op = .load 9 x) (hx : a.eval x = .pointer (some ⟨b, i, none⟩)) (hb : w.cell? ⟨b, i, none⟩ = some v) (h : K (a.put o.dst v) w) : Oper.wp Try.prog o a w K Q := by
  unfold Oper.wp
  simp [execOp, ho, hx]
  go_simp
  exact h
theorem lo_load_fset {x : Operand} {b i : Nat} {v : Value} (ho : o.op = .load 87 x) (hx : a.eval x = .pointer (some ⟨b, i, none⟩)) (hb : w.cell? ⟨b, i, none⟩ = some v) (h : K (a.put o.dst v) w) : Oper.wp Try.prog o a w K Q := by
  unfold Oper.wp
  simp [execOp, ho, hx]
  go_simp
  exact h
theorem lo_nilcheck {x : Operand} {ad : Addr} (ho : o.op = .nilCheck x) (hx : a.eval x = .pointer (some ad)) (h : K (a.put o.dst (.pointer (some ad))) w) : Oper.wp Try.prog o a w K Q := by
  unfold Oper.wp
  simp [execOp, ho, hx]
  go_simp
  first | exact h | simpa using h
theorem lo_field_whole {x : Operand} {b : Nat} (ho : o.op = .fieldAddr 90 x 0) (hx : a.eval x = .pointer (some ⟨b, 0, none⟩)) (h : K (a.put o.dst (.pointer (some ⟨b, 0, none⟩))) w) : Oper.wp Try.prog o a w K Q := by
  unfold Oper.wp
  simp [execOp, ho, hx]
  go_simp
  first | exact h | simpa using h
theorem lo_bound {f : Nat} {x : Operand} {u : Value} (ho : o.op = .makeFunc (.func f) #[x] #[]) (hx : a.eval x = u) (h : K (a.put o.dst (.func (.func f) #[u] #[])) w) : Oper.wp Try.prog o a w K Q := by
  have hmf : ∀ (fn : Fn) (first cap : Array Value) (w : World), (Instr.makeFunc fn first cap).run Try.prog w = .ok (.func fn first cap) w := fun _ _ _ _ => rfl
  unfold Oper.wp
  simp [execOp, ho, hx, hmf]
  first | exact h | (go_simp; exact h)
theorem lo_extract0 {x : Operand} {u v : Value} (ho : o.op = .extract x 0) (hx : a.eval x = .tuple #[u, v]) (h : K (a.put o.dst u) w) : Oper.wp Try.prog o a w K Q := by
  unfold Oper.wp
  simp [execOp, ho, hx]
  go_simp
  first | exact h | simpa using h
theorem lo_extract1 {x : Operand} {u v : Value} (ho : o.op = .extract x 1) (hx : a.eval x = .tuple #[u, v]) (h : K (a.put o.dst v) w) : Oper.wp Try.prog o a w K Q := by
  unfold Oper.wp
  simp [execOp, ho, hx]
  go_simp
  first | exact h | simpa using h
theorem lo_store_texts {p x : Operand} {b : Nat} {u : Value} {A : Option Addr} {n c : Nat} (ho : o.op = .store 25 p x) (hdst : o.dst = none) (hp : a.eval p = .pointer (some ⟨b, 0, none⟩)) (hx : a.eval x = .slice A n c) (hc : w.cell? ⟨b, 0, none⟩ = some u) (hf : w.frozen? ⟨b, 0, none⟩ = false) (h : K a (w.setCell ⟨b, 0, none⟩ (.slice A n c))) : Oper.wp Try.prog o a w K Q := by
  unfold Oper.wp
  have h9 : K (a.put o.dst undef) (w.setCell ⟨b, 0, none⟩ (.slice A n c)) := by rw [hdst]; exact h
  simp [execOp, ho, hx, hp]
  go_simp
  first | exact h9 | exact h
theorem lo_append (s x : Operand) (t : TypeId)
    (ho : o.op = .call { callee := .builtin .append, args := #[s, x], argTypes := #[t, t] })
    (base : Nat) (e : TypeId) (i : TypeInfo) (z : Value) (size bytes : Nat) (ht : Try.prog.underlying t = some (.slice e)) (hi : Try.prog.info? e = some i) (hz : i.zero = some z)
    (hsize : i.size = size) (hby : i.bytes = bytes) (hzs : z.cells.size = size) (hsz : 0 < size)
    (v : Value) (n : Nat) (xs : List Value) (hs : a.eval s = v) (hown : w.ownsRow base e size v n xs)
    (A : Option Addr) (m c : Nat) (news : List Value) (hx : a.eval x = .slice A m c) (hA : A = none → m = 0 ∧ c = 0) (hl : news.length = m * size)
    (hnews : ∀ ad, A = some ad → ∀ j u, news[j]? = some u → w.cell? (ad.add j) = some u) (h1 : ∀ u ∈ news, u.oneCell' = true)
    (h63 : n + m ≤ maxLen) (hbytes : (n + m) * bytes ≤ 140737488355328) (hbase : base ≤ w.heap.size)
    (h : ∀ v' w', w'.ownsRow base e size v' (n + m) (xs ++ news) → w.grownBy w' v.ownBlock → K (a.put o.dst v') w') : Oper.wp Try.prog o a w K Q := by
  cases A with
  | none =>
    obtain ⟨rfl, rfl⟩ := hA rfl
    have hn : news = [] := by apply List.eq_nil_of_length_eq_zero; simpa using hl
    subst hn
    have hrun := run_append_owned_none (P := Try.prog) (w := w) base t o.type e i size ht hi v n xs hown
    have hK := h v w (by simpa using hown) ⟨rfl, rfl, rfl, Nat.le_refl _, fun _ _ _ => rfl⟩
    unfold Oper.wp
    simp [execOp, ho, resolve, invoke, builtin, hs, hx, hrun, Result.andThen]
    exact hK
  | some ad =>
    exact wp_append_own w s x t ho base e i z size bytes ht hi hz hsize hby hzs hsz v n xs hs hown ad m c news hx hl (hnews ad rfl) h1 h63 hbytes hbase (fun v' w' h2 h3 _ => h v' w' h2 h3)
end
theorem wpAny_two {P : Program} {ops : Array Oper} {Q : Exit → Act → World → Prop} {a : Act} {w : World} {listed : Array Bool} {i j n : Nat} {o p : Oper} (hr : Region.ready .any ops listed = [i, j]) (ho : ops[i]? = some o) (hp : ops[j]? = some p) (hg : o.guard = none) (hh : p.guard = none) (h : Oper.wp P o a w (fun a' w' => wpAny P .any ops Q n (listed.setIfInBounds i true) a' w') Q) (k : Oper.wp P p a w (fun a' w' => wpAny P .any ops Q n (listed.setIfInBounds j true) a' w') Q) : wpAny P .any ops Q (n + 1) listed a w := by
  refine ⟨fun e => ?_, fun l hl => ?_⟩
  · rw [hr] at e; cases e
  · rw [hr] at hl
    rcases List.mem_cons.1 hl with rfl | hl
    · unfold wpOp
      rw [ho]
      have hw : Region.wanted o (yielded ops a.tmps) = true := by simp [Region.wanted, hg]
      simp only [hw, if_true]
      exact Or.inl h
    · obtain rfl := List.mem_singleton.1 hl
      unfold wpOp
      rw [hp]
      have hw : Region.wanted p (yielded ops a.tmps) = true := by simp [Region.wanted, hh]
      simp only [hw, if_true]
      exact Or.inl k
/-- A call that leaves what was heard in one variable, and the arguments that are left in another. -/
def LongPut (B d lf : Nat) (w : World) (s : PS) (er : Er) (n : Nat) (ts : List Txt) (w' : World) : Prop :=
  ∃ GA gc AA ac CA cc LA lc, w'.heap[d]? = some (.cells (hdCells s er n (.slice GA s.G.length gc) (.slice AA s.A.length ac) (.slice CA (chL s.chg n).length cc)) 32 (0, 0)) ∧
    HdRows B w' s n (.slice GA s.G.length gc) (.slice AA s.A.length ac) (.slice CA (chL s.chg n).length cc) ∧ w'.heap[lf]? = some (.cells #[.slice LA ts.length lc] 25 (0, 0)) ∧ w'.ownsRow B 9 1 (.slice LA ts.length lc) ts.length (aCells ts) ∧ Ch w w' (fun b => b = d ∨ b = lf)
theorem hdPut_chS {w0 w : World} {d lf : Nat} (s : PS) (er : Er) (G A C : Value) (h : Ch w0 w (fun b => b = d ∨ b = lf)) : Ch w0 (hdPut w d s er G A C) (fun b => b = d ∨ b = lf) :=
  ((((((((((h.set _ _ (fun _ => Or.inl rfl)).set _ _ (fun _ => Or.inl rfl)).set _ _ (fun _ => Or.inl rfl)).set _ _ (fun _ => Or.inl rfl)).set _ _ (fun _ => Or.inl rfl)).set _ _ (fun _ => Or.inl rfl)).set _ _ (fun _ => Or.inl rfl)).set _ _ (fun _ => Or.inl rfl)).set _ _ (fun _ => Or.inl rfl)).set _ _ (fun _ => Or.inl rfl)).set _ _ (fun _ => Or.inl rfl)
theorem one_put {w : World} {b : Nat} {u v : Value} {T : TypeId} (h : w.heap[b]? = some (.cells #[u] T (0, 0))) : (w.setCell ⟨b, 0, none⟩ v).heap[b]? = some (.cells #[v] T (0, 0)) := (blk_set h 0 v).trans rfl
theorem LongPut.of1 {B B' d lf : Nat} {w w4 : World} {s : PS} {er : Er} {n : Nat} {GA AA CA LA : Option Addr} {gc ac cc lc : Nat} {ts : List Txt} (hd : w4.heap[d]? = some (.cells hdZero 32 (0, 0))) (hlf : w4.heap[lf]? = some (.cells #[.slice none 0 0] 25 (0, 0))) (hne : d ≠ lf) (hr : HdRows B' w4 s n (.slice GA s.G.length gc) (.slice AA s.A.length ac) (.slice CA (chL s.chg n).length cc)) (ho : w4.ownsRow B' 9 1 (.slice LA ts.length lc) ts.length (aCells ts)) (hB : B ≤ B') (hc : Below w.heap.size w w4) :
    LongPut B d lf w s er n ts ((hdPut w4 d s er (.slice GA s.G.length gc) (.slice AA s.A.length ac) (.slice CA (chL s.chg n).length cc)).setCell ⟨lf, 0, none⟩ (.slice LA ts.length lc)) := by
  have hr1 := (hr.mono hB).blk d hd (by decide) (by decide) (by decide) (fun b _ ne => hdPut_other s er (.slice GA s.G.length gc) (.slice AA s.A.length ac) (.slice CA (chL s.chg n).length cc) ne)
  have hlf1 : (hdPut w4 d s er (.slice GA s.G.length gc) (.slice AA s.A.length ac) (.slice CA (chL s.chg n).length cc)).heap[lf]? = _ := (hdPut_other s er _ _ _ (Ne.symm hne)).trans hlf
  have hd1 := hdPut_blk s er n (.slice GA s.G.length gc) (.slice AA s.A.length ac) (.slice CA (chL s.chg n).length cc) hd
  have ho1 : (hdPut w4 d s er (.slice GA s.G.length gc) (.slice AA s.A.length ac) (.slice CA (chL s.chg n).length cc)).ownsRow B 9 1 (.slice LA ts.length lc) ts.length (aCells ts) := own_of_blk (own_lower ho hB) (fun g hg => hdPut_other s er _ _ _ (fun e => by subst e; exact own_far3 ho hd (by decide) hg))
  have hch : Ch w (hdPut w4 d s er (.slice GA s.G.length gc) (.slice AA s.A.length ac) (.slice CA (chL s.chg n).length cc)) (fun b => b = d ∨ b = lf) := (hdPut_ch s er _ _ _ (Ch.of_below hc _)).mono (fun b _ h => Or.inl h)
  exact ⟨GA, gc, AA, ac, CA, cc, LA, lc, (blk_other hne).trans hd1, hr1.blk lf hlf1 (by decide) (by decide) (by decide) (fun b _ ne => blk_other ne), one_put hlf1, own_of_blk ho1 (fun g hg => blk_other (fun e => by subst e; exact own_far3 ho1 hlf1 (by decide) hg)), hch.set _ _ (fun _ => Or.inr rfl)⟩
theorem LongPut.of2 {B B' d lf : Nat} {w w4 : World} {s : PS} {er : Er} {n : Nat} {GA AA CA LA : Option Addr} {gc ac cc lc : Nat} {ts : List Txt} (hd : w4.heap[d]? = some (.cells hdZero 32 (0, 0))) (hlf : w4.heap[lf]? = some (.cells #[.slice none 0 0] 25 (0, 0))) (hne : d ≠ lf) (hr : HdRows B' w4 s n (.slice GA s.G.length gc) (.slice AA s.A.length ac) (.slice CA (chL s.chg n).length cc)) (ho : w4.ownsRow B' 9 1 (.slice LA ts.length lc) ts.length (aCells ts)) (hB : B ≤ B') (hc : Below w.heap.size w w4) :
    LongPut B d lf w s er n ts (hdPut (w4.setCell ⟨lf, 0, none⟩ (.slice LA ts.length lc)) d s er (.slice GA s.G.length gc) (.slice AA s.A.length ac) (.slice CA (chL s.chg n).length cc)) := by
  have hlf1 : (w4.setCell ⟨lf, 0, none⟩ (.slice LA ts.length lc)).heap[lf]? = _ := one_put hlf
  have hd1 : (w4.setCell ⟨lf, 0, none⟩ (.slice LA ts.length lc)).heap[d]? = _ := (blk_other hne).trans hd
  have hr1 := (hr.mono hB).blk (w' := w4.setCell ⟨lf, 0, none⟩ (.slice LA ts.length lc)) lf hlf (by decide) (by decide) (by decide) (fun b _ ne => blk_other ne)
  have ho1 : (w4.setCell ⟨lf, 0, none⟩ (.slice LA ts.length lc)).ownsRow B 9 1 (.slice LA ts.length lc) ts.length (aCells ts) := own_of_blk (own_lower ho hB) (fun g hg => blk_other (fun e => by subst e; exact own_far3 ho hlf (by decide) hg))
  have hch : Ch w (w4.setCell ⟨lf, 0, none⟩ (.slice LA ts.length lc)) (fun b => b = d ∨ b = lf) := (Ch.of_below hc _).set _ _ (fun _ => Or.inr rfl)
  exact ⟨GA, gc, AA, ac, CA, cc, LA, lc, hdPut_blk s er n _ _ _ hd1, hr1.blk d hd1 (by decide) (by decide) (by decide) (fun b _ ne => hdPut_other s er _ _ _ ne), (hdPut_other s er _ _ _ (Ne.symm hne)).trans hlf1, own_of_blk ho1 (fun g hg => hdPut_other s er _ _ _ (fun e => by subst e; exact own_far3 ho1 hd1 (by decide) hg)), hdPut_chS s er _ _ _ hch⟩

set_option maxRecDepth 100000 in
theorem zzLong_any (C : PC) (hR : Right C.S) (V : PV) (parsed : Bool) (st : St) (t : Txt) (rest : List Txt) (vr : Value) (w : World) (hp : Pm w C V (psOf none parsed st)) (hsz : ∀ i (h : i < C.S.flags.length), (C.S.flags[i].name).length ≤ 17179869184) (hG : st.given.length ≤ 1099511627776) (he : st.err = .no) (hr : RestAt C w vr rest) (ht : t.length ≤ 8589934592) (hrs : ∀ a ∈ rest, a.length ≤ 17179869184) :
    Calls Try.prog 49 #[.pointer (some ⟨C.F, 0, none⟩), .string (mkT (45 :: 45 :: t)), vr, (.func (.func 50) #[.pointer (some ⟨C.Wb, 0, none⟩)] #[])] w (StepEnd none C parsed (longP C.S none st (45 :: 45 :: t) rest) w) := by
  have H := Lib.hid (long_anyL C hR V parsed st t rest vr w hp hsz hG he hr ht hrs)
  clear hp hsz hG he hr ht hrs
  generalize longP C.S none st (45 :: 45 :: t) rest = q at H ⊢
  generalize mkT (45 :: 45 :: t) = AR at H ⊢
  go_enter Try.func49, Try.ntmps49
  go_wp2_with (go_at_call 77; refine (H.out).mono ?_; rintro e w3 ⟨E, V3, v3, rfl, hp3, he3, hf3, hr3⟩)
  go_ret2
  exact ⟨E, V3, v3, rfl, hp3, he3, hf3, hr3⟩

/-- What the operations ahead of the call of ZzLong leave. -/
def LB1 (Wb F : Nat) (ar : ByteArray) (vr : Value) : Nat → Value → World → Prop
  | 0, v, _ => v = .pointer (some ⟨Wb, 0, none⟩)
  | 1, v, _ => v = .pointer (some ⟨Wb, 0, none⟩)
  | 2, v, _ => v = .pointer (some ⟨Wb, 0, none⟩)
  | 3, v, _ => v = .pointer (some ⟨F, 0, none⟩)
  | 4, v, _ => v = .string ar
  | 5, v, _ => v = vr
  | 6, v, _ => v = .pointer (some ⟨Wb, 0, none⟩)
  | 7, v, _ => v = .func (.func 50) #[.pointer (some ⟨Wb, 0, none⟩)] #[]
  | _, _, _ => True
theorem LB1.below {Wb F : Nat} {ar : ByteArray} {vr : Value} {ix : Nat} (hix : ix < 8) {v : Value} {w w' : World} (h : LB1 Wb F ar vr ix v w) (hb : Below w.heap.size w w') : LB1 Wb F ar vr ix v w' := by
  match ix, hix, h with
  | 0, _, h => exact h
  | 1, _, h => exact h
  | 2, _, h => exact h
  | 3, _, h => exact h
  | 4, _, h => exact h
  | 5, _, h => exact h
  | 6, _, h => exact h
  | 7, _, h => exact h
/-- What the operations ahead of the two stores leave. -/
def LB2 (Wb : Nat) (E lv : Value) (B : Nat) (s : PS) (er : Er) (n : Nat) (ts : List Txt) : Nat → Value → World → Prop
  | 0, v, _ => v = .pointer (some ⟨Wb, 0, none⟩)
  | 1, v, _ => v = E
  | 2, v, w => HeardV B w s er n v
  | 3, v, _ => v = .slice none 0 0
  | 4, v, _ => v = lv
  | 5, v, w => ∃ LA lc, v = .slice LA ts.length lc ∧ w.ownsRow B 9 1 (.slice LA ts.length lc) ts.length (aCells ts)
  | _, _, _ => True
theorem LB2.below {Wb : Nat} {E lv : Value} {B : Nat} {s : PS} {er : Er} {n : Nat} {ts : List Txt} {ix : Nat} (hix : ix < 6) {v : Value} {w w' : World} (h : LB2 Wb E lv B s er n ts ix v w) (hb : Below w.heap.size w w') : LB2 Wb E lv B s er n ts ix v w' := by
  match ix, hix, h with
  | 0, _, h => exact h
  | 1, _, h => exact h
  | 2, _, h =>
    obtain ⟨GA, gc, AA, ac, CA, cc, rfl, h1, h2, h3⟩ := h
    exact ⟨GA, gc, AA, ac, CA, cc, rfl, own_kept h1 hb, own_kept h2 hb, own_kept h3 hb⟩
  | 3, _, h => exact h
  | 4, _, h => exact h
  | 5, _, h =>
    obtain ⟨LA, lc, rfl, h1⟩ := h
    exact ⟨LA, lc, rfl, own_kept h1 hb⟩
set_option maxRecDepth 100000 in
set_option maxHeartbeats 3200000 in
theorem lclos_any (S : SetP) (hR : Right S) (A : Option Addr) (cap : Nat) (t : Txt) (L : List Txt) (Ar : Option Addr) (cr a ab b lf d : Nat) (w : World) (hx : StrsAt w Ar (L.map mkT)) (hxc : L.length ≤ cr) (hxm : cr ≤ 9223372036854775807) (hx0 : Ar = none → cr = 0) (hxb : ∀ q, Ar = some q → q.block < w.heap.size) (hrl : L.length ≤ 1099511627776) (ht : t.length ≤ 8589934592) (hls : ∀ t ∈ L, t.length ≤ 8589934592) (hA : FlagsAt w A S.flags) (hlow : LowBad w A S.flags w.heap.size) (hn : S.flags.length ≤ 17179869184) (hsz : ∀ i (h : i < S.flags.length), (S.flags[i].name).length ≤ 17179869184)
    (ha : w.heap[a]? = some (.cells #[.slice A S.flags.length cap, .bool S.plain, .bool S.unknown, .int .i64 S.fold] 24 (0, 0)))
    (hab : w.heap[ab]? = some (.cells #[.string (mkT (45 :: 45 :: t))] 9 (0, 0)))
    (hb : w.heap[b]? = some (.cells #[.slice Ar L.length cr] 25 (0, 0)))
    (hlf : w.heap[lf]? = some (.cells #[.slice none 0 0] 25 (0, 0)))
    (hd : w.heap[d]? = some (.cells hdZero 32 (0, 0))) :
    Calls Try.prog 47 #[.pointer (some ⟨a, 0, none⟩), .pointer (some ⟨ab, 0, none⟩), .pointer (some ⟨b, 0, none⟩), .pointer (some ⟨lf, 0, none⟩), .pointer (some ⟨d, 0, none⟩)] w fun e w' => e = .returned (.tuple #[]) ∧ LongPut w.heap.size d lf w (psOf none false (longP S none st0 (45 :: 45 :: t) L).1) (longP S none st0 (45 :: 45 :: t) L).1.err S.flags.length (longP S none st0 (45 :: 45 :: t) L).2 w' := by
  obtain ⟨ti, gi, hz0, hz1, hz2⟩ := info_parts Try.infoS14
  have hgn : (longP S none st0 (45 :: 45 :: t) L).1.given.length ≤ 1099511627776 := by have h9 : _ ≤ ([] : List (Nat × Txt)).length + 1 := (longP_grow S none st0 (45 :: 45 :: t) L).1; rw [List.length_nil] at h9; omega
  have hga : (longP S none st0 (45 :: 45 :: t) L).1.args.length ≤ 1099511627776 := by rw [longP_args]; exact Nat.zero_le _
  have hgl : (longP S none st0 (45 :: 45 :: t) L).2.length ≤ 1099511627776 := Nat.le_trans (longP_grow S none st0 (45 :: 45 :: t) L).2.length_le hrl
  have hgi : FlagOk S (longP S none st0 (45 :: 45 :: t) L).1.err := longP_ok (fun i n t v hj => by rcases hj with e | e <;> cases e)
  have a0 : w.cell? ⟨a, 0, none⟩ = some (.slice A S.flags.length cap) := (cell_blk ha 0).trans rfl
  have a1 : w.cell? ⟨a, 1, none⟩ = some (.bool S.plain) := (cell_blk ha 1).trans rfl
  have a2 : w.cell? ⟨a, 2, none⟩ = some (.bool S.unknown) := (cell_blk ha 2).trans rfl
  have a3 : w.cell? ⟨a, 3, none⟩ = some (.int .i64 S.fold) := (cell_blk ha 3).trans rfl
  have HM := Lib.hid (made_any S hR A cap w hA hlow hn hsz)
  have HSZ := Lib.hid hsz
  clear hA hlow hsz
  go_enter Try.func47, Try.ntmps47
  go_upto_region 1 with (go_at_call 48; refine (HM.out).mono ?_; rintro e w1 ⟨C, V, hCS, hCB, rfl, hpm, hbel⟩)
  subst hCS
  have HR1 : Hid (RestAt C w1 (.slice Ar L.length cr) L) := by
    refine RestAt.below (w := w) ⟨Ar, cr, rfl, hx, hxc, hxm, hx0, ?_⟩ hbel
    rw [hCB]; exact hxb
  have HPA := Lib.hid (fun (W : World) (hb : Below w1.heap.size w1 W) => zzLong_any C hR V false st0 t L (.slice Ar L.length cr) W (hpm.below hb) HSZ.out (by simp [st0]) rfl (HR1.out.below hb) ht (fun a h => Nat.le_trans (hls a h) (by decide)))
  have HHE := Lib.hid (fun (V3 : PV) (E : Value) (W : World) (hp3 : Pm W C V3 (psOf none false (longP C.S none st0 (45 :: 45 :: t) L).1)) (he3 : ErrAt C W E (longP C.S none st0 (45 :: 45 :: t) L).1.err) => heard_any C V3 _ _ E W hp3 he3 hgi hn hgn hga)
  have k0 : w1.cell? ⟨C.Wb, 0, none⟩ = some (.pointer (some ⟨C.F, 0, none⟩)) := (cell_blk hpm.hW 0).trans rfl
  have hb1 := block_kept hb hbel
  have kb : w1.cell? ⟨b, 0, none⟩ = some (.slice Ar L.length cr) := (cell_blk hb1 0).trans rfl
  have ka : w1.cell? ⟨ab, 0, none⟩ = some (.string (mkT (45 :: 45 :: t))) := (cell_blk (block_kept hab hbel) 0).trans rfl
  have HD1 := Lib.hid (block_kept hd hbel)
  have HL1 := Lib.hid (block_kept hlf hbel)
  have hll : lf < C.B := by rw [hCB]; exact lt_of_block hlf
  have hld : d < C.B := by rw [hCB]; exact lt_of_block hd
  have HPM := Lib.hid hpm
  have HBL := Lib.hid hbel
  have hne2 : d ≠ lf := blk_ne hd hlf (by simp [hdZero])
  have hgl := Lib.hid hgl
  generalize mkT (45 :: 45 :: t) = AR at ka HPA
  generalize hqe : longP C.S none st0 (45 :: 45 :: t) L = q at HPA HHE hgl
  have HQE := Lib.hid hqe
  clear hqe
  clear hpm hbel hb hd hb1 ha hx hxb hgi hls hab hlf
  have K0 := Lib.hid k0
  have KB := Lib.hid kb
  have KA := Lib.hid ka
  refine region_inv (by kernel_rfl) (fun u v => Below u.heap.size u v) (LB1 C.Wb C.F AR (.slice Ar L.length cr)) (fun i => false) (fun i => [11, 12, 13, 14, 15, 16, 17, 18].getD i 0) 8
    (Below.refl _ _) (fun _ _ _ h k => below_step h k) (fun i hi v u u' h hb => LB1.below hi h hb) ?_ (hgd_none (by kernel_rfl)) (by kernel_rfl) (by kernel_rfl) (by kernel_rfl) (by kernel_rfl) ?_ ?_
  · intro i hi hA; cases hA
  · intro i hi o ho a u hG hk hd
    have hG9 : Below w1.heap.size w1 u := ((Below.refl _ _).drew).trans hG
    match i, hi with
    | 0, _ =>
        cases ho
        exact ow_move rfl ((hk 5 (by decide)).trans rfl) ⟨_, rfl, rfl, Below.refl _ _, fun h => by cases h⟩
    | 1, _ =>
        cases ho
        have e11 : a.eval (.tmp 11) = _ := hd 0 (by kernel_rfl) (by decide)
        exact lo_nilcheck rfl e11 ⟨_, rfl, rfl, Below.refl _ _, fun h => by cases h⟩
    | 2, _ =>
        cases ho
        have e12 : a.eval (.tmp 12) = _ := hd 1 (by kernel_rfl) (by decide)
        exact lo_field_whole rfl e12 ⟨_, rfl, rfl, Below.refl _ _, fun h => by cases h⟩
    | 3, _ =>
        cases ho
        have e13 : a.eval (.tmp 13) = _ := hd 2 (by kernel_rfl) (by decide)
        exact lo_load_fset rfl e13 (cell_kept hG9 K0.out) ⟨_, rfl, rfl, Below.refl _ _, fun h => by cases h⟩
    | 4, _ =>
        cases ho
        exact lo_load_string rfl ((hk 1 (by decide)).trans rfl) (cell_kept hG9 KA.out) ⟨_, rfl, rfl, Below.refl _ _, fun h => by cases h⟩
    | 5, _ =>
        cases ho
        exact ow_load_texts rfl ((hk 2 (by decide)).trans rfl) (cell_kept hG9 KB.out) ⟨_, rfl, rfl, Below.refl _ _, fun h => by cases h⟩
    | 6, _ =>
        cases ho
        exact ow_move rfl ((hk 5 (by decide)).trans rfl) ⟨_, rfl, rfl, Below.refl _ _, fun h => by cases h⟩
    | 7, _ =>
        cases ho
        have e17 : a.eval (.tmp 17) = _ := hd 6 (by kernel_rfl) (by decide)
        exact lo_bound rfl e17 ⟨_, rfl, rfl, Below.refl _ _, fun h => by cases h⟩
  · intro x u hG hx hdif
    have hG9 : Below w1.heap.size w1 u := ((Below.refl _ _).drew).trans hG
    have e3 : x 3 = .pointer (some ⟨C.F, 0, none⟩) := hx 3 (by decide)
    have e4 : x 4 = .string AR := hx 4 (by decide)
    have e5 : x 5 = .slice Ar L.length cr := hx 5 (by decide)
    have e7 : x 7 = .func (.func 50) #[.pointer (some ⟨C.Wb, 0, none⟩)] #[] := hx 7 (by decide)
    simp only [putAll, Act.put, List.getD_cons_zero, List.getD_cons_succ, List.setIfInBounds_toArray, List.set_cons_succ, List.set_cons_zero]
    refine wpAny_next (i := 8) (by kernel_rfl) rfl rfl ?_
    refine ow_call #[.tmp 14, .tmp 15, .tmp 16, .tmp 18] #[87, 9, 25, 92] 49 Try.func49 (by kernel_rfl) (by rfl) rfl #[x 3, x 4, x 5, x 7] (by simp [Act.eval]) (by rw [e3, e4, e5, e7]; exact HPA.out u hG9) ?_
    rintro e w3 ⟨E, V3, v3, rfl, hp3, he3, hf3, hr3⟩
    refine ⟨_, rfl, ?_⟩
    refine wpAny_next (i := 9) (by kernel_rfl) rfl rfl ?_
    refine ow_move rfl rfl ?_
    have TL := Lib.hid (And.intro hp3 (And.intro he3 (And.intro hf3 hr3)))
    refine' (?main : _ → _) ?tail
    case main =>
      intro key
      refine wpAny_two (i := 10) (j := 11) (by kernel_rfl) rfl rfl rfl rfl ?_ ?_
      · refine lo_extract0 rfl rfl ?_
        refine wpAny_two (i := 11) (j := 12) (by kernel_rfl) rfl rfl rfl rfl ?_ ?_
        · refine lo_extract1 rfl rfl ?_
          refine wpAny_next (i := 12) (by kernel_rfl) rfl rfl ?_
          refine ow_assign rfl rfl ?_
          refine wpAny_last (i := 13) (by kernel_rfl) rfl rfl (by kernel_rfl) ?_
          refine ow_assign rfl rfl ?_
          go_upto_region 2 with fail
          change Code.wp Try.prog _ _ ({ tmps := #[.pointer (some ⟨a, 0, none⟩), .pointer (some ⟨ab, 0, none⟩), .pointer (some ⟨b, 0, none⟩), .pointer (some ⟨lf, 0, none⟩), .pointer (some ⟨d, 0, none⟩), .pointer (some ⟨C.Wb, 0, none⟩), v3, E, .agg #[.slice A C.S.flags.length cap, .bool C.S.plain, .bool C.S.unknown, .int .i64 (C.S.fold : Int)], .pointer (some ⟨C.Wb, 0, none⟩), .tuple #[v3, E], x 0, x 1, x 2, x 3, x 4, x 5, x 6, x 7, .tuple #[v3, E], v3, E, undef, undef, undef, undef, undef, undef], defers := [] } : Act) w3
          exact key
        · refine ow_assign rfl rfl ?_
          refine wpAny_next (i := 11) (by kernel_rfl) rfl rfl ?_
          refine lo_extract1 rfl rfl ?_
          refine wpAny_last (i := 13) (by kernel_rfl) rfl rfl (by kernel_rfl) ?_
          refine ow_assign rfl rfl ?_
          go_upto_region 2 with fail
          change Code.wp Try.prog _ _ ({ tmps := #[.pointer (some ⟨a, 0, none⟩), .pointer (some ⟨ab, 0, none⟩), .pointer (some ⟨b, 0, none⟩), .pointer (some ⟨lf, 0, none⟩), .pointer (some ⟨d, 0, none⟩), .pointer (some ⟨C.Wb, 0, none⟩), v3, E, .agg #[.slice A C.S.flags.length cap, .bool C.S.plain, .bool C.S.unknown, .int .i64 (C.S.fold : Int)], .pointer (some ⟨C.Wb, 0, none⟩), .tuple #[v3, E], x 0, x 1, x 2, x 3, x 4, x 5, x 6, x 7, .tuple #[v3, E], v3, E, undef, undef, undef, undef, undef, undef], defers := [] } : Act) w3
          exact key
      · refine lo_extract1 rfl rfl ?_
        refine wpAny_next (i := 10) (by kernel_rfl) rfl rfl ?_
        refine lo_extract0 rfl rfl ?_
        refine wpAny_next (i := 12) (by kernel_rfl) rfl rfl ?_
        refine ow_assign rfl rfl ?_
        refine wpAny_last (i := 13) (by kernel_rfl) rfl rfl (by kernel_rfl) ?_
        refine ow_assign rfl rfl ?_
        go_upto_region 2 with fail
        change Code.wp Try.prog _ _ ({ tmps := #[.pointer (some ⟨a, 0, none⟩), .pointer (some ⟨ab, 0, none⟩), .pointer (some ⟨b, 0, none⟩), .pointer (some ⟨lf, 0, none⟩), .pointer (some ⟨d, 0, none⟩), .pointer (some ⟨C.Wb, 0, none⟩), v3, E, .agg #[.slice A C.S.flags.length cap, .bool C.S.plain, .bool C.S.unknown, .int .i64 (C.S.fold : Int)], .pointer (some ⟨C.Wb, 0, none⟩), .tuple #[v3, E], x 0, x 1, x 2, x 3, x 4, x 5, x 6, x 7, .tuple #[v3, E], v3, E, undef, undef, undef, undef, undef, undef], defers := [] } : Act) w3
        exact key
    case tail =>
      obtain ⟨hp3, he3, hf3, hr3⟩ := TL.out
      have hf3 := (Fr.of_below hG9).trans hf3
      have l3 : w3.cell? ⟨lf, 0, none⟩ = some (.slice none 0 0) := (cell_blk (hf3.low_of hll HL1.out) 0).trans rfl
      have HD3 := Lib.hid (hf3.low_of hld HD1.out)
      have HL3 := Lib.hid (hf3.low_of hll HL1.out)
      have HB3 := Lib.hid (fun (w4 : World) (h : Below w3.heap.size w3 w4) => below_fr hCB HBL.out hf3 h)
      have HS3 : w.heap.size ≤ w3.heap.size := Nat.le_trans HBL.out.size hf3.size
      obtain ⟨A4, c4, rfl, hr4⟩ := hr3
      have HN := Lib.hid (fun (W : World) (hb : Below w3.heap.size w3 W) => ((show RestAt C w3 (.slice A4 q.2.length c4) q.2 from ⟨A4, c4, rfl, hr4⟩).below hb).news)
      clear e3 e4 e5 e7 hdif hx hG
      refine region_inv (by kernel_rfl) (fun u v => Below u.heap.size u v) (LB2 C.Wb E (.slice A4 q.2.length c4) w3.heap.size (psOf none false q.1) q.1.err C.S.flags.length q.2) (fun i => false) (fun i => [22, 23, 24, 25, 26, 27].getD i 0) 6
        (Below.refl _ _) (fun _ _ _ h k => below_step h k) (fun i hi v u u' h hb => LB2.below hi h hb) ?_ (hgd_none (by kernel_rfl)) (by kernel_rfl) (by kernel_rfl) (by kernel_rfl) (by kernel_rfl) ?_ ?_
      · intro i hi hA; cases hA
      · intro i hi o ho a u hG hk hd
        have hG8 : Below w3.heap.size w3 u := ((Below.refl _ _).drew).trans hG
        match i, hi with
        | 0, _ =>
            cases ho
            exact ow_move rfl ((hk 5 (by decide)).trans rfl) ⟨_, rfl, rfl, Below.refl _ _, fun h => by cases h⟩
        | 1, _ =>
            cases ho
            exact ow_move rfl ((hk 7 (by decide)).trans rfl) ⟨_, rfl, rfl, Below.refl _ _, fun h => by cases h⟩
        | 2, _ =>
            cases ho
            have e22 : a.eval (.tmp 22) = _ := hd 0 (by kernel_rfl) (by decide)
            have e23 : a.eval (.tmp 23) = _ := hd 1 (by kernel_rfl) (by decide)
            refine ow_call #[.tmp 22, .tmp 23, .const (.int .i64 0)] #[82, 85, 3] 51 Try.func51 (by kernel_rfl) (by rfl) rfl #[.pointer (some ⟨C.Wb, 0, none⟩), E, .int .i64 0] (by simp only [List.map_toArray, List.map_cons, List.map_nil, e22, e23]; rfl) (HHE.out V3 E u (hp3.below hG8) (he3.below hG8)) ?_
            rintro e w4 ⟨v4, rfl, ⟨GA, gc, AA, ac, CA, cc, rfl, o1, o2, o3⟩, hb4⟩
            exact ⟨_, rfl, _, rfl, ⟨GA, gc, AA, ac, CA, cc, rfl, own_lower o1 hG8.size, own_lower o2 hG8.size, own_lower o3 hG8.size⟩, hb4, fun h => by cases h⟩
        | 3, _ =>
            cases ho
            exact ow_load_texts rfl ((hk 3 (by decide)).trans rfl) (cell_kept hG8 l3) ⟨_, rfl, rfl, Below.refl _ _, fun h => by cases h⟩
        | 4, _ =>
            cases ho
            exact ow_move rfl ((hk 6 (by decide)).trans rfl) ⟨_, rfl, rfl, Below.refl _ _, fun h => by cases h⟩
        | 5, _ =>
            cases ho
            have e25 : a.eval (.tmp 25) = _ := hd 3 (by kernel_rfl) (by decide)
            have e26 : a.eval (.tmp 26) = _ := hd 4 (by kernel_rfl) (by decide)
            refine lo_append (.tmp 25) (.tmp 26) 25 rfl w3.heap.size 9 ti _ 1 16 Try.underlying25 gi hz0 hz1 hz2 rfl (by decide) _ 0 [] e25 (World.ownsRow_nil u _ _ _) A4 q.2.length c4 (aCells q.2) e26 (HN.out u hG8).2.1 (by rw [aCells_len, Nat.mul_one]) (HN.out u hG8).2.2 (by intro u hu; unfold aCells at hu; obtain ⟨t9, _, rfl⟩ := List.mem_map.1 hu; rfl) (by have := hgl.out; unfold maxLen; omega) (by have := hgl.out; omega) hG8.size ?_
            intro v8 w8 hown8 hg8
            rw [Nat.zero_add] at hown8
            obtain ⟨A8, c8, rfl, _⟩ := own_row hown8
            exact ⟨_, rfl, ⟨A8, c8, rfl, hown8⟩, (Below.refl _ _).grown hg8 (Nat.le_refl _) (fun k hk => by cases hk), fun h => by cases h⟩
      · intro x u hG hx hdif
        have hG8 : Below w3.heap.size w3 u := ((Below.refl _ _).drew).trans hG
        obtain ⟨GA, gc, AA, ac, CA, cc, e2, o1, o2, o3⟩ := hx 2 (by decide)
        obtain ⟨LA, lc, e5, ol⟩ := hx 5 (by decide)
        have e2 : x 2 = .agg (hdCells (psOf none false q.1) q.1.err C.S.flags.length (.slice GA (psOf none false q.1).G.length gc) (.slice AA (psOf none false q.1).A.length ac) (.slice CA (chL (psOf none false q.1).chg C.S.flags.length).length cc)) := e2
        simp only [putAll, Act.put, List.getD_cons_zero, List.getD_cons_succ, List.setIfInBounds_toArray, List.set_cons_succ, List.set_cons_zero]
        have hd4 := block_kept HD3.out hG8
        have hl4 := block_kept HL3.out hG8
        have hl5 : (hdPut u d (psOf none false q.1) q.1.err (.slice GA (psOf none false q.1).G.length gc) (.slice AA (psOf none false q.1).A.length ac) (.slice CA (chL (psOf none false q.1).chg C.S.flags.length).length cc)).heap[lf]? = some (.cells #[.slice none 0 0] 25 (0, 0)) := (hdPut_other _ _ _ _ _ (Ne.symm hne2)).trans hl4
        have HO := Lib.hid (LongPut.of1 (w := w) (s := psOf none false q.1) (er := q.1.err) (n := C.S.flags.length) (ts := q.2) hd4 hl4 hne2 ⟨o1, o2, o3⟩ ol HS3 (HB3.out u hG8))
        refine wpAny_next (i := 6) (by kernel_rfl) rfl rfl ?_
        refine ow_store_hd (p := .tmp 4) (x := .tmp 24) (g := d) (n := C.S.flags.length) (s := psOf none false q.1) (er := q.1.err) (GA := GA) (AA := AA) (CA := CA) (gn := (psOf none false q.1).G.length) (gc := gc) (an := (psOf none false q.1).A.length) (ac := ac) (cn := (chL (psOf none false q.1).chg C.S.flags.length).length) (cc := cc) rfl rfl (by simp [Act.eval]) ((show _ = x 2 by simp [Act.eval]).trans e2) hd4 ?_
        refine wpAny_last (i := 7) (by kernel_rfl) rfl rfl (by kernel_rfl) ?_
        refine lo_store_texts (p := .tmp 3) (x := .tmp 27) (b := lf) (A := LA) (n := q.2.length) (c := lc) rfl rfl (by simp [Act.eval]) ((show _ = x 5 by simp [Act.eval]).trans e5) ((cell_blk hl5 0).trans rfl) (free_blk hl5 0) ?_
        go_wp2
        go_end0
        rw [HQE.out]
        exact ⟨rfl, HO.out⟩
end Go.Proofs.Ytgmhhdpggnmipaa.E

namespace Go.Proofs.Ytgmhhdpggnmipaa.E
open Go.RowKit Go.Proofs
open Go.Maps (Keyed)
set_option linter.unusedVariables false
set_option linter.unusedSimpArgs false
theorem results_cell_row_tmp {P : Program} {fn : Func} {p u : Tmp} {ty : TypeId} (h : fn.results = #[.cell p ty, .tmp u]) (tmps : Array Value) (w : World) (g : Nat) (t : TypeId) (cs : Array Value) (fr : Nat × Nat) (d : TypeDesc)
    (hp : tmps.getD p undef = .pointer (some ⟨g, 0, none⟩)) (hg : w.heap[g]? = some (.cells cs t fr))
    (hu : P.underlying ty = some d) (hd : (match d with | .struct _ | .array _ _ => true | _ => false) = true) (hi : (P.info? ty).map (·.size) = some cs.size) :
    (results fn tmps).run P w = .ok (.tuple #[.agg cs, tmps.getD u undef]) w := by
  have hp' : tmps[p]?.getD undef = .pointer (some ⟨g, 0, none⟩) := by simpa using hp
  simp [results, h, hp', asAddr, run_loadVar_row w g t ty cs fr d hg hu hd hi]
theorem six_at (w : World) (o1 o2 o3 o4 o5 o6 : Obj) : ((((((w.alloc o1).alloc o2).alloc o3).alloc o4).alloc o5).alloc o6).heap[w.heap.size]? = some o1 ∧ ((((((w.alloc o1).alloc o2).alloc o3).alloc o4).alloc o5).alloc o6).heap[w.heap.size + 1]? = some o2 ∧ ((((((w.alloc o1).alloc o2).alloc o3).alloc o4).alloc o5).alloc o6).heap[w.heap.size + 1 + 1]? = some o3 ∧ ((((((w.alloc o1).alloc o2).alloc o3).alloc o4).alloc o5).alloc o6).heap[w.heap.size + 1 + 1 + 1]? = some o4 ∧ ((((((w.alloc o1).alloc o2).alloc o3).alloc o4).alloc o5).alloc o6).heap[w.heap.size + 1 + 1 + 1 + 1]? = some o5 ∧ ((((((w.alloc o1).alloc o2).alloc o3).alloc o4).alloc o5).alloc o6).heap[w.heap.size + 1 + 1 + 1 + 1 + 1]? = some o6 := by
  obtain ⟨h1, h2, h3, h4⟩ := four_at w o1 o2 o3 o4
  have s4 : ((((w.alloc o1).alloc o2).alloc o3).alloc o4).heap.size = w.heap.size + 1 + 1 + 1 + 1 := by simp
  have s5 : (((((w.alloc o1).alloc o2).alloc o3).alloc o4).alloc o5).heap.size = w.heap.size + 1 + 1 + 1 + 1 + 1 := by simp
  have hk : Below ((((w.alloc o1).alloc o2).alloc o3).alloc o4).heap.size ((((w.alloc o1).alloc o2).alloc o3).alloc o4) ((((((w.alloc o1).alloc o2).alloc o3).alloc o4).alloc o5).alloc o6) := ((Below.refl _ _).alloc (Nat.le_refl _) _).alloc (by simp) _
  have hk5 : Below (((((w.alloc o1).alloc o2).alloc o3).alloc o4).alloc o5).heap.size (((((w.alloc o1).alloc o2).alloc o3).alloc o4).alloc o5) ((((((w.alloc o1).alloc o2).alloc o3).alloc o4).alloc o5).alloc o6) := (Below.refl _ _).alloc (Nat.le_refl _) _
  exact ⟨block_kept h1 hk, block_kept h2 hk, block_kept h3 hk, block_kept h4 hk, block_kept (by rw [← s4]; exact heap_alloc_new _ o5) hk5, by rw [← s5]; exact heap_alloc_new _ o6⟩

set_option maxRecDepth 100000 in
/-- impl.guarded over the closure of pub-ensign/impl.Long$1, where nothing panics. -/
theorem guarded_long (ca : Array Value) (X : Nat → Prop) (R : World → Prop) (w : World) (hX : ¬ X w.heap.size)
    (H0 : Calls Try.prog 47 ca (w.alloc (.cells #[.bool false] 4)) fun e w' => e = .returned (.tuple #[]) ∧ Ch (w.alloc (.cells #[.bool false] 4)) w' X ∧ R w') :
    Calls Try.prog 46 #[.func (.func 47) #[] ca] w fun e w' => e = .returned (.bool false) ∧ ∃ w1, Ch (w.alloc (.cells #[.bool false] 4)) w1 X ∧ R w1 ∧ w' = w1.setCell ⟨w.heap.size, 0, none⟩ (.bool false) := by
  have hmf : ∀ (fn : Fn) (first cap : Array Value) (w : World), (Instr.makeFunc fn first cap).run Try.prog w = .ok (.func fn first cap) w := fun _ _ _ _ => rfl
  have H := Lib.hid H0
  clear H0
  go_enter_defers Try.func46, Try.ntmps46
  go_wp2_with (go_at_call 47; refine (H.out).mono ?_; rintro e w1 ⟨rfl, hb1, hr1⟩; have hk1 : w1.heap[w.heap.size]? = some (.cells #[.bool false] 4 (0, 0)) := (hb1.block w.heap.size (by simp) hX).trans (heap_alloc_new w _); have hk3 := cell_of_one hk1; have hk4 := free_of_one hk1; have HR := Lib.hid (And.intro hb1 hr1); clear hb1 hr1)
  refine leaves_cons (f := 70) (args := #[.pointer (some ⟨w.heap.size, 0, none⟩)]) (by simp) (by simp [go_sem]) ?_
  refine (catch_idle ⟨w.heap.size, 0, none⟩ _).mono ?_
  rintro e u' w'' ⟨rfl, rfl, rfl⟩
  have hk5 : (w1.setCell ⟨w.heap.size, 0, none⟩ (.bool false)).cell? ⟨w.heap.size, 0, none⟩ = some (.bool false) := cell_of_one (one_setCell hk1)
  simp [Leaves, settle, results, Try.results46, go_sem, hk5]
  exact ⟨w1, HR.out.1, HR.out.2, rfl⟩

theorem long_after {w W4 w1 : World} {r d lf B : Nat} {s : PS} {er : Er} {n : Nat} {GA AA CA LA : Option Addr} {gc ac cc lc : Nat} {ts : List Txt} (hrd : r ≠ d) (hrl : r ≠ lf) (hdW : d < W4.heap.size) (hlW : lf < W4.heap.size) (hrB : w.heap.size ≤ r) (hdB : w.heap.size ≤ d) (hlB : w.heap.size ≤ lf) (hB : w.heap.size ≤ B) (hb : Below w.heap.size w W4) (q3 : W4.heap[r]? = some (.cells hdZero 32 (0, 0)))
    (hch : Ch (W4.alloc (.cells #[.bool false] 4)) w1 (fun b => b = d ∨ b = lf))
    (h1 : w1.heap[d]? = some (.cells (hdCells s er n (.slice GA s.G.length gc) (.slice AA s.A.length ac) (.slice CA (chL s.chg n).length cc)) 32 (0, 0)))
    (h2 : HdRows B w1 s n (.slice GA s.G.length gc) (.slice AA s.A.length ac) (.slice CA (chL s.chg n).length cc)) (h3 : w1.heap[lf]? = some (.cells #[.slice LA ts.length lc] 25 (0, 0))) (h4 : w1.ownsRow B 9 1 (.slice LA ts.length lc) ts.length (aCells ts)) :
    (w1.setCell ⟨W4.heap.size, 0, none⟩ (.bool false)).heap[r]? = some (.cells hdZero 32 (0, 0)) ∧
    (w1.setCell ⟨W4.heap.size, 0, none⟩ (.bool false)).heap[d]? = some (.cells (hdCells s er n (.slice GA s.G.length gc) (.slice AA s.A.length ac) (.slice CA (chL s.chg n).length cc)) 32 (0, 0)) ∧
    HdRows w.heap.size (w1.setCell ⟨W4.heap.size, 0, none⟩ (.bool false)) s n (.slice GA s.G.length gc) (.slice AA s.A.length ac) (.slice CA (chL s.chg n).length cc) ∧
    (w1.setCell ⟨W4.heap.size, 0, none⟩ (.bool false)).heap[lf]? = some (.cells #[.slice LA ts.length lc] 25 (0, 0)) ∧
    (w1.setCell ⟨W4.heap.size, 0, none⟩ (.bool false)).ownsRow w.heap.size 9 1 (.slice LA ts.length lc) ts.length (aCells ts) ∧
    Below w.heap.size w (w1.setCell ⟨W4.heap.size, 0, none⟩ (.bool false)) := by
  have hl : W4.heap.size < (W4.alloc (.cells #[.bool false] 4)).heap.size := by simp
  have hlr := lt_of_block q3
  have hbx : w1.heap[W4.heap.size]? = some (.cells #[.bool false] 4 (0, 0)) := (hch.block W4.heap.size hl (by omega)).trans (heap_alloc_new W4 _)
  have h45 : Below W4.heap.size W4 (W4.alloc (.cells #[.bool false] 4)) := (Below.refl _ _).alloc (Nat.le_refl _) _
  refine ⟨?_, ?_, ?_, ?_, ?_, ?_⟩
  · rw [blk_other (show r ≠ W4.heap.size by omega), hch.block _ (by omega) (by omega)]
    exact block_kept q3 h45
  · rw [blk_other (show d ≠ W4.heap.size by omega)]; exact h1
  · exact (h2.mono hB).blk W4.heap.size hbx (by decide) (by decide) (by decide) (fun b _ ne => blk_other ne)
  · rw [blk_other (show lf ≠ W4.heap.size by omega)]; exact h3
  · exact own_of_blk (own_lower h4 hB) (fun g hg => blk_other (fun e => by subst e; exact own_far3 h4 hbx (by decide) hg))
  · refine Below.setCell (p := ⟨W4.heap.size, 0, none⟩) ?_ (by show w.heap.size ≤ W4.heap.size; omega) _
    exact below_ch (hb.trans (h45.mono (by omega))) hch (fun b hlt => by omega)
/-- What impl.Long leaves. -/
def LongEnd (w : World) (s : PS) (er : Er) (n : Nat) (ts : List Txt) (e : Ending) (w' : World) : Prop :=
  ∃ GA gc AA ac CA cc LA lc, e = .returned (.tuple #[.agg (hdCells s er n (.slice GA s.G.length gc) (.slice AA s.A.length ac) (.slice CA (chL s.chg n).length cc)), .slice LA ts.length lc]) ∧ HdRows w.heap.size w' s n (.slice GA s.G.length gc) (.slice AA s.A.length ac) (.slice CA (chL s.chg n).length cc) ∧ w'.ownsRow w.heap.size 9 1 (.slice LA ts.length lc) ts.length (aCells ts) ∧ Below w.heap.size w w'
set_option maxRecDepth 100000 in
set_option maxHeartbeats 1600000 in
theorem implLong_any (S : SetP) (hR : Right S) (A : Option Addr) (cap : Nat) (t : Txt) (L : List Txt) (Ar : Option Addr) (cr : Nat) (w : World) (hx : StrsAt w Ar (L.map mkT)) (hxc : L.length ≤ cr) (hxm : cr ≤ 9223372036854775807) (hx0 : Ar = none → cr = 0) (hxb : ∀ q, Ar = some q → q.block < w.heap.size) (hrl : L.length ≤ 1099511627776) (ht : t.length ≤ 8589934592) (hls : ∀ t ∈ L, t.length ≤ 8589934592) (hA : FlagsAt w A S.flags) (hlow : LowBad w A S.flags w.heap.size) (hn : S.flags.length ≤ 17179869184) (hsz : ∀ i (h : i < S.flags.length), (S.flags[i].name).length ≤ 17179869184) :
    Calls Try.prog 18 #[.agg #[.slice A S.flags.length cap, .bool S.plain, .bool S.unknown, .int .i64 S.fold], .string (mkT (45 :: 45 :: t)), .slice Ar L.length cr] w (LongEnd w (psOf none false (longP S none st0 (45 :: 45 :: t) L).1) (longP S none st0 (45 :: 45 :: t) L).1.err S.flags.length (longP S none st0 (45 :: 45 :: t) L).2) := by
  have hmf : ∀ (fn : Fn) (first cap : Array Value) (w : World), (Instr.makeFunc fn first cap).run Try.prog w = .ok (.func fn first cap) w := fun _ _ _ _ => rfl
  obtain ⟨q1, qa, q2, q3, q4, q5⟩ := six_at w (.cells #[.slice A S.flags.length cap, .bool S.plain, .bool S.unknown, .int .i64 S.fold] 24) (.cells #[.string (mkT (45 :: 45 :: t))] 9) (.cells #[.slice Ar L.length cr] 25) (.cells hdZero 32) (.cells hdZero 32) (.cells #[.slice none 0 0] 25)
  generalize hW4 : ((((((w.alloc (.cells #[.slice A S.flags.length cap, .bool S.plain, .bool S.unknown, .int .i64 S.fold] 24)).alloc (.cells #[.string (mkT (45 :: 45 :: t))] 9)).alloc (.cells #[.slice Ar L.length cr] 25)).alloc (.cells hdZero 32)).alloc (.cells hdZero 32)).alloc (.cells #[.slice none 0 0] 25)) = W4 at q1 qa q2 q3 q4 q5
  have hs4 : W4.heap.size = w.heap.size + 1 + 1 + 1 + 1 + 1 + 1 := by rw [← hW4]; simp
  have hb4 : Below w.heap.size w W4 := by rw [← hW4]; exact ((((((Below.refl _ w).alloc (Nat.le_refl _) _).alloc (by simp) _).alloc (by simp; omega) _).alloc (by simp; omega) _).alloc (by simp; omega) _).alloc (by simp; omega) _
  have h45 : Below W4.heap.size W4 (W4.alloc (.cells #[.bool false] 4)) := (Below.refl _ _).alloc (Nat.le_refl _) _
  have hb5 : Below w.heap.size w (W4.alloc (.cells #[.bool false] 4)) := hb4.trans (h45.mono hb4.size)
  have hpc := lclos_any S hR A cap t L Ar cr (w.heap.size) (w.heap.size + 1) (w.heap.size + 1 + 1) (w.heap.size + 1 + 1 + 1 + 1 + 1) (w.heap.size + 1 + 1 + 1 + 1) (W4.alloc (.cells #[.bool false] 4)) (strsAt_below hx hb5) hxc hxm hx0 (fun q hq => Nat.lt_of_lt_of_le (hxb q hq) hb5.size) hrl ht hls (hA.below hb5) ((hlow.below hA hb5).mono hb5.size) hn hsz (block_kept q1 h45) (block_kept qa h45) (block_kept q2 h45) (block_kept q5 h45) (block_kept q4 h45)
  generalize longP S none st0 (45 :: 45 :: t) L = q at hpc ⊢
  have hgu := guarded_long #[.pointer (some ⟨w.heap.size, 0, none⟩), .pointer (some ⟨w.heap.size + 1, 0, none⟩), .pointer (some ⟨w.heap.size + 1 + 1, 0, none⟩), .pointer (some ⟨w.heap.size + 1 + 1 + 1 + 1 + 1, 0, none⟩), .pointer (some ⟨w.heap.size + 1 + 1 + 1 + 1, 0, none⟩)] (fun b => b = w.heap.size + 1 + 1 + 1 + 1 ∨ b = w.heap.size + 1 + 1 + 1 + 1 + 1)
    (fun w1 => ∃ GA gc AA ac CA cc LA lc, w1.heap[w.heap.size + 1 + 1 + 1 + 1]? = some (.cells (hdCells (psOf none false q.1) q.1.err S.flags.length (.slice GA (psOf none false q.1).G.length gc) (.slice AA (psOf none false q.1).A.length ac) (.slice CA (chL (psOf none false q.1).chg S.flags.length).length cc)) 32 (0, 0)) ∧
      HdRows (w.heap.size + 1 + 1 + 1 + 1 + 1 + 1) w1 (psOf none false q.1) S.flags.length (.slice GA (psOf none false q.1).G.length gc) (.slice AA (psOf none false q.1).A.length ac) (.slice CA (chL (psOf none false q.1).chg S.flags.length).length cc) ∧ w1.heap[w.heap.size + 1 + 1 + 1 + 1 + 1]? = some (.cells #[.slice LA q.2.length lc] 25 (0, 0)) ∧ w1.ownsRow (w.heap.size + 1 + 1 + 1 + 1 + 1 + 1) 9 1 (.slice LA q.2.length lc) q.2.length (aCells q.2)) W4 (by rw [hs4]; omega)
    (hpc.mono fun e w' ⟨he, GA, gc, AA, ac, CA, cc, LA, lc, h1, h2, h3, h4, h5⟩ => ⟨he, h5, GA, gc, AA, ac, CA, cc, LA, lc, h1, h2.mono (by simp [hs4]), h3, own_lower h4 (by simp [hs4])⟩)
  have HG := Lib.hid hgu
  have HB4 := Lib.hid hb4
  have HS4 := Lib.hid hs4
  have HQ3 := Lib.hid q3
  generalize q.2 = ts at HG ⊢
  generalize q.1.err = er at HG ⊢
  generalize psOf none false q.1 = s at HG ⊢
  unfold hdZero at hW4
  generalize mkT (45 :: 45 :: t) = AR at hW4 ⊢
  clear hgu hpc hb5 h45 hb4 q1 qa q2 q3 q4 q5 hx hxc hxm hx0 hxb hrl ht hls hA hlow hn hsz hR hs4
  go_enter Try.func18, Try.ntmps18
  go_wp2_with (go_at_call 46; (first | rw [hW4] | skip); refine (HG.out).mono ?_; rintro e w2 ⟨rfl, w1, hch, ⟨GA, gc, AA, ac, CA, cc, LA, lc, h1, h2, h3, h4⟩, rfl⟩; obtain ⟨t1, t2, t3, t5, t6, t4⟩ := long_after (r := w.heap.size + 1 + 1 + 1) (d := w.heap.size + 1 + 1 + 1 + 1) (lf := w.heap.size + 1 + 1 + 1 + 1 + 1) (B := w.heap.size + 1 + 1 + 1 + 1 + 1 + 1) (by omega) (by omega) (by rw [HS4.out]; omega) (by rw [HS4.out]; omega) (by omega) (by omega) (by omega) (by omega) HB4.out HQ3.out hch h1 h2 h3 h4; clear hch h1 h2 h3 h4; generalize (w1.setCell ⟨W4.heap.size, 0, none⟩ (.bool false)) = w2 at t1 t2 t3 t4 t5 t6 ⊢; obtain ⟨c0, c1, c2, c3, c4, c5, c6, c7, c8, c9, c10⟩ := hd_reads t2; obtain ⟨z0, z1, z2, z3, z4, z5, z6, z7, z8, z9, z10⟩ := hd_zeros t1; have zf := free_blk t1; have zl := lt_of_block t1; have l5 : w2.cell? ⟨w.heap.size + 1 + 1 + 1 + 1 + 1, 0, none⟩ = some (.slice LA ts.length lc) := (cell_blk t5 0).trans rfl; have H1 := Lib.hid t1; have H3 := Lib.hid t3; have H4 := Lib.hid t4; have H6 := Lib.hid t6; clear t1 t2 t3 t4 t5 t6)
  go_region
  all_goals go_wp2
  have hdr : Below (hdPut w2 (w.heap.size + 1 + 1 + 1) s er (.slice GA s.G.length gc) (.slice AA s.A.length ac) (.slice CA (chL s.chg S.flags.length).length cc)).heap.size (hdPut w2 (w.heap.size + 1 + 1 + 1) s er (.slice GA s.G.length gc) (.slice AA s.A.length ac) (.slice CA (chL s.chg S.flags.length).length cc)) (hdPut w2 (w.heap.size + 1 + 1 + 1) s er (.slice GA s.G.length gc) (.slice AA s.A.length ac) (.slice CA (chL s.chg S.flags.length).length cc)).drew := (Below.refl _ _).drew
  have hr := H3.out.blk (w' := hdPut w2 (w.heap.size + 1 + 1 + 1) s er (.slice GA s.G.length gc) (.slice AA s.A.length ac) (.slice CA (chL s.chg S.flags.length).length cc)) (w.heap.size + 1 + 1 + 1) H1.out (by decide) (by decide) (by decide) (fun b _ ne => hdPut_other s er _ _ _ ne)
  have ho := own_of_blk H6.out (fun g hg => hdPut_other s er (.slice GA s.G.length gc) (.slice AA s.A.length ac) (.slice CA (chL s.chg S.flags.length).length cc) (fun e => by subst e; exact own_far3 H6.out H1.out (by decide) hg))
  have hbb := hdPut_below s er (.slice GA s.G.length gc) (.slice AA s.A.length ac) (.slice CA (chL s.chg S.flags.length).length cc) H4.out (show w.heap.size ≤ w.heap.size + 1 + 1 + 1 by omega)
  have hbk := block_kept (hdPut_blk s er S.flags.length (.slice GA s.G.length gc) (.slice AA s.A.length ac) (.slice CA (chL s.chg S.flags.length).length cc) H1.out) hdr
  change bodyPost _ _ _ _ _ (hdPut w2 (w.heap.size + 1 + 1 + 1) s er (.slice GA s.G.length gc) (.slice AA s.A.length ac) (.slice CA (chL s.chg S.flags.length).length cc)).drew
  generalize (hdPut w2 (w.heap.size + 1 + 1 + 1) s er (.slice GA s.G.length gc) (.slice AA s.A.length ac) (.slice CA (chL s.chg S.flags.length).length cc)).drew = w9 at hdr hbk ⊢
  refine bodyPost_ret (results_cell_row_tmp (u := 7) rfl _ _ (w.heap.size + 1 + 1 + 1) 32 (hdCells s er S.flags.length (.slice GA s.G.length gc) (.slice AA s.A.length ac) (.slice CA (chL s.chg S.flags.length).length cc)) (0, 0) _ rfl hbk Try.underlying32 rfl (by kernel_rfl)) rfl ⟨GA, gc, AA, ac, CA, cc, LA, lc, rfl, hr.below hdr, own_kept ho hdr, hbb.trans (hdr.mono hbb.size)⟩
end Go.Proofs.Ytgmhhdpggnmipaa.E
