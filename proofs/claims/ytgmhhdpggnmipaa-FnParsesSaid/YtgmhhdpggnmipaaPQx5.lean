-- Written by ext_print.py (a wrapper round the print), with given contracts. Not trusted: Lean checks it.
import Derived.Test.YtgmhhdpggnmipaaPQx0
import Derived.Test.YtgmhhdpggnmipaaPQx2
namespace Go.Proofs.Ytgmhhdpggnmipaa.PQ
open Go.RowKit Go.Proofs.YtgmhhdpggnmipaaW.PrintWords Go.Proofs.YtgmhhdpggnmipaaW.PrintLast
set_option linter.unusedVariables false
set_option linter.unusedSimpArgs false

/-! ### spec_Changed: function 21 -/
mutual
def spec_Changed.l0 : Nat → List (S57) → List Int → Int → Int → Option (List Int)
  | 0, _, _, _, _ => none
  | k + 1, x1, x5, x11, x12 => if x12 < x11 then (spec_Changed.l1 k x1 x5 x12 x11 x12 x1 (x1.length : Int) 0) else (some x5)
def spec_Changed.l1 : Nat → List (S57) → List Int → Int → Int → Int → List (S57) → Int → Int → Option (List Int)
  | 0, _, _, _, _, _, _, _, _ => none
  | k + 1, x1, x5, x6, x11, x12, x15, x16, x17 => if x17 < x16 then (if 0 ≤ x17 then (if x17 < (x15.length : Int) then (if ((rd_T57 x15 x17).f0) = x6 then (if x5.length < 17592186044416 then (spec_Changed.l0 k x1 (x5 ++ [x6]) x11 (wrap64 (x12 + 1))) else (none)) else (spec_Changed.l1 k x1 x5 x6 x11 x12 x15 x16 (wrap64 (x17 + 1)))) else (none)) else (none)) else (spec_Changed.l0 k x1 x5 x11 (wrap64 (x12 + 1)))
end
def spec_Changed.f (k : Nat) (l0_0 : List (S47)) (a0_1 : Bool) (a0_2 : Bool) (a0_3 : Int) (l1 : List (S57)) : Option (List Int) := spec_Changed.l0 k l1 ([] : List Int) (l0_0.length : Int) 0
theorem spec_Changed.mono_l : ∀ k, (∀ y0 y1 y2 y3, LeO (spec_Changed.l0 k y0 y1 y2 y3) (spec_Changed.l0 (k + 1) y0 y1 y2 y3)) ∧ (∀ y0 y1 y2 y3 y4 y5 y6 y7, LeO (spec_Changed.l1 k y0 y1 y2 y3 y4 y5 y6 y7) (spec_Changed.l1 (k + 1) y0 y1 y2 y3 y4 y5 y6 y7))
  | 0 => ⟨fun _ _ _ _ r h => by simp [spec_Changed.l0] at h, fun _ _ _ _ _ _ _ _ r h => by simp [spec_Changed.l1] at h⟩
  | k + 1 => by
    obtain ⟨ih0, ih1⟩ := spec_Changed.mono_l k
    refine ⟨?_, ?_⟩
    · intro y0 y1 y2 y3
      unfold spec_Changed.l0
      repeat' first
      | (with_reducible exact ih0 _ _ _ _)
      | (with_reducible exact ih1 _ _ _ _ _ _ _ _)
      | (with_reducible exact LeO.refl _)
      | (with_reducible exact LeO.none _)
      | (with_reducible refine LeO.ite ?_ ?_)
      | (with_reducible refine LeO.bind ?_ (fun _ => ?_))
      | exact ih0 _ _ _ _
      | exact ih1 _ _ _ _ _ _ _ _
      | exact LeO.none _
      | refine LeO.ite ?_ ?_
      | refine LeO.bind ?_ (fun _ => ?_)
    · intro y0 y1 y2 y3 y4 y5 y6 y7
      unfold spec_Changed.l1
      repeat' first
      | (with_reducible exact ih0 _ _ _ _)
      | (with_reducible exact ih1 _ _ _ _ _ _ _ _)
      | (with_reducible exact LeO.refl _)
      | (with_reducible exact LeO.none _)
      | (with_reducible refine LeO.ite ?_ ?_)
      | (with_reducible refine LeO.bind ?_ (fun _ => ?_))
      | exact ih0 _ _ _ _
      | exact ih1 _ _ _ _ _ _ _ _
      | exact LeO.none _
      | refine LeO.ite ?_ ?_
      | refine LeO.bind ?_ (fun _ => ?_)
theorem spec_Changed.mono : ∀ a0 a1 a2 a3 a4 k, LeO (spec_Changed.f k a0 a1 a2 a3 a4) (spec_Changed.f (k + 1) a0 a1 a2 a3 a4) := by
  intro a0 a1 a2 a3 a4 k
  obtain ⟨ih0, ih1⟩ := spec_Changed.mono_l k
  unfold spec_Changed.f
  repeat' first
      | (with_reducible exact ih0 _ _ _ _)
      | (with_reducible exact ih1 _ _ _ _ _ _ _ _)
      | (with_reducible exact LeO.refl _)
      | (with_reducible exact LeO.none _)
      | (with_reducible refine LeO.ite ?_ ?_)
      | (with_reducible refine LeO.bind ?_ (fun _ => ?_))
      | exact ih0 _ _ _ _
      | exact ih1 _ _ _ _ _ _ _ _
      | exact LeO.none _
      | refine LeO.ite ?_ ?_
      | refine LeO.bind ?_ (fun _ => ?_)
set_option maxHeartbeats 8000000 in
set_option maxRecDepth 100000 in
theorem spec_Changed.calls (k : Nat) (A0_0 : Option Addr) (c0_0 : Nat) (l0_0 : List (S47)) (a0_1 : Bool) (a0_2 : Bool) (a0_3 : Int) (A1 : Option Addr) (c1 : Nat) (l1 : List (S57)) (r : List Int) (w : World) (hr0_0 : Kd.C k47 w A0_0 l0_0.length l0_0) (hc0_0 : l0_0.length ≤ c0_0) (hr1 : Kd.C k57 w A1 l1.length l1) (hc1 : l1.length ≤ c1) (h : spec_Changed.f k l0_0 a0_1 a0_2 a0_3 l1 = some r) :
    Calls Try.prog 21 #[.agg #[.slice A0_0 l0_0.length c0_0, .bool a0_1, .bool a0_2, .int .i64 a0_3], .slice A1 l1.length c1] w fun e w' => ∃ v0_ : Value, e = .returned (v0_) ∧ Kd.R (Kd.int .i64) 3 w' w.heap.size (fun _ => True) v0_ r ∧ Below w.heap.size w w' := by
  have hu24 := Try.underlying24
  have hu57 := Try.underlying57
  have HR0_0 := Aside0.mk hr0_0
  have HC0_0 := Aside0.mk hc0_0
  clear hr0_0 hc0_0
  have HR1 := Aside0.mk hr1
  have HC1 := Aside0.mk hc1
  clear hr1 hc1
  have HB := Aside0.mk (Below.refl w.heap.size w)
  have H : (spec_Changed.l0 k l1 ([] : List Int) (l0_0.length : Int) 0) = some r := h
  clear h
  have H' := Aside0.mk H
  clear H
  go_enter Try.func21, Try.ntmps21
  go_wp2_with (first | ((with_reducible refine gate_dst (N := 2) rfl ?_); refine box_event ?hg (N := 2) ?hd (cs := #[.slice A0_0 l0_0.length c0_0, .bool a0_1, .bool a0_2, .int .i64 a0_3]) (t := 24) ?hr ?_; (case hd => rfl); (case hg => rfl); (case hr => first | (go_simp; done) | (go_simp; rfl)); intro gb126 hg w3 hbox hb; have n0_ := Aside0.mk (below_step (by repeat (first | (with_reducible first | exact HB.out | apply below_alloc | apply pw_below_drewN | apply below_drew1) | exact HB.out)) hb); have n1_ := Aside0.mk (hbox); have n2_ := Aside0.mk ((by rw [hg]; exact (below_size (by repeat (first | (with_reducible first | exact HB.out | apply below_alloc | apply pw_below_drewN | apply below_drew1) | exact HB.out))) : w.heap.size ≤ gb126)); have n3_ := Aside0.mk ((by rw [hg]; exact (below_size (by repeat (first | (with_reducible first | exact HB.out | apply below_alloc | apply pw_below_drewN | apply below_drew1) | exact HB.out))) : w.heap.size ≤ gb126)); clear HB; have HB := n0_; have BK126 := n1_; have GW126 := n2_; have GE126 := n3_; clear n0_ n1_ n2_ n3_; clear hb hbox hg; have hcz4_0 : w3.cell? ⟨gb126, 0, none⟩ = some (.slice A0_0 l0_0.length c0_0) := (blk_cell BK126.out 0).trans rfl; have hcz4_1 : w3.cell? ⟨gb126, 1, none⟩ = some (.bool a0_1) := (blk_cell BK126.out 1).trans rfl; have hcz4_2 : w3.cell? ⟨gb126, 2, none⟩ = some (.bool a0_2) := (blk_cell BK126.out 2).trans rfl; have hcz4_3 : w3.cell? ⟨gb126, 3, none⟩ = some (.int .i64 a0_3) := (blk_cell BK126.out 3).trans rfl; have hfz4_0 := blk_frozen BK126.out 0; have hfz4_1 := blk_frozen BK126.out 1; have hfz4_2 := blk_frozen BK126.out 2; have hfz4_3 := blk_frozen BK126.out 3))
  go_loopg [5, 12] k (fun kq v5 v12 w' => ∃ (x5_1 : List Int) (x12_1 : Int), v12 = .int .i64 x12_1 ∧ Aside0 (spec_Changed.l0 kq l1 x5_1 (l0_0.length : Int) x12_1 = some r) ∧ Aside0 (kq ≤ k) ∧ Aside0 (Kd.R (Kd.int .i64) 3 w' w.heap.size (fun _ => True) v5 x5_1) ∧ Aside0 (w'.heap[gb126]? = some (.cells #[(.slice A0_0 l0_0.length c0_0), .bool a0_1, .bool a0_2, .int .i64 a0_3] 24 (0, 0))) ∧ Aside0 (Below w.heap.size w w'))
  case atStart => exact ⟨(([] : List Int)), (0), (by first | rfl | (simp; done) | (simp [*]; done)), H', ⟨Nat.le_refl _⟩, ⟨by first | exact Kd.R_nil _ _ _ _ _ | exact Kd.N_nil _ _ _ _ _ | exact Kd.V_nil _ _ _ _ _ | exact Kd.Q_nil _ _ _ _ _ | exact Kd.S_nil _ _ _ _ _⟩, ⟨by (with_reducible repeat (first | refine blk_drewN ?_ _ | refine blk_drew ?_ | refine blk_alloc ?_ _)); exact BK126.out⟩, ⟨by repeat (first | (with_reducible first | exact HB.out | apply below_alloc | apply pw_below_drewN | apply below_drew1 | refine below_set ?_ GE126.out) | exact HB.out)⟩⟩
  case round =>
    clear H'
    try clear c1
    try clear c2
    try clear p2
    try clear hcz4_0
    try clear hcz4_1
    try clear hcz4_2
    try clear hcz4_3
    try clear hfz4_0
    try clear hfz4_1
    try clear hfz4_2
    try clear hfz4_3
    obtain ⟨x5_1, x12_1, rfl, HA, HK1, HO_5, BK126, HB⟩ := hrel
    cases gk with
    | zero => exact absurd HA.out (by simp [spec_Changed.l0])
    | succ k1 =>
      have H := HA.out
      clear HA
      simp only [spec_Changed.l0] at H
      by_cases c5 : x12_1 < (l0_0.length : Int)
      · rw [if_pos c5] at H
        have c5b0 : decide (x12_1 < (l0_0.length : Int)) = true := decide_eq_true c5
        clear c5
        have H' := Aside0.mk H
        clear H
        go_wp2
        go_loopg [5, 17] k1 (fun kq v5 v17 w' => ∃ (x5_2 : List Int) (x17_2 : Int), v17 = .int .i64 x17_2 ∧ Aside0 (spec_Changed.l1 kq l1 x5_2 x12_1 (l0_0.length : Int) x12_1 l1 (l1.length : Int) x17_2 = some r) ∧ Aside0 (kq ≤ k1) ∧ Aside0 (Kd.R (Kd.int .i64) 3 w' w.heap.size (fun _ => True) v5 x5_2) ∧ Aside0 (w'.heap[gb126]? = some (.cells #[(.slice A0_0 l0_0.length c0_0), .bool a0_1, .bool a0_2, .int .i64 a0_3] 24 (0, 0))) ∧ Aside0 (Below w.heap.size w w'))
        case atStart => exact ⟨(x5_1), (0), (by first | rfl | (simp; done) | (simp [*]; done)), H', ⟨Nat.le_refl _⟩, ⟨by (with_reducible repeat (first | apply Kd.R_alloc | apply Kd.R_drewN | apply Kd.R_drew)); exact HO_5.out⟩, ⟨by (with_reducible repeat (first | refine blk_drewN ?_ _ | refine blk_drew ?_ | refine blk_alloc ?_ _)); exact BK126.out⟩, ⟨by repeat (first | (with_reducible first | exact HB.out | apply below_alloc | apply pw_below_drewN | apply below_drew1 | refine below_set ?_ GE126.out) | exact HB.out)⟩⟩
        case round =>
          clear H'
          try clear c1
          try clear c2
          try clear p2
          try clear c5
          try clear c5b0
          try clear hcz4_0
          try clear hcz4_1
          try clear hcz4_2
          try clear hcz4_3
          try clear hfz4_0
          try clear hfz4_1
          try clear hfz4_2
          try clear hfz4_3
          try clear p2
          obtain ⟨x5_2, x17_2, rfl, HA, HK2, HO_5, BK126, HB⟩ := hrel
          cases gk with
          | zero => exact absurd HA.out (by simp [spec_Changed.l1])
          | succ k2 =>
            have H := HA.out
            clear HA
            simp only [spec_Changed.l1] at H
            by_cases c6 : x17_2 < (l1.length : Int)
            · rw [if_pos c6] at H
              have c6b0 : decide (x17_2 < (l1.length : Int)) = true := decide_eq_true c6
              clear c6
              by_cases c7 : 0 ≤ x17_2
              · rw [if_pos c7] at H
                have c7b0 : decide (0 ≤ x17_2) = true := decide_eq_true c7
                clear c7
                by_cases c8 : x17_2 < (l1.length : Int)
                · rw [if_pos c8] at H
                  have c8b0 : decide (x17_2 < (l1.length : Int)) = true := decide_eq_true c8
                  clear c8
                  by_cases c9 : ((rd_T57 l1 x17_2).f0) = x12_1
                  · rw [if_pos c9] at H
                    have c9b0 : (((rd_T57 l1 x17_2).f0) == x12_1) = true := beq_iff_eq.mpr c9
                    have c9b1 : (((rd_T57 l1 x17_2).f0) != x12_1) = false := bne_eq_false_iff_eq.mpr c9
                    clear c9
                    by_cases c10 : x5_2.length < 17592186044416
                    · rw [if_pos c10] at H
                      have LMc10 := Aside0.mk c10
                      clear c10
                      obtain ⟨y129, hy129⟩ : ∃ y_ : List Int, y_ = (x5_2 ++ [x12_1]) := ⟨_, rfl⟩
                      replace H : (spec_Changed.l0 k2 l1 y129 (l0_0.length : Int) (wrap64 (x12_1 + 1))) = some r := by first | (rw [hy129]; with_reducible exact H) | (have H2_ := (Option.bind_some _ _).symm.trans H; rw [hy129]; with_reducible exact H2_) | (have H2_ := (Option.bind_some _ _).symm.trans H; with_reducible exact H2_) | with_reducible exact H | (rw [hy129]; exact H) | exact H
                      have Ny129 := Aside0.mk hy129
                      clear hy129
                      have H' := Aside0.mk H
                      clear H
                      have p127 : 0 ≤ (x17_2 : Int) := of_decide_eq_true (by first | (with_reducible assumption) | assumption)
                      have q127 : x17_2 < (l1.length : Int) := of_decide_eq_true (by first | (with_reducible assumption) | assumption)
                      obtain ⟨ad127, e127, hx127_0, hx127_1⟩ := at_T57 HR1.out x17_2 p127 q127
                      cases e127
                      replace hx127_0 := (HB.out.cell (World.block_lt_of_cell? w _ hx127_0)).trans hx127_0
                      replace hx127_1 := (HB.out.cell (World.block_lt_of_cell? w _ hx127_1)).trans hx127_1
                      replace p127 := eq_true p127
                      replace q127 := eq_true q127
                      go_wp2_with (first | ((with_reducible refine gate_dst (N := 8) rfl ?_); refine box_event ?hg (N := 8) ?hd (cs := #[.int .i64 0, .string (⟨#[]⟩ : ByteArray)]) (t := 57) ?hr ?_; (case hd => rfl); (case hg => rfl); (case hr => first | (go_simp; done) | (go_simp; rfl)); intro gb128 hg w11 hbox hb; have n0_ := Aside0.mk (Kd.R_below (by (with_reducible repeat (first | apply Kd.R_alloc | apply Kd.R_drewN | apply Kd.R_drew)); exact HO_5.out) hb); have n1_ := Aside0.mk (blk_below (g := gb126) (o := .cells #[.slice A0_0 l0_0.length c0_0, .bool a0_1, .bool a0_2, .int .i64 a0_3] 24 (0, 0)) (by (with_reducible repeat (first | refine blk_drewN ?_ _ | refine blk_drew ?_ | refine blk_alloc ?_ _)); exact BK126.out) hb); have n2_ := Aside0.mk (below_step (by repeat (first | (with_reducible first | exact HB.out | apply below_alloc | apply pw_below_drewN | apply below_drew1 | refine below_set ?_ GE126.out) | exact HB.out)) hb); have n3_ := Aside0.mk (hbox); have n4_ := Aside0.mk ((by rw [hg]; exact (below_size (by repeat (first | (with_reducible first | exact HB.out | apply below_alloc | apply pw_below_drewN | apply below_drew1 | refine below_set ?_ GE126.out) | exact HB.out))) : w.heap.size ≤ gb128)); have n5_ := Aside0.mk ((by rw [hg]; exact (below_size (by repeat (first | (with_reducible first | exact HB.out | apply below_alloc | apply pw_below_drewN | apply below_drew1 | refine below_set ?_ GE126.out) | exact HB.out))) : w.heap.size ≤ gb128)); have n6_ := Aside0.mk ((by rw [hg]; exact Nat.ne_of_lt (blk_lt (g := gb126) (o := .cells #[.slice A0_0 l0_0.length c0_0, .bool a0_1, .bool a0_2, .int .i64 a0_3] 24 (0, 0)) (by (with_reducible repeat (first | refine blk_drewN ?_ _ | refine blk_drew ?_ | refine blk_alloc ?_ _)); exact BK126.out)) : gb126 ≠ gb128)); have n7_ := Aside0.mk ((by rw [hg]; exact Nat.ne_of_gt (blk_lt (g := gb126) (o := .cells #[.slice A0_0 l0_0.length c0_0, .bool a0_1, .bool a0_2, .int .i64 a0_3] 24 (0, 0)) (by (with_reducible repeat (first | refine blk_drewN ?_ _ | refine blk_drew ?_ | refine blk_alloc ?_ _)); exact BK126.out)) : gb128 ≠ gb126)); clear HO_5; clear BK126; clear HB; have HO_5 := n0_; have BK126 := n1_; have HB := n2_; have BK128 := n3_; have GW128 := n4_; have GE128 := n5_; have NB126_128 := n6_; have NB128_126 := n7_; clear n0_ n1_ n2_ n3_ n4_ n5_ n6_ n7_; clear hb hbox hg; have hnb12 := NB128_126.out; have hnc12 := NB126_128.out; have hcz13_0 : w11.cell? ⟨gb128, 0, none⟩ = some (.int .i64 0) := (blk_cell BK128.out 0).trans rfl; have hcz13_1 : w11.cell? ⟨gb128, 1, none⟩ = some (.string (⟨#[]⟩ : ByteArray)) := (blk_cell BK128.out 1).trans rfl; have hfz13_0 := blk_frozen BK128.out 0; have hfz13_1 := blk_frozen BK128.out 1) | ((with_reducible refine gate_builtin (b := .append) (xs := #[.tmp 25, .tmp 27]) rfl ?_); at_builtin; refine Kd.R_append (Kd.int .i64) (w0 := w) w.heap.size rfl (.tmp 25) (.tmp 27) 30 3 (.int .i64 0) 8 rfl Try.underlying30 info3 rfl (by decide) (by omega) u5 x5_2 x12_1 [.int .i64 x12_1] (fun _ => True) (fun _ => False) rfl (by first | (go_simp; done) | (go_simp; rfl)) ?aP (fun _ hk => hk.elim) ?aF ?aO ?aB ?aS ?aL ?_; (case aP => exact rfl); (case aB => exact (by repeat (first | (with_reducible first | exact HB.out | apply below_alloc | apply pw_below_drewN | apply below_drew1 | refine below_set ?_ GE126.out | refine below_set ?_ GE128.out) | exact HB.out))); (case aF => exact (fun _ _ => trivial)); (case aO => exact (by (with_reducible repeat (first | apply Kd.R_alloc | apply Kd.R_drewN | apply Kd.R_drew)); exact Kd.R_mono (Kd.R_far (p := ⟨gb128, 1, none⟩) (Kd.R_far (p := ⟨gb128, 0, none⟩) (Kd.R_types HO_5.out BK128.out (by decide)) (fun _ hk => hk.2) (.int .i64 ((rd_T57 l1 x17_2).f0))) (fun _ hk => hk.2) (.string ((rd_T57 l1 x17_2).f1))) (fun _ hk => trivial))); (case aS => exact (below_size (by repeat (first | (with_reducible first | exact HB.out | apply below_alloc | apply pw_below_drewN | apply below_drew1 | refine below_set ?_ GE126.out | refine below_set ?_ GE128.out) | exact HB.out)))); (case aL => have := LMc10.out; omega); intro v130 w14 ho hb hg hat; rw [← Ny129.out] at ho; have n0_ := Aside0.mk (blk_grown (g := gb126) (o := .cells #[.slice A0_0 l0_0.length c0_0, .bool a0_1, .bool a0_2, .int .i64 a0_3] 24 (0, 0)) (by (with_reducible repeat (first | refine blk_drewN ?_ _ | refine blk_drew ?_ | refine blk_alloc ?_ _)); refine blk_far ?_ NB126_128.out _; (with_reducible repeat (first | refine blk_drewN ?_ _ | refine blk_drew ?_ | refine blk_alloc ?_ _)); refine blk_far ?_ NB126_128.out _; (with_reducible repeat (first | refine blk_drewN ?_ _ | refine blk_drew ?_ | refine blk_alloc ?_ _)); exact BK126.out) hg (Kd.R_ne HO_5.out BK126.out (by decide))); have n1_ := Aside0.mk (blk_grown (g := gb128) (o := .cells #[.int .i64 ((rd_T57 l1 x17_2).f0), .string ((rd_T57 l1 x17_2).f1)] 57 (0, 0)) (by (with_reducible repeat (first | refine blk_drewN ?_ _ | refine blk_drew ?_ | refine blk_alloc ?_ _)); refine blk_put (cs := #[.int .i64 ((rd_T57 l1 x17_2).f0), .string (⟨#[]⟩ : ByteArray)]) ?_ 1 _ rfl; (with_reducible repeat (first | refine blk_drewN ?_ _ | refine blk_drew ?_ | refine blk_alloc ?_ _)); refine blk_put (cs := #[.int .i64 0, .string (⟨#[]⟩ : ByteArray)]) ?_ 0 _ rfl; (with_reducible repeat (first | refine blk_drewN ?_ _ | refine blk_drew ?_ | refine blk_alloc ?_ _)); exact BK128.out) hg (Kd.R_ne HO_5.out BK128.out (by decide))); have n2_ := Aside0.mk (hb); have n3_ := Aside0.mk (ho); clear BK126; clear BK128; clear HB; clear HO_5; have BK126 := n0_; have BK128 := n1_; have HB := n2_; have HO131 := n3_; clear n0_ n1_ n2_ n3_; clear ho hb hg hat))
                      go_roundg k2
                      case measure => have := HK1.out; have := HK2.out; omega
                      case rel => exact ⟨(y129), (wrap64 (x12_1 + 1)), (by first | rfl | (simp; done) | (simp [*]; done)), H', ⟨by have := HK1.out; have := HK2.out; omega⟩, ⟨by (with_reducible repeat (first | apply Kd.R_alloc | apply Kd.R_drewN | apply Kd.R_drew)); exact HO131.out⟩, ⟨by (with_reducible repeat (first | refine blk_drewN ?_ _ | refine blk_drew ?_ | refine blk_alloc ?_ _)); exact BK126.out⟩, ⟨by repeat (first | (with_reducible first | exact HB.out | apply below_alloc | apply pw_below_drewN | apply below_drew1 | refine below_set ?_ GE126.out | refine below_set ?_ GE128.out) | exact HB.out)⟩⟩
                    · rw [if_neg c10] at H
                      exact absurd H (by simp)
                  · rw [if_neg c9] at H
                    have c9b0 : (((rd_T57 l1 x17_2).f0) == x12_1) = false := beq_eq_false_iff_ne.mpr c9
                    have c9b1 : (((rd_T57 l1 x17_2).f0) != x12_1) = true := bne_iff_ne.mpr c9
                    have H' := Aside0.mk H
                    clear H
                    have p127 : 0 ≤ (x17_2 : Int) := of_decide_eq_true (by first | (with_reducible assumption) | assumption)
                    have q127 : x17_2 < (l1.length : Int) := of_decide_eq_true (by first | (with_reducible assumption) | assumption)
                    obtain ⟨ad127, e127, hx127_0, hx127_1⟩ := at_T57 HR1.out x17_2 p127 q127
                    cases e127
                    replace hx127_0 := (HB.out.cell (World.block_lt_of_cell? w _ hx127_0)).trans hx127_0
                    replace hx127_1 := (HB.out.cell (World.block_lt_of_cell? w _ hx127_1)).trans hx127_1
                    replace p127 := eq_true p127
                    replace q127 := eq_true q127
                    go_wp2_with (first | ((with_reducible refine gate_dst (N := 8) rfl ?_); refine box_event ?hg (N := 8) ?hd (cs := #[.int .i64 0, .string (⟨#[]⟩ : ByteArray)]) (t := 57) ?hr ?_; (case hd => rfl); (case hg => rfl); (case hr => first | (go_simp; done) | (go_simp; rfl)); intro gb128 hg w15 hbox hb; have n0_ := Aside0.mk (Kd.R_below (by (with_reducible repeat (first | apply Kd.R_alloc | apply Kd.R_drewN | apply Kd.R_drew)); exact HO_5.out) hb); have n1_ := Aside0.mk (blk_below (g := gb126) (o := .cells #[.slice A0_0 l0_0.length c0_0, .bool a0_1, .bool a0_2, .int .i64 a0_3] 24 (0, 0)) (by (with_reducible repeat (first | refine blk_drewN ?_ _ | refine blk_drew ?_ | refine blk_alloc ?_ _)); exact BK126.out) hb); have n2_ := Aside0.mk (below_step (by repeat (first | (with_reducible first | exact HB.out | apply below_alloc | apply pw_below_drewN | apply below_drew1 | refine below_set ?_ GE126.out) | exact HB.out)) hb); have n3_ := Aside0.mk (hbox); have n4_ := Aside0.mk ((by rw [hg]; exact (below_size (by repeat (first | (with_reducible first | exact HB.out | apply below_alloc | apply pw_below_drewN | apply below_drew1 | refine below_set ?_ GE126.out) | exact HB.out))) : w.heap.size ≤ gb128)); have n5_ := Aside0.mk ((by rw [hg]; exact (below_size (by repeat (first | (with_reducible first | exact HB.out | apply below_alloc | apply pw_below_drewN | apply below_drew1 | refine below_set ?_ GE126.out) | exact HB.out))) : w.heap.size ≤ gb128)); have n6_ := Aside0.mk ((by rw [hg]; exact Nat.ne_of_lt (blk_lt (g := gb126) (o := .cells #[.slice A0_0 l0_0.length c0_0, .bool a0_1, .bool a0_2, .int .i64 a0_3] 24 (0, 0)) (by (with_reducible repeat (first | refine blk_drewN ?_ _ | refine blk_drew ?_ | refine blk_alloc ?_ _)); exact BK126.out)) : gb126 ≠ gb128)); have n7_ := Aside0.mk ((by rw [hg]; exact Nat.ne_of_gt (blk_lt (g := gb126) (o := .cells #[.slice A0_0 l0_0.length c0_0, .bool a0_1, .bool a0_2, .int .i64 a0_3] 24 (0, 0)) (by (with_reducible repeat (first | refine blk_drewN ?_ _ | refine blk_drew ?_ | refine blk_alloc ?_ _)); exact BK126.out)) : gb128 ≠ gb126)); clear HO_5; clear BK126; clear HB; have HO_5 := n0_; have BK126 := n1_; have HB := n2_; have BK128 := n3_; have GW128 := n4_; have GE128 := n5_; have NB126_128 := n6_; have NB128_126 := n7_; clear n0_ n1_ n2_ n3_ n4_ n5_ n6_ n7_; clear hb hbox hg; have hnb16 := NB128_126.out; have hnc16 := NB126_128.out; have hcz17_0 : w15.cell? ⟨gb128, 0, none⟩ = some (.int .i64 0) := (blk_cell BK128.out 0).trans rfl; have hcz17_1 : w15.cell? ⟨gb128, 1, none⟩ = some (.string (⟨#[]⟩ : ByteArray)) := (blk_cell BK128.out 1).trans rfl; have hfz17_0 := blk_frozen BK128.out 0; have hfz17_1 := blk_frozen BK128.out 1))
                    go_roundg k2
                    case measure => have := HK1.out; have := HK2.out; omega
                    case rel => exact ⟨(x5_2), (wrap64 (x17_2 + 1)), (by first | rfl | (simp; done) | (simp [*]; done)), H', ⟨by have := HK1.out; have := HK2.out; omega⟩, ⟨by (with_reducible repeat (first | apply Kd.R_alloc | apply Kd.R_drewN | apply Kd.R_drew)); exact Kd.R_mono (Kd.R_far (p := ⟨gb128, 1, none⟩) (Kd.R_far (p := ⟨gb128, 0, none⟩) (Kd.R_types HO_5.out BK128.out (by decide)) (fun _ hk => hk.2) (.int .i64 ((rd_T57 l1 x17_2).f0))) (fun _ hk => hk.2) (.string ((rd_T57 l1 x17_2).f1))) (fun _ hk => trivial)⟩, ⟨by (with_reducible repeat (first | refine blk_drewN ?_ _ | refine blk_drew ?_ | refine blk_alloc ?_ _)); refine blk_far ?_ NB126_128.out _; (with_reducible repeat (first | refine blk_drewN ?_ _ | refine blk_drew ?_ | refine blk_alloc ?_ _)); refine blk_far ?_ NB126_128.out _; (with_reducible repeat (first | refine blk_drewN ?_ _ | refine blk_drew ?_ | refine blk_alloc ?_ _)); exact BK126.out⟩, ⟨by repeat (first | (with_reducible first | exact HB.out | apply below_alloc | apply pw_below_drewN | apply below_drew1 | refine below_set ?_ GE126.out | refine below_set ?_ GE128.out) | exact HB.out)⟩⟩
                · rw [if_neg c8] at H
                  exact absurd H (by simp)
              · rw [if_neg c7] at H
                exact absurd H (by simp)
            · rw [if_neg c6] at H
              have c6b0 : decide (x17_2 < (l1.length : Int)) = false := decide_eq_false c6
              clear c6
              have H' := Aside0.mk H
              clear H
              go_wp2
              go_roundg k2
              case measure => have := HK1.out; have := HK2.out; omega
              case rel => exact ⟨(x5_2), (wrap64 (x12_1 + 1)), (by first | rfl | (simp; done) | (simp [*]; done)), H', ⟨by have := HK1.out; have := HK2.out; omega⟩, ⟨by (with_reducible repeat (first | apply Kd.R_alloc | apply Kd.R_drewN | apply Kd.R_drew)); exact HO_5.out⟩, ⟨by (with_reducible repeat (first | refine blk_drewN ?_ _ | refine blk_drew ?_ | refine blk_alloc ?_ _)); exact BK126.out⟩, ⟨by repeat (first | (with_reducible first | exact HB.out | apply below_alloc | apply pw_below_drewN | apply below_drew1 | refine below_set ?_ GE126.out) | exact HB.out)⟩⟩
      · rw [if_neg c5] at H
        have c5b0 : decide (x12_1 < (l0_0.length : Int)) = false := decide_eq_false c5
        clear c5
        obtain rfl := Option.some.inj H
        go_wp2
        go_ret
        exact ⟨_, by first | rfl | (simp [errW_none, errW_some] <;> rfl) | (simp [*, errW_none, errW_some] <;> rfl), by (with_reducible repeat (first | apply Kd.R_alloc | apply Kd.R_drewN | apply Kd.R_drew)); exact HO_5.out, by repeat (first | (with_reducible first | exact HB.out | apply below_alloc | apply pw_below_drewN | apply below_drew1 | refine below_set ?_ GE126.out) | exact HB.out)⟩

/-! ### laws_takes14: function 29 -/
def laws_takes14.l0 : Nat → ByteArray → List ByteArray → Int → Int → Option (Bool)
  | 0, _, _, _, _ => none
  | k + 1, x2, x14, x15, x16 => if x16 < x15 then (if 0 ≤ x16 then (if x16 < (x14.length : Int) then (if (rdOf ByteArray.empty x14 x16).toList = x2.toList then (some false) else (laws_takes14.l0 k x2 x14 x15 (wrap64 (x16 + 1)))) else (none)) else (none)) else (some true)
def laws_takes14.f (k : Nat) (l0_0 : List (S47)) (a0_1 : Bool) (a0_2 : Bool) (a0_3 : Int) (a1 : Int) (a2 : ByteArray) : Option (Bool) := if 0 ≤ a1 then (if a1 < (l0_0.length : Int) then (laws_takes14.l0 k a2 ((rd_T47 l0_0 a1).f3) (((rd_T47 l0_0 a1).f3).length : Int) 0) else (none)) else (none)
theorem laws_takes14.mono_l : ∀ k, (∀ y0 y1 y2 y3, LeO (laws_takes14.l0 k y0 y1 y2 y3) (laws_takes14.l0 (k + 1) y0 y1 y2 y3))
  | 0 => fun _ _ _ _ r h => by simp [laws_takes14.l0] at h
  | k + 1 => by
    have ih0 := laws_takes14.mono_l k
    · intro y0 y1 y2 y3
      unfold laws_takes14.l0
      repeat' first
      | (with_reducible exact ih0 _ _ _ _)
      | (with_reducible exact LeO.refl _)
      | (with_reducible exact LeO.none _)
      | (with_reducible refine LeO.ite ?_ ?_)
      | (with_reducible refine LeO.bind ?_ (fun _ => ?_))
      | exact ih0 _ _ _ _
      | exact LeO.none _
      | refine LeO.ite ?_ ?_
      | refine LeO.bind ?_ (fun _ => ?_)
theorem laws_takes14.mono : ∀ a0 a1 a2 a3 a4 a5 k, LeO (laws_takes14.f k a0 a1 a2 a3 a4 a5) (laws_takes14.f (k + 1) a0 a1 a2 a3 a4 a5) := by
  intro a0 a1 a2 a3 a4 a5 k
  have ih0 := laws_takes14.mono_l k
  unfold laws_takes14.f
  repeat' first
      | (with_reducible exact ih0 _ _ _ _)
      | (with_reducible exact LeO.refl _)
      | (with_reducible exact LeO.none _)
      | (with_reducible refine LeO.ite ?_ ?_)
      | (with_reducible refine LeO.bind ?_ (fun _ => ?_))
      | exact ih0 _ _ _ _
      | exact LeO.none _
      | refine LeO.ite ?_ ?_
      | refine LeO.bind ?_ (fun _ => ?_)
set_option maxHeartbeats 8000000 in
set_option maxRecDepth 100000 in
theorem laws_takes14.calls (k : Nat) (A0_0 : Option Addr) (c0_0 : Nat) (l0_0 : List (S47)) (a0_1 : Bool) (a0_2 : Bool) (a0_3 : Int) (a1 : Int) (a2 : ByteArray) (r : Bool) (w : World) (hr0_0 : Kd.C k47 w A0_0 l0_0.length l0_0) (hc0_0 : l0_0.length ≤ c0_0) (h : laws_takes14.f k l0_0 a0_1 a0_2 a0_3 a1 a2 = some r) :
    Calls Try.prog 29 #[.agg #[.slice A0_0 l0_0.length c0_0, .bool a0_1, .bool a0_2, .int .i64 a0_3], .int .i64 a1, .string a2] w fun e w' => e = .returned (.bool r) ∧ Below w.heap.size w w' := by
  have hu24 := Try.underlying24
  have HR0_0 := Aside0.mk hr0_0
  have HC0_0 := Aside0.mk hc0_0
  clear hr0_0 hc0_0
  have HB := Aside0.mk (Below.refl w.heap.size w)
  have H : (if 0 ≤ a1 then (if a1 < (l0_0.length : Int) then (laws_takes14.l0 k a2 ((rd_T47 l0_0 a1).f3) (((rd_T47 l0_0 a1).f3).length : Int) 0) else (none)) else (none)) = some r := h
  clear h
  by_cases c4 : 0 ≤ a1
  · rw [if_pos c4] at H
    have c4b0 : decide (0 ≤ a1) = true := decide_eq_true c4
    clear c4
    by_cases c5 : a1 < (l0_0.length : Int)
    · rw [if_pos c5] at H
      have c5b0 : decide (a1 < (l0_0.length : Int)) = true := decide_eq_true c5
      clear c5
      have H' := Aside0.mk H
      clear H
      go_enter Try.func29, Try.ntmps29
      go_wp2_with (first | ((with_reducible refine gate_dst (N := 3) rfl ?_); refine box_event ?hg (N := 3) ?hd (cs := #[.slice A0_0 l0_0.length c0_0, .bool a0_1, .bool a0_2, .int .i64 a0_3]) (t := 24) ?hr ?_; (case hd => rfl); (case hg => rfl); (case hr => first | (go_simp; done) | (go_simp; rfl)); intro gb132 hg w6 hbox hb; have n0_ := Aside0.mk (below_step (by repeat (first | (with_reducible first | exact HB.out | apply below_alloc | apply pw_below_drewN | apply below_drew1) | exact HB.out)) hb); have n1_ := Aside0.mk (hbox); have n2_ := Aside0.mk ((by rw [hg]; exact (below_size (by repeat (first | (with_reducible first | exact HB.out | apply below_alloc | apply pw_below_drewN | apply below_drew1) | exact HB.out))) : w.heap.size ≤ gb132)); have n3_ := Aside0.mk ((by rw [hg]; exact (below_size (by repeat (first | (with_reducible first | exact HB.out | apply below_alloc | apply pw_below_drewN | apply below_drew1) | exact HB.out))) : w.heap.size ≤ gb132)); clear HB; have HB := n0_; have BK132 := n1_; have GW132 := n2_; have GE132 := n3_; clear n0_ n1_ n2_ n3_; clear hb hbox hg; have hcz7_0 : w6.cell? ⟨gb132, 0, none⟩ = some (.slice A0_0 l0_0.length c0_0) := (blk_cell BK132.out 0).trans rfl; have hcz7_1 : w6.cell? ⟨gb132, 1, none⟩ = some (.bool a0_1) := (blk_cell BK132.out 1).trans rfl; have hcz7_2 : w6.cell? ⟨gb132, 2, none⟩ = some (.bool a0_2) := (blk_cell BK132.out 2).trans rfl; have hcz7_3 : w6.cell? ⟨gb132, 3, none⟩ = some (.int .i64 a0_3) := (blk_cell BK132.out 3).trans rfl; have hfz7_0 := blk_frozen BK132.out 0; have hfz7_1 := blk_frozen BK132.out 1; have hfz7_2 := blk_frozen BK132.out 2; have hfz7_3 := blk_frozen BK132.out 3; have p133 : 0 ≤ (a1 : Int) := of_decide_eq_true (by first | (with_reducible assumption) | assumption); have q133 : a1 < (l0_0.length : Int) := of_decide_eq_true (by first | (with_reducible assumption) | assumption); obtain ⟨ad133, A133_3, c133_3, e133, hx133_0, hx133_1, hx133_2, hx133_3, hl133_3, hi133_3⟩ := at_T47 HR0_0.out a1 p133 q133; cases e133; replace hx133_0 := (HB.out.cell (World.block_lt_of_cell? w _ hx133_0)).trans hx133_0; replace hx133_1 := (HB.out.cell (World.block_lt_of_cell? w _ hx133_1)).trans hx133_1; replace hx133_2 := (HB.out.cell (World.block_lt_of_cell? w _ hx133_2)).trans hx133_2; replace hx133_3 := (HB.out.cell (World.block_lt_of_cell? w _ hx133_3)).trans hx133_3; have HR133_3 := Aside0.mk hi133_3; have HC133_3 := Aside0.mk hl133_3; clear hi133_3 hl133_3; replace p133 := eq_true p133; replace q133 := eq_true q133))
      go_loopg [16] k (fun kq v16 w' => ∃ (x16_1 : Int), v16 = .int .i64 x16_1 ∧ Aside0 (laws_takes14.l0 kq a2 ((rd_T47 l0_0 a1).f3) (((rd_T47 l0_0 a1).f3).length : Int) x16_1 = some r) ∧ Aside0 (kq ≤ k) ∧ Aside0 (w'.heap[gb132]? = some (.cells #[(.slice (some ad133) l0_0.length c0_0), .bool a0_1, .bool a0_2, .int .i64 a0_3] 24 (0, 0))) ∧ Aside0 (Below w.heap.size w w'))
      case atStart => exact ⟨(0), (by first | rfl | (simp; done) | (simp [*]; done)), H', ⟨Nat.le_refl _⟩, ⟨by (with_reducible repeat (first | refine blk_drewN ?_ _ | refine blk_drew ?_ | refine blk_alloc ?_ _)); exact BK132.out⟩, ⟨by repeat (first | (with_reducible first | exact HB.out | apply below_alloc | apply pw_below_drewN | apply below_drew1 | refine below_set ?_ GE132.out) | exact HB.out)⟩⟩
      case round =>
        clear H'
        try clear c1
        try clear p1
        try clear q1
        try clear hx1
        try clear c2
        try clear p2
        try clear c4
        try clear c4b0
        try clear c5
        try clear c5b0
        try clear hcz7_0
        try clear hcz7_1
        try clear hcz7_2
        try clear hcz7_3
        try clear hfz7_0
        try clear hfz7_1
        try clear hfz7_2
        try clear hfz7_3
        try clear hx133_0
        try clear hx133_1
        try clear hx133_2
        try clear hx133_3
        try clear p133
        try clear q133
        obtain ⟨x16_1, rfl, HA, HK1, BK132, HB⟩ := hrel
        cases gk with
        | zero => exact absurd HA.out (by simp [laws_takes14.l0])
        | succ k1 =>
          have H := HA.out
          clear HA
          simp only [laws_takes14.l0] at H
          by_cases c8 : x16_1 < (((rd_T47 l0_0 a1).f3).length : Int)
          · rw [if_pos c8] at H
            have c8b0 : decide (x16_1 < (((rd_T47 l0_0 a1).f3).length : Int)) = true := decide_eq_true c8
            clear c8
            by_cases c9 : 0 ≤ x16_1
            · rw [if_pos c9] at H
              have c9b0 : decide (0 ≤ x16_1) = true := decide_eq_true c9
              clear c9
              by_cases c10 : x16_1 < (((rd_T47 l0_0 a1).f3).length : Int)
              · rw [if_pos c10] at H
                have c10b0 : decide (x16_1 < (((rd_T47 l0_0 a1).f3).length : Int)) = true := decide_eq_true c10
                clear c10
                by_cases c11 : (rdOf ByteArray.empty ((rd_T47 l0_0 a1).f3) x16_1).toList = a2.toList
                · rw [if_pos c11] at H
                  have c11b0 : ((rdOf ByteArray.empty ((rd_T47 l0_0 a1).f3) x16_1).toList == a2.toList) = true := beq_iff_eq.mpr c11
                  have c11b1 : ((rdOf ByteArray.empty ((rd_T47 l0_0 a1).f3) x16_1).toList != a2.toList) = false := bne_eq_false_iff_eq.mpr c11
                  clear c11
                  obtain rfl := Option.some.inj H
                  have p134 : 0 ≤ (x16_1 : Int) := of_decide_eq_true (by first | (with_reducible assumption) | assumption)
                  have q134 : x16_1 < (((rd_T47 l0_0 a1).f3).length : Int) := of_decide_eq_true (by first | (with_reducible assumption) | assumption)
                  obtain ⟨ad134, e134, hx134_0⟩ := Kd.at_string HR133_3.out x16_1 p134 q134
                  cases e134
                  replace hx134_0 := (HB.out.cell (World.block_lt_of_cell? w _ hx134_0)).trans hx134_0
                  replace p134 := eq_true p134
                  replace q134 := eq_true q134
                  go_wp2
                  go_ret
                  exact ⟨by first | rfl | (simp [errW_none, errW_some] <;> rfl) | (simp [*, errW_none, errW_some] <;> rfl), by repeat (first | (with_reducible first | exact HB.out | apply below_alloc | apply pw_below_drewN | apply below_drew1 | refine below_set ?_ GE132.out) | exact HB.out)⟩
                · rw [if_neg c11] at H
                  have c11b0 : ((rdOf ByteArray.empty ((rd_T47 l0_0 a1).f3) x16_1).toList == a2.toList) = false := beq_eq_false_iff_ne.mpr c11
                  have c11b1 : ((rdOf ByteArray.empty ((rd_T47 l0_0 a1).f3) x16_1).toList != a2.toList) = true := bne_iff_ne.mpr c11
                  have H' := Aside0.mk H
                  clear H
                  have p134 : 0 ≤ (x16_1 : Int) := of_decide_eq_true (by first | (with_reducible assumption) | assumption)
                  have q134 : x16_1 < (((rd_T47 l0_0 a1).f3).length : Int) := of_decide_eq_true (by first | (with_reducible assumption) | assumption)
                  obtain ⟨ad134, e134, hx134_0⟩ := Kd.at_string HR133_3.out x16_1 p134 q134
                  cases e134
                  replace hx134_0 := (HB.out.cell (World.block_lt_of_cell? w _ hx134_0)).trans hx134_0
                  replace p134 := eq_true p134
                  replace q134 := eq_true q134
                  go_wp2
                  go_roundg k1
                  case measure => have := HK1.out; omega
                  case rel => exact ⟨(wrap64 (x16_1 + 1)), (by first | rfl | (simp; done) | (simp [*]; done)), H', ⟨by have := HK1.out; omega⟩, ⟨by (with_reducible repeat (first | refine blk_drewN ?_ _ | refine blk_drew ?_ | refine blk_alloc ?_ _)); exact BK132.out⟩, ⟨by repeat (first | (with_reducible first | exact HB.out | apply below_alloc | apply pw_below_drewN | apply below_drew1 | refine below_set ?_ GE132.out) | exact HB.out)⟩⟩
              · rw [if_neg c10] at H
                exact absurd H (by simp)
            · rw [if_neg c9] at H
              exact absurd H (by simp)
          · rw [if_neg c8] at H
            have c8b0 : decide (x16_1 < (((rd_T47 l0_0 a1).f3).length : Int)) = false := decide_eq_false c8
            clear c8
            obtain rfl := Option.some.inj H
            go_wp2
            go_ret
            exact ⟨by first | rfl | (simp [errW_none, errW_some] <;> rfl) | (simp [*, errW_none, errW_some] <;> rfl), by repeat (first | (with_reducible first | exact HB.out | apply below_alloc | apply pw_below_drewN | apply below_drew1 | refine below_set ?_ GE132.out) | exact HB.out)⟩
    · rw [if_neg c5] at H
      exact absurd H (by simp)
  · rw [if_neg c4] at H
    exact absurd H (by simp)

/-! ### laws_given14: function 30 -/
def laws_given14.l0 : Nat → List (S57) → List (List (S57)) → Int → Int → Option ((List (S57)))
  | 0, _, _, _, _ => none
  | k + 1, x3, x6, x7, x8 => if x8 < x7 then (if 0 ≤ x8 then (if x8 < (x6.length : Int) then (if x3.length + (rd_L5 x6 x8).length < 5864062014805 then (laws_given14.l0 k (x3 ++ (rd_L5 x6 x8)) x6 x7 (wrap64 (x8 + 1))) else (none)) else (none)) else (none)) else (some x3)
def laws_given14.f (k : Nat) (l0 : List (List (S57))) : Option ((List (S57))) := laws_given14.l0 k ([] : List (S57)) l0 (l0.length : Int) 0
theorem laws_given14.mono_l : ∀ k, (∀ y0 y1 y2 y3, LeO (laws_given14.l0 k y0 y1 y2 y3) (laws_given14.l0 (k + 1) y0 y1 y2 y3))
  | 0 => fun _ _ _ _ r h => by simp [laws_given14.l0] at h
  | k + 1 => by
    have ih0 := laws_given14.mono_l k
    · intro y0 y1 y2 y3
      unfold laws_given14.l0
      repeat' first
      | (with_reducible exact ih0 _ _ _ _)
      | (with_reducible exact LeO.refl _)
      | (with_reducible exact LeO.none _)
      | (with_reducible refine LeO.ite ?_ ?_)
      | (with_reducible refine LeO.bind ?_ (fun _ => ?_))
      | exact ih0 _ _ _ _
      | exact LeO.none _
      | refine LeO.ite ?_ ?_
      | refine LeO.bind ?_ (fun _ => ?_)
theorem laws_given14.mono : ∀ a0 k, LeO (laws_given14.f k a0) (laws_given14.f (k + 1) a0) := by
  intro a0 k
  have ih0 := laws_given14.mono_l k
  unfold laws_given14.f
  repeat' first
      | (with_reducible exact ih0 _ _ _ _)
      | (with_reducible exact LeO.refl _)
      | (with_reducible exact LeO.none _)
      | (with_reducible refine LeO.ite ?_ ?_)
      | (with_reducible refine LeO.bind ?_ (fun _ => ?_))
      | exact ih0 _ _ _ _
      | exact LeO.none _
      | refine LeO.ite ?_ ?_
      | refine LeO.bind ?_ (fun _ => ?_)
set_option maxHeartbeats 8000000 in
set_option maxRecDepth 100000 in
theorem laws_given14.calls (k : Nat) (A0 : Option Addr) (c0 : Nat) (l0 : List (List (S57))) (r : List (S57)) (w : World) (hr0 : Kd.C (Kd.slice 57 k57) w A0 l0.length l0) (hc0 : l0.length ≤ c0) (h : laws_given14.f k l0 = some r) :
    Calls Try.prog 30 #[.slice A0 l0.length c0] w fun e w' => ∃ v0_ : Value, e = .returned (v0_) ∧ Kd.R k57 57 w' w.heap.size (fun _ => True) v0_ r ∧ Below w.heap.size w w' := by
  have HR0 := Aside0.mk hr0
  have HC0 := Aside0.mk hc0
  clear hr0 hc0
  have HB := Aside0.mk (Below.refl w.heap.size w)
  have H : (laws_given14.l0 k ([] : List (S57)) l0 (l0.length : Int) 0) = some r := h
  clear h
  have H' := Aside0.mk H
  clear H
  go_enter Try.func30, Try.ntmps30
  go_wp2
  go_loopg [3, 8] k (fun kq v3 v8 w' => ∃ (x3_1 : List (S57)) (x8_1 : Int), v8 = .int .i64 x8_1 ∧ Aside0 (laws_given14.l0 kq x3_1 l0 (l0.length : Int) x8_1 = some r) ∧ Aside0 (kq ≤ k) ∧ Aside0 (Kd.R k57 57 w' w.heap.size (fun _ => True) v3 x3_1) ∧ Aside0 (Below w.heap.size w w'))
  case atStart => exact ⟨(([] : List (S57))), (0), (by first | rfl | (simp; done) | (simp [*]; done)), H', ⟨Nat.le_refl _⟩, ⟨by first | exact Kd.R_nil _ _ _ _ _ | exact Kd.N_nil _ _ _ _ _ | exact Kd.V_nil _ _ _ _ _ | exact Kd.Q_nil _ _ _ _ _ | exact Kd.S_nil _ _ _ _ _⟩, ⟨by repeat (first | (with_reducible first | exact HB.out | apply below_alloc | apply pw_below_drewN | apply below_drew1) | exact HB.out)⟩⟩
  case round =>
    clear H'
    obtain ⟨x3_1, x8_1, rfl, HA, HK1, HO_3, HB⟩ := hrel
    cases gk with
    | zero => exact absurd HA.out (by simp [laws_given14.l0])
    | succ k1 =>
      have H := HA.out
      clear HA
      simp only [laws_given14.l0] at H
      by_cases c2 : x8_1 < (l0.length : Int)
      · rw [if_pos c2] at H
        have c2b0 : decide (x8_1 < (l0.length : Int)) = true := decide_eq_true c2
        clear c2
        by_cases c3 : 0 ≤ x8_1
        · rw [if_pos c3] at H
          have c3b0 : decide (0 ≤ x8_1) = true := decide_eq_true c3
          clear c3
          by_cases c4 : x8_1 < (l0.length : Int)
          · rw [if_pos c4] at H
            have c4b0 : decide (x8_1 < (l0.length : Int)) = true := decide_eq_true c4
            clear c4
            by_cases c5 : x3_1.length + (rd_L5 l0 x8_1).length < 5864062014805
            · rw [if_pos c5] at H
              have LMc5 := Aside0.mk c5
              clear c5
              obtain ⟨y136, hy136⟩ : ∃ y_ : List (S57), y_ = (x3_1 ++ (rd_L5 l0 x8_1)) := ⟨_, rfl⟩
              replace H : (laws_given14.l0 k1 y136 l0 (l0.length : Int) (wrap64 (x8_1 + 1))) = some r := by first | (rw [hy136]; with_reducible exact H) | (have H2_ := (Option.bind_some _ _).symm.trans H; rw [hy136]; with_reducible exact H2_) | (have H2_ := (Option.bind_some _ _).symm.trans H; with_reducible exact H2_) | with_reducible exact H | (rw [hy136]; exact H) | exact H
              have Ny136 := Aside0.mk hy136
              clear hy136
              have H' := Aside0.mk H
              clear H
              have p135 : 0 ≤ (x8_1 : Int) := of_decide_eq_true (by first | (with_reducible assumption) | assumption)
              have q135 : x8_1 < (l0.length : Int) := of_decide_eq_true (by first | (with_reducible assumption) | assumption)
              obtain ⟨ad135, A135_0, c135_0, e135, hx135_0, hl135_0, hi135_0⟩ := at_L5 HR0.out x8_1 p135 q135
              cases e135
              replace hx135_0 := (HB.out.cell (World.block_lt_of_cell? w _ hx135_0)).trans hx135_0
              have HR135_0 := Aside0.mk hi135_0
              have HC135_0 := Aside0.mk hl135_0
              clear hi135_0 hl135_0
              replace p135 := eq_true p135
              replace q135 := eq_true q135
              go_wp2_with (first | ((with_reducible refine gate_builtin (b := .append) (xs := #[.tmp 12, .tmp 13]) rfl ?_); at_builtin; refine Kd.R_append_rows k57 (w0 := w) w.heap.size rfl (.tmp 12) (.tmp 13) 29 57 (.agg #[(.int .i64 0), (.string ⟨#[]⟩)]) 24 rfl Try.underlying29 info57 rfl (by decide) (by omega) u3 x3_1 (rd_L5 l0 x8_1) _ _ _ (fun _ => True) (fun _ => False) rfl rfl ?aO ?aR (fun _ _ h => h) (fun _ h => h.elim) ?aF ?aB ?aS ?aL ?_; (case aR => repeat (first | exact (Kd.C_below HR135_0.out HB.out) | (with_reducible refine Kd.C_alloc ?_ _) | (with_reducible refine Kd.C_drewN ?_ _) | (with_reducible refine Kd.C_drew ?_))); (case aB => exact (by repeat (first | (with_reducible first | exact HB.out | apply below_alloc | apply pw_below_drewN | apply below_drew1) | exact HB.out))); (case aF => exact (fun _ _ => trivial)); (case aO => exact (by (with_reducible repeat (first | apply Kd.R_alloc | apply Kd.R_drewN | apply Kd.R_drew)); exact HO_3.out)); (case aS => exact (below_size (by repeat (first | (with_reducible first | exact HB.out | apply below_alloc | apply pw_below_drewN | apply below_drew1) | exact HB.out)))); (case aL => have := LMc5.out; omega); intro v137 w6 ho hb hg hat; rw [← Ny136.out] at ho; have n0_ := Aside0.mk (hb); have n1_ := Aside0.mk (ho); clear HB; clear HO_3; have HB := n0_; have HO138 := n1_; clear n0_ n1_; clear ho hb hg hat))
              go_roundg k1
              case measure => have := HK1.out; omega
              case rel => exact ⟨(y136), (wrap64 (x8_1 + 1)), (by first | rfl | (simp; done) | (simp [*]; done)), H', ⟨by have := HK1.out; omega⟩, ⟨by (with_reducible repeat (first | apply Kd.R_alloc | apply Kd.R_drewN | apply Kd.R_drew)); exact HO138.out⟩, ⟨by repeat (first | (with_reducible first | exact HB.out | apply below_alloc | apply pw_below_drewN | apply below_drew1) | exact HB.out)⟩⟩
            · rw [if_neg c5] at H
              exact absurd H (by simp)
          · rw [if_neg c4] at H
            exact absurd H (by simp)
        · rw [if_neg c3] at H
          exact absurd H (by simp)
      · rw [if_neg c2] at H
        have c2b0 : decide (x8_1 < (l0.length : Int)) = false := decide_eq_false c2
        clear c2
        obtain rfl := Option.some.inj H
        go_wp2
        go_ret
        exact ⟨_, by first | rfl | (simp [errW_none, errW_some] <;> rfl) | (simp [*, errW_none, errW_some] <;> rfl), by (with_reducible repeat (first | apply Kd.R_alloc | apply Kd.R_drewN | apply Kd.R_drew)); exact HO_3.out, by repeat (first | (with_reducible first | exact HB.out | apply below_alloc | apply pw_below_drewN | apply below_drew1) | exact HB.out)⟩

/-! ### spec_letter: function 44 -/
def spec_letter.f (a0 : Int) : Option (Bool) := if a0 ≥ 97 then (if a0 ≤ 122 then (some true) else (if a0 ≥ 65 then (if a0 ≤ 90 then (some true) else (if a0 ≥ 48 then (some (decide (a0 ≤ 57))) else (some false))) else (if a0 ≥ 48 then (some (decide (a0 ≤ 57))) else (some false)))) else (if a0 ≥ 65 then (if a0 ≤ 90 then (some true) else (if a0 ≥ 48 then (some (decide (a0 ≤ 57))) else (some false))) else (if a0 ≥ 48 then (some (decide (a0 ≤ 57))) else (some false)))
set_option maxHeartbeats 8000000 in
set_option maxRecDepth 100000 in
theorem spec_letter.calls (a0 : Int) (r : Bool) (w : World) (h : spec_letter.f a0 = some r) :
    Calls Try.prog 44 #[.int .u8 a0] w fun e w' => e = .returned (.bool r) ∧ Drawn0 w w' := by
  have H : (if a0 ≥ 97 then (if a0 ≤ 122 then (some true) else (if a0 ≥ 65 then (if a0 ≤ 90 then (some true) else (if a0 ≥ 48 then (some (decide (a0 ≤ 57))) else (some false))) else (if a0 ≥ 48 then (some (decide (a0 ≤ 57))) else (some false)))) else (if a0 ≥ 65 then (if a0 ≤ 90 then (some true) else (if a0 ≥ 48 then (some (decide (a0 ≤ 57))) else (some false))) else (if a0 ≥ 48 then (some (decide (a0 ≤ 57))) else (some false)))) = some r := h
  clear h
  by_cases c2 : a0 ≥ 97
  · rw [if_pos c2] at H
    have c2b0 : decide (97 ≤ a0) = true := decide_eq_true c2
    clear c2
    by_cases c3 : a0 ≤ 122
    · rw [if_pos c3] at H
      have c3b0 : decide (a0 ≤ 122) = true := decide_eq_true c3
      clear c3
      obtain rfl := Option.some.inj H
      go_enter Try.func44, Try.ntmps44
      go_wp2
      go_ret
      exact ⟨by first | rfl | (simp; done) | (simp [*]; done), by repeat (first | exact Drawn0.refl _ | apply Drawn0.step)⟩
    · rw [if_neg c3] at H
      have c3b0 : decide (a0 ≤ 122) = false := decide_eq_false c3
      clear c3
      by_cases c4 : a0 ≥ 65
      · rw [if_pos c4] at H
        have c4b0 : decide (65 ≤ a0) = true := decide_eq_true c4
        clear c4
        by_cases c5 : a0 ≤ 90
        · rw [if_pos c5] at H
          have c5b0 : decide (a0 ≤ 90) = true := decide_eq_true c5
          clear c5
          obtain rfl := Option.some.inj H
          go_enter Try.func44, Try.ntmps44
          go_wp2
          go_ret
          exact ⟨by first | rfl | (simp; done) | (simp [*]; done), by repeat (first | exact Drawn0.refl _ | apply Drawn0.step)⟩
        · rw [if_neg c5] at H
          have c5b0 : decide (a0 ≤ 90) = false := decide_eq_false c5
          clear c5
          by_cases c6 : a0 ≥ 48
          · rw [if_pos c6] at H
            have c6b0 : decide (48 ≤ a0) = true := decide_eq_true c6
            clear c6
            obtain rfl := Option.some.inj H
            go_enter Try.func44, Try.ntmps44
            go_wp2
            go_ret
            exact ⟨by first | rfl | (simp; done) | (simp [*]; done), by repeat (first | exact Drawn0.refl _ | apply Drawn0.step)⟩
          · rw [if_neg c6] at H
            have c6b0 : decide (48 ≤ a0) = false := decide_eq_false c6
            clear c6
            obtain rfl := Option.some.inj H
            go_enter Try.func44, Try.ntmps44
            go_wp2
            go_ret
            exact ⟨by first | rfl | (simp; done) | (simp [*]; done), by repeat (first | exact Drawn0.refl _ | apply Drawn0.step)⟩
      · rw [if_neg c4] at H
        have c4b0 : decide (65 ≤ a0) = false := decide_eq_false c4
        clear c4
        by_cases c7 : a0 ≥ 48
        · rw [if_pos c7] at H
          have c7b0 : decide (48 ≤ a0) = true := decide_eq_true c7
          clear c7
          obtain rfl := Option.some.inj H
          go_enter Try.func44, Try.ntmps44
          go_wp2
          go_ret
          exact ⟨by first | rfl | (simp; done) | (simp [*]; done), by repeat (first | exact Drawn0.refl _ | apply Drawn0.step)⟩
        · rw [if_neg c7] at H
          have c7b0 : decide (48 ≤ a0) = false := decide_eq_false c7
          clear c7
          obtain rfl := Option.some.inj H
          go_enter Try.func44, Try.ntmps44
          go_wp2
          go_ret
          exact ⟨by first | rfl | (simp; done) | (simp [*]; done), by repeat (first | exact Drawn0.refl _ | apply Drawn0.step)⟩
  · rw [if_neg c2] at H
    have c2b0 : decide (97 ≤ a0) = false := decide_eq_false c2
    clear c2
    by_cases c8 : a0 ≥ 65
    · rw [if_pos c8] at H
      have c8b0 : decide (65 ≤ a0) = true := decide_eq_true c8
      clear c8
      by_cases c9 : a0 ≤ 90
      · rw [if_pos c9] at H
        have c9b0 : decide (a0 ≤ 90) = true := decide_eq_true c9
        clear c9
        obtain rfl := Option.some.inj H
        go_enter Try.func44, Try.ntmps44
        go_wp2
        go_ret
        exact ⟨by first | rfl | (simp; done) | (simp [*]; done), by repeat (first | exact Drawn0.refl _ | apply Drawn0.step)⟩
      · rw [if_neg c9] at H
        have c9b0 : decide (a0 ≤ 90) = false := decide_eq_false c9
        clear c9
        by_cases c10 : a0 ≥ 48
        · rw [if_pos c10] at H
          have c10b0 : decide (48 ≤ a0) = true := decide_eq_true c10
          clear c10
          obtain rfl := Option.some.inj H
          go_enter Try.func44, Try.ntmps44
          go_wp2
          go_ret
          exact ⟨by first | rfl | (simp; done) | (simp [*]; done), by repeat (first | exact Drawn0.refl _ | apply Drawn0.step)⟩
        · rw [if_neg c10] at H
          have c10b0 : decide (48 ≤ a0) = false := decide_eq_false c10
          clear c10
          obtain rfl := Option.some.inj H
          go_enter Try.func44, Try.ntmps44
          go_wp2
          go_ret
          exact ⟨by first | rfl | (simp; done) | (simp [*]; done), by repeat (first | exact Drawn0.refl _ | apply Drawn0.step)⟩
    · rw [if_neg c8] at H
      have c8b0 : decide (65 ≤ a0) = false := decide_eq_false c8
      clear c8
      by_cases c11 : a0 ≥ 48
      · rw [if_pos c11] at H
        have c11b0 : decide (48 ≤ a0) = true := decide_eq_true c11
        clear c11
        obtain rfl := Option.some.inj H
        go_enter Try.func44, Try.ntmps44
        go_wp2
        go_ret
        exact ⟨by first | rfl | (simp; done) | (simp [*]; done), by repeat (first | exact Drawn0.refl _ | apply Drawn0.step)⟩
      · rw [if_neg c11] at H
        have c11b0 : decide (48 ≤ a0) = false := decide_eq_false c11
        clear c11
        obtain rfl := Option.some.inj H
        go_enter Try.func44, Try.ntmps44
        go_wp2
        go_ret
        exact ⟨by first | rfl | (simp; done) | (simp [*]; done), by repeat (first | exact Drawn0.refl _ | apply Drawn0.step)⟩

/-! ### spec_byteAt: function 45 -/
def spec_byteAt.l0 : Nat → ByteArray → Int → Int → Option (Int)
  | 0, _, _, _ => none
  | k + 1, x0, x1, x5 => if x5 < (x0.size : Int) then (if 0 ≤ x5 then (if (bt x0 x5) = x1 then (some x5) else (spec_byteAt.l0 k x0 x1 (wrap64 (x5 + 1)))) else (none)) else (some (x0.size : Int))
def spec_byteAt.f (k : Nat) (a0 : ByteArray) (a1 : Int) : Option (Int) := spec_byteAt.l0 k a0 a1 0
theorem spec_byteAt.mono_l : ∀ k, (∀ y0 y1 y2, LeO (spec_byteAt.l0 k y0 y1 y2) (spec_byteAt.l0 (k + 1) y0 y1 y2))
  | 0 => fun _ _ _ r h => by simp [spec_byteAt.l0] at h
  | k + 1 => by
    have ih0 := spec_byteAt.mono_l k
    · intro y0 y1 y2
      unfold spec_byteAt.l0
      repeat' first
      | (with_reducible exact ih0 _ _ _)
      | (with_reducible exact LeO.refl _)
      | (with_reducible exact LeO.none _)
      | (with_reducible refine LeO.ite ?_ ?_)
      | (with_reducible refine LeO.bind ?_ (fun _ => ?_))
      | exact ih0 _ _ _
      | exact LeO.none _
      | refine LeO.ite ?_ ?_
      | refine LeO.bind ?_ (fun _ => ?_)
theorem spec_byteAt.mono : ∀ a0 a1 k, LeO (spec_byteAt.f k a0 a1) (spec_byteAt.f (k + 1) a0 a1) := by
  intro a0 a1 k
  have ih0 := spec_byteAt.mono_l k
  unfold spec_byteAt.f
  repeat' first
      | (with_reducible exact ih0 _ _ _)
      | (with_reducible exact LeO.refl _)
      | (with_reducible exact LeO.none _)
      | (with_reducible refine LeO.ite ?_ ?_)
      | (with_reducible refine LeO.bind ?_ (fun _ => ?_))
      | exact ih0 _ _ _
      | exact LeO.none _
      | refine LeO.ite ?_ ?_
      | refine LeO.bind ?_ (fun _ => ?_)
set_option maxHeartbeats 8000000 in
set_option maxRecDepth 100000 in
theorem spec_byteAt.calls (k : Nat) (a0 : ByteArray) (a1 : Int) (r : Int) (w : World) (h : spec_byteAt.f k a0 a1 = some r) :
    Calls Try.prog 45 #[.string a0, .int .u8 a1] w fun e w' => e = .returned (.int .i64 r) ∧ Drawn0 w w' := by
  have H : (spec_byteAt.l0 k a0 a1 0) = some r := h
  clear h
  have H' := Aside0.mk H
  clear H
  go_enter Try.func45, Try.ntmps45
  go_wp2
  go_loopg [5] k (fun kq v5 w' => ∃ (x5_1 : Int), v5 = .int .i64 x5_1 ∧ Aside0 (spec_byteAt.l0 kq a0 a1 x5_1 = some r) ∧ Aside0 (kq ≤ k) ∧ Drawn0 w w')
  case atStart => exact ⟨(0), (by first | rfl | (simp; done) | (simp [*]; done)), H', ⟨Nat.le_refl _⟩, by repeat (first | exact Drawn0.refl _ | apply Drawn0.step)⟩
  case round =>
    clear H'
    try clear p2
    obtain ⟨x5_1, rfl, HA, HK1, ⟨m1, rfl⟩⟩ := hrel
    cases gk with
    | zero => exact absurd HA.out (by simp [spec_byteAt.l0])
    | succ k1 =>
      have H := HA.out
      clear HA
      simp only [spec_byteAt.l0] at H
      by_cases c3 : x5_1 < (a0.size : Int)
      · rw [if_pos c3] at H
        have c3b0 : decide (x5_1 < (a0.size : Int)) = true := decide_eq_true c3
        clear c3
        by_cases c4 : 0 ≤ x5_1
        · rw [if_pos c4] at H
          have c4b0 : decide (0 ≤ x5_1) = true := decide_eq_true c4
          clear c4
          by_cases c6 : (bt a0 x5_1) = a1
          · rw [if_pos c6] at H
            have c6b0 : ((bt a0 x5_1) == a1) = true := beq_iff_eq.mpr c6
            have c6b1 : ((bt a0 x5_1) != a1) = false := bne_eq_false_iff_eq.mpr c6
            clear c6
            obtain rfl := Option.some.inj H
            have p5 : 0 ≤ (x5_1 : Int) := of_decide_eq_true (by first | (with_reducible assumption) | assumption)
            have q5 : x5_1 < (a0.size : Int) := of_decide_eq_true (by first | (with_reducible assumption) | assumption)
            have hx5 := bt_at a0 x5_1
            replace p5 := eq_true p5
            replace q5 := eq_true q5
            go_wp2
            go_ret
            exact ⟨by first | rfl | (simp; done) | (simp [*]; done), by repeat (first | exact Drawn0.refl _ | apply Drawn0.step)⟩
          · rw [if_neg c6] at H
            have c6b0 : ((bt a0 x5_1) == a1) = false := beq_eq_false_iff_ne.mpr c6
            have c6b1 : ((bt a0 x5_1) != a1) = true := bne_iff_ne.mpr c6
            have H' := Aside0.mk H
            clear H
            have p5 : 0 ≤ (x5_1 : Int) := of_decide_eq_true (by first | (with_reducible assumption) | assumption)
            have q5 : x5_1 < (a0.size : Int) := of_decide_eq_true (by first | (with_reducible assumption) | assumption)
            have hx5 := bt_at a0 x5_1
            replace p5 := eq_true p5
            replace q5 := eq_true q5
            go_wp2
            go_roundg k1
            case measure => have := HK1.out; omega
            case rel => exact ⟨(wrap64 (x5_1 + 1)), (by first | rfl | (simp; done) | (simp [*]; done)), H', ⟨by have := HK1.out; omega⟩, by repeat (first | exact Drawn0.refl _ | apply Drawn0.step)⟩
        · rw [if_neg c4] at H
          exact absurd H (by simp)
      · rw [if_neg c3] at H
        have c3b0 : decide (x5_1 < (a0.size : Int)) = false := decide_eq_false c3
        clear c3
        obtain rfl := Option.some.inj H
        go_wp2
        go_ret
        exact ⟨by first | rfl | (simp; done) | (simp [*]; done), by repeat (first | exact Drawn0.refl _ | apply Drawn0.step)⟩

/-! ### laws_zzFits22: function 36 -/
def laws_zzFits22.l0 : Nat → List (List ByteArray) → Int → Int → Option (Bool)
  | 0, _, _, _ => none
  | k + 1, x8, x9, x10 => if x10 < x9 then (if 0 ≤ x10 then (if x10 < (x8.length : Int) then ((laws_zzFits2.f k (rd_L1 x8 x10)).bind fun t140 => (if t140 = true then (laws_zzFits22.l0 k x8 x9 (wrap64 (x10 + 1))) else (some false))) else (none)) else (none)) else (some true)
def laws_zzFits22.f (k : Nat) (l0 : List (List ByteArray)) : Option (Bool) := if (l0.length : Int) > 2147483647 then (some false) else (laws_zzFits22.l0 k l0 (l0.length : Int) 0)
theorem laws_zzFits22.mono_l : ∀ k, (∀ y0 y1 y2, LeO (laws_zzFits22.l0 k y0 y1 y2) (laws_zzFits22.l0 (k + 1) y0 y1 y2))
  | 0 => fun _ _ _ r h => by simp [laws_zzFits22.l0] at h
  | k + 1 => by
    have ih0 := laws_zzFits22.mono_l k
    · intro y0 y1 y2
      unfold laws_zzFits22.l0
      repeat' first
      | (with_reducible exact ih0 _ _ _)
      | (with_reducible exact laws_zzFits2.mono _ _)
      | (with_reducible exact LeO.refl _)
      | (with_reducible exact LeO.none _)
      | (with_reducible refine LeO.ite ?_ ?_)
      | (with_reducible refine LeO.bind ?_ (fun _ => ?_))
      | exact ih0 _ _ _
      | exact laws_zzFits2.mono _ _
      | exact LeO.none _
      | refine LeO.ite ?_ ?_
      | refine LeO.bind ?_ (fun _ => ?_)
theorem laws_zzFits22.mono : ∀ a0 k, LeO (laws_zzFits22.f k a0) (laws_zzFits22.f (k + 1) a0) := by
  intro a0 k
  have ih0 := laws_zzFits22.mono_l k
  unfold laws_zzFits22.f
  repeat' first
      | (with_reducible exact ih0 _ _ _)
      | (with_reducible exact laws_zzFits2.mono _ _)
      | (with_reducible exact LeO.refl _)
      | (with_reducible exact LeO.none _)
      | (with_reducible refine LeO.ite ?_ ?_)
      | (with_reducible refine LeO.bind ?_ (fun _ => ?_))
      | exact ih0 _ _ _
      | exact laws_zzFits2.mono _ _
      | exact LeO.none _
      | refine LeO.ite ?_ ?_
      | refine LeO.bind ?_ (fun _ => ?_)
set_option maxHeartbeats 8000000 in
set_option maxRecDepth 100000 in
theorem laws_zzFits22.calls (k : Nat) (A0 : Option Addr) (c0 : Nat) (l0 : List (List ByteArray)) (r : Bool) (w : World) (hr0 : Kd.C (Kd.slice 9 Kd.string) w A0 l0.length l0) (hc0 : l0.length ≤ c0) (h : laws_zzFits22.f k l0 = some r) :
    Calls Try.prog 36 #[.slice A0 l0.length c0] w fun e w' => e = .returned (.bool r) ∧ Drawn0 w w' := by
  have HR0 := Aside0.mk hr0
  have HC0 := Aside0.mk hc0
  clear hr0 hc0
  have H : (if (l0.length : Int) > 2147483647 then (some false) else (laws_zzFits22.l0 k l0 (l0.length : Int) 0)) = some r := h
  clear h
  by_cases c2 : (l0.length : Int) > 2147483647
  · rw [if_pos c2] at H
    have c2b0 : decide (2147483647 < (l0.length : Int)) = true := decide_eq_true c2
    have c2b1 : decide (2147483647 < l0.length) = true := decide_eq_true (by omega)
    clear c2
    obtain rfl := Option.some.inj H
    go_enter Try.func36, Try.ntmps36
    go_wp2
    go_ret
    exact ⟨by first | rfl | (simp; done) | (simp [*]; done), by repeat (first | exact Drawn0.refl _ | apply Drawn0.step)⟩
  · rw [if_neg c2] at H
    have c2b0 : decide (2147483647 < (l0.length : Int)) = false := decide_eq_false c2
    have c2b1 : decide (2147483647 < l0.length) = false := decide_eq_false (by omega)
    clear c2
    have H' := Aside0.mk H
    clear H
    go_enter Try.func36, Try.ntmps36
    go_wp2
    go_loopg [10] k (fun kq v10 w' => ∃ (x10_1 : Int), v10 = .int .i64 x10_1 ∧ Aside0 (laws_zzFits22.l0 kq l0 (l0.length : Int) x10_1 = some r) ∧ Aside0 (kq ≤ k) ∧ Drawn0 w w')
    case atStart => exact ⟨(0), (by first | rfl | (simp; done) | (simp [*]; done)), H', ⟨Nat.le_refl _⟩, by repeat (first | exact Drawn0.refl _ | apply Drawn0.step)⟩
    case round =>
      clear H'
      try clear c2
      try clear c2b0
      try clear c2b1
      try clear p2
      obtain ⟨x10_1, rfl, HA, HK1, ⟨m1, rfl⟩⟩ := hrel
      cases gk with
      | zero => exact absurd HA.out (by simp [laws_zzFits22.l0])
      | succ k1 =>
        have H := HA.out
        clear HA
        simp only [laws_zzFits22.l0] at H
        by_cases c3 : x10_1 < (l0.length : Int)
        · rw [if_pos c3] at H
          have c3b0 : decide (x10_1 < (l0.length : Int)) = true := decide_eq_true c3
          clear c3
          by_cases c4 : 0 ≤ x10_1
          · rw [if_pos c4] at H
            have c4b0 : decide (0 ≤ x10_1) = true := decide_eq_true c4
            clear c4
            by_cases c5 : x10_1 < (l0.length : Int)
            · rw [if_pos c5] at H
              have c5b0 : decide (x10_1 < (l0.length : Int)) = true := decide_eq_true c5
              clear c5
              replace H := Option.bind_eq_some_iff.mp H
              obtain ⟨t140, A60, H⟩ := H
              replace H : (if t140 = true then (laws_zzFits22.l0 k1 l0 (l0.length : Int) (wrap64 (x10_1 + 1))) else (some false)) = some r := H
              have A6 := Aside0.mk A60
              clear A60
              by_cases c7 : t140 = true
              · subst c7
                have H1 : (laws_zzFits22.l0 k1 l0 (l0.length : Int) (wrap64 (x10_1 + 1))) = some r := by rw [if_pos rfl] at H; exact H
                clear H
                have H := H1
                clear H1
                have H' := Aside0.mk H
                clear H
                have p139 : 0 ≤ (x10_1 : Int) := of_decide_eq_true (by first | (with_reducible assumption) | assumption)
                have q139 : x10_1 < (l0.length : Int) := of_decide_eq_true (by first | (with_reducible assumption) | assumption)
                obtain ⟨ad139, A139_0, c139_0, e139, hx139_0, hl139_0, hi139_0⟩ := at_L1 HR0.out x10_1 p139 q139
                cases e139
                have HR139_0 := Aside0.mk hi139_0
                have HC139_0 := Aside0.mk hl139_0
                clear hi139_0 hl139_0
                replace p139 := eq_true p139
                replace q139 := eq_true q139
                go_wp2_with (first | ((with_reducible refine gate_callee (f := 15) rfl ?_); refine goesL_ (some 15) rfl rfl Try.func15 (by kernel_rfl) rfl #[.slice A139_0 (rd_L1 l0 x10_1).length c139_0] rfl (by (try simp only [List.map_toArray, List.map_cons, List.map_nil]); first | done | rfl | (simp only [List.length_drop, List.length_take]; rfl)) ?_; (with_reducible refine (laws_zzFits2.calls k1 _ _ (rd_L1 l0 x10_1) true _ ?side1 ?side2 A6.out).mono ?_); (case side1 => repeat (first | exact HR139_0.out | (with_reducible refine Kd.C_alloc ?_ _) | (with_reducible refine Kd.C_drewN ?_ _) | (with_reducible refine Kd.C_drew ?_))); (case side2 => exact HC139_0.out); rintro e w' ⟨rfl, ⟨nd, rfl⟩⟩; refine ⟨_, rfl, ?_⟩))
                go_roundg k1
                case measure => have := HK1.out; omega
                case rel => exact ⟨(wrap64 (x10_1 + 1)), (by first | rfl | (simp; done) | (simp [*]; done)), H', ⟨by have := HK1.out; omega⟩, by repeat (first | exact Drawn0.refl _ | apply Drawn0.step)⟩
              · replace c7 := Bool.eq_false_iff.mpr c7
                subst c7
                have H1 : (some false) = some r := by rw [if_neg (show ¬ (false = true) by decide)] at H; exact H
                clear H
                have H := H1
                clear H1
                obtain rfl := Option.some.inj H
                have p139 : 0 ≤ (x10_1 : Int) := of_decide_eq_true (by first | (with_reducible assumption) | assumption)
                have q139 : x10_1 < (l0.length : Int) := of_decide_eq_true (by first | (with_reducible assumption) | assumption)
                obtain ⟨ad139, A139_0, c139_0, e139, hx139_0, hl139_0, hi139_0⟩ := at_L1 HR0.out x10_1 p139 q139
                cases e139
                have HR139_0 := Aside0.mk hi139_0
                have HC139_0 := Aside0.mk hl139_0
                clear hi139_0 hl139_0
                replace p139 := eq_true p139
                replace q139 := eq_true q139
                go_wp2_with (first | ((with_reducible refine gate_callee (f := 15) rfl ?_); refine goesL_ (some 15) rfl rfl Try.func15 (by kernel_rfl) rfl #[.slice A139_0 (rd_L1 l0 x10_1).length c139_0] rfl (by (try simp only [List.map_toArray, List.map_cons, List.map_nil]); first | done | rfl | (simp only [List.length_drop, List.length_take]; rfl)) ?_; (with_reducible refine (laws_zzFits2.calls k1 _ _ (rd_L1 l0 x10_1) false _ ?side1 ?side2 A6.out).mono ?_); (case side1 => repeat (first | exact HR139_0.out | (with_reducible refine Kd.C_alloc ?_ _) | (with_reducible refine Kd.C_drewN ?_ _) | (with_reducible refine Kd.C_drew ?_))); (case side2 => exact HC139_0.out); rintro e w' ⟨rfl, ⟨nd, rfl⟩⟩; refine ⟨_, rfl, ?_⟩))
                go_ret
                exact ⟨by first | rfl | (simp; done) | (simp [*]; done), by repeat (first | exact Drawn0.refl _ | apply Drawn0.step)⟩
            · rw [if_neg c5] at H
              exact absurd H (by simp)
          · rw [if_neg c4] at H
            exact absurd H (by simp)
        · rw [if_neg c3] at H
          have c3b0 : decide (x10_1 < (l0.length : Int)) = false := decide_eq_false c3
          clear c3
          obtain rfl := Option.some.inj H
          go_wp2
          go_ret
          exact ⟨by first | rfl | (simp; done) | (simp [*]; done), by repeat (first | exact Drawn0.refl _ | apply Drawn0.step)⟩

end Go.Proofs.Ytgmhhdpggnmipaa.PQ
