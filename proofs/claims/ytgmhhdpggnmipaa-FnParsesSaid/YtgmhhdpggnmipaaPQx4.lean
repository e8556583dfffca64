-- Written by ext_print.py (a wrapper round the print), with given contracts. Not trusted: Lean checks it.
import Derived.Test.YtgmhhdpggnmipaaPQx0
import Derived.Test.YtgmhhdpggnmipaaPQx3
namespace Go.Proofs.Ytgmhhdpggnmipaa.PQ
open Go.RowKit Go.Proofs.YtgmhhdpggnmipaaW.PrintWords Go.Proofs.YtgmhhdpggnmipaaW.PrintLast
set_option linter.unusedVariables false
set_option linter.unusedSimpArgs false

/-! ### spec_Same: function 22 -/
def spec_Same.j0 : Nat → Bool → Int → ByteArray → ByteArray → ByteArray → Int → List (S57) → List ByteArray → Int → List Int → Bool → Bool → Int → ByteArray → ByteArray → ByteArray → Int → List (S57) → List ByteArray → Int → List Int → Bool → Bool → Option (Bool)
  | 0, _, _, _, _, _, _, _, _, _, _, _, _, _, _, _, _, _, _, _, _, _, _, _ => none
  | k + 1, x58, x122000, x122001, x122002, x122003, x122004, x122005, x122006, x122007, x122008, x122009, x122010, x123000, x123001, x123002, x123003, x123004, x123005, x123006, x123007, x123008, x123009, x123010 => if x58 = true then (some false) else ((spec_SameGiven.f k x122005 x123005).bind fun t123 => (if t123 = true then ((spec_SameTexts.f k x122006 x123006).bind fun t124 => (if t124 = true then ((spec_SameInts.f k x122008 x123008).bind fun t125 => (some t125)) else (some false))) else (some false)))
def spec_Same.f (k : Nat) (a0_0 : Int) (a0_1 : ByteArray) (a0_2 : ByteArray) (a0_3 : ByteArray) (a0_4 : Int) (l0_5 : List (S57)) (l0_6 : List ByteArray) (a0_7 : Int) (l0_8 : List Int) (a0_9 : Bool) (a0_10 : Bool) (a1_0 : Int) (a1_1 : ByteArray) (a1_2 : ByteArray) (a1_3 : ByteArray) (a1_4 : Int) (l1_5 : List (S57)) (l1_6 : List ByteArray) (a1_7 : Int) (l1_8 : List Int) (a1_9 : Bool) (a1_10 : Bool) : Option (Bool) := if a0_0 = a1_0 then (if a0_2.toList = a1_2.toList then (if a0_3.toList = a1_3.toList then (if a0_4 = a1_4 then (if a0_1.toList = a1_1.toList then (if a0_7 = a1_7 then (if (a0_9 != a1_9) = true then (spec_Same.j0 k true a0_0 a0_1 a0_2 a0_3 a0_4 l0_5 l0_6 a0_7 l0_8 a0_9 a0_10 a1_0 a1_1 a1_2 a1_3 a1_4 l1_5 l1_6 a1_7 l1_8 a1_9 a1_10) else (spec_Same.j0 k (a0_10 != a1_10) a0_0 a0_1 a0_2 a0_3 a0_4 l0_5 l0_6 a0_7 l0_8 a0_9 a0_10 a1_0 a1_1 a1_2 a1_3 a1_4 l1_5 l1_6 a1_7 l1_8 a1_9 a1_10)) else (spec_Same.j0 k true a0_0 a0_1 a0_2 a0_3 a0_4 l0_5 l0_6 a0_7 l0_8 a0_9 a0_10 a1_0 a1_1 a1_2 a1_3 a1_4 l1_5 l1_6 a1_7 l1_8 a1_9 a1_10)) else (spec_Same.j0 k true a0_0 a0_1 a0_2 a0_3 a0_4 l0_5 l0_6 a0_7 l0_8 a0_9 a0_10 a1_0 a1_1 a1_2 a1_3 a1_4 l1_5 l1_6 a1_7 l1_8 a1_9 a1_10)) else (spec_Same.j0 k true a0_0 a0_1 a0_2 a0_3 a0_4 l0_5 l0_6 a0_7 l0_8 a0_9 a0_10 a1_0 a1_1 a1_2 a1_3 a1_4 l1_5 l1_6 a1_7 l1_8 a1_9 a1_10)) else (spec_Same.j0 k true a0_0 a0_1 a0_2 a0_3 a0_4 l0_5 l0_6 a0_7 l0_8 a0_9 a0_10 a1_0 a1_1 a1_2 a1_3 a1_4 l1_5 l1_6 a1_7 l1_8 a1_9 a1_10)) else (spec_Same.j0 k true a0_0 a0_1 a0_2 a0_3 a0_4 l0_5 l0_6 a0_7 l0_8 a0_9 a0_10 a1_0 a1_1 a1_2 a1_3 a1_4 l1_5 l1_6 a1_7 l1_8 a1_9 a1_10)) else (spec_Same.j0 k true a0_0 a0_1 a0_2 a0_3 a0_4 l0_5 l0_6 a0_7 l0_8 a0_9 a0_10 a1_0 a1_1 a1_2 a1_3 a1_4 l1_5 l1_6 a1_7 l1_8 a1_9 a1_10)
theorem spec_Same.mono_l : ∀ k, (∀ y0 y1 y2 y3 y4 y5 y6 y7 y8 y9 y10 y11 y12 y13 y14 y15 y16 y17 y18 y19 y20 y21 y22, LeO (spec_Same.j0 k y0 y1 y2 y3 y4 y5 y6 y7 y8 y9 y10 y11 y12 y13 y14 y15 y16 y17 y18 y19 y20 y21 y22) (spec_Same.j0 (k + 1) y0 y1 y2 y3 y4 y5 y6 y7 y8 y9 y10 y11 y12 y13 y14 y15 y16 y17 y18 y19 y20 y21 y22))
  | 0 => fun _ _ _ _ _ _ _ _ _ _ _ _ _ _ _ _ _ _ _ _ _ _ _ r h => by simp [spec_Same.j0] at h
  | k + 1 => by
    have ih0 := spec_Same.mono_l k
    · intro y0 y1 y2 y3 y4 y5 y6 y7 y8 y9 y10 y11 y12 y13 y14 y15 y16 y17 y18 y19 y20 y21 y22
      unfold spec_Same.j0
      repeat' first
      | (with_reducible exact ih0 _ _ _ _ _ _ _ _ _ _ _ _ _ _ _ _ _ _ _ _ _ _ _)
      | (with_reducible exact spec_SameGiven.mono _ _ _)
      | (with_reducible exact spec_SameInts.mono _ _ _)
      | (with_reducible exact spec_SameTexts.mono _ _ _)
      | (with_reducible exact LeO.refl _)
      | (with_reducible exact LeO.none _)
      | (with_reducible refine LeO.ite ?_ ?_)
      | (with_reducible refine LeO.bind ?_ (fun _ => ?_))
      | exact ih0 _ _ _ _ _ _ _ _ _ _ _ _ _ _ _ _ _ _ _ _ _ _ _
      | exact spec_SameGiven.mono _ _ _
      | exact spec_SameInts.mono _ _ _
      | exact spec_SameTexts.mono _ _ _
      | exact LeO.none _
      | refine LeO.ite ?_ ?_
      | refine LeO.bind ?_ (fun _ => ?_)
theorem spec_Same.mono : ∀ a0 a1 a2 a3 a4 a5 a6 a7 a8 a9 a10 a11 a12 a13 a14 a15 a16 a17 a18 a19 a20 a21 k, LeO (spec_Same.f k a0 a1 a2 a3 a4 a5 a6 a7 a8 a9 a10 a11 a12 a13 a14 a15 a16 a17 a18 a19 a20 a21) (spec_Same.f (k + 1) a0 a1 a2 a3 a4 a5 a6 a7 a8 a9 a10 a11 a12 a13 a14 a15 a16 a17 a18 a19 a20 a21) := by
  intro a0 a1 a2 a3 a4 a5 a6 a7 a8 a9 a10 a11 a12 a13 a14 a15 a16 a17 a18 a19 a20 a21 k
  have ih0 := spec_Same.mono_l k
  unfold spec_Same.f
  repeat' first
      | (with_reducible exact ih0 _ _ _ _ _ _ _ _ _ _ _ _ _ _ _ _ _ _ _ _ _ _ _)
      | (with_reducible exact spec_SameGiven.mono _ _ _)
      | (with_reducible exact spec_SameInts.mono _ _ _)
      | (with_reducible exact spec_SameTexts.mono _ _ _)
      | (with_reducible exact LeO.refl _)
      | (with_reducible exact LeO.none _)
      | (with_reducible refine LeO.ite ?_ ?_)
      | (with_reducible refine LeO.bind ?_ (fun _ => ?_))
      | exact ih0 _ _ _ _ _ _ _ _ _ _ _ _ _ _ _ _ _ _ _ _ _ _ _
      | exact spec_SameGiven.mono _ _ _
      | exact spec_SameInts.mono _ _ _
      | exact spec_SameTexts.mono _ _ _
      | exact LeO.none _
      | refine LeO.ite ?_ ?_
      | refine LeO.bind ?_ (fun _ => ?_)
set_option maxHeartbeats 8000000 in
set_option maxRecDepth 100000 in
theorem spec_Same.calls (k : Nat) (a0_0 : Int) (a0_1 : ByteArray) (a0_2 : ByteArray) (a0_3 : ByteArray) (a0_4 : Int) (A0_5 : Option Addr) (c0_5 : Nat) (l0_5 : List (S57)) (A0_6 : Option Addr) (c0_6 : Nat) (l0_6 : List ByteArray) (a0_7 : Int) (A0_8 : Option Addr) (c0_8 : Nat) (l0_8 : List Int) (a0_9 : Bool) (a0_10 : Bool) (a1_0 : Int) (a1_1 : ByteArray) (a1_2 : ByteArray) (a1_3 : ByteArray) (a1_4 : Int) (A1_5 : Option Addr) (c1_5 : Nat) (l1_5 : List (S57)) (A1_6 : Option Addr) (c1_6 : Nat) (l1_6 : List ByteArray) (a1_7 : Int) (A1_8 : Option Addr) (c1_8 : Nat) (l1_8 : List Int) (a1_9 : Bool) (a1_10 : Bool) (r : Bool) (w : World) (hr0_5 : Kd.C k57 w A0_5 l0_5.length l0_5) (hc0_5 : l0_5.length ≤ c0_5) (hr0_6 : Kd.C Kd.string w A0_6 l0_6.length l0_6) (hc0_6 : l0_6.length ≤ c0_6) (hr0_8 : Kd.C (Kd.int .i64) w A0_8 l0_8.length l0_8) (hc0_8 : l0_8.length ≤ c0_8) (hr1_5 : Kd.C k57 w A1_5 l1_5.length l1_5) (hc1_5 : l1_5.length ≤ c1_5) (hr1_6 : Kd.C Kd.string w A1_6 l1_6.length l1_6) (hc1_6 : l1_6.length ≤ c1_6) (hr1_8 : Kd.C (Kd.int .i64) w A1_8 l1_8.length l1_8) (hc1_8 : l1_8.length ≤ c1_8) (h : spec_Same.f k a0_0 a0_1 a0_2 a0_3 a0_4 l0_5 l0_6 a0_7 l0_8 a0_9 a0_10 a1_0 a1_1 a1_2 a1_3 a1_4 l1_5 l1_6 a1_7 l1_8 a1_9 a1_10 = some r) :
    Calls Try.prog 22 #[.agg #[.int .i64 a0_0, .string a0_1, .string a0_2, .string a0_3, .int .i64 a0_4, .slice A0_5 l0_5.length c0_5, .slice A0_6 l0_6.length c0_6, .int .i64 a0_7, .slice A0_8 l0_8.length c0_8, .bool a0_9, .bool a0_10], .agg #[.int .i64 a1_0, .string a1_1, .string a1_2, .string a1_3, .int .i64 a1_4, .slice A1_5 l1_5.length c1_5, .slice A1_6 l1_6.length c1_6, .int .i64 a1_7, .slice A1_8 l1_8.length c1_8, .bool a1_9, .bool a1_10]] w fun e w' => e = .returned (.bool r) ∧ Below w.heap.size w w' := by
  have hu32 := Try.underlying32
  have HR0_5 := Aside0.mk hr0_5
  have HC0_5 := Aside0.mk hc0_5
  clear hr0_5 hc0_5
  have HR0_6 := Aside0.mk hr0_6
  have HC0_6 := Aside0.mk hc0_6
  clear hr0_6 hc0_6
  have HR0_8 := Aside0.mk hr0_8
  have HC0_8 := Aside0.mk hc0_8
  clear hr0_8 hc0_8
  have HR1_5 := Aside0.mk hr1_5
  have HC1_5 := Aside0.mk hc1_5
  clear hr1_5 hc1_5
  have HR1_6 := Aside0.mk hr1_6
  have HC1_6 := Aside0.mk hc1_6
  clear hr1_6 hc1_6
  have HR1_8 := Aside0.mk hr1_8
  have HC1_8 := Aside0.mk hc1_8
  clear hr1_8 hc1_8
  have HB := Aside0.mk (Below.refl w.heap.size w)
  have H : (if a0_0 = a1_0 then (if a0_2.toList = a1_2.toList then (if a0_3.toList = a1_3.toList then (if a0_4 = a1_4 then (if a0_1.toList = a1_1.toList then (if a0_7 = a1_7 then (if (a0_9 != a1_9) = true then (spec_Same.j0 k true a0_0 a0_1 a0_2 a0_3 a0_4 l0_5 l0_6 a0_7 l0_8 a0_9 a0_10 a1_0 a1_1 a1_2 a1_3 a1_4 l1_5 l1_6 a1_7 l1_8 a1_9 a1_10) else (spec_Same.j0 k (a0_10 != a1_10) a0_0 a0_1 a0_2 a0_3 a0_4 l0_5 l0_6 a0_7 l0_8 a0_9 a0_10 a1_0 a1_1 a1_2 a1_3 a1_4 l1_5 l1_6 a1_7 l1_8 a1_9 a1_10)) else (spec_Same.j0 k true a0_0 a0_1 a0_2 a0_3 a0_4 l0_5 l0_6 a0_7 l0_8 a0_9 a0_10 a1_0 a1_1 a1_2 a1_3 a1_4 l1_5 l1_6 a1_7 l1_8 a1_9 a1_10)) else (spec_Same.j0 k true a0_0 a0_1 a0_2 a0_3 a0_4 l0_5 l0_6 a0_7 l0_8 a0_9 a0_10 a1_0 a1_1 a1_2 a1_3 a1_4 l1_5 l1_6 a1_7 l1_8 a1_9 a1_10)) else (spec_Same.j0 k true a0_0 a0_1 a0_2 a0_3 a0_4 l0_5 l0_6 a0_7 l0_8 a0_9 a0_10 a1_0 a1_1 a1_2 a1_3 a1_4 l1_5 l1_6 a1_7 l1_8 a1_9 a1_10)) else (spec_Same.j0 k true a0_0 a0_1 a0_2 a0_3 a0_4 l0_5 l0_6 a0_7 l0_8 a0_9 a0_10 a1_0 a1_1 a1_2 a1_3 a1_4 l1_5 l1_6 a1_7 l1_8 a1_9 a1_10)) else (spec_Same.j0 k true a0_0 a0_1 a0_2 a0_3 a0_4 l0_5 l0_6 a0_7 l0_8 a0_9 a0_10 a1_0 a1_1 a1_2 a1_3 a1_4 l1_5 l1_6 a1_7 l1_8 a1_9 a1_10)) else (spec_Same.j0 k true a0_0 a0_1 a0_2 a0_3 a0_4 l0_5 l0_6 a0_7 l0_8 a0_9 a0_10 a1_0 a1_1 a1_2 a1_3 a1_4 l1_5 l1_6 a1_7 l1_8 a1_9 a1_10)) = some r := h
  clear h
  have HC3 := Aside0.mk H
  clear H
  go_enter Try.func22, Try.ntmps22
  go_upto_region 1 with (first | ((with_reducible refine gate_dst (N := 2) rfl ?_); refine box_event ?hg (N := 2) ?hd (cs := #[.int .i64 a0_0, .string a0_1, .string a0_2, .string a0_3, .int .i64 a0_4, .slice A0_5 l0_5.length c0_5, .slice A0_6 l0_6.length c0_6, .int .i64 a0_7, .slice A0_8 l0_8.length c0_8, .bool a0_9, .bool a0_10]) (t := 32) ?hr ?_; (case hd => rfl); (case hg => rfl); (case hr => first | (go_simp; done) | (go_simp; rfl)); intro gb121 hg w4 hbox hb; have n0_ := Aside0.mk (below_step (by repeat (first | (with_reducible first | exact HB.out | apply below_alloc | apply pw_below_drewN | apply below_drew1) | exact HB.out)) hb); have n1_ := Aside0.mk (hbox); have n2_ := Aside0.mk ((by rw [hg]; exact (below_size (by repeat (first | (with_reducible first | exact HB.out | apply below_alloc | apply pw_below_drewN | apply below_drew1) | exact HB.out))) : w.heap.size ≤ gb121)); have n3_ := Aside0.mk ((by rw [hg]; exact (below_size (by repeat (first | (with_reducible first | exact HB.out | apply below_alloc | apply pw_below_drewN | apply below_drew1) | exact HB.out))) : w.heap.size ≤ gb121)); clear HB; have HB := n0_; have BK121 := n1_; have GW121 := n2_; have GE121 := n3_; clear n0_ n1_ n2_ n3_; clear hb hbox hg) | ((with_reducible refine gate_dst (N := 3) rfl ?_); refine box_event ?hg (N := 3) ?hd (cs := #[.int .i64 a1_0, .string a1_1, .string a1_2, .string a1_3, .int .i64 a1_4, .slice A1_5 l1_5.length c1_5, .slice A1_6 l1_6.length c1_6, .int .i64 a1_7, .slice A1_8 l1_8.length c1_8, .bool a1_9, .bool a1_10]) (t := 32) ?hr ?_; (case hd => rfl); (case hg => rfl); (case hr => first | (go_simp; done) | (go_simp; rfl)); intro gb122 hg w5 hbox hb; have n0_ := Aside0.mk (blk_below (g := gb121) (o := .cells #[.int .i64 a0_0, .string a0_1, .string a0_2, .string a0_3, .int .i64 a0_4, .slice A0_5 l0_5.length c0_5, .slice A0_6 l0_6.length c0_6, .int .i64 a0_7, .slice A0_8 l0_8.length c0_8, .bool a0_9, .bool a0_10] 32 (0, 0)) (by (with_reducible repeat (first | refine blk_drewN ?_ _ | refine blk_drew ?_ | refine blk_alloc ?_ _)); exact BK121.out) hb); have n1_ := Aside0.mk (below_step (by repeat (first | (with_reducible first | exact HB.out | apply below_alloc | apply pw_below_drewN | apply below_drew1 | refine below_set ?_ GE121.out) | exact HB.out)) hb); have n2_ := Aside0.mk (hbox); have n3_ := Aside0.mk ((by rw [hg]; exact (below_size (by repeat (first | (with_reducible first | exact HB.out | apply below_alloc | apply pw_below_drewN | apply below_drew1 | refine below_set ?_ GE121.out) | exact HB.out))) : w.heap.size ≤ gb122)); have n4_ := Aside0.mk ((by rw [hg]; exact (below_size (by repeat (first | (with_reducible first | exact HB.out | apply below_alloc | apply pw_below_drewN | apply below_drew1 | refine below_set ?_ GE121.out) | exact HB.out))) : w.heap.size ≤ gb122)); have n5_ := Aside0.mk ((by rw [hg]; exact Nat.ne_of_lt (blk_lt (g := gb121) (o := .cells #[.int .i64 a0_0, .string a0_1, .string a0_2, .string a0_3, .int .i64 a0_4, .slice A0_5 l0_5.length c0_5, .slice A0_6 l0_6.length c0_6, .int .i64 a0_7, .slice A0_8 l0_8.length c0_8, .bool a0_9, .bool a0_10] 32 (0, 0)) (by (with_reducible repeat (first | refine blk_drewN ?_ _ | refine blk_drew ?_ | refine blk_alloc ?_ _)); exact BK121.out)) : gb121 ≠ gb122)); have n6_ := Aside0.mk ((by rw [hg]; exact Nat.ne_of_gt (blk_lt (g := gb121) (o := .cells #[.int .i64 a0_0, .string a0_1, .string a0_2, .string a0_3, .int .i64 a0_4, .slice A0_5 l0_5.length c0_5, .slice A0_6 l0_6.length c0_6, .int .i64 a0_7, .slice A0_8 l0_8.length c0_8, .bool a0_9, .bool a0_10] 32 (0, 0)) (by (with_reducible repeat (first | refine blk_drewN ?_ _ | refine blk_drew ?_ | refine blk_alloc ?_ _)); exact BK121.out)) : gb122 ≠ gb121)); clear BK121; clear HB; have BK121 := n0_; have HB := n1_; have BK122 := n2_; have GW122 := n3_; have GE122 := n4_; have NB121_122 := n5_; have NB122_121 := n6_; clear n0_ n1_ n2_ n3_ n4_ n5_ n6_; clear hb hbox hg))
  (try simp only [Act.put, List.setIfInBounds_toArray, List.set_cons_zero, List.set_cons_succ])
  go_cut [58] (fun v58 wc => ∃ (kq : Nat) (x58_2 : Bool), v58 = .bool x58_2 ∧ Aside0 (spec_Same.j0 kq x58_2 a0_0 a0_1 a0_2 a0_3 a0_4 l0_5 l0_6 a0_7 l0_8 a0_9 a0_10 a1_0 a1_1 a1_2 a1_3 a1_4 l1_5 l1_6 a1_7 l1_8 a1_9 a1_10 = some r) ∧ Aside0 (kq ≤ k) ∧ Aside0 (wc.heap[gb121]? = some (.cells #[.int .i64 a0_0, .string a0_1, .string a0_2, .string a0_3, .int .i64 a0_4, (.slice A0_5 l0_5.length c0_5), (.slice A0_6 l0_6.length c0_6), .int .i64 a0_7, (.slice A0_8 l0_8.length c0_8), .bool a0_9, .bool a0_10] 32 (0, 0))) ∧ Aside0 (wc.heap[gb122]? = some (.cells #[.int .i64 a1_0, .string a1_1, .string a1_2, .string a1_3, .int .i64 a1_4, (.slice A1_5 l1_5.length c1_5), (.slice A1_6 l1_6.length c1_6), .int .i64 a1_7, (.slice A1_8 l1_8.length c1_8), .bool a1_9, .bool a1_10] 32 (0, 0))) ∧ Aside0 (Below w.heap.size w wc))
  case first =>
    have H := HC3.out
    clear HC3
    by_cases c6 : a0_0 = a1_0
    · rw [if_pos c6] at H
      have c6b0 : (a0_0 == a1_0) = true := beq_iff_eq.mpr c6
      have c6b1 : (a0_0 != a1_0) = false := bne_eq_false_iff_eq.mpr c6
      clear c6
      (first | rw [c6b0] | (simp only [i64_w, i32_w]; rw [c6b0]) | skip)
      by_cases c7 : a0_2.toList = a1_2.toList
      · rw [if_pos c7] at H
        have c7b0 : (a0_2.toList == a1_2.toList) = true := beq_iff_eq.mpr c7
        have c7b1 : (a0_2.toList != a1_2.toList) = false := bne_eq_false_iff_eq.mpr c7
        clear c7
        by_cases c8 : a0_3.toList = a1_3.toList
        · rw [if_pos c8] at H
          have c8b0 : (a0_3.toList == a1_3.toList) = true := beq_iff_eq.mpr c8
          have c8b1 : (a0_3.toList != a1_3.toList) = false := bne_eq_false_iff_eq.mpr c8
          clear c8
          by_cases c9 : a0_4 = a1_4
          · rw [if_pos c9] at H
            have c9b0 : (a0_4 == a1_4) = true := beq_iff_eq.mpr c9
            have c9b1 : (a0_4 != a1_4) = false := bne_eq_false_iff_eq.mpr c9
            clear c9
            by_cases c10 : a0_1.toList = a1_1.toList
            · rw [if_pos c10] at H
              have c10b0 : (a0_1.toList == a1_1.toList) = true := beq_iff_eq.mpr c10
              have c10b1 : (a0_1.toList != a1_1.toList) = false := bne_eq_false_iff_eq.mpr c10
              clear c10
              by_cases c11 : a0_7 = a1_7
              · rw [if_pos c11] at H
                have c11b0 : (a0_7 == a1_7) = true := beq_iff_eq.mpr c11
                have c11b1 : (a0_7 != a1_7) = false := bne_eq_false_iff_eq.mpr c11
                clear c11
                by_cases c12 : (a0_9 != a1_9) = true
                · rw [if_pos c12] at H
                  have c12b0 : (a0_9 != a1_9) = true := c12
                  (try (have c12b1 : decide (a0_9 = a1_9) = false := by simpa using c12))
                  (try (have c12b2 : (a0_9 == a1_9) = false := by simpa using c12))
                  (try (have c12b3 : ¬ (a0_9 = a1_9) := by simpa using c12))
                  clear c12
                  have H' := Aside0.mk H
                  clear H
                  have hnb13 := NB121_122.out
                  have hnc13 := NB122_121.out
                  have hcz14_0 : w5.cell? ⟨gb121, 0, none⟩ = some (.int .i64 a0_0) := (blk_cell BK121.out 0).trans rfl
                  have hcz14_1 : w5.cell? ⟨gb121, 1, none⟩ = some (.string a0_1) := (blk_cell BK121.out 1).trans rfl
                  have hcz14_2 : w5.cell? ⟨gb121, 2, none⟩ = some (.string a0_2) := (blk_cell BK121.out 2).trans rfl
                  have hcz14_3 : w5.cell? ⟨gb121, 3, none⟩ = some (.string a0_3) := (blk_cell BK121.out 3).trans rfl
                  have hcz14_4 : w5.cell? ⟨gb121, 4, none⟩ = some (.int .i64 a0_4) := (blk_cell BK121.out 4).trans rfl
                  have hcz14_5 : w5.cell? ⟨gb121, 5, none⟩ = some (.slice A0_5 l0_5.length c0_5) := (blk_cell BK121.out 5).trans rfl
                  have hcz14_6 : w5.cell? ⟨gb121, 6, none⟩ = some (.slice A0_6 l0_6.length c0_6) := (blk_cell BK121.out 6).trans rfl
                  have hcz14_7 : w5.cell? ⟨gb121, 7, none⟩ = some (.int .i64 a0_7) := (blk_cell BK121.out 7).trans rfl
                  have hcz14_8 : w5.cell? ⟨gb121, 8, none⟩ = some (.slice A0_8 l0_8.length c0_8) := (blk_cell BK121.out 8).trans rfl
                  have hcz14_9 : w5.cell? ⟨gb121, 9, none⟩ = some (.bool a0_9) := (blk_cell BK121.out 9).trans rfl
                  have hcz14_10 : w5.cell? ⟨gb121, 10, none⟩ = some (.bool a0_10) := (blk_cell BK121.out 10).trans rfl
                  have hfz14_0 := blk_frozen BK121.out 0
                  have hfz14_1 := blk_frozen BK121.out 1
                  have hfz14_2 := blk_frozen BK121.out 2
                  have hfz14_3 := blk_frozen BK121.out 3
                  have hfz14_4 := blk_frozen BK121.out 4
                  have hfz14_5 := blk_frozen BK121.out 5
                  have hfz14_6 := blk_frozen BK121.out 6
                  have hfz14_7 := blk_frozen BK121.out 7
                  have hfz14_8 := blk_frozen BK121.out 8
                  have hfz14_9 := blk_frozen BK121.out 9
                  have hfz14_10 := blk_frozen BK121.out 10
                  have hcz15_0 : w5.cell? ⟨gb122, 0, none⟩ = some (.int .i64 a1_0) := (blk_cell BK122.out 0).trans rfl
                  have hcz15_1 : w5.cell? ⟨gb122, 1, none⟩ = some (.string a1_1) := (blk_cell BK122.out 1).trans rfl
                  have hcz15_2 : w5.cell? ⟨gb122, 2, none⟩ = some (.string a1_2) := (blk_cell BK122.out 2).trans rfl
                  have hcz15_3 : w5.cell? ⟨gb122, 3, none⟩ = some (.string a1_3) := (blk_cell BK122.out 3).trans rfl
                  have hcz15_4 : w5.cell? ⟨gb122, 4, none⟩ = some (.int .i64 a1_4) := (blk_cell BK122.out 4).trans rfl
                  have hcz15_5 : w5.cell? ⟨gb122, 5, none⟩ = some (.slice A1_5 l1_5.length c1_5) := (blk_cell BK122.out 5).trans rfl
                  have hcz15_6 : w5.cell? ⟨gb122, 6, none⟩ = some (.slice A1_6 l1_6.length c1_6) := (blk_cell BK122.out 6).trans rfl
                  have hcz15_7 : w5.cell? ⟨gb122, 7, none⟩ = some (.int .i64 a1_7) := (blk_cell BK122.out 7).trans rfl
                  have hcz15_8 : w5.cell? ⟨gb122, 8, none⟩ = some (.slice A1_8 l1_8.length c1_8) := (blk_cell BK122.out 8).trans rfl
                  have hcz15_9 : w5.cell? ⟨gb122, 9, none⟩ = some (.bool a1_9) := (blk_cell BK122.out 9).trans rfl
                  have hcz15_10 : w5.cell? ⟨gb122, 10, none⟩ = some (.bool a1_10) := (blk_cell BK122.out 10).trans rfl
                  have hfz15_0 := blk_frozen BK122.out 0
                  have hfz15_1 := blk_frozen BK122.out 1
                  have hfz15_2 := blk_frozen BK122.out 2
                  have hfz15_3 := blk_frozen BK122.out 3
                  have hfz15_4 := blk_frozen BK122.out 4
                  have hfz15_5 := blk_frozen BK122.out 5
                  have hfz15_6 := blk_frozen BK122.out 6
                  have hfz15_7 := blk_frozen BK122.out 7
                  have hfz15_8 := blk_frozen BK122.out 8
                  have hfz15_9 := blk_frozen BK122.out 9
                  have hfz15_10 := blk_frozen BK122.out 10
                  go_wp2
                  go_meet
                  case rel => exact ⟨_, (true), (by first | rfl | (simp; done) | (simp [*]; done)), H', ⟨by first | omega | exact Nat.le_refl _⟩, ⟨by (with_reducible repeat (first | refine blk_drewN ?_ _ | refine blk_drew ?_ | refine blk_alloc ?_ _)); exact BK121.out⟩, ⟨by (with_reducible repeat (first | refine blk_drewN ?_ _ | refine blk_drew ?_ | refine blk_alloc ?_ _)); exact BK122.out⟩, ⟨by repeat (first | (with_reducible first | exact HB.out | apply below_alloc | apply pw_below_drewN | apply below_drew1 | refine below_set ?_ GE121.out | refine below_set ?_ GE122.out) | exact HB.out)⟩⟩
                · rw [if_neg c12] at H
                  have c12b0 : (a0_9 != a1_9) = false := by simpa using c12
                  (try (have c12b1 : decide (a0_9 = a1_9) = true := by simpa using c12))
                  (try (have c12b2 : (a0_9 == a1_9) = true := by simpa using c12))
                  clear c12
                  have H' := Aside0.mk H
                  clear H
                  have hnb16 := NB121_122.out
                  have hnc16 := NB122_121.out
                  have hcz17_0 : w5.cell? ⟨gb121, 0, none⟩ = some (.int .i64 a0_0) := (blk_cell BK121.out 0).trans rfl
                  have hcz17_1 : w5.cell? ⟨gb121, 1, none⟩ = some (.string a0_1) := (blk_cell BK121.out 1).trans rfl
                  have hcz17_2 : w5.cell? ⟨gb121, 2, none⟩ = some (.string a0_2) := (blk_cell BK121.out 2).trans rfl
                  have hcz17_3 : w5.cell? ⟨gb121, 3, none⟩ = some (.string a0_3) := (blk_cell BK121.out 3).trans rfl
                  have hcz17_4 : w5.cell? ⟨gb121, 4, none⟩ = some (.int .i64 a0_4) := (blk_cell BK121.out 4).trans rfl
                  have hcz17_5 : w5.cell? ⟨gb121, 5, none⟩ = some (.slice A0_5 l0_5.length c0_5) := (blk_cell BK121.out 5).trans rfl
                  have hcz17_6 : w5.cell? ⟨gb121, 6, none⟩ = some (.slice A0_6 l0_6.length c0_6) := (blk_cell BK121.out 6).trans rfl
                  have hcz17_7 : w5.cell? ⟨gb121, 7, none⟩ = some (.int .i64 a0_7) := (blk_cell BK121.out 7).trans rfl
                  have hcz17_8 : w5.cell? ⟨gb121, 8, none⟩ = some (.slice A0_8 l0_8.length c0_8) := (blk_cell BK121.out 8).trans rfl
                  have hcz17_9 : w5.cell? ⟨gb121, 9, none⟩ = some (.bool a0_9) := (blk_cell BK121.out 9).trans rfl
                  have hcz17_10 : w5.cell? ⟨gb121, 10, none⟩ = some (.bool a0_10) := (blk_cell BK121.out 10).trans rfl
                  have hfz17_0 := blk_frozen BK121.out 0
                  have hfz17_1 := blk_frozen BK121.out 1
                  have hfz17_2 := blk_frozen BK121.out 2
                  have hfz17_3 := blk_frozen BK121.out 3
                  have hfz17_4 := blk_frozen BK121.out 4
                  have hfz17_5 := blk_frozen BK121.out 5
                  have hfz17_6 := blk_frozen BK121.out 6
                  have hfz17_7 := blk_frozen BK121.out 7
                  have hfz17_8 := blk_frozen BK121.out 8
                  have hfz17_9 := blk_frozen BK121.out 9
                  have hfz17_10 := blk_frozen BK121.out 10
                  have hcz18_0 : w5.cell? ⟨gb122, 0, none⟩ = some (.int .i64 a1_0) := (blk_cell BK122.out 0).trans rfl
                  have hcz18_1 : w5.cell? ⟨gb122, 1, none⟩ = some (.string a1_1) := (blk_cell BK122.out 1).trans rfl
                  have hcz18_2 : w5.cell? ⟨gb122, 2, none⟩ = some (.string a1_2) := (blk_cell BK122.out 2).trans rfl
                  have hcz18_3 : w5.cell? ⟨gb122, 3, none⟩ = some (.string a1_3) := (blk_cell BK122.out 3).trans rfl
                  have hcz18_4 : w5.cell? ⟨gb122, 4, none⟩ = some (.int .i64 a1_4) := (blk_cell BK122.out 4).trans rfl
                  have hcz18_5 : w5.cell? ⟨gb122, 5, none⟩ = some (.slice A1_5 l1_5.length c1_5) := (blk_cell BK122.out 5).trans rfl
                  have hcz18_6 : w5.cell? ⟨gb122, 6, none⟩ = some (.slice A1_6 l1_6.length c1_6) := (blk_cell BK122.out 6).trans rfl
                  have hcz18_7 : w5.cell? ⟨gb122, 7, none⟩ = some (.int .i64 a1_7) := (blk_cell BK122.out 7).trans rfl
                  have hcz18_8 : w5.cell? ⟨gb122, 8, none⟩ = some (.slice A1_8 l1_8.length c1_8) := (blk_cell BK122.out 8).trans rfl
                  have hcz18_9 : w5.cell? ⟨gb122, 9, none⟩ = some (.bool a1_9) := (blk_cell BK122.out 9).trans rfl
                  have hcz18_10 : w5.cell? ⟨gb122, 10, none⟩ = some (.bool a1_10) := (blk_cell BK122.out 10).trans rfl
                  have hfz18_0 := blk_frozen BK122.out 0
                  have hfz18_1 := blk_frozen BK122.out 1
                  have hfz18_2 := blk_frozen BK122.out 2
                  have hfz18_3 := blk_frozen BK122.out 3
                  have hfz18_4 := blk_frozen BK122.out 4
                  have hfz18_5 := blk_frozen BK122.out 5
                  have hfz18_6 := blk_frozen BK122.out 6
                  have hfz18_7 := blk_frozen BK122.out 7
                  have hfz18_8 := blk_frozen BK122.out 8
                  have hfz18_9 := blk_frozen BK122.out 9
                  have hfz18_10 := blk_frozen BK122.out 10
                  go_wp2
                  go_meet
                  case rel => exact ⟨_, ((a0_10 != a1_10)), (by first | rfl | (simp; done) | (simp [*]; done)), H', ⟨by first | omega | exact Nat.le_refl _⟩, ⟨by (with_reducible repeat (first | refine blk_drewN ?_ _ | refine blk_drew ?_ | refine blk_alloc ?_ _)); exact BK121.out⟩, ⟨by (with_reducible repeat (first | refine blk_drewN ?_ _ | refine blk_drew ?_ | refine blk_alloc ?_ _)); exact BK122.out⟩, ⟨by repeat (first | (with_reducible first | exact HB.out | apply below_alloc | apply pw_below_drewN | apply below_drew1 | refine below_set ?_ GE121.out | refine below_set ?_ GE122.out) | exact HB.out)⟩⟩
              · rw [if_neg c11] at H
                have c11b0 : (a0_7 == a1_7) = false := beq_eq_false_iff_ne.mpr c11
                have c11b1 : (a0_7 != a1_7) = true := bne_iff_ne.mpr c11
                have H' := Aside0.mk H
                clear H
                have hnb19 := NB121_122.out
                have hnc19 := NB122_121.out
                have hcz20_0 : w5.cell? ⟨gb121, 0, none⟩ = some (.int .i64 a0_0) := (blk_cell BK121.out 0).trans rfl
                have hcz20_1 : w5.cell? ⟨gb121, 1, none⟩ = some (.string a0_1) := (blk_cell BK121.out 1).trans rfl
                have hcz20_2 : w5.cell? ⟨gb121, 2, none⟩ = some (.string a0_2) := (blk_cell BK121.out 2).trans rfl
                have hcz20_3 : w5.cell? ⟨gb121, 3, none⟩ = some (.string a0_3) := (blk_cell BK121.out 3).trans rfl
                have hcz20_4 : w5.cell? ⟨gb121, 4, none⟩ = some (.int .i64 a0_4) := (blk_cell BK121.out 4).trans rfl
                have hcz20_5 : w5.cell? ⟨gb121, 5, none⟩ = some (.slice A0_5 l0_5.length c0_5) := (blk_cell BK121.out 5).trans rfl
                have hcz20_6 : w5.cell? ⟨gb121, 6, none⟩ = some (.slice A0_6 l0_6.length c0_6) := (blk_cell BK121.out 6).trans rfl
                have hcz20_7 : w5.cell? ⟨gb121, 7, none⟩ = some (.int .i64 a0_7) := (blk_cell BK121.out 7).trans rfl
                have hcz20_8 : w5.cell? ⟨gb121, 8, none⟩ = some (.slice A0_8 l0_8.length c0_8) := (blk_cell BK121.out 8).trans rfl
                have hcz20_9 : w5.cell? ⟨gb121, 9, none⟩ = some (.bool a0_9) := (blk_cell BK121.out 9).trans rfl
                have hcz20_10 : w5.cell? ⟨gb121, 10, none⟩ = some (.bool a0_10) := (blk_cell BK121.out 10).trans rfl
                have hfz20_0 := blk_frozen BK121.out 0
                have hfz20_1 := blk_frozen BK121.out 1
                have hfz20_2 := blk_frozen BK121.out 2
                have hfz20_3 := blk_frozen BK121.out 3
                have hfz20_4 := blk_frozen BK121.out 4
                have hfz20_5 := blk_frozen BK121.out 5
                have hfz20_6 := blk_frozen BK121.out 6
                have hfz20_7 := blk_frozen BK121.out 7
                have hfz20_8 := blk_frozen BK121.out 8
                have hfz20_9 := blk_frozen BK121.out 9
                have hfz20_10 := blk_frozen BK121.out 10
                have hcz21_0 : w5.cell? ⟨gb122, 0, none⟩ = some (.int .i64 a1_0) := (blk_cell BK122.out 0).trans rfl
                have hcz21_1 : w5.cell? ⟨gb122, 1, none⟩ = some (.string a1_1) := (blk_cell BK122.out 1).trans rfl
                have hcz21_2 : w5.cell? ⟨gb122, 2, none⟩ = some (.string a1_2) := (blk_cell BK122.out 2).trans rfl
                have hcz21_3 : w5.cell? ⟨gb122, 3, none⟩ = some (.string a1_3) := (blk_cell BK122.out 3).trans rfl
                have hcz21_4 : w5.cell? ⟨gb122, 4, none⟩ = some (.int .i64 a1_4) := (blk_cell BK122.out 4).trans rfl
                have hcz21_5 : w5.cell? ⟨gb122, 5, none⟩ = some (.slice A1_5 l1_5.length c1_5) := (blk_cell BK122.out 5).trans rfl
                have hcz21_6 : w5.cell? ⟨gb122, 6, none⟩ = some (.slice A1_6 l1_6.length c1_6) := (blk_cell BK122.out 6).trans rfl
                have hcz21_7 : w5.cell? ⟨gb122, 7, none⟩ = some (.int .i64 a1_7) := (blk_cell BK122.out 7).trans rfl
                have hcz21_8 : w5.cell? ⟨gb122, 8, none⟩ = some (.slice A1_8 l1_8.length c1_8) := (blk_cell BK122.out 8).trans rfl
                have hcz21_9 : w5.cell? ⟨gb122, 9, none⟩ = some (.bool a1_9) := (blk_cell BK122.out 9).trans rfl
                have hcz21_10 : w5.cell? ⟨gb122, 10, none⟩ = some (.bool a1_10) := (blk_cell BK122.out 10).trans rfl
                have hfz21_0 := blk_frozen BK122.out 0
                have hfz21_1 := blk_frozen BK122.out 1
                have hfz21_2 := blk_frozen BK122.out 2
                have hfz21_3 := blk_frozen BK122.out 3
                have hfz21_4 := blk_frozen BK122.out 4
                have hfz21_5 := blk_frozen BK122.out 5
                have hfz21_6 := blk_frozen BK122.out 6
                have hfz21_7 := blk_frozen BK122.out 7
                have hfz21_8 := blk_frozen BK122.out 8
                have hfz21_9 := blk_frozen BK122.out 9
                have hfz21_10 := blk_frozen BK122.out 10
                go_wp2
                go_meet
                case rel => exact ⟨_, (true), (by first | rfl | (simp; done) | (simp [*]; done)), H', ⟨by first | omega | exact Nat.le_refl _⟩, ⟨by (with_reducible repeat (first | refine blk_drewN ?_ _ | refine blk_drew ?_ | refine blk_alloc ?_ _)); exact BK121.out⟩, ⟨by (with_reducible repeat (first | refine blk_drewN ?_ _ | refine blk_drew ?_ | refine blk_alloc ?_ _)); exact BK122.out⟩, ⟨by repeat (first | (with_reducible first | exact HB.out | apply below_alloc | apply pw_below_drewN | apply below_drew1 | refine below_set ?_ GE121.out | refine below_set ?_ GE122.out) | exact HB.out)⟩⟩
            · rw [if_neg c10] at H
              have c10b0 : (a0_1.toList == a1_1.toList) = false := beq_eq_false_iff_ne.mpr c10
              have c10b1 : (a0_1.toList != a1_1.toList) = true := bne_iff_ne.mpr c10
              have H' := Aside0.mk H
              clear H
              have hnb22 := NB121_122.out
              have hnc22 := NB122_121.out
              have hcz23_0 : w5.cell? ⟨gb121, 0, none⟩ = some (.int .i64 a0_0) := (blk_cell BK121.out 0).trans rfl
              have hcz23_1 : w5.cell? ⟨gb121, 1, none⟩ = some (.string a0_1) := (blk_cell BK121.out 1).trans rfl
              have hcz23_2 : w5.cell? ⟨gb121, 2, none⟩ = some (.string a0_2) := (blk_cell BK121.out 2).trans rfl
              have hcz23_3 : w5.cell? ⟨gb121, 3, none⟩ = some (.string a0_3) := (blk_cell BK121.out 3).trans rfl
              have hcz23_4 : w5.cell? ⟨gb121, 4, none⟩ = some (.int .i64 a0_4) := (blk_cell BK121.out 4).trans rfl
              have hcz23_5 : w5.cell? ⟨gb121, 5, none⟩ = some (.slice A0_5 l0_5.length c0_5) := (blk_cell BK121.out 5).trans rfl
              have hcz23_6 : w5.cell? ⟨gb121, 6, none⟩ = some (.slice A0_6 l0_6.length c0_6) := (blk_cell BK121.out 6).trans rfl
              have hcz23_7 : w5.cell? ⟨gb121, 7, none⟩ = some (.int .i64 a0_7) := (blk_cell BK121.out 7).trans rfl
              have hcz23_8 : w5.cell? ⟨gb121, 8, none⟩ = some (.slice A0_8 l0_8.length c0_8) := (blk_cell BK121.out 8).trans rfl
              have hcz23_9 : w5.cell? ⟨gb121, 9, none⟩ = some (.bool a0_9) := (blk_cell BK121.out 9).trans rfl
              have hcz23_10 : w5.cell? ⟨gb121, 10, none⟩ = some (.bool a0_10) := (blk_cell BK121.out 10).trans rfl
              have hfz23_0 := blk_frozen BK121.out 0
              have hfz23_1 := blk_frozen BK121.out 1
              have hfz23_2 := blk_frozen BK121.out 2
              have hfz23_3 := blk_frozen BK121.out 3
              have hfz23_4 := blk_frozen BK121.out 4
              have hfz23_5 := blk_frozen BK121.out 5
              have hfz23_6 := blk_frozen BK121.out 6
              have hfz23_7 := blk_frozen BK121.out 7
              have hfz23_8 := blk_frozen BK121.out 8
              have hfz23_9 := blk_frozen BK121.out 9
              have hfz23_10 := blk_frozen BK121.out 10
              have hcz24_0 : w5.cell? ⟨gb122, 0, none⟩ = some (.int .i64 a1_0) := (blk_cell BK122.out 0).trans rfl
              have hcz24_1 : w5.cell? ⟨gb122, 1, none⟩ = some (.string a1_1) := (blk_cell BK122.out 1).trans rfl
              have hcz24_2 : w5.cell? ⟨gb122, 2, none⟩ = some (.string a1_2) := (blk_cell BK122.out 2).trans rfl
              have hcz24_3 : w5.cell? ⟨gb122, 3, none⟩ = some (.string a1_3) := (blk_cell BK122.out 3).trans rfl
              have hcz24_4 : w5.cell? ⟨gb122, 4, none⟩ = some (.int .i64 a1_4) := (blk_cell BK122.out 4).trans rfl
              have hcz24_5 : w5.cell? ⟨gb122, 5, none⟩ = some (.slice A1_5 l1_5.length c1_5) := (blk_cell BK122.out 5).trans rfl
              have hcz24_6 : w5.cell? ⟨gb122, 6, none⟩ = some (.slice A1_6 l1_6.length c1_6) := (blk_cell BK122.out 6).trans rfl
              have hcz24_7 : w5.cell? ⟨gb122, 7, none⟩ = some (.int .i64 a1_7) := (blk_cell BK122.out 7).trans rfl
              have hcz24_8 : w5.cell? ⟨gb122, 8, none⟩ = some (.slice A1_8 l1_8.length c1_8) := (blk_cell BK122.out 8).trans rfl
              have hcz24_9 : w5.cell? ⟨gb122, 9, none⟩ = some (.bool a1_9) := (blk_cell BK122.out 9).trans rfl
              have hcz24_10 : w5.cell? ⟨gb122, 10, none⟩ = some (.bool a1_10) := (blk_cell BK122.out 10).trans rfl
              have hfz24_0 := blk_frozen BK122.out 0
              have hfz24_1 := blk_frozen BK122.out 1
              have hfz24_2 := blk_frozen BK122.out 2
              have hfz24_3 := blk_frozen BK122.out 3
              have hfz24_4 := blk_frozen BK122.out 4
              have hfz24_5 := blk_frozen BK122.out 5
              have hfz24_6 := blk_frozen BK122.out 6
              have hfz24_7 := blk_frozen BK122.out 7
              have hfz24_8 := blk_frozen BK122.out 8
              have hfz24_9 := blk_frozen BK122.out 9
              have hfz24_10 := blk_frozen BK122.out 10
              go_wp2
              go_meet
              case rel => exact ⟨_, (true), (by first | rfl | (simp; done) | (simp [*]; done)), H', ⟨by first | omega | exact Nat.le_refl _⟩, ⟨by (with_reducible repeat (first | refine blk_drewN ?_ _ | refine blk_drew ?_ | refine blk_alloc ?_ _)); exact BK121.out⟩, ⟨by (with_reducible repeat (first | refine blk_drewN ?_ _ | refine blk_drew ?_ | refine blk_alloc ?_ _)); exact BK122.out⟩, ⟨by repeat (first | (with_reducible first | exact HB.out | apply below_alloc | apply pw_below_drewN | apply below_drew1 | refine below_set ?_ GE121.out | refine below_set ?_ GE122.out) | exact HB.out)⟩⟩
          · rw [if_neg c9] at H
            have c9b0 : (a0_4 == a1_4) = false := beq_eq_false_iff_ne.mpr c9
            have c9b1 : (a0_4 != a1_4) = true := bne_iff_ne.mpr c9
            have H' := Aside0.mk H
            clear H
            have hnb25 := NB121_122.out
            have hnc25 := NB122_121.out
            have hcz26_0 : w5.cell? ⟨gb121, 0, none⟩ = some (.int .i64 a0_0) := (blk_cell BK121.out 0).trans rfl
            have hcz26_1 : w5.cell? ⟨gb121, 1, none⟩ = some (.string a0_1) := (blk_cell BK121.out 1).trans rfl
            have hcz26_2 : w5.cell? ⟨gb121, 2, none⟩ = some (.string a0_2) := (blk_cell BK121.out 2).trans rfl
            have hcz26_3 : w5.cell? ⟨gb121, 3, none⟩ = some (.string a0_3) := (blk_cell BK121.out 3).trans rfl
            have hcz26_4 : w5.cell? ⟨gb121, 4, none⟩ = some (.int .i64 a0_4) := (blk_cell BK121.out 4).trans rfl
            have hcz26_5 : w5.cell? ⟨gb121, 5, none⟩ = some (.slice A0_5 l0_5.length c0_5) := (blk_cell BK121.out 5).trans rfl
            have hcz26_6 : w5.cell? ⟨gb121, 6, none⟩ = some (.slice A0_6 l0_6.length c0_6) := (blk_cell BK121.out 6).trans rfl
            have hcz26_7 : w5.cell? ⟨gb121, 7, none⟩ = some (.int .i64 a0_7) := (blk_cell BK121.out 7).trans rfl
            have hcz26_8 : w5.cell? ⟨gb121, 8, none⟩ = some (.slice A0_8 l0_8.length c0_8) := (blk_cell BK121.out 8).trans rfl
            have hcz26_9 : w5.cell? ⟨gb121, 9, none⟩ = some (.bool a0_9) := (blk_cell BK121.out 9).trans rfl
            have hcz26_10 : w5.cell? ⟨gb121, 10, none⟩ = some (.bool a0_10) := (blk_cell BK121.out 10).trans rfl
            have hfz26_0 := blk_frozen BK121.out 0
            have hfz26_1 := blk_frozen BK121.out 1
            have hfz26_2 := blk_frozen BK121.out 2
            have hfz26_3 := blk_frozen BK121.out 3
            have hfz26_4 := blk_frozen BK121.out 4
            have hfz26_5 := blk_frozen BK121.out 5
            have hfz26_6 := blk_frozen BK121.out 6
            have hfz26_7 := blk_frozen BK121.out 7
            have hfz26_8 := blk_frozen BK121.out 8
            have hfz26_9 := blk_frozen BK121.out 9
            have hfz26_10 := blk_frozen BK121.out 10
            have hcz27_0 : w5.cell? ⟨gb122, 0, none⟩ = some (.int .i64 a1_0) := (blk_cell BK122.out 0).trans rfl
            have hcz27_1 : w5.cell? ⟨gb122, 1, none⟩ = some (.string a1_1) := (blk_cell BK122.out 1).trans rfl
            have hcz27_2 : w5.cell? ⟨gb122, 2, none⟩ = some (.string a1_2) := (blk_cell BK122.out 2).trans rfl
            have hcz27_3 : w5.cell? ⟨gb122, 3, none⟩ = some (.string a1_3) := (blk_cell BK122.out 3).trans rfl
            have hcz27_4 : w5.cell? ⟨gb122, 4, none⟩ = some (.int .i64 a1_4) := (blk_cell BK122.out 4).trans rfl
            have hcz27_5 : w5.cell? ⟨gb122, 5, none⟩ = some (.slice A1_5 l1_5.length c1_5) := (blk_cell BK122.out 5).trans rfl
            have hcz27_6 : w5.cell? ⟨gb122, 6, none⟩ = some (.slice A1_6 l1_6.length c1_6) := (blk_cell BK122.out 6).trans rfl
            have hcz27_7 : w5.cell? ⟨gb122, 7, none⟩ = some (.int .i64 a1_7) := (blk_cell BK122.out 7).trans rfl
            have hcz27_8 : w5.cell? ⟨gb122, 8, none⟩ = some (.slice A1_8 l1_8.length c1_8) := (blk_cell BK122.out 8).trans rfl
            have hcz27_9 : w5.cell? ⟨gb122, 9, none⟩ = some (.bool a1_9) := (blk_cell BK122.out 9).trans rfl
            have hcz27_10 : w5.cell? ⟨gb122, 10, none⟩ = some (.bool a1_10) := (blk_cell BK122.out 10).trans rfl
            have hfz27_0 := blk_frozen BK122.out 0
            have hfz27_1 := blk_frozen BK122.out 1
            have hfz27_2 := blk_frozen BK122.out 2
            have hfz27_3 := blk_frozen BK122.out 3
            have hfz27_4 := blk_frozen BK122.out 4
            have hfz27_5 := blk_frozen BK122.out 5
            have hfz27_6 := blk_frozen BK122.out 6
            have hfz27_7 := blk_frozen BK122.out 7
            have hfz27_8 := blk_frozen BK122.out 8
            have hfz27_9 := blk_frozen BK122.out 9
            have hfz27_10 := blk_frozen BK122.out 10
            go_wp2
            go_meet
            case rel => exact ⟨_, (true), (by first | rfl | (simp; done) | (simp [*]; done)), H', ⟨by first | omega | exact Nat.le_refl _⟩, ⟨by (with_reducible repeat (first | refine blk_drewN ?_ _ | refine blk_drew ?_ | refine blk_alloc ?_ _)); exact BK121.out⟩, ⟨by (with_reducible repeat (first | refine blk_drewN ?_ _ | refine blk_drew ?_ | refine blk_alloc ?_ _)); exact BK122.out⟩, ⟨by repeat (first | (with_reducible first | exact HB.out | apply below_alloc | apply pw_below_drewN | apply below_drew1 | refine below_set ?_ GE121.out | refine below_set ?_ GE122.out) | exact HB.out)⟩⟩
        · rw [if_neg c8] at H
          have c8b0 : (a0_3.toList == a1_3.toList) = false := beq_eq_false_iff_ne.mpr c8
          have c8b1 : (a0_3.toList != a1_3.toList) = true := bne_iff_ne.mpr c8
          have H' := Aside0.mk H
          clear H
          have hnb28 := NB121_122.out
          have hnc28 := NB122_121.out
          have hcz29_0 : w5.cell? ⟨gb121, 0, none⟩ = some (.int .i64 a0_0) := (blk_cell BK121.out 0).trans rfl
          have hcz29_1 : w5.cell? ⟨gb121, 1, none⟩ = some (.string a0_1) := (blk_cell BK121.out 1).trans rfl
          have hcz29_2 : w5.cell? ⟨gb121, 2, none⟩ = some (.string a0_2) := (blk_cell BK121.out 2).trans rfl
          have hcz29_3 : w5.cell? ⟨gb121, 3, none⟩ = some (.string a0_3) := (blk_cell BK121.out 3).trans rfl
          have hcz29_4 : w5.cell? ⟨gb121, 4, none⟩ = some (.int .i64 a0_4) := (blk_cell BK121.out 4).trans rfl
          have hcz29_5 : w5.cell? ⟨gb121, 5, none⟩ = some (.slice A0_5 l0_5.length c0_5) := (blk_cell BK121.out 5).trans rfl
          have hcz29_6 : w5.cell? ⟨gb121, 6, none⟩ = some (.slice A0_6 l0_6.length c0_6) := (blk_cell BK121.out 6).trans rfl
          have hcz29_7 : w5.cell? ⟨gb121, 7, none⟩ = some (.int .i64 a0_7) := (blk_cell BK121.out 7).trans rfl
          have hcz29_8 : w5.cell? ⟨gb121, 8, none⟩ = some (.slice A0_8 l0_8.length c0_8) := (blk_cell BK121.out 8).trans rfl
          have hcz29_9 : w5.cell? ⟨gb121, 9, none⟩ = some (.bool a0_9) := (blk_cell BK121.out 9).trans rfl
          have hcz29_10 : w5.cell? ⟨gb121, 10, none⟩ = some (.bool a0_10) := (blk_cell BK121.out 10).trans rfl
          have hfz29_0 := blk_frozen BK121.out 0
          have hfz29_1 := blk_frozen BK121.out 1
          have hfz29_2 := blk_frozen BK121.out 2
          have hfz29_3 := blk_frozen BK121.out 3
          have hfz29_4 := blk_frozen BK121.out 4
          have hfz29_5 := blk_frozen BK121.out 5
          have hfz29_6 := blk_frozen BK121.out 6
          have hfz29_7 := blk_frozen BK121.out 7
          have hfz29_8 := blk_frozen BK121.out 8
          have hfz29_9 := blk_frozen BK121.out 9
          have hfz29_10 := blk_frozen BK121.out 10
          have hcz30_0 : w5.cell? ⟨gb122, 0, none⟩ = some (.int .i64 a1_0) := (blk_cell BK122.out 0).trans rfl
          have hcz30_1 : w5.cell? ⟨gb122, 1, none⟩ = some (.string a1_1) := (blk_cell BK122.out 1).trans rfl
          have hcz30_2 : w5.cell? ⟨gb122, 2, none⟩ = some (.string a1_2) := (blk_cell BK122.out 2).trans rfl
          have hcz30_3 : w5.cell? ⟨gb122, 3, none⟩ = some (.string a1_3) := (blk_cell BK122.out 3).trans rfl
          have hcz30_4 : w5.cell? ⟨gb122, 4, none⟩ = some (.int .i64 a1_4) := (blk_cell BK122.out 4).trans rfl
          have hcz30_5 : w5.cell? ⟨gb122, 5, none⟩ = some (.slice A1_5 l1_5.length c1_5) := (blk_cell BK122.out 5).trans rfl
          have hcz30_6 : w5.cell? ⟨gb122, 6, none⟩ = some (.slice A1_6 l1_6.length c1_6) := (blk_cell BK122.out 6).trans rfl
          have hcz30_7 : w5.cell? ⟨gb122, 7, none⟩ = some (.int .i64 a1_7) := (blk_cell BK122.out 7).trans rfl
          have hcz30_8 : w5.cell? ⟨gb122, 8, none⟩ = some (.slice A1_8 l1_8.length c1_8) := (blk_cell BK122.out 8).trans rfl
          have hcz30_9 : w5.cell? ⟨gb122, 9, none⟩ = some (.bool a1_9) := (blk_cell BK122.out 9).trans rfl
          have hcz30_10 : w5.cell? ⟨gb122, 10, none⟩ = some (.bool a1_10) := (blk_cell BK122.out 10).trans rfl
          have hfz30_0 := blk_frozen BK122.out 0
          have hfz30_1 := blk_frozen BK122.out 1
          have hfz30_2 := blk_frozen BK122.out 2
          have hfz30_3 := blk_frozen BK122.out 3
          have hfz30_4 := blk_frozen BK122.out 4
          have hfz30_5 := blk_frozen BK122.out 5
          have hfz30_6 := blk_frozen BK122.out 6
          have hfz30_7 := blk_frozen BK122.out 7
          have hfz30_8 := blk_frozen BK122.out 8
          have hfz30_9 := blk_frozen BK122.out 9
          have hfz30_10 := blk_frozen BK122.out 10
          go_wp2
          go_meet
          case rel => exact ⟨_, (true), (by first | rfl | (simp; done) | (simp [*]; done)), H', ⟨by first | omega | exact Nat.le_refl _⟩, ⟨by (with_reducible repeat (first | refine blk_drewN ?_ _ | refine blk_drew ?_ | refine blk_alloc ?_ _)); exact BK121.out⟩, ⟨by (with_reducible repeat (first | refine blk_drewN ?_ _ | refine blk_drew ?_ | refine blk_alloc ?_ _)); exact BK122.out⟩, ⟨by repeat (first | (with_reducible first | exact HB.out | apply below_alloc | apply pw_below_drewN | apply below_drew1 | refine below_set ?_ GE121.out | refine below_set ?_ GE122.out) | exact HB.out)⟩⟩
      · rw [if_neg c7] at H
        have c7b0 : (a0_2.toList == a1_2.toList) = false := beq_eq_false_iff_ne.mpr c7
        have c7b1 : (a0_2.toList != a1_2.toList) = true := bne_iff_ne.mpr c7
        have H' := Aside0.mk H
        clear H
        have hnb31 := NB121_122.out
        have hnc31 := NB122_121.out
        have hcz32_0 : w5.cell? ⟨gb121, 0, none⟩ = some (.int .i64 a0_0) := (blk_cell BK121.out 0).trans rfl
        have hcz32_1 : w5.cell? ⟨gb121, 1, none⟩ = some (.string a0_1) := (blk_cell BK121.out 1).trans rfl
        have hcz32_2 : w5.cell? ⟨gb121, 2, none⟩ = some (.string a0_2) := (blk_cell BK121.out 2).trans rfl
        have hcz32_3 : w5.cell? ⟨gb121, 3, none⟩ = some (.string a0_3) := (blk_cell BK121.out 3).trans rfl
        have hcz32_4 : w5.cell? ⟨gb121, 4, none⟩ = some (.int .i64 a0_4) := (blk_cell BK121.out 4).trans rfl
        have hcz32_5 : w5.cell? ⟨gb121, 5, none⟩ = some (.slice A0_5 l0_5.length c0_5) := (blk_cell BK121.out 5).trans rfl
        have hcz32_6 : w5.cell? ⟨gb121, 6, none⟩ = some (.slice A0_6 l0_6.length c0_6) := (blk_cell BK121.out 6).trans rfl
        have hcz32_7 : w5.cell? ⟨gb121, 7, none⟩ = some (.int .i64 a0_7) := (blk_cell BK121.out 7).trans rfl
        have hcz32_8 : w5.cell? ⟨gb121, 8, none⟩ = some (.slice A0_8 l0_8.length c0_8) := (blk_cell BK121.out 8).trans rfl
        have hcz32_9 : w5.cell? ⟨gb121, 9, none⟩ = some (.bool a0_9) := (blk_cell BK121.out 9).trans rfl
        have hcz32_10 : w5.cell? ⟨gb121, 10, none⟩ = some (.bool a0_10) := (blk_cell BK121.out 10).trans rfl
        have hfz32_0 := blk_frozen BK121.out 0
        have hfz32_1 := blk_frozen BK121.out 1
        have hfz32_2 := blk_frozen BK121.out 2
        have hfz32_3 := blk_frozen BK121.out 3
        have hfz32_4 := blk_frozen BK121.out 4
        have hfz32_5 := blk_frozen BK121.out 5
        have hfz32_6 := blk_frozen BK121.out 6
        have hfz32_7 := blk_frozen BK121.out 7
        have hfz32_8 := blk_frozen BK121.out 8
        have hfz32_9 := blk_frozen BK121.out 9
        have hfz32_10 := blk_frozen BK121.out 10
        have hcz33_0 : w5.cell? ⟨gb122, 0, none⟩ = some (.int .i64 a1_0) := (blk_cell BK122.out 0).trans rfl
        have hcz33_1 : w5.cell? ⟨gb122, 1, none⟩ = some (.string a1_1) := (blk_cell BK122.out 1).trans rfl
        have hcz33_2 : w5.cell? ⟨gb122, 2, none⟩ = some (.string a1_2) := (blk_cell BK122.out 2).trans rfl
        have hcz33_3 : w5.cell? ⟨gb122, 3, none⟩ = some (.string a1_3) := (blk_cell BK122.out 3).trans rfl
        have hcz33_4 : w5.cell? ⟨gb122, 4, none⟩ = some (.int .i64 a1_4) := (blk_cell BK122.out 4).trans rfl
        have hcz33_5 : w5.cell? ⟨gb122, 5, none⟩ = some (.slice A1_5 l1_5.length c1_5) := (blk_cell BK122.out 5).trans rfl
        have hcz33_6 : w5.cell? ⟨gb122, 6, none⟩ = some (.slice A1_6 l1_6.length c1_6) := (blk_cell BK122.out 6).trans rfl
        have hcz33_7 : w5.cell? ⟨gb122, 7, none⟩ = some (.int .i64 a1_7) := (blk_cell BK122.out 7).trans rfl
        have hcz33_8 : w5.cell? ⟨gb122, 8, none⟩ = some (.slice A1_8 l1_8.length c1_8) := (blk_cell BK122.out 8).trans rfl
        have hcz33_9 : w5.cell? ⟨gb122, 9, none⟩ = some (.bool a1_9) := (blk_cell BK122.out 9).trans rfl
        have hcz33_10 : w5.cell? ⟨gb122, 10, none⟩ = some (.bool a1_10) := (blk_cell BK122.out 10).trans rfl
        have hfz33_0 := blk_frozen BK122.out 0
        have hfz33_1 := blk_frozen BK122.out 1
        have hfz33_2 := blk_frozen BK122.out 2
        have hfz33_3 := blk_frozen BK122.out 3
        have hfz33_4 := blk_frozen BK122.out 4
        have hfz33_5 := blk_frozen BK122.out 5
        have hfz33_6 := blk_frozen BK122.out 6
        have hfz33_7 := blk_frozen BK122.out 7
        have hfz33_8 := blk_frozen BK122.out 8
        have hfz33_9 := blk_frozen BK122.out 9
        have hfz33_10 := blk_frozen BK122.out 10
        go_wp2
        go_meet
        case rel => exact ⟨_, (true), (by first | rfl | (simp; done) | (simp [*]; done)), H', ⟨by first | omega | exact Nat.le_refl _⟩, ⟨by (with_reducible repeat (first | refine blk_drewN ?_ _ | refine blk_drew ?_ | refine blk_alloc ?_ _)); exact BK121.out⟩, ⟨by (with_reducible repeat (first | refine blk_drewN ?_ _ | refine blk_drew ?_ | refine blk_alloc ?_ _)); exact BK122.out⟩, ⟨by repeat (first | (with_reducible first | exact HB.out | apply below_alloc | apply pw_below_drewN | apply below_drew1 | refine below_set ?_ GE121.out | refine below_set ?_ GE122.out) | exact HB.out)⟩⟩
    · rw [if_neg c6] at H
      have c6b0 : (a0_0 == a1_0) = false := beq_eq_false_iff_ne.mpr c6
      have c6b1 : (a0_0 != a1_0) = true := bne_iff_ne.mpr c6
      (first | rw [c6b0] | (simp only [i64_w, i32_w]; rw [c6b0]) | skip)
      have H' := Aside0.mk H
      clear H
      have hnb34 := NB121_122.out
      have hnc34 := NB122_121.out
      have hcz35_0 : w5.cell? ⟨gb121, 0, none⟩ = some (.int .i64 a0_0) := (blk_cell BK121.out 0).trans rfl
      have hcz35_1 : w5.cell? ⟨gb121, 1, none⟩ = some (.string a0_1) := (blk_cell BK121.out 1).trans rfl
      have hcz35_2 : w5.cell? ⟨gb121, 2, none⟩ = some (.string a0_2) := (blk_cell BK121.out 2).trans rfl
      have hcz35_3 : w5.cell? ⟨gb121, 3, none⟩ = some (.string a0_3) := (blk_cell BK121.out 3).trans rfl
      have hcz35_4 : w5.cell? ⟨gb121, 4, none⟩ = some (.int .i64 a0_4) := (blk_cell BK121.out 4).trans rfl
      have hcz35_5 : w5.cell? ⟨gb121, 5, none⟩ = some (.slice A0_5 l0_5.length c0_5) := (blk_cell BK121.out 5).trans rfl
      have hcz35_6 : w5.cell? ⟨gb121, 6, none⟩ = some (.slice A0_6 l0_6.length c0_6) := (blk_cell BK121.out 6).trans rfl
      have hcz35_7 : w5.cell? ⟨gb121, 7, none⟩ = some (.int .i64 a0_7) := (blk_cell BK121.out 7).trans rfl
      have hcz35_8 : w5.cell? ⟨gb121, 8, none⟩ = some (.slice A0_8 l0_8.length c0_8) := (blk_cell BK121.out 8).trans rfl
      have hcz35_9 : w5.cell? ⟨gb121, 9, none⟩ = some (.bool a0_9) := (blk_cell BK121.out 9).trans rfl
      have hcz35_10 : w5.cell? ⟨gb121, 10, none⟩ = some (.bool a0_10) := (blk_cell BK121.out 10).trans rfl
      have hfz35_0 := blk_frozen BK121.out 0
      have hfz35_1 := blk_frozen BK121.out 1
      have hfz35_2 := blk_frozen BK121.out 2
      have hfz35_3 := blk_frozen BK121.out 3
      have hfz35_4 := blk_frozen BK121.out 4
      have hfz35_5 := blk_frozen BK121.out 5
      have hfz35_6 := blk_frozen BK121.out 6
      have hfz35_7 := blk_frozen BK121.out 7
      have hfz35_8 := blk_frozen BK121.out 8
      have hfz35_9 := blk_frozen BK121.out 9
      have hfz35_10 := blk_frozen BK121.out 10
      have hcz36_0 : w5.cell? ⟨gb122, 0, none⟩ = some (.int .i64 a1_0) := (blk_cell BK122.out 0).trans rfl
      have hcz36_1 : w5.cell? ⟨gb122, 1, none⟩ = some (.string a1_1) := (blk_cell BK122.out 1).trans rfl
      have hcz36_2 : w5.cell? ⟨gb122, 2, none⟩ = some (.string a1_2) := (blk_cell BK122.out 2).trans rfl
      have hcz36_3 : w5.cell? ⟨gb122, 3, none⟩ = some (.string a1_3) := (blk_cell BK122.out 3).trans rfl
      have hcz36_4 : w5.cell? ⟨gb122, 4, none⟩ = some (.int .i64 a1_4) := (blk_cell BK122.out 4).trans rfl
      have hcz36_5 : w5.cell? ⟨gb122, 5, none⟩ = some (.slice A1_5 l1_5.length c1_5) := (blk_cell BK122.out 5).trans rfl
      have hcz36_6 : w5.cell? ⟨gb122, 6, none⟩ = some (.slice A1_6 l1_6.length c1_6) := (blk_cell BK122.out 6).trans rfl
      have hcz36_7 : w5.cell? ⟨gb122, 7, none⟩ = some (.int .i64 a1_7) := (blk_cell BK122.out 7).trans rfl
      have hcz36_8 : w5.cell? ⟨gb122, 8, none⟩ = some (.slice A1_8 l1_8.length c1_8) := (blk_cell BK122.out 8).trans rfl
      have hcz36_9 : w5.cell? ⟨gb122, 9, none⟩ = some (.bool a1_9) := (blk_cell BK122.out 9).trans rfl
      have hcz36_10 : w5.cell? ⟨gb122, 10, none⟩ = some (.bool a1_10) := (blk_cell BK122.out 10).trans rfl
      have hfz36_0 := blk_frozen BK122.out 0
      have hfz36_1 := blk_frozen BK122.out 1
      have hfz36_2 := blk_frozen BK122.out 2
      have hfz36_3 := blk_frozen BK122.out 3
      have hfz36_4 := blk_frozen BK122.out 4
      have hfz36_5 := blk_frozen BK122.out 5
      have hfz36_6 := blk_frozen BK122.out 6
      have hfz36_7 := blk_frozen BK122.out 7
      have hfz36_8 := blk_frozen BK122.out 8
      have hfz36_9 := blk_frozen BK122.out 9
      have hfz36_10 := blk_frozen BK122.out 10
      go_wp2
      go_meet
      case rel => exact ⟨_, (true), (by first | rfl | (simp; done) | (simp [*]; done)), H', ⟨by first | omega | exact Nat.le_refl _⟩, ⟨by (with_reducible repeat (first | refine blk_drewN ?_ _ | refine blk_drew ?_ | refine blk_alloc ?_ _)); exact BK121.out⟩, ⟨by (with_reducible repeat (first | refine blk_drewN ?_ _ | refine blk_drew ?_ | refine blk_alloc ?_ _)); exact BK122.out⟩, ⟨by repeat (first | (with_reducible first | exact HB.out | apply below_alloc | apply pw_below_drewN | apply below_drew1 | refine below_set ?_ GE121.out | refine below_set ?_ GE122.out) | exact HB.out)⟩⟩
  case rest =>
    clear HC3
    try clear c1
    try clear c2
    try clear p2
    try clear c3
    try clear c6
    try clear c6b0
    try clear c6b1
    try clear c7
    try clear c7b0
    try clear c7b1
    try clear c8
    try clear c8b0
    try clear c8b1
    try clear c9
    try clear c9b0
    try clear c9b1
    try clear c10
    try clear c10b0
    try clear c10b1
    try clear c11
    try clear c11b0
    try clear c11b1
    try clear c12
    try clear c12b0
    try clear c12b1
    try clear c12b2
    try clear c13
    try clear c16
    try clear c19
    try clear c22
    try clear c25
    try clear c28
    try clear c31
    try clear c34
    try clear hcz14_0
    try clear hcz14_1
    try clear hcz14_10
    try clear hcz14_2
    try clear hcz14_3
    try clear hcz14_4
    try clear hcz14_5
    try clear hcz14_6
    try clear hcz14_7
    try clear hcz14_8
    try clear hcz14_9
    try clear hcz15_0
    try clear hcz15_1
    try clear hcz15_10
    try clear hcz15_2
    try clear hcz15_3
    try clear hcz15_4
    try clear hcz15_5
    try clear hcz15_6
    try clear hcz15_7
    try clear hcz15_8
    try clear hcz15_9
    try clear hcz17_0
    try clear hcz17_1
    try clear hcz17_10
    try clear hcz17_2
    try clear hcz17_3
    try clear hcz17_4
    try clear hcz17_5
    try clear hcz17_6
    try clear hcz17_7
    try clear hcz17_8
    try clear hcz17_9
    try clear hcz18_0
    try clear hcz18_1
    try clear hcz18_10
    try clear hcz18_2
    try clear hcz18_3
    try clear hcz18_4
    try clear hcz18_5
    try clear hcz18_6
    try clear hcz18_7
    try clear hcz18_8
    try clear hcz18_9
    try clear hcz20_0
    try clear hcz20_1
    try clear hcz20_10
    try clear hcz20_2
    try clear hcz20_3
    try clear hcz20_4
    try clear hcz20_5
    try clear hcz20_6
    try clear hcz20_7
    try clear hcz20_8
    try clear hcz20_9
    try clear hcz21_0
    try clear hcz21_1
    try clear hcz21_10
    try clear hcz21_2
    try clear hcz21_3
    try clear hcz21_4
    try clear hcz21_5
    try clear hcz21_6
    try clear hcz21_7
    try clear hcz21_8
    try clear hcz21_9
    try clear hcz23_0
    try clear hcz23_1
    try clear hcz23_10
    try clear hcz23_2
    try clear hcz23_3
    try clear hcz23_4
    try clear hcz23_5
    try clear hcz23_6
    try clear hcz23_7
    try clear hcz23_8
    try clear hcz23_9
    try clear hcz24_0
    try clear hcz24_1
    try clear hcz24_10
    try clear hcz24_2
    try clear hcz24_3
    try clear hcz24_4
    try clear hcz24_5
    try clear hcz24_6
    try clear hcz24_7
    try clear hcz24_8
    try clear hcz24_9
    try clear hcz26_0
    try clear hcz26_1
    try clear hcz26_10
    try clear hcz26_2
    try clear hcz26_3
    try clear hcz26_4
    try clear hcz26_5
    try clear hcz26_6
    try clear hcz26_7
    try clear hcz26_8
    try clear hcz26_9
    try clear hcz27_0
    try clear hcz27_1
    try clear hcz27_10
    try clear hcz27_2
    try clear hcz27_3
    try clear hcz27_4
    try clear hcz27_5
    try clear hcz27_6
    try clear hcz27_7
    try clear hcz27_8
    try clear hcz27_9
    try clear hcz29_0
    try clear hcz29_1
    try clear hcz29_10
    try clear hcz29_2
    try clear hcz29_3
    try clear hcz29_4
    try clear hcz29_5
    try clear hcz29_6
    try clear hcz29_7
    try clear hcz29_8
    try clear hcz29_9
    try clear hcz30_0
    try clear hcz30_1
    try clear hcz30_10
    try clear hcz30_2
    try clear hcz30_3
    try clear hcz30_4
    try clear hcz30_5
    try clear hcz30_6
    try clear hcz30_7
    try clear hcz30_8
    try clear hcz30_9
    try clear hcz32_0
    try clear hcz32_1
    try clear hcz32_10
    try clear hcz32_2
    try clear hcz32_3
    try clear hcz32_4
    try clear hcz32_5
    try clear hcz32_6
    try clear hcz32_7
    try clear hcz32_8
    try clear hcz32_9
    try clear hcz33_0
    try clear hcz33_1
    try clear hcz33_10
    try clear hcz33_2
    try clear hcz33_3
    try clear hcz33_4
    try clear hcz33_5
    try clear hcz33_6
    try clear hcz33_7
    try clear hcz33_8
    try clear hcz33_9
    try clear hcz35_0
    try clear hcz35_1
    try clear hcz35_10
    try clear hcz35_2
    try clear hcz35_3
    try clear hcz35_4
    try clear hcz35_5
    try clear hcz35_6
    try clear hcz35_7
    try clear hcz35_8
    try clear hcz35_9
    try clear hcz36_0
    try clear hcz36_1
    try clear hcz36_10
    try clear hcz36_2
    try clear hcz36_3
    try clear hcz36_4
    try clear hcz36_5
    try clear hcz36_6
    try clear hcz36_7
    try clear hcz36_8
    try clear hcz36_9
    try clear hfz14_0
    try clear hfz14_1
    try clear hfz14_10
    try clear hfz14_2
    try clear hfz14_3
    try clear hfz14_4
    try clear hfz14_5
    try clear hfz14_6
    try clear hfz14_7
    try clear hfz14_8
    try clear hfz14_9
    try clear hfz15_0
    try clear hfz15_1
    try clear hfz15_10
    try clear hfz15_2
    try clear hfz15_3
    try clear hfz15_4
    try clear hfz15_5
    try clear hfz15_6
    try clear hfz15_7
    try clear hfz15_8
    try clear hfz15_9
    try clear hfz17_0
    try clear hfz17_1
    try clear hfz17_10
    try clear hfz17_2
    try clear hfz17_3
    try clear hfz17_4
    try clear hfz17_5
    try clear hfz17_6
    try clear hfz17_7
    try clear hfz17_8
    try clear hfz17_9
    try clear hfz18_0
    try clear hfz18_1
    try clear hfz18_10
    try clear hfz18_2
    try clear hfz18_3
    try clear hfz18_4
    try clear hfz18_5
    try clear hfz18_6
    try clear hfz18_7
    try clear hfz18_8
    try clear hfz18_9
    try clear hfz20_0
    try clear hfz20_1
    try clear hfz20_10
    try clear hfz20_2
    try clear hfz20_3
    try clear hfz20_4
    try clear hfz20_5
    try clear hfz20_6
    try clear hfz20_7
    try clear hfz20_8
    try clear hfz20_9
    try clear hfz21_0
    try clear hfz21_1
    try clear hfz21_10
    try clear hfz21_2
    try clear hfz21_3
    try clear hfz21_4
    try clear hfz21_5
    try clear hfz21_6
    try clear hfz21_7
    try clear hfz21_8
    try clear hfz21_9
    try clear hfz23_0
    try clear hfz23_1
    try clear hfz23_10
    try clear hfz23_2
    try clear hfz23_3
    try clear hfz23_4
    try clear hfz23_5
    try clear hfz23_6
    try clear hfz23_7
    try clear hfz23_8
    try clear hfz23_9
    try clear hfz24_0
    try clear hfz24_1
    try clear hfz24_10
    try clear hfz24_2
    try clear hfz24_3
    try clear hfz24_4
    try clear hfz24_5
    try clear hfz24_6
    try clear hfz24_7
    try clear hfz24_8
    try clear hfz24_9
    try clear hfz26_0
    try clear hfz26_1
    try clear hfz26_10
    try clear hfz26_2
    try clear hfz26_3
    try clear hfz26_4
    try clear hfz26_5
    try clear hfz26_6
    try clear hfz26_7
    try clear hfz26_8
    try clear hfz26_9
    try clear hfz27_0
    try clear hfz27_1
    try clear hfz27_10
    try clear hfz27_2
    try clear hfz27_3
    try clear hfz27_4
    try clear hfz27_5
    try clear hfz27_6
    try clear hfz27_7
    try clear hfz27_8
    try clear hfz27_9
    try clear hfz29_0
    try clear hfz29_1
    try clear hfz29_10
    try clear hfz29_2
    try clear hfz29_3
    try clear hfz29_4
    try clear hfz29_5
    try clear hfz29_6
    try clear hfz29_7
    try clear hfz29_8
    try clear hfz29_9
    try clear hfz30_0
    try clear hfz30_1
    try clear hfz30_10
    try clear hfz30_2
    try clear hfz30_3
    try clear hfz30_4
    try clear hfz30_5
    try clear hfz30_6
    try clear hfz30_7
    try clear hfz30_8
    try clear hfz30_9
    try clear hfz32_0
    try clear hfz32_1
    try clear hfz32_10
    try clear hfz32_2
    try clear hfz32_3
    try clear hfz32_4
    try clear hfz32_5
    try clear hfz32_6
    try clear hfz32_7
    try clear hfz32_8
    try clear hfz32_9
    try clear hfz33_0
    try clear hfz33_1
    try clear hfz33_10
    try clear hfz33_2
    try clear hfz33_3
    try clear hfz33_4
    try clear hfz33_5
    try clear hfz33_6
    try clear hfz33_7
    try clear hfz33_8
    try clear hfz33_9
    try clear hfz35_0
    try clear hfz35_1
    try clear hfz35_10
    try clear hfz35_2
    try clear hfz35_3
    try clear hfz35_4
    try clear hfz35_5
    try clear hfz35_6
    try clear hfz35_7
    try clear hfz35_8
    try clear hfz35_9
    try clear hfz36_0
    try clear hfz36_1
    try clear hfz36_10
    try clear hfz36_2
    try clear hfz36_3
    try clear hfz36_4
    try clear hfz36_5
    try clear hfz36_6
    try clear hfz36_7
    try clear hfz36_8
    try clear hfz36_9
    obtain ⟨kq, x58_2, rfl, HA, HJ2, BK121, BK122, HB⟩ := hcut
    cases kq with
    | zero => exact absurd HA.out (by simp [spec_Same.j0])
    | succ kj2 =>
      have H := HA.out
      clear HA
      simp only [spec_Same.j0] at H
      by_cases c37 : x58_2 = true
      · subst c37
        have H1 : (some false) = some r := by rw [if_pos rfl] at H; exact H
        clear H
        have H := H1
        clear H1
        obtain rfl := Option.some.inj H
        go_wp2
        go_ret
        exact ⟨by first | rfl | (simp [errW_none, errW_some] <;> rfl) | (simp [*, errW_none, errW_some] <;> rfl), by repeat (first | (with_reducible first | exact HB.out | apply below_alloc | apply pw_below_drewN | apply below_drew1 | refine below_set ?_ GE121.out | refine below_set ?_ GE122.out) | exact HB.out)⟩
      · replace c37 := Bool.eq_false_iff.mpr c37
        subst c37
        have H1 : ((spec_SameGiven.f kj2 l0_5 l1_5).bind fun t123 => (if t123 = true then ((spec_SameTexts.f kj2 l0_6 l1_6).bind fun t124 => (if t124 = true then ((spec_SameInts.f kj2 l0_8 l1_8).bind fun t125 => (some t125)) else (some false))) else (some false))) = some r := by rw [if_neg (show ¬ (false = true) by decide)] at H; exact H
        clear H
        have H := H1
        clear H1
        replace H := Option.bind_eq_some_iff.mp H
        obtain ⟨t123, A380, H⟩ := H
        replace H : (if t123 = true then ((spec_SameTexts.f kj2 l0_6 l1_6).bind fun t124 => (if t124 = true then ((spec_SameInts.f kj2 l0_8 l1_8).bind fun t125 => (some t125)) else (some false))) else (some false)) = some r := H
        have A38 := Aside0.mk A380
        clear A380
        by_cases c39 : t123 = true
        · subst c39
          have H1 : ((spec_SameTexts.f kj2 l0_6 l1_6).bind fun t124 => (if t124 = true then ((spec_SameInts.f kj2 l0_8 l1_8).bind fun t125 => (some t125)) else (some false))) = some r := by rw [if_pos rfl] at H; exact H
          clear H
          have H := H1
          clear H1
          replace H := Option.bind_eq_some_iff.mp H
          obtain ⟨t124, A400, H⟩ := H
          replace H : (if t124 = true then ((spec_SameInts.f kj2 l0_8 l1_8).bind fun t125 => (some t125)) else (some false)) = some r := H
          have A40 := Aside0.mk A400
          clear A400
          by_cases c41 : t124 = true
          · subst c41
            have H1 : ((spec_SameInts.f kj2 l0_8 l1_8).bind fun t125 => (some t125)) = some r := by rw [if_pos rfl] at H; exact H
            clear H
            have H := H1
            clear H1
            replace H := Option.bind_eq_some_iff.mp H
            obtain ⟨t125, A420, H⟩ := H
            replace H : (some t125) = some r := H
            have A42 := Aside0.mk A420
            clear A420
            obtain rfl := Option.some.inj H
            have hnb43 := NB121_122.out
            have hnc43 := NB122_121.out
            have hcz44_0 : wc.cell? ⟨gb121, 0, none⟩ = some (.int .i64 a0_0) := (blk_cell BK121.out 0).trans rfl
            have hcz44_1 : wc.cell? ⟨gb121, 1, none⟩ = some (.string a0_1) := (blk_cell BK121.out 1).trans rfl
            have hcz44_2 : wc.cell? ⟨gb121, 2, none⟩ = some (.string a0_2) := (blk_cell BK121.out 2).trans rfl
            have hcz44_3 : wc.cell? ⟨gb121, 3, none⟩ = some (.string a0_3) := (blk_cell BK121.out 3).trans rfl
            have hcz44_4 : wc.cell? ⟨gb121, 4, none⟩ = some (.int .i64 a0_4) := (blk_cell BK121.out 4).trans rfl
            have hcz44_5 : wc.cell? ⟨gb121, 5, none⟩ = some (.slice A0_5 l0_5.length c0_5) := (blk_cell BK121.out 5).trans rfl
            have hcz44_6 : wc.cell? ⟨gb121, 6, none⟩ = some (.slice A0_6 l0_6.length c0_6) := (blk_cell BK121.out 6).trans rfl
            have hcz44_7 : wc.cell? ⟨gb121, 7, none⟩ = some (.int .i64 a0_7) := (blk_cell BK121.out 7).trans rfl
            have hcz44_8 : wc.cell? ⟨gb121, 8, none⟩ = some (.slice A0_8 l0_8.length c0_8) := (blk_cell BK121.out 8).trans rfl
            have hcz44_9 : wc.cell? ⟨gb121, 9, none⟩ = some (.bool a0_9) := (blk_cell BK121.out 9).trans rfl
            have hcz44_10 : wc.cell? ⟨gb121, 10, none⟩ = some (.bool a0_10) := (blk_cell BK121.out 10).trans rfl
            have hfz44_0 := blk_frozen BK121.out 0
            have hfz44_1 := blk_frozen BK121.out 1
            have hfz44_2 := blk_frozen BK121.out 2
            have hfz44_3 := blk_frozen BK121.out 3
            have hfz44_4 := blk_frozen BK121.out 4
            have hfz44_5 := blk_frozen BK121.out 5
            have hfz44_6 := blk_frozen BK121.out 6
            have hfz44_7 := blk_frozen BK121.out 7
            have hfz44_8 := blk_frozen BK121.out 8
            have hfz44_9 := blk_frozen BK121.out 9
            have hfz44_10 := blk_frozen BK121.out 10
            have hcz45_0 : wc.cell? ⟨gb122, 0, none⟩ = some (.int .i64 a1_0) := (blk_cell BK122.out 0).trans rfl
            have hcz45_1 : wc.cell? ⟨gb122, 1, none⟩ = some (.string a1_1) := (blk_cell BK122.out 1).trans rfl
            have hcz45_2 : wc.cell? ⟨gb122, 2, none⟩ = some (.string a1_2) := (blk_cell BK122.out 2).trans rfl
            have hcz45_3 : wc.cell? ⟨gb122, 3, none⟩ = some (.string a1_3) := (blk_cell BK122.out 3).trans rfl
            have hcz45_4 : wc.cell? ⟨gb122, 4, none⟩ = some (.int .i64 a1_4) := (blk_cell BK122.out 4).trans rfl
            have hcz45_5 : wc.cell? ⟨gb122, 5, none⟩ = some (.slice A1_5 l1_5.length c1_5) := (blk_cell BK122.out 5).trans rfl
            have hcz45_6 : wc.cell? ⟨gb122, 6, none⟩ = some (.slice A1_6 l1_6.length c1_6) := (blk_cell BK122.out 6).trans rfl
            have hcz45_7 : wc.cell? ⟨gb122, 7, none⟩ = some (.int .i64 a1_7) := (blk_cell BK122.out 7).trans rfl
            have hcz45_8 : wc.cell? ⟨gb122, 8, none⟩ = some (.slice A1_8 l1_8.length c1_8) := (blk_cell BK122.out 8).trans rfl
            have hcz45_9 : wc.cell? ⟨gb122, 9, none⟩ = some (.bool a1_9) := (blk_cell BK122.out 9).trans rfl
            have hcz45_10 : wc.cell? ⟨gb122, 10, none⟩ = some (.bool a1_10) := (blk_cell BK122.out 10).trans rfl
            have hfz45_0 := blk_frozen BK122.out 0
            have hfz45_1 := blk_frozen BK122.out 1
            have hfz45_2 := blk_frozen BK122.out 2
            have hfz45_3 := blk_frozen BK122.out 3
            have hfz45_4 := blk_frozen BK122.out 4
            have hfz45_5 := blk_frozen BK122.out 5
            have hfz45_6 := blk_frozen BK122.out 6
            have hfz45_7 := blk_frozen BK122.out 7
            have hfz45_8 := blk_frozen BK122.out 8
            have hfz45_9 := blk_frozen BK122.out 9
            have hfz45_10 := blk_frozen BK122.out 10
            go_wp2_with (first | ((with_reducible refine gate_callee (f := 34) rfl ?_); refine goesL_ (some 63) rfl rfl Try.func34 (by kernel_rfl) rfl #[.slice A0_5 l0_5.length c0_5, .slice A1_5 l1_5.length c1_5] rfl (by (try simp only [List.map_toArray, List.map_cons, List.map_nil]); first | done | rfl | (simp only [List.length_drop, List.length_take]; rfl)) ?_; (with_reducible refine (spec_SameGiven.calls kj2 _ _ l0_5 _ _ l1_5 true _ ?side1 ?side2 ?side3 ?side4 A38.out).mono ?_); (case side1 => repeat (first | exact (Kd.C_below HR0_5.out HB.out) | (with_reducible refine Kd.C_alloc ?_ _) | (with_reducible refine Kd.C_drewN ?_ _) | (with_reducible refine Kd.C_drew ?_))); (case side2 => exact HC0_5.out); (case side3 => repeat (first | exact (Kd.C_below HR1_5.out HB.out) | (with_reducible refine Kd.C_alloc ?_ _) | (with_reducible refine Kd.C_drewN ?_ _) | (with_reducible refine Kd.C_drew ?_))); (case side4 => exact HC1_5.out); rintro e w' ⟨rfl, ⟨nd, rfl⟩⟩; refine ⟨_, rfl, ?_⟩) | (go_at_call 23; (with_reducible refine (spec_SameTexts.calls kj2 _ _ l0_6 _ _ l1_6 true _ ?side1 ?side2 ?side3 ?side4 A40.out).mono ?_); (case side1 => repeat (first | exact (Kd.C_below HR0_6.out (by repeat (first | (with_reducible first | exact HB.out | apply below_alloc | apply pw_below_drewN | apply below_drew1 | refine below_set ?_ GE121.out | refine below_set ?_ GE122.out) | exact HB.out))) | (with_reducible refine Kd.C_alloc ?_ _) | (with_reducible refine Kd.C_drewN ?_ _) | (with_reducible refine Kd.C_drew ?_))); (case side2 => exact HC0_6.out); (case side3 => repeat (first | exact (Kd.C_below HR1_6.out (by repeat (first | (with_reducible first | exact HB.out | apply below_alloc | apply pw_below_drewN | apply below_drew1 | refine below_set ?_ GE121.out | refine below_set ?_ GE122.out) | exact HB.out))) | (with_reducible refine Kd.C_alloc ?_ _) | (with_reducible refine Kd.C_drewN ?_ _) | (with_reducible refine Kd.C_drew ?_))); (case side4 => exact HC1_6.out); rintro e w' ⟨rfl, ⟨nd, rfl⟩⟩) | (go_at_call 56; (with_reducible refine (spec_SameInts.calls kj2 _ _ l0_8 _ _ l1_8 t125 _ ?side1 ?side2 ?side3 ?side4 A42.out).mono ?_); (case side1 => repeat (first | exact (Kd.C_below HR0_8.out (by repeat (first | (with_reducible first | exact HB.out | apply below_alloc | apply pw_below_drewN | apply below_drew1 | refine below_set ?_ GE121.out | refine below_set ?_ GE122.out) | exact HB.out))) | (with_reducible refine Kd.C_alloc ?_ _) | (with_reducible refine Kd.C_drewN ?_ _) | (with_reducible refine Kd.C_drew ?_))); (case side2 => exact HC0_8.out); (case side3 => repeat (first | exact (Kd.C_below HR1_8.out (by repeat (first | (with_reducible first | exact HB.out | apply below_alloc | apply pw_below_drewN | apply below_drew1 | refine below_set ?_ GE121.out | refine below_set ?_ GE122.out) | exact HB.out))) | (with_reducible refine Kd.C_alloc ?_ _) | (with_reducible refine Kd.C_drewN ?_ _) | (with_reducible refine Kd.C_drew ?_))); (case side4 => exact HC1_8.out); rintro e w' ⟨rfl, ⟨nd, rfl⟩⟩))
            go_ret
            exact ⟨by first | rfl | (simp [errW_none, errW_some] <;> rfl) | (simp [*, errW_none, errW_some] <;> rfl), by repeat (first | (with_reducible first | exact HB.out | apply below_alloc | apply pw_below_drewN | apply below_drew1 | refine below_set ?_ GE121.out | refine below_set ?_ GE122.out) | exact HB.out)⟩
          · replace c41 := Bool.eq_false_iff.mpr c41
            subst c41
            have H1 : (some false) = some r := by rw [if_neg (show ¬ (false = true) by decide)] at H; exact H
            clear H
            have H := H1
            clear H1
            obtain rfl := Option.some.inj H
            have hnb46 := NB121_122.out
            have hnc46 := NB122_121.out
            have hcz47_0 : wc.cell? ⟨gb121, 0, none⟩ = some (.int .i64 a0_0) := (blk_cell BK121.out 0).trans rfl
            have hcz47_1 : wc.cell? ⟨gb121, 1, none⟩ = some (.string a0_1) := (blk_cell BK121.out 1).trans rfl
            have hcz47_2 : wc.cell? ⟨gb121, 2, none⟩ = some (.string a0_2) := (blk_cell BK121.out 2).trans rfl
            have hcz47_3 : wc.cell? ⟨gb121, 3, none⟩ = some (.string a0_3) := (blk_cell BK121.out 3).trans rfl
            have hcz47_4 : wc.cell? ⟨gb121, 4, none⟩ = some (.int .i64 a0_4) := (blk_cell BK121.out 4).trans rfl
            have hcz47_5 : wc.cell? ⟨gb121, 5, none⟩ = some (.slice A0_5 l0_5.length c0_5) := (blk_cell BK121.out 5).trans rfl
            have hcz47_6 : wc.cell? ⟨gb121, 6, none⟩ = some (.slice A0_6 l0_6.length c0_6) := (blk_cell BK121.out 6).trans rfl
            have hcz47_7 : wc.cell? ⟨gb121, 7, none⟩ = some (.int .i64 a0_7) := (blk_cell BK121.out 7).trans rfl
            have hcz47_8 : wc.cell? ⟨gb121, 8, none⟩ = some (.slice A0_8 l0_8.length c0_8) := (blk_cell BK121.out 8).trans rfl
            have hcz47_9 : wc.cell? ⟨gb121, 9, none⟩ = some (.bool a0_9) := (blk_cell BK121.out 9).trans rfl
            have hcz47_10 : wc.cell? ⟨gb121, 10, none⟩ = some (.bool a0_10) := (blk_cell BK121.out 10).trans rfl
            have hfz47_0 := blk_frozen BK121.out 0
            have hfz47_1 := blk_frozen BK121.out 1
            have hfz47_2 := blk_frozen BK121.out 2
            have hfz47_3 := blk_frozen BK121.out 3
            have hfz47_4 := blk_frozen BK121.out 4
            have hfz47_5 := blk_frozen BK121.out 5
            have hfz47_6 := blk_frozen BK121.out 6
            have hfz47_7 := blk_frozen BK121.out 7
            have hfz47_8 := blk_frozen BK121.out 8
            have hfz47_9 := blk_frozen BK121.out 9
            have hfz47_10 := blk_frozen BK121.out 10
            have hcz48_0 : wc.cell? ⟨gb122, 0, none⟩ = some (.int .i64 a1_0) := (blk_cell BK122.out 0).trans rfl
            have hcz48_1 : wc.cell? ⟨gb122, 1, none⟩ = some (.string a1_1) := (blk_cell BK122.out 1).trans rfl
            have hcz48_2 : wc.cell? ⟨gb122, 2, none⟩ = some (.string a1_2) := (blk_cell BK122.out 2).trans rfl
            have hcz48_3 : wc.cell? ⟨gb122, 3, none⟩ = some (.string a1_3) := (blk_cell BK122.out 3).trans rfl
            have hcz48_4 : wc.cell? ⟨gb122, 4, none⟩ = some (.int .i64 a1_4) := (blk_cell BK122.out 4).trans rfl
            have hcz48_5 : wc.cell? ⟨gb122, 5, none⟩ = some (.slice A1_5 l1_5.length c1_5) := (blk_cell BK122.out 5).trans rfl
            have hcz48_6 : wc.cell? ⟨gb122, 6, none⟩ = some (.slice A1_6 l1_6.length c1_6) := (blk_cell BK122.out 6).trans rfl
            have hcz48_7 : wc.cell? ⟨gb122, 7, none⟩ = some (.int .i64 a1_7) := (blk_cell BK122.out 7).trans rfl
            have hcz48_8 : wc.cell? ⟨gb122, 8, none⟩ = some (.slice A1_8 l1_8.length c1_8) := (blk_cell BK122.out 8).trans rfl
            have hcz48_9 : wc.cell? ⟨gb122, 9, none⟩ = some (.bool a1_9) := (blk_cell BK122.out 9).trans rfl
            have hcz48_10 : wc.cell? ⟨gb122, 10, none⟩ = some (.bool a1_10) := (blk_cell BK122.out 10).trans rfl
            have hfz48_0 := blk_frozen BK122.out 0
            have hfz48_1 := blk_frozen BK122.out 1
            have hfz48_2 := blk_frozen BK122.out 2
            have hfz48_3 := blk_frozen BK122.out 3
            have hfz48_4 := blk_frozen BK122.out 4
            have hfz48_5 := blk_frozen BK122.out 5
            have hfz48_6 := blk_frozen BK122.out 6
            have hfz48_7 := blk_frozen BK122.out 7
            have hfz48_8 := blk_frozen BK122.out 8
            have hfz48_9 := blk_frozen BK122.out 9
            have hfz48_10 := blk_frozen BK122.out 10
            go_wp2_with (first | ((with_reducible refine gate_callee (f := 34) rfl ?_); refine goesL_ (some 63) rfl rfl Try.func34 (by kernel_rfl) rfl #[.slice A0_5 l0_5.length c0_5, .slice A1_5 l1_5.length c1_5] rfl (by (try simp only [List.map_toArray, List.map_cons, List.map_nil]); first | done | rfl | (simp only [List.length_drop, List.length_take]; rfl)) ?_; (with_reducible refine (spec_SameGiven.calls kj2 _ _ l0_5 _ _ l1_5 true _ ?side1 ?side2 ?side3 ?side4 A38.out).mono ?_); (case side1 => repeat (first | exact (Kd.C_below HR0_5.out HB.out) | (with_reducible refine Kd.C_alloc ?_ _) | (with_reducible refine Kd.C_drewN ?_ _) | (with_reducible refine Kd.C_drew ?_))); (case side2 => exact HC0_5.out); (case side3 => repeat (first | exact (Kd.C_below HR1_5.out HB.out) | (with_reducible refine Kd.C_alloc ?_ _) | (with_reducible refine Kd.C_drewN ?_ _) | (with_reducible refine Kd.C_drew ?_))); (case side4 => exact HC1_5.out); rintro e w' ⟨rfl, ⟨nd, rfl⟩⟩; refine ⟨_, rfl, ?_⟩) | (go_at_call 23; (with_reducible refine (spec_SameTexts.calls kj2 _ _ l0_6 _ _ l1_6 false _ ?side1 ?side2 ?side3 ?side4 A40.out).mono ?_); (case side1 => repeat (first | exact (Kd.C_below HR0_6.out (by repeat (first | (with_reducible first | exact HB.out | apply below_alloc | apply pw_below_drewN | apply below_drew1 | refine below_set ?_ GE121.out | refine below_set ?_ GE122.out) | exact HB.out))) | (with_reducible refine Kd.C_alloc ?_ _) | (with_reducible refine Kd.C_drewN ?_ _) | (with_reducible refine Kd.C_drew ?_))); (case side2 => exact HC0_6.out); (case side3 => repeat (first | exact (Kd.C_below HR1_6.out (by repeat (first | (with_reducible first | exact HB.out | apply below_alloc | apply pw_below_drewN | apply below_drew1 | refine below_set ?_ GE121.out | refine below_set ?_ GE122.out) | exact HB.out))) | (with_reducible refine Kd.C_alloc ?_ _) | (with_reducible refine Kd.C_drewN ?_ _) | (with_reducible refine Kd.C_drew ?_))); (case side4 => exact HC1_6.out); rintro e w' ⟨rfl, ⟨nd, rfl⟩⟩))
            go_ret
            exact ⟨by first | rfl | (simp [errW_none, errW_some] <;> rfl) | (simp [*, errW_none, errW_some] <;> rfl), by repeat (first | (with_reducible first | exact HB.out | apply below_alloc | apply pw_below_drewN | apply below_drew1 | refine below_set ?_ GE121.out | refine below_set ?_ GE122.out) | exact HB.out)⟩
        · replace c39 := Bool.eq_false_iff.mpr c39
          subst c39
          have H1 : (some false) = some r := by rw [if_neg (show ¬ (false = true) by decide)] at H; exact H
          clear H
          have H := H1
          clear H1
          obtain rfl := Option.some.inj H
          have hnb49 := NB121_122.out
          have hnc49 := NB122_121.out
          have hcz50_0 : wc.cell? ⟨gb121, 0, none⟩ = some (.int .i64 a0_0) := (blk_cell BK121.out 0).trans rfl
          have hcz50_1 : wc.cell? ⟨gb121, 1, none⟩ = some (.string a0_1) := (blk_cell BK121.out 1).trans rfl
          have hcz50_2 : wc.cell? ⟨gb121, 2, none⟩ = some (.string a0_2) := (blk_cell BK121.out 2).trans rfl
          have hcz50_3 : wc.cell? ⟨gb121, 3, none⟩ = some (.string a0_3) := (blk_cell BK121.out 3).trans rfl
          have hcz50_4 : wc.cell? ⟨gb121, 4, none⟩ = some (.int .i64 a0_4) := (blk_cell BK121.out 4).trans rfl
          have hcz50_5 : wc.cell? ⟨gb121, 5, none⟩ = some (.slice A0_5 l0_5.length c0_5) := (blk_cell BK121.out 5).trans rfl
          have hcz50_6 : wc.cell? ⟨gb121, 6, none⟩ = some (.slice A0_6 l0_6.length c0_6) := (blk_cell BK121.out 6).trans rfl
          have hcz50_7 : wc.cell? ⟨gb121, 7, none⟩ = some (.int .i64 a0_7) := (blk_cell BK121.out 7).trans rfl
          have hcz50_8 : wc.cell? ⟨gb121, 8, none⟩ = some (.slice A0_8 l0_8.length c0_8) := (blk_cell BK121.out 8).trans rfl
          have hcz50_9 : wc.cell? ⟨gb121, 9, none⟩ = some (.bool a0_9) := (blk_cell BK121.out 9).trans rfl
          have hcz50_10 : wc.cell? ⟨gb121, 10, none⟩ = some (.bool a0_10) := (blk_cell BK121.out 10).trans rfl
          have hfz50_0 := blk_frozen BK121.out 0
          have hfz50_1 := blk_frozen BK121.out 1
          have hfz50_2 := blk_frozen BK121.out 2
          have hfz50_3 := blk_frozen BK121.out 3
          have hfz50_4 := blk_frozen BK121.out 4
          have hfz50_5 := blk_frozen BK121.out 5
          have hfz50_6 := blk_frozen BK121.out 6
          have hfz50_7 := blk_frozen BK121.out 7
          have hfz50_8 := blk_frozen BK121.out 8
          have hfz50_9 := blk_frozen BK121.out 9
          have hfz50_10 := blk_frozen BK121.out 10
          have hcz51_0 : wc.cell? ⟨gb122, 0, none⟩ = some (.int .i64 a1_0) := (blk_cell BK122.out 0).trans rfl
          have hcz51_1 : wc.cell? ⟨gb122, 1, none⟩ = some (.string a1_1) := (blk_cell BK122.out 1).trans rfl
          have hcz51_2 : wc.cell? ⟨gb122, 2, none⟩ = some (.string a1_2) := (blk_cell BK122.out 2).trans rfl
          have hcz51_3 : wc.cell? ⟨gb122, 3, none⟩ = some (.string a1_3) := (blk_cell BK122.out 3).trans rfl
          have hcz51_4 : wc.cell? ⟨gb122, 4, none⟩ = some (.int .i64 a1_4) := (blk_cell BK122.out 4).trans rfl
          have hcz51_5 : wc.cell? ⟨gb122, 5, none⟩ = some (.slice A1_5 l1_5.length c1_5) := (blk_cell BK122.out 5).trans rfl
          have hcz51_6 : wc.cell? ⟨gb122, 6, none⟩ = some (.slice A1_6 l1_6.length c1_6) := (blk_cell BK122.out 6).trans rfl
          have hcz51_7 : wc.cell? ⟨gb122, 7, none⟩ = some (.int .i64 a1_7) := (blk_cell BK122.out 7).trans rfl
          have hcz51_8 : wc.cell? ⟨gb122, 8, none⟩ = some (.slice A1_8 l1_8.length c1_8) := (blk_cell BK122.out 8).trans rfl
          have hcz51_9 : wc.cell? ⟨gb122, 9, none⟩ = some (.bool a1_9) := (blk_cell BK122.out 9).trans rfl
          have hcz51_10 : wc.cell? ⟨gb122, 10, none⟩ = some (.bool a1_10) := (blk_cell BK122.out 10).trans rfl
          have hfz51_0 := blk_frozen BK122.out 0
          have hfz51_1 := blk_frozen BK122.out 1
          have hfz51_2 := blk_frozen BK122.out 2
          have hfz51_3 := blk_frozen BK122.out 3
          have hfz51_4 := blk_frozen BK122.out 4
          have hfz51_5 := blk_frozen BK122.out 5
          have hfz51_6 := blk_frozen BK122.out 6
          have hfz51_7 := blk_frozen BK122.out 7
          have hfz51_8 := blk_frozen BK122.out 8
          have hfz51_9 := blk_frozen BK122.out 9
          have hfz51_10 := blk_frozen BK122.out 10
          go_wp2_with (first | ((with_reducible refine gate_callee (f := 34) rfl ?_); refine goesL_ (some 63) rfl rfl Try.func34 (by kernel_rfl) rfl #[.slice A0_5 l0_5.length c0_5, .slice A1_5 l1_5.length c1_5] rfl (by (try simp only [List.map_toArray, List.map_cons, List.map_nil]); first | done | rfl | (simp only [List.length_drop, List.length_take]; rfl)) ?_; (with_reducible refine (spec_SameGiven.calls kj2 _ _ l0_5 _ _ l1_5 false _ ?side1 ?side2 ?side3 ?side4 A38.out).mono ?_); (case side1 => repeat (first | exact (Kd.C_below HR0_5.out HB.out) | (with_reducible refine Kd.C_alloc ?_ _) | (with_reducible refine Kd.C_drewN ?_ _) | (with_reducible refine Kd.C_drew ?_))); (case side2 => exact HC0_5.out); (case side3 => repeat (first | exact (Kd.C_below HR1_5.out HB.out) | (with_reducible refine Kd.C_alloc ?_ _) | (with_reducible refine Kd.C_drewN ?_ _) | (with_reducible refine Kd.C_drew ?_))); (case side4 => exact HC1_5.out); rintro e w' ⟨rfl, ⟨nd, rfl⟩⟩; refine ⟨_, rfl, ?_⟩))
          go_ret
          exact ⟨by first | rfl | (simp [errW_none, errW_some] <;> rfl) | (simp [*, errW_none, errW_some] <;> rfl), by repeat (first | (with_reducible first | exact HB.out | apply below_alloc | apply pw_below_drewN | apply below_drew1 | refine below_set ?_ GE121.out | refine below_set ?_ GE122.out) | exact HB.out)⟩

end Go.Proofs.Ytgmhhdpggnmipaa.PQ
