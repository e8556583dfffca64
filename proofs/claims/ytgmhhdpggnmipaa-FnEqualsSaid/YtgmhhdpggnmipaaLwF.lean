/- laws.FnEquals over this seat's program. Written by gen_lwf.py. -/
import Derived.Test.YtgmhhdpggnmipaaLwE
namespace Go.Proofs.Ytgmhhdpggnmipaa.E
open Go.RowKit Go.Proofs
set_option linter.unusedVariables false
set_option linter.unusedSimpArgs false
theorem fits20_bad {F : List FlagP} (h : fits20 (F.map ofFlag) = true) : ∀ f ∈ F, f.bad.length ≤ 2147483647 := by
  intro f hf
  unfold fits20 at h
  simp only [Bool.and_eq_true, decide_eq_true_eq, List.length_map, List.all_eq_true, List.mem_map] at h
  have h2 := h.2 (ofFlag f) ⟨f, hf, rfl⟩
  unfold fits21 at h2
  simp only [Bool.and_eq_true] at h2
  have h3 := (fits2_iff.1 h2.2.2.2).1
  have e : (ofFlag f).f3.length = f.bad.length := List.length_map _
  omega
theorem fit14_rv {w W : World} (hb : Below w.heap.size w W) {va0 : Option Addr} {van vac : Nat} {xs : List ByteArray} {z : ByteArray} (ha : TextIn w (.slice va0 van vac) xs) (hf : fits2 xs = true) (hz : z.size ≤ 2147483647) {b : Bool} (h : decide (wtBB [xs, [z]] ≤ 1048576) = b) :
    Calls Try.prog 17 #[.slice (some ⟨W.heap.size + 1, 0, none⟩) 2 2] ((W.alloc (.cells #[.string z] 9)).alloc (.cells #[.slice va0 van vac, .slice (some ⟨W.heap.size, 0, none⟩) 1 1] 25)) fun e w' => e = .returned (.bool b) ∧ Below W.heap.size W w' := by
  subst h
  have e : W.heap.size + 1 = (W.alloc (.cells #[.string z] 9)).heap.size := by simp
  rw [e]
  have hk : ∀ (V : World) (o : Obj), Below V.heap.size V (V.alloc o) := fun V o => (Below.refl _ _).alloc (Nat.le_refl _) _
  have h := fits14_c (w := (W.alloc (.cells #[.string z] 9)).alloc (.cells #[.slice va0 van vac, .slice (some ⟨W.heap.size, 0, none⟩) 1 1] 25)) (ls := [xs, [z]]) (rows2 (heap_alloc_new _ _) (((ha.below hb).below (hk _ _)).below (hk _ _)) ((one_text (heap_alloc_new W _)).below (hk _ _))) (by (show 2 ≤ 2147483647; decide)) (Nat.le_refl 2) (fun zs hzs => by
    simp only [List.mem_cons, List.not_mem_nil, or_false] at hzs
    rcases hzs with rfl | rfl
    · exact hf
    · exact fits2_iff.2 ⟨by simp, fun x hx => by rw [List.mem_singleton] at hx; rw [hx]; exact hz⟩)
  refine h.mono ?_
  rintro e w' ⟨he, hb2⟩
  have h2 := (hk W (.cells #[.string z] 9)).trans (((hk (W.alloc (.cells #[.string z] 9)) (.cells #[.slice va0 van vac, .slice (some ⟨W.heap.size, 0, none⟩) 1 1] 25))).mono (by simp))
  exact ⟨he, h2.trans (hb2.mono h2.size)⟩
/-- One that was given ahead of others. -/
theorem given_eq {W : World} {i : Nat} {vl : Txt} {ga2 : Option Addr} {gc2 : Nat} {G : List (Nat × Txt)} (h2 : RowAt W ga2 (gCells G)) (l2 : G.length ≤ gc2) (m2 : G.length ≤ 1099511627776) :
    Calls Try.prog 30 #[.slice (some ⟨W.heap.size + 1, 0, none⟩) 2 2] ((W.alloc (.cells #[.int .i64 (i : Int), .string (mkT vl)] 57)).alloc (.cells #[.slice (some ⟨W.heap.size, 0, none⟩) 1 1, .slice ga2 G.length gc2] 29)) fun e w' => ∃ v, e = .returned v ∧ OwnG w' v ((i, vl) :: G) ∧ Below W.heap.size W w' := by
  have e : W.heap.size + 1 = (W.alloc (.cells #[.int .i64 (i : Int), .string (mkT vl)] 57)).heap.size := by simp
  rw [e]
  have hk : ∀ (V : World) (o : Obj), Below V.heap.size V (V.alloc o) := fun V o => (Below.refl _ _).alloc (Nat.le_refl _) _
  have hr1 : RowAt (W.alloc (.cells #[.int .i64 (i : Int), .string (mkT vl)] 57)) (some ⟨W.heap.size, 0, none⟩) (gCells [(i, vl)]) := by
    intro j u hu
    refine ⟨W.heap.size, rfl, ?_⟩
    rw [cell_blk (heap_alloc_new W _) j]
    simpa [gCells] using hu
  have hk2 := (hk W (.cells #[.int .i64 (i : Int), .string (mkT vl)] 57)).trans (((hk (W.alloc (.cells #[.int .i64 (i : Int), .string (mkT vl)] 57)) (.cells #[.slice (some ⟨W.heap.size, 0, none⟩) 1 1, .slice ga2 G.length gc2] 29))).mono (by simp))
  have h := given_c (G := [(i, vl)]) (H := G) (heap_alloc_new (W.alloc (.cells #[.int .i64 (i : Int), .string (mkT vl)] 57)) (.cells #[.slice (some ⟨W.heap.size, 0, none⟩) 1 1, .slice ga2 G.length gc2] 29)) (rowAt_below hr1 (hk _ _)) (Nat.le_refl 1) (by (show 1 ≤ 1099511627776; decide)) (rowAt_below h2 hk2) l2 m2 (Nat.le_refl 2)
  refine h.mono ?_
  rintro e w' ⟨v, he, ho, hb2⟩
  exact ⟨v, he, ho, hk2.trans (hb2.mono hk2.size)⟩

set_option maxRecDepth 100000 in
set_option maxHeartbeats 6400000 in
theorem eq_1 {w : World} {A : Option Addr} {F : List FlagP} (hA : FlagsAt w A F) {cap : Nat} (hc : F.length ≤ cap) (hm : cap ≤ 9223372036854775807) (pl un : Bool) (k j : Int) (vl : Txt) {vb : Value} {M : List Txt} (hvb : TextIn w vb (M.map mkT)) (h1 : fits20 (F.map ofFlag) = false)  :
    Calls Try.prog 6 #[.agg #[.slice A F.length cap, .bool pl, .bool un, .int .i64 k], .int .i64 j, .string (mkT vl), vb] w (YesEnd w) := by
  have H19 := Lib.hid (says19 hA hc hm pl un k h1)
  have HVB := Lib.hid hvb
  obtain ⟨vb0, vbn, vbc, hvbe⟩ := hvb.slice
  clear hvb
  subst hvbe
  go_enter Try.func6, Try.ntmps6
  go_upto_region 1 with fail
  generalize hWX : w.alloc _ = WX
  have HB : Hid (Below w.heap.size w WX) := Lib.hid (by rw [← hWX]; exact (Below.refl _ _).alloc (Nat.le_refl _) _)
  have q3 : WX.heap[w.heap.size]? = some (.cells #[.slice A F.length cap, .bool pl, .bool un, .int .i64 k] 24 (0, 0)) := by rw [← hWX]; exact heap_alloc_new w _
  clear hWX
  have c0 : WX.cell? ⟨w.heap.size, 0, none⟩ = some (.slice A F.length cap) := (cell_blk q3 0).trans rfl
  have c1 : WX.cell? ⟨w.heap.size, 1, none⟩ = some (.bool pl) := (cell_blk q3 1).trans rfl
  have c2 : WX.cell? ⟨w.heap.size, 2, none⟩ = some (.bool un) := (cell_blk q3 2).trans rfl
  have c3 : WX.cell? ⟨w.heap.size, 3, none⟩ = some (.int .i64 k) := (cell_blk q3 3).trans rfl
  go_wp2_with (first | ((with_reducible go_at_call 14); (with_reducible refine Calls.mono (H19.out _ HB.out) ?_); rintro e w3 ⟨rfl, hb3⟩; have q3 := block_kept q3 hb3; have c0 := cell_kept hb3 c0; have c1 := cell_kept hb3 c1; have c2 := cell_kept hb3 c2; have c3 := cell_kept hb3 c3; have HB := Lib.hid (HB.out.trans (hb3.mono HB.out.size)); clear hb3) | ((with_reducible go_at_call 15); (with_reducible refine Calls.mono (H2.out _ HB.out) ?_); rintro e w3 ⟨rfl, hb3⟩; have q3 := block_kept q3 hb3; have c0 := cell_kept hb3 c0; have c1 := cell_kept hb3 c1; have c2 := cell_kept hb3 c2; have c3 := cell_kept hb3 c3; have HB := Lib.hid (HB.out.trans (hb3.mono HB.out.size)); clear hb3) | ((with_reducible go_at_call 16); (with_reducible refine Calls.mono (HRT.out _ HB.out) ?_); rintro e w3 ⟨rfl, hb3⟩; have q3 := block_kept q3 hb3; have c0 := cell_kept hb3 c0; have c1 := cell_kept hb3 c1; have c2 := cell_kept hb3 c2; have c3 := cell_kept hb3 c3; have HB := Lib.hid (HB.out.trans (hb3.mono HB.out.size)); clear hb3) | ((with_reducible go_at_call 24); (with_reducible refine Calls.mono (HFG.out _ HB.out) ?_); rintro e w3 ⟨rfl, hb3⟩; have q3 := block_kept q3 hb3; have c0 := cell_kept hb3 c0; have c1 := cell_kept hb3 c1; have c2 := cell_kept hb3 c2; have c3 := cell_kept hb3 c3; have HB := Lib.hid (HB.out.trans (hb3.mono HB.out.size)); clear hb3) | ((with_reducible go_at_call 17); (with_reducible refine Calls.mono (HF14.out _ HB.out) ?_); rintro e w3 ⟨rfl, hb3⟩; have q3 := block_kept q3 hb3; have c0 := cell_kept hb3 c0; have c1 := cell_kept hb3 c1; have c2 := cell_kept hb3 c2; have c3 := cell_kept hb3 c3; have HB := Lib.hid (HB.out.trans (hb3.mono HB.out.size)); clear hb3))
  go_ret
  exact yesEnd rfl HB.out

set_option maxRecDepth 100000 in
set_option maxHeartbeats 6400000 in
theorem eq_2 {w : World} {A : Option Addr} {F : List FlagP} (hA : FlagsAt w A F) {cap : Nat} (hc : F.length ≤ cap) (hm : cap ≤ 9223372036854775807) (pl un : Bool) (k j : Int) (vl : Txt) {vb : Value} {M : List Txt} (hvb : TextIn w vb (M.map mkT)) (h1 : fits20 (F.map ofFlag) = true) (hzv : ¬ (mkT vl).size ≤ 2147483647) :
    Calls Try.prog 6 #[.agg #[.slice A F.length cap, .bool pl, .bool un, .int .i64 k], .int .i64 j, .string (mkT vl), vb] w (YesEnd w) := by
  have H19 := Lib.hid (says19 hA hc hm pl un k h1)
  have hzv2 : (2147483647 : Int) < ((mkT vl).size : Int) := by omega
  have HVB := Lib.hid hvb
  obtain ⟨vb0, vbn, vbc, hvbe⟩ := hvb.slice
  clear hvb
  subst hvbe
  go_enter Try.func6, Try.ntmps6
  go_upto_region 1 with fail
  generalize hWX : w.alloc _ = WX
  have HB : Hid (Below w.heap.size w WX) := Lib.hid (by rw [← hWX]; exact (Below.refl _ _).alloc (Nat.le_refl _) _)
  have q3 : WX.heap[w.heap.size]? = some (.cells #[.slice A F.length cap, .bool pl, .bool un, .int .i64 k] 24 (0, 0)) := by rw [← hWX]; exact heap_alloc_new w _
  clear hWX
  have c0 : WX.cell? ⟨w.heap.size, 0, none⟩ = some (.slice A F.length cap) := (cell_blk q3 0).trans rfl
  have c1 : WX.cell? ⟨w.heap.size, 1, none⟩ = some (.bool pl) := (cell_blk q3 1).trans rfl
  have c2 : WX.cell? ⟨w.heap.size, 2, none⟩ = some (.bool un) := (cell_blk q3 2).trans rfl
  have c3 : WX.cell? ⟨w.heap.size, 3, none⟩ = some (.int .i64 k) := (cell_blk q3 3).trans rfl
  go_wp2_with (first | ((with_reducible go_at_call 14); (with_reducible refine Calls.mono (H19.out _ HB.out) ?_); rintro e w3 ⟨rfl, hb3⟩; have q3 := block_kept q3 hb3; have c0 := cell_kept hb3 c0; have c1 := cell_kept hb3 c1; have c2 := cell_kept hb3 c2; have c3 := cell_kept hb3 c3; have HB := Lib.hid (HB.out.trans (hb3.mono HB.out.size)); clear hb3) | ((with_reducible go_at_call 15); (with_reducible refine Calls.mono (H2.out _ HB.out) ?_); rintro e w3 ⟨rfl, hb3⟩; have q3 := block_kept q3 hb3; have c0 := cell_kept hb3 c0; have c1 := cell_kept hb3 c1; have c2 := cell_kept hb3 c2; have c3 := cell_kept hb3 c3; have HB := Lib.hid (HB.out.trans (hb3.mono HB.out.size)); clear hb3) | ((with_reducible go_at_call 16); (with_reducible refine Calls.mono (HRT.out _ HB.out) ?_); rintro e w3 ⟨rfl, hb3⟩; have q3 := block_kept q3 hb3; have c0 := cell_kept hb3 c0; have c1 := cell_kept hb3 c1; have c2 := cell_kept hb3 c2; have c3 := cell_kept hb3 c3; have HB := Lib.hid (HB.out.trans (hb3.mono HB.out.size)); clear hb3) | ((with_reducible go_at_call 24); (with_reducible refine Calls.mono (HFG.out _ HB.out) ?_); rintro e w3 ⟨rfl, hb3⟩; have q3 := block_kept q3 hb3; have c0 := cell_kept hb3 c0; have c1 := cell_kept hb3 c1; have c2 := cell_kept hb3 c2; have c3 := cell_kept hb3 c3; have HB := Lib.hid (HB.out.trans (hb3.mono HB.out.size)); clear hb3) | ((with_reducible go_at_call 17); (with_reducible refine Calls.mono (HF14.out _ HB.out) ?_); rintro e w3 ⟨rfl, hb3⟩; have q3 := block_kept q3 hb3; have c0 := cell_kept hb3 c0; have c1 := cell_kept hb3 c1; have c2 := cell_kept hb3 c2; have c3 := cell_kept hb3 c3; have HB := Lib.hid (HB.out.trans (hb3.mono HB.out.size)); clear hb3))
  go_ret
  exact yesEnd rfl HB.out

set_option maxRecDepth 100000 in
set_option maxHeartbeats 6400000 in
theorem eq_3 {w : World} {A : Option Addr} {F : List FlagP} (hA : FlagsAt w A F) {cap : Nat} (hc : F.length ≤ cap) (hm : cap ≤ 9223372036854775807) (pl un : Bool) (k j : Int) (vl : Txt) {vb : Value} {M : List Txt} (hvb : TextIn w vb (M.map mkT)) (h1 : fits20 (F.map ofFlag) = true) (hzv : (mkT vl).size ≤ 2147483647) (h2 : fits2 (M.map mkT) = false)  :
    Calls Try.prog 6 #[.agg #[.slice A F.length cap, .bool pl, .bool un, .int .i64 k], .int .i64 j, .string (mkT vl), vb] w (YesEnd w) := by
  have H19 := Lib.hid (says19 hA hc hm pl un k h1)
  have hzv2 : ¬ (2147483647 : Int) < ((mkT vl).size : Int) := by omega
  have H2 := Lib.hid (says2 hvb h2)
  have HVB := Lib.hid hvb
  obtain ⟨vb0, vbn, vbc, hvbe⟩ := hvb.slice
  clear hvb
  subst hvbe
  go_enter Try.func6, Try.ntmps6
  go_upto_region 1 with fail
  generalize hWX : w.alloc _ = WX
  have HB : Hid (Below w.heap.size w WX) := Lib.hid (by rw [← hWX]; exact (Below.refl _ _).alloc (Nat.le_refl _) _)
  have q3 : WX.heap[w.heap.size]? = some (.cells #[.slice A F.length cap, .bool pl, .bool un, .int .i64 k] 24 (0, 0)) := by rw [← hWX]; exact heap_alloc_new w _
  clear hWX
  have c0 : WX.cell? ⟨w.heap.size, 0, none⟩ = some (.slice A F.length cap) := (cell_blk q3 0).trans rfl
  have c1 : WX.cell? ⟨w.heap.size, 1, none⟩ = some (.bool pl) := (cell_blk q3 1).trans rfl
  have c2 : WX.cell? ⟨w.heap.size, 2, none⟩ = some (.bool un) := (cell_blk q3 2).trans rfl
  have c3 : WX.cell? ⟨w.heap.size, 3, none⟩ = some (.int .i64 k) := (cell_blk q3 3).trans rfl
  go_wp2_with (first | ((with_reducible go_at_call 14); (with_reducible refine Calls.mono (H19.out _ HB.out) ?_); rintro e w3 ⟨rfl, hb3⟩; have q3 := block_kept q3 hb3; have c0 := cell_kept hb3 c0; have c1 := cell_kept hb3 c1; have c2 := cell_kept hb3 c2; have c3 := cell_kept hb3 c3; have HB := Lib.hid (HB.out.trans (hb3.mono HB.out.size)); clear hb3) | ((with_reducible go_at_call 15); (with_reducible refine Calls.mono (H2.out _ HB.out) ?_); rintro e w3 ⟨rfl, hb3⟩; have q3 := block_kept q3 hb3; have c0 := cell_kept hb3 c0; have c1 := cell_kept hb3 c1; have c2 := cell_kept hb3 c2; have c3 := cell_kept hb3 c3; have HB := Lib.hid (HB.out.trans (hb3.mono HB.out.size)); clear hb3) | ((with_reducible go_at_call 16); (with_reducible refine Calls.mono (HRT.out _ HB.out) ?_); rintro e w3 ⟨rfl, hb3⟩; have q3 := block_kept q3 hb3; have c0 := cell_kept hb3 c0; have c1 := cell_kept hb3 c1; have c2 := cell_kept hb3 c2; have c3 := cell_kept hb3 c3; have HB := Lib.hid (HB.out.trans (hb3.mono HB.out.size)); clear hb3) | ((with_reducible go_at_call 24); (with_reducible refine Calls.mono (HFG.out _ HB.out) ?_); rintro e w3 ⟨rfl, hb3⟩; have q3 := block_kept q3 hb3; have c0 := cell_kept hb3 c0; have c1 := cell_kept hb3 c1; have c2 := cell_kept hb3 c2; have c3 := cell_kept hb3 c3; have HB := Lib.hid (HB.out.trans (hb3.mono HB.out.size)); clear hb3) | ((with_reducible go_at_call 17); (with_reducible refine Calls.mono (HF14.out _ HB.out) ?_); rintro e w3 ⟨rfl, hb3⟩; have q3 := block_kept q3 hb3; have c0 := cell_kept hb3 c0; have c1 := cell_kept hb3 c1; have c2 := cell_kept hb3 c2; have c3 := cell_kept hb3 c3; have HB := Lib.hid (HB.out.trans (hb3.mono HB.out.size)); clear hb3))
  go_ret
  exact yesEnd rfl HB.out

set_option maxRecDepth 100000 in
set_option maxHeartbeats 6400000 in
theorem eq_4 {w : World} {A : Option Addr} {F : List FlagP} (hA : FlagsAt w A F) {cap : Nat} (hc : F.length ≤ cap) (hm : cap ≤ 9223372036854775807) (pl un : Bool) (k j : Int) (vl : Txt) {vb : Value} {M : List Txt} (hvb : TextIn w vb (M.map mkT)) (h1 : fits20 (F.map ofFlag) = true) (hzv : (mkT vl).size ≤ 2147483647) (h2 : fits2 (M.map mkT) = true) (h3 : RightK F k = false)  :
    Calls Try.prog 6 #[.agg #[.slice A F.length cap, .bool pl, .bool un, .int .i64 k], .int .i64 j, .string (mkT vl), vb] w (YesEnd w) := by
  have H19 := Lib.hid (says19 hA hc hm pl un k h1)
  have hzv2 : ¬ (2147483647 : Int) < ((mkT vl).size : Int) := by omega
  have H2 := Lib.hid (says2 hvb h2)
  have HRT := Lib.hid (saysR hA cap pl un k h1 h3)
  have HVB := Lib.hid hvb
  obtain ⟨vb0, vbn, vbc, hvbe⟩ := hvb.slice
  clear hvb
  subst hvbe
  go_enter Try.func6, Try.ntmps6
  go_upto_region 1 with fail
  generalize hWX : w.alloc _ = WX
  have HB : Hid (Below w.heap.size w WX) := Lib.hid (by rw [← hWX]; exact (Below.refl _ _).alloc (Nat.le_refl _) _)
  have q3 : WX.heap[w.heap.size]? = some (.cells #[.slice A F.length cap, .bool pl, .bool un, .int .i64 k] 24 (0, 0)) := by rw [← hWX]; exact heap_alloc_new w _
  clear hWX
  have c0 : WX.cell? ⟨w.heap.size, 0, none⟩ = some (.slice A F.length cap) := (cell_blk q3 0).trans rfl
  have c1 : WX.cell? ⟨w.heap.size, 1, none⟩ = some (.bool pl) := (cell_blk q3 1).trans rfl
  have c2 : WX.cell? ⟨w.heap.size, 2, none⟩ = some (.bool un) := (cell_blk q3 2).trans rfl
  have c3 : WX.cell? ⟨w.heap.size, 3, none⟩ = some (.int .i64 k) := (cell_blk q3 3).trans rfl
  go_wp2_with (first | ((with_reducible go_at_call 14); (with_reducible refine Calls.mono (H19.out _ HB.out) ?_); rintro e w3 ⟨rfl, hb3⟩; have q3 := block_kept q3 hb3; have c0 := cell_kept hb3 c0; have c1 := cell_kept hb3 c1; have c2 := cell_kept hb3 c2; have c3 := cell_kept hb3 c3; have HB := Lib.hid (HB.out.trans (hb3.mono HB.out.size)); clear hb3) | ((with_reducible go_at_call 15); (with_reducible refine Calls.mono (H2.out _ HB.out) ?_); rintro e w3 ⟨rfl, hb3⟩; have q3 := block_kept q3 hb3; have c0 := cell_kept hb3 c0; have c1 := cell_kept hb3 c1; have c2 := cell_kept hb3 c2; have c3 := cell_kept hb3 c3; have HB := Lib.hid (HB.out.trans (hb3.mono HB.out.size)); clear hb3) | ((with_reducible go_at_call 16); (with_reducible refine Calls.mono (HRT.out _ HB.out) ?_); rintro e w3 ⟨rfl, hb3⟩; have q3 := block_kept q3 hb3; have c0 := cell_kept hb3 c0; have c1 := cell_kept hb3 c1; have c2 := cell_kept hb3 c2; have c3 := cell_kept hb3 c3; have HB := Lib.hid (HB.out.trans (hb3.mono HB.out.size)); clear hb3) | ((with_reducible go_at_call 24); (with_reducible refine Calls.mono (HFG.out _ HB.out) ?_); rintro e w3 ⟨rfl, hb3⟩; have q3 := block_kept q3 hb3; have c0 := cell_kept hb3 c0; have c1 := cell_kept hb3 c1; have c2 := cell_kept hb3 c2; have c3 := cell_kept hb3 c3; have HB := Lib.hid (HB.out.trans (hb3.mono HB.out.size)); clear hb3) | ((with_reducible go_at_call 17); (with_reducible refine Calls.mono (HF14.out _ HB.out) ?_); rintro e w3 ⟨rfl, hb3⟩; have q3 := block_kept q3 hb3; have c0 := cell_kept hb3 c0; have c1 := cell_kept hb3 c1; have c2 := cell_kept hb3 c2; have c3 := cell_kept hb3 c3; have HB := Lib.hid (HB.out.trans (hb3.mono HB.out.size)); clear hb3))
  go_ret
  exact yesEnd rfl HB.out

set_option maxRecDepth 100000 in
set_option maxHeartbeats 6400000 in
theorem eq_5 {w : World} {A : Option Addr} {F : List FlagP} (hA : FlagsAt w A F) {cap : Nat} (hc : F.length ≤ cap) (hm : cap ≤ 9223372036854775807) (pl un : Bool) (k j : Int) (vl : Txt) {vb : Value} {M : List Txt} (hvb : TextIn w vb (M.map mkT)) (h1 : fits20 (F.map ofFlag) = true) (hzv : (mkT vl).size ≤ 2147483647) (h2 : fits2 (M.map mkT) = true) (h3 : RightK F k = true) (h4 : decide (0 ≤ j ∧ j < (F.length : Int)) = false)  :
    Calls Try.prog 6 #[.agg #[.slice A F.length cap, .bool pl, .bool un, .int .i64 k], .int .i64 j, .string (mkT vl), vb] w (YesEnd w) := by
  have H19 := Lib.hid (says19 hA hc hm pl un k h1)
  have hzv2 : ¬ (2147483647 : Int) < ((mkT vl).size : Int) := by omega
  have H2 := Lib.hid (says2 hvb h2)
  have HRT := Lib.hid (saysR hA cap pl un k h1 h3)
  have HFG := Lib.hid (saysF (w := w) A F.length cap pl un k h4)
  have HVB := Lib.hid hvb
  obtain ⟨vb0, vbn, vbc, hvbe⟩ := hvb.slice
  clear hvb
  subst hvbe
  go_enter Try.func6, Try.ntmps6
  go_upto_region 1 with fail
  generalize hWX : w.alloc _ = WX
  have HB : Hid (Below w.heap.size w WX) := Lib.hid (by rw [← hWX]; exact (Below.refl _ _).alloc (Nat.le_refl _) _)
  have q3 : WX.heap[w.heap.size]? = some (.cells #[.slice A F.length cap, .bool pl, .bool un, .int .i64 k] 24 (0, 0)) := by rw [← hWX]; exact heap_alloc_new w _
  clear hWX
  have c0 : WX.cell? ⟨w.heap.size, 0, none⟩ = some (.slice A F.length cap) := (cell_blk q3 0).trans rfl
  have c1 : WX.cell? ⟨w.heap.size, 1, none⟩ = some (.bool pl) := (cell_blk q3 1).trans rfl
  have c2 : WX.cell? ⟨w.heap.size, 2, none⟩ = some (.bool un) := (cell_blk q3 2).trans rfl
  have c3 : WX.cell? ⟨w.heap.size, 3, none⟩ = some (.int .i64 k) := (cell_blk q3 3).trans rfl
  go_wp2_with (first | ((with_reducible go_at_call 14); (with_reducible refine Calls.mono (H19.out _ HB.out) ?_); rintro e w3 ⟨rfl, hb3⟩; have q3 := block_kept q3 hb3; have c0 := cell_kept hb3 c0; have c1 := cell_kept hb3 c1; have c2 := cell_kept hb3 c2; have c3 := cell_kept hb3 c3; have HB := Lib.hid (HB.out.trans (hb3.mono HB.out.size)); clear hb3) | ((with_reducible go_at_call 15); (with_reducible refine Calls.mono (H2.out _ HB.out) ?_); rintro e w3 ⟨rfl, hb3⟩; have q3 := block_kept q3 hb3; have c0 := cell_kept hb3 c0; have c1 := cell_kept hb3 c1; have c2 := cell_kept hb3 c2; have c3 := cell_kept hb3 c3; have HB := Lib.hid (HB.out.trans (hb3.mono HB.out.size)); clear hb3) | ((with_reducible go_at_call 16); (with_reducible refine Calls.mono (HRT.out _ HB.out) ?_); rintro e w3 ⟨rfl, hb3⟩; have q3 := block_kept q3 hb3; have c0 := cell_kept hb3 c0; have c1 := cell_kept hb3 c1; have c2 := cell_kept hb3 c2; have c3 := cell_kept hb3 c3; have HB := Lib.hid (HB.out.trans (hb3.mono HB.out.size)); clear hb3) | ((with_reducible go_at_call 24); (with_reducible refine Calls.mono (HFG.out _ HB.out) ?_); rintro e w3 ⟨rfl, hb3⟩; have q3 := block_kept q3 hb3; have c0 := cell_kept hb3 c0; have c1 := cell_kept hb3 c1; have c2 := cell_kept hb3 c2; have c3 := cell_kept hb3 c3; have HB := Lib.hid (HB.out.trans (hb3.mono HB.out.size)); clear hb3) | ((with_reducible go_at_call 17); (with_reducible refine Calls.mono (HF14.out _ HB.out) ?_); rintro e w3 ⟨rfl, hb3⟩; have q3 := block_kept q3 hb3; have c0 := cell_kept hb3 c0; have c1 := cell_kept hb3 c1; have c2 := cell_kept hb3 c2; have c3 := cell_kept hb3 c3; have HB := Lib.hid (HB.out.trans (hb3.mono HB.out.size)); clear hb3))
  go_ret
  exact yesEnd rfl HB.out

set_option maxRecDepth 100000 in
set_option maxHeartbeats 6400000 in
theorem eq_6 {w : World} {A : Option Addr} {F : List FlagP} (hA : FlagsAt w A F) {cap : Nat} (hc : F.length ≤ cap) (hm : cap ≤ 9223372036854775807) (pl un : Bool) (k j : Int) (vl : Txt) {vb : Value} {M : List Txt} (hvb : TextIn w vb (M.map mkT)) (h1 : fits20 (F.map ofFlag) = true) (hzv : (mkT vl).size ≤ 2147483647) (h2 : fits2 (M.map mkT) = true) (h3 : RightK F k = true) (h4 : decide (0 ≤ j ∧ j < (F.length : Int)) = true) (h5 : decide (wtBB [M.map mkT, [mkT vl]] ≤ 1048576) = false) :
    Calls Try.prog 6 #[.agg #[.slice A F.length cap, .bool pl, .bool un, .int .i64 k], .int .i64 j, .string (mkT vl), vb] w (YesEnd w) := by
  have H19 := Lib.hid (says19 hA hc hm pl un k h1)
  have hzv2 : ¬ (2147483647 : Int) < ((mkT vl).size : Int) := by omega
  have H2 := Lib.hid (says2 hvb h2)
  have HRT := Lib.hid (saysR hA cap pl un k h1 h3)
  have HFG := Lib.hid (saysF (w := w) A F.length cap pl un k h4)
  have HVB := Lib.hid hvb
  obtain ⟨vb0, vbn, vbc, hvbe⟩ := hvb.slice
  clear hvb
  subst hvbe
  have HF14 := Lib.hid (fun (W : World) (hb : Below w.heap.size w W) => fit14_rv hb HVB.out h2 hzv h5)
  go_enter Try.func6, Try.ntmps6
  go_upto_region 1 with fail
  generalize hWX : w.alloc _ = WX
  have HB : Hid (Below w.heap.size w WX) := Lib.hid (by rw [← hWX]; exact (Below.refl _ _).alloc (Nat.le_refl _) _)
  have q3 : WX.heap[w.heap.size]? = some (.cells #[.slice A F.length cap, .bool pl, .bool un, .int .i64 k] 24 (0, 0)) := by rw [← hWX]; exact heap_alloc_new w _
  clear hWX
  have c0 : WX.cell? ⟨w.heap.size, 0, none⟩ = some (.slice A F.length cap) := (cell_blk q3 0).trans rfl
  have c1 : WX.cell? ⟨w.heap.size, 1, none⟩ = some (.bool pl) := (cell_blk q3 1).trans rfl
  have c2 : WX.cell? ⟨w.heap.size, 2, none⟩ = some (.bool un) := (cell_blk q3 2).trans rfl
  have c3 : WX.cell? ⟨w.heap.size, 3, none⟩ = some (.int .i64 k) := (cell_blk q3 3).trans rfl
  go_wp2_with (first | ((with_reducible go_at_call 14); (with_reducible refine Calls.mono (H19.out _ HB.out) ?_); rintro e w3 ⟨rfl, hb3⟩; have q3 := block_kept q3 hb3; have c0 := cell_kept hb3 c0; have c1 := cell_kept hb3 c1; have c2 := cell_kept hb3 c2; have c3 := cell_kept hb3 c3; have HB := Lib.hid (HB.out.trans (hb3.mono HB.out.size)); clear hb3) | ((with_reducible go_at_call 15); (with_reducible refine Calls.mono (H2.out _ HB.out) ?_); rintro e w3 ⟨rfl, hb3⟩; have q3 := block_kept q3 hb3; have c0 := cell_kept hb3 c0; have c1 := cell_kept hb3 c1; have c2 := cell_kept hb3 c2; have c3 := cell_kept hb3 c3; have HB := Lib.hid (HB.out.trans (hb3.mono HB.out.size)); clear hb3) | ((with_reducible go_at_call 16); (with_reducible refine Calls.mono (HRT.out _ HB.out) ?_); rintro e w3 ⟨rfl, hb3⟩; have q3 := block_kept q3 hb3; have c0 := cell_kept hb3 c0; have c1 := cell_kept hb3 c1; have c2 := cell_kept hb3 c2; have c3 := cell_kept hb3 c3; have HB := Lib.hid (HB.out.trans (hb3.mono HB.out.size)); clear hb3) | ((with_reducible go_at_call 24); (with_reducible refine Calls.mono (HFG.out _ HB.out) ?_); rintro e w3 ⟨rfl, hb3⟩; have q3 := block_kept q3 hb3; have c0 := cell_kept hb3 c0; have c1 := cell_kept hb3 c1; have c2 := cell_kept hb3 c2; have c3 := cell_kept hb3 c3; have HB := Lib.hid (HB.out.trans (hb3.mono HB.out.size)); clear hb3) | ((with_reducible go_at_call 17); (with_reducible refine Calls.mono (HF14.out _ HB.out) ?_); rintro e w3 ⟨rfl, hb3⟩; have q3 := block_kept q3 hb3; have c0 := cell_kept hb3 c0; have c1 := cell_kept hb3 c1; have c2 := cell_kept hb3 c2; have c3 := cell_kept hb3 c3; have HB := Lib.hid (HB.out.trans (hb3.mono HB.out.size)); clear hb3))
  go_ret
  exact yesEnd rfl HB.out
def E5 (sv : Value) (S : SetP) (B : Nat) (i : Nat) (nm : Txt) (vl : Txt) (vb : Value) (M : List Txt) : Nat → Value → World → Prop
  | 0, v, _ => v = sv
  | 1, v, _ => v = sv
  | 2, v, _ => v = .int .i64 (i : Int)
  | 3, v, _ => v = .string (mkT (vl))
  | 4, v, _ => v = .string (mkT (longT nm vl))
  | 5, v, w => ∃ g, v = .slice (some ⟨g, 0, none⟩) 1 1 ∧ w.heap[g]? = some (.cells #[.string (mkT (longT nm vl))] 9 (0, 0))
  | 6, v, _ => v = vb
  | 7, v, w => ∃ g vs, v = .slice (some ⟨g, 0, none⟩) 2 2 ∧ RowsIn w g vs [[mkT (longT nm vl)], M.map mkT]
  | 8, v, w => TextIn w v (((longT nm vl :: M)).map mkT)
  | 9, v, w => HeardOwn w (psOf none true (goes S none st0 ((longT nm vl :: M)))) (goes S none st0 ((longT nm vl :: M))).err S.flags.length v
  | 10, v, _ => v = sv
  | 11, v, _ => v = vb
  | 12, v, w => HeardOwn w (psOf none true (goes S none st0 (M))) (goes S none st0 (M)).err S.flags.length v
  | 13, v, w => ∃ g, v = .pointer (some ⟨g, 0, none⟩) ∧ B ≤ g ∧ w.heap[g]? = some (.cells hdZero 32 (0, 0))
  | 14, v, w => ∃ g, v = .pointer (some ⟨g, 0, none⟩) ∧ B ≤ g ∧ w.heap[g]? = some (.cells hdZero 32 (0, 0))
  | _, _, _ => True
theorem E5.below {sv : Value} {S : SetP} {B : Nat} {i : Nat} {nm : Txt} {vl : Txt} {vb : Value} {M : List Txt} {ix : Nat} (hix : ix < 15) {v : Value} {w w' : World} (h : E5 sv S B i nm vl vb M ix v w) (hb : Below w.heap.size w w') : E5 sv S B i nm vl vb M ix v w' := by
  match ix, hix, h with
  | 0, _, h => exact h
  | 1, _, h => exact h
  | 2, _, h => exact h
  | 3, _, h => exact h
  | 4, _, h => exact h
  | 5, _, h => obtain ⟨g, e, h⟩ := h; exact ⟨g, e, block_kept h hb⟩
  | 6, _, h => exact h
  | 7, _, h => obtain ⟨g, vs, e, h⟩ := h; exact ⟨g, vs, e, h.below hb⟩
  | 8, _, h => exact TextIn.below h hb
  | 9, _, h => exact HeardOwn.below h hb
  | 10, _, h => exact h
  | 11, _, h => exact h
  | 12, _, h => exact HeardOwn.below h hb
  | 13, _, h => obtain ⟨g, e, hB, h⟩ := h; exact ⟨g, e, hB, block_kept h hb⟩
  | 14, _, h => obtain ⟨g, e, hB, h⟩ := h; exact ⟨g, e, hB, block_kept h hb⟩
  | k + 15, hi, _ => exact absurd hi (by omega)

set_option maxRecDepth 100000 in
set_option maxHeartbeats 6400000 in
theorem eq_7 {w : World} {A : Option Addr} {S : SetP} (hS : SetOK w A S) {cap : Nat} (hc : S.flags.length ≤ cap) (hm : cap ≤ 9223372036854775807) (vl : Txt) {vb : Value} {M : List Txt} (hvb : TextIn w vb (M.map mkT)) (h1 : fits20 (S.flags.map ofFlag) = true) (hzv : (mkT vl).size ≤ 2147483647) (h2 : fits2 (M.map mkT) = true) (h3 : RightK S.flags S.fold = true)
    (i : Nat) (hi : i < S.flags.length) (h5 : decide (wtBB [M.map mkT, [mkT vl]] ≤ 1048576) = true) (h6 : vl ∈ S.flags[i].bad) :
    Calls Try.prog 6 #[.agg #[.slice A S.flags.length cap, .bool S.plain, .bool S.unknown, .int .i64 S.fold], .int .i64 (i : Int), .string (mkT vl), vb] w (YesEnd w) := by
  have hwt : wt M + vl.length + 1 ≤ 1048576 := by
    have h := of_decide_eq_true h5
    simp only [wtBB, wtB, wt_map, mkT_size] at h; omega
  have hwl := wt_len M
  have H19 := Lib.hid (says19 hS.flg hc hm S.plain S.unknown S.fold h1)
  have H2 := Lib.hid (says2 hvb h2)
  have HRT := Lib.hid (saysR hS.flg cap S.plain S.unknown S.fold h1 h3)
  have hfz := (fits20_F h1).2 _ (List.getElem_mem hi)
  have hbad := fits20_bad h1 _ (List.getElem_mem hi)
  have hnum := hS.num
  have HTK : Hid (Says w 29 #[.agg #[.slice A S.flags.length cap, .bool S.plain, .bool S.unknown, .int .i64 S.fold], .int .i64 (i : Int), .string (mkT vl)] (decide (vl ∉ S.flags[i].bad))) := Lib.hid (fun W hb => takes_c (hS.flg.below hb) cap hc S.plain S.unknown S.fold i hi vl hnum (by omega))
  have HLG := Lib.hid (saysLong hS.flg cap S.plain S.unknown S.fold i hi vl (by omega) hfz.1 (by rw [mkT_size] at hzv; exact hzv))
  have HPC := Lib.hid (says_parse hS cap)
  have hEQ := law_equals hS.right hi vl st0 rfl M
  have HFG := Lib.hid (saysF A S.flags.length cap S.plain S.unknown S.fold (w := w) (j := (i : Int)) (decide_eq_true ⟨by omega, by omega⟩))
  rw [if_pos h6] at hEQ
  rw [decide_eq_false (fun h => h h6)] at HTK
  have hzv2 : ¬ (2147483647 : Int) < ((mkT vl).size : Int) := by omega
  have HVB := Lib.hid hvb
  obtain ⟨vb0, vbn, vbc, hvbe⟩ := hvb.slice
  clear hvb
  subst hvbe
  have HF14 := Lib.hid (fun (W : World) (hb : Below w.heap.size w W) => fit14_rv hb HVB.out h2 hzv h5)
  have HCH := Lib.hid (fun (W : World) (hb : Below w.heap.size w W) (a : Option Addr) (c : Nat) (G : List (Nat × Txt)) (h : RowAt W a (gCells G)) (hl : G.length ≤ c) (hm : G.length ≤ 1099511627776) => changed_c (hS.flg.below hb) cap hc S.plain S.unknown S.fold hnum h hl hm)
  clear hS h1 h3 h6 hbad
  generalize S.flags[i].name = nm at hfz HLG hEQ
  have HEQ := Lib.hid hEQ
  clear hEQ
  have hlong : (longT nm vl).length = nm.length + vl.length + 3 := by simp [longT]; omega
  have hw1 : wt (longT nm vl :: M) ≤ 1099511627776 := by
    have e : wt (longT nm vl :: M) = (longT nm vl).length + 1 + wt M := rfl
    rw [e, hlong]; omega
  have hw2 : wt M ≤ 1099511627776 := by omega
  have hl1 : ∀ t ∈ longT nm vl :: M, t.length ≤ 8589934592 := by
    intro t ht
    rcases List.mem_cons.1 ht with h | h
    · rw [h, hlong]; omega
    · have := wt_mem h; omega
  have hl2 : ∀ t ∈ M, t.length ≤ 8589934592 := fun t ht => hl1 t (List.mem_cons_of_mem _ ht)
  have hflat1 : [[mkT (longT nm vl)], M.map mkT].flatten.length < 8796093022208 := by simp; omega
  have hgo := goes_len S none st0 M
  have hga : (goes S none st0 M).given.length ≤ 1048576 ∧ (goes S none st0 M).args.length ≤ 1048576 := by
    have : st0.given.length = 0 := rfl
    have : st0.args.length = 0 := rfl
    omega
  have HX := Lib.hid (And.intro hw1 (And.intro hw2 (And.intro hl1 (And.intro hl2 (And.intro hflat1 (And.intro hga hnum))))))
  clear hw1 hw2 hl1 hl2 hflat1 hgo hga hlong hfz hwt hwl
  go_enter Try.func6, Try.ntmps6
  go_upto_region 1 with fail
  generalize hWX : w.alloc _ = WX
  have HB : Hid (Below w.heap.size w WX) := Lib.hid (by rw [← hWX]; exact (Below.refl _ _).alloc (Nat.le_refl _) _)
  have q3 : WX.heap[w.heap.size]? = some (.cells #[.slice A S.flags.length cap, .bool S.plain, .bool S.unknown, .int .i64 S.fold] 24 (0, 0)) := by rw [← hWX]; exact heap_alloc_new w _
  clear hWX
  have c0 : WX.cell? ⟨w.heap.size, 0, none⟩ = some (.slice A S.flags.length cap) := (cell_blk q3 0).trans rfl
  have c1 : WX.cell? ⟨w.heap.size, 1, none⟩ = some (.bool S.plain) := (cell_blk q3 1).trans rfl
  have c2 : WX.cell? ⟨w.heap.size, 2, none⟩ = some (.bool S.unknown) := (cell_blk q3 2).trans rfl
  have c3 : WX.cell? ⟨w.heap.size, 3, none⟩ = some (.int .i64 S.fold) := (cell_blk q3 3).trans rfl
  go_upto_region 5 with (first | ((with_reducible go_at_call 14); (with_reducible refine Calls.mono (H19.out _ HB.out) ?_); rintro e w3 ⟨rfl, hb3⟩; have q3 := block_kept q3 hb3; have c0 := cell_kept hb3 c0; have c1 := cell_kept hb3 c1; have c2 := cell_kept hb3 c2; have c3 := cell_kept hb3 c3; have HB := Lib.hid (HB.out.trans (hb3.mono HB.out.size)); clear hb3) | ((with_reducible go_at_call 15); (with_reducible refine Calls.mono (H2.out _ HB.out) ?_); rintro e w3 ⟨rfl, hb3⟩; have q3 := block_kept q3 hb3; have c0 := cell_kept hb3 c0; have c1 := cell_kept hb3 c1; have c2 := cell_kept hb3 c2; have c3 := cell_kept hb3 c3; have HB := Lib.hid (HB.out.trans (hb3.mono HB.out.size)); clear hb3) | ((with_reducible go_at_call 16); (with_reducible refine Calls.mono (HRT.out _ HB.out) ?_); rintro e w3 ⟨rfl, hb3⟩; have q3 := block_kept q3 hb3; have c0 := cell_kept hb3 c0; have c1 := cell_kept hb3 c1; have c2 := cell_kept hb3 c2; have c3 := cell_kept hb3 c3; have HB := Lib.hid (HB.out.trans (hb3.mono HB.out.size)); clear hb3) | ((with_reducible go_at_call 24); (with_reducible refine Calls.mono (HFG.out _ HB.out) ?_); rintro e w3 ⟨rfl, hb3⟩; have q3 := block_kept q3 hb3; have c0 := cell_kept hb3 c0; have c1 := cell_kept hb3 c1; have c2 := cell_kept hb3 c2; have c3 := cell_kept hb3 c3; have HB := Lib.hid (HB.out.trans (hb3.mono HB.out.size)); clear hb3) | ((with_reducible go_at_call 17); (with_reducible refine Calls.mono (HF14.out _ HB.out) ?_); rintro e w3 ⟨rfl, hb3⟩; have q3 := block_kept q3 hb3; have c0 := cell_kept hb3 c0; have c1 := cell_kept hb3 c1; have c2 := cell_kept hb3 c2; have c3 := cell_kept hb3 c3; have HB := Lib.hid (HB.out.trans (hb3.mono HB.out.size)); clear hb3))
  have hbx := HB.out
  obtain ⟨hw1, hw2, hl1, hl2, hflat1, hga, hnum2⟩ := HX.out
  have HVC := Lib.hid (HVB.out.below hbx)
  clear c0 c1 c2 c3
  refine region_inv (by kernel_rfl) (fun u v => Below u.heap.size u v) (E5 (.agg #[.slice A S.flags.length cap, .bool S.plain, .bool S.unknown, .int .i64 S.fold]) (S) (w3.heap.size) (i) (nm) (vl) (.slice vb0 vbn vbc) (M)) (fun i => decide (i = 13) || decide (i = 14)) (fun i => [41, 42, 43, 44, 45, 46, 47, 48, 49, 50, 51, 52, 53, 9, 10].getD i 0) 15
    (Below.refl _ _) (fun _ _ _ h k => below_step h k) (fun i hi v u u' h hb => E5.below hi h hb) ?_ (hgd_none (by kernel_rfl)) (by kernel_rfl) (by kernel_rfl) (by kernel_rfl) (by kernel_rfl) ?_ ?_
  · intro i hi hA v u h
    have hA2 : i = 13 ∨ i = 14 := by simpa using hA
    rcases hA2 with rfl | rfl
    · obtain ⟨g, rfl, _, h⟩ := h; exact in_of h
    · obtain ⟨g, rfl, _, h⟩ := h; exact in_of h
  · intro i hi o ho a u hG hk hd
    have hG9 : Below w3.heap.size w3 u := ((Below.refl _ _).drew).trans hG
    match i, hi with
    | 0, _ =>
      cases ho
      exact ow_load_set rfl ((hk 4 (by decide)).trans rfl) (block_kept q3 hG9) ⟨_, rfl, rfl, Below.refl _ _, fun h => by cases h⟩
    | 1, _ =>
      cases ho
      exact ow_load_set rfl ((hk 4 (by decide)).trans rfl) (block_kept q3 hG9) ⟨_, rfl, rfl, Below.refl _ _, fun h => by cases h⟩
    | 2, _ =>
      cases ho
      exact ow_move rfl ((hk 1 (by decide)).trans rfl) ⟨_, rfl, rfl, Below.refl _ _, fun h => by cases h⟩
    | 3, _ =>
      cases ho
      exact ow_move rfl ((hk 2 (by decide)).trans rfl) ⟨_, rfl, rfl, Below.refl _ _, fun h => by cases h⟩
    | 4, _ =>
      cases ho
      have e42 : a.eval (.tmp 42) = _ := hd 1 (by kernel_rfl) (by decide)
      have e43 : a.eval (.tmp 43) = _ := hd 2 (by kernel_rfl) (by decide)
      have e44 : a.eval (.tmp 44) = _ := hd 3 (by kernel_rfl) (by decide)
      refine ow_call #[.tmp 42, .tmp 43, .tmp 44] #[24, 3, 9] 28 Try.func28 (by kernel_rfl) (by rfl) rfl #[_, _, _] (by simp only [List.map_toArray, List.map_cons, List.map_nil, e42, e43, e44]) (HLG.out u (hbx.trans (hG9.mono hbx.size))) ?_
      rintro e u2 ⟨rfl, hb2⟩
      exact ⟨_, rfl, _, rfl, rfl, hb2, fun h => by cases h⟩
    | 5, _ =>
      cases ho
      have e45 : a.eval (.tmp 45) = _ := hd 4 (by kernel_rfl) (by decide)
      exact ow_build1 (s := mkT (longT nm vl)) (v := .nilIface) rfl e45 ⟨_, rfl, ⟨_, rfl, heap_alloc_new _ _⟩, (Below.refl _ _).alloc (Nat.le_refl _) _, fun h => by cases h⟩
    | 6, _ =>
      cases ho
      exact ow_move rfl ((hk 3 (by decide)).trans rfl) ⟨_, rfl, rfl, Below.refl _ _, fun h => by cases h⟩
    | 7, _ =>
      cases ho
      obtain ⟨g46, e46, hg46⟩ := hd 5 (by kernel_rfl) (by decide)
      have e47 : a.eval (.tmp 47) = _ := hd 6 (by kernel_rfl) (by decide)
      exact ow_rows2 rfl e46 e47 ⟨_, rfl, ⟨_, _, rfl, rows2 (heap_alloc_new _ _) ((one_text hg46).below ((Below.refl _ _).alloc (Nat.le_refl _) _)) ((HVC.out.below hG9).below ((Below.refl _ _).alloc (Nat.le_refl _) _))⟩, (Below.refl _ _).alloc (Nat.le_refl _) _, fun h => by cases h⟩
    | 8, _ =>
      cases ho
      obtain ⟨g, vs, e48', hr⟩ := hd 7 (by kernel_rfl) (by decide)
      have e48 : a.eval (.tmp 48) = .slice (some ⟨g, 0, none⟩) 2 2 := e48'
      have hl14 : Calls Try.prog 27 #[.slice (some ⟨g, 0, none⟩) 2 2] u _ := list14_c (ls := [[mkT (longT nm vl)], M.map mkT]) hr (by (show 2 ≤ 2147483647; decide)) (Nat.le_refl 2) hflat1
      refine ow_call #[.tmp 48] #[68] 27 Try.func27 (by kernel_rfl) (by rfl) rfl #[.slice (some ⟨g, 0, none⟩) 2 2] (by simp only [List.map_toArray, List.map_cons, List.map_nil, e48]) hl14 ?_
      rintro e u2 ⟨v, rfl, hv2, hb2⟩
      refine ⟨v, rfl, _, rfl, ?_, hb2, fun h => by cases h⟩
      show TextIn u2 v (((longT nm vl :: M)).map mkT)
      simpa using hv2
    | 9, _ =>
      cases ho
      have e41 : a.eval (.tmp 41) = _ := hd 0 (by kernel_rfl) (by decide)
      have e49 : TextIn u (a.eval (.tmp 49)) (((longT nm vl :: M)).map mkT) := hd 8 (by kernel_rfl) (by decide)
      refine ow_call #[.tmp 41, .tmp 49] #[24, 25] 26 Try.func26 (by kernel_rfl) (by rfl) rfl #[_, a.eval (.tmp 49)] (by simp only [List.map_toArray, List.map_cons, List.map_nil, e41]) (HPC.out u (hbx.trans (hG9.mono hbx.size)) _ ((longT nm vl :: M)) e49 hw1 hl1) ?_
      rintro e u2 ⟨v, rfl, hv2, hb2⟩
      exact ⟨v, rfl, _, rfl, hv2, hb2, fun h => by cases h⟩
    | 10, _ =>
      cases ho
      exact ow_load_set rfl ((hk 4 (by decide)).trans rfl) (block_kept q3 hG9) ⟨_, rfl, rfl, Below.refl _ _, fun h => by cases h⟩
    | 11, _ =>
      cases ho
      exact ow_move rfl ((hk 3 (by decide)).trans rfl) ⟨_, rfl, rfl, Below.refl _ _, fun h => by cases h⟩
    | 12, _ =>
      cases ho
      have e51 : a.eval (.tmp 51) = _ := hd 10 (by kernel_rfl) (by decide)
      have e52 : a.eval (.tmp 52) = _ := hd 11 (by kernel_rfl) (by decide)
      refine ow_call #[.tmp 51, .tmp 52] #[24, 25] 26 Try.func26 (by kernel_rfl) (by rfl) rfl #[_, _] (by simp only [List.map_toArray, List.map_cons, List.map_nil, e51, e52]) (HPC.out u (hbx.trans (hG9.mono hbx.size)) _ (M) (HVC.out.below hG9) hw2 hl2) ?_
      rintro e u2 ⟨v, rfl, hv2, hb2⟩
      exact ⟨v, rfl, _, rfl, hv2, hb2, fun h => by cases h⟩
    | 13, _ =>
      cases ho
      exact ow_alloc_hd rfl ⟨_, rfl, ⟨_, rfl, hG9.size, heap_alloc_new _ _⟩, (Below.refl _ _).alloc (Nat.le_refl _) _, fun _ => not_in⟩
    | 14, _ =>
      cases ho
      exact ow_alloc_hd rfl ⟨_, rfl, ⟨_, rfl, hG9.size, heap_alloc_new _ _⟩, (Below.refl _ _).alloc (Nat.le_refl _) _, fun _ => not_in⟩
    | k + 15, hi => exact absurd hi (by omega)
  · intro x u hG hx hdif
    have hG9 : Below w3.heap.size w3 u := ((Below.refl _ _).drew).trans hG
    obtain ⟨g7, e7, hB7, hg7⟩ := hx 13 (by decide)
    obtain ⟨g8, e8, hB8, hg8⟩ := hx 14 (by decide)
    have hne : g8 ≠ g7 := fun e => hdif 13 14 (by decide) (by decide) (by decide) rfl rfl (by rw [e7, e8, e])
    have h1 := hx 9 (by decide)
    have h1 : HeardOwn u (psOf none true (goes S none st0 (longT nm vl :: M))) (goes S none st0 (longT nm vl :: M)).err S.flags.length (x 9) := h1
    have h2 := hx 12 (by decide)
    have h2 : HeardOwn u (psOf none true (goes S none st0 M)) (goes S none st0 M).err S.flags.length (x 12) := h2
    rw [HEQ.out] at h1
    generalize hst : goes S none st0 M = st at h1 h2 hga
    clear hst
    obtain ⟨ga, gc, ta, tc, ca, cc, e41, hrow1⟩ := h1
    obtain ⟨ga2, gc2, ta2, tc2, ca2, cc2, e48, hrow2⟩ := h2
    generalize hs1 : psOf none true { st0 with err := .invalid i vl } = s1 at hrow1 e41
    generalize hs2 : psOf none true st = s2 at hrow2 e48
    simp only [putAll, Act.put, List.getD_cons_zero, List.getD_cons_succ, List.setIfInBounds_toArray, List.set_cons_succ, List.set_cons_zero]
    refine wpAny_next (i := 15) (by kernel_rfl) rfl rfl ?_
    refine ow_store_hd (s := s1) (er := (Er.invalid i vl)) (n := S.flags.length) rfl rfl e7 e41 hg7 ?_
    have hV7 := hdPut_blk s1 (Er.invalid i vl) S.flags.length (.slice ga s1.G.length gc) (.slice ta s1.A.length tc) (.slice ca (chL s1.chg S.flags.length).length cc) hg7
    have hV8 := (hdPut_other s1 (Er.invalid i vl) (.slice ga s1.G.length gc) (.slice ta s1.A.length tc) (.slice ca (chL s1.chg S.flags.length).length cc) (w := u) hne).trans hg8
    have hrow1 := hrow1.put (t := s1) (er := (Er.invalid i vl)) (G' := .slice ga s1.G.length gc) (A' := .slice ta s1.A.length tc) (C' := .slice ca (chL s1.chg S.flags.length).length cc) hg7
    have hrow2 := hrow2.put (t := s1) (er := (Er.invalid i vl)) (G' := .slice ga s1.G.length gc) (A' := .slice ta s1.A.length tc) (C' := .slice ca (chL s1.chg S.flags.length).length cc) hg7
    have hbU : Below w3.heap.size w3 (hdPut u g7 s1 (Er.invalid i vl) (.slice ga s1.G.length gc) (.slice ta s1.A.length tc) (.slice ca (chL s1.chg S.flags.length).length cc)) := hdPut_below _ _ _ _ _ hG9 hB7
    generalize hdPut u g7 s1 (Er.invalid i vl) (.slice ga s1.G.length gc) (.slice ta s1.A.length tc) (.slice ca (chL s1.chg S.flags.length).length cc) = U1 at hV7 hV8 hrow1 hrow2 hbU ⊢
    refine wpAny_last (i := 16) (by kernel_rfl) rfl rfl (by kernel_rfl) ?_
    refine ow_store_hd (s := s2) (er := st.err) (n := S.flags.length) rfl rfl e8 e48 hV8 ?_
    rw [e7, e8]
    have hV7 := (hdPut_other s2 st.err (.slice ga2 s2.G.length gc2) (.slice ta2 s2.A.length tc2) (.slice ca2 (chL s2.chg S.flags.length).length cc2) (w := U1) (Ne.symm hne)).trans hV7
    have hrow1 := hrow1.put (t := s2) (er := st.err) (G' := .slice ga2 s2.G.length gc2) (A' := .slice ta2 s2.A.length tc2) (C' := .slice ca2 (chL s2.chg S.flags.length).length cc2) hV8
    have hrow2 := hrow2.put (t := s2) (er := st.err) (G' := .slice ga2 s2.G.length gc2) (A' := .slice ta2 s2.A.length tc2) (C' := .slice ca2 (chL s2.chg S.flags.length).length cc2) hV8
    have hbU : Below w3.heap.size w3 (hdPut U1 g8 s2 st.err (.slice ga2 s2.G.length gc2) (.slice ta2 s2.A.length tc2) (.slice ca2 (chL s2.chg S.flags.length).length cc2)) := hdPut_below _ _ _ _ _ hbU hB8
    have hV8 := hdPut_blk s2 st.err S.flags.length (.slice ga2 s2.G.length gc2) (.slice ta2 s2.A.length tc2) (.slice ca2 (chL s2.chg S.flags.length).length cc2) hV8
    generalize hdPut U1 g8 s2 st.err (.slice ga2 s2.G.length gc2) (.slice ta2 s2.A.length tc2) (.slice ca2 (chL s2.chg S.flags.length).length cc2) = U at hV7 hV8 hrow1 hrow2 hbU ⊢
    have HB : Hid (Below w.heap.size w U) := Lib.hid (hbx.trans (hbU.mono hbx.size))
    have q3b := q3
    have q3 := block_kept q3 hbU
    clear hg7 hg8 e41 e48 e7 e8 hdif hx
    have c0 : U.cell? ⟨w.heap.size, 0, none⟩ = some (.slice A S.flags.length cap) := (cell_blk q3 0).trans rfl
    have c1 : U.cell? ⟨w.heap.size, 1, none⟩ = some (.bool S.plain) := (cell_blk q3 1).trans rfl
    have c2 : U.cell? ⟨w.heap.size, 2, none⟩ = some (.bool S.unknown) := (cell_blk q3 2).trans rfl
    have c3 : U.cell? ⟨w.heap.size, 3, none⟩ = some (.int .i64 S.fold) := (cell_blk q3 3).trans rfl
    go_upto_region 7 with ((with_reducible go_at_call 29); (with_reducible refine Calls.mono (HTK.out _ HB.out) ?_); rintro e w4 ⟨rfl, hb4⟩)
    have hV7 := block_kept hV7 hb4
    subst hs1
    have HB := Lib.hid (HB.out.trans (hb4.mono HB.out.size))
    have hch : (chL (psOf none true ({ st0 with err := .invalid i vl } : St)).chg S.flags.length).length = 0 := by
      show ((List.range S.flags.length).filter fun _ => false).length = 0
      simp
    rw [hch] at hV7
    have y0 : w4.cell? ⟨g7, 0, none⟩ = some (.int .i64 4) := (cell_blk hV7 0).trans rfl
    have y4 : w4.cell? ⟨g7, 4, none⟩ = some (.int .i64 (i : Int)) := (cell_blk hV7 4).trans rfl
    have y3 : w4.cell? ⟨g7, 3, none⟩ = some (.string (mkT vl)) := (cell_blk hV7 3).trans rfl
    have y5 : w4.cell? ⟨g7, 5, none⟩ = some (.slice ga 0 gc) := (cell_blk hV7 5).trans rfl
    have y6 : w4.cell? ⟨g7, 6, none⟩ = some (.slice ta 0 tc) := (cell_blk hV7 6).trans rfl
    have y8 : w4.cell? ⟨g7, 8, none⟩ = some (.slice ca 0 cc) := (cell_blk hV7 8).trans rfl
    have y7 : w4.cell? ⟨g7, 7, none⟩ = some (.int .i64 (-1)) := (cell_blk hV7 7).trans rfl
    clear hV7 hV8 hrow1 hrow2 q3 c0 c1 c2 c3 hch
    go_wp2
    go_ret
    exact yesEnd rfl HB.out

set_option maxRecDepth 100000 in
set_option maxHeartbeats 6400000 in
theorem eq_8 {w : World} {A : Option Addr} {S : SetP} (hS : SetOK w A S) {cap : Nat} (hc : S.flags.length ≤ cap) (hm : cap ≤ 9223372036854775807) (vl : Txt) {vb : Value} {M : List Txt} (hvb : TextIn w vb (M.map mkT)) (h1 : fits20 (S.flags.map ofFlag) = true) (hzv : (mkT vl).size ≤ 2147483647) (h2 : fits2 (M.map mkT) = true) (h3 : RightK S.flags S.fold = true)
    (i : Nat) (hi : i < S.flags.length) (h5 : decide (wtBB [M.map mkT, [mkT vl]] ≤ 1048576) = true) (h6 : vl ∉ S.flags[i].bad) :
    Calls Try.prog 6 #[.agg #[.slice A S.flags.length cap, .bool S.plain, .bool S.unknown, .int .i64 S.fold], .int .i64 (i : Int), .string (mkT vl), vb] w (YesEnd w) := by
  have hwt : wt M + vl.length + 1 ≤ 1048576 := by
    have h := of_decide_eq_true h5
    simp only [wtBB, wtB, wt_map, mkT_size] at h; omega
  have hwl := wt_len M
  have H19 := Lib.hid (says19 hS.flg hc hm S.plain S.unknown S.fold h1)
  have H2 := Lib.hid (says2 hvb h2)
  have HRT := Lib.hid (saysR hS.flg cap S.plain S.unknown S.fold h1 h3)
  have hfz := (fits20_F h1).2 _ (List.getElem_mem hi)
  have hbad := fits20_bad h1 _ (List.getElem_mem hi)
  have hnum := hS.num
  have HTK : Hid (Says w 29 #[.agg #[.slice A S.flags.length cap, .bool S.plain, .bool S.unknown, .int .i64 S.fold], .int .i64 (i : Int), .string (mkT vl)] (decide (vl ∉ S.flags[i].bad))) := Lib.hid (fun W hb => takes_c (hS.flg.below hb) cap hc S.plain S.unknown S.fold i hi vl hnum (by omega))
  have HLG := Lib.hid (saysLong hS.flg cap S.plain S.unknown S.fold i hi vl (by omega) hfz.1 (by rw [mkT_size] at hzv; exact hzv))
  have HPC := Lib.hid (says_parse hS cap)
  have hEQ := law_equals hS.right hi vl st0 rfl M
  have HFG := Lib.hid (saysF A S.flags.length cap S.plain S.unknown S.fold (w := w) (j := (i : Int)) (decide_eq_true ⟨by omega, by omega⟩))
  rw [if_neg h6] at hEQ
  have hEQ : goes S none st0 (longT S.flags[i].name vl :: M) = { goes S none st0 M with given := [(i, vl)] ++ (goes S none st0 M).given } := hEQ.trans (goes_shift S none [(i, vl)] M.length st0 M (Nat.le_refl _))
  rw [decide_eq_true h6] at HTK
  have hzv2 : ¬ (2147483647 : Int) < ((mkT vl).size : Int) := by omega
  have HVB := Lib.hid hvb
  obtain ⟨vb0, vbn, vbc, hvbe⟩ := hvb.slice
  clear hvb
  subst hvbe
  have HF14 := Lib.hid (fun (W : World) (hb : Below w.heap.size w W) => fit14_rv hb HVB.out h2 hzv h5)
  have HCH := Lib.hid (fun (W : World) (hb : Below w.heap.size w W) (a : Option Addr) (c : Nat) (G : List (Nat × Txt)) (h : RowAt W a (gCells G)) (hl : G.length ≤ c) (hm : G.length ≤ 1099511627776) => changed_c (hS.flg.below hb) cap hc S.plain S.unknown S.fold hnum h hl hm)
  clear hS h1 h3 h6 hbad
  generalize S.flags[i].name = nm at hfz HLG hEQ
  have HEQ := Lib.hid hEQ
  clear hEQ
  have hlong : (longT nm vl).length = nm.length + vl.length + 3 := by simp [longT]; omega
  have hw1 : wt (longT nm vl :: M) ≤ 1099511627776 := by
    have e : wt (longT nm vl :: M) = (longT nm vl).length + 1 + wt M := rfl
    rw [e, hlong]; omega
  have hw2 : wt M ≤ 1099511627776 := by omega
  have hl1 : ∀ t ∈ longT nm vl :: M, t.length ≤ 8589934592 := by
    intro t ht
    rcases List.mem_cons.1 ht with h | h
    · rw [h, hlong]; omega
    · have := wt_mem h; omega
  have hl2 : ∀ t ∈ M, t.length ≤ 8589934592 := fun t ht => hl1 t (List.mem_cons_of_mem _ ht)
  have hflat1 : [[mkT (longT nm vl)], M.map mkT].flatten.length < 8796093022208 := by simp; omega
  have hgo := goes_len S none st0 M
  have hga : (goes S none st0 M).given.length ≤ 1048576 ∧ (goes S none st0 M).args.length ≤ 1048576 := by
    have : st0.given.length = 0 := rfl
    have : st0.args.length = 0 := rfl
    omega
  have HX := Lib.hid (And.intro hw1 (And.intro hw2 (And.intro hl1 (And.intro hl2 (And.intro hflat1 (And.intro hga hnum))))))
  clear hw1 hw2 hl1 hl2 hflat1 hgo hga hlong hfz hwt hwl
  go_enter Try.func6, Try.ntmps6
  go_upto_region 1 with fail
  generalize hWX : w.alloc _ = WX
  have HB : Hid (Below w.heap.size w WX) := Lib.hid (by rw [← hWX]; exact (Below.refl _ _).alloc (Nat.le_refl _) _)
  have q3 : WX.heap[w.heap.size]? = some (.cells #[.slice A S.flags.length cap, .bool S.plain, .bool S.unknown, .int .i64 S.fold] 24 (0, 0)) := by rw [← hWX]; exact heap_alloc_new w _
  clear hWX
  have c0 : WX.cell? ⟨w.heap.size, 0, none⟩ = some (.slice A S.flags.length cap) := (cell_blk q3 0).trans rfl
  have c1 : WX.cell? ⟨w.heap.size, 1, none⟩ = some (.bool S.plain) := (cell_blk q3 1).trans rfl
  have c2 : WX.cell? ⟨w.heap.size, 2, none⟩ = some (.bool S.unknown) := (cell_blk q3 2).trans rfl
  have c3 : WX.cell? ⟨w.heap.size, 3, none⟩ = some (.int .i64 S.fold) := (cell_blk q3 3).trans rfl
  go_upto_region 5 with (first | ((with_reducible go_at_call 14); (with_reducible refine Calls.mono (H19.out _ HB.out) ?_); rintro e w3 ⟨rfl, hb3⟩; have q3 := block_kept q3 hb3; have c0 := cell_kept hb3 c0; have c1 := cell_kept hb3 c1; have c2 := cell_kept hb3 c2; have c3 := cell_kept hb3 c3; have HB := Lib.hid (HB.out.trans (hb3.mono HB.out.size)); clear hb3) | ((with_reducible go_at_call 15); (with_reducible refine Calls.mono (H2.out _ HB.out) ?_); rintro e w3 ⟨rfl, hb3⟩; have q3 := block_kept q3 hb3; have c0 := cell_kept hb3 c0; have c1 := cell_kept hb3 c1; have c2 := cell_kept hb3 c2; have c3 := cell_kept hb3 c3; have HB := Lib.hid (HB.out.trans (hb3.mono HB.out.size)); clear hb3) | ((with_reducible go_at_call 16); (with_reducible refine Calls.mono (HRT.out _ HB.out) ?_); rintro e w3 ⟨rfl, hb3⟩; have q3 := block_kept q3 hb3; have c0 := cell_kept hb3 c0; have c1 := cell_kept hb3 c1; have c2 := cell_kept hb3 c2; have c3 := cell_kept hb3 c3; have HB := Lib.hid (HB.out.trans (hb3.mono HB.out.size)); clear hb3) | ((with_reducible go_at_call 24); (with_reducible refine Calls.mono (HFG.out _ HB.out) ?_); rintro e w3 ⟨rfl, hb3⟩; have q3 := block_kept q3 hb3; have c0 := cell_kept hb3 c0; have c1 := cell_kept hb3 c1; have c2 := cell_kept hb3 c2; have c3 := cell_kept hb3 c3; have HB := Lib.hid (HB.out.trans (hb3.mono HB.out.size)); clear hb3) | ((with_reducible go_at_call 17); (with_reducible refine Calls.mono (HF14.out _ HB.out) ?_); rintro e w3 ⟨rfl, hb3⟩; have q3 := block_kept q3 hb3; have c0 := cell_kept hb3 c0; have c1 := cell_kept hb3 c1; have c2 := cell_kept hb3 c2; have c3 := cell_kept hb3 c3; have HB := Lib.hid (HB.out.trans (hb3.mono HB.out.size)); clear hb3))
  have hbx := HB.out
  obtain ⟨hw1, hw2, hl1, hl2, hflat1, hga, hnum2⟩ := HX.out
  have HVC := Lib.hid (HVB.out.below hbx)
  clear c0 c1 c2 c3
  refine region_inv (by kernel_rfl) (fun u v => Below u.heap.size u v) (E5 (.agg #[.slice A S.flags.length cap, .bool S.plain, .bool S.unknown, .int .i64 S.fold]) (S) (w3.heap.size) (i) (nm) (vl) (.slice vb0 vbn vbc) (M)) (fun i => decide (i = 13) || decide (i = 14)) (fun i => [41, 42, 43, 44, 45, 46, 47, 48, 49, 50, 51, 52, 53, 9, 10].getD i 0) 15
    (Below.refl _ _) (fun _ _ _ h k => below_step h k) (fun i hi v u u' h hb => E5.below hi h hb) ?_ (hgd_none (by kernel_rfl)) (by kernel_rfl) (by kernel_rfl) (by kernel_rfl) (by kernel_rfl) ?_ ?_
  · intro i hi hA v u h
    have hA2 : i = 13 ∨ i = 14 := by simpa using hA
    rcases hA2 with rfl | rfl
    · obtain ⟨g, rfl, _, h⟩ := h; exact in_of h
    · obtain ⟨g, rfl, _, h⟩ := h; exact in_of h
  · intro i hi o ho a u hG hk hd
    have hG9 : Below w3.heap.size w3 u := ((Below.refl _ _).drew).trans hG
    match i, hi with
    | 0, _ =>
      cases ho
      exact ow_load_set rfl ((hk 4 (by decide)).trans rfl) (block_kept q3 hG9) ⟨_, rfl, rfl, Below.refl _ _, fun h => by cases h⟩
    | 1, _ =>
      cases ho
      exact ow_load_set rfl ((hk 4 (by decide)).trans rfl) (block_kept q3 hG9) ⟨_, rfl, rfl, Below.refl _ _, fun h => by cases h⟩
    | 2, _ =>
      cases ho
      exact ow_move rfl ((hk 1 (by decide)).trans rfl) ⟨_, rfl, rfl, Below.refl _ _, fun h => by cases h⟩
    | 3, _ =>
      cases ho
      exact ow_move rfl ((hk 2 (by decide)).trans rfl) ⟨_, rfl, rfl, Below.refl _ _, fun h => by cases h⟩
    | 4, _ =>
      cases ho
      have e42 : a.eval (.tmp 42) = _ := hd 1 (by kernel_rfl) (by decide)
      have e43 : a.eval (.tmp 43) = _ := hd 2 (by kernel_rfl) (by decide)
      have e44 : a.eval (.tmp 44) = _ := hd 3 (by kernel_rfl) (by decide)
      refine ow_call #[.tmp 42, .tmp 43, .tmp 44] #[24, 3, 9] 28 Try.func28 (by kernel_rfl) (by rfl) rfl #[_, _, _] (by simp only [List.map_toArray, List.map_cons, List.map_nil, e42, e43, e44]) (HLG.out u (hbx.trans (hG9.mono hbx.size))) ?_
      rintro e u2 ⟨rfl, hb2⟩
      exact ⟨_, rfl, _, rfl, rfl, hb2, fun h => by cases h⟩
    | 5, _ =>
      cases ho
      have e45 : a.eval (.tmp 45) = _ := hd 4 (by kernel_rfl) (by decide)
      exact ow_build1 (s := mkT (longT nm vl)) (v := .nilIface) rfl e45 ⟨_, rfl, ⟨_, rfl, heap_alloc_new _ _⟩, (Below.refl _ _).alloc (Nat.le_refl _) _, fun h => by cases h⟩
    | 6, _ =>
      cases ho
      exact ow_move rfl ((hk 3 (by decide)).trans rfl) ⟨_, rfl, rfl, Below.refl _ _, fun h => by cases h⟩
    | 7, _ =>
      cases ho
      obtain ⟨g46, e46, hg46⟩ := hd 5 (by kernel_rfl) (by decide)
      have e47 : a.eval (.tmp 47) = _ := hd 6 (by kernel_rfl) (by decide)
      exact ow_rows2 rfl e46 e47 ⟨_, rfl, ⟨_, _, rfl, rows2 (heap_alloc_new _ _) ((one_text hg46).below ((Below.refl _ _).alloc (Nat.le_refl _) _)) ((HVC.out.below hG9).below ((Below.refl _ _).alloc (Nat.le_refl _) _))⟩, (Below.refl _ _).alloc (Nat.le_refl _) _, fun h => by cases h⟩
    | 8, _ =>
      cases ho
      obtain ⟨g, vs, e48', hr⟩ := hd 7 (by kernel_rfl) (by decide)
      have e48 : a.eval (.tmp 48) = .slice (some ⟨g, 0, none⟩) 2 2 := e48'
      have hl14 : Calls Try.prog 27 #[.slice (some ⟨g, 0, none⟩) 2 2] u _ := list14_c (ls := [[mkT (longT nm vl)], M.map mkT]) hr (by (show 2 ≤ 2147483647; decide)) (Nat.le_refl 2) hflat1
      refine ow_call #[.tmp 48] #[68] 27 Try.func27 (by kernel_rfl) (by rfl) rfl #[.slice (some ⟨g, 0, none⟩) 2 2] (by simp only [List.map_toArray, List.map_cons, List.map_nil, e48]) hl14 ?_
      rintro e u2 ⟨v, rfl, hv2, hb2⟩
      refine ⟨v, rfl, _, rfl, ?_, hb2, fun h => by cases h⟩
      show TextIn u2 v (((longT nm vl :: M)).map mkT)
      simpa using hv2
    | 9, _ =>
      cases ho
      have e41 : a.eval (.tmp 41) = _ := hd 0 (by kernel_rfl) (by decide)
      have e49 : TextIn u (a.eval (.tmp 49)) (((longT nm vl :: M)).map mkT) := hd 8 (by kernel_rfl) (by decide)
      refine ow_call #[.tmp 41, .tmp 49] #[24, 25] 26 Try.func26 (by kernel_rfl) (by rfl) rfl #[_, a.eval (.tmp 49)] (by simp only [List.map_toArray, List.map_cons, List.map_nil, e41]) (HPC.out u (hbx.trans (hG9.mono hbx.size)) _ ((longT nm vl :: M)) e49 hw1 hl1) ?_
      rintro e u2 ⟨v, rfl, hv2, hb2⟩
      exact ⟨v, rfl, _, rfl, hv2, hb2, fun h => by cases h⟩
    | 10, _ =>
      cases ho
      exact ow_load_set rfl ((hk 4 (by decide)).trans rfl) (block_kept q3 hG9) ⟨_, rfl, rfl, Below.refl _ _, fun h => by cases h⟩
    | 11, _ =>
      cases ho
      exact ow_move rfl ((hk 3 (by decide)).trans rfl) ⟨_, rfl, rfl, Below.refl _ _, fun h => by cases h⟩
    | 12, _ =>
      cases ho
      have e51 : a.eval (.tmp 51) = _ := hd 10 (by kernel_rfl) (by decide)
      have e52 : a.eval (.tmp 52) = _ := hd 11 (by kernel_rfl) (by decide)
      refine ow_call #[.tmp 51, .tmp 52] #[24, 25] 26 Try.func26 (by kernel_rfl) (by rfl) rfl #[_, _] (by simp only [List.map_toArray, List.map_cons, List.map_nil, e51, e52]) (HPC.out u (hbx.trans (hG9.mono hbx.size)) _ (M) (HVC.out.below hG9) hw2 hl2) ?_
      rintro e u2 ⟨v, rfl, hv2, hb2⟩
      exact ⟨v, rfl, _, rfl, hv2, hb2, fun h => by cases h⟩
    | 13, _ =>
      cases ho
      exact ow_alloc_hd rfl ⟨_, rfl, ⟨_, rfl, hG9.size, heap_alloc_new _ _⟩, (Below.refl _ _).alloc (Nat.le_refl _) _, fun _ => not_in⟩
    | 14, _ =>
      cases ho
      exact ow_alloc_hd rfl ⟨_, rfl, ⟨_, rfl, hG9.size, heap_alloc_new _ _⟩, (Below.refl _ _).alloc (Nat.le_refl _) _, fun _ => not_in⟩
    | k + 15, hi => exact absurd hi (by omega)
  · intro x u hG hx hdif
    have hG9 : Below w3.heap.size w3 u := ((Below.refl _ _).drew).trans hG
    obtain ⟨g7, e7, hB7, hg7⟩ := hx 13 (by decide)
    obtain ⟨g8, e8, hB8, hg8⟩ := hx 14 (by decide)
    have hne : g8 ≠ g7 := fun e => hdif 13 14 (by decide) (by decide) (by decide) rfl rfl (by rw [e7, e8, e])
    have h1 := hx 9 (by decide)
    have h1 : HeardOwn u (psOf none true (goes S none st0 (longT nm vl :: M))) (goes S none st0 (longT nm vl :: M)).err S.flags.length (x 9) := h1
    have h2 := hx 12 (by decide)
    have h2 : HeardOwn u (psOf none true (goes S none st0 M)) (goes S none st0 M).err S.flags.length (x 12) := h2
    rw [HEQ.out] at h1
    generalize hst : goes S none st0 M = st at h1 h2 hga
    clear hst
    obtain ⟨ga, gc, ta, tc, ca, cc, e41, hrow1⟩ := h1
    obtain ⟨ga2, gc2, ta2, tc2, ca2, cc2, e48, hrow2⟩ := h2
    generalize hs1 : psOf none true { st with given := [(i, vl)] ++ st.given } = s1 at hrow1 e41
    generalize hs2 : psOf none true st = s2 at hrow2 e48
    simp only [putAll, Act.put, List.getD_cons_zero, List.getD_cons_succ, List.setIfInBounds_toArray, List.set_cons_succ, List.set_cons_zero]
    refine wpAny_next (i := 15) (by kernel_rfl) rfl rfl ?_
    refine ow_store_hd (s := s1) (er := st.err) (n := S.flags.length) rfl rfl e7 e41 hg7 ?_
    have hV7 := hdPut_blk s1 st.err S.flags.length (.slice ga s1.G.length gc) (.slice ta s1.A.length tc) (.slice ca (chL s1.chg S.flags.length).length cc) hg7
    have hV8 := (hdPut_other s1 st.err (.slice ga s1.G.length gc) (.slice ta s1.A.length tc) (.slice ca (chL s1.chg S.flags.length).length cc) (w := u) hne).trans hg8
    have hrow1 := hrow1.put (t := s1) (er := st.err) (G' := .slice ga s1.G.length gc) (A' := .slice ta s1.A.length tc) (C' := .slice ca (chL s1.chg S.flags.length).length cc) hg7
    have hrow2 := hrow2.put (t := s1) (er := st.err) (G' := .slice ga s1.G.length gc) (A' := .slice ta s1.A.length tc) (C' := .slice ca (chL s1.chg S.flags.length).length cc) hg7
    have hbU : Below w3.heap.size w3 (hdPut u g7 s1 st.err (.slice ga s1.G.length gc) (.slice ta s1.A.length tc) (.slice ca (chL s1.chg S.flags.length).length cc)) := hdPut_below _ _ _ _ _ hG9 hB7
    generalize hdPut u g7 s1 st.err (.slice ga s1.G.length gc) (.slice ta s1.A.length tc) (.slice ca (chL s1.chg S.flags.length).length cc) = U1 at hV7 hV8 hrow1 hrow2 hbU ⊢
    refine wpAny_last (i := 16) (by kernel_rfl) rfl rfl (by kernel_rfl) ?_
    refine ow_store_hd (s := s2) (er := st.err) (n := S.flags.length) rfl rfl e8 e48 hV8 ?_
    rw [e7, e8]
    have hV7 := (hdPut_other s2 st.err (.slice ga2 s2.G.length gc2) (.slice ta2 s2.A.length tc2) (.slice ca2 (chL s2.chg S.flags.length).length cc2) (w := U1) (Ne.symm hne)).trans hV7
    have hrow1 := hrow1.put (t := s2) (er := st.err) (G' := .slice ga2 s2.G.length gc2) (A' := .slice ta2 s2.A.length tc2) (C' := .slice ca2 (chL s2.chg S.flags.length).length cc2) hV8
    have hrow2 := hrow2.put (t := s2) (er := st.err) (G' := .slice ga2 s2.G.length gc2) (A' := .slice ta2 s2.A.length tc2) (C' := .slice ca2 (chL s2.chg S.flags.length).length cc2) hV8
    have hbU : Below w3.heap.size w3 (hdPut U1 g8 s2 st.err (.slice ga2 s2.G.length gc2) (.slice ta2 s2.A.length tc2) (.slice ca2 (chL s2.chg S.flags.length).length cc2)) := hdPut_below _ _ _ _ _ hbU hB8
    have hV8 := hdPut_blk s2 st.err S.flags.length (.slice ga2 s2.G.length gc2) (.slice ta2 s2.A.length tc2) (.slice ca2 (chL s2.chg S.flags.length).length cc2) hV8
    generalize hdPut U1 g8 s2 st.err (.slice ga2 s2.G.length gc2) (.slice ta2 s2.A.length tc2) (.slice ca2 (chL s2.chg S.flags.length).length cc2) = U at hV7 hV8 hrow1 hrow2 hbU ⊢
    have HB : Hid (Below w.heap.size w U) := Lib.hid (hbx.trans (hbU.mono hbx.size))
    have q3b := q3
    have q3 := block_kept q3 hbU
    clear hg7 hg8 e41 e48 e7 e8 hdif hx
    have c0 : U.cell? ⟨w.heap.size, 0, none⟩ = some (.slice A S.flags.length cap) := (cell_blk q3 0).trans rfl
    have c1 : U.cell? ⟨w.heap.size, 1, none⟩ = some (.bool S.plain) := (cell_blk q3 1).trans rfl
    have c2 : U.cell? ⟨w.heap.size, 2, none⟩ = some (.bool S.unknown) := (cell_blk q3 2).trans rfl
    have c3 : U.cell? ⟨w.heap.size, 3, none⟩ = some (.int .i64 S.fold) := (cell_blk q3 3).trans rfl
    go_upto_region 8 with ((with_reducible go_at_call 29); (with_reducible refine Calls.mono (HTK.out _ HB.out) ?_); rintro e w4 ⟨rfl, hb4⟩)
    have hV7 := block_kept hV7 hb4
    have hV8 := block_kept hV8 hb4
    have hrow1 := hrow1.below hb4
    have hrow2 := hrow2.below hb4
    have q3 := block_kept q3 hb4
    have HB := Lib.hid (HB.out.trans (hb4.mono HB.out.size))
    have hB7 : w.heap.size < g7 := Nat.lt_of_lt_of_le (lt_of_block q3b) hB7
    have hB8 : w.heap.size < g8 := Nat.lt_of_lt_of_le (lt_of_block q3b) hB8
    subst hs1
    subst hs2
    clear c0 c1 c2 c3
    have hV7 : w4.heap[g7]? = some (.cells #[.int .i64 (eNo st.err), .string (mkT (eName st.err)), .string (mkT (eShort st.err)), .string (mkT (eVal st.err)), .int .i64 (eFlag st.err), .slice ga ((i, vl) :: st.given).length gc, .slice ta st.args.length tc, .int .i64 st.dash, .slice ca (chL (fun j => ((i, vl) :: st.given).any fun g => g.1 == j) S.flags.length).length cc, .bool true, .bool false] 32 (0, 0)) := hV7
    obtain ⟨C1, hC1⟩ : ∃ C, C = chL (fun j => ((i, vl) :: st.given).any fun g => g.1 == j) S.flags.length := ⟨_, rfl⟩
    rw [← hC1] at hV7
    have HC1 := Lib.hid hC1
    clear hC1
    have hV8 : w4.heap[g8]? = some (.cells #[.int .i64 (eNo st.err), .string (mkT (eName st.err)), .string (mkT (eShort st.err)), .string (mkT (eVal st.err)), .int .i64 (eFlag st.err), .slice ga2 st.given.length gc2, .slice ta2 st.args.length tc2, .int .i64 st.dash, .slice ca2 (chL (fun j => st.given.any fun g => g.1 == j) S.flags.length).length cc2, .bool true, .bool false] 32 (0, 0)) := hV8
    have y85 : w4.cell? ⟨g8, 5, none⟩ = some (.slice ga2 st.given.length gc2) := (cell_blk hV8 5).trans rfl
    obtain ⟨_, r11, r12, r13, _⟩ := own_full hrow1.1
    obtain ⟨_, r21, r22, r23, _⟩ := own_full hrow2.1
    have l8 := lt_of_block hV8
    have HGV := Lib.hid (given_eq (W := w4) (i := i) (vl := vl) (G := st.given) r21 r22 (by have := hga.1; omega))
    go_upto_region 9 with ((with_reducible go_at_call 30); (with_reducible refine Calls.mono (HGV.out) ?_); rintro e w5 ⟨v5, rfl, ho5, hb5⟩; obtain ⟨a5, n5, rfl, ho5⟩ := ho5; have y85 := cell_kept hb5 y85; have z85 := free_blk (block_kept hV8 hb5); have l85 := lt_of_block (block_kept hV8 hb5))
    have hV7 := (blk_other (a := ⟨g8, 5, none⟩) (v := .slice a5 ((i, vl) :: st.given).length n5) (Ne.symm hne)).trans (block_kept hV7 hb5)
    have hV8' := block_kept hV8 hb5
    have hrow1 := (hrow1.below hb5).blk (w' := w5.setCell ⟨g8, 5, none⟩ (.slice a5 ((i, vl) :: st.given).length n5)) g8 hV8' (by decide) (by decide) (by decide) (fun b _ ne => blk_other ne)
    have hrow2 := (hrow2.below hb5).blk (w' := w5.setCell ⟨g8, 5, none⟩ (.slice a5 ((i, vl) :: st.given).length n5)) g8 hV8' (by decide) (by decide) (by decide) (fun b _ ne => blk_other ne)
    have ho5 := own_of_blk (w' := w5.setCell ⟨g8, 5, none⟩ (.slice a5 ((i, vl) :: st.given).length n5)) ho5 (fun g hg => blk_other (fun e => by subst e; exact own_far3 ho5 hV8' (by decide) hg))
    have hV8 := blk_set hV8' 5 (.slice a5 ((i, vl) :: st.given).length n5)
    have q3 := (blk_other (a := ⟨g8, 5, none⟩) (v := .slice a5 ((i, vl) :: st.given).length n5) (Nat.ne_of_lt hB8)).trans (block_kept q3 hb5)
    have HB := Lib.hid ((HB.out.trans (hb5.mono HB.out.size)).setCell (p := ⟨g8, 5, none⟩) (Nat.le_of_lt hB8) (.slice a5 ((i, vl) :: st.given).length n5))
    generalize w5.setCell ⟨g8, 5, none⟩ (.slice a5 ((i, vl) :: st.given).length n5) = U2 at hV7 hV8 hrow1 hrow2 ho5 q3 HB ⊢
    clear l8 y85 z85 l85 hb5 HGV hV8' r11 r12 r13 r21 r22 r23
    have hV8 : U2.heap[g8]? = some (.cells #[.int .i64 (eNo st.err), .string (mkT (eName st.err)), .string (mkT (eShort st.err)), .string (mkT (eVal st.err)), .int .i64 (eFlag st.err), .slice a5 ((i, vl) :: st.given).length n5, .slice ta2 st.args.length tc2, .int .i64 st.dash, .slice ca2 (chL (fun j => st.given.any fun g => g.1 == j) S.flags.length).length cc2, .bool true, .bool false] 32 (0, 0)) := hV8
    have c0 : U2.cell? ⟨w.heap.size, 0, none⟩ = some (.slice A S.flags.length cap) := (cell_blk q3 0).trans rfl
    have c1 : U2.cell? ⟨w.heap.size, 1, none⟩ = some (.bool S.plain) := (cell_blk q3 1).trans rfl
    have c2 : U2.cell? ⟨w.heap.size, 2, none⟩ = some (.bool S.unknown) := (cell_blk q3 2).trans rfl
    have c3 : U2.cell? ⟨w.heap.size, 3, none⟩ = some (.int .i64 S.fold) := (cell_blk q3 3).trans rfl
    have y85 : U2.cell? ⟨g8, 5, none⟩ = some (.slice a5 ((i, vl) :: st.given).length n5) := (cell_blk hV8 5).trans rfl
    have y88 : U2.cell? ⟨g8, 8, none⟩ = some (.slice ca2 (chL (fun j => st.given.any fun g => g.1 == j) S.flags.length).length cc2) := (cell_blk hV8 8).trans rfl
    obtain ⟨_, r21, r22, r23, _⟩ := own_full ho5
    have hCG := HCH.out U2 HB.out a5 n5 ((i, vl) :: st.given) r21 r22 (by have := hga.1; simp; omega)
    rw [← HC1.out] at hCG
    have HCG := Lib.hid hCG
    clear hCG
    go_upto_region 10 with ((with_reducible go_at_call 21); (with_reducible refine Calls.mono (HCG.out) ?_); rintro e w6 ⟨v6, rfl, ho6, hb6⟩; obtain ⟨a6, n6, rfl, ho6⟩ := ho6; have y88 := cell_kept hb6 y88; have z88 := free_blk (block_kept hV8 hb6); have l88 := lt_of_block (block_kept hV8 hb6))
    have hV7 := (blk_other (a := ⟨g8, 8, none⟩) (v := .slice a6 C1.length n6) (Ne.symm hne)).trans (block_kept hV7 hb6)
    have hV8' := block_kept hV8 hb6
    have hrow1 := (hrow1.below hb6).blk (w' := w6.setCell ⟨g8, 8, none⟩ (.slice a6 C1.length n6)) g8 hV8' (by decide) (by decide) (by decide) (fun b _ ne => blk_other ne)
    have hrow2 := (hrow2.below hb6).blk (w' := w6.setCell ⟨g8, 8, none⟩ (.slice a6 C1.length n6)) g8 hV8' (by decide) (by decide) (by decide) (fun b _ ne => blk_other ne)
    have ho5' := own_kept ho5 hb6
    have ho5 := own_of_blk (w' := w6.setCell ⟨g8, 8, none⟩ (.slice a6 C1.length n6)) ho5' (fun g hg => blk_other (fun e => by subst e; exact own_far3 ho5' hV8' (by decide) hg))
    have ho6 := own_of_blk (w' := w6.setCell ⟨g8, 8, none⟩ (.slice a6 C1.length n6)) ho6 (fun g hg => blk_other (fun e => by subst e; exact own_far3 ho6 hV8' (by decide) hg))
    have hV8 := blk_set hV8' 8 (.slice a6 C1.length n6)
    have HB := Lib.hid ((HB.out.trans (hb6.mono HB.out.size)).setCell (p := ⟨g8, 8, none⟩) (Nat.le_of_lt hB8) (.slice a6 C1.length n6))
    generalize w6.setCell ⟨g8, 8, none⟩ (.slice a6 C1.length n6) = U3 at hV7 hV8 hrow1 hrow2 ho5 ho6 HB ⊢
    clear y85 y88 z88 l88 hb6 HCG HCH hV8' ho5' r21 r22 r23 q3 c0 c1 c2 c3
    have hV8 : U3.heap[g8]? = some (.cells #[.int .i64 (eNo st.err), .string (mkT (eName st.err)), .string (mkT (eShort st.err)), .string (mkT (eVal st.err)), .int .i64 (eFlag st.err), .slice a5 ((i, vl) :: st.given).length n5, .slice ta2 st.args.length tc2, .int .i64 st.dash, .slice a6 C1.length n6, .bool true, .bool false] 32 (0, 0)) := hV8
    have y89 : U3.cell? ⟨g8, 9, none⟩ = some (.bool true) := (cell_blk hV8 9).trans rfl
    have z89 := free_blk hV8
    have l89 := lt_of_block hV8
    go_upto_region 11 with fail
    have hV7 := (blk_other (a := ⟨g8, 9, none⟩) (v := .bool true) (Ne.symm hne)).trans hV7
    have hrow1 := hrow1.blk (w' := U3.setCell ⟨g8, 9, none⟩ (.bool true)) g8 hV8 (by decide) (by decide) (by decide) (fun b _ ne => blk_other ne)
    have hrow2 := hrow2.blk (w' := U3.setCell ⟨g8, 9, none⟩ (.bool true)) g8 hV8 (by decide) (by decide) (by decide) (fun b _ ne => blk_other ne)
    have ho5 := own_of_blk (w' := U3.setCell ⟨g8, 9, none⟩ (.bool true)) ho5 (fun g hg => blk_other (fun e => by subst e; exact own_far3 ho5 hV8 (by decide) hg))
    have ho6 := own_of_blk (w' := U3.setCell ⟨g8, 9, none⟩ (.bool true)) ho6 (fun g hg => blk_other (fun e => by subst e; exact own_far3 ho6 hV8 (by decide) hg))
    have hV8 := blk_set hV8 9 (.bool true)
    have HB := Lib.hid (HB.out.setCell (p := ⟨g8, 9, none⟩) (Nat.le_of_lt hB8) (.bool true))
    generalize U3.setCell ⟨g8, 9, none⟩ (.bool true) = U4 at hV7 hV8 hrow1 hrow2 ho5 ho6 HB ⊢
    clear y89 z89 l89
    have hV8 : U4.heap[g8]? = some (.cells #[.int .i64 (eNo st.err), .string (mkT (eName st.err)), .string (mkT (eShort st.err)), .string (mkT (eVal st.err)), .int .i64 (eFlag st.err), .slice a5 ((i, vl) :: st.given).length n5, .slice ta2 st.args.length tc2, .int .i64 st.dash, .slice a6 C1.length n6, .bool true, .bool false] 32 (0, 0)) := hV8
    have ya0 : U4.cell? ⟨g7, 0, none⟩ = some (.int .i64 (eNo st.err)) := (cell_blk hV7 0).trans rfl
    have ya1 : U4.cell? ⟨g7, 1, none⟩ = some (.string (mkT (eName st.err))) := (cell_blk hV7 1).trans rfl
    have ya2 : U4.cell? ⟨g7, 2, none⟩ = some (.string (mkT (eShort st.err))) := (cell_blk hV7 2).trans rfl
    have ya3 : U4.cell? ⟨g7, 3, none⟩ = some (.string (mkT (eVal st.err))) := (cell_blk hV7 3).trans rfl
    have ya4 : U4.cell? ⟨g7, 4, none⟩ = some (.int .i64 (eFlag st.err)) := (cell_blk hV7 4).trans rfl
    have ya5 : U4.cell? ⟨g7, 5, none⟩ = some (.slice ga ((i, vl) :: st.given).length gc) := (cell_blk hV7 5).trans rfl
    have ya6 : U4.cell? ⟨g7, 6, none⟩ = some (.slice ta st.args.length tc) := (cell_blk hV7 6).trans rfl
    have ya7 : U4.cell? ⟨g7, 7, none⟩ = some (.int .i64 st.dash) := (cell_blk hV7 7).trans rfl
    have ya8 : U4.cell? ⟨g7, 8, none⟩ = some (.slice ca C1.length cc) := (cell_blk hV7 8).trans rfl
    have ya9 : U4.cell? ⟨g7, 9, none⟩ = some (.bool true) := (cell_blk hV7 9).trans rfl
    have ya10 : U4.cell? ⟨g7, 10, none⟩ = some (.bool false) := (cell_blk hV7 10).trans rfl
    have yb0 : U4.cell? ⟨g8, 0, none⟩ = some (.int .i64 (eNo st.err)) := (cell_blk hV8 0).trans rfl
    have yb1 : U4.cell? ⟨g8, 1, none⟩ = some (.string (mkT (eName st.err))) := (cell_blk hV8 1).trans rfl
    have yb2 : U4.cell? ⟨g8, 2, none⟩ = some (.string (mkT (eShort st.err))) := (cell_blk hV8 2).trans rfl
    have yb3 : U4.cell? ⟨g8, 3, none⟩ = some (.string (mkT (eVal st.err))) := (cell_blk hV8 3).trans rfl
    have yb4 : U4.cell? ⟨g8, 4, none⟩ = some (.int .i64 (eFlag st.err)) := (cell_blk hV8 4).trans rfl
    have yb5 : U4.cell? ⟨g8, 5, none⟩ = some (.slice a5 ((i, vl) :: st.given).length n5) := (cell_blk hV8 5).trans rfl
    have yb6 : U4.cell? ⟨g8, 6, none⟩ = some (.slice ta2 st.args.length tc2) := (cell_blk hV8 6).trans rfl
    have yb7 : U4.cell? ⟨g8, 7, none⟩ = some (.int .i64 st.dash) := (cell_blk hV8 7).trans rfl
    have yb8 : U4.cell? ⟨g8, 8, none⟩ = some (.slice a6 C1.length n6) := (cell_blk hV8 8).trans rfl
    have yb9 : U4.cell? ⟨g8, 9, none⟩ = some (.bool true) := (cell_blk hV8 9).trans rfl
    have yb10 : U4.cell? ⟨g8, 10, none⟩ = some (.bool false) := (cell_blk hV8 10).trans rfl
    have HSM : Hid (Calls Try.prog 22 #[.agg #[.int .i64 (eNo st.err), .string (mkT (eName st.err)), .string (mkT (eShort st.err)), .string (mkT (eVal st.err)), .int .i64 (eFlag st.err), .slice ga ((i, vl) :: st.given).length gc, .slice ta st.args.length tc, .int .i64 st.dash, .slice ca C1.length cc, .bool true, .bool false], .agg #[.int .i64 (eNo st.err), .string (mkT (eName st.err)), .string (mkT (eShort st.err)), .string (mkT (eVal st.err)), .int .i64 (eFlag st.err), .slice a5 ((i, vl) :: st.given).length n5, .slice ta2 st.args.length tc2, .int .i64 st.dash, .slice a6 C1.length n6, .bool true, .bool false]] U4 fun e w' => e = .returned (.bool true) ∧ Below U4.heap.size U4 w') := Lib.hid (by
      have hC1 := HC1.out
      subst hC1
      have hr2 : HdRows 0 U4 (psOf none true { st with given := [(i, vl)] ++ st.given }) S.flags.length (.slice a5 ((i, vl) :: st.given).length n5) (.slice ta2 st.args.length tc2) (.slice a6 (chL (fun j => ((i, vl) :: st.given).any fun g => g.1 == j) S.flags.length).length n6) := ⟨ho5, hrow2.2.1, ho6⟩
      have k1 : HeardOwn U4 (psOf none true { st with given := [(i, vl)] ++ st.given }) st.err S.flags.length (.agg #[.int .i64 (eNo st.err), .string (mkT (eName st.err)), .string (mkT (eShort st.err)), .string (mkT (eVal st.err)), .int .i64 (eFlag st.err), .slice ga ((i, vl) :: st.given).length gc, .slice ta st.args.length tc, .int .i64 st.dash, .slice ca (chL (fun j => ((i, vl) :: st.given).any fun g => g.1 == j) S.flags.length).length cc, .bool true, .bool false]) := ⟨ga, gc, ta, tc, ca, cc, rfl, hrow1⟩
      have k2 : HeardOwn U4 (psOf none true { st with given := [(i, vl)] ++ st.given }) st.err S.flags.length (.agg #[.int .i64 (eNo st.err), .string (mkT (eName st.err)), .string (mkT (eShort st.err)), .string (mkT (eVal st.err)), .int .i64 (eFlag st.err), .slice a5 ((i, vl) :: st.given).length n5, .slice ta2 st.args.length tc2, .int .i64 st.dash, .slice a6 (chL (fun j => ((i, vl) :: st.given).any fun g => g.1 == j) S.flags.length).length n6, .bool true, .bool false]) := ⟨a5, n5, ta2, tc2, a6, n6, rfl, hr2⟩
      have e1 : (psOf none true { st with given := [(i, vl)] ++ st.given }).G.length = st.given.length + 1 := rfl
      have e2 : (psOf none true { st with given := [(i, vl)] ++ st.given }).A.length = st.args.length := rfl
      exact same_c k1.is k2.is (by rw [e1]; have := hga.1; omega) (by rw [e2]; have := hga.2; omega) hnum)
    clear hV7 hV8 hrow1 hrow2 ho5 ho6
    go_wp2_with ((with_reducible go_at_call 22); (with_reducible refine Calls.mono (HSM.out) ?_); rintro e w9 ⟨rfl, hb9⟩)
    go_ret
    exact yesEnd rfl (HB.out.trans (hb9.mono HB.out.size))
end Go.Proofs.Ytgmhhdpggnmipaa.E
