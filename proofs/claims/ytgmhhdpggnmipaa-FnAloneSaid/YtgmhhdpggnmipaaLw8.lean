/- laws.FnAlone over this seat's program. Written by gen_lw8.py. -/
import Derived.Test.YtgmhhdpggnmipaaLw7
namespace Go.Proofs.Ytgmhhdpggnmipaa.E
open Go.RowKit Go.Proofs
set_option linter.unusedVariables false
set_option linter.unusedSimpArgs false

set_option maxRecDepth 100000 in
set_option maxHeartbeats 6400000 in
theorem alone_1 {w : World} {A : Option Addr} {F : List FlagP} (hA : FlagsAt w A F) {cap : Nat} (hc : F.length ≤ cap) (hm : cap ≤ 9223372036854775807) (pl un : Bool) (k : Int) (j : Int) {vb : Value} {M : List Txt} (hvb : TextIn w vb (M.map mkT)) (h1 : fits20 (F.map ofFlag) = false) :
    Calls Try.prog 4 #[.agg #[.slice A F.length cap, .bool pl, .bool un, .int .i64 k], .int .i64 j, vb] w (YesEnd w) := by
  have H19 := Lib.hid (says19 hA hc hm pl un k h1)
  obtain ⟨vb0, vbn, vbc, hvbe⟩ := hvb.slice
  have HLV := Lib.hid (saysL w)
  clear hvb
  subst hvbe
  go_enter Try.func4, Try.ntmps4
  go_upto_region 1 with fail
  generalize hWX : w.alloc _ = WX
  have HB : Hid (Below w.heap.size w WX) := Lib.hid (by rw [← hWX]; exact (Below.refl _ _).alloc (Nat.le_refl _) _)
  have q3 : WX.heap[w.heap.size]? = some (.cells #[.slice A F.length cap, .bool pl, .bool un, .int .i64 k] 24 (0, 0)) := by rw [← hWX]; exact heap_alloc_new w _
  clear hWX
  have c0 : WX.cell? ⟨w.heap.size, 0, none⟩ = some (.slice A F.length cap) := (cell_blk q3 0).trans rfl
  have c1 : WX.cell? ⟨w.heap.size, 1, none⟩ = some (.bool pl) := (cell_blk q3 1).trans rfl
  have c2 : WX.cell? ⟨w.heap.size, 2, none⟩ = some (.bool un) := (cell_blk q3 2).trans rfl
  have c3 : WX.cell? ⟨w.heap.size, 3, none⟩ = some (.int .i64 k) := (cell_blk q3 3).trans rfl
  go_wp2_with (first | ((with_reducible go_at_call 14); (with_reducible refine Calls.mono (H19.out _ HB.out) ?_); rintro e w3 ⟨rfl, hb3⟩; have q3 := block_kept q3 hb3; have c0 := cell_kept hb3 c0; have c1 := cell_kept hb3 c1; have c2 := cell_kept hb3 c2; have c3 := cell_kept hb3 c3; have HB := Lib.hid (HB.out.trans (hb3.mono HB.out.size)); clear hb3) | ((with_reducible go_at_call 15); (with_reducible refine Calls.mono (H2.out _ HB.out) ?_); rintro e w3 ⟨rfl, hb3⟩; have q3 := block_kept q3 hb3; have c0 := cell_kept hb3 c0; have c1 := cell_kept hb3 c1; have c2 := cell_kept hb3 c2; have c3 := cell_kept hb3 c3; have HB := Lib.hid (HB.out.trans (hb3.mono HB.out.size)); clear hb3) | ((with_reducible go_at_call 16); (with_reducible refine Calls.mono (HRT.out _ HB.out) ?_); rintro e w3 ⟨rfl, hb3⟩; have q3 := block_kept q3 hb3; have c0 := cell_kept hb3 c0; have c1 := cell_kept hb3 c1; have c2 := cell_kept hb3 c2; have c3 := cell_kept hb3 c3; have HB := Lib.hid (HB.out.trans (hb3.mono HB.out.size)); clear hb3) | ((with_reducible go_at_call 24); (with_reducible refine Calls.mono (HFG.out _ HB.out) ?_); rintro e w3 ⟨rfl, hb3⟩; have q3 := block_kept q3 hb3; have c0 := cell_kept hb3 c0; have c1 := cell_kept hb3 c1; have c2 := cell_kept hb3 c2; have c3 := cell_kept hb3 c3; have HB := Lib.hid (HB.out.trans (hb3.mono HB.out.size)); clear hb3) | ((with_reducible go_at_call 17); (with_reducible refine Calls.mono (HF14.out _ HB.out) ?_); rintro e w3 ⟨rfl, hb3⟩; have q3 := block_kept q3 hb3; have c0 := cell_kept hb3 c0; have c1 := cell_kept hb3 c1; have c2 := cell_kept hb3 c2; have c3 := cell_kept hb3 c3; have HB := Lib.hid (HB.out.trans (hb3.mono HB.out.size)); clear hb3) | ((with_reducible go_at_call 25); (with_reducible refine Calls.mono (HLV.out _ HB.out) ?_); rintro e w3 ⟨rfl, hb3⟩; have q3 := block_kept q3 hb3; have c0 := cell_kept hb3 c0; have c1 := cell_kept hb3 c1; have c2 := cell_kept hb3 c2; have c3 := cell_kept hb3 c3; have HB := Lib.hid (HB.out.trans (hb3.mono HB.out.size)); clear hb3))
  go_ret
  exact yesEnd rfl HB.out

set_option maxRecDepth 100000 in
set_option maxHeartbeats 6400000 in
theorem alone_2 {w : World} {A : Option Addr} {F : List FlagP} (hA : FlagsAt w A F) {cap : Nat} (hc : F.length ≤ cap) (hm : cap ≤ 9223372036854775807) (pl un : Bool) (k : Int) (j : Int) {vb : Value} {M : List Txt} (hvb : TextIn w vb (M.map mkT)) (h1 : fits20 (F.map ofFlag) = true) (h2 : fits2 (M.map mkT) = false) :
    Calls Try.prog 4 #[.agg #[.slice A F.length cap, .bool pl, .bool un, .int .i64 k], .int .i64 j, vb] w (YesEnd w) := by
  have H19 := Lib.hid (says19 hA hc hm pl un k h1)
  have H2 := Lib.hid (says2 hvb h2)
  obtain ⟨vb0, vbn, vbc, hvbe⟩ := hvb.slice
  have HLV := Lib.hid (saysL w)
  clear hvb
  subst hvbe
  go_enter Try.func4, Try.ntmps4
  go_upto_region 1 with fail
  generalize hWX : w.alloc _ = WX
  have HB : Hid (Below w.heap.size w WX) := Lib.hid (by rw [← hWX]; exact (Below.refl _ _).alloc (Nat.le_refl _) _)
  have q3 : WX.heap[w.heap.size]? = some (.cells #[.slice A F.length cap, .bool pl, .bool un, .int .i64 k] 24 (0, 0)) := by rw [← hWX]; exact heap_alloc_new w _
  clear hWX
  have c0 : WX.cell? ⟨w.heap.size, 0, none⟩ = some (.slice A F.length cap) := (cell_blk q3 0).trans rfl
  have c1 : WX.cell? ⟨w.heap.size, 1, none⟩ = some (.bool pl) := (cell_blk q3 1).trans rfl
  have c2 : WX.cell? ⟨w.heap.size, 2, none⟩ = some (.bool un) := (cell_blk q3 2).trans rfl
  have c3 : WX.cell? ⟨w.heap.size, 3, none⟩ = some (.int .i64 k) := (cell_blk q3 3).trans rfl
  go_wp2_with (first | ((with_reducible go_at_call 14); (with_reducible refine Calls.mono (H19.out _ HB.out) ?_); rintro e w3 ⟨rfl, hb3⟩; have q3 := block_kept q3 hb3; have c0 := cell_kept hb3 c0; have c1 := cell_kept hb3 c1; have c2 := cell_kept hb3 c2; have c3 := cell_kept hb3 c3; have HB := Lib.hid (HB.out.trans (hb3.mono HB.out.size)); clear hb3) | ((with_reducible go_at_call 15); (with_reducible refine Calls.mono (H2.out _ HB.out) ?_); rintro e w3 ⟨rfl, hb3⟩; have q3 := block_kept q3 hb3; have c0 := cell_kept hb3 c0; have c1 := cell_kept hb3 c1; have c2 := cell_kept hb3 c2; have c3 := cell_kept hb3 c3; have HB := Lib.hid (HB.out.trans (hb3.mono HB.out.size)); clear hb3) | ((with_reducible go_at_call 16); (with_reducible refine Calls.mono (HRT.out _ HB.out) ?_); rintro e w3 ⟨rfl, hb3⟩; have q3 := block_kept q3 hb3; have c0 := cell_kept hb3 c0; have c1 := cell_kept hb3 c1; have c2 := cell_kept hb3 c2; have c3 := cell_kept hb3 c3; have HB := Lib.hid (HB.out.trans (hb3.mono HB.out.size)); clear hb3) | ((with_reducible go_at_call 24); (with_reducible refine Calls.mono (HFG.out _ HB.out) ?_); rintro e w3 ⟨rfl, hb3⟩; have q3 := block_kept q3 hb3; have c0 := cell_kept hb3 c0; have c1 := cell_kept hb3 c1; have c2 := cell_kept hb3 c2; have c3 := cell_kept hb3 c3; have HB := Lib.hid (HB.out.trans (hb3.mono HB.out.size)); clear hb3) | ((with_reducible go_at_call 17); (with_reducible refine Calls.mono (HF14.out _ HB.out) ?_); rintro e w3 ⟨rfl, hb3⟩; have q3 := block_kept q3 hb3; have c0 := cell_kept hb3 c0; have c1 := cell_kept hb3 c1; have c2 := cell_kept hb3 c2; have c3 := cell_kept hb3 c3; have HB := Lib.hid (HB.out.trans (hb3.mono HB.out.size)); clear hb3) | ((with_reducible go_at_call 25); (with_reducible refine Calls.mono (HLV.out _ HB.out) ?_); rintro e w3 ⟨rfl, hb3⟩; have q3 := block_kept q3 hb3; have c0 := cell_kept hb3 c0; have c1 := cell_kept hb3 c1; have c2 := cell_kept hb3 c2; have c3 := cell_kept hb3 c3; have HB := Lib.hid (HB.out.trans (hb3.mono HB.out.size)); clear hb3))
  go_ret
  exact yesEnd rfl HB.out

set_option maxRecDepth 100000 in
set_option maxHeartbeats 6400000 in
theorem alone_3 {w : World} {A : Option Addr} {F : List FlagP} (hA : FlagsAt w A F) {cap : Nat} (hc : F.length ≤ cap) (hm : cap ≤ 9223372036854775807) (pl un : Bool) (k : Int) (j : Int) {vb : Value} {M : List Txt} (hvb : TextIn w vb (M.map mkT)) (h1 : fits20 (F.map ofFlag) = true) (h2 : fits2 (M.map mkT) = true) (h3 : RightK F k = false) :
    Calls Try.prog 4 #[.agg #[.slice A F.length cap, .bool pl, .bool un, .int .i64 k], .int .i64 j, vb] w (YesEnd w) := by
  have H19 := Lib.hid (says19 hA hc hm pl un k h1)
  have H2 := Lib.hid (says2 hvb h2)
  have HRT := Lib.hid (saysR hA cap pl un k h1 h3)
  obtain ⟨vb0, vbn, vbc, hvbe⟩ := hvb.slice
  have HLV := Lib.hid (saysL w)
  clear hvb
  subst hvbe
  go_enter Try.func4, Try.ntmps4
  go_upto_region 1 with fail
  generalize hWX : w.alloc _ = WX
  have HB : Hid (Below w.heap.size w WX) := Lib.hid (by rw [← hWX]; exact (Below.refl _ _).alloc (Nat.le_refl _) _)
  have q3 : WX.heap[w.heap.size]? = some (.cells #[.slice A F.length cap, .bool pl, .bool un, .int .i64 k] 24 (0, 0)) := by rw [← hWX]; exact heap_alloc_new w _
  clear hWX
  have c0 : WX.cell? ⟨w.heap.size, 0, none⟩ = some (.slice A F.length cap) := (cell_blk q3 0).trans rfl
  have c1 : WX.cell? ⟨w.heap.size, 1, none⟩ = some (.bool pl) := (cell_blk q3 1).trans rfl
  have c2 : WX.cell? ⟨w.heap.size, 2, none⟩ = some (.bool un) := (cell_blk q3 2).trans rfl
  have c3 : WX.cell? ⟨w.heap.size, 3, none⟩ = some (.int .i64 k) := (cell_blk q3 3).trans rfl
  go_wp2_with (first | ((with_reducible go_at_call 14); (with_reducible refine Calls.mono (H19.out _ HB.out) ?_); rintro e w3 ⟨rfl, hb3⟩; have q3 := block_kept q3 hb3; have c0 := cell_kept hb3 c0; have c1 := cell_kept hb3 c1; have c2 := cell_kept hb3 c2; have c3 := cell_kept hb3 c3; have HB := Lib.hid (HB.out.trans (hb3.mono HB.out.size)); clear hb3) | ((with_reducible go_at_call 15); (with_reducible refine Calls.mono (H2.out _ HB.out) ?_); rintro e w3 ⟨rfl, hb3⟩; have q3 := block_kept q3 hb3; have c0 := cell_kept hb3 c0; have c1 := cell_kept hb3 c1; have c2 := cell_kept hb3 c2; have c3 := cell_kept hb3 c3; have HB := Lib.hid (HB.out.trans (hb3.mono HB.out.size)); clear hb3) | ((with_reducible go_at_call 16); (with_reducible refine Calls.mono (HRT.out _ HB.out) ?_); rintro e w3 ⟨rfl, hb3⟩; have q3 := block_kept q3 hb3; have c0 := cell_kept hb3 c0; have c1 := cell_kept hb3 c1; have c2 := cell_kept hb3 c2; have c3 := cell_kept hb3 c3; have HB := Lib.hid (HB.out.trans (hb3.mono HB.out.size)); clear hb3) | ((with_reducible go_at_call 24); (with_reducible refine Calls.mono (HFG.out _ HB.out) ?_); rintro e w3 ⟨rfl, hb3⟩; have q3 := block_kept q3 hb3; have c0 := cell_kept hb3 c0; have c1 := cell_kept hb3 c1; have c2 := cell_kept hb3 c2; have c3 := cell_kept hb3 c3; have HB := Lib.hid (HB.out.trans (hb3.mono HB.out.size)); clear hb3) | ((with_reducible go_at_call 17); (with_reducible refine Calls.mono (HF14.out _ HB.out) ?_); rintro e w3 ⟨rfl, hb3⟩; have q3 := block_kept q3 hb3; have c0 := cell_kept hb3 c0; have c1 := cell_kept hb3 c1; have c2 := cell_kept hb3 c2; have c3 := cell_kept hb3 c3; have HB := Lib.hid (HB.out.trans (hb3.mono HB.out.size)); clear hb3) | ((with_reducible go_at_call 25); (with_reducible refine Calls.mono (HLV.out _ HB.out) ?_); rintro e w3 ⟨rfl, hb3⟩; have q3 := block_kept q3 hb3; have c0 := cell_kept hb3 c0; have c1 := cell_kept hb3 c1; have c2 := cell_kept hb3 c2; have c3 := cell_kept hb3 c3; have HB := Lib.hid (HB.out.trans (hb3.mono HB.out.size)); clear hb3))
  go_ret
  exact yesEnd rfl HB.out

set_option maxRecDepth 100000 in
set_option maxHeartbeats 6400000 in
theorem alone_4 {w : World} {A : Option Addr} {F : List FlagP} (hA : FlagsAt w A F) {cap : Nat} (hc : F.length ≤ cap) (hm : cap ≤ 9223372036854775807) (pl un : Bool) (k : Int) {vb : Value} {M : List Txt} (hvb : TextIn w vb (M.map mkT)) (h1 : fits20 (F.map ofFlag) = true) (h2 : fits2 (M.map mkT) = true) (h3 : RightK F k = true) (j : Int) (h4 : decide (0 ≤ j ∧ j < (F.length : Int)) = false) :
    Calls Try.prog 4 #[.agg #[.slice A F.length cap, .bool pl, .bool un, .int .i64 k], .int .i64 j, vb] w (YesEnd w) := by
  have H19 := Lib.hid (says19 hA hc hm pl un k h1)
  have H2 := Lib.hid (says2 hvb h2)
  have HRT := Lib.hid (saysR hA cap pl un k h1 h3)
  have HFG := Lib.hid (saysF (w := w) A F.length cap pl un k h4)
  obtain ⟨vb0, vbn, vbc, hvbe⟩ := hvb.slice
  have HLV := Lib.hid (saysL w)
  clear hvb
  subst hvbe
  go_enter Try.func4, Try.ntmps4
  go_upto_region 1 with fail
  generalize hWX : w.alloc _ = WX
  have HB : Hid (Below w.heap.size w WX) := Lib.hid (by rw [← hWX]; exact (Below.refl _ _).alloc (Nat.le_refl _) _)
  have q3 : WX.heap[w.heap.size]? = some (.cells #[.slice A F.length cap, .bool pl, .bool un, .int .i64 k] 24 (0, 0)) := by rw [← hWX]; exact heap_alloc_new w _
  clear hWX
  have c0 : WX.cell? ⟨w.heap.size, 0, none⟩ = some (.slice A F.length cap) := (cell_blk q3 0).trans rfl
  have c1 : WX.cell? ⟨w.heap.size, 1, none⟩ = some (.bool pl) := (cell_blk q3 1).trans rfl
  have c2 : WX.cell? ⟨w.heap.size, 2, none⟩ = some (.bool un) := (cell_blk q3 2).trans rfl
  have c3 : WX.cell? ⟨w.heap.size, 3, none⟩ = some (.int .i64 k) := (cell_blk q3 3).trans rfl
  go_wp2_with (first | ((with_reducible go_at_call 14); (with_reducible refine Calls.mono (H19.out _ HB.out) ?_); rintro e w3 ⟨rfl, hb3⟩; have q3 := block_kept q3 hb3; have c0 := cell_kept hb3 c0; have c1 := cell_kept hb3 c1; have c2 := cell_kept hb3 c2; have c3 := cell_kept hb3 c3; have HB := Lib.hid (HB.out.trans (hb3.mono HB.out.size)); clear hb3) | ((with_reducible go_at_call 15); (with_reducible refine Calls.mono (H2.out _ HB.out) ?_); rintro e w3 ⟨rfl, hb3⟩; have q3 := block_kept q3 hb3; have c0 := cell_kept hb3 c0; have c1 := cell_kept hb3 c1; have c2 := cell_kept hb3 c2; have c3 := cell_kept hb3 c3; have HB := Lib.hid (HB.out.trans (hb3.mono HB.out.size)); clear hb3) | ((with_reducible go_at_call 16); (with_reducible refine Calls.mono (HRT.out _ HB.out) ?_); rintro e w3 ⟨rfl, hb3⟩; have q3 := block_kept q3 hb3; have c0 := cell_kept hb3 c0; have c1 := cell_kept hb3 c1; have c2 := cell_kept hb3 c2; have c3 := cell_kept hb3 c3; have HB := Lib.hid (HB.out.trans (hb3.mono HB.out.size)); clear hb3) | ((with_reducible go_at_call 24); (with_reducible refine Calls.mono (HFG.out _ HB.out) ?_); rintro e w3 ⟨rfl, hb3⟩; have q3 := block_kept q3 hb3; have c0 := cell_kept hb3 c0; have c1 := cell_kept hb3 c1; have c2 := cell_kept hb3 c2; have c3 := cell_kept hb3 c3; have HB := Lib.hid (HB.out.trans (hb3.mono HB.out.size)); clear hb3) | ((with_reducible go_at_call 17); (with_reducible refine Calls.mono (HF14.out _ HB.out) ?_); rintro e w3 ⟨rfl, hb3⟩; have q3 := block_kept q3 hb3; have c0 := cell_kept hb3 c0; have c1 := cell_kept hb3 c1; have c2 := cell_kept hb3 c2; have c3 := cell_kept hb3 c3; have HB := Lib.hid (HB.out.trans (hb3.mono HB.out.size)); clear hb3) | ((with_reducible go_at_call 25); (with_reducible refine Calls.mono (HLV.out _ HB.out) ?_); rintro e w3 ⟨rfl, hb3⟩; have q3 := block_kept q3 hb3; have c0 := cell_kept hb3 c0; have c1 := cell_kept hb3 c1; have c2 := cell_kept hb3 c2; have c3 := cell_kept hb3 c3; have HB := Lib.hid (HB.out.trans (hb3.mono HB.out.size)); clear hb3))
  go_ret
  exact yesEnd rfl HB.out

set_option maxRecDepth 100000 in
set_option maxHeartbeats 6400000 in
theorem alone_5 {w : World} {A : Option Addr} {F : List FlagP} (hA : FlagsAt w A F) {cap : Nat} (hc : F.length ≤ cap) (hm : cap ≤ 9223372036854775807) (pl un : Bool) (k : Int) {vb : Value} {M : List Txt} (hvb : TextIn w vb (M.map mkT)) (h1 : fits20 (F.map ofFlag) = true) (h2 : fits2 (M.map mkT) = true) (h3 : RightK F k = true) (i : Nat) (hi : i < F.length) (h5 : F[i].noOpt = []) :
    Calls Try.prog 4 #[.agg #[.slice A F.length cap, .bool pl, .bool un, .int .i64 k], .int .i64 (i : Int), vb] w (YesEnd w) := by
  obtain ⟨fb, fo, fv, rfl, f0, f1, f2, -⟩ := hA i hi
  have hiN : (i : Int) < (F.length : Int) := by omega
  have H19 := Lib.hid (says19 hA hc hm pl un k h1)
  have H2 := Lib.hid (says2 hvb h2)
  have HRT := Lib.hid (saysR hA cap pl un k h1 h3)
  have HFG := Lib.hid (saysF (w := w) (some ⟨fb, fo, none⟩) F.length cap pl un k (j := (i : Int)) (decide_eq_true ⟨by omega, hiN⟩))
  obtain ⟨vb0, vbn, vbc, hvbe⟩ := hvb.slice
  have HLV := Lib.hid (saysL w)
  clear hvb
  subst hvbe
  rw [h5] at f2
  have f2 : w.cell? ⟨fb, fo + i * 4 + 2, none⟩ = some (.string ⟨#[]⟩) := f2
  clear h5
  clear hA h1 h2 h3
  generalize hFi : F[i] = fl at f0 f1 f2 
  clear hFi
  go_enter Try.func4, Try.ntmps4
  go_upto_region 1 with fail
  generalize hWX : w.alloc _ = WX
  have HB : Hid (Below w.heap.size w WX) := Lib.hid (by rw [← hWX]; exact (Below.refl _ _).alloc (Nat.le_refl _) _)
  have q3 : WX.heap[w.heap.size]? = some (.cells #[.slice (some ⟨fb, fo, none⟩) F.length cap, .bool pl, .bool un, .int .i64 k] 24 (0, 0)) := by rw [← hWX]; exact heap_alloc_new w _
  clear hWX
  have c0 : WX.cell? ⟨w.heap.size, 0, none⟩ = some (.slice (some ⟨fb, fo, none⟩) F.length cap) := (cell_blk q3 0).trans rfl
  have c1 : WX.cell? ⟨w.heap.size, 1, none⟩ = some (.bool pl) := (cell_blk q3 1).trans rfl
  have c2 : WX.cell? ⟨w.heap.size, 2, none⟩ = some (.bool un) := (cell_blk q3 2).trans rfl
  have c3 : WX.cell? ⟨w.heap.size, 3, none⟩ = some (.int .i64 k) := (cell_blk q3 3).trans rfl
  have e0 := cell_kept HB.out f0
  have e1 := cell_kept HB.out f1
  have e2 := cell_kept HB.out f2
  go_wp2_with (first | ((with_reducible go_at_call 14); (with_reducible refine Calls.mono (H19.out _ HB.out) ?_); rintro e w3 ⟨rfl, hb3⟩; have q3 := block_kept q3 hb3; have c0 := cell_kept hb3 c0; have c1 := cell_kept hb3 c1; have c2 := cell_kept hb3 c2; have c3 := cell_kept hb3 c3; have e0 := cell_kept hb3 e0; have e1 := cell_kept hb3 e1; have e2 := cell_kept hb3 e2; have HB := Lib.hid (HB.out.trans (hb3.mono HB.out.size)); clear hb3) | ((with_reducible go_at_call 15); (with_reducible refine Calls.mono (H2.out _ HB.out) ?_); rintro e w3 ⟨rfl, hb3⟩; have q3 := block_kept q3 hb3; have c0 := cell_kept hb3 c0; have c1 := cell_kept hb3 c1; have c2 := cell_kept hb3 c2; have c3 := cell_kept hb3 c3; have e0 := cell_kept hb3 e0; have e1 := cell_kept hb3 e1; have e2 := cell_kept hb3 e2; have HB := Lib.hid (HB.out.trans (hb3.mono HB.out.size)); clear hb3) | ((with_reducible go_at_call 16); (with_reducible refine Calls.mono (HRT.out _ HB.out) ?_); rintro e w3 ⟨rfl, hb3⟩; have q3 := block_kept q3 hb3; have c0 := cell_kept hb3 c0; have c1 := cell_kept hb3 c1; have c2 := cell_kept hb3 c2; have c3 := cell_kept hb3 c3; have e0 := cell_kept hb3 e0; have e1 := cell_kept hb3 e1; have e2 := cell_kept hb3 e2; have HB := Lib.hid (HB.out.trans (hb3.mono HB.out.size)); clear hb3) | ((with_reducible go_at_call 24); (with_reducible refine Calls.mono (HFG.out _ HB.out) ?_); rintro e w3 ⟨rfl, hb3⟩; have q3 := block_kept q3 hb3; have c0 := cell_kept hb3 c0; have c1 := cell_kept hb3 c1; have c2 := cell_kept hb3 c2; have c3 := cell_kept hb3 c3; have e0 := cell_kept hb3 e0; have e1 := cell_kept hb3 e1; have e2 := cell_kept hb3 e2; have HB := Lib.hid (HB.out.trans (hb3.mono HB.out.size)); clear hb3) | ((with_reducible go_at_call 17); (with_reducible refine Calls.mono (HF14.out _ HB.out) ?_); rintro e w3 ⟨rfl, hb3⟩; have q3 := block_kept q3 hb3; have c0 := cell_kept hb3 c0; have c1 := cell_kept hb3 c1; have c2 := cell_kept hb3 c2; have c3 := cell_kept hb3 c3; have e0 := cell_kept hb3 e0; have e1 := cell_kept hb3 e1; have e2 := cell_kept hb3 e2; have HB := Lib.hid (HB.out.trans (hb3.mono HB.out.size)); clear hb3) | ((with_reducible go_at_call 25); (with_reducible refine Calls.mono (HLV.out _ HB.out) ?_); rintro e w3 ⟨rfl, hb3⟩; have q3 := block_kept q3 hb3; have c0 := cell_kept hb3 c0; have c1 := cell_kept hb3 c1; have c2 := cell_kept hb3 c2; have c3 := cell_kept hb3 c3; have e0 := cell_kept hb3 e0; have e1 := cell_kept hb3 e1; have e2 := cell_kept hb3 e2; have HB := Lib.hid (HB.out.trans (hb3.mono HB.out.size)); clear hb3))
  go_ret
  exact yesEnd rfl HB.out

set_option maxRecDepth 100000 in
set_option maxHeartbeats 6400000 in
theorem alone_6 {w : World} {A : Option Addr} {F : List FlagP} (hA : FlagsAt w A F) {cap : Nat} (hc : F.length ≤ cap) (hm : cap ≤ 9223372036854775807) (pl un : Bool) (k : Int) {vb : Value} {M : List Txt} (hvb : TextIn w vb (M.map mkT)) (h1 : fits20 (F.map ofFlag) = true) (h2 : fits2 (M.map mkT) = true) (h3 : RightK F k = true) (i : Nat) (hi : i < F.length) (h5 : F[i].noOpt ≠ []) (h6 : decide (wtBB [M.map mkT] ≤ 1048576) = false) :
    Calls Try.prog 4 #[.agg #[.slice A F.length cap, .bool pl, .bool un, .int .i64 k], .int .i64 (i : Int), vb] w (YesEnd w) := by
  obtain ⟨fb, fo, fv, rfl, f0, f1, f2, -⟩ := hA i hi
  have hiN : (i : Int) < (F.length : Int) := by omega
  have H19 := Lib.hid (says19 hA hc hm pl un k h1)
  have H2 := Lib.hid (says2 hvb h2)
  have HRT := Lib.hid (saysR hA cap pl un k h1 h3)
  have HFG := Lib.hid (saysF (w := w) (some ⟨fb, fo, none⟩) F.length cap pl un k (j := (i : Int)) (decide_eq_true ⟨by omega, hiN⟩))
  have HF14a := Lib.hid (fun (W : World) (hb : Below w.heap.size w W) (a : Option Addr) (n c : Nat) (hv : TextIn w (.slice a n c) (M.map mkT)) => fit14_1 hb hv h2 h6)
  obtain ⟨vb0, vbn, vbc, hvbe⟩ := hvb.slice
  have HLV := Lib.hid (saysL w)
  subst hvbe
  have po := mkT_pos h5
  have po1 := nonempty_list po
  have po2 := nonempty_not po
  have HF14 := Lib.hid (fun (W : World) (hb : Below w.heap.size w W) => HF14a.out W hb _ _ _ hvb)
  clear h5 h6 HF14a hvb
  clear hA h1 h2 h3
  generalize hFi : F[i] = fl at f0 f1 f2 po po1 po2
  clear hFi
  go_enter Try.func4, Try.ntmps4
  go_upto_region 1 with fail
  generalize hWX : w.alloc _ = WX
  have HB : Hid (Below w.heap.size w WX) := Lib.hid (by rw [← hWX]; exact (Below.refl _ _).alloc (Nat.le_refl _) _)
  have q3 : WX.heap[w.heap.size]? = some (.cells #[.slice (some ⟨fb, fo, none⟩) F.length cap, .bool pl, .bool un, .int .i64 k] 24 (0, 0)) := by rw [← hWX]; exact heap_alloc_new w _
  clear hWX
  have c0 : WX.cell? ⟨w.heap.size, 0, none⟩ = some (.slice (some ⟨fb, fo, none⟩) F.length cap) := (cell_blk q3 0).trans rfl
  have c1 : WX.cell? ⟨w.heap.size, 1, none⟩ = some (.bool pl) := (cell_blk q3 1).trans rfl
  have c2 : WX.cell? ⟨w.heap.size, 2, none⟩ = some (.bool un) := (cell_blk q3 2).trans rfl
  have c3 : WX.cell? ⟨w.heap.size, 3, none⟩ = some (.int .i64 k) := (cell_blk q3 3).trans rfl
  have e0 := cell_kept HB.out f0
  have e1 := cell_kept HB.out f1
  have e2 := cell_kept HB.out f2
  go_wp2_with (first | ((with_reducible go_at_call 14); (with_reducible refine Calls.mono (H19.out _ HB.out) ?_); rintro e w3 ⟨rfl, hb3⟩; have q3 := block_kept q3 hb3; have c0 := cell_kept hb3 c0; have c1 := cell_kept hb3 c1; have c2 := cell_kept hb3 c2; have c3 := cell_kept hb3 c3; have e0 := cell_kept hb3 e0; have e1 := cell_kept hb3 e1; have e2 := cell_kept hb3 e2; have HB := Lib.hid (HB.out.trans (hb3.mono HB.out.size)); clear hb3) | ((with_reducible go_at_call 15); (with_reducible refine Calls.mono (H2.out _ HB.out) ?_); rintro e w3 ⟨rfl, hb3⟩; have q3 := block_kept q3 hb3; have c0 := cell_kept hb3 c0; have c1 := cell_kept hb3 c1; have c2 := cell_kept hb3 c2; have c3 := cell_kept hb3 c3; have e0 := cell_kept hb3 e0; have e1 := cell_kept hb3 e1; have e2 := cell_kept hb3 e2; have HB := Lib.hid (HB.out.trans (hb3.mono HB.out.size)); clear hb3) | ((with_reducible go_at_call 16); (with_reducible refine Calls.mono (HRT.out _ HB.out) ?_); rintro e w3 ⟨rfl, hb3⟩; have q3 := block_kept q3 hb3; have c0 := cell_kept hb3 c0; have c1 := cell_kept hb3 c1; have c2 := cell_kept hb3 c2; have c3 := cell_kept hb3 c3; have e0 := cell_kept hb3 e0; have e1 := cell_kept hb3 e1; have e2 := cell_kept hb3 e2; have HB := Lib.hid (HB.out.trans (hb3.mono HB.out.size)); clear hb3) | ((with_reducible go_at_call 24); (with_reducible refine Calls.mono (HFG.out _ HB.out) ?_); rintro e w3 ⟨rfl, hb3⟩; have q3 := block_kept q3 hb3; have c0 := cell_kept hb3 c0; have c1 := cell_kept hb3 c1; have c2 := cell_kept hb3 c2; have c3 := cell_kept hb3 c3; have e0 := cell_kept hb3 e0; have e1 := cell_kept hb3 e1; have e2 := cell_kept hb3 e2; have HB := Lib.hid (HB.out.trans (hb3.mono HB.out.size)); clear hb3) | ((with_reducible go_at_call 17); (with_reducible refine Calls.mono (HF14.out _ HB.out) ?_); rintro e w3 ⟨rfl, hb3⟩; have q3 := block_kept q3 hb3; have c0 := cell_kept hb3 c0; have c1 := cell_kept hb3 c1; have c2 := cell_kept hb3 c2; have c3 := cell_kept hb3 c3; have e0 := cell_kept hb3 e0; have e1 := cell_kept hb3 e1; have e2 := cell_kept hb3 e2; have HB := Lib.hid (HB.out.trans (hb3.mono HB.out.size)); clear hb3) | ((with_reducible go_at_call 25); (with_reducible refine Calls.mono (HLV.out _ HB.out) ?_); rintro e w3 ⟨rfl, hb3⟩; have q3 := block_kept q3 hb3; have c0 := cell_kept hb3 c0; have c1 := cell_kept hb3 c1; have c2 := cell_kept hb3 c2; have c3 := cell_kept hb3 c3; have e0 := cell_kept hb3 e0; have e1 := cell_kept hb3 e1; have e2 := cell_kept hb3 e2; have HB := Lib.hid (HB.out.trans (hb3.mono HB.out.size)); clear hb3))
  go_ret
  exact yesEnd rfl HB.out

def A5 (sv : Value) (S : SetP) (bx : Nat) (fb : Nat) (fo : Nat) (cap : Nat) (i : Nat) (nm : Txt) (nv : Txt) (vb : Value) (M : List Txt) : Nat → Value → World → Prop
  | 0, v, _ => v = sv
  | 1, v, _ => v = .pointer (some ⟨bx, 0, none⟩)
  | 2, v, _ => v = .slice (some ⟨fb, fo, none⟩) S.flags.length cap
  | 3, v, _ => v = .int .i64 (i : Int)
  | 4, v, _ => v = .pointer (some ⟨fb, fo + i * 4, none⟩)
  | 5, v, _ => v = .pointer (some ⟨fb, fo + i * 4, none⟩)
  | 6, v, _ => v = .string (mkT (nm))
  | 7, v, _ => v = .string (mkT (([45, 45] ++ nm)))
  | 8, v, w => ∃ g, v = .slice (some ⟨g, 0, none⟩) 1 1 ∧ w.heap[g]? = some (.cells #[.string (mkT (([45, 45] ++ nm)))] 9 (0, 0))
  | 9, v, _ => v = vb
  | 10, v, w => ∃ g vs, v = .slice (some ⟨g, 0, none⟩) 2 2 ∧ RowsIn w g vs [[mkT (([45, 45] ++ nm))], M.map mkT]
  | 11, v, w => TextIn w v (((([45, 45] ++ nm) :: M)).map mkT)
  | 12, v, w => HeardOwn w (psOf none true (goes S none st0 ((([45, 45] ++ nm) :: M)))) (goes S none st0 ((([45, 45] ++ nm) :: M))).err S.flags.length v
  | 13, v, _ => v = sv
  | 14, v, _ => v = sv
  | 15, v, _ => v = .int .i64 (i : Int)
  | 16, v, _ => v = .pointer (some ⟨bx, 0, none⟩)
  | 17, v, _ => v = .slice (some ⟨fb, fo, none⟩) S.flags.length cap
  | 18, v, _ => v = .int .i64 (i : Int)
  | 19, v, _ => v = .pointer (some ⟨fb, fo + i * 4, none⟩)
  | 20, v, _ => v = .pointer (some ⟨fb, fo + i * 4 + 2, none⟩)
  | 21, v, _ => v = .string (mkT (nv))
  | 22, v, _ => v = .string (mkT (longT nm nv))
  | 23, v, w => ∃ g, v = .slice (some ⟨g, 0, none⟩) 1 1 ∧ w.heap[g]? = some (.cells #[.string (mkT (longT nm nv))] 9 (0, 0))
  | 24, v, _ => v = vb
  | 25, v, w => ∃ g vs, v = .slice (some ⟨g, 0, none⟩) 2 2 ∧ RowsIn w g vs [[mkT (longT nm nv)], M.map mkT]
  | 26, v, w => TextIn w v (((longT nm nv :: M)).map mkT)
  | 27, v, w => HeardOwn w (psOf none true (goes S none st0 ((longT nm nv :: M)))) (goes S none st0 ((longT nm nv :: M))).err S.flags.length v
  | 28, v, _ => v = .bool true
  | 29, v, _ => v = .bool true
  | 30, v, _ => v = .bool true
  | 31, v, _ => v = .bool true
  | 32, v, _ => v = .bool true
  | _, _, _ => True
theorem A5.below {sv : Value} {S : SetP} {bx : Nat} {fb : Nat} {fo : Nat} {cap : Nat} {i : Nat} {nm : Txt} {nv : Txt} {vb : Value} {M : List Txt} {ix : Nat} (hix : ix < 33) {v : Value} {w w' : World} (h : A5 sv S bx fb fo cap i nm nv vb M ix v w) (hb : Below w.heap.size w w') : A5 sv S bx fb fo cap i nm nv vb M ix v w' := by
  match ix, hix, h with
  | 0, _, h => exact h
  | 1, _, h => exact h
  | 2, _, h => exact h
  | 3, _, h => exact h
  | 4, _, h => exact h
  | 5, _, h => exact h
  | 6, _, h => exact h
  | 7, _, h => exact h
  | 8, _, h => obtain ⟨g, e, h⟩ := h; exact ⟨g, e, block_kept h hb⟩
  | 9, _, h => exact h
  | 10, _, h => obtain ⟨g, vs, e, h⟩ := h; exact ⟨g, vs, e, h.below hb⟩
  | 11, _, h => exact TextIn.below h hb
  | 12, _, h => exact HeardOwn.below h hb
  | 13, _, h => exact h
  | 14, _, h => exact h
  | 15, _, h => exact h
  | 16, _, h => exact h
  | 17, _, h => exact h
  | 18, _, h => exact h
  | 19, _, h => exact h
  | 20, _, h => exact h
  | 21, _, h => exact h
  | 22, _, h => exact h
  | 23, _, h => obtain ⟨g, e, h⟩ := h; exact ⟨g, e, block_kept h hb⟩
  | 24, _, h => exact h
  | 25, _, h => obtain ⟨g, vs, e, h⟩ := h; exact ⟨g, vs, e, h.below hb⟩
  | 26, _, h => exact TextIn.below h hb
  | 27, _, h => exact HeardOwn.below h hb
  | 28, _, h => exact h
  | 29, _, h => exact h
  | 30, _, h => exact h
  | 31, _, h => exact h
  | 32, _, h => exact h
  | k + 33, hi, _ => exact absurd hi (by omega)

set_option maxRecDepth 100000 in
set_option maxHeartbeats 6400000 in
/-- What fits answers true. -/
theorem alone_main {w : World} {A : Option Addr} {S : SetP} (hS : SetOK w A S) {cap : Nat} (hc : S.flags.length ≤ cap) (hm : cap ≤ 9223372036854775807) {vb : Value} {M : List Txt} (hvb : TextIn w vb (M.map mkT)) (h1 : fits20 (S.flags.map ofFlag) = true) (h2 : fits2 (M.map mkT) = true) (h3 : RightK S.flags S.fold = true)
    (i : Nat) (hi : i < S.flags.length) (h5 : S.flags[i].noOpt ≠ []) (h6 : wtBB [M.map mkT] ≤ 1048576) :
    Calls Try.prog 4 #[.agg #[.slice A S.flags.length cap, .bool S.plain, .bool S.unknown, .int .i64 S.fold], .int .i64 (i : Int), vb] w (YesEnd w) := by
  have hwt : wt M ≤ 1048576 := by
    simp only [wtBB, wt_map] at h6; omega
  have hwl := wt_len M
  have H19 := Lib.hid (says19 hS.flg hc hm S.plain S.unknown S.fold h1)
  have H2 := Lib.hid (says2 hvb h2)
  have HRT := Lib.hid (saysR hS.flg cap S.plain S.unknown S.fold h1 h3)
  have HLV := Lib.hid (saysL w)
  have hfz := (fits20_F h1).2 _ (List.getElem_mem hi)
  have hnum := hS.num
  have hEQ := law_alone hS.right hi h5 M (m := none) (st := st0)
  have HLG := Lib.hid (saysLong hS.flg cap S.plain S.unknown S.fold i hi S.flags[i].noOpt (by omega) hfz.1 (by omega))
  have HPC := Lib.hid (says_parse hS cap)
  obtain ⟨fb, fo, fv, rfl, f0, f1, f2, -⟩ := hS.flg i hi
  have hiN : i < S.flags.length := hi
  have hiI : (i : Int) < (S.flags.length : Int) := by omega
  have HFG := Lib.hid (saysF (some ⟨fb, fo, none⟩) S.flags.length cap S.plain S.unknown S.fold (w := w) (j := (i : Int)) (decide_eq_true ⟨by omega, hiI⟩))
  have po := mkT_pos h5
  have po1 := nonempty_list po
  have po2 := nonempty_not po
  have HVB := Lib.hid hvb
  obtain ⟨vb0, vbn, vbc, hvbe⟩ := hvb.slice
  clear hvb
  subst hvbe
  have HF14 := Lib.hid (fun (W : World) (hb : Below w.heap.size w W) => fit14_1 hb HVB.out h2 (decide_eq_true h6))
  clear hS h1 h2 h3 h5 h6
  generalize S.flags[i].name = nm at hEQ f0 hfz HLG
  generalize S.flags[i].noOpt = nv at hEQ f2 hfz HLG po po1 po2
  generalize S.flags[i].short = ns at f1 hfz
  have HEQ : Hid (goes S none st0 (([45, 45] ++ nm) :: M) = goes S none st0 (longT nm nv :: M)) := Lib.hid hEQ
  have hlong : (longT nm nv).length = nm.length + nv.length + 3 := by simp [longT]; omega
  have hw1 : wt (([45, 45] ++ nm) :: M) ≤ 1099511627776 := by
    have e : wt (([45, 45] ++ nm) :: M) = ([45, 45] ++ nm).length + 1 + wt M := rfl
    rw [e]; simp; omega
  have hw2 : wt (longT nm nv :: M) ≤ 1099511627776 := by
    have e : wt (longT nm nv :: M) = (longT nm nv).length + 1 + wt M := rfl
    rw [e, hlong]; omega
  have hl1 : ∀ t ∈ ([45, 45] ++ nm) :: M, t.length ≤ 8589934592 := by
    intro t ht
    rcases List.mem_cons.1 ht with h | h
    · rw [h]; simp; omega
    · have := wt_mem h; omega
  have hl2 : ∀ t ∈ longT nm nv :: M, t.length ≤ 8589934592 := by
    intro t ht
    rcases List.mem_cons.1 ht with h | h
    · rw [h, hlong]; omega
    · have := wt_mem h; omega
  have hflat1 : [[mkT ([45, 45] ++ nm)], M.map mkT].flatten.length < 8796093022208 := by simp; omega
  have hflat2 : [[mkT (longT nm nv)], M.map mkT].flatten.length < 8796093022208 := by simp; omega
  have hgo := goes_len S none st0 (([45, 45] ++ nm) :: M)
  have hg1 : (psOf none true (goes S none st0 (([45, 45] ++ nm) :: M))).G.length ≤ 1099511627776 := by
    have e : (psOf none true (goes S none st0 (([45, 45] ++ nm) :: M))).G.length = (goes S none st0 (([45, 45] ++ nm) :: M)).given.length := rfl
    rw [e]; have : st0.given.length = 0 := rfl; omega
  have hg2 : (psOf none true (goes S none st0 (([45, 45] ++ nm) :: M))).A.length ≤ 1099511627776 := by
    have e : (psOf none true (goes S none st0 (([45, 45] ++ nm) :: M))).A.length = (goes S none st0 (([45, 45] ++ nm) :: M)).args.length := rfl
    have e2 : (([45, 45] ++ nm) :: M).length = M.length + 1 := rfl
    rw [e]; have : st0.args.length = 0 := rfl; omega
  have hg3 : S.flags.length ≤ 2147483647 := hnum
  have HZ : Hid (nm.length ≤ 2147483647 ∧ nv.length ≤ 2147483647) := Lib.hid ⟨hfz.1, hfz.2.2⟩
  have HX := Lib.hid (And.intro hw1 (And.intro hw2 (And.intro hl1 (And.intro hl2 (And.intro hflat1 (And.intro hflat2 (And.intro hg1 (And.intro hg2 hg3))))))))
  clear hw1 hw2 hl1 hl2 hflat1 hflat2 hg1 hg2 hg3 hgo hlong hfz hwt hwl hnum hEQ hi
  go_enter Try.func4, Try.ntmps4
  go_upto_region 1 with fail
  generalize hWX : w.alloc _ = WX
  have HB : Hid (Below w.heap.size w WX) := Lib.hid (by rw [← hWX]; exact (Below.refl _ _).alloc (Nat.le_refl _) _)
  have q3 : WX.heap[w.heap.size]? = some (.cells #[.slice (some ⟨fb, fo, none⟩) S.flags.length cap, .bool S.plain, .bool S.unknown, .int .i64 S.fold] 24 (0, 0)) := by rw [← hWX]; exact heap_alloc_new w _
  clear hWX
  have c0 : WX.cell? ⟨w.heap.size, 0, none⟩ = some (.slice (some ⟨fb, fo, none⟩) S.flags.length cap) := (cell_blk q3 0).trans rfl
  have c1 : WX.cell? ⟨w.heap.size, 1, none⟩ = some (.bool S.plain) := (cell_blk q3 1).trans rfl
  have c2 : WX.cell? ⟨w.heap.size, 2, none⟩ = some (.bool S.unknown) := (cell_blk q3 2).trans rfl
  have c3 : WX.cell? ⟨w.heap.size, 3, none⟩ = some (.int .i64 S.fold) := (cell_blk q3 3).trans rfl
  have e0 := cell_kept HB.out f0
  have e1 := cell_kept HB.out f1
  have e2 := cell_kept HB.out f2
  clear f0 f1 f2
  go_upto_region 5 with (first | ((with_reducible go_at_call 14); (with_reducible refine Calls.mono (H19.out _ HB.out) ?_); rintro e w3 ⟨rfl, hb3⟩; have q3 := block_kept q3 hb3; have c0 := cell_kept hb3 c0; have c1 := cell_kept hb3 c1; have c2 := cell_kept hb3 c2; have c3 := cell_kept hb3 c3; have e0 := cell_kept hb3 e0; have e1 := cell_kept hb3 e1; have e2 := cell_kept hb3 e2; have HB := Lib.hid (HB.out.trans (hb3.mono HB.out.size)); clear hb3) | ((with_reducible go_at_call 15); (with_reducible refine Calls.mono (H2.out _ HB.out) ?_); rintro e w3 ⟨rfl, hb3⟩; have q3 := block_kept q3 hb3; have c0 := cell_kept hb3 c0; have c1 := cell_kept hb3 c1; have c2 := cell_kept hb3 c2; have c3 := cell_kept hb3 c3; have e0 := cell_kept hb3 e0; have e1 := cell_kept hb3 e1; have e2 := cell_kept hb3 e2; have HB := Lib.hid (HB.out.trans (hb3.mono HB.out.size)); clear hb3) | ((with_reducible go_at_call 16); (with_reducible refine Calls.mono (HRT.out _ HB.out) ?_); rintro e w3 ⟨rfl, hb3⟩; have q3 := block_kept q3 hb3; have c0 := cell_kept hb3 c0; have c1 := cell_kept hb3 c1; have c2 := cell_kept hb3 c2; have c3 := cell_kept hb3 c3; have e0 := cell_kept hb3 e0; have e1 := cell_kept hb3 e1; have e2 := cell_kept hb3 e2; have HB := Lib.hid (HB.out.trans (hb3.mono HB.out.size)); clear hb3) | ((with_reducible go_at_call 24); (with_reducible refine Calls.mono (HFG.out _ HB.out) ?_); rintro e w3 ⟨rfl, hb3⟩; have q3 := block_kept q3 hb3; have c0 := cell_kept hb3 c0; have c1 := cell_kept hb3 c1; have c2 := cell_kept hb3 c2; have c3 := cell_kept hb3 c3; have e0 := cell_kept hb3 e0; have e1 := cell_kept hb3 e1; have e2 := cell_kept hb3 e2; have HB := Lib.hid (HB.out.trans (hb3.mono HB.out.size)); clear hb3) | ((with_reducible go_at_call 17); (with_reducible refine Calls.mono (HF14.out _ HB.out) ?_); rintro e w3 ⟨rfl, hb3⟩; have q3 := block_kept q3 hb3; have c0 := cell_kept hb3 c0; have c1 := cell_kept hb3 c1; have c2 := cell_kept hb3 c2; have c3 := cell_kept hb3 c3; have e0 := cell_kept hb3 e0; have e1 := cell_kept hb3 e1; have e2 := cell_kept hb3 e2; have HB := Lib.hid (HB.out.trans (hb3.mono HB.out.size)); clear hb3) | ((with_reducible go_at_call 25); (with_reducible refine Calls.mono (HLV.out _ HB.out) ?_); rintro e w3 ⟨rfl, hb3⟩; have q3 := block_kept q3 hb3; have c0 := cell_kept hb3 c0; have c1 := cell_kept hb3 c1; have c2 := cell_kept hb3 c2; have c3 := cell_kept hb3 c3; have e0 := cell_kept hb3 e0; have e1 := cell_kept hb3 e1; have e2 := cell_kept hb3 e2; have HB := Lib.hid (HB.out.trans (hb3.mono HB.out.size)); clear hb3))
  have hbx := HB.out
  obtain ⟨hw1, hw2, hl1, hl2, hflat1, hflat2, hg1, hg2, hg3⟩ := HX.out
  have HC0 := Lib.hid c0
  have HE0 := Lib.hid e0
  have HE2 := Lib.hid e2
  have HVC := Lib.hid (HVB.out.below hbx)
  clear c0 c1 c2 c3 e0 e1 e2
  refine region_inv (by kernel_rfl) (fun u v => Below u.heap.size u v) (A5 (.agg #[.slice (some ⟨fb, fo, none⟩) S.flags.length cap, .bool S.plain, .bool S.unknown, .int .i64 S.fold]) (S) (w.heap.size) (fb) (fo) (cap) (i) (nm) (nv) (.slice vb0 vbn vbc) (M)) (fun i => false) (fun i => [40, 41, 42, 43, 44, 45, 46, 47, 48, 49, 50, 51, 52, 53, 54, 55, 56, 57, 58, 59, 60, 61, 62, 63, 64, 65, 66, 67, 68, 69, 70, 71, 6].getD i 0) 33
    (Below.refl _ _) (fun _ _ _ h k => below_step h k) (fun i hi v u u' h hb => A5.below hi h hb) ?_ ?_ (by kernel_rfl) (by kernel_rfl) (by kernel_rfl) (by kernel_rfl) ?_ ?_
  · intro i hi hA; cases hA
  · intro i hi o ho g want hg v u hR
    match i, hi with
    | 0, _ =>
      simp only [List.getElem?_toArray, List.getElem?_cons_zero, List.getElem?_cons_succ, Option.some.injEq] at ho
      subst ho
      cases hg
    | 1, _ =>
      simp only [List.getElem?_toArray, List.getElem?_cons_zero, List.getElem?_cons_succ, Option.some.injEq] at ho
      subst ho
      cases hg
    | 2, _ =>
      simp only [List.getElem?_toArray, List.getElem?_cons_zero, List.getElem?_cons_succ, Option.some.injEq] at ho
      subst ho
      cases hg
    | 3, _ =>
      simp only [List.getElem?_toArray, List.getElem?_cons_zero, List.getElem?_cons_succ, Option.some.injEq] at ho
      subst ho
      cases hg
    | 4, _ =>
      simp only [List.getElem?_toArray, List.getElem?_cons_zero, List.getElem?_cons_succ, Option.some.injEq] at ho
      subst ho
      cases hg
    | 5, _ =>
      simp only [List.getElem?_toArray, List.getElem?_cons_zero, List.getElem?_cons_succ, Option.some.injEq] at ho
      subst ho
      cases hg
    | 6, _ =>
      simp only [List.getElem?_toArray, List.getElem?_cons_zero, List.getElem?_cons_succ, Option.some.injEq] at ho
      subst ho
      cases hg
    | 7, _ =>
      simp only [List.getElem?_toArray, List.getElem?_cons_zero, List.getElem?_cons_succ, Option.some.injEq] at ho
      subst ho
      cases hg
    | 8, _ =>
      simp only [List.getElem?_toArray, List.getElem?_cons_zero, List.getElem?_cons_succ, Option.some.injEq] at ho
      subst ho
      cases hg
    | 9, _ =>
      simp only [List.getElem?_toArray, List.getElem?_cons_zero, List.getElem?_cons_succ, Option.some.injEq] at ho
      subst ho
      cases hg
    | 10, _ =>
      simp only [List.getElem?_toArray, List.getElem?_cons_zero, List.getElem?_cons_succ, Option.some.injEq] at ho
      subst ho
      cases hg
    | 11, _ =>
      simp only [List.getElem?_toArray, List.getElem?_cons_zero, List.getElem?_cons_succ, Option.some.injEq] at ho
      subst ho
      cases hg
    | 12, _ =>
      simp only [List.getElem?_toArray, List.getElem?_cons_zero, List.getElem?_cons_succ, Option.some.injEq] at ho
      subst ho
      cases hg
    | 13, _ =>
      simp only [List.getElem?_toArray, List.getElem?_cons_zero, List.getElem?_cons_succ, Option.some.injEq] at ho
      subst ho
      cases hg
    | 14, _ =>
      simp only [List.getElem?_toArray, List.getElem?_cons_zero, List.getElem?_cons_succ, Option.some.injEq] at ho
      subst ho
      cases hg
    | 15, _ =>
      simp only [List.getElem?_toArray, List.getElem?_cons_zero, List.getElem?_cons_succ, Option.some.injEq] at ho
      subst ho
      cases hg
    | 16, _ =>
      simp only [List.getElem?_toArray, List.getElem?_cons_zero, List.getElem?_cons_succ, Option.some.injEq] at ho
      subst ho
      cases hg
    | 17, _ =>
      simp only [List.getElem?_toArray, List.getElem?_cons_zero, List.getElem?_cons_succ, Option.some.injEq] at ho
      subst ho
      cases hg
    | 18, _ =>
      simp only [List.getElem?_toArray, List.getElem?_cons_zero, List.getElem?_cons_succ, Option.some.injEq] at ho
      subst ho
      cases hg
    | 19, _ =>
      simp only [List.getElem?_toArray, List.getElem?_cons_zero, List.getElem?_cons_succ, Option.some.injEq] at ho
      subst ho
      cases hg
    | 20, _ =>
      simp only [List.getElem?_toArray, List.getElem?_cons_zero, List.getElem?_cons_succ, Option.some.injEq] at ho
      subst ho
      cases hg
    | 21, _ =>
      simp only [List.getElem?_toArray, List.getElem?_cons_zero, List.getElem?_cons_succ, Option.some.injEq] at ho
      subst ho
      cases hg
    | 22, _ =>
      simp only [List.getElem?_toArray, List.getElem?_cons_zero, List.getElem?_cons_succ, Option.some.injEq] at ho
      subst ho
      cases hg
    | 23, _ =>
      simp only [List.getElem?_toArray, List.getElem?_cons_zero, List.getElem?_cons_succ, Option.some.injEq] at ho
      subst ho
      cases hg
    | 24, _ =>
      simp only [List.getElem?_toArray, List.getElem?_cons_zero, List.getElem?_cons_succ, Option.some.injEq] at ho
      subst ho
      cases hg
    | 25, _ =>
      simp only [List.getElem?_toArray, List.getElem?_cons_zero, List.getElem?_cons_succ, Option.some.injEq] at ho
      subst ho
      cases hg
    | 26, _ =>
      simp only [List.getElem?_toArray, List.getElem?_cons_zero, List.getElem?_cons_succ, Option.some.injEq] at ho
      subst ho
      cases hg
    | 27, _ =>
      simp only [List.getElem?_toArray, List.getElem?_cons_zero, List.getElem?_cons_succ, Option.some.injEq] at ho
      subst ho
      cases hg
    | 28, _ =>
      simp only [List.getElem?_toArray, List.getElem?_cons_zero, List.getElem?_cons_succ, Option.some.injEq] at ho
      subst ho
      cases hg
    | 29, _ =>
      simp only [List.getElem?_toArray, List.getElem?_cons_zero, List.getElem?_cons_succ, Option.some.injEq] at ho
      subst ho
      cases hg
    | 30, _ =>
      simp only [List.getElem?_toArray, List.getElem?_cons_zero, List.getElem?_cons_succ, Option.some.injEq] at ho
      subst ho
      cases hg; exact hR
    | 31, _ =>
      simp only [List.getElem?_toArray, List.getElem?_cons_zero, List.getElem?_cons_succ, Option.some.injEq] at ho
      subst ho
      cases hg
    | 32, _ =>
      simp only [List.getElem?_toArray, List.getElem?_cons_zero, List.getElem?_cons_succ, Option.some.injEq] at ho
      subst ho
      cases hg
    | k + 33, hi => exact absurd hi (by omega)
  · intro i hi o ho a u hG hk hd
    have hG9 : Below w3.heap.size w3 u := ((Below.refl _ _).drew).trans hG
    match i, hi with
    | 0, _ =>
      simp only [List.getElem?_toArray, List.getElem?_cons_zero, List.getElem?_cons_succ, Option.some.injEq] at ho
      subst ho
      exact ow_load_set rfl ((hk 3 (by decide)).trans rfl) (block_kept q3 hG9) ⟨_, rfl, rfl, Below.refl _ _, fun h => by cases h⟩
    | 1, _ =>
      simp only [List.getElem?_toArray, List.getElem?_cons_zero, List.getElem?_cons_succ, Option.some.injEq] at ho
      subst ho
      exact ow_field_set (i := 0) (by decide) rfl ((hk 3 (by decide)).trans rfl) ⟨_, rfl, rfl, Below.refl _ _, fun h => by cases h⟩
    | 2, _ =>
      simp only [List.getElem?_toArray, List.getElem?_cons_zero, List.getElem?_cons_succ, Option.some.injEq] at ho
      subst ho
      have e41 : a.eval (.tmp 41) = _ := hd 1 (by kernel_rfl) (by decide)
      exact ow_load_flags rfl e41 (cell_kept hG9 HC0.out) ⟨_, rfl, rfl, Below.refl _ _, fun h => by cases h⟩
    | 3, _ =>
      simp only [List.getElem?_toArray, List.getElem?_cons_zero, List.getElem?_cons_succ, Option.some.injEq] at ho
      subst ho
      exact ow_move rfl ((hk 1 (by decide)).trans rfl) ⟨_, rfl, rfl, Below.refl _ _, fun h => by cases h⟩
    | 4, _ =>
      simp only [List.getElem?_toArray, List.getElem?_cons_zero, List.getElem?_cons_succ, Option.some.injEq] at ho
      subst ho
      have e42 : a.eval (.tmp 42) = _ := hd 2 (by kernel_rfl) (by decide)
      have e43 : a.eval (.tmp 43) = _ := hd 3 (by kernel_rfl) (by decide)
      exact ow_index_flags hiN rfl e42 e43 ⟨_, rfl, rfl, Below.refl _ _, fun h => by cases h⟩
    | 5, _ =>
      simp only [List.getElem?_toArray, List.getElem?_cons_zero, List.getElem?_cons_succ, Option.some.injEq] at ho
      subst ho
      have e44 : a.eval (.tmp 44) = _ := hd 4 (by kernel_rfl) (by decide)
      exact ow_field_flag (i := 0) (by decide) rfl e44 ⟨_, rfl, rfl, Below.refl _ _, fun h => by cases h⟩
    | 6, _ =>
      simp only [List.getElem?_toArray, List.getElem?_cons_zero, List.getElem?_cons_succ, Option.some.injEq] at ho
      subst ho
      have e45 : a.eval (.tmp 45) = _ := hd 5 (by kernel_rfl) (by decide)
      exact ow_load_string rfl e45 (cell_kept hG9 HE0.out) ⟨_, rfl, rfl, Below.refl _ _, fun h => by cases h⟩
    | 7, _ =>
      simp only [List.getElem?_toArray, List.getElem?_cons_zero, List.getElem?_cons_succ, Option.some.injEq] at ho
      subst ho
      have e46 : a.eval (.tmp 46) = _ := hd 6 (by kernel_rfl) (by decide)
      exact ow_cat (by simp only [List.length_append, List.length_cons, List.length_nil]; have := HZ.out; omega) rfl (rfl : _ = Value.string (mkT [45, 45])) e46 ⟨_, rfl, rfl, Below.refl _ _, fun h => by cases h⟩
    | 8, _ =>
      simp only [List.getElem?_toArray, List.getElem?_cons_zero, List.getElem?_cons_succ, Option.some.injEq] at ho
      subst ho
      have e47 : a.eval (.tmp 47) = _ := hd 7 (by kernel_rfl) (by decide)
      exact ow_build1 (s := mkT (([45, 45] ++ nm))) (v := .nilIface) rfl e47 ⟨_, rfl, ⟨_, rfl, heap_alloc_new _ _⟩, (Below.refl _ _).alloc (Nat.le_refl _) _, fun h => by cases h⟩
    | 9, _ =>
      simp only [List.getElem?_toArray, List.getElem?_cons_zero, List.getElem?_cons_succ, Option.some.injEq] at ho
      subst ho
      exact ow_move rfl ((hk 2 (by decide)).trans rfl) ⟨_, rfl, rfl, Below.refl _ _, fun h => by cases h⟩
    | 10, _ =>
      simp only [List.getElem?_toArray, List.getElem?_cons_zero, List.getElem?_cons_succ, Option.some.injEq] at ho
      subst ho
      obtain ⟨g48, e48, hg48⟩ := hd 8 (by kernel_rfl) (by decide)
      have e49 : a.eval (.tmp 49) = _ := hd 9 (by kernel_rfl) (by decide)
      exact ow_rows2 rfl e48 e49 ⟨_, rfl, ⟨_, _, rfl, rows2 (heap_alloc_new _ _) ((one_text hg48).below ((Below.refl _ _).alloc (Nat.le_refl _) _)) ((HVC.out.below hG9).below ((Below.refl _ _).alloc (Nat.le_refl _) _))⟩, (Below.refl _ _).alloc (Nat.le_refl _) _, fun h => by cases h⟩
    | 11, _ =>
      simp only [List.getElem?_toArray, List.getElem?_cons_zero, List.getElem?_cons_succ, Option.some.injEq] at ho
      subst ho
      obtain ⟨g, vs, e50', hr⟩ := hd 10 (by kernel_rfl) (by decide)
      have e50 : a.eval (.tmp 50) = .slice (some ⟨g, 0, none⟩) 2 2 := e50'
      have hl14 : Calls Try.prog 27 #[.slice (some ⟨g, 0, none⟩) 2 2] u _ := list14_c (ls := [[mkT (([45, 45] ++ nm))], M.map mkT]) hr (by (show 2 ≤ 2147483647; decide)) (Nat.le_refl 2) hflat1
      refine ow_call #[.tmp 50] #[68] 27 Try.func27 (by kernel_rfl) (by rfl) rfl #[.slice (some ⟨g, 0, none⟩) 2 2] (by simp only [List.map_toArray, List.map_cons, List.map_nil, e50]) hl14 ?_
      rintro e u2 ⟨v, rfl, hv2, hb2⟩
      refine ⟨v, rfl, _, rfl, ?_, hb2, fun h => by cases h⟩
      show TextIn u2 v (((([45, 45] ++ nm) :: M)).map mkT)
      simpa using hv2
    | 12, _ =>
      simp only [List.getElem?_toArray, List.getElem?_cons_zero, List.getElem?_cons_succ, Option.some.injEq] at ho
      subst ho
      have e40 : a.eval (.tmp 40) = _ := hd 0 (by kernel_rfl) (by decide)
      have e51 : TextIn u (a.eval (.tmp 51)) (((([45, 45] ++ nm) :: M)).map mkT) := hd 11 (by kernel_rfl) (by decide)
      refine ow_call #[.tmp 40, .tmp 51] #[24, 25] 26 Try.func26 (by kernel_rfl) (by rfl) rfl #[_, a.eval (.tmp 51)] (by simp only [List.map_toArray, List.map_cons, List.map_nil, e40]) (HPC.out u (hbx.trans (hG9.mono hbx.size)) _ ((([45, 45] ++ nm) :: M)) e51 hw1 hl1) ?_
      rintro e u2 ⟨v, rfl, hv2, hb2⟩
      exact ⟨v, rfl, _, rfl, hv2, hb2, fun h => by cases h⟩
    | 13, _ =>
      simp only [List.getElem?_toArray, List.getElem?_cons_zero, List.getElem?_cons_succ, Option.some.injEq] at ho
      subst ho
      exact ow_load_set rfl ((hk 3 (by decide)).trans rfl) (block_kept q3 hG9) ⟨_, rfl, rfl, Below.refl _ _, fun h => by cases h⟩
    | 14, _ =>
      simp only [List.getElem?_toArray, List.getElem?_cons_zero, List.getElem?_cons_succ, Option.some.injEq] at ho
      subst ho
      exact ow_load_set rfl ((hk 3 (by decide)).trans rfl) (block_kept q3 hG9) ⟨_, rfl, rfl, Below.refl _ _, fun h => by cases h⟩
    | 15, _ =>
      simp only [List.getElem?_toArray, List.getElem?_cons_zero, List.getElem?_cons_succ, Option.some.injEq] at ho
      subst ho
      exact ow_move rfl ((hk 1 (by decide)).trans rfl) ⟨_, rfl, rfl, Below.refl _ _, fun h => by cases h⟩
    | 16, _ =>
      simp only [List.getElem?_toArray, List.getElem?_cons_zero, List.getElem?_cons_succ, Option.some.injEq] at ho
      subst ho
      exact ow_field_set (i := 0) (by decide) rfl ((hk 3 (by decide)).trans rfl) ⟨_, rfl, rfl, Below.refl _ _, fun h => by cases h⟩
    | 17, _ =>
      simp only [List.getElem?_toArray, List.getElem?_cons_zero, List.getElem?_cons_succ, Option.some.injEq] at ho
      subst ho
      have e56 : a.eval (.tmp 56) = _ := hd 16 (by kernel_rfl) (by decide)
      exact ow_load_flags rfl e56 (cell_kept hG9 HC0.out) ⟨_, rfl, rfl, Below.refl _ _, fun h => by cases h⟩
    | 18, _ =>
      simp only [List.getElem?_toArray, List.getElem?_cons_zero, List.getElem?_cons_succ, Option.some.injEq] at ho
      subst ho
      exact ow_move rfl ((hk 1 (by decide)).trans rfl) ⟨_, rfl, rfl, Below.refl _ _, fun h => by cases h⟩
    | 19, _ =>
      simp only [List.getElem?_toArray, List.getElem?_cons_zero, List.getElem?_cons_succ, Option.some.injEq] at ho
      subst ho
      have e57 : a.eval (.tmp 57) = _ := hd 17 (by kernel_rfl) (by decide)
      have e58 : a.eval (.tmp 58) = _ := hd 18 (by kernel_rfl) (by decide)
      exact ow_index_flags hiN rfl e57 e58 ⟨_, rfl, rfl, Below.refl _ _, fun h => by cases h⟩
    | 20, _ =>
      simp only [List.getElem?_toArray, List.getElem?_cons_zero, List.getElem?_cons_succ, Option.some.injEq] at ho
      subst ho
      have e59 : a.eval (.tmp 59) = _ := hd 19 (by kernel_rfl) (by decide)
      exact ow_field_flag (i := 2) (by decide) rfl e59 ⟨_, rfl, rfl, Below.refl _ _, fun h => by cases h⟩
    | 21, _ =>
      simp only [List.getElem?_toArray, List.getElem?_cons_zero, List.getElem?_cons_succ, Option.some.injEq] at ho
      subst ho
      have e60 : a.eval (.tmp 60) = _ := hd 20 (by kernel_rfl) (by decide)
      exact ow_load_string rfl e60 (cell_kept hG9 HE2.out) ⟨_, rfl, rfl, Below.refl _ _, fun h => by cases h⟩
    | 22, _ =>
      simp only [List.getElem?_toArray, List.getElem?_cons_zero, List.getElem?_cons_succ, Option.some.injEq] at ho
      subst ho
      have e54 : a.eval (.tmp 54) = _ := hd 14 (by kernel_rfl) (by decide)
      have e55 : a.eval (.tmp 55) = _ := hd 15 (by kernel_rfl) (by decide)
      have e61 : a.eval (.tmp 61) = _ := hd 21 (by kernel_rfl) (by decide)
      refine ow_call #[.tmp 54, .tmp 55, .tmp 61] #[24, 3, 9] 28 Try.func28 (by kernel_rfl) (by rfl) rfl #[_, _, _] (by simp only [List.map_toArray, List.map_cons, List.map_nil, e54, e55, e61]) (HLG.out u (hbx.trans (hG9.mono hbx.size))) ?_
      rintro e u2 ⟨rfl, hb2⟩
      exact ⟨_, rfl, _, rfl, rfl, hb2, fun h => by cases h⟩
    | 23, _ =>
      simp only [List.getElem?_toArray, List.getElem?_cons_zero, List.getElem?_cons_succ, Option.some.injEq] at ho
      subst ho
      have e62 : a.eval (.tmp 62) = _ := hd 22 (by kernel_rfl) (by decide)
      exact ow_build1 (s := mkT (longT nm nv)) (v := .nilIface) rfl e62 ⟨_, rfl, ⟨_, rfl, heap_alloc_new _ _⟩, (Below.refl _ _).alloc (Nat.le_refl _) _, fun h => by cases h⟩
    | 24, _ =>
      simp only [List.getElem?_toArray, List.getElem?_cons_zero, List.getElem?_cons_succ, Option.some.injEq] at ho
      subst ho
      exact ow_move rfl ((hk 2 (by decide)).trans rfl) ⟨_, rfl, rfl, Below.refl _ _, fun h => by cases h⟩
    | 25, _ =>
      simp only [List.getElem?_toArray, List.getElem?_cons_zero, List.getElem?_cons_succ, Option.some.injEq] at ho
      subst ho
      obtain ⟨g63, e63, hg63⟩ := hd 23 (by kernel_rfl) (by decide)
      have e64 : a.eval (.tmp 64) = _ := hd 24 (by kernel_rfl) (by decide)
      exact ow_rows2 rfl e63 e64 ⟨_, rfl, ⟨_, _, rfl, rows2 (heap_alloc_new _ _) ((one_text hg63).below ((Below.refl _ _).alloc (Nat.le_refl _) _)) ((HVC.out.below hG9).below ((Below.refl _ _).alloc (Nat.le_refl _) _))⟩, (Below.refl _ _).alloc (Nat.le_refl _) _, fun h => by cases h⟩
    | 26, _ =>
      simp only [List.getElem?_toArray, List.getElem?_cons_zero, List.getElem?_cons_succ, Option.some.injEq] at ho
      subst ho
      obtain ⟨g, vs, e65', hr⟩ := hd 25 (by kernel_rfl) (by decide)
      have e65 : a.eval (.tmp 65) = .slice (some ⟨g, 0, none⟩) 2 2 := e65'
      have hl14 : Calls Try.prog 27 #[.slice (some ⟨g, 0, none⟩) 2 2] u _ := list14_c (ls := [[mkT (longT nm nv)], M.map mkT]) hr (by (show 2 ≤ 2147483647; decide)) (Nat.le_refl 2) hflat2
      refine ow_call #[.tmp 65] #[68] 27 Try.func27 (by kernel_rfl) (by rfl) rfl #[.slice (some ⟨g, 0, none⟩) 2 2] (by simp only [List.map_toArray, List.map_cons, List.map_nil, e65]) hl14 ?_
      rintro e u2 ⟨v, rfl, hv2, hb2⟩
      refine ⟨v, rfl, _, rfl, ?_, hb2, fun h => by cases h⟩
      show TextIn u2 v (((longT nm nv :: M)).map mkT)
      simpa using hv2
    | 27, _ =>
      simp only [List.getElem?_toArray, List.getElem?_cons_zero, List.getElem?_cons_succ, Option.some.injEq] at ho
      subst ho
      have e53 : a.eval (.tmp 53) = _ := hd 13 (by kernel_rfl) (by decide)
      have e66 : TextIn u (a.eval (.tmp 66)) (((longT nm nv :: M)).map mkT) := hd 26 (by kernel_rfl) (by decide)
      refine ow_call #[.tmp 53, .tmp 66] #[24, 25] 26 Try.func26 (by kernel_rfl) (by rfl) rfl #[_, a.eval (.tmp 66)] (by simp only [List.map_toArray, List.map_cons, List.map_nil, e53]) (HPC.out u (hbx.trans (hG9.mono hbx.size)) _ ((longT nm nv :: M)) e66 hw2 hl2) ?_
      rintro e u2 ⟨v, rfl, hv2, hb2⟩
      exact ⟨v, rfl, _, rfl, hv2, hb2, fun h => by cases h⟩
    | 28, _ =>
      simp only [List.getElem?_toArray, List.getElem?_cons_zero, List.getElem?_cons_succ, Option.some.injEq] at ho
      subst ho
      have e52 : HeardOwn u (psOf none true (goes S none st0 ((([45, 45] ++ nm) :: M)))) (goes S none st0 ((([45, 45] ++ nm) :: M))).err S.flags.length (a.eval (.tmp 52)) := hd 12 (by kernel_rfl) (by decide)
      have e67 : HeardOwn u (psOf none true (goes S none st0 ((longT nm nv :: M)))) (goes S none st0 ((longT nm nv :: M))).err S.flags.length (a.eval (.tmp 67)) := hd 27 (by kernel_rfl) (by decide)
      rw [← HEQ.out] at e67
      refine ow_call #[.tmp 52, .tmp 67] #[32, 32] 22 Try.func22 (by kernel_rfl) (by rfl) rfl #[a.eval (.tmp 52), a.eval (.tmp 67)] (by simp only [List.map_toArray, List.map_cons, List.map_nil]) (same_c e52.is e67.is hg1 hg2 hg3) ?_
      rintro e u2 ⟨rfl, hb2⟩
      exact ⟨_, rfl, _, rfl, rfl, hb2, fun h => by cases h⟩
    | 29, _ =>
      simp only [List.getElem?_toArray, List.getElem?_cons_zero, List.getElem?_cons_succ, Option.some.injEq] at ho
      subst ho
      have e68 : a.eval (.tmp 68) = .bool true := hd 28 (by kernel_rfl) (by decide)
      exact ow_move rfl e68 ⟨_, rfl, rfl, Below.refl _ _, fun h => by cases h⟩
    | 30, _ =>
      simp only [List.getElem?_toArray, List.getElem?_cons_zero, List.getElem?_cons_succ, Option.some.injEq] at ho
      subst ho
      refine ow_call #[] #[] 25 Try.func25 (by kernel_rfl) (by rfl) rfl #[] (by simp only [List.map_toArray, List.map_nil]) (HLV.out u (hbx.trans (hG9.mono hbx.size))) ?_
      rintro e u2 ⟨rfl, hb2⟩
      exact ⟨_, rfl, _, rfl, rfl, hb2, fun h => by cases h⟩
    | 31, _ =>
      simp only [List.getElem?_toArray, List.getElem?_cons_zero, List.getElem?_cons_succ, Option.some.injEq] at ho
      subst ho
      have e69 : a.eval (.tmp 69) = .bool true := hd 29 (by kernel_rfl) (by decide)
      have e70 : a.eval (.tmp 70) = .bool true := hd 30 (by kernel_rfl) (by decide)
      exact ow_pick rfl e69 e70 ⟨_, rfl, rfl, Below.refl _ _, fun h => by cases h⟩
    | 32, _ =>
      simp only [List.getElem?_toArray, List.getElem?_cons_zero, List.getElem?_cons_succ, Option.some.injEq] at ho
      subst ho
      have e71 : a.eval (.tmp 71) = .bool true := hd 31 (by kernel_rfl) (by decide)
      exact ow_assign rfl e71 ⟨_, rfl, rfl, Below.refl _ _, fun h => by cases h⟩
    | k + 33, hi => exact absurd hi (by omega)
  · intro x u hG hx hdif
    have hlast : x 32 = _ := hx 32 (by decide)
    simp only [putAll, Act.put, List.getD_cons_zero, List.getD_cons_succ, List.setIfInBounds_toArray, List.set_cons_succ, List.set_cons_zero]
    refine wpAny_end (by kernel_rfl) ?_
    rw [hlast]
    go_wp2
    go_ret
    exact yesEnd rfl (hbx.trans ((((Below.refl _ _).drew).trans hG).mono hbx.size))
end Go.Proofs.Ytgmhhdpggnmipaa.E
