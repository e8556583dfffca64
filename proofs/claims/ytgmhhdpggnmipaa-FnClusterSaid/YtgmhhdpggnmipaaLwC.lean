/- laws.FnCluster over this seat's program. Written by gen_lwc.py. -/
import Derived.Test.YtgmhhdpggnmipaaLw7
namespace Go.Proofs.Ytgmhhdpggnmipaa.E
open Go.RowKit Go.Proofs
set_option linter.unusedVariables false
set_option linter.unusedSimpArgs false
/-- Integers that came in. -/
def IntsAt (w : World) (A : Option Addr) (Z : List Int) : Prop := ∀ i (h : i < Z.length), ∃ b o, A = some ⟨b, o, none⟩ ∧ w.cell? ⟨b, o + i, none⟩ = some (.int .i64 Z[i])
theorem wt_ones (cs : Txt) : wt (cs.map fun c => [45, c]) = 3 * cs.length := by
  induction cs with
  | nil => rfl
  | cons a r ih => simp only [List.map_cons, wt, ih, List.length_cons, List.length_nil]; omega
theorem alone_of {S : SetP} (h : Right S) {i : Nat} (hi : i < S.flags.length) (h1 : S.flags[i].short ≠ []) (h2 : S.flags[i].noOpt ≠ []) : ∃ c, S.flags[i].short = [c] ∧ Alone S c i := by
  rcases h.short _ (List.getElem_mem hi) with e | ⟨c, e, hl⟩
  · exact absurd e h1
  · refine ⟨c, e, ?_, ?_, hl⟩
    · unfold lettered
      refine findIdx_this S.flags i hi (by simp [e]) (fun j hj q => ?_)
      have q := of_decide_eq_true q
      rcases h.short _ (List.getElem_mem hj) with e2 | ⟨d, e2, _⟩
      · rw [e2] at q; cases q
      · rw [e2] at q
        simp only [List.head?_cons, Option.some.injEq] at q
        subst q
        exact (h.sdist i j hi hj h1 (by rw [e, e2])).symm
    · unfold noOptOf
      simp [hi]; exact h2
theorem own_empty {w : World} {base : Nat} {e : TypeId} (hb : base ≤ w.heap.size) : (w.alloc (.cells #[] e)).ownsRow base e 1 (.slice (some ⟨w.heap.size, 0, none⟩) 0 0) 0 [] :=
  ⟨rfl, .inr ⟨w.heap.size, 0, #[], rfl, hb, heap_alloc_new w _, Nat.le_refl _, by unfold maxLen; decide, rfl, rfl⟩⟩
/-- Behind an append, and what it was handed. -/
theorem below_app {B : Nat} {w w2 : World} {o : Obj} {g : Option Nat} (hB : B ≤ w.heap.size) (hg : (w.alloc o).grownBy w2 g) (hlt : ∀ k, g = some k → B ≤ k) : Below B w w2 :=
  (((Below.refl B w).alloc hB o).grown hg (by simp; omega) hlt)
theorem app_block {w w2 : World} {o : Obj} {g : Option Nat} {b : Nat} {x : Obj} (hx : w.heap[b]? = some x) (hg : (w.alloc o).grownBy w2 g) (hne : g ≠ some b) : w2.heap[b]? = some x := by
  have hl := lt_of_block hx
  have h1 : (w.alloc o).heap[b]? = some x := block_kept hx ((Below.refl _ _).alloc (Nat.le_refl _) _)
  exact grown_blk hg h1 hne.symm

set_option maxRecDepth 100000 in
set_option maxHeartbeats 6400000 in
theorem cl_1 {w : World} {A : Option Addr} {F : List FlagP} (hA : FlagsAt w A F) {cap : Nat} (hc : F.length ≤ cap) (hm : cap ≤ 9223372036854775807) (pl un : Bool) (k : Int) {zA : Option Addr} {Z : List Int} {zc : Nat} {vb : Value} {M : List Txt} (hvb : TextIn w vb (M.map mkT)) (h1 : fits20 (F.map ofFlag) = false)  :
    Calls Try.prog 5 #[.agg #[.slice A F.length cap, .bool pl, .bool un, .int .i64 k], .slice zA Z.length zc, vb] w (YesEnd w) := by
  have H19 := Lib.hid (says19 hA hc hm pl un k h1)
  have HVB := Lib.hid hvb
  obtain ⟨vb0, vbn, vbc, hvbe⟩ := hvb.slice
  clear hvb
  subst hvbe
  go_enter Try.func5, Try.ntmps5
  go_upto_region 1 with fail
  generalize hWX : w.alloc _ = WX
  have HB : Hid (Below w.heap.size w WX) := Lib.hid (by rw [← hWX]; exact (Below.refl _ _).alloc (Nat.le_refl _) _)
  have q3 : WX.heap[w.heap.size]? = some (.cells #[.slice A F.length cap, .bool pl, .bool un, .int .i64 k] 24 (0, 0)) := by rw [← hWX]; exact heap_alloc_new w _
  clear hWX
  have c0 : WX.cell? ⟨w.heap.size, 0, none⟩ = some (.slice A F.length cap) := (cell_blk q3 0).trans rfl
  have c1 : WX.cell? ⟨w.heap.size, 1, none⟩ = some (.bool pl) := (cell_blk q3 1).trans rfl
  have c2 : WX.cell? ⟨w.heap.size, 2, none⟩ = some (.bool un) := (cell_blk q3 2).trans rfl
  have c3 : WX.cell? ⟨w.heap.size, 3, none⟩ = some (.int .i64 k) := (cell_blk q3 3).trans rfl
  go_wp2_with (first | ((with_reducible go_at_call 14); (with_reducible refine Calls.mono (H19.out _ HB.out) ?_); rintro e w3 ⟨rfl, hb3⟩; have q3 := block_kept q3 hb3; have c0 := cell_kept hb3 c0; have c1 := cell_kept hb3 c1; have c2 := cell_kept hb3 c2; have c3 := cell_kept hb3 c3; have HB := Lib.hid (HB.out.trans (hb3.mono HB.out.size)); clear hb3) | ((with_reducible go_at_call 15); (with_reducible refine Calls.mono (H2.out _ HB.out) ?_); rintro e w3 ⟨rfl, hb3⟩; have q3 := block_kept q3 hb3; have c0 := cell_kept hb3 c0; have c1 := cell_kept hb3 c1; have c2 := cell_kept hb3 c2; have c3 := cell_kept hb3 c3; have HB := Lib.hid (HB.out.trans (hb3.mono HB.out.size)); clear hb3) | ((with_reducible go_at_call 16); (with_reducible refine Calls.mono (HRT.out _ HB.out) ?_); rintro e w3 ⟨rfl, hb3⟩; have q3 := block_kept q3 hb3; have c0 := cell_kept hb3 c0; have c1 := cell_kept hb3 c1; have c2 := cell_kept hb3 c2; have c3 := cell_kept hb3 c3; have HB := Lib.hid (HB.out.trans (hb3.mono HB.out.size)); clear hb3) | ((with_reducible go_at_call 17); (with_reducible refine Calls.mono (HF14.out _ HB.out) ?_); rintro e w3 ⟨rfl, hb3⟩; have q3 := block_kept q3 hb3; have c0 := cell_kept hb3 c0; have c1 := cell_kept hb3 c1; have c2 := cell_kept hb3 c2; have c3 := cell_kept hb3 c3; have HB := Lib.hid (HB.out.trans (hb3.mono HB.out.size)); clear hb3) | ((with_reducible go_at_call 25); (with_reducible refine Calls.mono (HLV.out _ HB.out) ?_); rintro e w3 ⟨rfl, hb3⟩; have q3 := block_kept q3 hb3; have c0 := cell_kept hb3 c0; have c1 := cell_kept hb3 c1; have c2 := cell_kept hb3 c2; have c3 := cell_kept hb3 c3; have HB := Lib.hid (HB.out.trans (hb3.mono HB.out.size)); clear hb3))
  go_ret
  exact yesEnd rfl HB.out

set_option maxRecDepth 100000 in
set_option maxHeartbeats 6400000 in
theorem cl_2 {w : World} {A : Option Addr} {F : List FlagP} (hA : FlagsAt w A F) {cap : Nat} (hc : F.length ≤ cap) (hm : cap ≤ 9223372036854775807) (pl un : Bool) (k : Int) {zA : Option Addr} {Z : List Int} {zc : Nat} {vb : Value} {M : List Txt} (hvb : TextIn w vb (M.map mkT)) (h1 : fits20 (F.map ofFlag) = true) (hz : ¬ Z.length ≤ 2147483647) :
    Calls Try.prog 5 #[.agg #[.slice A F.length cap, .bool pl, .bool un, .int .i64 k], .slice zA Z.length zc, vb] w (YesEnd w) := by
  have H19 := Lib.hid (says19 hA hc hm pl un k h1)
  have hz2 : (2147483647 : Int) < (Z.length : Int) := by omega
  have HVB := Lib.hid hvb
  obtain ⟨vb0, vbn, vbc, hvbe⟩ := hvb.slice
  clear hvb
  subst hvbe
  go_enter Try.func5, Try.ntmps5
  go_upto_region 1 with fail
  generalize hWX : w.alloc _ = WX
  have HB : Hid (Below w.heap.size w WX) := Lib.hid (by rw [← hWX]; exact (Below.refl _ _).alloc (Nat.le_refl _) _)
  have q3 : WX.heap[w.heap.size]? = some (.cells #[.slice A F.length cap, .bool pl, .bool un, .int .i64 k] 24 (0, 0)) := by rw [← hWX]; exact heap_alloc_new w _
  clear hWX
  have c0 : WX.cell? ⟨w.heap.size, 0, none⟩ = some (.slice A F.length cap) := (cell_blk q3 0).trans rfl
  have c1 : WX.cell? ⟨w.heap.size, 1, none⟩ = some (.bool pl) := (cell_blk q3 1).trans rfl
  have c2 : WX.cell? ⟨w.heap.size, 2, none⟩ = some (.bool un) := (cell_blk q3 2).trans rfl
  have c3 : WX.cell? ⟨w.heap.size, 3, none⟩ = some (.int .i64 k) := (cell_blk q3 3).trans rfl
  go_wp2_with (first | ((with_reducible go_at_call 14); (with_reducible refine Calls.mono (H19.out _ HB.out) ?_); rintro e w3 ⟨rfl, hb3⟩; have q3 := block_kept q3 hb3; have c0 := cell_kept hb3 c0; have c1 := cell_kept hb3 c1; have c2 := cell_kept hb3 c2; have c3 := cell_kept hb3 c3; have HB := Lib.hid (HB.out.trans (hb3.mono HB.out.size)); clear hb3) | ((with_reducible go_at_call 15); (with_reducible refine Calls.mono (H2.out _ HB.out) ?_); rintro e w3 ⟨rfl, hb3⟩; have q3 := block_kept q3 hb3; have c0 := cell_kept hb3 c0; have c1 := cell_kept hb3 c1; have c2 := cell_kept hb3 c2; have c3 := cell_kept hb3 c3; have HB := Lib.hid (HB.out.trans (hb3.mono HB.out.size)); clear hb3) | ((with_reducible go_at_call 16); (with_reducible refine Calls.mono (HRT.out _ HB.out) ?_); rintro e w3 ⟨rfl, hb3⟩; have q3 := block_kept q3 hb3; have c0 := cell_kept hb3 c0; have c1 := cell_kept hb3 c1; have c2 := cell_kept hb3 c2; have c3 := cell_kept hb3 c3; have HB := Lib.hid (HB.out.trans (hb3.mono HB.out.size)); clear hb3) | ((with_reducible go_at_call 17); (with_reducible refine Calls.mono (HF14.out _ HB.out) ?_); rintro e w3 ⟨rfl, hb3⟩; have q3 := block_kept q3 hb3; have c0 := cell_kept hb3 c0; have c1 := cell_kept hb3 c1; have c2 := cell_kept hb3 c2; have c3 := cell_kept hb3 c3; have HB := Lib.hid (HB.out.trans (hb3.mono HB.out.size)); clear hb3) | ((with_reducible go_at_call 25); (with_reducible refine Calls.mono (HLV.out _ HB.out) ?_); rintro e w3 ⟨rfl, hb3⟩; have q3 := block_kept q3 hb3; have c0 := cell_kept hb3 c0; have c1 := cell_kept hb3 c1; have c2 := cell_kept hb3 c2; have c3 := cell_kept hb3 c3; have HB := Lib.hid (HB.out.trans (hb3.mono HB.out.size)); clear hb3))
  go_ret
  exact yesEnd rfl HB.out

set_option maxRecDepth 100000 in
set_option maxHeartbeats 6400000 in
theorem cl_3 {w : World} {A : Option Addr} {F : List FlagP} (hA : FlagsAt w A F) {cap : Nat} (hc : F.length ≤ cap) (hm : cap ≤ 9223372036854775807) (pl un : Bool) (k : Int) {zA : Option Addr} {Z : List Int} {zc : Nat} {vb : Value} {M : List Txt} (hvb : TextIn w vb (M.map mkT)) (h1 : fits20 (F.map ofFlag) = true) (hz : Z.length ≤ 2147483647) (h2 : fits2 (M.map mkT) = false)  :
    Calls Try.prog 5 #[.agg #[.slice A F.length cap, .bool pl, .bool un, .int .i64 k], .slice zA Z.length zc, vb] w (YesEnd w) := by
  have H19 := Lib.hid (says19 hA hc hm pl un k h1)
  have H2 := Lib.hid (says2 hvb h2)
  have hz2 : ¬ (2147483647 : Int) < (Z.length : Int) := by omega
  have HVB := Lib.hid hvb
  obtain ⟨vb0, vbn, vbc, hvbe⟩ := hvb.slice
  clear hvb
  subst hvbe
  go_enter Try.func5, Try.ntmps5
  go_upto_region 1 with fail
  generalize hWX : w.alloc _ = WX
  have HB : Hid (Below w.heap.size w WX) := Lib.hid (by rw [← hWX]; exact (Below.refl _ _).alloc (Nat.le_refl _) _)
  have q3 : WX.heap[w.heap.size]? = some (.cells #[.slice A F.length cap, .bool pl, .bool un, .int .i64 k] 24 (0, 0)) := by rw [← hWX]; exact heap_alloc_new w _
  clear hWX
  have c0 : WX.cell? ⟨w.heap.size, 0, none⟩ = some (.slice A F.length cap) := (cell_blk q3 0).trans rfl
  have c1 : WX.cell? ⟨w.heap.size, 1, none⟩ = some (.bool pl) := (cell_blk q3 1).trans rfl
  have c2 : WX.cell? ⟨w.heap.size, 2, none⟩ = some (.bool un) := (cell_blk q3 2).trans rfl
  have c3 : WX.cell? ⟨w.heap.size, 3, none⟩ = some (.int .i64 k) := (cell_blk q3 3).trans rfl
  go_wp2_with (first | ((with_reducible go_at_call 14); (with_reducible refine Calls.mono (H19.out _ HB.out) ?_); rintro e w3 ⟨rfl, hb3⟩; have q3 := block_kept q3 hb3; have c0 := cell_kept hb3 c0; have c1 := cell_kept hb3 c1; have c2 := cell_kept hb3 c2; have c3 := cell_kept hb3 c3; have HB := Lib.hid (HB.out.trans (hb3.mono HB.out.size)); clear hb3) | ((with_reducible go_at_call 15); (with_reducible refine Calls.mono (H2.out _ HB.out) ?_); rintro e w3 ⟨rfl, hb3⟩; have q3 := block_kept q3 hb3; have c0 := cell_kept hb3 c0; have c1 := cell_kept hb3 c1; have c2 := cell_kept hb3 c2; have c3 := cell_kept hb3 c3; have HB := Lib.hid (HB.out.trans (hb3.mono HB.out.size)); clear hb3) | ((with_reducible go_at_call 16); (with_reducible refine Calls.mono (HRT.out _ HB.out) ?_); rintro e w3 ⟨rfl, hb3⟩; have q3 := block_kept q3 hb3; have c0 := cell_kept hb3 c0; have c1 := cell_kept hb3 c1; have c2 := cell_kept hb3 c2; have c3 := cell_kept hb3 c3; have HB := Lib.hid (HB.out.trans (hb3.mono HB.out.size)); clear hb3) | ((with_reducible go_at_call 17); (with_reducible refine Calls.mono (HF14.out _ HB.out) ?_); rintro e w3 ⟨rfl, hb3⟩; have q3 := block_kept q3 hb3; have c0 := cell_kept hb3 c0; have c1 := cell_kept hb3 c1; have c2 := cell_kept hb3 c2; have c3 := cell_kept hb3 c3; have HB := Lib.hid (HB.out.trans (hb3.mono HB.out.size)); clear hb3) | ((with_reducible go_at_call 25); (with_reducible refine Calls.mono (HLV.out _ HB.out) ?_); rintro e w3 ⟨rfl, hb3⟩; have q3 := block_kept q3 hb3; have c0 := cell_kept hb3 c0; have c1 := cell_kept hb3 c1; have c2 := cell_kept hb3 c2; have c3 := cell_kept hb3 c3; have HB := Lib.hid (HB.out.trans (hb3.mono HB.out.size)); clear hb3))
  go_ret
  exact yesEnd rfl HB.out

set_option maxRecDepth 100000 in
set_option maxHeartbeats 6400000 in
theorem cl_4 {w : World} {A : Option Addr} {F : List FlagP} (hA : FlagsAt w A F) {cap : Nat} (hc : F.length ≤ cap) (hm : cap ≤ 9223372036854775807) (pl un : Bool) (k : Int) {zA : Option Addr} {Z : List Int} {zc : Nat} {vb : Value} {M : List Txt} (hvb : TextIn w vb (M.map mkT)) (h1 : fits20 (F.map ofFlag) = true) (hz : Z.length ≤ 2147483647) (h2 : fits2 (M.map mkT) = true) (h3 : RightK F k = false)  :
    Calls Try.prog 5 #[.agg #[.slice A F.length cap, .bool pl, .bool un, .int .i64 k], .slice zA Z.length zc, vb] w (YesEnd w) := by
  have H19 := Lib.hid (says19 hA hc hm pl un k h1)
  have H2 := Lib.hid (says2 hvb h2)
  have hz2 : ¬ (2147483647 : Int) < (Z.length : Int) := by omega
  have HLV := Lib.hid (saysL w)
  have HRT := Lib.hid (saysR hA cap pl un k h1 h3)
  have HVB := Lib.hid hvb
  obtain ⟨vb0, vbn, vbc, hvbe⟩ := hvb.slice
  clear hvb
  subst hvbe
  go_enter Try.func5, Try.ntmps5
  go_upto_region 1 with fail
  generalize hWX : w.alloc _ = WX
  have HB : Hid (Below w.heap.size w WX) := Lib.hid (by rw [← hWX]; exact (Below.refl _ _).alloc (Nat.le_refl _) _)
  have q3 : WX.heap[w.heap.size]? = some (.cells #[.slice A F.length cap, .bool pl, .bool un, .int .i64 k] 24 (0, 0)) := by rw [← hWX]; exact heap_alloc_new w _
  clear hWX
  have c0 : WX.cell? ⟨w.heap.size, 0, none⟩ = some (.slice A F.length cap) := (cell_blk q3 0).trans rfl
  have c1 : WX.cell? ⟨w.heap.size, 1, none⟩ = some (.bool pl) := (cell_blk q3 1).trans rfl
  have c2 : WX.cell? ⟨w.heap.size, 2, none⟩ = some (.bool un) := (cell_blk q3 2).trans rfl
  have c3 : WX.cell? ⟨w.heap.size, 3, none⟩ = some (.int .i64 k) := (cell_blk q3 3).trans rfl
  go_wp2_with (first | ((with_reducible go_at_call 14); (with_reducible refine Calls.mono (H19.out _ HB.out) ?_); rintro e w3 ⟨rfl, hb3⟩; have q3 := block_kept q3 hb3; have c0 := cell_kept hb3 c0; have c1 := cell_kept hb3 c1; have c2 := cell_kept hb3 c2; have c3 := cell_kept hb3 c3; have HB := Lib.hid (HB.out.trans (hb3.mono HB.out.size)); clear hb3) | ((with_reducible go_at_call 15); (with_reducible refine Calls.mono (H2.out _ HB.out) ?_); rintro e w3 ⟨rfl, hb3⟩; have q3 := block_kept q3 hb3; have c0 := cell_kept hb3 c0; have c1 := cell_kept hb3 c1; have c2 := cell_kept hb3 c2; have c3 := cell_kept hb3 c3; have HB := Lib.hid (HB.out.trans (hb3.mono HB.out.size)); clear hb3) | ((with_reducible go_at_call 16); (with_reducible refine Calls.mono (HRT.out _ HB.out) ?_); rintro e w3 ⟨rfl, hb3⟩; have q3 := block_kept q3 hb3; have c0 := cell_kept hb3 c0; have c1 := cell_kept hb3 c1; have c2 := cell_kept hb3 c2; have c3 := cell_kept hb3 c3; have HB := Lib.hid (HB.out.trans (hb3.mono HB.out.size)); clear hb3) | ((with_reducible go_at_call 17); (with_reducible refine Calls.mono (HF14.out _ HB.out) ?_); rintro e w3 ⟨rfl, hb3⟩; have q3 := block_kept q3 hb3; have c0 := cell_kept hb3 c0; have c1 := cell_kept hb3 c1; have c2 := cell_kept hb3 c2; have c3 := cell_kept hb3 c3; have HB := Lib.hid (HB.out.trans (hb3.mono HB.out.size)); clear hb3) | ((with_reducible go_at_call 25); (with_reducible refine Calls.mono (HLV.out _ HB.out) ?_); rintro e w3 ⟨rfl, hb3⟩; have q3 := block_kept q3 hb3; have c0 := cell_kept hb3 c0; have c1 := cell_kept hb3 c1; have c2 := cell_kept hb3 c2; have c3 := cell_kept hb3 c3; have HB := Lib.hid (HB.out.trans (hb3.mono HB.out.size)); clear hb3))
  go_ret
  exact yesEnd rfl HB.out

set_option maxRecDepth 100000 in
set_option maxHeartbeats 6400000 in
theorem cl_5 {w : World} {A : Option Addr} {F : List FlagP} (hA : FlagsAt w A F) {cap : Nat} (hc : F.length ≤ cap) (hm : cap ≤ 9223372036854775807) (pl un : Bool) (k : Int) {zA : Option Addr} {Z : List Int} {zc : Nat} {vb : Value} {M : List Txt} (hvb : TextIn w vb (M.map mkT)) (h1 : fits20 (F.map ofFlag) = true) (hz : Z.length ≤ 2147483647) (h2 : fits2 (M.map mkT) = true) (h3 : RightK F k = true) (h4 : Z.length = 0) :
    Calls Try.prog 5 #[.agg #[.slice A F.length cap, .bool pl, .bool un, .int .i64 k], .slice zA Z.length zc, vb] w (YesEnd w) := by
  have H19 := Lib.hid (says19 hA hc hm pl un k h1)
  have H2 := Lib.hid (says2 hvb h2)
  have hz2 : ¬ (2147483647 : Int) < (Z.length : Int) := by omega
  have HLV := Lib.hid (saysL w)
  have HRT := Lib.hid (saysR hA cap pl un k h1 h3)
  have HVB := Lib.hid hvb
  obtain ⟨vb0, vbn, vbc, hvbe⟩ := hvb.slice
  clear hvb
  subst hvbe
  have hz3 : (((Z.length : Nat) : Int) == 0) = true := by rw [h4]; rfl
  have hz4 : ((Z.length : Nat) : Int) = 0 := by omega
  rw [h4] at hz2 ⊢
  clear hz3 hz4
  go_enter Try.func5, Try.ntmps5
  go_upto_region 1 with fail
  generalize hWX : w.alloc _ = WX
  have HB : Hid (Below w.heap.size w WX) := Lib.hid (by rw [← hWX]; exact (Below.refl _ _).alloc (Nat.le_refl _) _)
  have q3 : WX.heap[w.heap.size]? = some (.cells #[.slice A F.length cap, .bool pl, .bool un, .int .i64 k] 24 (0, 0)) := by rw [← hWX]; exact heap_alloc_new w _
  clear hWX
  have c0 : WX.cell? ⟨w.heap.size, 0, none⟩ = some (.slice A F.length cap) := (cell_blk q3 0).trans rfl
  have c1 : WX.cell? ⟨w.heap.size, 1, none⟩ = some (.bool pl) := (cell_blk q3 1).trans rfl
  have c2 : WX.cell? ⟨w.heap.size, 2, none⟩ = some (.bool un) := (cell_blk q3 2).trans rfl
  have c3 : WX.cell? ⟨w.heap.size, 3, none⟩ = some (.int .i64 k) := (cell_blk q3 3).trans rfl
  go_wp2_with (first | ((with_reducible go_at_call 14); (with_reducible refine Calls.mono (H19.out _ HB.out) ?_); rintro e w3 ⟨rfl, hb3⟩; have q3 := block_kept q3 hb3; have c0 := cell_kept hb3 c0; have c1 := cell_kept hb3 c1; have c2 := cell_kept hb3 c2; have c3 := cell_kept hb3 c3; have HB := Lib.hid (HB.out.trans (hb3.mono HB.out.size)); clear hb3) | ((with_reducible go_at_call 15); (with_reducible refine Calls.mono (H2.out _ HB.out) ?_); rintro e w3 ⟨rfl, hb3⟩; have q3 := block_kept q3 hb3; have c0 := cell_kept hb3 c0; have c1 := cell_kept hb3 c1; have c2 := cell_kept hb3 c2; have c3 := cell_kept hb3 c3; have HB := Lib.hid (HB.out.trans (hb3.mono HB.out.size)); clear hb3) | ((with_reducible go_at_call 16); (with_reducible refine Calls.mono (HRT.out _ HB.out) ?_); rintro e w3 ⟨rfl, hb3⟩; have q3 := block_kept q3 hb3; have c0 := cell_kept hb3 c0; have c1 := cell_kept hb3 c1; have c2 := cell_kept hb3 c2; have c3 := cell_kept hb3 c3; have HB := Lib.hid (HB.out.trans (hb3.mono HB.out.size)); clear hb3) | ((with_reducible go_at_call 17); (with_reducible refine Calls.mono (HF14.out _ HB.out) ?_); rintro e w3 ⟨rfl, hb3⟩; have q3 := block_kept q3 hb3; have c0 := cell_kept hb3 c0; have c1 := cell_kept hb3 c1; have c2 := cell_kept hb3 c2; have c3 := cell_kept hb3 c3; have HB := Lib.hid (HB.out.trans (hb3.mono HB.out.size)); clear hb3) | ((with_reducible go_at_call 25); (with_reducible refine Calls.mono (HLV.out _ HB.out) ?_); rintro e w3 ⟨rfl, hb3⟩; have q3 := block_kept q3 hb3; have c0 := cell_kept hb3 c0; have c1 := cell_kept hb3 c1; have c2 := cell_kept hb3 c2; have c3 := cell_kept hb3 c3; have HB := Lib.hid (HB.out.trans (hb3.mono HB.out.size)); clear hb3))
  go_ret
  exact yesEnd rfl HB.out

set_option maxRecDepth 100000 in
set_option maxHeartbeats 6400000 in
theorem cl_6 {w : World} {A : Option Addr} {F : List FlagP} (hA : FlagsAt w A F) {cap : Nat} (hc : F.length ≤ cap) (hm : cap ≤ 9223372036854775807) (pl un : Bool) (k : Int) {zA : Option Addr} {Z : List Int} {zc : Nat} {vb : Value} {M : List Txt} (hvb : TextIn w vb (M.map mkT)) (h1 : fits20 (F.map ofFlag) = true) (hz : Z.length ≤ 2147483647) (h2 : fits2 (M.map mkT) = true) (h3 : RightK F k = true) (h4 : ¬ Z = []) (h5 : 1024 < Z.length) :
    Calls Try.prog 5 #[.agg #[.slice A F.length cap, .bool pl, .bool un, .int .i64 k], .slice zA Z.length zc, vb] w (YesEnd w) := by
  have H19 := Lib.hid (says19 hA hc hm pl un k h1)
  have H2 := Lib.hid (says2 hvb h2)
  have hz2 : ¬ (2147483647 : Int) < (Z.length : Int) := by omega
  have HLV := Lib.hid (saysL w)
  have HRT := Lib.hid (saysR hA cap pl un k h1 h3)
  have hz3 : (((Z.length : Nat) : Int) == 0) = false := by simp; exact h4
  have hz5 : (1024 : Int) < ((Z.length : Nat) : Int) := by omega
  have HVB := Lib.hid hvb
  obtain ⟨vb0, vbn, vbc, hvbe⟩ := hvb.slice
  clear hvb
  subst hvbe
  generalize Z.length = zn at *
  go_enter Try.func5, Try.ntmps5
  go_upto_region 1 with fail
  generalize hWX : w.alloc _ = WX
  have HB : Hid (Below w.heap.size w WX) := Lib.hid (by rw [← hWX]; exact (Below.refl _ _).alloc (Nat.le_refl _) _)
  have q3 : WX.heap[w.heap.size]? = some (.cells #[.slice A F.length cap, .bool pl, .bool un, .int .i64 k] 24 (0, 0)) := by rw [← hWX]; exact heap_alloc_new w _
  clear hWX
  have c0 : WX.cell? ⟨w.heap.size, 0, none⟩ = some (.slice A F.length cap) := (cell_blk q3 0).trans rfl
  have c1 : WX.cell? ⟨w.heap.size, 1, none⟩ = some (.bool pl) := (cell_blk q3 1).trans rfl
  have c2 : WX.cell? ⟨w.heap.size, 2, none⟩ = some (.bool un) := (cell_blk q3 2).trans rfl
  have c3 : WX.cell? ⟨w.heap.size, 3, none⟩ = some (.int .i64 k) := (cell_blk q3 3).trans rfl
  go_wp2_with (first | ((with_reducible go_at_call 14); (with_reducible refine Calls.mono (H19.out _ HB.out) ?_); rintro e w3 ⟨rfl, hb3⟩; have q3 := block_kept q3 hb3; have c0 := cell_kept hb3 c0; have c1 := cell_kept hb3 c1; have c2 := cell_kept hb3 c2; have c3 := cell_kept hb3 c3; have HB := Lib.hid (HB.out.trans (hb3.mono HB.out.size)); clear hb3) | ((with_reducible go_at_call 15); (with_reducible refine Calls.mono (H2.out _ HB.out) ?_); rintro e w3 ⟨rfl, hb3⟩; have q3 := block_kept q3 hb3; have c0 := cell_kept hb3 c0; have c1 := cell_kept hb3 c1; have c2 := cell_kept hb3 c2; have c3 := cell_kept hb3 c3; have HB := Lib.hid (HB.out.trans (hb3.mono HB.out.size)); clear hb3) | ((with_reducible go_at_call 16); (with_reducible refine Calls.mono (HRT.out _ HB.out) ?_); rintro e w3 ⟨rfl, hb3⟩; have q3 := block_kept q3 hb3; have c0 := cell_kept hb3 c0; have c1 := cell_kept hb3 c1; have c2 := cell_kept hb3 c2; have c3 := cell_kept hb3 c3; have HB := Lib.hid (HB.out.trans (hb3.mono HB.out.size)); clear hb3) | ((with_reducible go_at_call 17); (with_reducible refine Calls.mono (HF14.out _ HB.out) ?_); rintro e w3 ⟨rfl, hb3⟩; have q3 := block_kept q3 hb3; have c0 := cell_kept hb3 c0; have c1 := cell_kept hb3 c1; have c2 := cell_kept hb3 c2; have c3 := cell_kept hb3 c3; have HB := Lib.hid (HB.out.trans (hb3.mono HB.out.size)); clear hb3) | ((with_reducible go_at_call 25); (with_reducible refine Calls.mono (HLV.out _ HB.out) ?_); rintro e w3 ⟨rfl, hb3⟩; have q3 := block_kept q3 hb3; have c0 := cell_kept hb3 c0; have c1 := cell_kept hb3 c1; have c2 := cell_kept hb3 c2; have c3 := cell_kept hb3 c3; have HB := Lib.hid (HB.out.trans (hb3.mono HB.out.size)); clear hb3))
  go_ret
  exact yesEnd rfl HB.out

set_option maxRecDepth 100000 in
set_option maxHeartbeats 6400000 in
theorem cl_7 {w : World} {A : Option Addr} {F : List FlagP} (hA : FlagsAt w A F) {cap : Nat} (hc : F.length ≤ cap) (hm : cap ≤ 9223372036854775807) (pl un : Bool) (k : Int) {zA : Option Addr} {Z : List Int} {zc : Nat} {vb : Value} {M : List Txt} (hvb : TextIn w vb (M.map mkT)) (h1 : fits20 (F.map ofFlag) = true) (hz : Z.length ≤ 2147483647) (h2 : fits2 (M.map mkT) = true) (h3 : RightK F k = true) (h4 : ¬ Z = []) (h5 : ¬ 1024 < Z.length) (h6 : decide (wtBB [M.map mkT] ≤ 1048576) = false) :
    Calls Try.prog 5 #[.agg #[.slice A F.length cap, .bool pl, .bool un, .int .i64 k], .slice zA Z.length zc, vb] w (YesEnd w) := by
  have H19 := Lib.hid (says19 hA hc hm pl un k h1)
  have H2 := Lib.hid (says2 hvb h2)
  have hz2 : ¬ (2147483647 : Int) < (Z.length : Int) := by omega
  have HLV := Lib.hid (saysL w)
  have HRT := Lib.hid (saysR hA cap pl un k h1 h3)
  have hz3 : (((Z.length : Nat) : Int) == 0) = false := by simp; exact h4
  have hz5 : ¬ (1024 : Int) < ((Z.length : Nat) : Int) := by omega
  have HVB := Lib.hid hvb
  obtain ⟨vb0, vbn, vbc, hvbe⟩ := hvb.slice
  clear hvb
  subst hvbe
  have HF14 := Lib.hid (fun (W : World) (hb : Below w.heap.size w W) => fit14_1 hb HVB.out h2 h6)
  generalize Z.length = zn at hz2 hz3 hz5 ⊢
  go_enter Try.func5, Try.ntmps5
  go_upto_region 1 with fail
  generalize hWX : w.alloc _ = WX
  have HB : Hid (Below w.heap.size w WX) := Lib.hid (by rw [← hWX]; exact (Below.refl _ _).alloc (Nat.le_refl _) _)
  have q3 : WX.heap[w.heap.size]? = some (.cells #[.slice A F.length cap, .bool pl, .bool un, .int .i64 k] 24 (0, 0)) := by rw [← hWX]; exact heap_alloc_new w _
  clear hWX
  have c0 : WX.cell? ⟨w.heap.size, 0, none⟩ = some (.slice A F.length cap) := (cell_blk q3 0).trans rfl
  have c1 : WX.cell? ⟨w.heap.size, 1, none⟩ = some (.bool pl) := (cell_blk q3 1).trans rfl
  have c2 : WX.cell? ⟨w.heap.size, 2, none⟩ = some (.bool un) := (cell_blk q3 2).trans rfl
  have c3 : WX.cell? ⟨w.heap.size, 3, none⟩ = some (.int .i64 k) := (cell_blk q3 3).trans rfl
  go_wp2_with (first | ((with_reducible go_at_call 14); (with_reducible refine Calls.mono (H19.out _ HB.out) ?_); rintro e w3 ⟨rfl, hb3⟩; have q3 := block_kept q3 hb3; have c0 := cell_kept hb3 c0; have c1 := cell_kept hb3 c1; have c2 := cell_kept hb3 c2; have c3 := cell_kept hb3 c3; have HB := Lib.hid (HB.out.trans (hb3.mono HB.out.size)); clear hb3) | ((with_reducible go_at_call 15); (with_reducible refine Calls.mono (H2.out _ HB.out) ?_); rintro e w3 ⟨rfl, hb3⟩; have q3 := block_kept q3 hb3; have c0 := cell_kept hb3 c0; have c1 := cell_kept hb3 c1; have c2 := cell_kept hb3 c2; have c3 := cell_kept hb3 c3; have HB := Lib.hid (HB.out.trans (hb3.mono HB.out.size)); clear hb3) | ((with_reducible go_at_call 16); (with_reducible refine Calls.mono (HRT.out _ HB.out) ?_); rintro e w3 ⟨rfl, hb3⟩; have q3 := block_kept q3 hb3; have c0 := cell_kept hb3 c0; have c1 := cell_kept hb3 c1; have c2 := cell_kept hb3 c2; have c3 := cell_kept hb3 c3; have HB := Lib.hid (HB.out.trans (hb3.mono HB.out.size)); clear hb3) | ((with_reducible go_at_call 17); (with_reducible refine Calls.mono (HF14.out _ HB.out) ?_); rintro e w3 ⟨rfl, hb3⟩; have q3 := block_kept q3 hb3; have c0 := cell_kept hb3 c0; have c1 := cell_kept hb3 c1; have c2 := cell_kept hb3 c2; have c3 := cell_kept hb3 c3; have HB := Lib.hid (HB.out.trans (hb3.mono HB.out.size)); clear hb3) | ((with_reducible go_at_call 25); (with_reducible refine Calls.mono (HLV.out _ HB.out) ?_); rintro e w3 ⟨rfl, hb3⟩; have q3 := block_kept q3 hb3; have c0 := cell_kept hb3 c0; have c1 := cell_kept hb3 c1; have c2 := cell_kept hb3 c2; have c3 := cell_kept hb3 c3; have HB := Lib.hid (HB.out.trans (hb3.mono HB.out.size)); clear hb3))
  go_ret
  exact yesEnd rfl HB.out
def C14 (sv : Value) (S : SetP) (cs : Txt) (mn : Value) (vb : Value) (M : List Txt) : Nat → Value → World → Prop
  | 0, v, _ => v = sv
  | 1, v, _ => v = .string (mkT ((45 :: cs)))
  | 2, v, w => ∃ g, v = .slice (some ⟨g, 0, none⟩) 1 1 ∧ w.heap[g]? = some (.cells #[.string (mkT ((45 :: cs)))] 9 (0, 0))
  | 3, v, _ => v = vb
  | 4, v, w => ∃ g vs, v = .slice (some ⟨g, 0, none⟩) 2 2 ∧ RowsIn w g vs [[mkT ((45 :: cs))], M.map mkT]
  | 5, v, w => TextIn w v ((((45 :: cs) :: M)).map mkT)
  | 6, v, w => HeardOwn w (psOf none true (goes S none st0 (((45 :: cs) :: M)))) (goes S none st0 (((45 :: cs) :: M))).err S.flags.length v
  | 7, v, _ => v = sv
  | 8, v, _ => v = mn
  | 9, v, _ => v = vb
  | 10, v, w => ∃ g vs, v = .slice (some ⟨g, 0, none⟩) 2 2 ∧ RowsIn w g vs [(cs.map fun c => [45, c]).map mkT, M.map mkT]
  | 11, v, w => TextIn w v ((((cs.map fun c => [45, c]) ++ M)).map mkT)
  | 12, v, w => HeardOwn w (psOf none true (goes S none st0 (((cs.map fun c => [45, c]) ++ M)))) (goes S none st0 (((cs.map fun c => [45, c]) ++ M))).err S.flags.length v
  | 13, v, _ => v = .bool true
  | 14, v, _ => v = .bool true
  | 15, v, _ => v = .bool true
  | 16, v, _ => v = .bool true
  | 17, v, _ => v = .bool true
  | _, _, _ => True
theorem C14.below {sv : Value} {S : SetP} {cs : Txt} {mn : Value} {vb : Value} {M : List Txt} {ix : Nat} (hix : ix < 18) {v : Value} {w w' : World} (h : C14 sv S cs mn vb M ix v w) (hb : Below w.heap.size w w') : C14 sv S cs mn vb M ix v w' := by
  match ix, hix, h with
  | 0, _, h => exact h
  | 1, _, h => exact h
  | 2, _, h => obtain ⟨g, e, h⟩ := h; exact ⟨g, e, block_kept h hb⟩
  | 3, _, h => exact h
  | 4, _, h => obtain ⟨g, vs, e, h⟩ := h; exact ⟨g, vs, e, h.below hb⟩
  | 5, _, h => exact TextIn.below h hb
  | 6, _, h => exact HeardOwn.below h hb
  | 7, _, h => exact h
  | 8, _, h => exact h
  | 9, _, h => exact h
  | 10, _, h => obtain ⟨g, vs, e, h⟩ := h; exact ⟨g, vs, e, h.below hb⟩
  | 11, _, h => exact TextIn.below h hb
  | 12, _, h => exact HeardOwn.below h hb
  | 13, _, h => exact h
  | 14, _, h => exact h
  | 15, _, h => exact h
  | 16, _, h => exact h
  | 17, _, h => exact h
  | k + 18, hi, _ => exact absurd hi (by omega)

set_option maxRecDepth 100000 in
set_option maxHeartbeats 12800000 in
theorem cl_8 {w : World} {A : Option Addr} {S : SetP} (hS : SetOK w A S) {cap : Nat} (hc : S.flags.length ≤ cap) (hm : cap ≤ 9223372036854775807) {zA : Option Addr} {Z : List Int} {zc : Nat} (hzi : IntsAt w zA Z) {vb : Value} {M : List Txt} (hvb : TextIn w vb (M.map mkT)) (h1 : fits20 (S.flags.map ofFlag) = true) (hz : Z.length ≤ 2147483647) (h2 : fits2 (M.map mkT) = true) (h3 : RightK S.flags S.fold = true)
    (h4 : ¬ Z = []) (h5 : ¬ 1024 < Z.length) (h6 : decide (wtBB [M.map mkT] ≤ 1048576) = true) :
    Calls Try.prog 5 #[.agg #[.slice A S.flags.length cap, .bool S.plain, .bool S.unknown, .int .i64 S.fold], .slice zA Z.length zc, vb] w (YesEnd w) := by
  have hwt : wt M ≤ 1048576 := by
    have h := of_decide_eq_true h6
    simp only [wtBB, wtB, wt_map] at h; omega
  have H19 := Lib.hid (says19 hS.flg hc hm S.plain S.unknown S.fold h1)
  have H2 := Lib.hid (says2 hvb h2)
  have HRT := Lib.hid (saysR hS.flg cap S.plain S.unknown S.fold h1 h3)
  have HLV := Lib.hid (saysL w)
  have HPC := Lib.hid (says_parse hS cap)
  have HFL := Lib.hid hS.flg
  have HRG := Lib.hid hS.right
  have HZI := Lib.hid hzi
  have hnum := hS.num
  have HXX := Lib.hid (And.intro hwt (And.intro hnum h5))
  have hzp : 0 < Z.length := List.length_pos_iff.2 h4
  have hz2 : ¬ (2147483647 : Int) < (Z.length : Int) := by omega
  have hz3 : (((Z.length : Nat) : Int) == 0) = false := by simp; exact h4
  have hz5 : ¬ (1024 : Int) < ((Z.length : Nat) : Int) := by omega
  have HVB := Lib.hid hvb
  obtain ⟨vb0, vbn, vbc, hvbe⟩ := hvb.slice
  clear hvb
  subst hvbe
  have HF14 := Lib.hid (fun (W : World) (hb : Below w.heap.size w W) => fit14_1 hb HVB.out h2 h6)
  obtain ⟨ti, gi, hz0, hz1, hz2c⟩ := info_parts Try.infoS14
  clear hS h1 h2 h3 h4 h6 hwt hnum hzi
  go_enter Try.func5, Try.ntmps5
  go_upto_region 1 with fail
  generalize hWX : w.alloc _ = WX
  have HB : Hid (Below w.heap.size w WX) := Lib.hid (by rw [← hWX]; exact (Below.refl _ _).alloc (Nat.le_refl _) _)
  have q3 : WX.heap[w.heap.size]? = some (.cells #[.slice A S.flags.length cap, .bool S.plain, .bool S.unknown, .int .i64 S.fold] 24 (0, 0)) := by rw [← hWX]; exact heap_alloc_new w _
  clear hWX
  have c0 : WX.cell? ⟨w.heap.size, 0, none⟩ = some (.slice A S.flags.length cap) := (cell_blk q3 0).trans rfl
  have c1 : WX.cell? ⟨w.heap.size, 1, none⟩ = some (.bool S.plain) := (cell_blk q3 1).trans rfl
  have c2 : WX.cell? ⟨w.heap.size, 2, none⟩ = some (.bool S.unknown) := (cell_blk q3 2).trans rfl
  have c3 : WX.cell? ⟨w.heap.size, 3, none⟩ = some (.int .i64 S.fold) := (cell_blk q3 3).trans rfl
  go_wp2_with (first | ((with_reducible go_at_call 14); (with_reducible refine Calls.mono (H19.out _ HB.out) ?_); rintro e w3 ⟨rfl, hb3⟩; have q3 := block_kept q3 hb3; have c0 := cell_kept hb3 c0; have c1 := cell_kept hb3 c1; have c2 := cell_kept hb3 c2; have c3 := cell_kept hb3 c3; have HB := Lib.hid (HB.out.trans (hb3.mono HB.out.size)); clear hb3) | ((with_reducible go_at_call 15); (with_reducible refine Calls.mono (H2.out _ HB.out) ?_); rintro e w3 ⟨rfl, hb3⟩; have q3 := block_kept q3 hb3; have c0 := cell_kept hb3 c0; have c1 := cell_kept hb3 c1; have c2 := cell_kept hb3 c2; have c3 := cell_kept hb3 c3; have HB := Lib.hid (HB.out.trans (hb3.mono HB.out.size)); clear hb3) | ((with_reducible go_at_call 16); (with_reducible refine Calls.mono (HRT.out _ HB.out) ?_); rintro e w3 ⟨rfl, hb3⟩; have q3 := block_kept q3 hb3; have c0 := cell_kept hb3 c0; have c1 := cell_kept hb3 c1; have c2 := cell_kept hb3 c2; have c3 := cell_kept hb3 c3; have HB := Lib.hid (HB.out.trans (hb3.mono HB.out.size)); clear hb3) | ((with_reducible go_at_call 17); (with_reducible refine Calls.mono (HF14.out _ HB.out) ?_); rintro e w3 ⟨rfl, hb3⟩; have q3 := block_kept q3 hb3; have c0 := cell_kept hb3 c0; have c1 := cell_kept hb3 c1; have c2 := cell_kept hb3 c2; have c3 := cell_kept hb3 c3; have HB := Lib.hid (HB.out.trans (hb3.mono HB.out.size)); clear hb3) | ((with_reducible go_at_call 25); (with_reducible refine Calls.mono (HLV.out _ HB.out) ?_); rintro e w3 ⟨rfl, hb3⟩; have q3 := block_kept q3 hb3; have c0 := cell_kept hb3 c0; have c1 := cell_kept hb3 c1; have c2 := cell_kept hb3 c2; have c3 := cell_kept hb3 c3; have HB := Lib.hid (HB.out.trans (hb3.mono HB.out.size)); clear hb3))
  have HOW0 : Hid ((w3.alloc (.cells #[] 9)).ownsRow w.heap.size 9 1 (.slice (some ⟨w3.heap.size, 0, none⟩) 0 0) 0 (aCells [])) := Lib.hid (own_empty HB.out.size)
  generalize hwL : w3.alloc (.cells #[] 9) = wL at HOW0
  have hb9 : Below w3.heap.size w3 wL := by rw [← hwL]; exact (Below.refl _ _).alloc (Nat.le_refl _) _
  clear hwL
  have HB : Hid (Below w.heap.size w wL) := Lib.hid (HB.out.trans (hb9.mono HB.out.size))
  have Q3 := Lib.hid (block_kept q3 hb9)
  clear q3 c0 c1 c2 c3 hb9
  go_loopw [7, 8, 47] (fun one many i wr => ∃ (cs : Txt) (mA : Option Addr) (mc : Nat), cs.length ≤ Z.length ∧ i = .int .i64 (cs.length : Nat) ∧ one = .string (mkT (45 :: cs)) ∧ many = .slice mA cs.length mc ∧ Hid (Below w.heap.size w wr) ∧ Hid (wr.heap[w.heap.size]? = some (.cells #[.slice A S.flags.length cap, .bool S.plain, .bool S.unknown, .int .i64 S.fold] 24 (0, 0))) ∧ Hid (wr.ownsRow w.heap.size 9 1 (.slice mA cs.length mc) cs.length (aCells (cs.map fun c => [45, c]))) ∧ Hid (∀ c ∈ cs, ∃ i, Alone S c i)) (fun _ _ i _ => Z.length - (intOf i).toNat)
  case atStart => exact ⟨[], _, _, Nat.zero_le _, rfl, rfl, rfl, HB, Q3, HOW0, Lib.hid (by simp)⟩
  case round =>
    clear HB Q3 HOW0
    obtain ⟨cs, mA, mc, hk, rfl, rfl, rfl, HB, Q3, HOW, HAL⟩ := hrel
    have i0 : (0 : Int) ≤ (cs.length : Int) := Int.natCast_nonneg _
    have hbs := HB.out.size
    have q3 := Q3.out
    by_cases hlt : cs.length < Z.length
    · have i1 : (cs.length : Int) < (Z.length : Int) := by omega
      obtain ⟨zb, zo, hze, hzc⟩ := HZI.out cs.length hlt
      subst hze
      have d0 := cell_kept HB.out hzc
      clear hzc
      generalize Z[cs.length] = j at d0
      have c0 : wr.cell? ⟨w.heap.size, 0, none⟩ = some (.slice A S.flags.length cap) := (cell_blk q3 0).trans rfl
      have c1 : wr.cell? ⟨w.heap.size, 1, none⟩ = some (.bool S.plain) := (cell_blk q3 1).trans rfl
      have c2 : wr.cell? ⟨w.heap.size, 2, none⟩ = some (.bool S.unknown) := (cell_blk q3 2).trans rfl
      have c3 : wr.cell? ⟨w.heap.size, 3, none⟩ = some (.int .i64 S.fold) := (cell_blk q3 3).trans rfl
      cases hfg : decide (0 ≤ j ∧ j < (S.flags.length : Int)) with
      | false =>
        have HFG := Lib.hid (saysF (w := w) A S.flags.length cap S.plain S.unknown S.fold hfg)
        clear hfg
        go_wp2_with (first | ((with_reducible go_at_call 24); (with_reducible refine Calls.mono (HFG.out _ HB.out) ?_); rintro e w3 ⟨rfl, hb3⟩; have HB := Lib.hid (HB.out.trans (hb3.mono HB.out.size)); clear hb3) | ((with_reducible go_at_call 25); (with_reducible refine Calls.mono (HLV.out _ HB.out) ?_); rintro e w3 ⟨rfl, hb3⟩; have HB := Lib.hid (HB.out.trans (hb3.mono HB.out.size)); clear hb3))
        go_ret
        exact yesEnd rfl HB.out
      | true =>
      have HFG := Lib.hid (saysF (w := w) A S.flags.length cap S.plain S.unknown S.fold hfg)
      obtain ⟨j0, j1⟩ := of_decide_eq_true hfg
      obtain ⟨i, rfl⟩ := Int.eq_ofNat_of_zero_le j0
      clear hfg
      have hi : i < S.flags.length := by omega
      obtain ⟨fb, fo, fv, hAe, f0, f1, f2, -⟩ := HFL.out i hi
      subst hAe
      have e0 := cell_kept HB.out f0
      have e1 := cell_kept HB.out f1
      have e2 := cell_kept HB.out f2
      clear f0 f1 f2
      have HSI : Hid (S.flags[i].short ≠ [] → S.flags[i].noOpt ≠ [] → ∃ c, S.flags[i].short = [c] ∧ Alone S c i) := Lib.hid (alone_of HRG.out hi)
      generalize S.flags[i].name = nm at e0
      generalize S.flags[i].short = ns at e1 HSI
      generalize S.flags[i].noOpt = nv at e2 HSI
      by_cases hns : ns = []
      · subst hns
        have e1 : wr.cell? ⟨fb, fo + i * 4 + 1, none⟩ = some (.string ⟨#[]⟩) := e1
        clear HSI
        go_wp2_with (first | ((with_reducible go_at_call 24); (with_reducible refine Calls.mono (HFG.out _ HB.out) ?_); rintro e w3 ⟨rfl, hb3⟩; have q3 := block_kept q3 hb3; have c0 := cell_kept hb3 c0; have c1 := cell_kept hb3 c1; have c2 := cell_kept hb3 c2; have c3 := cell_kept hb3 c3; have e0 := cell_kept hb3 e0; have e1 := cell_kept hb3 e1; have e2 := cell_kept hb3 e2; have HOW := Lib.hid (own_kept HOW.out hb3); have hbs := Nat.le_trans hbs hb3.size; have HB := Lib.hid (HB.out.trans (hb3.mono HB.out.size)); clear hb3) | ((with_reducible go_at_call 25); (with_reducible refine Calls.mono (HLV.out _ HB.out) ?_); rintro e w3 ⟨rfl, hb3⟩; have HB := Lib.hid (HB.out.trans (hb3.mono HB.out.size)); clear hb3))
        go_ret
        exact yesEnd rfl HB.out
      have po := mkT_pos hns
      have po1 := nonempty_list po
      have po2 := nonempty_not po
      by_cases hnv : nv = []
      · subst hnv
        have e2 : wr.cell? ⟨fb, fo + i * 4 + 2, none⟩ = some (.string ⟨#[]⟩) := e2
        clear HSI hns
        generalize mkT ns = x at e1 po po1 po2
        go_wp2_with (first | ((with_reducible go_at_call 24); (with_reducible refine Calls.mono (HFG.out _ HB.out) ?_); rintro e w3 ⟨rfl, hb3⟩; have q3 := block_kept q3 hb3; have c0 := cell_kept hb3 c0; have c1 := cell_kept hb3 c1; have c2 := cell_kept hb3 c2; have c3 := cell_kept hb3 c3; have e0 := cell_kept hb3 e0; have e1 := cell_kept hb3 e1; have e2 := cell_kept hb3 e2; have HOW := Lib.hid (own_kept HOW.out hb3); have hbs := Nat.le_trans hbs hb3.size; have HB := Lib.hid (HB.out.trans (hb3.mono HB.out.size)); clear hb3) | ((with_reducible go_at_call 25); (with_reducible refine Calls.mono (HLV.out _ HB.out) ?_); rintro e w3 ⟨rfl, hb3⟩; have HB := Lib.hid (HB.out.trans (hb3.mono HB.out.size)); clear hb3))
        go_ret
        exact yesEnd rfl HB.out
      have pv := mkT_pos hnv
      have pv1 := nonempty_list pv
      have pv2 := nonempty_not pv
      obtain ⟨c, hce, hal⟩ := HSI.out hns hnv
      subst hce
      have HA1 := Lib.hid hal
      clear HSI hns hnv hal
      have hx1 : (mkT [c]).size = 1 := rfl
      generalize hx : mkT [c] = x at e1 po po1 po2 hx1
      have HX := Lib.hid hx
      clear hx
      have hcs : (mkT (45 :: cs)).size = cs.length + 1 := by rw [mkT_size]; simp
      generalize hy : mkT (45 :: cs) = y at hcs
      have HY := Lib.hid hy
      clear hy
      have h1024 := HXX.out.2.2
      have hc5 : cs.length ≤ 1024 := by omega
      have sz1 : ¬ 9223372036854775807 < y.size + x.size := by omega
      have sz2 : ¬ 9223372036854775807 < 1 + x.size := by omega
      go_wp2_with (first | ((with_reducible go_at_call 24); (with_reducible refine Calls.mono (HFG.out _ HB.out) ?_); rintro e w3 ⟨rfl, hb3⟩; have q3 := block_kept q3 hb3; have c0 := cell_kept hb3 c0; have c1 := cell_kept hb3 c1; have c2 := cell_kept hb3 c2; have c3 := cell_kept hb3 c3; have e0 := cell_kept hb3 e0; have e1 := cell_kept hb3 e1; have e2 := cell_kept hb3 e2; have HOW := Lib.hid (own_kept HOW.out hb3); have hbs := Nat.le_trans hbs hb3.size; have HB := Lib.hid (HB.out.trans (hb3.mono HB.out.size)); clear hb3) | (at_builtin; refine wpList_append_any rfl (.tmp 82) (.tmp 90) 25 rfl w.heap.size 9 ti _ 1 16 Try.underlying25 gi hz0 hz1 hz2c rfl (by decide) _ cs.length _ rfl (HOW.out.alloc _) (some ⟨w3.heap.size, 0, none⟩) 1 1 [.string (⟨#[45]⟩ ++ x)] rfl (fun h => by cases h) rfl (fun ad e => by cases e; exact World.news_of_block (cs := #[.string (⟨#[45]⟩ ++ x)]) (t := 9) (fr := (0, 0)) (heap_alloc_new w3 _)) (by simp [Value.oneCell']) (by unfold maxLen; omega) (by omega) (by simp; omega) ?_; intro v8 w8 hown8 hg8))
      obtain ⟨A8, c8, hv8, _⟩ := own_row hown8
      subst hv8
      have hb8 : Below w.heap.size w3 w8 := below_app HB.out.size hg8 (fun k hk => (HOW.out.lt k hk).1)
      have HB8 : Hid (Below w.heap.size w w8) := Lib.hid (HB.out.trans (hb8.mono (Nat.le_refl _)))
      have Q8 := Lib.hid (app_block q3 hg8 (fun e => own_far3 HOW.out q3 (by decide) e))
      have HO8 : Hid (w8.ownsRow w.heap.size 9 1 (.slice A8 (cs.length + 1) c8) (cs.length + 1) (aCells ((cs ++ [c]).map fun c => [45, c]))) := Lib.hid (by
        have e : aCells ((cs ++ [c]).map fun c => [45, c]) = aCells (cs.map fun c => [45, c]) ++ [.string (⟨#[45]⟩ ++ x)] := by
          rw [← HX.out]; unfold aCells; simp [← mkT_app]; rfl
        rw [e]; exact hown8)
      have hlen : (cs ++ [c]).length = cs.length + 1 := by simp
      clear hown8 hg8 hb8
      go_roundw
      case rel => exact ⟨cs ++ [c], A8, c8, by rw [hlen]; omega, by rw [hlen]; go_num, (by rw [← HY.out, ← HX.out, mkT_app]; rfl), by rw [hlen], HB8, Q8, (by rw [hlen]; exact HO8), Lib.hid (fun d hd => by
        rcases List.mem_append.1 hd with h | h
        · exact HAL.out d h
        · rw [List.mem_singleton] at h; subst h; exact ⟨i, HA1.out⟩)⟩
      case measure => simp [intOf]; omega
    have hke : cs.length = Z.length := by omega
    have i1 : ¬ (cs.length : Int) < (Z.length : Int) := by omega
    have hbx := HB.out
    have HVC := Lib.hid (HVB.out.below hbx)
    have HMN : Hid (TextIn wr (.slice mA cs.length mc) ((cs.map fun c => [45, c]).map mkT)) := Lib.hid (by
      have e : strCells ((cs.map fun c => [45, c]).map mkT) = aCells (cs.map fun c => [45, c]) := by unfold strCells aCells; rw [List.map_map]; rfl
      refine textIn_own (base := w.heap.size) (n := cs.length) ?_
      rw [e]; exact HOW.out)
    obtain ⟨hwt, hnum2, h1024⟩ := HXX.out
    have hcn : cs ≠ [] := fun e => by rw [e] at hke; simp at hke; omega
    have HEQ : Hid (goes S none st0 ((45 :: cs) :: M) = goes S none st0 ((cs.map fun c => [45, c]) ++ M)) := Lib.hid (law_cluster M cs st0 HAL.out hcn rfl)
    have hwl := wt_len M
    have hwc := wt_ones cs
    have hc5 : cs.length ≤ 1024 := by omega
    have hw1 : wt ((45 :: cs) :: M) ≤ 1099511627776 := by
      have e : wt ((45 :: cs) :: M) = (45 :: cs).length + 1 + wt M := rfl
      rw [e, List.length_cons]; omega
    have hw2 : wt ((cs.map fun c => [45, c]) ++ M) ≤ 1099511627776 := by rw [wt_app, hwc]; omega
    have hl1 : ∀ t ∈ (45 :: cs) :: M, t.length ≤ 8589934592 := by
      intro t ht
      rcases List.mem_cons.1 ht with h | h
      · rw [h, List.length_cons]; omega
      · have := wt_mem h; omega
    have hl2 : ∀ t ∈ (cs.map fun c => [45, c]) ++ M, t.length ≤ 8589934592 := by
      intro t ht
      rcases List.mem_append.1 ht with h | h
      · obtain ⟨c, _, rfl⟩ := List.mem_map.1 h; simp
      · have := wt_mem h; omega
    have hflat1 : [[mkT (45 :: cs)], M.map mkT].flatten.length < 8796093022208 := by simp; omega
    have hflat2 : [(cs.map fun c => [45, c]).map mkT, M.map mkT].flatten.length < 8796093022208 := by simp; omega
    have hgo := goes_len S none st0 ((45 :: cs) :: M)
    have hg1 : (psOf none true (goes S none st0 ((45 :: cs) :: M))).G.length ≤ 1099511627776 := by
      have e : (psOf none true (goes S none st0 ((45 :: cs) :: M))).G.length = (goes S none st0 ((45 :: cs) :: M)).given.length := rfl
      rw [e]; have : st0.given.length = 0 := rfl; omega
    have hg2 : (psOf none true (goes S none st0 ((45 :: cs) :: M))).A.length ≤ 1099511627776 := by
      have e : (psOf none true (goes S none st0 ((45 :: cs) :: M))).A.length = (goes S none st0 ((45 :: cs) :: M)).args.length := rfl
      have e2 : ((45 :: cs) :: M).length = M.length + 1 := rfl
      rw [e]; have : st0.args.length = 0 := rfl; omega
    clear hgo hlt HOW HAL hcn
    go_upto_region 14 with fail
    refine region_inv (by kernel_rfl) (fun u v => Below u.heap.size u v) (C14 (.agg #[.slice A S.flags.length cap, .bool S.plain, .bool S.unknown, .int .i64 S.fold]) (S) (cs) (.slice mA cs.length mc) (.slice vb0 vbn vbc) (M)) (fun i => false) (fun i => [93, 94, 95, 96, 97, 98, 99, 100, 101, 102, 103, 104, 105, 106, 107, 108, 109, 6].getD i 0) 18
      (Below.refl _ _) (fun _ _ _ h k => below_step h k) (fun i hi v u u' h hb => C14.below hi h hb) ?_ ?_ (by kernel_rfl) (by kernel_rfl) (by kernel_rfl) (by kernel_rfl) ?_ ?_
    · intro i hi hA; cases hA
    · intro i hi o ho g want hg v u hR
      match i, hi with
      | 0, _ =>
        cases ho
        cases hg
      | 1, _ =>
        cases ho
        cases hg
      | 2, _ =>
        cases ho
        cases hg
      | 3, _ =>
        cases ho
        cases hg
      | 4, _ =>
        cases ho
        cases hg
      | 5, _ =>
        cases ho
        cases hg
      | 6, _ =>
        cases ho
        cases hg
      | 7, _ =>
        cases ho
        cases hg
      | 8, _ =>
        cases ho
        cases hg
      | 9, _ =>
        cases ho
        cases hg
      | 10, _ =>
        cases ho
        cases hg
      | 11, _ =>
        cases ho
        cases hg
      | 12, _ =>
        cases ho
        cases hg
      | 13, _ =>
        cases ho
        cases hg
      | 14, _ =>
        cases ho
        cases hg
      | 15, _ =>
        cases ho
        cases hg; exact hR
      | 16, _ =>
        cases ho
        cases hg
      | 17, _ =>
        cases ho
        cases hg
      | k + 18, hi => exact absurd hi (by omega)
    · intro i hi o ho a u hG hk hd
      have hG9 : Below wr.heap.size wr u := ((Below.refl _ _).drew).trans hG
      match i, hi with
      | 0, _ =>
        cases ho
        exact ow_load_set rfl ((hk 3 (by decide)).trans rfl) (block_kept q3 hG9) ⟨_, rfl, rfl, Below.refl _ _, fun h => by cases h⟩
      | 1, _ =>
        cases ho
        exact ow_move rfl ((hk 7 (by decide)).trans rfl) ⟨_, rfl, rfl, Below.refl _ _, fun h => by cases h⟩
      | 2, _ =>
        cases ho
        have e94 : a.eval (.tmp 94) = _ := hd 1 (by kernel_rfl) (by decide)
        exact ow_build1 (s := mkT ((45 :: cs))) (v := .nilIface) rfl e94 ⟨_, rfl, ⟨_, rfl, heap_alloc_new _ _⟩, (Below.refl _ _).alloc (Nat.le_refl _) _, fun h => by cases h⟩
      | 3, _ =>
        cases ho
        exact ow_move rfl ((hk 2 (by decide)).trans rfl) ⟨_, rfl, rfl, Below.refl _ _, fun h => by cases h⟩
      | 4, _ =>
        cases ho
        obtain ⟨g95, e95, hg95⟩ := hd 2 (by kernel_rfl) (by decide)
        have e96 : a.eval (.tmp 96) = _ := hd 3 (by kernel_rfl) (by decide)
        exact ow_rows2 rfl e95 e96 ⟨_, rfl, ⟨_, _, rfl, rows2 (heap_alloc_new _ _) ((one_text hg95).below ((Below.refl _ _).alloc (Nat.le_refl _) _)) ((HVC.out.below hG9).below ((Below.refl _ _).alloc (Nat.le_refl _) _))⟩, (Below.refl _ _).alloc (Nat.le_refl _) _, fun h => by cases h⟩
      | 5, _ =>
        cases ho
        obtain ⟨g, vs, e97', hr⟩ := hd 4 (by kernel_rfl) (by decide)
        have e97 : a.eval (.tmp 97) = .slice (some ⟨g, 0, none⟩) 2 2 := e97'
        have hl14 : Calls Try.prog 27 #[.slice (some ⟨g, 0, none⟩) 2 2] u _ := list14_c (ls := [[mkT ((45 :: cs))], M.map mkT]) hr (by (show 2 ≤ 2147483647; decide)) (Nat.le_refl 2) hflat1
        refine ow_call #[.tmp 97] #[68] 27 Try.func27 (by kernel_rfl) (by rfl) rfl #[.slice (some ⟨g, 0, none⟩) 2 2] (by simp only [List.map_toArray, List.map_cons, List.map_nil, e97]) hl14 ?_
        rintro e u2 ⟨v, rfl, hv2, hb2⟩
        refine ⟨v, rfl, _, rfl, ?_, hb2, fun h => by cases h⟩
        show TextIn u2 v ((((45 :: cs) :: M)).map mkT)
        simpa using hv2
      | 6, _ =>
        cases ho
        have e93 : a.eval (.tmp 93) = _ := hd 0 (by kernel_rfl) (by decide)
        have e98 : TextIn u (a.eval (.tmp 98)) ((((45 :: cs) :: M)).map mkT) := hd 5 (by kernel_rfl) (by decide)
        refine ow_call #[.tmp 93, .tmp 98] #[24, 25] 26 Try.func26 (by kernel_rfl) (by rfl) rfl #[_, a.eval (.tmp 98)] (by simp only [List.map_toArray, List.map_cons, List.map_nil, e93]) (HPC.out u (hbx.trans (hG9.mono hbx.size)) _ (((45 :: cs) :: M)) e98 hw1 hl1) ?_
        rintro e u2 ⟨v, rfl, hv2, hb2⟩
        exact ⟨v, rfl, _, rfl, hv2, hb2, fun h => by cases h⟩
      | 7, _ =>
        cases ho
        exact ow_load_set rfl ((hk 3 (by decide)).trans rfl) (block_kept q3 hG9) ⟨_, rfl, rfl, Below.refl _ _, fun h => by cases h⟩
      | 8, _ =>
        cases ho
        exact ow_move rfl ((hk 8 (by decide)).trans rfl) ⟨_, rfl, rfl, Below.refl _ _, fun h => by cases h⟩
      | 9, _ =>
        cases ho
        exact ow_move rfl ((hk 2 (by decide)).trans rfl) ⟨_, rfl, rfl, Below.refl _ _, fun h => by cases h⟩
      | 10, _ =>
        cases ho
        have e101 : a.eval (.tmp 101) = _ := hd 8 (by kernel_rfl) (by decide)
        have e102 : a.eval (.tmp 102) = _ := hd 9 (by kernel_rfl) (by decide)
        exact ow_rows2 rfl e101 e102 ⟨_, rfl, ⟨_, _, rfl, rows2 (heap_alloc_new _ _) ((HMN.out.below hG9).below ((Below.refl _ _).alloc (Nat.le_refl _) _)) ((HVC.out.below hG9).below ((Below.refl _ _).alloc (Nat.le_refl _) _))⟩, (Below.refl _ _).alloc (Nat.le_refl _) _, fun h => by cases h⟩
      | 11, _ =>
        cases ho
        obtain ⟨g, vs, e103', hr⟩ := hd 10 (by kernel_rfl) (by decide)
        have e103 : a.eval (.tmp 103) = .slice (some ⟨g, 0, none⟩) 2 2 := e103'
        have hl14 : Calls Try.prog 27 #[.slice (some ⟨g, 0, none⟩) 2 2] u _ := list14_c (ls := [(cs.map fun c => [45, c]).map mkT, M.map mkT]) hr (by (show 2 ≤ 2147483647; decide)) (Nat.le_refl 2) hflat2
        refine ow_call #[.tmp 103] #[68] 27 Try.func27 (by kernel_rfl) (by rfl) rfl #[.slice (some ⟨g, 0, none⟩) 2 2] (by simp only [List.map_toArray, List.map_cons, List.map_nil, e103]) hl14 ?_
        rintro e u2 ⟨v, rfl, hv2, hb2⟩
        refine ⟨v, rfl, _, rfl, ?_, hb2, fun h => by cases h⟩
        show TextIn u2 v ((((cs.map fun c => [45, c]) ++ M)).map mkT)
        rw [List.map_append]
        simpa using hv2
      | 12, _ =>
        cases ho
        have e100 : a.eval (.tmp 100) = _ := hd 7 (by kernel_rfl) (by decide)
        have e104 : TextIn u (a.eval (.tmp 104)) ((((cs.map fun c => [45, c]) ++ M)).map mkT) := hd 11 (by kernel_rfl) (by decide)
        refine ow_call #[.tmp 100, .tmp 104] #[24, 25] 26 Try.func26 (by kernel_rfl) (by rfl) rfl #[_, a.eval (.tmp 104)] (by simp only [List.map_toArray, List.map_cons, List.map_nil, e100]) (HPC.out u (hbx.trans (hG9.mono hbx.size)) _ (((cs.map fun c => [45, c]) ++ M)) e104 hw2 hl2) ?_
        rintro e u2 ⟨v, rfl, hv2, hb2⟩
        exact ⟨v, rfl, _, rfl, hv2, hb2, fun h => by cases h⟩
      | 13, _ =>
        cases ho
        have e99 : HeardOwn u (psOf none true (goes S none st0 (((45 :: cs) :: M)))) (goes S none st0 (((45 :: cs) :: M))).err S.flags.length (a.eval (.tmp 99)) := hd 6 (by kernel_rfl) (by decide)
        have e105 : HeardOwn u (psOf none true (goes S none st0 (((cs.map fun c => [45, c]) ++ M)))) (goes S none st0 (((cs.map fun c => [45, c]) ++ M))).err S.flags.length (a.eval (.tmp 105)) := hd 12 (by kernel_rfl) (by decide)
        rw [← HEQ.out] at e105
        refine ow_call #[.tmp 99, .tmp 105] #[32, 32] 22 Try.func22 (by kernel_rfl) (by rfl) rfl #[a.eval (.tmp 99), a.eval (.tmp 105)] (by simp only [List.map_toArray, List.map_cons, List.map_nil]) (same_c e99.is e105.is hg1 hg2 hnum2) ?_
        rintro e u2 ⟨rfl, hb2⟩
        exact ⟨_, rfl, _, rfl, rfl, hb2, fun h => by cases h⟩
      | 14, _ =>
        cases ho
        have e106 : a.eval (.tmp 106) = .bool true := hd 13 (by kernel_rfl) (by decide)
        exact ow_move rfl e106 ⟨_, rfl, rfl, Below.refl _ _, fun h => by cases h⟩
      | 15, _ =>
        cases ho
        refine ow_call #[] #[] 25 Try.func25 (by kernel_rfl) (by rfl) rfl #[] (by simp only [List.map_toArray, List.map_nil]) (HLV.out u (hbx.trans (hG9.mono hbx.size))) ?_
        rintro e u2 ⟨rfl, hb2⟩
        exact ⟨_, rfl, _, rfl, rfl, hb2, fun h => by cases h⟩
      | 16, _ =>
        cases ho
        have e107 : a.eval (.tmp 107) = .bool true := hd 14 (by kernel_rfl) (by decide)
        have e108 : a.eval (.tmp 108) = .bool true := hd 15 (by kernel_rfl) (by decide)
        exact ow_pick rfl e107 e108 ⟨_, rfl, rfl, Below.refl _ _, fun h => by cases h⟩
      | 17, _ =>
        cases ho
        have e109 : a.eval (.tmp 109) = .bool true := hd 16 (by kernel_rfl) (by decide)
        exact ow_assign rfl e109 ⟨_, rfl, rfl, Below.refl _ _, fun h => by cases h⟩
      | k + 18, hi => exact absurd hi (by omega)
    · intro x u hG hx hdif
      have hlast : x 17 = _ := hx 17 (by decide)
      simp only [putAll, Act.put, List.getD_cons_zero, List.getD_cons_succ, List.setIfInBounds_toArray, List.set_cons_succ, List.set_cons_zero]
      refine wpAny_end (by kernel_rfl) ?_
      rw [hlast]
      go_wp2
      go_ret
      exact yesEnd rfl (hbx.trans ((((Below.refl _ _).drew).trans hG).mono hbx.size))
end Go.Proofs.Ytgmhhdpggnmipaa.E
