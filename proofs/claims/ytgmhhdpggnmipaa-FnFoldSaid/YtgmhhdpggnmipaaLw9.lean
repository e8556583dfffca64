/- laws.FnFold over this seat's program. Written by gen_lw9.py. -/
import Derived.Test.YtgmhhdpggnmipaaLw7
namespace Go.Proofs.Ytgmhhdpggnmipaa.E
open Go.RowKit Go.Proofs
set_option linter.unusedVariables false
set_option linter.unusedSimpArgs false
theorem two_texts {w : World} {g : Nat} {s t : ByteArray} {T : TypeId} (h : w.heap[g]? = some (.cells #[.string s, .string t] T (0, 0))) : TextIn w (.slice (some ⟨g, 0, none⟩) 2 2) [s, t] := by
  refine ⟨_, 2, rfl, ?_, Nat.le_refl _, by decide, (fun h => by cases h), (fun a e => by cases e; exact lt_of_block h)⟩
  intro i hi
  have hi : i < 2 := hi
  match i, hi with
  | 0, _ => exact ⟨g, 0, rfl, (cell_blk h 0).trans rfl⟩
  | 1, _ => exact ⟨g, 0, rfl, (cell_blk h 1).trans rfl⟩
theorem fold_le {F : List FlagP} {k : Nat} (h : RightK F (k : Int) = true) : k ≤ 3 := by
  unfold RightK at h
  simp only [Bool.and_eq_true, decide_eq_true_eq] at h
  omega
theorem sfold_txt {k : Nat} (hk : k ≤ 3) (t : Txt) (hs : (mkT t).size ≤ 2147483647) (w : World) : Calls Try.prog 31 #[.int .i64 (k : Int), .string (mkT t)] w fun e w' => e = .returned (.string (mkT (foldT k t))) ∧ Below w.heap.size w w' := by
  have h := sfold_nat k hk (mkT t) hs w
  rw [mkT_list] at h; exact h
theorem mkT_beq_eq {a b : Txt} (h : a = b) : ((mkT a).toList == (mkT b).toList) = true := by rw [h]; exact beq_self_eq_true _
theorem mkT_beq_ne {a b : Txt} (h : ¬ a = b) : ((mkT a).toList == (mkT b).toList) = false := by
  apply beq_eq_false_iff_ne.2
  rw [mkT_toList, mkT_toList]
  exact h

set_option maxRecDepth 100000 in
set_option maxHeartbeats 6400000 in
theorem fold_1 {w : World} {A : Option Addr} {F : List FlagP} (hA : FlagsAt w A F) {cap : Nat} (hc : F.length ≤ cap) (hm : cap ≤ 9223372036854775807) (pl un : Bool) (k : Int) (j : Int) (t vl : Txt) {vb : Value} {M : List Txt} (hvb : TextIn w vb (M.map mkT)) (h1 : fits20 (F.map ofFlag) = false)  :
    Calls Try.prog 7 #[.agg #[.slice A F.length cap, .bool pl, .bool un, .int .i64 k], .int .i64 j, .string (mkT t), .string (mkT vl), vb] w (YesEnd w) := by
  have H19 := Lib.hid (says19 hA hc hm pl un k h1)
  have HVB := Lib.hid hvb
  obtain ⟨vb0, vbn, vbc, hvbe⟩ := hvb.slice
  clear hvb
  subst hvbe
  go_enter Try.func7, Try.ntmps7
  go_upto_region 1 with fail
  generalize hWX : w.alloc _ = WX
  have HB : Hid (Below w.heap.size w WX) := Lib.hid (by rw [← hWX]; exact (Below.refl _ _).alloc (Nat.le_refl _) _)
  have q3 : WX.heap[w.heap.size]? = some (.cells #[.slice A F.length cap, .bool pl, .bool un, .int .i64 k] 24 (0, 0)) := by rw [← hWX]; exact heap_alloc_new w _
  clear hWX
  have c0 : WX.cell? ⟨w.heap.size, 0, none⟩ = some (.slice A F.length cap) := (cell_blk q3 0).trans rfl
  have c1 : WX.cell? ⟨w.heap.size, 1, none⟩ = some (.bool pl) := (cell_blk q3 1).trans rfl
  have c2 : WX.cell? ⟨w.heap.size, 2, none⟩ = some (.bool un) := (cell_blk q3 2).trans rfl
  have c3 : WX.cell? ⟨w.heap.size, 3, none⟩ = some (.int .i64 k) := (cell_blk q3 3).trans rfl
  go_wp2_with (first | ((with_reducible go_at_call 14); (with_reducible refine Calls.mono (H19.out _ HB.out) ?_); rintro e w3 ⟨rfl, hb3⟩; have q3 := block_kept q3 hb3; have c0 := cell_kept hb3 c0; have c1 := cell_kept hb3 c1; have c2 := cell_kept hb3 c2; have c3 := cell_kept hb3 c3; have HB := Lib.hid (HB.out.trans (hb3.mono HB.out.size)); clear hb3) | ((with_reducible go_at_call 15); (with_reducible refine Calls.mono (H2.out _ HB.out) ?_); rintro e w3 ⟨rfl, hb3⟩; have q3 := block_kept q3 hb3; have c0 := cell_kept hb3 c0; have c1 := cell_kept hb3 c1; have c2 := cell_kept hb3 c2; have c3 := cell_kept hb3 c3; have HB := Lib.hid (HB.out.trans (hb3.mono HB.out.size)); clear hb3) | ((with_reducible go_at_call 16); (with_reducible refine Calls.mono (HRT.out _ HB.out) ?_); rintro e w3 ⟨rfl, hb3⟩; have q3 := block_kept q3 hb3; have c0 := cell_kept hb3 c0; have c1 := cell_kept hb3 c1; have c2 := cell_kept hb3 c2; have c3 := cell_kept hb3 c3; have HB := Lib.hid (HB.out.trans (hb3.mono HB.out.size)); clear hb3) | ((with_reducible go_at_call 24); (with_reducible refine Calls.mono (HFG.out _ HB.out) ?_); rintro e w3 ⟨rfl, hb3⟩; have q3 := block_kept q3 hb3; have c0 := cell_kept hb3 c0; have c1 := cell_kept hb3 c1; have c2 := cell_kept hb3 c2; have c3 := cell_kept hb3 c3; have HB := Lib.hid (HB.out.trans (hb3.mono HB.out.size)); clear hb3) | ((with_reducible go_at_call 25); (with_reducible refine Calls.mono (HLV.out _ HB.out) ?_); rintro e w3 ⟨rfl, hb3⟩; have q3 := block_kept q3 hb3; have c0 := cell_kept hb3 c0; have c1 := cell_kept hb3 c1; have c2 := cell_kept hb3 c2; have c3 := cell_kept hb3 c3; have HB := Lib.hid (HB.out.trans (hb3.mono HB.out.size)); clear hb3))
  go_ret
  exact yesEnd rfl HB.out

set_option maxRecDepth 100000 in
set_option maxHeartbeats 6400000 in
theorem fold_2 {w : World} {A : Option Addr} {F : List FlagP} (hA : FlagsAt w A F) {cap : Nat} (hc : F.length ≤ cap) (hm : cap ≤ 9223372036854775807) (pl un : Bool) (k : Int) (j : Int) (t vl : Txt) {vb : Value} {M : List Txt} (hvb : TextIn w vb (M.map mkT)) (h1 : fits20 (F.map ofFlag) = true) (hzt : ¬ (mkT t).size ≤ 2147483647) :
    Calls Try.prog 7 #[.agg #[.slice A F.length cap, .bool pl, .bool un, .int .i64 k], .int .i64 j, .string (mkT t), .string (mkT vl), vb] w (YesEnd w) := by
  have H19 := Lib.hid (says19 hA hc hm pl un k h1)
  have hzt : (2147483647 : Int) < ((mkT t).size : Int) := by omega
  have HVB := Lib.hid hvb
  obtain ⟨vb0, vbn, vbc, hvbe⟩ := hvb.slice
  clear hvb
  subst hvbe
  go_enter Try.func7, Try.ntmps7
  go_upto_region 1 with fail
  generalize hWX : w.alloc _ = WX
  have HB : Hid (Below w.heap.size w WX) := Lib.hid (by rw [← hWX]; exact (Below.refl _ _).alloc (Nat.le_refl _) _)
  have q3 : WX.heap[w.heap.size]? = some (.cells #[.slice A F.length cap, .bool pl, .bool un, .int .i64 k] 24 (0, 0)) := by rw [← hWX]; exact heap_alloc_new w _
  clear hWX
  have c0 : WX.cell? ⟨w.heap.size, 0, none⟩ = some (.slice A F.length cap) := (cell_blk q3 0).trans rfl
  have c1 : WX.cell? ⟨w.heap.size, 1, none⟩ = some (.bool pl) := (cell_blk q3 1).trans rfl
  have c2 : WX.cell? ⟨w.heap.size, 2, none⟩ = some (.bool un) := (cell_blk q3 2).trans rfl
  have c3 : WX.cell? ⟨w.heap.size, 3, none⟩ = some (.int .i64 k) := (cell_blk q3 3).trans rfl
  go_wp2_with (first | ((with_reducible go_at_call 14); (with_reducible refine Calls.mono (H19.out _ HB.out) ?_); rintro e w3 ⟨rfl, hb3⟩; have q3 := block_kept q3 hb3; have c0 := cell_kept hb3 c0; have c1 := cell_kept hb3 c1; have c2 := cell_kept hb3 c2; have c3 := cell_kept hb3 c3; have HB := Lib.hid (HB.out.trans (hb3.mono HB.out.size)); clear hb3) | ((with_reducible go_at_call 15); (with_reducible refine Calls.mono (H2.out _ HB.out) ?_); rintro e w3 ⟨rfl, hb3⟩; have q3 := block_kept q3 hb3; have c0 := cell_kept hb3 c0; have c1 := cell_kept hb3 c1; have c2 := cell_kept hb3 c2; have c3 := cell_kept hb3 c3; have HB := Lib.hid (HB.out.trans (hb3.mono HB.out.size)); clear hb3) | ((with_reducible go_at_call 16); (with_reducible refine Calls.mono (HRT.out _ HB.out) ?_); rintro e w3 ⟨rfl, hb3⟩; have q3 := block_kept q3 hb3; have c0 := cell_kept hb3 c0; have c1 := cell_kept hb3 c1; have c2 := cell_kept hb3 c2; have c3 := cell_kept hb3 c3; have HB := Lib.hid (HB.out.trans (hb3.mono HB.out.size)); clear hb3) | ((with_reducible go_at_call 24); (with_reducible refine Calls.mono (HFG.out _ HB.out) ?_); rintro e w3 ⟨rfl, hb3⟩; have q3 := block_kept q3 hb3; have c0 := cell_kept hb3 c0; have c1 := cell_kept hb3 c1; have c2 := cell_kept hb3 c2; have c3 := cell_kept hb3 c3; have HB := Lib.hid (HB.out.trans (hb3.mono HB.out.size)); clear hb3) | ((with_reducible go_at_call 25); (with_reducible refine Calls.mono (HLV.out _ HB.out) ?_); rintro e w3 ⟨rfl, hb3⟩; have q3 := block_kept q3 hb3; have c0 := cell_kept hb3 c0; have c1 := cell_kept hb3 c1; have c2 := cell_kept hb3 c2; have c3 := cell_kept hb3 c3; have HB := Lib.hid (HB.out.trans (hb3.mono HB.out.size)); clear hb3))
  go_ret
  exact yesEnd rfl HB.out

set_option maxRecDepth 100000 in
set_option maxHeartbeats 6400000 in
theorem fold_3 {w : World} {A : Option Addr} {F : List FlagP} (hA : FlagsAt w A F) {cap : Nat} (hc : F.length ≤ cap) (hm : cap ≤ 9223372036854775807) (pl un : Bool) (k : Int) (j : Int) (t vl : Txt) {vb : Value} {M : List Txt} (hvb : TextIn w vb (M.map mkT)) (h1 : fits20 (F.map ofFlag) = true) (hzt : (mkT t).size ≤ 2147483647) (hzv : ¬ (mkT vl).size ≤ 2147483647) :
    Calls Try.prog 7 #[.agg #[.slice A F.length cap, .bool pl, .bool un, .int .i64 k], .int .i64 j, .string (mkT t), .string (mkT vl), vb] w (YesEnd w) := by
  have H19 := Lib.hid (says19 hA hc hm pl un k h1)
  have hzt : ¬ (2147483647 : Int) < ((mkT t).size : Int) := by omega
  have hzv : (2147483647 : Int) < ((mkT vl).size : Int) := by omega
  have HVB := Lib.hid hvb
  obtain ⟨vb0, vbn, vbc, hvbe⟩ := hvb.slice
  clear hvb
  subst hvbe
  go_enter Try.func7, Try.ntmps7
  go_upto_region 1 with fail
  generalize hWX : w.alloc _ = WX
  have HB : Hid (Below w.heap.size w WX) := Lib.hid (by rw [← hWX]; exact (Below.refl _ _).alloc (Nat.le_refl _) _)
  have q3 : WX.heap[w.heap.size]? = some (.cells #[.slice A F.length cap, .bool pl, .bool un, .int .i64 k] 24 (0, 0)) := by rw [← hWX]; exact heap_alloc_new w _
  clear hWX
  have c0 : WX.cell? ⟨w.heap.size, 0, none⟩ = some (.slice A F.length cap) := (cell_blk q3 0).trans rfl
  have c1 : WX.cell? ⟨w.heap.size, 1, none⟩ = some (.bool pl) := (cell_blk q3 1).trans rfl
  have c2 : WX.cell? ⟨w.heap.size, 2, none⟩ = some (.bool un) := (cell_blk q3 2).trans rfl
  have c3 : WX.cell? ⟨w.heap.size, 3, none⟩ = some (.int .i64 k) := (cell_blk q3 3).trans rfl
  go_wp2_with (first | ((with_reducible go_at_call 14); (with_reducible refine Calls.mono (H19.out _ HB.out) ?_); rintro e w3 ⟨rfl, hb3⟩; have q3 := block_kept q3 hb3; have c0 := cell_kept hb3 c0; have c1 := cell_kept hb3 c1; have c2 := cell_kept hb3 c2; have c3 := cell_kept hb3 c3; have HB := Lib.hid (HB.out.trans (hb3.mono HB.out.size)); clear hb3) | ((with_reducible go_at_call 15); (with_reducible refine Calls.mono (H2.out _ HB.out) ?_); rintro e w3 ⟨rfl, hb3⟩; have q3 := block_kept q3 hb3; have c0 := cell_kept hb3 c0; have c1 := cell_kept hb3 c1; have c2 := cell_kept hb3 c2; have c3 := cell_kept hb3 c3; have HB := Lib.hid (HB.out.trans (hb3.mono HB.out.size)); clear hb3) | ((with_reducible go_at_call 16); (with_reducible refine Calls.mono (HRT.out _ HB.out) ?_); rintro e w3 ⟨rfl, hb3⟩; have q3 := block_kept q3 hb3; have c0 := cell_kept hb3 c0; have c1 := cell_kept hb3 c1; have c2 := cell_kept hb3 c2; have c3 := cell_kept hb3 c3; have HB := Lib.hid (HB.out.trans (hb3.mono HB.out.size)); clear hb3) | ((with_reducible go_at_call 24); (with_reducible refine Calls.mono (HFG.out _ HB.out) ?_); rintro e w3 ⟨rfl, hb3⟩; have q3 := block_kept q3 hb3; have c0 := cell_kept hb3 c0; have c1 := cell_kept hb3 c1; have c2 := cell_kept hb3 c2; have c3 := cell_kept hb3 c3; have HB := Lib.hid (HB.out.trans (hb3.mono HB.out.size)); clear hb3) | ((with_reducible go_at_call 25); (with_reducible refine Calls.mono (HLV.out _ HB.out) ?_); rintro e w3 ⟨rfl, hb3⟩; have q3 := block_kept q3 hb3; have c0 := cell_kept hb3 c0; have c1 := cell_kept hb3 c1; have c2 := cell_kept hb3 c2; have c3 := cell_kept hb3 c3; have HB := Lib.hid (HB.out.trans (hb3.mono HB.out.size)); clear hb3))
  go_ret
  exact yesEnd rfl HB.out

set_option maxRecDepth 100000 in
set_option maxHeartbeats 6400000 in
theorem fold_4 {w : World} {A : Option Addr} {F : List FlagP} (hA : FlagsAt w A F) {cap : Nat} (hc : F.length ≤ cap) (hm : cap ≤ 9223372036854775807) (pl un : Bool) (k : Int) (j : Int) (t vl : Txt) {vb : Value} {M : List Txt} (hvb : TextIn w vb (M.map mkT)) (h1 : fits20 (F.map ofFlag) = true) (hzt : (mkT t).size ≤ 2147483647) (hzv : (mkT vl).size ≤ 2147483647) (h2 : fits2 (M.map mkT) = false)  :
    Calls Try.prog 7 #[.agg #[.slice A F.length cap, .bool pl, .bool un, .int .i64 k], .int .i64 j, .string (mkT t), .string (mkT vl), vb] w (YesEnd w) := by
  have H19 := Lib.hid (says19 hA hc hm pl un k h1)
  have hzt : ¬ (2147483647 : Int) < ((mkT t).size : Int) := by omega
  have hzv : ¬ (2147483647 : Int) < ((mkT vl).size : Int) := by omega
  have H2 := Lib.hid (says2 hvb h2)
  have HVB := Lib.hid hvb
  obtain ⟨vb0, vbn, vbc, hvbe⟩ := hvb.slice
  clear hvb
  subst hvbe
  go_enter Try.func7, Try.ntmps7
  go_upto_region 1 with fail
  generalize hWX : w.alloc _ = WX
  have HB : Hid (Below w.heap.size w WX) := Lib.hid (by rw [← hWX]; exact (Below.refl _ _).alloc (Nat.le_refl _) _)
  have q3 : WX.heap[w.heap.size]? = some (.cells #[.slice A F.length cap, .bool pl, .bool un, .int .i64 k] 24 (0, 0)) := by rw [← hWX]; exact heap_alloc_new w _
  clear hWX
  have c0 : WX.cell? ⟨w.heap.size, 0, none⟩ = some (.slice A F.length cap) := (cell_blk q3 0).trans rfl
  have c1 : WX.cell? ⟨w.heap.size, 1, none⟩ = some (.bool pl) := (cell_blk q3 1).trans rfl
  have c2 : WX.cell? ⟨w.heap.size, 2, none⟩ = some (.bool un) := (cell_blk q3 2).trans rfl
  have c3 : WX.cell? ⟨w.heap.size, 3, none⟩ = some (.int .i64 k) := (cell_blk q3 3).trans rfl
  go_wp2_with (first | ((with_reducible go_at_call 14); (with_reducible refine Calls.mono (H19.out _ HB.out) ?_); rintro e w3 ⟨rfl, hb3⟩; have q3 := block_kept q3 hb3; have c0 := cell_kept hb3 c0; have c1 := cell_kept hb3 c1; have c2 := cell_kept hb3 c2; have c3 := cell_kept hb3 c3; have HB := Lib.hid (HB.out.trans (hb3.mono HB.out.size)); clear hb3) | ((with_reducible go_at_call 15); (with_reducible refine Calls.mono (H2.out _ HB.out) ?_); rintro e w3 ⟨rfl, hb3⟩; have q3 := block_kept q3 hb3; have c0 := cell_kept hb3 c0; have c1 := cell_kept hb3 c1; have c2 := cell_kept hb3 c2; have c3 := cell_kept hb3 c3; have HB := Lib.hid (HB.out.trans (hb3.mono HB.out.size)); clear hb3) | ((with_reducible go_at_call 16); (with_reducible refine Calls.mono (HRT.out _ HB.out) ?_); rintro e w3 ⟨rfl, hb3⟩; have q3 := block_kept q3 hb3; have c0 := cell_kept hb3 c0; have c1 := cell_kept hb3 c1; have c2 := cell_kept hb3 c2; have c3 := cell_kept hb3 c3; have HB := Lib.hid (HB.out.trans (hb3.mono HB.out.size)); clear hb3) | ((with_reducible go_at_call 24); (with_reducible refine Calls.mono (HFG.out _ HB.out) ?_); rintro e w3 ⟨rfl, hb3⟩; have q3 := block_kept q3 hb3; have c0 := cell_kept hb3 c0; have c1 := cell_kept hb3 c1; have c2 := cell_kept hb3 c2; have c3 := cell_kept hb3 c3; have HB := Lib.hid (HB.out.trans (hb3.mono HB.out.size)); clear hb3) | ((with_reducible go_at_call 25); (with_reducible refine Calls.mono (HLV.out _ HB.out) ?_); rintro e w3 ⟨rfl, hb3⟩; have q3 := block_kept q3 hb3; have c0 := cell_kept hb3 c0; have c1 := cell_kept hb3 c1; have c2 := cell_kept hb3 c2; have c3 := cell_kept hb3 c3; have HB := Lib.hid (HB.out.trans (hb3.mono HB.out.size)); clear hb3))
  go_ret
  exact yesEnd rfl HB.out
def F7a (sv : Value) (bx : Nat) (t : Txt) (vl : Txt) (vb : Value) (M : List Txt) (j : Int) : Nat → Value → World → Prop
  | 0, v, _ => v = sv
  | 1, v, _ => v = .bool false
  | 2, v, _ => v = .bool true
  | 3, v, _ => v = .bool true
  | 4, _, _ => True
  | 5, _, _ => True
  | 6, _, _ => True
  | 7, _, _ => True
  | 8, v, _ => v = .bool true
  | 9, v, _ => v = .bool true
  | 10, _, _ => True
  | 11, _, _ => True
  | 12, _, _ => True
  | 13, _, _ => True
  | 14, _, _ => True
  | 15, _, _ => True
  | 16, _, _ => True
  | 17, v, _ => v = .bool true
  | 18, v, _ => v = .bool true
  | 19, _, _ => True
  | 20, _, _ => True
  | 21, _, _ => True
  | 22, _, _ => True
  | 23, _, _ => True
  | 24, _, _ => True
  | 25, _, _ => True
  | 26, _, _ => True
  | 27, _, _ => True
  | 28, _, _ => True
  | 29, _, _ => True
  | 30, _, _ => True
  | 31, _, _ => True
  | 32, _, _ => True
  | 33, v, _ => v = .bool true
  | _, _, _ => True
theorem F7a.below {sv : Value} {bx : Nat} {t : Txt} {vl : Txt} {vb : Value} {M : List Txt} {j : Int} {ix : Nat} (hix : ix < 34) {v : Value} {w w' : World} (h : F7a sv bx t vl vb M j ix v w) (hb : Below w.heap.size w w') : F7a sv bx t vl vb M j ix v w' := by
  match ix, hix, h with
  | 0, _, h => exact h
  | 1, _, h => exact h
  | 2, _, h => exact h
  | 3, _, h => exact h
  | 4, _, _ => trivial
  | 5, _, _ => trivial
  | 6, _, _ => trivial
  | 7, _, _ => trivial
  | 8, _, h => exact h
  | 9, _, h => exact h
  | 10, _, _ => trivial
  | 11, _, _ => trivial
  | 12, _, _ => trivial
  | 13, _, _ => trivial
  | 14, _, _ => trivial
  | 15, _, _ => trivial
  | 16, _, _ => trivial
  | 17, _, h => exact h
  | 18, _, h => exact h
  | 19, _, _ => trivial
  | 20, _, _ => trivial
  | 21, _, _ => trivial
  | 22, _, _ => trivial
  | 23, _, _ => trivial
  | 24, _, _ => trivial
  | 25, _, _ => trivial
  | 26, _, _ => trivial
  | 27, _, _ => trivial
  | 28, _, _ => trivial
  | 29, _, _ => trivial
  | 30, _, _ => trivial
  | 31, _, _ => trivial
  | 32, _, _ => trivial
  | 33, _, h => exact h
  | k + 34, hi, _ => exact absurd hi (by omega)

set_option maxRecDepth 100000 in
set_option maxHeartbeats 6400000 in
theorem fold_5 {w : World} {A : Option Addr} {F : List FlagP} (hA : FlagsAt w A F) {cap : Nat} (hc : F.length ≤ cap) (hm : cap ≤ 9223372036854775807) (pl un : Bool) (k : Int) (j : Int) (t vl : Txt) {vb : Value} {M : List Txt} (hvb : TextIn w vb (M.map mkT)) (h1 : fits20 (F.map ofFlag) = true) (hzt : (mkT t).size ≤ 2147483647) (hzv : (mkT vl).size ≤ 2147483647) (h2 : fits2 (M.map mkT) = true) (h3 : RightK F k = false)  :
    Calls Try.prog 7 #[.agg #[.slice A F.length cap, .bool pl, .bool un, .int .i64 k], .int .i64 j, .string (mkT t), .string (mkT vl), vb] w (YesEnd w) := by
  have H19 := Lib.hid (says19 hA hc hm pl un k h1)
  have hzt : ¬ (2147483647 : Int) < ((mkT t).size : Int) := by omega
  have hzv : ¬ (2147483647 : Int) < ((mkT vl).size : Int) := by omega
  have H2 := Lib.hid (says2 hvb h2)
  have HRT := Lib.hid (saysR hA cap pl un k h1 h3)
  have HLV := Lib.hid (saysL w)
  have HVB := Lib.hid hvb
  obtain ⟨vb0, vbn, vbc, hvbe⟩ := hvb.slice
  clear hvb
  subst hvbe
  go_enter Try.func7, Try.ntmps7
  go_upto_region 1 with fail
  generalize hWX : w.alloc _ = WX
  have HB : Hid (Below w.heap.size w WX) := Lib.hid (by rw [← hWX]; exact (Below.refl _ _).alloc (Nat.le_refl _) _)
  have q3 : WX.heap[w.heap.size]? = some (.cells #[.slice A F.length cap, .bool pl, .bool un, .int .i64 k] 24 (0, 0)) := by rw [← hWX]; exact heap_alloc_new w _
  clear hWX
  have c0 : WX.cell? ⟨w.heap.size, 0, none⟩ = some (.slice A F.length cap) := (cell_blk q3 0).trans rfl
  have c1 : WX.cell? ⟨w.heap.size, 1, none⟩ = some (.bool pl) := (cell_blk q3 1).trans rfl
  have c2 : WX.cell? ⟨w.heap.size, 2, none⟩ = some (.bool un) := (cell_blk q3 2).trans rfl
  have c3 : WX.cell? ⟨w.heap.size, 3, none⟩ = some (.int .i64 k) := (cell_blk q3 3).trans rfl
  go_upto_region 3 with (first | ((with_reducible go_at_call 14); (with_reducible refine Calls.mono (H19.out _ HB.out) ?_); rintro e w3 ⟨rfl, hb3⟩; have q3 := block_kept q3 hb3; have c0 := cell_kept hb3 c0; have c1 := cell_kept hb3 c1; have c2 := cell_kept hb3 c2; have c3 := cell_kept hb3 c3; have HB := Lib.hid (HB.out.trans (hb3.mono HB.out.size)); clear hb3) | ((with_reducible go_at_call 15); (with_reducible refine Calls.mono (H2.out _ HB.out) ?_); rintro e w3 ⟨rfl, hb3⟩; have q3 := block_kept q3 hb3; have c0 := cell_kept hb3 c0; have c1 := cell_kept hb3 c1; have c2 := cell_kept hb3 c2; have c3 := cell_kept hb3 c3; have HB := Lib.hid (HB.out.trans (hb3.mono HB.out.size)); clear hb3) | ((with_reducible go_at_call 16); (with_reducible refine Calls.mono (HRT.out _ HB.out) ?_); rintro e w3 ⟨rfl, hb3⟩; have q3 := block_kept q3 hb3; have c0 := cell_kept hb3 c0; have c1 := cell_kept hb3 c1; have c2 := cell_kept hb3 c2; have c3 := cell_kept hb3 c3; have HB := Lib.hid (HB.out.trans (hb3.mono HB.out.size)); clear hb3) | ((with_reducible go_at_call 24); (with_reducible refine Calls.mono (HFG.out _ HB.out) ?_); rintro e w3 ⟨rfl, hb3⟩; have q3 := block_kept q3 hb3; have c0 := cell_kept hb3 c0; have c1 := cell_kept hb3 c1; have c2 := cell_kept hb3 c2; have c3 := cell_kept hb3 c3; have HB := Lib.hid (HB.out.trans (hb3.mono HB.out.size)); clear hb3) | ((with_reducible go_at_call 25); (with_reducible refine Calls.mono (HLV.out _ HB.out) ?_); rintro e w3 ⟨rfl, hb3⟩; have q3 := block_kept q3 hb3; have c0 := cell_kept hb3 c0; have c1 := cell_kept hb3 c1; have c2 := cell_kept hb3 c2; have c3 := cell_kept hb3 c3; have HB := Lib.hid (HB.out.trans (hb3.mono HB.out.size)); clear hb3))
  have hbx := HB.out
  have HVC := Lib.hid (HVB.out.below hbx)
  clear c0 c1 c2 c3
  refine region_skip (fun i => [4, 5, 6, 7, 10, 11, 12, 13, 14, 15, 16, 19, 20, 21, 22, 23, 24, 25, 26, 27, 28, 29, 30, 31, 32].contains i) (by kernel_rfl) (fun u v => Below u.heap.size u v) (F7a (.agg #[.slice A F.length cap, .bool pl, .bool un, .int .i64 k]) (w.heap.size) (t) (vl) (.slice vb0 vbn vbc) (M) (j)) (fun i => false) (fun i => [29, 30, 31, 32, 33, 34, 35, 36, 37, 38, 39, 40, 41, 42, 43, 44, 45, 46, 47, 48, 49, 50, 51, 52, 53, 54, 55, 56, 57, 58, 59, 60, 61, 62].getD i 0) 34
    (Below.refl _ _) (fun _ _ _ h k => below_step h k) (fun i hi v u u' h hb => F7a.below hi h hb) ?_ ?_ ?_ (by kernel_rfl) (by kernel_rfl) (by kernel_rfl) (by kernel_rfl) ?_ ?_
  · intro i hi hA; cases hA
  · intro i hi hs o ho g want hg v u hR
    match i, hi with
    | 0, _ =>
      cases ho
      cases hg
    | 1, _ =>
      cases ho
      cases hg
    | 2, _ =>
      cases ho
      cases hg
    | 3, _ =>
      cases ho
      cases hg
    | 4, _ =>
      exact absurd hs (by decide)
    | 5, _ =>
      exact absurd hs (by decide)
    | 6, _ =>
      exact absurd hs (by decide)
    | 7, _ =>
      exact absurd hs (by decide)
    | 8, _ =>
      cases ho
      cases hg
    | 9, _ =>
      cases ho
      cases hg
    | 10, _ =>
      exact absurd hs (by decide)
    | 11, _ =>
      exact absurd hs (by decide)
    | 12, _ =>
      exact absurd hs (by decide)
    | 13, _ =>
      exact absurd hs (by decide)
    | 14, _ =>
      exact absurd hs (by decide)
    | 15, _ =>
      exact absurd hs (by decide)
    | 16, _ =>
      exact absurd hs (by decide)
    | 17, _ =>
      cases ho
      cases hg
    | 18, _ =>
      cases ho
      cases hg
    | 19, _ =>
      exact absurd hs (by decide)
    | 20, _ =>
      exact absurd hs (by decide)
    | 21, _ =>
      exact absurd hs (by decide)
    | 22, _ =>
      exact absurd hs (by decide)
    | 23, _ =>
      exact absurd hs (by decide)
    | 24, _ =>
      exact absurd hs (by decide)
    | 25, _ =>
      exact absurd hs (by decide)
    | 26, _ =>
      exact absurd hs (by decide)
    | 27, _ =>
      exact absurd hs (by decide)
    | 28, _ =>
      exact absurd hs (by decide)
    | 29, _ =>
      exact absurd hs (by decide)
    | 30, _ =>
      exact absurd hs (by decide)
    | 31, _ =>
      exact absurd hs (by decide)
    | 32, _ =>
      exact absurd hs (by decide)
    | 33, _ =>
      cases ho
      cases hg
    | k + 34, hi => exact absurd hi (by omega)
  · intro i hi hs
    match i, hi with
    | 0, _ => exact absurd hs (by decide)
    | 1, _ => exact absurd hs (by decide)
    | 2, _ => exact absurd hs (by decide)
    | 3, _ => exact absurd hs (by decide)
    | 4, _ => exact ⟨rfl, fun _ _ => trivial, fun o ho => by
        cases ho
        exact ⟨_, _, rfl, fun v w h => h⟩⟩
    | 5, _ => exact ⟨rfl, fun _ _ => trivial, fun o ho => by
        cases ho
        exact ⟨_, _, rfl, fun v w h => h⟩⟩
    | 6, _ => exact ⟨rfl, fun _ _ => trivial, fun o ho => by
        cases ho
        exact ⟨_, _, rfl, fun v w h => h⟩⟩
    | 7, _ => exact ⟨rfl, fun _ _ => trivial, fun o ho => by
        cases ho
        exact ⟨_, _, rfl, fun v w h => h⟩⟩
    | 8, _ => exact absurd hs (by decide)
    | 9, _ => exact absurd hs (by decide)
    | 10, _ => exact ⟨rfl, fun _ _ => trivial, fun o ho => by
        cases ho
        exact ⟨_, _, rfl, fun v w h => h⟩⟩
    | 11, _ => exact ⟨rfl, fun _ _ => trivial, fun o ho => by
        cases ho
        exact ⟨_, _, rfl, fun v w h => h⟩⟩
    | 12, _ => exact ⟨rfl, fun _ _ => trivial, fun o ho => by
        cases ho
        exact ⟨_, _, rfl, fun v w h => h⟩⟩
    | 13, _ => exact ⟨rfl, fun _ _ => trivial, fun o ho => by
        cases ho
        exact ⟨_, _, rfl, fun v w h => h⟩⟩
    | 14, _ => exact ⟨rfl, fun _ _ => trivial, fun o ho => by
        cases ho
        exact ⟨_, _, rfl, fun v w h => h⟩⟩
    | 15, _ => exact ⟨rfl, fun _ _ => trivial, fun o ho => by
        cases ho
        exact ⟨_, _, rfl, fun v w h => h⟩⟩
    | 16, _ => exact ⟨rfl, fun _ _ => trivial, fun o ho => by
        cases ho
        exact ⟨_, _, rfl, fun v w h => h⟩⟩
    | 17, _ => exact absurd hs (by decide)
    | 18, _ => exact absurd hs (by decide)
    | 19, _ => exact ⟨rfl, fun _ _ => trivial, fun o ho => by
        cases ho
        exact ⟨_, _, rfl, fun v w h => h⟩⟩
    | 20, _ => exact ⟨rfl, fun _ _ => trivial, fun o ho => by
        cases ho
        exact ⟨_, _, rfl, fun v w h => h⟩⟩
    | 21, _ => exact ⟨rfl, fun _ _ => trivial, fun o ho => by
        cases ho
        exact ⟨_, _, rfl, fun v w h => h⟩⟩
    | 22, _ => exact ⟨rfl, fun _ _ => trivial, fun o ho => by
        cases ho
        exact ⟨_, _, rfl, fun v w h => h⟩⟩
    | 23, _ => exact ⟨rfl, fun _ _ => trivial, fun o ho => by
        cases ho
        exact ⟨_, _, rfl, fun v w h => h⟩⟩
    | 24, _ => exact ⟨rfl, fun _ _ => trivial, fun o ho => by
        cases ho
        exact ⟨_, _, rfl, fun v w h => h⟩⟩
    | 25, _ => exact ⟨rfl, fun _ _ => trivial, fun o ho => by
        cases ho
        exact ⟨_, _, rfl, fun v w h => h⟩⟩
    | 26, _ => exact ⟨rfl, fun _ _ => trivial, fun o ho => by
        cases ho
        exact ⟨_, _, rfl, fun v w h => h⟩⟩
    | 27, _ => exact ⟨rfl, fun _ _ => trivial, fun o ho => by
        cases ho
        exact ⟨_, _, rfl, fun v w h => h⟩⟩
    | 28, _ => exact ⟨rfl, fun _ _ => trivial, fun o ho => by
        cases ho
        exact ⟨_, _, rfl, fun v w h => h⟩⟩
    | 29, _ => exact ⟨rfl, fun _ _ => trivial, fun o ho => by
        cases ho
        exact ⟨_, _, rfl, fun v w h => h⟩⟩
    | 30, _ => exact ⟨rfl, fun _ _ => trivial, fun o ho => by
        cases ho
        exact ⟨_, _, rfl, fun v w h => h⟩⟩
    | 31, _ => exact ⟨rfl, fun _ _ => trivial, fun o ho => by
        cases ho
        exact ⟨_, _, rfl, fun v w h => h⟩⟩
    | 32, _ => exact ⟨rfl, fun _ _ => trivial, fun o ho => by
        cases ho
        exact ⟨_, _, rfl, fun v w h => h⟩⟩
    | 33, _ => exact absurd hs (by decide)
    | k + 34, hi => exact absurd hi (by omega)
  · intro i hi hs o ho a u hG hk hd
    have hG9 : Below w3.heap.size w3 u := ((Below.refl _ _).drew).trans hG
    match i, hi with
    | 0, _ =>
      cases ho
      exact ow_load_set rfl ((hk 5 (by decide)).trans rfl) (block_kept q3 hG9) ⟨_, rfl, rfl, Below.refl _ _, fun h => by cases h⟩
    | 1, _ =>
      cases ho
      have e29 : a.eval (.tmp 29) = _ := hd 0 (by kernel_rfl) (by decide)
      refine ow_call #[.tmp 29] #[24] 16 Try.func16 (by kernel_rfl) (by rfl) rfl #[_] (by simp only [List.map_toArray, List.map_cons, List.map_nil, e29]) (HRT.out u (hbx.trans (hG9.mono hbx.size))) ?_
      rintro e u2 ⟨rfl, hb2⟩
      exact ⟨_, rfl, _, rfl, rfl, hb2, fun h => by cases h⟩
    | 2, _ =>
      cases ho
      have e30 : a.eval (.tmp 30) = .bool false := hd 1 (by kernel_rfl) (by decide)
      exact ow_not rfl e30 ⟨_, rfl, rfl, Below.refl _ _, fun h => by cases h⟩
    | 3, _ =>
      cases ho
      have e31 : a.eval (.tmp 31) = .bool true := hd 2 (by kernel_rfl) (by decide)
      exact ow_move rfl e31 ⟨_, rfl, rfl, Below.refl _ _, fun h => by cases h⟩
    | 4, _ =>
      exact absurd hs (by decide)
    | 5, _ =>
      exact absurd hs (by decide)
    | 6, _ =>
      exact absurd hs (by decide)
    | 7, _ =>
      exact absurd hs (by decide)
    | 8, _ =>
      cases ho
      have e32 : a.eval (.tmp 32) = .bool true := hd 3 (by kernel_rfl) (by decide)
      exact ow_pick rfl e32 rfl ⟨_, rfl, rfl, Below.refl _ _, fun h => by cases h⟩
    | 9, _ =>
      cases ho
      have e37 : a.eval (.tmp 37) = _ := hd 8 (by kernel_rfl) (by decide)
      exact ow_move rfl e37 ⟨_, rfl, rfl, Below.refl _ _, fun h => by cases h⟩
    | 10, _ =>
      exact absurd hs (by decide)
    | 11, _ =>
      exact absurd hs (by decide)
    | 12, _ =>
      exact absurd hs (by decide)
    | 13, _ =>
      exact absurd hs (by decide)
    | 14, _ =>
      exact absurd hs (by decide)
    | 15, _ =>
      exact absurd hs (by decide)
    | 16, _ =>
      exact absurd hs (by decide)
    | 17, _ =>
      cases ho
      have e38 : a.eval (.tmp 38) = .bool true := hd 9 (by kernel_rfl) (by decide)
      exact ow_pick rfl e38 rfl ⟨_, rfl, rfl, Below.refl _ _, fun h => by cases h⟩
    | 18, _ =>
      cases ho
      have e46 : a.eval (.tmp 46) = _ := hd 17 (by kernel_rfl) (by decide)
      exact ow_move rfl e46 ⟨_, rfl, rfl, Below.refl _ _, fun h => by cases h⟩
    | 19, _ =>
      exact absurd hs (by decide)
    | 20, _ =>
      exact absurd hs (by decide)
    | 21, _ =>
      exact absurd hs (by decide)
    | 22, _ =>
      exact absurd hs (by decide)
    | 23, _ =>
      exact absurd hs (by decide)
    | 24, _ =>
      exact absurd hs (by decide)
    | 25, _ =>
      exact absurd hs (by decide)
    | 26, _ =>
      exact absurd hs (by decide)
    | 27, _ =>
      exact absurd hs (by decide)
    | 28, _ =>
      exact absurd hs (by decide)
    | 29, _ =>
      exact absurd hs (by decide)
    | 30, _ =>
      exact absurd hs (by decide)
    | 31, _ =>
      exact absurd hs (by decide)
    | 32, _ =>
      exact absurd hs (by decide)
    | 33, _ =>
      cases ho
      have e47 : a.eval (.tmp 47) = .bool true := hd 18 (by kernel_rfl) (by decide)
      exact ow_pick rfl e47 rfl ⟨_, rfl, rfl, Below.refl _ _, fun h => by cases h⟩
    | k + 34, hi => exact absurd hi (by omega)
  · intro x U3 hG hx hdif
    have hlast : x 33 = _ := hx 33 (by decide)
    simp only [putAll, Act.put, List.getD_cons_zero, List.getD_cons_succ, List.setIfInBounds_toArray, List.set_cons_succ, List.set_cons_zero]
    refine wpAny_end (by kernel_rfl) ?_
    rw [hlast]
    clear hx hdif hlast
    have HB := Lib.hid (hbx.trans ((((Below.refl _ _).drew).trans hG).mono hbx.size))
    go_wp2_with (first | ((with_reducible go_at_call 25); (with_reducible refine Calls.mono (HLV.out _ HB.out) ?_); rintro e w3 ⟨rfl, hb3⟩; have HB := Lib.hid (HB.out.trans (hb3.mono HB.out.size)); clear hb3))
    go_ret
    exact yesEnd rfl HB.out
def F7b (sv : Value) (bx : Nat) (t : Txt) (vl : Txt) (vb : Value) (M : List Txt) (j : Int) : Nat → Value → World → Prop
  | 0, v, _ => v = sv
  | 1, v, _ => v = .bool true
  | 2, v, _ => v = .bool false
  | 3, v, _ => v = .bool false
  | 4, v, _ => v = sv
  | 5, v, _ => v = .int .i64 j
  | 6, v, _ => v = .bool false
  | 7, v, _ => v = .bool true
  | 8, v, _ => v = .bool true
  | 9, v, _ => v = .bool true
  | 10, _, _ => True
  | 11, _, _ => True
  | 12, _, _ => True
  | 13, _, _ => True
  | 14, _, _ => True
  | 15, _, _ => True
  | 16, _, _ => True
  | 17, v, _ => v = .bool true
  | 18, v, _ => v = .bool true
  | 19, _, _ => True
  | 20, _, _ => True
  | 21, _, _ => True
  | 22, _, _ => True
  | 23, _, _ => True
  | 24, _, _ => True
  | 25, _, _ => True
  | 26, _, _ => True
  | 27, _, _ => True
  | 28, _, _ => True
  | 29, _, _ => True
  | 30, _, _ => True
  | 31, _, _ => True
  | 32, _, _ => True
  | 33, v, _ => v = .bool true
  | _, _, _ => True
theorem F7b.below {sv : Value} {bx : Nat} {t : Txt} {vl : Txt} {vb : Value} {M : List Txt} {j : Int} {ix : Nat} (hix : ix < 34) {v : Value} {w w' : World} (h : F7b sv bx t vl vb M j ix v w) (hb : Below w.heap.size w w') : F7b sv bx t vl vb M j ix v w' := by
  match ix, hix, h with
  | 0, _, h => exact h
  | 1, _, h => exact h
  | 2, _, h => exact h
  | 3, _, h => exact h
  | 4, _, h => exact h
  | 5, _, h => exact h
  | 6, _, h => exact h
  | 7, _, h => exact h
  | 8, _, h => exact h
  | 9, _, h => exact h
  | 10, _, _ => trivial
  | 11, _, _ => trivial
  | 12, _, _ => trivial
  | 13, _, _ => trivial
  | 14, _, _ => trivial
  | 15, _, _ => trivial
  | 16, _, _ => trivial
  | 17, _, h => exact h
  | 18, _, h => exact h
  | 19, _, _ => trivial
  | 20, _, _ => trivial
  | 21, _, _ => trivial
  | 22, _, _ => trivial
  | 23, _, _ => trivial
  | 24, _, _ => trivial
  | 25, _, _ => trivial
  | 26, _, _ => trivial
  | 27, _, _ => trivial
  | 28, _, _ => trivial
  | 29, _, _ => trivial
  | 30, _, _ => trivial
  | 31, _, _ => trivial
  | 32, _, _ => trivial
  | 33, _, h => exact h
  | k + 34, hi, _ => exact absurd hi (by omega)

set_option maxRecDepth 100000 in
set_option maxHeartbeats 6400000 in
theorem fold_6 {w : World} {A : Option Addr} {F : List FlagP} (hA : FlagsAt w A F) {cap : Nat} (hc : F.length ≤ cap) (hm : cap ≤ 9223372036854775807) (pl un : Bool) (k : Int) (j : Int) (t vl : Txt) {vb : Value} {M : List Txt} (hvb : TextIn w vb (M.map mkT)) (h1 : fits20 (F.map ofFlag) = true) (hzt : (mkT t).size ≤ 2147483647) (hzv : (mkT vl).size ≤ 2147483647) (h2 : fits2 (M.map mkT) = true) (h3 : RightK F k = true) (h4 : decide (0 ≤ j ∧ j < (F.length : Int)) = false) :
    Calls Try.prog 7 #[.agg #[.slice A F.length cap, .bool pl, .bool un, .int .i64 k], .int .i64 j, .string (mkT t), .string (mkT vl), vb] w (YesEnd w) := by
  have H19 := Lib.hid (says19 hA hc hm pl un k h1)
  have hzt : ¬ (2147483647 : Int) < ((mkT t).size : Int) := by omega
  have hzv : ¬ (2147483647 : Int) < ((mkT vl).size : Int) := by omega
  have H2 := Lib.hid (says2 hvb h2)
  have HRT := Lib.hid (saysR hA cap pl un k h1 h3)
  have HFG := Lib.hid (saysF (w := w) A F.length cap pl un k h4)
  have HLV := Lib.hid (saysL w)
  have HVB := Lib.hid hvb
  obtain ⟨vb0, vbn, vbc, hvbe⟩ := hvb.slice
  clear hvb
  subst hvbe
  go_enter Try.func7, Try.ntmps7
  go_upto_region 1 with fail
  generalize hWX : w.alloc _ = WX
  have HB : Hid (Below w.heap.size w WX) := Lib.hid (by rw [← hWX]; exact (Below.refl _ _).alloc (Nat.le_refl _) _)
  have q3 : WX.heap[w.heap.size]? = some (.cells #[.slice A F.length cap, .bool pl, .bool un, .int .i64 k] 24 (0, 0)) := by rw [← hWX]; exact heap_alloc_new w _
  clear hWX
  have c0 : WX.cell? ⟨w.heap.size, 0, none⟩ = some (.slice A F.length cap) := (cell_blk q3 0).trans rfl
  have c1 : WX.cell? ⟨w.heap.size, 1, none⟩ = some (.bool pl) := (cell_blk q3 1).trans rfl
  have c2 : WX.cell? ⟨w.heap.size, 2, none⟩ = some (.bool un) := (cell_blk q3 2).trans rfl
  have c3 : WX.cell? ⟨w.heap.size, 3, none⟩ = some (.int .i64 k) := (cell_blk q3 3).trans rfl
  go_upto_region 3 with (first | ((with_reducible go_at_call 14); (with_reducible refine Calls.mono (H19.out _ HB.out) ?_); rintro e w3 ⟨rfl, hb3⟩; have q3 := block_kept q3 hb3; have c0 := cell_kept hb3 c0; have c1 := cell_kept hb3 c1; have c2 := cell_kept hb3 c2; have c3 := cell_kept hb3 c3; have HB := Lib.hid (HB.out.trans (hb3.mono HB.out.size)); clear hb3) | ((with_reducible go_at_call 15); (with_reducible refine Calls.mono (H2.out _ HB.out) ?_); rintro e w3 ⟨rfl, hb3⟩; have q3 := block_kept q3 hb3; have c0 := cell_kept hb3 c0; have c1 := cell_kept hb3 c1; have c2 := cell_kept hb3 c2; have c3 := cell_kept hb3 c3; have HB := Lib.hid (HB.out.trans (hb3.mono HB.out.size)); clear hb3) | ((with_reducible go_at_call 16); (with_reducible refine Calls.mono (HRT.out _ HB.out) ?_); rintro e w3 ⟨rfl, hb3⟩; have q3 := block_kept q3 hb3; have c0 := cell_kept hb3 c0; have c1 := cell_kept hb3 c1; have c2 := cell_kept hb3 c2; have c3 := cell_kept hb3 c3; have HB := Lib.hid (HB.out.trans (hb3.mono HB.out.size)); clear hb3) | ((with_reducible go_at_call 24); (with_reducible refine Calls.mono (HFG.out _ HB.out) ?_); rintro e w3 ⟨rfl, hb3⟩; have q3 := block_kept q3 hb3; have c0 := cell_kept hb3 c0; have c1 := cell_kept hb3 c1; have c2 := cell_kept hb3 c2; have c3 := cell_kept hb3 c3; have HB := Lib.hid (HB.out.trans (hb3.mono HB.out.size)); clear hb3) | ((with_reducible go_at_call 25); (with_reducible refine Calls.mono (HLV.out _ HB.out) ?_); rintro e w3 ⟨rfl, hb3⟩; have q3 := block_kept q3 hb3; have c0 := cell_kept hb3 c0; have c1 := cell_kept hb3 c1; have c2 := cell_kept hb3 c2; have c3 := cell_kept hb3 c3; have HB := Lib.hid (HB.out.trans (hb3.mono HB.out.size)); clear hb3))
  have hbx := HB.out
  have HVC := Lib.hid (HVB.out.below hbx)
  clear c0 c1 c2 c3
  refine region_skip (fun i => [10, 11, 12, 13, 14, 15, 16, 19, 20, 21, 22, 23, 24, 25, 26, 27, 28, 29, 30, 31, 32].contains i) (by kernel_rfl) (fun u v => Below u.heap.size u v) (F7b (.agg #[.slice A F.length cap, .bool pl, .bool un, .int .i64 k]) (w.heap.size) (t) (vl) (.slice vb0 vbn vbc) (M) (j)) (fun i => false) (fun i => [29, 30, 31, 32, 33, 34, 35, 36, 37, 38, 39, 40, 41, 42, 43, 44, 45, 46, 47, 48, 49, 50, 51, 52, 53, 54, 55, 56, 57, 58, 59, 60, 61, 62].getD i 0) 34
    (Below.refl _ _) (fun _ _ _ h k => below_step h k) (fun i hi v u u' h hb => F7b.below hi h hb) ?_ ?_ ?_ (by kernel_rfl) (by kernel_rfl) (by kernel_rfl) (by kernel_rfl) ?_ ?_
  · intro i hi hA; cases hA
  · intro i hi hs o ho g want hg v u hR
    match i, hi with
    | 0, _ =>
      cases ho
      cases hg
    | 1, _ =>
      cases ho
      cases hg
    | 2, _ =>
      cases ho
      cases hg
    | 3, _ =>
      cases ho
      cases hg
    | 4, _ =>
      cases ho
      cases hg; exact hR
    | 5, _ =>
      cases ho
      cases hg; exact hR
    | 6, _ =>
      cases ho
      cases hg; exact hR
    | 7, _ =>
      cases ho
      cases hg; exact hR
    | 8, _ =>
      cases ho
      cases hg
    | 9, _ =>
      cases ho
      cases hg
    | 10, _ =>
      exact absurd hs (by decide)
    | 11, _ =>
      exact absurd hs (by decide)
    | 12, _ =>
      exact absurd hs (by decide)
    | 13, _ =>
      exact absurd hs (by decide)
    | 14, _ =>
      exact absurd hs (by decide)
    | 15, _ =>
      exact absurd hs (by decide)
    | 16, _ =>
      exact absurd hs (by decide)
    | 17, _ =>
      cases ho
      cases hg
    | 18, _ =>
      cases ho
      cases hg
    | 19, _ =>
      exact absurd hs (by decide)
    | 20, _ =>
      exact absurd hs (by decide)
    | 21, _ =>
      exact absurd hs (by decide)
    | 22, _ =>
      exact absurd hs (by decide)
    | 23, _ =>
      exact absurd hs (by decide)
    | 24, _ =>
      exact absurd hs (by decide)
    | 25, _ =>
      exact absurd hs (by decide)
    | 26, _ =>
      exact absurd hs (by decide)
    | 27, _ =>
      exact absurd hs (by decide)
    | 28, _ =>
      exact absurd hs (by decide)
    | 29, _ =>
      exact absurd hs (by decide)
    | 30, _ =>
      exact absurd hs (by decide)
    | 31, _ =>
      exact absurd hs (by decide)
    | 32, _ =>
      exact absurd hs (by decide)
    | 33, _ =>
      cases ho
      cases hg
    | k + 34, hi => exact absurd hi (by omega)
  · intro i hi hs
    match i, hi with
    | 0, _ => exact absurd hs (by decide)
    | 1, _ => exact absurd hs (by decide)
    | 2, _ => exact absurd hs (by decide)
    | 3, _ => exact absurd hs (by decide)
    | 4, _ => exact absurd hs (by decide)
    | 5, _ => exact absurd hs (by decide)
    | 6, _ => exact absurd hs (by decide)
    | 7, _ => exact absurd hs (by decide)
    | 8, _ => exact absurd hs (by decide)
    | 9, _ => exact absurd hs (by decide)
    | 10, _ => exact ⟨rfl, fun _ _ => trivial, fun o ho => by
        cases ho
        exact ⟨_, _, rfl, fun v w h => h⟩⟩
    | 11, _ => exact ⟨rfl, fun _ _ => trivial, fun o ho => by
        cases ho
        exact ⟨_, _, rfl, fun v w h => h⟩⟩
    | 12, _ => exact ⟨rfl, fun _ _ => trivial, fun o ho => by
        cases ho
        exact ⟨_, _, rfl, fun v w h => h⟩⟩
    | 13, _ => exact ⟨rfl, fun _ _ => trivial, fun o ho => by
        cases ho
        exact ⟨_, _, rfl, fun v w h => h⟩⟩
    | 14, _ => exact ⟨rfl, fun _ _ => trivial, fun o ho => by
        cases ho
        exact ⟨_, _, rfl, fun v w h => h⟩⟩
    | 15, _ => exact ⟨rfl, fun _ _ => trivial, fun o ho => by
        cases ho
        exact ⟨_, _, rfl, fun v w h => h⟩⟩
    | 16, _ => exact ⟨rfl, fun _ _ => trivial, fun o ho => by
        cases ho
        exact ⟨_, _, rfl, fun v w h => h⟩⟩
    | 17, _ => exact absurd hs (by decide)
    | 18, _ => exact absurd hs (by decide)
    | 19, _ => exact ⟨rfl, fun _ _ => trivial, fun o ho => by
        cases ho
        exact ⟨_, _, rfl, fun v w h => h⟩⟩
    | 20, _ => exact ⟨rfl, fun _ _ => trivial, fun o ho => by
        cases ho
        exact ⟨_, _, rfl, fun v w h => h⟩⟩
    | 21, _ => exact ⟨rfl, fun _ _ => trivial, fun o ho => by
        cases ho
        exact ⟨_, _, rfl, fun v w h => h⟩⟩
    | 22, _ => exact ⟨rfl, fun _ _ => trivial, fun o ho => by
        cases ho
        exact ⟨_, _, rfl, fun v w h => h⟩⟩
    | 23, _ => exact ⟨rfl, fun _ _ => trivial, fun o ho => by
        cases ho
        exact ⟨_, _, rfl, fun v w h => h⟩⟩
    | 24, _ => exact ⟨rfl, fun _ _ => trivial, fun o ho => by
        cases ho
        exact ⟨_, _, rfl, fun v w h => h⟩⟩
    | 25, _ => exact ⟨rfl, fun _ _ => trivial, fun o ho => by
        cases ho
        exact ⟨_, _, rfl, fun v w h => h⟩⟩
    | 26, _ => exact ⟨rfl, fun _ _ => trivial, fun o ho => by
        cases ho
        exact ⟨_, _, rfl, fun v w h => h⟩⟩
    | 27, _ => exact ⟨rfl, fun _ _ => trivial, fun o ho => by
        cases ho
        exact ⟨_, _, rfl, fun v w h => h⟩⟩
    | 28, _ => exact ⟨rfl, fun _ _ => trivial, fun o ho => by
        cases ho
        exact ⟨_, _, rfl, fun v w h => h⟩⟩
    | 29, _ => exact ⟨rfl, fun _ _ => trivial, fun o ho => by
        cases ho
        exact ⟨_, _, rfl, fun v w h => h⟩⟩
    | 30, _ => exact ⟨rfl, fun _ _ => trivial, fun o ho => by
        cases ho
        exact ⟨_, _, rfl, fun v w h => h⟩⟩
    | 31, _ => exact ⟨rfl, fun _ _ => trivial, fun o ho => by
        cases ho
        exact ⟨_, _, rfl, fun v w h => h⟩⟩
    | 32, _ => exact ⟨rfl, fun _ _ => trivial, fun o ho => by
        cases ho
        exact ⟨_, _, rfl, fun v w h => h⟩⟩
    | 33, _ => exact absurd hs (by decide)
    | k + 34, hi => exact absurd hi (by omega)
  · intro i hi hs o ho a u hG hk hd
    have hG9 : Below w3.heap.size w3 u := ((Below.refl _ _).drew).trans hG
    match i, hi with
    | 0, _ =>
      cases ho
      exact ow_load_set rfl ((hk 5 (by decide)).trans rfl) (block_kept q3 hG9) ⟨_, rfl, rfl, Below.refl _ _, fun h => by cases h⟩
    | 1, _ =>
      cases ho
      have e29 : a.eval (.tmp 29) = _ := hd 0 (by kernel_rfl) (by decide)
      refine ow_call #[.tmp 29] #[24] 16 Try.func16 (by kernel_rfl) (by rfl) rfl #[_] (by simp only [List.map_toArray, List.map_cons, List.map_nil, e29]) (HRT.out u (hbx.trans (hG9.mono hbx.size))) ?_
      rintro e u2 ⟨rfl, hb2⟩
      exact ⟨_, rfl, _, rfl, rfl, hb2, fun h => by cases h⟩
    | 2, _ =>
      cases ho
      have e30 : a.eval (.tmp 30) = .bool true := hd 1 (by kernel_rfl) (by decide)
      exact ow_not rfl e30 ⟨_, rfl, rfl, Below.refl _ _, fun h => by cases h⟩
    | 3, _ =>
      cases ho
      have e31 : a.eval (.tmp 31) = .bool false := hd 2 (by kernel_rfl) (by decide)
      exact ow_move rfl e31 ⟨_, rfl, rfl, Below.refl _ _, fun h => by cases h⟩
    | 4, _ =>
      cases ho
      exact ow_load_set rfl ((hk 5 (by decide)).trans rfl) (block_kept q3 hG9) ⟨_, rfl, rfl, Below.refl _ _, fun h => by cases h⟩
    | 5, _ =>
      cases ho
      exact ow_move rfl ((hk 1 (by decide)).trans rfl) ⟨_, rfl, rfl, Below.refl _ _, fun h => by cases h⟩
    | 6, _ =>
      cases ho
      have e33 : a.eval (.tmp 33) = _ := hd 4 (by kernel_rfl) (by decide)
      have e34 : a.eval (.tmp 34) = _ := hd 5 (by kernel_rfl) (by decide)
      refine ow_call #[.tmp 33, .tmp 34] #[24, 3] 24 Try.func24 (by kernel_rfl) (by rfl) rfl #[_, _] (by simp only [List.map_toArray, List.map_cons, List.map_nil, e33, e34]) (HFG.out u (hbx.trans (hG9.mono hbx.size))) ?_
      rintro e u2 ⟨rfl, hb2⟩
      exact ⟨_, rfl, _, rfl, rfl, hb2, fun h => by cases h⟩
    | 7, _ =>
      cases ho
      have e35 : a.eval (.tmp 35) = .bool false := hd 6 (by kernel_rfl) (by decide)
      exact ow_not rfl e35 ⟨_, rfl, rfl, Below.refl _ _, fun h => by cases h⟩
    | 8, _ =>
      cases ho
      have e32 : a.eval (.tmp 32) = .bool false := hd 3 (by kernel_rfl) (by decide)
      have e36 : a.eval (.tmp 36) = .bool true := hd 7 (by kernel_rfl) (by decide)
      exact ow_pick_no rfl e32 e36 ⟨_, rfl, rfl, Below.refl _ _, fun h => by cases h⟩
    | 9, _ =>
      cases ho
      have e37 : a.eval (.tmp 37) = .bool true := hd 8 (by kernel_rfl) (by decide)
      exact ow_move rfl e37 ⟨_, rfl, rfl, Below.refl _ _, fun h => by cases h⟩
    | 10, _ =>
      exact absurd hs (by decide)
    | 11, _ =>
      exact absurd hs (by decide)
    | 12, _ =>
      exact absurd hs (by decide)
    | 13, _ =>
      exact absurd hs (by decide)
    | 14, _ =>
      exact absurd hs (by decide)
    | 15, _ =>
      exact absurd hs (by decide)
    | 16, _ =>
      exact absurd hs (by decide)
    | 17, _ =>
      cases ho
      have e38 : a.eval (.tmp 38) = .bool true := hd 9 (by kernel_rfl) (by decide)
      exact ow_pick rfl e38 rfl ⟨_, rfl, rfl, Below.refl _ _, fun h => by cases h⟩
    | 18, _ =>
      cases ho
      have e46 : a.eval (.tmp 46) = _ := hd 17 (by kernel_rfl) (by decide)
      exact ow_move rfl e46 ⟨_, rfl, rfl, Below.refl _ _, fun h => by cases h⟩
    | 19, _ =>
      exact absurd hs (by decide)
    | 20, _ =>
      exact absurd hs (by decide)
    | 21, _ =>
      exact absurd hs (by decide)
    | 22, _ =>
      exact absurd hs (by decide)
    | 23, _ =>
      exact absurd hs (by decide)
    | 24, _ =>
      exact absurd hs (by decide)
    | 25, _ =>
      exact absurd hs (by decide)
    | 26, _ =>
      exact absurd hs (by decide)
    | 27, _ =>
      exact absurd hs (by decide)
    | 28, _ =>
      exact absurd hs (by decide)
    | 29, _ =>
      exact absurd hs (by decide)
    | 30, _ =>
      exact absurd hs (by decide)
    | 31, _ =>
      exact absurd hs (by decide)
    | 32, _ =>
      exact absurd hs (by decide)
    | 33, _ =>
      cases ho
      have e47 : a.eval (.tmp 47) = .bool true := hd 18 (by kernel_rfl) (by decide)
      exact ow_pick rfl e47 rfl ⟨_, rfl, rfl, Below.refl _ _, fun h => by cases h⟩
    | k + 34, hi => exact absurd hi (by omega)
  · intro x U3 hG hx hdif
    have hlast : x 33 = _ := hx 33 (by decide)
    simp only [putAll, Act.put, List.getD_cons_zero, List.getD_cons_succ, List.setIfInBounds_toArray, List.set_cons_succ, List.set_cons_zero]
    refine wpAny_end (by kernel_rfl) ?_
    rw [hlast]
    clear hx hdif hlast
    have HB := Lib.hid (hbx.trans ((((Below.refl _ _).drew).trans hG).mono hbx.size))
    go_wp2_with (first | ((with_reducible go_at_call 25); (with_reducible refine Calls.mono (HLV.out _ HB.out) ?_); rintro e w3 ⟨rfl, hb3⟩; have HB := Lib.hid (HB.out.trans (hb3.mono HB.out.size)); clear hb3))
    go_ret
    exact yesEnd rfl HB.out
def F7c (sv : Value) (bx : Nat) (t : Txt) (vl : Txt) (vb : Value) (M : List Txt) (j : Int) : Nat → Value → World → Prop
  | 0, v, _ => v = sv
  | 1, v, _ => v = .bool true
  | 2, v, _ => v = .bool false
  | 3, v, _ => v = .bool false
  | 4, v, _ => v = sv
  | 5, v, _ => v = .int .i64 j
  | 6, v, _ => v = .bool true
  | 7, v, _ => v = .bool false
  | 8, v, _ => v = .bool false
  | 9, v, _ => v = .bool false
  | 10, v, _ => v = vb
  | 11, v, _ => v = .string (mkT (t))
  | 12, v, _ => v = .string (mkT (vl))
  | 13, v, w => ∃ g, v = .slice (some ⟨g, 0, none⟩) 2 2 ∧ w.heap[g]? = some (.cells #[.string (mkT (t)), .string (mkT (vl))] 9 (0, 0))
  | 14, v, w => ∃ g vs, v = .slice (some ⟨g, 0, none⟩) 2 2 ∧ RowsIn w g vs [M.map mkT, [mkT (t), mkT (vl)]]
  | 15, v, _ => v = .bool false
  | 16, v, _ => v = .bool true
  | 17, v, _ => v = .bool true
  | 18, v, _ => v = .bool true
  | 19, _, _ => True
  | 20, _, _ => True
  | 21, _, _ => True
  | 22, _, _ => True
  | 23, _, _ => True
  | 24, _, _ => True
  | 25, _, _ => True
  | 26, _, _ => True
  | 27, _, _ => True
  | 28, _, _ => True
  | 29, _, _ => True
  | 30, _, _ => True
  | 31, _, _ => True
  | 32, _, _ => True
  | 33, v, _ => v = .bool true
  | _, _, _ => True
theorem F7c.below {sv : Value} {bx : Nat} {t : Txt} {vl : Txt} {vb : Value} {M : List Txt} {j : Int} {ix : Nat} (hix : ix < 34) {v : Value} {w w' : World} (h : F7c sv bx t vl vb M j ix v w) (hb : Below w.heap.size w w') : F7c sv bx t vl vb M j ix v w' := by
  match ix, hix, h with
  | 0, _, h => exact h
  | 1, _, h => exact h
  | 2, _, h => exact h
  | 3, _, h => exact h
  | 4, _, h => exact h
  | 5, _, h => exact h
  | 6, _, h => exact h
  | 7, _, h => exact h
  | 8, _, h => exact h
  | 9, _, h => exact h
  | 10, _, h => exact h
  | 11, _, h => exact h
  | 12, _, h => exact h
  | 13, _, h => obtain ⟨g, e, h⟩ := h; exact ⟨g, e, block_kept h hb⟩
  | 14, _, h => obtain ⟨g, vs, e, h⟩ := h; exact ⟨g, vs, e, h.below hb⟩
  | 15, _, h => exact h
  | 16, _, h => exact h
  | 17, _, h => exact h
  | 18, _, h => exact h
  | 19, _, _ => trivial
  | 20, _, _ => trivial
  | 21, _, _ => trivial
  | 22, _, _ => trivial
  | 23, _, _ => trivial
  | 24, _, _ => trivial
  | 25, _, _ => trivial
  | 26, _, _ => trivial
  | 27, _, _ => trivial
  | 28, _, _ => trivial
  | 29, _, _ => trivial
  | 30, _, _ => trivial
  | 31, _, _ => trivial
  | 32, _, _ => trivial
  | 33, _, h => exact h
  | k + 34, hi, _ => exact absurd hi (by omega)

set_option maxRecDepth 100000 in
set_option maxHeartbeats 6400000 in
theorem fold_7 {w : World} {A : Option Addr} {F : List FlagP} (hA : FlagsAt w A F) {cap : Nat} (hc : F.length ≤ cap) (hm : cap ≤ 9223372036854775807) (pl un : Bool) (k : Int) (j : Int) (t vl : Txt) {vb : Value} {M : List Txt} (hvb : TextIn w vb (M.map mkT)) (h1 : fits20 (F.map ofFlag) = true) (hzt : (mkT t).size ≤ 2147483647) (hzv : (mkT vl).size ≤ 2147483647) (h2 : fits2 (M.map mkT) = true) (h3 : RightK F k = true) (h4 : decide (0 ≤ j ∧ j < (F.length : Int)) = true) (h5 : decide (wtBB [M.map mkT, [mkT t, mkT vl]] ≤ 1048576) = false) :
    Calls Try.prog 7 #[.agg #[.slice A F.length cap, .bool pl, .bool un, .int .i64 k], .int .i64 j, .string (mkT t), .string (mkT vl), vb] w (YesEnd w) := by
  have H19 := Lib.hid (says19 hA hc hm pl un k h1)
  have HFT : Hid (∀ xs ∈ [M.map mkT, [mkT t, mkT vl]], fits2 xs = true) := Lib.hid (fun xs hx => by
    simp only [List.mem_cons, List.not_mem_nil, or_false] at hx
    rcases hx with rfl | rfl
    · exact h2
    · exact fits2_iff.2 ⟨by simp, fun x hx => by simp only [List.mem_cons, List.not_mem_nil, or_false] at hx; rcases hx with rfl | rfl <;> assumption⟩)
  have hzt : ¬ (2147483647 : Int) < ((mkT t).size : Int) := by omega
  have hzv : ¬ (2147483647 : Int) < ((mkT vl).size : Int) := by omega
  have H2 := Lib.hid (says2 hvb h2)
  have HRT := Lib.hid (saysR hA cap pl un k h1 h3)
  have HFG := Lib.hid (saysF (w := w) A F.length cap pl un k h4)
  have HLV := Lib.hid (saysL w)
  have HDE := Lib.hid h5
  have HVB := Lib.hid hvb
  obtain ⟨vb0, vbn, vbc, hvbe⟩ := hvb.slice
  clear hvb
  subst hvbe
  go_enter Try.func7, Try.ntmps7
  go_upto_region 1 with fail
  generalize hWX : w.alloc _ = WX
  have HB : Hid (Below w.heap.size w WX) := Lib.hid (by rw [← hWX]; exact (Below.refl _ _).alloc (Nat.le_refl _) _)
  have q3 : WX.heap[w.heap.size]? = some (.cells #[.slice A F.length cap, .bool pl, .bool un, .int .i64 k] 24 (0, 0)) := by rw [← hWX]; exact heap_alloc_new w _
  clear hWX
  have c0 : WX.cell? ⟨w.heap.size, 0, none⟩ = some (.slice A F.length cap) := (cell_blk q3 0).trans rfl
  have c1 : WX.cell? ⟨w.heap.size, 1, none⟩ = some (.bool pl) := (cell_blk q3 1).trans rfl
  have c2 : WX.cell? ⟨w.heap.size, 2, none⟩ = some (.bool un) := (cell_blk q3 2).trans rfl
  have c3 : WX.cell? ⟨w.heap.size, 3, none⟩ = some (.int .i64 k) := (cell_blk q3 3).trans rfl
  go_upto_region 3 with (first | ((with_reducible go_at_call 14); (with_reducible refine Calls.mono (H19.out _ HB.out) ?_); rintro e w3 ⟨rfl, hb3⟩; have q3 := block_kept q3 hb3; have c0 := cell_kept hb3 c0; have c1 := cell_kept hb3 c1; have c2 := cell_kept hb3 c2; have c3 := cell_kept hb3 c3; have HB := Lib.hid (HB.out.trans (hb3.mono HB.out.size)); clear hb3) | ((with_reducible go_at_call 15); (with_reducible refine Calls.mono (H2.out _ HB.out) ?_); rintro e w3 ⟨rfl, hb3⟩; have q3 := block_kept q3 hb3; have c0 := cell_kept hb3 c0; have c1 := cell_kept hb3 c1; have c2 := cell_kept hb3 c2; have c3 := cell_kept hb3 c3; have HB := Lib.hid (HB.out.trans (hb3.mono HB.out.size)); clear hb3) | ((with_reducible go_at_call 16); (with_reducible refine Calls.mono (HRT.out _ HB.out) ?_); rintro e w3 ⟨rfl, hb3⟩; have q3 := block_kept q3 hb3; have c0 := cell_kept hb3 c0; have c1 := cell_kept hb3 c1; have c2 := cell_kept hb3 c2; have c3 := cell_kept hb3 c3; have HB := Lib.hid (HB.out.trans (hb3.mono HB.out.size)); clear hb3) | ((with_reducible go_at_call 24); (with_reducible refine Calls.mono (HFG.out _ HB.out) ?_); rintro e w3 ⟨rfl, hb3⟩; have q3 := block_kept q3 hb3; have c0 := cell_kept hb3 c0; have c1 := cell_kept hb3 c1; have c2 := cell_kept hb3 c2; have c3 := cell_kept hb3 c3; have HB := Lib.hid (HB.out.trans (hb3.mono HB.out.size)); clear hb3) | ((with_reducible go_at_call 25); (with_reducible refine Calls.mono (HLV.out _ HB.out) ?_); rintro e w3 ⟨rfl, hb3⟩; have q3 := block_kept q3 hb3; have c0 := cell_kept hb3 c0; have c1 := cell_kept hb3 c1; have c2 := cell_kept hb3 c2; have c3 := cell_kept hb3 c3; have HB := Lib.hid (HB.out.trans (hb3.mono HB.out.size)); clear hb3))
  have hbx := HB.out
  have HVC := Lib.hid (HVB.out.below hbx)
  clear c0 c1 c2 c3
  refine region_skip (fun i => [19, 20, 21, 22, 23, 24, 25, 26, 27, 28, 29, 30, 31, 32].contains i) (by kernel_rfl) (fun u v => Below u.heap.size u v) (F7c (.agg #[.slice A F.length cap, .bool pl, .bool un, .int .i64 k]) (w.heap.size) (t) (vl) (.slice vb0 vbn vbc) (M) (j)) (fun i => false) (fun i => [29, 30, 31, 32, 33, 34, 35, 36, 37, 38, 39, 40, 41, 42, 43, 44, 45, 46, 47, 48, 49, 50, 51, 52, 53, 54, 55, 56, 57, 58, 59, 60, 61, 62].getD i 0) 34
    (Below.refl _ _) (fun _ _ _ h k => below_step h k) (fun i hi v u u' h hb => F7c.below hi h hb) ?_ ?_ ?_ (by kernel_rfl) (by kernel_rfl) (by kernel_rfl) (by kernel_rfl) ?_ ?_
  · intro i hi hA; cases hA
  · intro i hi hs o ho g want hg v u hR
    match i, hi with
    | 0, _ =>
      cases ho
      cases hg
    | 1, _ =>
      cases ho
      cases hg
    | 2, _ =>
      cases ho
      cases hg
    | 3, _ =>
      cases ho
      cases hg
    | 4, _ =>
      cases ho
      cases hg; exact hR
    | 5, _ =>
      cases ho
      cases hg; exact hR
    | 6, _ =>
      cases ho
      cases hg; exact hR
    | 7, _ =>
      cases ho
      cases hg; exact hR
    | 8, _ =>
      cases ho
      cases hg
    | 9, _ =>
      cases ho
      cases hg
    | 10, _ =>
      cases ho
      cases hg; exact hR
    | 11, _ =>
      cases ho
      cases hg; exact hR
    | 12, _ =>
      cases ho
      cases hg; exact hR
    | 13, _ =>
      cases ho
      cases hg; exact hR
    | 14, _ =>
      cases ho
      cases hg; exact hR
    | 15, _ =>
      cases ho
      cases hg; exact hR
    | 16, _ =>
      cases ho
      cases hg; exact hR
    | 17, _ =>
      cases ho
      cases hg
    | 18, _ =>
      cases ho
      cases hg
    | 19, _ =>
      exact absurd hs (by decide)
    | 20, _ =>
      exact absurd hs (by decide)
    | 21, _ =>
      exact absurd hs (by decide)
    | 22, _ =>
      exact absurd hs (by decide)
    | 23, _ =>
      exact absurd hs (by decide)
    | 24, _ =>
      exact absurd hs (by decide)
    | 25, _ =>
      exact absurd hs (by decide)
    | 26, _ =>
      exact absurd hs (by decide)
    | 27, _ =>
      exact absurd hs (by decide)
    | 28, _ =>
      exact absurd hs (by decide)
    | 29, _ =>
      exact absurd hs (by decide)
    | 30, _ =>
      exact absurd hs (by decide)
    | 31, _ =>
      exact absurd hs (by decide)
    | 32, _ =>
      exact absurd hs (by decide)
    | 33, _ =>
      cases ho
      cases hg
    | k + 34, hi => exact absurd hi (by omega)
  · intro i hi hs
    match i, hi with
    | 0, _ => exact absurd hs (by decide)
    | 1, _ => exact absurd hs (by decide)
    | 2, _ => exact absurd hs (by decide)
    | 3, _ => exact absurd hs (by decide)
    | 4, _ => exact absurd hs (by decide)
    | 5, _ => exact absurd hs (by decide)
    | 6, _ => exact absurd hs (by decide)
    | 7, _ => exact absurd hs (by decide)
    | 8, _ => exact absurd hs (by decide)
    | 9, _ => exact absurd hs (by decide)
    | 10, _ => exact absurd hs (by decide)
    | 11, _ => exact absurd hs (by decide)
    | 12, _ => exact absurd hs (by decide)
    | 13, _ => exact absurd hs (by decide)
    | 14, _ => exact absurd hs (by decide)
    | 15, _ => exact absurd hs (by decide)
    | 16, _ => exact absurd hs (by decide)
    | 17, _ => exact absurd hs (by decide)
    | 18, _ => exact absurd hs (by decide)
    | 19, _ => exact ⟨rfl, fun _ _ => trivial, fun o ho => by
        cases ho
        exact ⟨_, _, rfl, fun v w h => h⟩⟩
    | 20, _ => exact ⟨rfl, fun _ _ => trivial, fun o ho => by
        cases ho
        exact ⟨_, _, rfl, fun v w h => h⟩⟩
    | 21, _ => exact ⟨rfl, fun _ _ => trivial, fun o ho => by
        cases ho
        exact ⟨_, _, rfl, fun v w h => h⟩⟩
    | 22, _ => exact ⟨rfl, fun _ _ => trivial, fun o ho => by
        cases ho
        exact ⟨_, _, rfl, fun v w h => h⟩⟩
    | 23, _ => exact ⟨rfl, fun _ _ => trivial, fun o ho => by
        cases ho
        exact ⟨_, _, rfl, fun v w h => h⟩⟩
    | 24, _ => exact ⟨rfl, fun _ _ => trivial, fun o ho => by
        cases ho
        exact ⟨_, _, rfl, fun v w h => h⟩⟩
    | 25, _ => exact ⟨rfl, fun _ _ => trivial, fun o ho => by
        cases ho
        exact ⟨_, _, rfl, fun v w h => h⟩⟩
    | 26, _ => exact ⟨rfl, fun _ _ => trivial, fun o ho => by
        cases ho
        exact ⟨_, _, rfl, fun v w h => h⟩⟩
    | 27, _ => exact ⟨rfl, fun _ _ => trivial, fun o ho => by
        cases ho
        exact ⟨_, _, rfl, fun v w h => h⟩⟩
    | 28, _ => exact ⟨rfl, fun _ _ => trivial, fun o ho => by
        cases ho
        exact ⟨_, _, rfl, fun v w h => h⟩⟩
    | 29, _ => exact ⟨rfl, fun _ _ => trivial, fun o ho => by
        cases ho
        exact ⟨_, _, rfl, fun v w h => h⟩⟩
    | 30, _ => exact ⟨rfl, fun _ _ => trivial, fun o ho => by
        cases ho
        exact ⟨_, _, rfl, fun v w h => h⟩⟩
    | 31, _ => exact ⟨rfl, fun _ _ => trivial, fun o ho => by
        cases ho
        exact ⟨_, _, rfl, fun v w h => h⟩⟩
    | 32, _ => exact ⟨rfl, fun _ _ => trivial, fun o ho => by
        cases ho
        exact ⟨_, _, rfl, fun v w h => h⟩⟩
    | 33, _ => exact absurd hs (by decide)
    | k + 34, hi => exact absurd hi (by omega)
  · intro i hi hs o ho a u hG hk hd
    have hG9 : Below w3.heap.size w3 u := ((Below.refl _ _).drew).trans hG
    match i, hi with
    | 0, _ =>
      cases ho
      exact ow_load_set rfl ((hk 5 (by decide)).trans rfl) (block_kept q3 hG9) ⟨_, rfl, rfl, Below.refl _ _, fun h => by cases h⟩
    | 1, _ =>
      cases ho
      have e29 : a.eval (.tmp 29) = _ := hd 0 (by kernel_rfl) (by decide)
      refine ow_call #[.tmp 29] #[24] 16 Try.func16 (by kernel_rfl) (by rfl) rfl #[_] (by simp only [List.map_toArray, List.map_cons, List.map_nil, e29]) (HRT.out u (hbx.trans (hG9.mono hbx.size))) ?_
      rintro e u2 ⟨rfl, hb2⟩
      exact ⟨_, rfl, _, rfl, rfl, hb2, fun h => by cases h⟩
    | 2, _ =>
      cases ho
      have e30 : a.eval (.tmp 30) = .bool true := hd 1 (by kernel_rfl) (by decide)
      exact ow_not rfl e30 ⟨_, rfl, rfl, Below.refl _ _, fun h => by cases h⟩
    | 3, _ =>
      cases ho
      have e31 : a.eval (.tmp 31) = .bool false := hd 2 (by kernel_rfl) (by decide)
      exact ow_move rfl e31 ⟨_, rfl, rfl, Below.refl _ _, fun h => by cases h⟩
    | 4, _ =>
      cases ho
      exact ow_load_set rfl ((hk 5 (by decide)).trans rfl) (block_kept q3 hG9) ⟨_, rfl, rfl, Below.refl _ _, fun h => by cases h⟩
    | 5, _ =>
      cases ho
      exact ow_move rfl ((hk 1 (by decide)).trans rfl) ⟨_, rfl, rfl, Below.refl _ _, fun h => by cases h⟩
    | 6, _ =>
      cases ho
      have e33 : a.eval (.tmp 33) = _ := hd 4 (by kernel_rfl) (by decide)
      have e34 : a.eval (.tmp 34) = _ := hd 5 (by kernel_rfl) (by decide)
      refine ow_call #[.tmp 33, .tmp 34] #[24, 3] 24 Try.func24 (by kernel_rfl) (by rfl) rfl #[_, _] (by simp only [List.map_toArray, List.map_cons, List.map_nil, e33, e34]) (HFG.out u (hbx.trans (hG9.mono hbx.size))) ?_
      rintro e u2 ⟨rfl, hb2⟩
      exact ⟨_, rfl, _, rfl, rfl, hb2, fun h => by cases h⟩
    | 7, _ =>
      cases ho
      have e35 : a.eval (.tmp 35) = .bool true := hd 6 (by kernel_rfl) (by decide)
      exact ow_not rfl e35 ⟨_, rfl, rfl, Below.refl _ _, fun h => by cases h⟩
    | 8, _ =>
      cases ho
      have e32 : a.eval (.tmp 32) = .bool false := hd 3 (by kernel_rfl) (by decide)
      have e36 : a.eval (.tmp 36) = .bool false := hd 7 (by kernel_rfl) (by decide)
      exact ow_pick_no rfl e32 e36 ⟨_, rfl, rfl, Below.refl _ _, fun h => by cases h⟩
    | 9, _ =>
      cases ho
      have e37 : a.eval (.tmp 37) = .bool false := hd 8 (by kernel_rfl) (by decide)
      exact ow_move rfl e37 ⟨_, rfl, rfl, Below.refl _ _, fun h => by cases h⟩
    | 10, _ =>
      cases ho
      exact ow_move rfl ((hk 4 (by decide)).trans rfl) ⟨_, rfl, rfl, Below.refl _ _, fun h => by cases h⟩
    | 11, _ =>
      cases ho
      exact ow_move rfl ((hk 2 (by decide)).trans rfl) ⟨_, rfl, rfl, Below.refl _ _, fun h => by cases h⟩
    | 12, _ =>
      cases ho
      exact ow_move rfl ((hk 3 (by decide)).trans rfl) ⟨_, rfl, rfl, Below.refl _ _, fun h => by cases h⟩
    | 13, _ =>
      cases ho
      have e40 : a.eval (.tmp 40) = _ := hd 11 (by kernel_rfl) (by decide)
      have e41 : a.eval (.tmp 41) = _ := hd 12 (by kernel_rfl) (by decide)
      exact ow_build2 rfl e40 e41 ⟨_, rfl, ⟨_, rfl, heap_alloc_new _ _⟩, (Below.refl _ _).alloc (Nat.le_refl _) _, fun h => by cases h⟩
    | 14, _ =>
      cases ho
      have e39 : a.eval (.tmp 39) = _ := hd 10 (by kernel_rfl) (by decide)
      obtain ⟨g42, e42, hg42⟩ := hd 13 (by kernel_rfl) (by decide)
      exact ow_rows2 rfl e39 e42 ⟨_, rfl, ⟨_, _, rfl, rows2 (heap_alloc_new _ _) ((HVC.out.below hG9).below ((Below.refl _ _).alloc (Nat.le_refl _) _)) ((two_texts hg42).below ((Below.refl _ _).alloc (Nat.le_refl _) _))⟩, (Below.refl _ _).alloc (Nat.le_refl _) _, fun h => by cases h⟩
    | 15, _ =>
      cases ho
      obtain ⟨g, vs, e43', hr⟩ := hd 14 (by kernel_rfl) (by decide)
      have e43 : a.eval (.tmp 43) = .slice (some ⟨g, 0, none⟩) 2 2 := e43'
      have hf14 : Calls Try.prog 17 #[.slice (some ⟨g, 0, none⟩) 2 2] u _ := fits14_c (ls := [M.map mkT, [mkT (t), mkT (vl)]]) hr (by (show 2 ≤ 2147483647; decide)) (Nat.le_refl 2) HFT.out
      rw [HDE.out] at hf14
      refine ow_call #[.tmp 43] #[68] 17 Try.func17 (by kernel_rfl) (by rfl) rfl #[.slice (some ⟨g, 0, none⟩) 2 2] (by simp only [List.map_toArray, List.map_cons, List.map_nil, e43]) hf14 ?_
      rintro e u2 ⟨rfl, hb2⟩
      exact ⟨_, rfl, _, rfl, rfl, hb2, fun h => by cases h⟩
    | 16, _ =>
      cases ho
      have e44 : a.eval (.tmp 44) = .bool false := hd 15 (by kernel_rfl) (by decide)
      exact ow_not rfl e44 ⟨_, rfl, rfl, Below.refl _ _, fun h => by cases h⟩
    | 17, _ =>
      cases ho
      have e38 : a.eval (.tmp 38) = .bool false := hd 9 (by kernel_rfl) (by decide)
      have e45 : a.eval (.tmp 45) = .bool true := hd 16 (by kernel_rfl) (by decide)
      exact ow_pick_no rfl e38 e45 ⟨_, rfl, rfl, Below.refl _ _, fun h => by cases h⟩
    | 18, _ =>
      cases ho
      have e46 : a.eval (.tmp 46) = .bool true := hd 17 (by kernel_rfl) (by decide)
      exact ow_move rfl e46 ⟨_, rfl, rfl, Below.refl _ _, fun h => by cases h⟩
    | 19, _ =>
      exact absurd hs (by decide)
    | 20, _ =>
      exact absurd hs (by decide)
    | 21, _ =>
      exact absurd hs (by decide)
    | 22, _ =>
      exact absurd hs (by decide)
    | 23, _ =>
      exact absurd hs (by decide)
    | 24, _ =>
      exact absurd hs (by decide)
    | 25, _ =>
      exact absurd hs (by decide)
    | 26, _ =>
      exact absurd hs (by decide)
    | 27, _ =>
      exact absurd hs (by decide)
    | 28, _ =>
      exact absurd hs (by decide)
    | 29, _ =>
      exact absurd hs (by decide)
    | 30, _ =>
      exact absurd hs (by decide)
    | 31, _ =>
      exact absurd hs (by decide)
    | 32, _ =>
      exact absurd hs (by decide)
    | 33, _ =>
      cases ho
      have e47 : a.eval (.tmp 47) = .bool true := hd 18 (by kernel_rfl) (by decide)
      exact ow_pick rfl e47 rfl ⟨_, rfl, rfl, Below.refl _ _, fun h => by cases h⟩
    | k + 34, hi => exact absurd hi (by omega)
  · intro x U3 hG hx hdif
    have hlast : x 33 = _ := hx 33 (by decide)
    simp only [putAll, Act.put, List.getD_cons_zero, List.getD_cons_succ, List.setIfInBounds_toArray, List.set_cons_succ, List.set_cons_zero]
    refine wpAny_end (by kernel_rfl) ?_
    rw [hlast]
    clear hx hdif hlast
    have HB := Lib.hid (hbx.trans ((((Below.refl _ _).drew).trans hG).mono hbx.size))
    go_wp2_with (first | ((with_reducible go_at_call 25); (with_reducible refine Calls.mono (HLV.out _ HB.out) ?_); rintro e w3 ⟨rfl, hb3⟩; have HB := Lib.hid (HB.out.trans (hb3.mono HB.out.size)); clear hb3))
    go_ret
    exact yesEnd rfl HB.out
def F7d (sv : Value) (bx : Nat) (t : Txt) (vl : Txt) (vb : Value) (M : List Txt) (i : Nat) (fb : Nat) (fo : Nat) (ln : Nat) (cap : Nat) (nm : Txt) (kf : Nat) : Nat → Value → World → Prop
  | 0, v, _ => v = sv
  | 1, v, _ => v = .bool true
  | 2, v, _ => v = .bool false
  | 3, v, _ => v = .bool false
  | 4, v, _ => v = sv
  | 5, v, _ => v = .int .i64 (i : Int)
  | 6, v, _ => v = .bool true
  | 7, v, _ => v = .bool false
  | 8, v, _ => v = .bool false
  | 9, v, _ => v = .bool false
  | 10, v, _ => v = vb
  | 11, v, _ => v = .string (mkT (t))
  | 12, v, _ => v = .string (mkT (vl))
  | 13, v, w => ∃ g, v = .slice (some ⟨g, 0, none⟩) 2 2 ∧ w.heap[g]? = some (.cells #[.string (mkT (t)), .string (mkT (vl))] 9 (0, 0))
  | 14, v, w => ∃ g vs, v = .slice (some ⟨g, 0, none⟩) 2 2 ∧ RowsIn w g vs [M.map mkT, [mkT (t), mkT (vl)]]
  | 15, v, _ => v = .bool true
  | 16, v, _ => v = .bool false
  | 17, v, _ => v = .bool false
  | 18, v, _ => v = .bool false
  | 19, v, _ => v = .pointer (some ⟨bx, 3, none⟩)
  | 20, v, _ => v = .int .i64 (kf : Int)
  | 21, v, _ => v = .string (mkT (t))
  | 22, v, _ => v = .string (mkT (foldT kf t))
  | 23, v, _ => v = .pointer (some ⟨bx, 3, none⟩)
  | 24, v, _ => v = .int .i64 (kf : Int)
  | 25, v, _ => v = .pointer (some ⟨bx, 0, none⟩)
  | 26, v, _ => v = .slice (some ⟨fb, fo, none⟩) ln cap
  | 27, v, _ => v = .int .i64 (i : Int)
  | 28, v, _ => v = .pointer (some ⟨fb, fo + i * 4, none⟩)
  | 29, v, _ => v = .pointer (some ⟨fb, fo + i * 4, none⟩)
  | 30, v, _ => v = .string (mkT (nm))
  | 31, v, _ => v = .string (mkT (foldT kf nm))
  | 32, v, _ => v = .bool true
  | 33, v, _ => v = .bool true
  | _, _, _ => True
theorem F7d.below {sv : Value} {bx : Nat} {t : Txt} {vl : Txt} {vb : Value} {M : List Txt} {i : Nat} {fb : Nat} {fo : Nat} {ln : Nat} {cap : Nat} {nm : Txt} {kf : Nat} {ix : Nat} (hix : ix < 34) {v : Value} {w w' : World} (h : F7d sv bx t vl vb M i fb fo ln cap nm kf ix v w) (hb : Below w.heap.size w w') : F7d sv bx t vl vb M i fb fo ln cap nm kf ix v w' := by
  match ix, hix, h with
  | 0, _, h => exact h
  | 1, _, h => exact h
  | 2, _, h => exact h
  | 3, _, h => exact h
  | 4, _, h => exact h
  | 5, _, h => exact h
  | 6, _, h => exact h
  | 7, _, h => exact h
  | 8, _, h => exact h
  | 9, _, h => exact h
  | 10, _, h => exact h
  | 11, _, h => exact h
  | 12, _, h => exact h
  | 13, _, h => obtain ⟨g, e, h⟩ := h; exact ⟨g, e, block_kept h hb⟩
  | 14, _, h => obtain ⟨g, vs, e, h⟩ := h; exact ⟨g, vs, e, h.below hb⟩
  | 15, _, h => exact h
  | 16, _, h => exact h
  | 17, _, h => exact h
  | 18, _, h => exact h
  | 19, _, h => exact h
  | 20, _, h => exact h
  | 21, _, h => exact h
  | 22, _, h => exact h
  | 23, _, h => exact h
  | 24, _, h => exact h
  | 25, _, h => exact h
  | 26, _, h => exact h
  | 27, _, h => exact h
  | 28, _, h => exact h
  | 29, _, h => exact h
  | 30, _, h => exact h
  | 31, _, h => exact h
  | 32, _, h => exact h
  | 33, _, h => exact h
  | k + 34, hi, _ => exact absurd hi (by omega)
def F7e (sv : Value) (bx : Nat) (t : Txt) (vl : Txt) (vb : Value) (M : List Txt) (i : Nat) (fb : Nat) (fo : Nat) (ln : Nat) (cap : Nat) (nm : Txt) (kf : Nat) : Nat → Value → World → Prop
  | 0, v, _ => v = sv
  | 1, v, _ => v = .bool true
  | 2, v, _ => v = .bool false
  | 3, v, _ => v = .bool false
  | 4, v, _ => v = sv
  | 5, v, _ => v = .int .i64 (i : Int)
  | 6, v, _ => v = .bool true
  | 7, v, _ => v = .bool false
  | 8, v, _ => v = .bool false
  | 9, v, _ => v = .bool false
  | 10, v, _ => v = vb
  | 11, v, _ => v = .string (mkT (t))
  | 12, v, _ => v = .string (mkT (vl))
  | 13, v, w => ∃ g, v = .slice (some ⟨g, 0, none⟩) 2 2 ∧ w.heap[g]? = some (.cells #[.string (mkT (t)), .string (mkT (vl))] 9 (0, 0))
  | 14, v, w => ∃ g vs, v = .slice (some ⟨g, 0, none⟩) 2 2 ∧ RowsIn w g vs [M.map mkT, [mkT (t), mkT (vl)]]
  | 15, v, _ => v = .bool true
  | 16, v, _ => v = .bool false
  | 17, v, _ => v = .bool false
  | 18, v, _ => v = .bool false
  | 19, v, _ => v = .pointer (some ⟨bx, 3, none⟩)
  | 20, v, _ => v = .int .i64 (kf : Int)
  | 21, v, _ => v = .string (mkT (t))
  | 22, v, _ => v = .string (mkT (foldT kf t))
  | 23, v, _ => v = .pointer (some ⟨bx, 3, none⟩)
  | 24, v, _ => v = .int .i64 (kf : Int)
  | 25, v, _ => v = .pointer (some ⟨bx, 0, none⟩)
  | 26, v, _ => v = .slice (some ⟨fb, fo, none⟩) ln cap
  | 27, v, _ => v = .int .i64 (i : Int)
  | 28, v, _ => v = .pointer (some ⟨fb, fo + i * 4, none⟩)
  | 29, v, _ => v = .pointer (some ⟨fb, fo + i * 4, none⟩)
  | 30, v, _ => v = .string (mkT (nm))
  | 31, v, _ => v = .string (mkT (foldT kf nm))
  | 32, v, _ => v = .bool false
  | 33, v, _ => v = .bool false
  | _, _, _ => True
theorem F7e.below {sv : Value} {bx : Nat} {t : Txt} {vl : Txt} {vb : Value} {M : List Txt} {i : Nat} {fb : Nat} {fo : Nat} {ln : Nat} {cap : Nat} {nm : Txt} {kf : Nat} {ix : Nat} (hix : ix < 34) {v : Value} {w w' : World} (h : F7e sv bx t vl vb M i fb fo ln cap nm kf ix v w) (hb : Below w.heap.size w w') : F7e sv bx t vl vb M i fb fo ln cap nm kf ix v w' := by
  match ix, hix, h with
  | 0, _, h => exact h
  | 1, _, h => exact h
  | 2, _, h => exact h
  | 3, _, h => exact h
  | 4, _, h => exact h
  | 5, _, h => exact h
  | 6, _, h => exact h
  | 7, _, h => exact h
  | 8, _, h => exact h
  | 9, _, h => exact h
  | 10, _, h => exact h
  | 11, _, h => exact h
  | 12, _, h => exact h
  | 13, _, h => obtain ⟨g, e, h⟩ := h; exact ⟨g, e, block_kept h hb⟩
  | 14, _, h => obtain ⟨g, vs, e, h⟩ := h; exact ⟨g, vs, e, h.below hb⟩
  | 15, _, h => exact h
  | 16, _, h => exact h
  | 17, _, h => exact h
  | 18, _, h => exact h
  | 19, _, h => exact h
  | 20, _, h => exact h
  | 21, _, h => exact h
  | 22, _, h => exact h
  | 23, _, h => exact h
  | 24, _, h => exact h
  | 25, _, h => exact h
  | 26, _, h => exact h
  | 27, _, h => exact h
  | 28, _, h => exact h
  | 29, _, h => exact h
  | 30, _, h => exact h
  | 31, _, h => exact h
  | 32, _, h => exact h
  | 33, _, h => exact h
  | k + 34, hi, _ => exact absurd hi (by omega)
def F7m (sv : Value) (S : SetP) (bx : Nat) (i : Nat) (t : Txt) (nm : Txt) (vl : Txt) (vb : Value) (M : List Txt) : Nat → Value → World → Prop
  | 0, v, _ => v = sv
  | 1, v, _ => v = .string (mkT (t))
  | 2, v, _ => v = .string (mkT (([45, 45] ++ t)))
  | 3, v, _ => v = .string (mkT ((([45, 45] ++ t) ++ [61])))
  | 4, v, _ => v = .string (mkT (vl))
  | 5, v, _ => v = .string (mkT (((([45, 45] ++ t) ++ [61]) ++ vl)))
  | 6, v, w => ∃ g, v = .slice (some ⟨g, 0, none⟩) 1 1 ∧ w.heap[g]? = some (.cells #[.string (mkT (((([45, 45] ++ t) ++ [61]) ++ vl)))] 9 (0, 0))
  | 7, v, _ => v = vb
  | 8, v, w => ∃ g vs, v = .slice (some ⟨g, 0, none⟩) 2 2 ∧ RowsIn w g vs [[mkT (((([45, 45] ++ t) ++ [61]) ++ vl))], M.map mkT]
  | 9, v, w => TextIn w v (((((([45, 45] ++ t) ++ [61]) ++ vl) :: M)).map mkT)
  | 10, v, w => HeardOwn w (psOf none true (goes S none st0 ((((([45, 45] ++ t) ++ [61]) ++ vl) :: M)))) (goes S none st0 ((((([45, 45] ++ t) ++ [61]) ++ vl) :: M))).err S.flags.length v
  | 11, v, _ => v = sv
  | 12, v, _ => v = sv
  | 13, v, _ => v = .int .i64 (i : Int)
  | 14, v, _ => v = .string (mkT (vl))
  | 15, v, _ => v = .string (mkT (longT nm vl))
  | 16, v, w => ∃ g, v = .slice (some ⟨g, 0, none⟩) 1 1 ∧ w.heap[g]? = some (.cells #[.string (mkT (longT nm vl))] 9 (0, 0))
  | 17, v, _ => v = vb
  | 18, v, w => ∃ g vs, v = .slice (some ⟨g, 0, none⟩) 2 2 ∧ RowsIn w g vs [[mkT (longT nm vl)], M.map mkT]
  | 19, v, w => TextIn w v (((longT nm vl :: M)).map mkT)
  | 20, v, w => HeardOwn w (psOf none true (goes S none st0 ((longT nm vl :: M)))) (goes S none st0 ((longT nm vl :: M))).err S.flags.length v
  | 21, v, _ => v = .bool true
  | 22, v, _ => v = .bool true
  | 23, v, _ => v = .bool true
  | 24, v, _ => v = .bool true
  | 25, v, _ => v = .bool true
  | _, _, _ => True
theorem F7m.below {sv : Value} {S : SetP} {bx : Nat} {i : Nat} {t : Txt} {nm : Txt} {vl : Txt} {vb : Value} {M : List Txt} {ix : Nat} (hix : ix < 26) {v : Value} {w w' : World} (h : F7m sv S bx i t nm vl vb M ix v w) (hb : Below w.heap.size w w') : F7m sv S bx i t nm vl vb M ix v w' := by
  match ix, hix, h with
  | 0, _, h => exact h
  | 1, _, h => exact h
  | 2, _, h => exact h
  | 3, _, h => exact h
  | 4, _, h => exact h
  | 5, _, h => exact h
  | 6, _, h => obtain ⟨g, e, h⟩ := h; exact ⟨g, e, block_kept h hb⟩
  | 7, _, h => exact h
  | 8, _, h => obtain ⟨g, vs, e, h⟩ := h; exact ⟨g, vs, e, h.below hb⟩
  | 9, _, h => exact TextIn.below h hb
  | 10, _, h => exact HeardOwn.below h hb
  | 11, _, h => exact h
  | 12, _, h => exact h
  | 13, _, h => exact h
  | 14, _, h => exact h
  | 15, _, h => exact h
  | 16, _, h => obtain ⟨g, e, h⟩ := h; exact ⟨g, e, block_kept h hb⟩
  | 17, _, h => exact h
  | 18, _, h => obtain ⟨g, vs, e, h⟩ := h; exact ⟨g, vs, e, h.below hb⟩
  | 19, _, h => exact TextIn.below h hb
  | 20, _, h => exact HeardOwn.below h hb
  | 21, _, h => exact h
  | 22, _, h => exact h
  | 23, _, h => exact h
  | 24, _, h => exact h
  | 25, _, h => exact h
  | k + 26, hi, _ => exact absurd hi (by omega)

set_option maxRecDepth 100000 in
set_option maxHeartbeats 6400000 in
theorem fold_8 {w : World} {A : Option Addr} {S : SetP} (hS : SetOK w A S) {cap : Nat} (hc : S.flags.length ≤ cap) (hm : cap ≤ 9223372036854775807) (t vl : Txt) {vb : Value} {M : List Txt} (hvb : TextIn w vb (M.map mkT)) (h1 : fits20 (S.flags.map ofFlag) = true) (hzt : (mkT t).size ≤ 2147483647) (hzv : (mkT vl).size ≤ 2147483647) (h2 : fits2 (M.map mkT) = true) (h3 : RightK S.flags S.fold = true)
    (i : Nat) (hi : i < S.flags.length) (h5 : decide (wtBB [M.map mkT, [mkT t, mkT vl]] ≤ 1048576) = true) (h6 : ¬ foldT S.fold t = foldT S.fold S.flags[i].name) :
    Calls Try.prog 7 #[.agg #[.slice A S.flags.length cap, .bool S.plain, .bool S.unknown, .int .i64 S.fold], .int .i64 (i : Int), .string (mkT t), .string (mkT vl), vb] w (YesEnd w) := by
  have HFT : Hid (∀ xs ∈ [M.map mkT, [mkT t, mkT vl]], fits2 xs = true) := Lib.hid (fun xs hx => by
    simp only [List.mem_cons, List.not_mem_nil, or_false] at hx
    rcases hx with rfl | rfl
    · exact h2
    · exact fits2_iff.2 ⟨by simp, fun x hx => by simp only [List.mem_cons, List.not_mem_nil, or_false] at hx; rcases hx with rfl | rfl <;> assumption⟩)
  have hwt : wt M + t.length + vl.length + 2 ≤ 1048576 := by
    have h := of_decide_eq_true h5
    simp only [wtBB, wtB, wt_map, mkT_size] at h; omega
  have hwl := wt_len M
  have H19 := Lib.hid (says19 hS.flg hc hm S.plain S.unknown S.fold h1)
  have H2 := Lib.hid (says2 hvb h2)
  have HRT := Lib.hid (saysR hS.flg cap S.plain S.unknown S.fold h1 h3)
  have HLV := Lib.hid (saysL w)
  have hfz := (fits20_F h1).2 _ (List.getElem_mem hi)
  have hnum := hS.num
  have hk3 : S.fold ≤ 3 := fold_le h3
  have HFO1 : Hid (∀ W, Calls Try.prog 31 #[.int .i64 (S.fold : Int), .string (mkT t)] W fun e w' => e = .returned (.string (mkT (foldT S.fold t))) ∧ Below W.heap.size W w') := Lib.hid (fun W => sfold_txt hk3 t hzt W)
  have HFO2 : Hid (∀ W, Calls Try.prog 31 #[.int .i64 (S.fold : Int), .string (mkT S.flags[i].name)] W fun e w' => e = .returned (.string (mkT (foldT S.fold S.flags[i].name))) ∧ Below W.heap.size W w') := Lib.hid (fun W => sfold_txt hk3 _ (by rw [mkT_size]; exact hfz.1) W)
  have hzt : ¬ (2147483647 : Int) < ((mkT t).size : Int) := by omega
  have hzv : ¬ (2147483647 : Int) < ((mkT vl).size : Int) := by omega
  have HDE := Lib.hid h5
  have HNE : Hid (((mkT (foldT S.fold t)).toList == (mkT (foldT S.fold S.flags[i].name)).toList) = false) := Lib.hid (mkT_beq_ne h6)
  obtain ⟨fb, fo, fv, rfl, f0, f1, f2, -⟩ := hS.flg i hi
  have hiN : i < S.flags.length := hi
  have HFG := Lib.hid (saysF (some ⟨fb, fo, none⟩) S.flags.length cap S.plain S.unknown S.fold (w := w) (j := (i : Int)) (decide_eq_true ⟨by omega, by omega⟩))
  have HVB := Lib.hid hvb
  obtain ⟨vb0, vbn, vbc, hvbe⟩ := hvb.slice
  clear hvb
  subst hvbe
  clear hS h1 h2 h3 h5 h6 hfz
  generalize S.flags[i].name = nm at f0 HFO2 HNE
  clear hwt hwl
  go_enter Try.func7, Try.ntmps7
  go_upto_region 1 with fail
  generalize hWX : w.alloc _ = WX
  have HB : Hid (Below w.heap.size w WX) := Lib.hid (by rw [← hWX]; exact (Below.refl _ _).alloc (Nat.le_refl _) _)
  have q3 : WX.heap[w.heap.size]? = some (.cells #[.slice (some ⟨fb, fo, none⟩) S.flags.length cap, .bool S.plain, .bool S.unknown, .int .i64 S.fold] 24 (0, 0)) := by rw [← hWX]; exact heap_alloc_new w _
  clear hWX
  have c0 : WX.cell? ⟨w.heap.size, 0, none⟩ = some (.slice (some ⟨fb, fo, none⟩) S.flags.length cap) := (cell_blk q3 0).trans rfl
  have c1 : WX.cell? ⟨w.heap.size, 1, none⟩ = some (.bool S.plain) := (cell_blk q3 1).trans rfl
  have c2 : WX.cell? ⟨w.heap.size, 2, none⟩ = some (.bool S.unknown) := (cell_blk q3 2).trans rfl
  have c3 : WX.cell? ⟨w.heap.size, 3, none⟩ = some (.int .i64 S.fold) := (cell_blk q3 3).trans rfl
  have e0 := cell_kept HB.out f0
  clear f0 f1 f2
  go_upto_region 3 with (first | ((with_reducible go_at_call 14); (with_reducible refine Calls.mono (H19.out _ HB.out) ?_); rintro e w3 ⟨rfl, hb3⟩; have q3 := block_kept q3 hb3; have c0 := cell_kept hb3 c0; have c1 := cell_kept hb3 c1; have c2 := cell_kept hb3 c2; have c3 := cell_kept hb3 c3; have e0 := cell_kept hb3 e0; have HB := Lib.hid (HB.out.trans (hb3.mono HB.out.size)); clear hb3) | ((with_reducible go_at_call 15); (with_reducible refine Calls.mono (H2.out _ HB.out) ?_); rintro e w3 ⟨rfl, hb3⟩; have q3 := block_kept q3 hb3; have c0 := cell_kept hb3 c0; have c1 := cell_kept hb3 c1; have c2 := cell_kept hb3 c2; have c3 := cell_kept hb3 c3; have e0 := cell_kept hb3 e0; have HB := Lib.hid (HB.out.trans (hb3.mono HB.out.size)); clear hb3) | ((with_reducible go_at_call 16); (with_reducible refine Calls.mono (HRT.out _ HB.out) ?_); rintro e w3 ⟨rfl, hb3⟩; have q3 := block_kept q3 hb3; have c0 := cell_kept hb3 c0; have c1 := cell_kept hb3 c1; have c2 := cell_kept hb3 c2; have c3 := cell_kept hb3 c3; have e0 := cell_kept hb3 e0; have HB := Lib.hid (HB.out.trans (hb3.mono HB.out.size)); clear hb3) | ((with_reducible go_at_call 24); (with_reducible refine Calls.mono (HFG.out _ HB.out) ?_); rintro e w3 ⟨rfl, hb3⟩; have q3 := block_kept q3 hb3; have c0 := cell_kept hb3 c0; have c1 := cell_kept hb3 c1; have c2 := cell_kept hb3 c2; have c3 := cell_kept hb3 c3; have e0 := cell_kept hb3 e0; have HB := Lib.hid (HB.out.trans (hb3.mono HB.out.size)); clear hb3) | ((with_reducible go_at_call 25); (with_reducible refine Calls.mono (HLV.out _ HB.out) ?_); rintro e w3 ⟨rfl, hb3⟩; have q3 := block_kept q3 hb3; have c0 := cell_kept hb3 c0; have c1 := cell_kept hb3 c1; have c2 := cell_kept hb3 c2; have c3 := cell_kept hb3 c3; have e0 := cell_kept hb3 e0; have HB := Lib.hid (HB.out.trans (hb3.mono HB.out.size)); clear hb3))
  have hbx := HB.out
  have HVC := Lib.hid (HVB.out.below hbx)
  have HC0 := Lib.hid c0
  have HC3 := Lib.hid c3
  have HE0 := Lib.hid e0
  clear c0 c1 c2 c3 e0
  refine region_inv (by kernel_rfl) (fun u v => Below u.heap.size u v) (F7d (.agg #[.slice (some ⟨fb, fo, none⟩) S.flags.length cap, .bool S.plain, .bool S.unknown, .int .i64 S.fold]) (w.heap.size) (t) (vl) (.slice vb0 vbn vbc) (M) (i) (fb) (fo) (S.flags.length) (cap) (nm) (S.fold)) (fun i => false) (fun i => [29, 30, 31, 32, 33, 34, 35, 36, 37, 38, 39, 40, 41, 42, 43, 44, 45, 46, 47, 48, 49, 50, 51, 52, 53, 54, 55, 56, 57, 58, 59, 60, 61, 62].getD i 0) 34
    (Below.refl _ _) (fun _ _ _ h k => below_step h k) (fun i hi v u u' h hb => F7d.below hi h hb) ?_ ?_ (by kernel_rfl) (by kernel_rfl) (by kernel_rfl) (by kernel_rfl) ?_ ?_
  · intro i hi hA; cases hA
  · intro i hi o ho g want hg v u hR
    match i, hi with
    | 0, _ =>
      cases ho
      cases hg
    | 1, _ =>
      cases ho
      cases hg
    | 2, _ =>
      cases ho
      cases hg
    | 3, _ =>
      cases ho
      cases hg
    | 4, _ =>
      cases ho
      cases hg; exact hR
    | 5, _ =>
      cases ho
      cases hg; exact hR
    | 6, _ =>
      cases ho
      cases hg; exact hR
    | 7, _ =>
      cases ho
      cases hg; exact hR
    | 8, _ =>
      cases ho
      cases hg
    | 9, _ =>
      cases ho
      cases hg
    | 10, _ =>
      cases ho
      cases hg; exact hR
    | 11, _ =>
      cases ho
      cases hg; exact hR
    | 12, _ =>
      cases ho
      cases hg; exact hR
    | 13, _ =>
      cases ho
      cases hg; exact hR
    | 14, _ =>
      cases ho
      cases hg; exact hR
    | 15, _ =>
      cases ho
      cases hg; exact hR
    | 16, _ =>
      cases ho
      cases hg; exact hR
    | 17, _ =>
      cases ho
      cases hg
    | 18, _ =>
      cases ho
      cases hg
    | 19, _ =>
      cases ho
      cases hg; exact hR
    | 20, _ =>
      cases ho
      cases hg; exact hR
    | 21, _ =>
      cases ho
      cases hg; exact hR
    | 22, _ =>
      cases ho
      cases hg; exact hR
    | 23, _ =>
      cases ho
      cases hg; exact hR
    | 24, _ =>
      cases ho
      cases hg; exact hR
    | 25, _ =>
      cases ho
      cases hg; exact hR
    | 26, _ =>
      cases ho
      cases hg; exact hR
    | 27, _ =>
      cases ho
      cases hg; exact hR
    | 28, _ =>
      cases ho
      cases hg; exact hR
    | 29, _ =>
      cases ho
      cases hg; exact hR
    | 30, _ =>
      cases ho
      cases hg; exact hR
    | 31, _ =>
      cases ho
      cases hg; exact hR
    | 32, _ =>
      cases ho
      cases hg; exact hR
    | 33, _ =>
      cases ho
      cases hg
    | k + 34, hi => exact absurd hi (by omega)
  · intro i hi o ho a u hG hk hd
    have hG9 : Below w3.heap.size w3 u := ((Below.refl _ _).drew).trans hG
    match i, hi with
    | 0, _ =>
      cases ho
      exact ow_load_set rfl ((hk 5 (by decide)).trans rfl) (block_kept q3 hG9) ⟨_, rfl, rfl, Below.refl _ _, fun h => by cases h⟩
    | 1, _ =>
      cases ho
      have e29 : a.eval (.tmp 29) = _ := hd 0 (by kernel_rfl) (by decide)
      refine ow_call #[.tmp 29] #[24] 16 Try.func16 (by kernel_rfl) (by rfl) rfl #[_] (by simp only [List.map_toArray, List.map_cons, List.map_nil, e29]) (HRT.out u (hbx.trans (hG9.mono hbx.size))) ?_
      rintro e u2 ⟨rfl, hb2⟩
      exact ⟨_, rfl, _, rfl, rfl, hb2, fun h => by cases h⟩
    | 2, _ =>
      cases ho
      have e30 : a.eval (.tmp 30) = .bool true := hd 1 (by kernel_rfl) (by decide)
      exact ow_not rfl e30 ⟨_, rfl, rfl, Below.refl _ _, fun h => by cases h⟩
    | 3, _ =>
      cases ho
      have e31 : a.eval (.tmp 31) = .bool false := hd 2 (by kernel_rfl) (by decide)
      exact ow_move rfl e31 ⟨_, rfl, rfl, Below.refl _ _, fun h => by cases h⟩
    | 4, _ =>
      cases ho
      exact ow_load_set rfl ((hk 5 (by decide)).trans rfl) (block_kept q3 hG9) ⟨_, rfl, rfl, Below.refl _ _, fun h => by cases h⟩
    | 5, _ =>
      cases ho
      exact ow_move rfl ((hk 1 (by decide)).trans rfl) ⟨_, rfl, rfl, Below.refl _ _, fun h => by cases h⟩
    | 6, _ =>
      cases ho
      have e33 : a.eval (.tmp 33) = _ := hd 4 (by kernel_rfl) (by decide)
      have e34 : a.eval (.tmp 34) = _ := hd 5 (by kernel_rfl) (by decide)
      refine ow_call #[.tmp 33, .tmp 34] #[24, 3] 24 Try.func24 (by kernel_rfl) (by rfl) rfl #[_, _] (by simp only [List.map_toArray, List.map_cons, List.map_nil, e33, e34]) (HFG.out u (hbx.trans (hG9.mono hbx.size))) ?_
      rintro e u2 ⟨rfl, hb2⟩
      exact ⟨_, rfl, _, rfl, rfl, hb2, fun h => by cases h⟩
    | 7, _ =>
      cases ho
      have e35 : a.eval (.tmp 35) = .bool true := hd 6 (by kernel_rfl) (by decide)
      exact ow_not rfl e35 ⟨_, rfl, rfl, Below.refl _ _, fun h => by cases h⟩
    | 8, _ =>
      cases ho
      have e32 : a.eval (.tmp 32) = .bool false := hd 3 (by kernel_rfl) (by decide)
      have e36 : a.eval (.tmp 36) = .bool false := hd 7 (by kernel_rfl) (by decide)
      exact ow_pick_no rfl e32 e36 ⟨_, rfl, rfl, Below.refl _ _, fun h => by cases h⟩
    | 9, _ =>
      cases ho
      have e37 : a.eval (.tmp 37) = .bool false := hd 8 (by kernel_rfl) (by decide)
      exact ow_move rfl e37 ⟨_, rfl, rfl, Below.refl _ _, fun h => by cases h⟩
    | 10, _ =>
      cases ho
      exact ow_move rfl ((hk 4 (by decide)).trans rfl) ⟨_, rfl, rfl, Below.refl _ _, fun h => by cases h⟩
    | 11, _ =>
      cases ho
      exact ow_move rfl ((hk 2 (by decide)).trans rfl) ⟨_, rfl, rfl, Below.refl _ _, fun h => by cases h⟩
    | 12, _ =>
      cases ho
      exact ow_move rfl ((hk 3 (by decide)).trans rfl) ⟨_, rfl, rfl, Below.refl _ _, fun h => by cases h⟩
    | 13, _ =>
      cases ho
      have e40 : a.eval (.tmp 40) = _ := hd 11 (by kernel_rfl) (by decide)
      have e41 : a.eval (.tmp 41) = _ := hd 12 (by kernel_rfl) (by decide)
      exact ow_build2 rfl e40 e41 ⟨_, rfl, ⟨_, rfl, heap_alloc_new _ _⟩, (Below.refl _ _).alloc (Nat.le_refl _) _, fun h => by cases h⟩
    | 14, _ =>
      cases ho
      have e39 : a.eval (.tmp 39) = _ := hd 10 (by kernel_rfl) (by decide)
      obtain ⟨g42, e42, hg42⟩ := hd 13 (by kernel_rfl) (by decide)
      exact ow_rows2 rfl e39 e42 ⟨_, rfl, ⟨_, _, rfl, rows2 (heap_alloc_new _ _) ((HVC.out.below hG9).below ((Below.refl _ _).alloc (Nat.le_refl _) _)) ((two_texts hg42).below ((Below.refl _ _).alloc (Nat.le_refl _) _))⟩, (Below.refl _ _).alloc (Nat.le_refl _) _, fun h => by cases h⟩
    | 15, _ =>
      cases ho
      obtain ⟨g, vs, e43', hr⟩ := hd 14 (by kernel_rfl) (by decide)
      have e43 : a.eval (.tmp 43) = .slice (some ⟨g, 0, none⟩) 2 2 := e43'
      have hf14 : Calls Try.prog 17 #[.slice (some ⟨g, 0, none⟩) 2 2] u _ := fits14_c (ls := [M.map mkT, [mkT (t), mkT (vl)]]) hr (by (show 2 ≤ 2147483647; decide)) (Nat.le_refl 2) HFT.out
      rw [HDE.out] at hf14
      refine ow_call #[.tmp 43] #[68] 17 Try.func17 (by kernel_rfl) (by rfl) rfl #[.slice (some ⟨g, 0, none⟩) 2 2] (by simp only [List.map_toArray, List.map_cons, List.map_nil, e43]) hf14 ?_
      rintro e u2 ⟨rfl, hb2⟩
      exact ⟨_, rfl, _, rfl, rfl, hb2, fun h => by cases h⟩
    | 16, _ =>
      cases ho
      have e44 : a.eval (.tmp 44) = .bool true := hd 15 (by kernel_rfl) (by decide)
      exact ow_not rfl e44 ⟨_, rfl, rfl, Below.refl _ _, fun h => by cases h⟩
    | 17, _ =>
      cases ho
      have e38 : a.eval (.tmp 38) = .bool false := hd 9 (by kernel_rfl) (by decide)
      have e45 : a.eval (.tmp 45) = .bool false := hd 16 (by kernel_rfl) (by decide)
      exact ow_pick_no rfl e38 e45 ⟨_, rfl, rfl, Below.refl _ _, fun h => by cases h⟩
    | 18, _ =>
      cases ho
      have e46 : a.eval (.tmp 46) = .bool false := hd 17 (by kernel_rfl) (by decide)
      exact ow_move rfl e46 ⟨_, rfl, rfl, Below.refl _ _, fun h => by cases h⟩
    | 19, _ =>
      cases ho
      exact ow_field_set (i := 3) (by decide) rfl ((hk 5 (by decide)).trans rfl) ⟨_, rfl, rfl, Below.refl _ _, fun h => by cases h⟩
    | 20, _ =>
      cases ho
      have e48 : a.eval (.tmp 48) = _ := hd 19 (by kernel_rfl) (by decide)
      exact ow_load_int rfl e48 (cell_kept hG9 HC3.out) ⟨_, rfl, rfl, Below.refl _ _, fun h => by cases h⟩
    | 21, _ =>
      cases ho
      exact ow_move rfl ((hk 2 (by decide)).trans rfl) ⟨_, rfl, rfl, Below.refl _ _, fun h => by cases h⟩
    | 22, _ =>
      cases ho
      have e49 : a.eval (.tmp 49) = _ := hd 20 (by kernel_rfl) (by decide)
      have e50 : a.eval (.tmp 50) = _ := hd 21 (by kernel_rfl) (by decide)
      refine ow_call #[.tmp 49, .tmp 50] #[3, 9] 31 Try.func31 (by kernel_rfl) (by rfl) rfl #[_, _] (by simp only [List.map_toArray, List.map_cons, List.map_nil, e49, e50]) (HFO1.out u) ?_
      rintro e u2 ⟨rfl, hb2⟩
      exact ⟨_, rfl, _, rfl, rfl, hb2, fun h => by cases h⟩
    | 23, _ =>
      cases ho
      exact ow_field_set (i := 3) (by decide) rfl ((hk 5 (by decide)).trans rfl) ⟨_, rfl, rfl, Below.refl _ _, fun h => by cases h⟩
    | 24, _ =>
      cases ho
      have e52 : a.eval (.tmp 52) = _ := hd 23 (by kernel_rfl) (by decide)
      exact ow_load_int rfl e52 (cell_kept hG9 HC3.out) ⟨_, rfl, rfl, Below.refl _ _, fun h => by cases h⟩
    | 25, _ =>
      cases ho
      exact ow_field_set (i := 0) (by decide) rfl ((hk 5 (by decide)).trans rfl) ⟨_, rfl, rfl, Below.refl _ _, fun h => by cases h⟩
    | 26, _ =>
      cases ho
      have e54 : a.eval (.tmp 54) = _ := hd 25 (by kernel_rfl) (by decide)
      exact ow_load_flags rfl e54 (cell_kept hG9 HC0.out) ⟨_, rfl, rfl, Below.refl _ _, fun h => by cases h⟩
    | 27, _ =>
      cases ho
      exact ow_move rfl ((hk 1 (by decide)).trans rfl) ⟨_, rfl, rfl, Below.refl _ _, fun h => by cases h⟩
    | 28, _ =>
      cases ho
      have e55 : a.eval (.tmp 55) = _ := hd 26 (by kernel_rfl) (by decide)
      have e56 : a.eval (.tmp 56) = _ := hd 27 (by kernel_rfl) (by decide)
      exact ow_index_flags hiN rfl e55 e56 ⟨_, rfl, rfl, Below.refl _ _, fun h => by cases h⟩
    | 29, _ =>
      cases ho
      have e57 : a.eval (.tmp 57) = _ := hd 28 (by kernel_rfl) (by decide)
      exact ow_field_flag (i := 0) (by decide) rfl e57 ⟨_, rfl, rfl, Below.refl _ _, fun h => by cases h⟩
    | 30, _ =>
      cases ho
      have e58 : a.eval (.tmp 58) = _ := hd 29 (by kernel_rfl) (by decide)
      exact ow_load_string rfl e58 (cell_kept hG9 HE0.out) ⟨_, rfl, rfl, Below.refl _ _, fun h => by cases h⟩
    | 31, _ =>
      cases ho
      have e53 : a.eval (.tmp 53) = _ := hd 24 (by kernel_rfl) (by decide)
      have e59 : a.eval (.tmp 59) = _ := hd 30 (by kernel_rfl) (by decide)
      refine ow_call #[.tmp 53, .tmp 59] #[3, 9] 31 Try.func31 (by kernel_rfl) (by rfl) rfl #[_, _] (by simp only [List.map_toArray, List.map_cons, List.map_nil, e53, e59]) (HFO2.out u) ?_
      rintro e u2 ⟨rfl, hb2⟩
      exact ⟨_, rfl, _, rfl, rfl, hb2, fun h => by cases h⟩
    | 32, _ =>
      cases ho
      have e51 : a.eval (.tmp 51) = _ := hd 22 (by kernel_rfl) (by decide)
      have e60 : a.eval (.tmp 60) = _ := hd 31 (by kernel_rfl) (by decide)
      exact ow_neq_string rfl e51 e60 ⟨_, rfl, (by rw [HNE.out]; rfl), Below.refl _ _, fun h => by cases h⟩
    | 33, _ =>
      cases ho
      have e47 : a.eval (.tmp 47) = .bool false := hd 18 (by kernel_rfl) (by decide)
      have e61 : a.eval (.tmp 61) = .bool true := hd 32 (by kernel_rfl) (by decide)
      exact ow_pick_no rfl e47 e61 ⟨_, rfl, rfl, Below.refl _ _, fun h => by cases h⟩
    | k + 34, hi => exact absurd hi (by omega)
  · intro x U3 hG hx hdif
    have hlast : x 33 = _ := hx 33 (by decide)
    simp only [putAll, Act.put, List.getD_cons_zero, List.getD_cons_succ, List.setIfInBounds_toArray, List.set_cons_succ, List.set_cons_zero]
    refine wpAny_end (by kernel_rfl) ?_
    rw [hlast]
    clear hx hdif hlast
    have HB := Lib.hid (hbx.trans ((((Below.refl _ _).drew).trans hG).mono hbx.size))
    go_wp2_with (first | ((with_reducible go_at_call 25); (with_reducible refine Calls.mono (HLV.out _ HB.out) ?_); rintro e w3 ⟨rfl, hb3⟩; have HB := Lib.hid (HB.out.trans (hb3.mono HB.out.size)); clear hb3))
    go_ret
    exact yesEnd rfl HB.out

set_option maxRecDepth 100000 in
set_option maxHeartbeats 6400000 in
theorem fold_9 {w : World} {A : Option Addr} {S : SetP} (hS : SetOK w A S) {cap : Nat} (hc : S.flags.length ≤ cap) (hm : cap ≤ 9223372036854775807) (t vl : Txt) {vb : Value} {M : List Txt} (hvb : TextIn w vb (M.map mkT)) (h1 : fits20 (S.flags.map ofFlag) = true) (hzt : (mkT t).size ≤ 2147483647) (hzv : (mkT vl).size ≤ 2147483647) (h2 : fits2 (M.map mkT) = true) (h3 : RightK S.flags S.fold = true)
    (i : Nat) (hi : i < S.flags.length) (h5 : decide (wtBB [M.map mkT, [mkT t, mkT vl]] ≤ 1048576) = true) (h6 : foldT S.fold t = foldT S.fold S.flags[i].name) :
    Calls Try.prog 7 #[.agg #[.slice A S.flags.length cap, .bool S.plain, .bool S.unknown, .int .i64 S.fold], .int .i64 (i : Int), .string (mkT t), .string (mkT vl), vb] w (YesEnd w) := by
  have HFT : Hid (∀ xs ∈ [M.map mkT, [mkT t, mkT vl]], fits2 xs = true) := Lib.hid (fun xs hx => by
    simp only [List.mem_cons, List.not_mem_nil, or_false] at hx
    rcases hx with rfl | rfl
    · exact h2
    · exact fits2_iff.2 ⟨by simp, fun x hx => by simp only [List.mem_cons, List.not_mem_nil, or_false] at hx; rcases hx with rfl | rfl <;> assumption⟩)
  have hwt : wt M + t.length + vl.length + 2 ≤ 1048576 := by
    have h := of_decide_eq_true h5
    simp only [wtBB, wtB, wt_map, mkT_size] at h; omega
  have hwl := wt_len M
  have H19 := Lib.hid (says19 hS.flg hc hm S.plain S.unknown S.fold h1)
  have H2 := Lib.hid (says2 hvb h2)
  have HRT := Lib.hid (saysR hS.flg cap S.plain S.unknown S.fold h1 h3)
  have HLV := Lib.hid (saysL w)
  have hfz := (fits20_F h1).2 _ (List.getElem_mem hi)
  have hnum := hS.num
  have hk3 : S.fold ≤ 3 := fold_le h3
  have HFO1 : Hid (∀ W, Calls Try.prog 31 #[.int .i64 (S.fold : Int), .string (mkT t)] W fun e w' => e = .returned (.string (mkT (foldT S.fold t))) ∧ Below W.heap.size W w') := Lib.hid (fun W => sfold_txt hk3 t hzt W)
  have HFO2 : Hid (∀ W, Calls Try.prog 31 #[.int .i64 (S.fold : Int), .string (mkT S.flags[i].name)] W fun e w' => e = .returned (.string (mkT (foldT S.fold S.flags[i].name))) ∧ Below W.heap.size W w') := Lib.hid (fun W => sfold_txt hk3 _ (by rw [mkT_size]; exact hfz.1) W)
  have hEQ : goes S none st0 (longT t vl :: M) = goes S none st0 (longT S.flags[i].name vl :: M) := law_fold hS.right hi h6 vl M (m := none) (st := st0)
  have HLG := Lib.hid (saysLong hS.flg cap S.plain S.unknown S.fold i hi vl (by omega) hfz.1 (by rw [mkT_size] at hzv; exact hzv))
  have HPC := Lib.hid (says_parse hS cap)
  have hzt : ¬ (2147483647 : Int) < ((mkT t).size : Int) := by omega
  have hzv : ¬ (2147483647 : Int) < ((mkT vl).size : Int) := by omega
  have HDE := Lib.hid h5
  have HNE : Hid (((mkT (foldT S.fold t)).toList == (mkT (foldT S.fold S.flags[i].name)).toList) = true) := Lib.hid (mkT_beq_eq h6)
  obtain ⟨fb, fo, fv, rfl, f0, f1, f2, -⟩ := hS.flg i hi
  have hiN : i < S.flags.length := hi
  have HFG := Lib.hid (saysF (some ⟨fb, fo, none⟩) S.flags.length cap S.plain S.unknown S.fold (w := w) (j := (i : Int)) (decide_eq_true ⟨by omega, by omega⟩))
  have HVB := Lib.hid hvb
  obtain ⟨vb0, vbn, vbc, hvbe⟩ := hvb.slice
  clear hvb
  subst hvbe
  clear hS h1 h2 h3 h5 h6
  generalize S.flags[i].name = nm at f0 hfz HFO2 HNE hEQ HLG
  have hxe : longT t vl = (([45, 45] ++ t) ++ [61]) ++ vl := by simp [longT]
  rw [hxe] at hEQ
  have HEQ : Hid (goes S none st0 (((([45, 45] ++ t) ++ [61]) ++ vl) :: M) = goes S none st0 (longT nm vl :: M)) := Lib.hid hEQ
  have hlong : (longT nm vl).length = nm.length + vl.length + 3 := by simp [longT]; omega
  have hlx : ((([45, 45] ++ t) ++ [61]) ++ vl).length = t.length + vl.length + 3 := by simp; omega
  generalize hxx : ((([45, 45] ++ t) ++ [61]) ++ vl : Txt) = X at hlx
  have hw1 : wt (X :: M) ≤ 1099511627776 := by
    have e : wt (X :: M) = X.length + 1 + wt M := rfl
    rw [e]; omega
  have hw2 : wt (longT nm vl :: M) ≤ 1099511627776 := by
    have e : wt (longT nm vl :: M) = (longT nm vl).length + 1 + wt M := rfl
    rw [e, hlong]; omega
  have hl1 : ∀ t ∈ X :: M, t.length ≤ 8589934592 := by
    intro t ht
    rcases List.mem_cons.1 ht with h | h
    · rw [h]; omega
    · have := wt_mem h; omega
  have hl2 : ∀ t ∈ longT nm vl :: M, t.length ≤ 8589934592 := by
    intro t ht
    rcases List.mem_cons.1 ht with h | h
    · rw [h, hlong]; omega
    · have := wt_mem h; omega
  have hflat1 : [[mkT X], M.map mkT].flatten.length < 8796093022208 := by simp; omega
  have hflat2 : [[mkT (longT nm vl)], M.map mkT].flatten.length < 8796093022208 := by simp; omega
  have hgo := goes_len S none st0 (X :: M)
  have hg1 : (psOf none true (goes S none st0 (X :: M))).G.length ≤ 1099511627776 := by
    have e : (psOf none true (goes S none st0 (X :: M))).G.length = (goes S none st0 (X :: M)).given.length := rfl
    rw [e]; have : st0.given.length = 0 := rfl; omega
  have hg2 : (psOf none true (goes S none st0 (X :: M))).A.length ≤ 1099511627776 := by
    have e : (psOf none true (goes S none st0 (X :: M))).A.length = (goes S none st0 (X :: M)).args.length := rfl
    have e2 : (X :: M).length = M.length + 1 := rfl
    rw [e]; have : st0.args.length = 0 := rfl; omega
  have hg3 : S.flags.length ≤ 2147483647 := hnum
  subst hxx
  have HZ : Hid (nm.length ≤ 2147483647 ∧ t.length + vl.length ≤ 1048576) := Lib.hid ⟨hfz.1, by omega⟩
  have HX := Lib.hid (And.intro hw1 (And.intro hw2 (And.intro hl1 (And.intro hl2 (And.intro hflat1 (And.intro hflat2 (And.intro hg1 (And.intro hg2 hg3))))))))
  clear hw1 hw2 hl1 hl2 hflat1 hflat2 hg1 hg2 hg3 hgo hlong hlx hfz hwt hwl hnum hEQ hxe
  go_enter Try.func7, Try.ntmps7
  go_upto_region 1 with fail
  generalize hWX : w.alloc _ = WX
  have HB : Hid (Below w.heap.size w WX) := Lib.hid (by rw [← hWX]; exact (Below.refl _ _).alloc (Nat.le_refl _) _)
  have q3 : WX.heap[w.heap.size]? = some (.cells #[.slice (some ⟨fb, fo, none⟩) S.flags.length cap, .bool S.plain, .bool S.unknown, .int .i64 S.fold] 24 (0, 0)) := by rw [← hWX]; exact heap_alloc_new w _
  clear hWX
  have c0 : WX.cell? ⟨w.heap.size, 0, none⟩ = some (.slice (some ⟨fb, fo, none⟩) S.flags.length cap) := (cell_blk q3 0).trans rfl
  have c1 : WX.cell? ⟨w.heap.size, 1, none⟩ = some (.bool S.plain) := (cell_blk q3 1).trans rfl
  have c2 : WX.cell? ⟨w.heap.size, 2, none⟩ = some (.bool S.unknown) := (cell_blk q3 2).trans rfl
  have c3 : WX.cell? ⟨w.heap.size, 3, none⟩ = some (.int .i64 S.fold) := (cell_blk q3 3).trans rfl
  have e0 := cell_kept HB.out f0
  clear f0 f1 f2
  go_upto_region 3 with (first | ((with_reducible go_at_call 14); (with_reducible refine Calls.mono (H19.out _ HB.out) ?_); rintro e w3 ⟨rfl, hb3⟩; have q3 := block_kept q3 hb3; have c0 := cell_kept hb3 c0; have c1 := cell_kept hb3 c1; have c2 := cell_kept hb3 c2; have c3 := cell_kept hb3 c3; have e0 := cell_kept hb3 e0; have HB := Lib.hid (HB.out.trans (hb3.mono HB.out.size)); clear hb3) | ((with_reducible go_at_call 15); (with_reducible refine Calls.mono (H2.out _ HB.out) ?_); rintro e w3 ⟨rfl, hb3⟩; have q3 := block_kept q3 hb3; have c0 := cell_kept hb3 c0; have c1 := cell_kept hb3 c1; have c2 := cell_kept hb3 c2; have c3 := cell_kept hb3 c3; have e0 := cell_kept hb3 e0; have HB := Lib.hid (HB.out.trans (hb3.mono HB.out.size)); clear hb3) | ((with_reducible go_at_call 16); (with_reducible refine Calls.mono (HRT.out _ HB.out) ?_); rintro e w3 ⟨rfl, hb3⟩; have q3 := block_kept q3 hb3; have c0 := cell_kept hb3 c0; have c1 := cell_kept hb3 c1; have c2 := cell_kept hb3 c2; have c3 := cell_kept hb3 c3; have e0 := cell_kept hb3 e0; have HB := Lib.hid (HB.out.trans (hb3.mono HB.out.size)); clear hb3) | ((with_reducible go_at_call 24); (with_reducible refine Calls.mono (HFG.out _ HB.out) ?_); rintro e w3 ⟨rfl, hb3⟩; have q3 := block_kept q3 hb3; have c0 := cell_kept hb3 c0; have c1 := cell_kept hb3 c1; have c2 := cell_kept hb3 c2; have c3 := cell_kept hb3 c3; have e0 := cell_kept hb3 e0; have HB := Lib.hid (HB.out.trans (hb3.mono HB.out.size)); clear hb3) | ((with_reducible go_at_call 25); (with_reducible refine Calls.mono (HLV.out _ HB.out) ?_); rintro e w3 ⟨rfl, hb3⟩; have q3 := block_kept q3 hb3; have c0 := cell_kept hb3 c0; have c1 := cell_kept hb3 c1; have c2 := cell_kept hb3 c2; have c3 := cell_kept hb3 c3; have e0 := cell_kept hb3 e0; have HB := Lib.hid (HB.out.trans (hb3.mono HB.out.size)); clear hb3))
  have hbx := HB.out
  have HVC := Lib.hid (HVB.out.below hbx)
  have HC0 := Lib.hid c0
  have HC3 := Lib.hid c3
  have HE0 := Lib.hid e0
  clear c0 c1 c2 c3 e0
  refine region_inv (by kernel_rfl) (fun u v => Below u.heap.size u v) (F7e (.agg #[.slice (some ⟨fb, fo, none⟩) S.flags.length cap, .bool S.plain, .bool S.unknown, .int .i64 S.fold]) (w.heap.size) (t) (vl) (.slice vb0 vbn vbc) (M) (i) (fb) (fo) (S.flags.length) (cap) (nm) (S.fold)) (fun i => false) (fun i => [29, 30, 31, 32, 33, 34, 35, 36, 37, 38, 39, 40, 41, 42, 43, 44, 45, 46, 47, 48, 49, 50, 51, 52, 53, 54, 55, 56, 57, 58, 59, 60, 61, 62].getD i 0) 34
    (Below.refl _ _) (fun _ _ _ h k => below_step h k) (fun i hi v u u' h hb => F7e.below hi h hb) ?_ ?_ (by kernel_rfl) (by kernel_rfl) (by kernel_rfl) (by kernel_rfl) ?_ ?_
  · intro i hi hA; cases hA
  · intro i hi o ho g want hg v u hR
    match i, hi with
    | 0, _ =>
      cases ho
      cases hg
    | 1, _ =>
      cases ho
      cases hg
    | 2, _ =>
      cases ho
      cases hg
    | 3, _ =>
      cases ho
      cases hg
    | 4, _ =>
      cases ho
      cases hg; exact hR
    | 5, _ =>
      cases ho
      cases hg; exact hR
    | 6, _ =>
      cases ho
      cases hg; exact hR
    | 7, _ =>
      cases ho
      cases hg; exact hR
    | 8, _ =>
      cases ho
      cases hg
    | 9, _ =>
      cases ho
      cases hg
    | 10, _ =>
      cases ho
      cases hg; exact hR
    | 11, _ =>
      cases ho
      cases hg; exact hR
    | 12, _ =>
      cases ho
      cases hg; exact hR
    | 13, _ =>
      cases ho
      cases hg; exact hR
    | 14, _ =>
      cases ho
      cases hg; exact hR
    | 15, _ =>
      cases ho
      cases hg; exact hR
    | 16, _ =>
      cases ho
      cases hg; exact hR
    | 17, _ =>
      cases ho
      cases hg
    | 18, _ =>
      cases ho
      cases hg
    | 19, _ =>
      cases ho
      cases hg; exact hR
    | 20, _ =>
      cases ho
      cases hg; exact hR
    | 21, _ =>
      cases ho
      cases hg; exact hR
    | 22, _ =>
      cases ho
      cases hg; exact hR
    | 23, _ =>
      cases ho
      cases hg; exact hR
    | 24, _ =>
      cases ho
      cases hg; exact hR
    | 25, _ =>
      cases ho
      cases hg; exact hR
    | 26, _ =>
      cases ho
      cases hg; exact hR
    | 27, _ =>
      cases ho
      cases hg; exact hR
    | 28, _ =>
      cases ho
      cases hg; exact hR
    | 29, _ =>
      cases ho
      cases hg; exact hR
    | 30, _ =>
      cases ho
      cases hg; exact hR
    | 31, _ =>
      cases ho
      cases hg; exact hR
    | 32, _ =>
      cases ho
      cases hg; exact hR
    | 33, _ =>
      cases ho
      cases hg
    | k + 34, hi => exact absurd hi (by omega)
  · intro i hi o ho a u hG hk hd
    have hG9 : Below w3.heap.size w3 u := ((Below.refl _ _).drew).trans hG
    match i, hi with
    | 0, _ =>
      cases ho
      exact ow_load_set rfl ((hk 5 (by decide)).trans rfl) (block_kept q3 hG9) ⟨_, rfl, rfl, Below.refl _ _, fun h => by cases h⟩
    | 1, _ =>
      cases ho
      have e29 : a.eval (.tmp 29) = _ := hd 0 (by kernel_rfl) (by decide)
      refine ow_call #[.tmp 29] #[24] 16 Try.func16 (by kernel_rfl) (by rfl) rfl #[_] (by simp only [List.map_toArray, List.map_cons, List.map_nil, e29]) (HRT.out u (hbx.trans (hG9.mono hbx.size))) ?_
      rintro e u2 ⟨rfl, hb2⟩
      exact ⟨_, rfl, _, rfl, rfl, hb2, fun h => by cases h⟩
    | 2, _ =>
      cases ho
      have e30 : a.eval (.tmp 30) = .bool true := hd 1 (by kernel_rfl) (by decide)
      exact ow_not rfl e30 ⟨_, rfl, rfl, Below.refl _ _, fun h => by cases h⟩
    | 3, _ =>
      cases ho
      have e31 : a.eval (.tmp 31) = .bool false := hd 2 (by kernel_rfl) (by decide)
      exact ow_move rfl e31 ⟨_, rfl, rfl, Below.refl _ _, fun h => by cases h⟩
    | 4, _ =>
      cases ho
      exact ow_load_set rfl ((hk 5 (by decide)).trans rfl) (block_kept q3 hG9) ⟨_, rfl, rfl, Below.refl _ _, fun h => by cases h⟩
    | 5, _ =>
      cases ho
      exact ow_move rfl ((hk 1 (by decide)).trans rfl) ⟨_, rfl, rfl, Below.refl _ _, fun h => by cases h⟩
    | 6, _ =>
      cases ho
      have e33 : a.eval (.tmp 33) = _ := hd 4 (by kernel_rfl) (by decide)
      have e34 : a.eval (.tmp 34) = _ := hd 5 (by kernel_rfl) (by decide)
      refine ow_call #[.tmp 33, .tmp 34] #[24, 3] 24 Try.func24 (by kernel_rfl) (by rfl) rfl #[_, _] (by simp only [List.map_toArray, List.map_cons, List.map_nil, e33, e34]) (HFG.out u (hbx.trans (hG9.mono hbx.size))) ?_
      rintro e u2 ⟨rfl, hb2⟩
      exact ⟨_, rfl, _, rfl, rfl, hb2, fun h => by cases h⟩
    | 7, _ =>
      cases ho
      have e35 : a.eval (.tmp 35) = .bool true := hd 6 (by kernel_rfl) (by decide)
      exact ow_not rfl e35 ⟨_, rfl, rfl, Below.refl _ _, fun h => by cases h⟩
    | 8, _ =>
      cases ho
      have e32 : a.eval (.tmp 32) = .bool false := hd 3 (by kernel_rfl) (by decide)
      have e36 : a.eval (.tmp 36) = .bool false := hd 7 (by kernel_rfl) (by decide)
      exact ow_pick_no rfl e32 e36 ⟨_, rfl, rfl, Below.refl _ _, fun h => by cases h⟩
    | 9, _ =>
      cases ho
      have e37 : a.eval (.tmp 37) = .bool false := hd 8 (by kernel_rfl) (by decide)
      exact ow_move rfl e37 ⟨_, rfl, rfl, Below.refl _ _, fun h => by cases h⟩
    | 10, _ =>
      cases ho
      exact ow_move rfl ((hk 4 (by decide)).trans rfl) ⟨_, rfl, rfl, Below.refl _ _, fun h => by cases h⟩
    | 11, _ =>
      cases ho
      exact ow_move rfl ((hk 2 (by decide)).trans rfl) ⟨_, rfl, rfl, Below.refl _ _, fun h => by cases h⟩
    | 12, _ =>
      cases ho
      exact ow_move rfl ((hk 3 (by decide)).trans rfl) ⟨_, rfl, rfl, Below.refl _ _, fun h => by cases h⟩
    | 13, _ =>
      cases ho
      have e40 : a.eval (.tmp 40) = _ := hd 11 (by kernel_rfl) (by decide)
      have e41 : a.eval (.tmp 41) = _ := hd 12 (by kernel_rfl) (by decide)
      exact ow_build2 rfl e40 e41 ⟨_, rfl, ⟨_, rfl, heap_alloc_new _ _⟩, (Below.refl _ _).alloc (Nat.le_refl _) _, fun h => by cases h⟩
    | 14, _ =>
      cases ho
      have e39 : a.eval (.tmp 39) = _ := hd 10 (by kernel_rfl) (by decide)
      obtain ⟨g42, e42, hg42⟩ := hd 13 (by kernel_rfl) (by decide)
      exact ow_rows2 rfl e39 e42 ⟨_, rfl, ⟨_, _, rfl, rows2 (heap_alloc_new _ _) ((HVC.out.below hG9).below ((Below.refl _ _).alloc (Nat.le_refl _) _)) ((two_texts hg42).below ((Below.refl _ _).alloc (Nat.le_refl _) _))⟩, (Below.refl _ _).alloc (Nat.le_refl _) _, fun h => by cases h⟩
    | 15, _ =>
      cases ho
      obtain ⟨g, vs, e43', hr⟩ := hd 14 (by kernel_rfl) (by decide)
      have e43 : a.eval (.tmp 43) = .slice (some ⟨g, 0, none⟩) 2 2 := e43'
      have hf14 : Calls Try.prog 17 #[.slice (some ⟨g, 0, none⟩) 2 2] u _ := fits14_c (ls := [M.map mkT, [mkT (t), mkT (vl)]]) hr (by (show 2 ≤ 2147483647; decide)) (Nat.le_refl 2) HFT.out
      rw [HDE.out] at hf14
      refine ow_call #[.tmp 43] #[68] 17 Try.func17 (by kernel_rfl) (by rfl) rfl #[.slice (some ⟨g, 0, none⟩) 2 2] (by simp only [List.map_toArray, List.map_cons, List.map_nil, e43]) hf14 ?_
      rintro e u2 ⟨rfl, hb2⟩
      exact ⟨_, rfl, _, rfl, rfl, hb2, fun h => by cases h⟩
    | 16, _ =>
      cases ho
      have e44 : a.eval (.tmp 44) = .bool true := hd 15 (by kernel_rfl) (by decide)
      exact ow_not rfl e44 ⟨_, rfl, rfl, Below.refl _ _, fun h => by cases h⟩
    | 17, _ =>
      cases ho
      have e38 : a.eval (.tmp 38) = .bool false := hd 9 (by kernel_rfl) (by decide)
      have e45 : a.eval (.tmp 45) = .bool false := hd 16 (by kernel_rfl) (by decide)
      exact ow_pick_no rfl e38 e45 ⟨_, rfl, rfl, Below.refl _ _, fun h => by cases h⟩
    | 18, _ =>
      cases ho
      have e46 : a.eval (.tmp 46) = .bool false := hd 17 (by kernel_rfl) (by decide)
      exact ow_move rfl e46 ⟨_, rfl, rfl, Below.refl _ _, fun h => by cases h⟩
    | 19, _ =>
      cases ho
      exact ow_field_set (i := 3) (by decide) rfl ((hk 5 (by decide)).trans rfl) ⟨_, rfl, rfl, Below.refl _ _, fun h => by cases h⟩
    | 20, _ =>
      cases ho
      have e48 : a.eval (.tmp 48) = _ := hd 19 (by kernel_rfl) (by decide)
      exact ow_load_int rfl e48 (cell_kept hG9 HC3.out) ⟨_, rfl, rfl, Below.refl _ _, fun h => by cases h⟩
    | 21, _ =>
      cases ho
      exact ow_move rfl ((hk 2 (by decide)).trans rfl) ⟨_, rfl, rfl, Below.refl _ _, fun h => by cases h⟩
    | 22, _ =>
      cases ho
      have e49 : a.eval (.tmp 49) = _ := hd 20 (by kernel_rfl) (by decide)
      have e50 : a.eval (.tmp 50) = _ := hd 21 (by kernel_rfl) (by decide)
      refine ow_call #[.tmp 49, .tmp 50] #[3, 9] 31 Try.func31 (by kernel_rfl) (by rfl) rfl #[_, _] (by simp only [List.map_toArray, List.map_cons, List.map_nil, e49, e50]) (HFO1.out u) ?_
      rintro e u2 ⟨rfl, hb2⟩
      exact ⟨_, rfl, _, rfl, rfl, hb2, fun h => by cases h⟩
    | 23, _ =>
      cases ho
      exact ow_field_set (i := 3) (by decide) rfl ((hk 5 (by decide)).trans rfl) ⟨_, rfl, rfl, Below.refl _ _, fun h => by cases h⟩
    | 24, _ =>
      cases ho
      have e52 : a.eval (.tmp 52) = _ := hd 23 (by kernel_rfl) (by decide)
      exact ow_load_int rfl e52 (cell_kept hG9 HC3.out) ⟨_, rfl, rfl, Below.refl _ _, fun h => by cases h⟩
    | 25, _ =>
      cases ho
      exact ow_field_set (i := 0) (by decide) rfl ((hk 5 (by decide)).trans rfl) ⟨_, rfl, rfl, Below.refl _ _, fun h => by cases h⟩
    | 26, _ =>
      cases ho
      have e54 : a.eval (.tmp 54) = _ := hd 25 (by kernel_rfl) (by decide)
      exact ow_load_flags rfl e54 (cell_kept hG9 HC0.out) ⟨_, rfl, rfl, Below.refl _ _, fun h => by cases h⟩
    | 27, _ =>
      cases ho
      exact ow_move rfl ((hk 1 (by decide)).trans rfl) ⟨_, rfl, rfl, Below.refl _ _, fun h => by cases h⟩
    | 28, _ =>
      cases ho
      have e55 : a.eval (.tmp 55) = _ := hd 26 (by kernel_rfl) (by decide)
      have e56 : a.eval (.tmp 56) = _ := hd 27 (by kernel_rfl) (by decide)
      exact ow_index_flags hiN rfl e55 e56 ⟨_, rfl, rfl, Below.refl _ _, fun h => by cases h⟩
    | 29, _ =>
      cases ho
      have e57 : a.eval (.tmp 57) = _ := hd 28 (by kernel_rfl) (by decide)
      exact ow_field_flag (i := 0) (by decide) rfl e57 ⟨_, rfl, rfl, Below.refl _ _, fun h => by cases h⟩
    | 30, _ =>
      cases ho
      have e58 : a.eval (.tmp 58) = _ := hd 29 (by kernel_rfl) (by decide)
      exact ow_load_string rfl e58 (cell_kept hG9 HE0.out) ⟨_, rfl, rfl, Below.refl _ _, fun h => by cases h⟩
    | 31, _ =>
      cases ho
      have e53 : a.eval (.tmp 53) = _ := hd 24 (by kernel_rfl) (by decide)
      have e59 : a.eval (.tmp 59) = _ := hd 30 (by kernel_rfl) (by decide)
      refine ow_call #[.tmp 53, .tmp 59] #[3, 9] 31 Try.func31 (by kernel_rfl) (by rfl) rfl #[_, _] (by simp only [List.map_toArray, List.map_cons, List.map_nil, e53, e59]) (HFO2.out u) ?_
      rintro e u2 ⟨rfl, hb2⟩
      exact ⟨_, rfl, _, rfl, rfl, hb2, fun h => by cases h⟩
    | 32, _ =>
      cases ho
      have e51 : a.eval (.tmp 51) = _ := hd 22 (by kernel_rfl) (by decide)
      have e60 : a.eval (.tmp 60) = _ := hd 31 (by kernel_rfl) (by decide)
      exact ow_neq_string rfl e51 e60 ⟨_, rfl, (by rw [HNE.out]; rfl), Below.refl _ _, fun h => by cases h⟩
    | 33, _ =>
      cases ho
      have e47 : a.eval (.tmp 47) = .bool false := hd 18 (by kernel_rfl) (by decide)
      have e61 : a.eval (.tmp 61) = .bool false := hd 32 (by kernel_rfl) (by decide)
      exact ow_pick_no rfl e47 e61 ⟨_, rfl, rfl, Below.refl _ _, fun h => by cases h⟩
    | k + 34, hi => exact absurd hi (by omega)
  · intro x U3 hG hx hdif
    have hlast : x 33 = _ := hx 33 (by decide)
    simp only [putAll, Act.put, List.getD_cons_zero, List.getD_cons_succ, List.setIfInBounds_toArray, List.set_cons_succ, List.set_cons_zero]
    refine wpAny_end (by kernel_rfl) ?_
    rw [hlast]
    clear hx hdif hlast
    have HB := Lib.hid (hbx.trans ((((Below.refl _ _).drew).trans hG).mono hbx.size))
    go_upto_region 5 with fail
    have hby := HB.out
    obtain ⟨hw1, hw2, hl1, hl2, hflat1, hflat2, hg1, hg2, hg3⟩ := HX.out
    have HVC := Lib.hid (HVB.out.below hby)
    have q3 := block_kept q3 (((Below.refl _ _).drew).trans hG)
    have hbx := hby
    refine region_inv (by kernel_rfl) (fun u v => Below u.heap.size u v) (F7m (.agg #[.slice (some ⟨fb, fo, none⟩) S.flags.length cap, .bool S.plain, .bool S.unknown, .int .i64 S.fold]) (S) (w.heap.size) (i) (t) (nm) (vl) (.slice vb0 vbn vbc) (M)) (fun i => false) (fun i => [64, 65, 66, 67, 68, 69, 70, 71, 72, 73, 74, 75, 76, 77, 78, 79, 80, 81, 82, 83, 84, 85, 86, 87, 88, 10].getD i 0) 26
      (Below.refl _ _) (fun _ _ _ h k => below_step h k) (fun i hi v u u' h hb => F7m.below hi h hb) ?_ ?_ (by kernel_rfl) (by kernel_rfl) (by kernel_rfl) (by kernel_rfl) ?_ ?_
    · intro i hi hA; cases hA
    · intro i hi o ho g want hg v u hR
      match i, hi with
      | 0, _ =>
        cases ho
        cases hg
      | 1, _ =>
        cases ho
        cases hg
      | 2, _ =>
        cases ho
        cases hg
      | 3, _ =>
        cases ho
        cases hg
      | 4, _ =>
        cases ho
        cases hg
      | 5, _ =>
        cases ho
        cases hg
      | 6, _ =>
        cases ho
        cases hg
      | 7, _ =>
        cases ho
        cases hg
      | 8, _ =>
        cases ho
        cases hg
      | 9, _ =>
        cases ho
        cases hg
      | 10, _ =>
        cases ho
        cases hg
      | 11, _ =>
        cases ho
        cases hg
      | 12, _ =>
        cases ho
        cases hg
      | 13, _ =>
        cases ho
        cases hg
      | 14, _ =>
        cases ho
        cases hg
      | 15, _ =>
        cases ho
        cases hg
      | 16, _ =>
        cases ho
        cases hg
      | 17, _ =>
        cases ho
        cases hg
      | 18, _ =>
        cases ho
        cases hg
      | 19, _ =>
        cases ho
        cases hg
      | 20, _ =>
        cases ho
        cases hg
      | 21, _ =>
        cases ho
        cases hg
      | 22, _ =>
        cases ho
        cases hg
      | 23, _ =>
        cases ho
        cases hg; exact hR
      | 24, _ =>
        cases ho
        cases hg
      | 25, _ =>
        cases ho
        cases hg
      | k + 26, hi => exact absurd hi (by omega)
    · intro i hi o ho a u hG hk hd
      have hG9 : Below U3.heap.size U3 u := ((Below.refl _ _).drew).trans hG
      match i, hi with
      | 0, _ =>
        cases ho
        exact ow_load_set rfl ((hk 5 (by decide)).trans rfl) (block_kept q3 hG9) ⟨_, rfl, rfl, Below.refl _ _, fun h => by cases h⟩
      | 1, _ =>
        cases ho
        exact ow_move rfl ((hk 2 (by decide)).trans rfl) ⟨_, rfl, rfl, Below.refl _ _, fun h => by cases h⟩
      | 2, _ =>
        cases ho
        have e65 : a.eval (.tmp 65) = _ := hd 1 (by kernel_rfl) (by decide)
        exact ow_cat (by simp only [List.length_append, List.length_cons, List.length_nil]; have := HZ.out; omega) rfl (rfl : _ = Value.string (mkT [45, 45])) e65 ⟨_, rfl, rfl, Below.refl _ _, fun h => by cases h⟩
      | 3, _ =>
        cases ho
        have e66 : a.eval (.tmp 66) = _ := hd 2 (by kernel_rfl) (by decide)
        exact ow_cat (by simp only [List.length_append, List.length_cons, List.length_nil]; have := HZ.out; omega) rfl e66 (rfl : _ = Value.string (mkT [61])) ⟨_, rfl, rfl, Below.refl _ _, fun h => by cases h⟩
      | 4, _ =>
        cases ho
        exact ow_move rfl ((hk 3 (by decide)).trans rfl) ⟨_, rfl, rfl, Below.refl _ _, fun h => by cases h⟩
      | 5, _ =>
        cases ho
        have e67 : a.eval (.tmp 67) = _ := hd 3 (by kernel_rfl) (by decide)
        have e68 : a.eval (.tmp 68) = _ := hd 4 (by kernel_rfl) (by decide)
        exact ow_cat (by simp only [List.length_append, List.length_cons, List.length_nil]; have := HZ.out; omega) rfl e67 e68 ⟨_, rfl, rfl, Below.refl _ _, fun h => by cases h⟩
      | 6, _ =>
        cases ho
        have e69 : a.eval (.tmp 69) = _ := hd 5 (by kernel_rfl) (by decide)
        exact ow_build1 (s := mkT (((([45, 45] ++ t) ++ [61]) ++ vl))) (v := .nilIface) rfl e69 ⟨_, rfl, ⟨_, rfl, heap_alloc_new _ _⟩, (Below.refl _ _).alloc (Nat.le_refl _) _, fun h => by cases h⟩
      | 7, _ =>
        cases ho
        exact ow_move rfl ((hk 4 (by decide)).trans rfl) ⟨_, rfl, rfl, Below.refl _ _, fun h => by cases h⟩
      | 8, _ =>
        cases ho
        obtain ⟨g70, e70, hg70⟩ := hd 6 (by kernel_rfl) (by decide)
        have e71 : a.eval (.tmp 71) = _ := hd 7 (by kernel_rfl) (by decide)
        exact ow_rows2 rfl e70 e71 ⟨_, rfl, ⟨_, _, rfl, rows2 (heap_alloc_new _ _) ((one_text hg70).below ((Below.refl _ _).alloc (Nat.le_refl _) _)) ((HVC.out.below hG9).below ((Below.refl _ _).alloc (Nat.le_refl _) _))⟩, (Below.refl _ _).alloc (Nat.le_refl _) _, fun h => by cases h⟩
      | 9, _ =>
        cases ho
        obtain ⟨g, vs, e72', hr⟩ := hd 8 (by kernel_rfl) (by decide)
        have e72 : a.eval (.tmp 72) = .slice (some ⟨g, 0, none⟩) 2 2 := e72'
        have hl14 : Calls Try.prog 27 #[.slice (some ⟨g, 0, none⟩) 2 2] u _ := list14_c (ls := [[mkT (((([45, 45] ++ t) ++ [61]) ++ vl))], M.map mkT]) hr (by (show 2 ≤ 2147483647; decide)) (Nat.le_refl 2) hflat1
        refine ow_call #[.tmp 72] #[68] 27 Try.func27 (by kernel_rfl) (by rfl) rfl #[.slice (some ⟨g, 0, none⟩) 2 2] (by simp only [List.map_toArray, List.map_cons, List.map_nil, e72]) hl14 ?_
        rintro e u2 ⟨v, rfl, hv2, hb2⟩
        refine ⟨v, rfl, _, rfl, ?_, hb2, fun h => by cases h⟩
        show TextIn u2 v (((((([45, 45] ++ t) ++ [61]) ++ vl) :: M)).map mkT)
        simpa using hv2
      | 10, _ =>
        cases ho
        have e64 : a.eval (.tmp 64) = _ := hd 0 (by kernel_rfl) (by decide)
        have e73 : TextIn u (a.eval (.tmp 73)) (((((([45, 45] ++ t) ++ [61]) ++ vl) :: M)).map mkT) := hd 9 (by kernel_rfl) (by decide)
        refine ow_call #[.tmp 64, .tmp 73] #[24, 25] 26 Try.func26 (by kernel_rfl) (by rfl) rfl #[_, a.eval (.tmp 73)] (by simp only [List.map_toArray, List.map_cons, List.map_nil, e64]) (HPC.out u (hbx.trans (hG9.mono hbx.size)) _ ((((([45, 45] ++ t) ++ [61]) ++ vl) :: M)) e73 hw1 hl1) ?_
        rintro e u2 ⟨v, rfl, hv2, hb2⟩
        exact ⟨v, rfl, _, rfl, hv2, hb2, fun h => by cases h⟩
      | 11, _ =>
        cases ho
        exact ow_load_set rfl ((hk 5 (by decide)).trans rfl) (block_kept q3 hG9) ⟨_, rfl, rfl, Below.refl _ _, fun h => by cases h⟩
      | 12, _ =>
        cases ho
        exact ow_load_set rfl ((hk 5 (by decide)).trans rfl) (block_kept q3 hG9) ⟨_, rfl, rfl, Below.refl _ _, fun h => by cases h⟩
      | 13, _ =>
        cases ho
        exact ow_move rfl ((hk 1 (by decide)).trans rfl) ⟨_, rfl, rfl, Below.refl _ _, fun h => by cases h⟩
      | 14, _ =>
        cases ho
        exact ow_move rfl ((hk 3 (by decide)).trans rfl) ⟨_, rfl, rfl, Below.refl _ _, fun h => by cases h⟩
      | 15, _ =>
        cases ho
        have e76 : a.eval (.tmp 76) = _ := hd 12 (by kernel_rfl) (by decide)
        have e77 : a.eval (.tmp 77) = _ := hd 13 (by kernel_rfl) (by decide)
        have e78 : a.eval (.tmp 78) = _ := hd 14 (by kernel_rfl) (by decide)
        refine ow_call #[.tmp 76, .tmp 77, .tmp 78] #[24, 3, 9] 28 Try.func28 (by kernel_rfl) (by rfl) rfl #[_, _, _] (by simp only [List.map_toArray, List.map_cons, List.map_nil, e76, e77, e78]) (HLG.out u (hbx.trans (hG9.mono hbx.size))) ?_
        rintro e u2 ⟨rfl, hb2⟩
        exact ⟨_, rfl, _, rfl, rfl, hb2, fun h => by cases h⟩
      | 16, _ =>
        cases ho
        have e79 : a.eval (.tmp 79) = _ := hd 15 (by kernel_rfl) (by decide)
        exact ow_build1 (s := mkT (longT nm vl)) (v := .nilIface) rfl e79 ⟨_, rfl, ⟨_, rfl, heap_alloc_new _ _⟩, (Below.refl _ _).alloc (Nat.le_refl _) _, fun h => by cases h⟩
      | 17, _ =>
        cases ho
        exact ow_move rfl ((hk 4 (by decide)).trans rfl) ⟨_, rfl, rfl, Below.refl _ _, fun h => by cases h⟩
      | 18, _ =>
        cases ho
        obtain ⟨g80, e80, hg80⟩ := hd 16 (by kernel_rfl) (by decide)
        have e81 : a.eval (.tmp 81) = _ := hd 17 (by kernel_rfl) (by decide)
        exact ow_rows2 rfl e80 e81 ⟨_, rfl, ⟨_, _, rfl, rows2 (heap_alloc_new _ _) ((one_text hg80).below ((Below.refl _ _).alloc (Nat.le_refl _) _)) ((HVC.out.below hG9).below ((Below.refl _ _).alloc (Nat.le_refl _) _))⟩, (Below.refl _ _).alloc (Nat.le_refl _) _, fun h => by cases h⟩
      | 19, _ =>
        cases ho
        obtain ⟨g, vs, e82', hr⟩ := hd 18 (by kernel_rfl) (by decide)
        have e82 : a.eval (.tmp 82) = .slice (some ⟨g, 0, none⟩) 2 2 := e82'
        have hl14 : Calls Try.prog 27 #[.slice (some ⟨g, 0, none⟩) 2 2] u _ := list14_c (ls := [[mkT (longT nm vl)], M.map mkT]) hr (by (show 2 ≤ 2147483647; decide)) (Nat.le_refl 2) hflat2
        refine ow_call #[.tmp 82] #[68] 27 Try.func27 (by kernel_rfl) (by rfl) rfl #[.slice (some ⟨g, 0, none⟩) 2 2] (by simp only [List.map_toArray, List.map_cons, List.map_nil, e82]) hl14 ?_
        rintro e u2 ⟨v, rfl, hv2, hb2⟩
        refine ⟨v, rfl, _, rfl, ?_, hb2, fun h => by cases h⟩
        show TextIn u2 v (((longT nm vl :: M)).map mkT)
        simpa using hv2
      | 20, _ =>
        cases ho
        have e75 : a.eval (.tmp 75) = _ := hd 11 (by kernel_rfl) (by decide)
        have e83 : TextIn u (a.eval (.tmp 83)) (((longT nm vl :: M)).map mkT) := hd 19 (by kernel_rfl) (by decide)
        refine ow_call #[.tmp 75, .tmp 83] #[24, 25] 26 Try.func26 (by kernel_rfl) (by rfl) rfl #[_, a.eval (.tmp 83)] (by simp only [List.map_toArray, List.map_cons, List.map_nil, e75]) (HPC.out u (hbx.trans (hG9.mono hbx.size)) _ ((longT nm vl :: M)) e83 hw2 hl2) ?_
        rintro e u2 ⟨v, rfl, hv2, hb2⟩
        exact ⟨v, rfl, _, rfl, hv2, hb2, fun h => by cases h⟩
      | 21, _ =>
        cases ho
        have e74 : HeardOwn u (psOf none true (goes S none st0 ((((([45, 45] ++ t) ++ [61]) ++ vl) :: M)))) (goes S none st0 ((((([45, 45] ++ t) ++ [61]) ++ vl) :: M))).err S.flags.length (a.eval (.tmp 74)) := hd 10 (by kernel_rfl) (by decide)
        have e84 : HeardOwn u (psOf none true (goes S none st0 ((longT nm vl :: M)))) (goes S none st0 ((longT nm vl :: M))).err S.flags.length (a.eval (.tmp 84)) := hd 20 (by kernel_rfl) (by decide)
        rw [← HEQ.out] at e84
        refine ow_call #[.tmp 74, .tmp 84] #[32, 32] 22 Try.func22 (by kernel_rfl) (by rfl) rfl #[a.eval (.tmp 74), a.eval (.tmp 84)] (by simp only [List.map_toArray, List.map_cons, List.map_nil]) (same_c e74.is e84.is hg1 hg2 hg3) ?_
        rintro e u2 ⟨rfl, hb2⟩
        exact ⟨_, rfl, _, rfl, rfl, hb2, fun h => by cases h⟩
      | 22, _ =>
        cases ho
        have e85 : a.eval (.tmp 85) = .bool true := hd 21 (by kernel_rfl) (by decide)
        exact ow_move rfl e85 ⟨_, rfl, rfl, Below.refl _ _, fun h => by cases h⟩
      | 23, _ =>
        cases ho
        refine ow_call #[] #[] 25 Try.func25 (by kernel_rfl) (by rfl) rfl #[] (by simp only [List.map_toArray, List.map_nil]) (HLV.out u (hbx.trans (hG9.mono hbx.size))) ?_
        rintro e u2 ⟨rfl, hb2⟩
        exact ⟨_, rfl, _, rfl, rfl, hb2, fun h => by cases h⟩
      | 24, _ =>
        cases ho
        have e86 : a.eval (.tmp 86) = .bool true := hd 22 (by kernel_rfl) (by decide)
        have e87 : a.eval (.tmp 87) = .bool true := hd 23 (by kernel_rfl) (by decide)
        exact ow_pick rfl e86 e87 ⟨_, rfl, rfl, Below.refl _ _, fun h => by cases h⟩
      | 25, _ =>
        cases ho
        have e88 : a.eval (.tmp 88) = .bool true := hd 24 (by kernel_rfl) (by decide)
        exact ow_assign rfl e88 ⟨_, rfl, rfl, Below.refl _ _, fun h => by cases h⟩
      | k + 26, hi => exact absurd hi (by omega)
    · intro x u hG hx hdif
      have hlast : x 25 = _ := hx 25 (by decide)
      simp only [putAll, Act.put, List.getD_cons_zero, List.getD_cons_succ, List.setIfInBounds_toArray, List.set_cons_succ, List.set_cons_zero]
      refine wpAny_end (by kernel_rfl) ?_
      rw [hlast]
      go_wp2
      go_ret
      exact yesEnd rfl (hbx.trans ((((Below.refl _ _).drew).trans hG).mono hbx.size))
end Go.Proofs.Ytgmhhdpggnmipaa.E
