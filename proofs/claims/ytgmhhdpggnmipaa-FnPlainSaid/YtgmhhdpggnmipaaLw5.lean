/- laws.FnTail over this seat's program. Written by gen_lw5.py. -/
import Derived.Test.YtgmhhdpggnmipaaLw3
import Derived.Test.YtgmhhdpggnmipaaLw4
namespace Go.Proofs.Ytgmhhdpggnmipaa.E
open Go.RowKit Go.Proofs
set_option linter.unusedVariables false
set_option linter.unusedSimpArgs false

theorem map_mid (L M : List Txt) : (L ++ [45, 45] :: M).map mkT = L.map mkT ++ ([mkT [45, 45]] ++ M.map mkT) := by simp
theorem wt_map (L : List Txt) : wtB (L.map mkT) = wt L := by
  induction L with
  | nil => rfl
  | cons a r ih => simp only [List.map_cons, wtB, wt, ih, mkT_size]; omega
/-- A law that answers true. -/
def YesEnd (w : World) (e : Ending) (w' : World) : Prop := e = .returned (.bool true) ∧ Below w.heap.size w w'
theorem yesEnd {w : World} {e : Ending} {w' : World} (h : e = .returned (.bool true)) (hb : Below w.heap.size w w') : YesEnd w e w' := ⟨h, hb⟩
theorem TextIn.slice {w : World} {v : Value} {xs : List ByteArray} (h : TextIn w v xs) : ∃ a n c, v = .slice a n c := by obtain ⟨a, c, e, _⟩ := h; exact ⟨_, _, _, e⟩
/-- fits20 over flags. -/
theorem fits20_F {F : List FlagP} (h : fits20 (F.map ofFlag) = true) : F.length ≤ 2147483647 ∧ ∀ f ∈ F, f.name.length ≤ 2147483647 ∧ f.short.length ≤ 2147483647 := by
  unfold fits20 at h
  simp only [Bool.and_eq_true, decide_eq_true_eq, List.length_map, List.all_eq_true, List.mem_map] at h
  refine ⟨h.1, fun f hf => ?_⟩
  have h2 := h.2 (ofFlag f) ⟨f, hf, rfl⟩
  unfold fits21 at h2
  simp only [Bool.and_eq_true, decide_eq_true_eq] at h2
  have e1 : (ofFlag f).f0.size = f.name.length := mkT_size _
  have e2 : (ofFlag f).f1.size = f.short.length := mkT_size _
  omega

theorem fit14_s {w W : World} (hb : Below w.heap.size w W) {va0 vb0 : Option Addr} {van vac vbn vbc : Nat} {xs ys : List ByteArray} (ha : TextIn w (.slice va0 van vac) xs) (hv : TextIn w (.slice vb0 vbn vbc) ys) (hf : ∀ zs ∈ [xs, ys], fits2 zs = true) {b : Bool} (h : decide (wtBB [xs, ys] ≤ 1048576) = b) :
    Calls Try.prog 17 #[.slice (some ⟨W.heap.size, 0, none⟩) 2 2] (W.alloc (.cells #[.slice va0 van vac, .slice vb0 vbn vbc] 25)) fun e w' => e = .returned (.bool b) ∧ Below (W.alloc (.cells #[.slice va0 van vac, .slice vb0 vbn vbc] 25)).heap.size (W.alloc (.cells #[.slice va0 van vac, .slice vb0 vbn vbc] 25)) w' := by
  subst h
  exact fits14_c (ls := [xs, ys]) (rows2 (heap_alloc_new _ _) ((ha.below hb).below ((Below.refl _ _).alloc (Nat.le_refl _) _)) ((hv.below hb).below ((Below.refl _ _).alloc (Nat.le_refl _) _))) (by (show 2 ≤ 2147483647; decide)) (Nat.le_refl 2) hf

def T5 (sv va vb : Value) (B : Nat) (S : SetP) (L M : List Txt) : Nat → Value → World → Prop
  | 0, v, _ => v = sv
  | 1, v, _ => v = va
  | 2, v, w => HeardOwn w (psOf none true (goes S none st0 L)) (goes S none st0 L).err S.flags.length v
  | 3, v, _ => v = sv
  | 4, v, _ => v = va
  | 5, v, w => ∃ g, v = .slice (some ⟨g, 0, none⟩) 1 1 ∧ w.heap[g]? = some (.cells #[.string (mkT [45, 45])] 9 (0, 0))
  | 6, v, _ => v = vb
  | 7, v, w => ∃ g vs, v = .slice (some ⟨g, 0, none⟩) 3 3 ∧ RowsIn w g vs [L.map mkT, [mkT [45, 45]], M.map mkT]
  | 8, v, w => TextIn w v ((L ++ [45, 45] :: M).map mkT)
  | 9, v, w => HeardOwn w (psOf none true (goes S none st0 (L ++ [45, 45] :: M))) (goes S none st0 (L ++ [45, 45] :: M)).err S.flags.length v
  | 10, v, w => ∃ g, v = .pointer (some ⟨g, 0, none⟩) ∧ B ≤ g ∧ w.heap[g]? = some (.cells hdZero 32 (0, 0))
  | 11, v, w => ∃ g, v = .pointer (some ⟨g, 0, none⟩) ∧ B ≤ g ∧ w.heap[g]? = some (.cells hdZero 32 (0, 0))
  | _, _, _ => True
theorem T5.below {sv va vb : Value} {B : Nat} {S : SetP} {L M : List Txt} {i : Nat} (hi : i < 12) {v : Value} {w w' : World} (h : T5 sv va vb B S L M i v w) (hb : Below w.heap.size w w') : T5 sv va vb B S L M i v w' := by
  match i, hi, h with
  | 0, _, h => exact h
  | 1, _, h => exact h
  | 2, _, h => exact HeardOwn.below h hb
  | 3, _, h => exact h
  | 4, _, h => exact h
  | 5, _, h => obtain ⟨g, e, h⟩ := h; exact ⟨g, e, block_kept h hb⟩
  | 6, _, h => exact h
  | 7, _, h => obtain ⟨g, vs, e, h⟩ := h; exact ⟨g, vs, e, h.below hb⟩
  | 8, _, h => exact TextIn.below h hb
  | 9, _, h => exact HeardOwn.below h hb
  | 10, _, h => obtain ⟨g, e, hB, h⟩ := h; exact ⟨g, e, hB, block_kept h hb⟩
  | 11, _, h => obtain ⟨g, e, hB, h⟩ := h; exact ⟨g, e, hB, block_kept h hb⟩
def T6 (q7 q8 : Nat) (nd : Int) (A1 A2 A3 vb A4 : Value) (L M : List Txt) : Nat → Value → World → Prop
  | 0, v, _ => v = .pointer (some ⟨q8, 0, none⟩)
  | 1, v, _ => v = .int .i64 0
  | 2, v, _ => v = .bool true
  | 3, v, _ => v = .bool true
  | 4, v, _ => v = .pointer (some ⟨q8, 7, none⟩)
  | 5, v, _ => v = .int .i64 nd
  | 6, v, _ => v = .pointer (some ⟨q7, 6, none⟩)
  | 7, v, _ => v = A3
  | 8, v, _ => v = .int .i64 nd
  | 9, v, _ => v = .bool true
  | 10, v, _ => v = .bool true
  | 11, v, _ => v = .bool true
  | 12, v, _ => v = .pointer (some ⟨q7, 5, none⟩)
  | 13, v, _ => v = A1
  | 14, v, _ => v = .pointer (some ⟨q8, 5, none⟩)
  | 15, v, _ => v = A2
  | 16, v, _ => v = .bool true
  | 17, v, _ => v = .bool true
  | 18, v, _ => v = .bool true
  | 19, v, _ => v = .pointer (some ⟨q7, 6, none⟩)
  | 20, v, _ => v = A3
  | 21, v, _ => v = vb
  | 22, v, w => ∃ g vs, v = .slice (some ⟨g, 0, none⟩) 2 2 ∧ RowsIn w g vs [L.map mkT, M.map mkT]
  | 23, v, w => TextIn w v ((L ++ M).map mkT)
  | 24, v, _ => v = .pointer (some ⟨q8, 6, none⟩)
  | 25, v, _ => v = A4
  | 26, v, _ => v = .bool true
  | 27, v, _ => v = .bool true
  | 28, v, _ => v = .bool true
  | 29, v, _ => v = .bool true
  | 30, v, _ => v = .bool true
  | 31, v, _ => v = .bool true
  | _, _, _ => True
theorem T6.below {q7 q8 : Nat} {nd : Int} {A1 A2 A3 vb A4 : Value} {L M : List Txt} {i : Nat} (hi : i < 32) {v : Value} {w w' : World} (h : T6 q7 q8 nd A1 A2 A3 vb A4 L M i v w) (hb : Below w.heap.size w w') : T6 q7 q8 nd A1 A2 A3 vb A4 L M i v w' := by
  match i, hi, h with
  | 0, _, h => exact h
  | 1, _, h => exact h
  | 2, _, h => exact h
  | 3, _, h => exact h
  | 4, _, h => exact h
  | 5, _, h => exact h
  | 6, _, h => exact h
  | 7, _, h => exact h
  | 8, _, h => exact h
  | 9, _, h => exact h
  | 10, _, h => exact h
  | 11, _, h => exact h
  | 12, _, h => exact h
  | 13, _, h => exact h
  | 14, _, h => exact h
  | 15, _, h => exact h
  | 16, _, h => exact h
  | 17, _, h => exact h
  | 18, _, h => exact h
  | 19, _, h => exact h
  | 20, _, h => exact h
  | 21, _, h => exact h
  | 22, _, h => obtain ⟨g, vs, e, h⟩ := h; exact ⟨g, vs, e, h.below hb⟩
  | 23, _, h => exact TextIn.below h hb
  | 24, _, h => exact h
  | 25, _, h => exact h
  | 26, _, h => exact h
  | 27, _, h => exact h
  | 28, _, h => exact h
  | 29, _, h => exact h
  | 30, _, h => exact h
  | 31, _, h => exact h
  | k + 32, hi, _ => exact absurd hi (by omega)

set_option maxRecDepth 100000 in
set_option maxHeartbeats 6400000 in
/-- What does not fit answers true. -/
theorem tail_small {w : World} {A : Option Addr} {F : List FlagP} (hA : FlagsAt w A F) (hn : F.length ≤ 9223372036854775807) (cap : Nat) (hc : F.length ≤ cap) (pl un : Bool) (k : Int) {va vb : Value} {L M : List Txt} (hva : TextIn w va (L.map mkT)) (hvb : TextIn w vb (M.map mkT))
    (hno : ¬ (fits20 (F.map ofFlag) = true ∧ fits2 (L.map mkT) = true ∧ fits2 (M.map mkT) = true ∧ rightL (foldGT (bits BinOp.and IntKind.i64 k 1 == 1) (bits BinOp.and IntKind.i64 k 2 == 2)) [] [] F = true ∧ (0 ≤ k ∧ k ≤ 3) ∧ wtBB [L.map mkT, M.map mkT] ≤ 1048576)) :
    Calls Try.prog 9 #[.agg #[.slice A F.length cap, .bool pl, .bool un, .int .i64 k], va, vb] w (YesEnd w) := by
  have H19 := Lib.hid (fun (W : World) (hb : Below w.heap.size w W) => zz19_c (hA.below hb) hn cap hc pl un k)
  have HFA := Lib.hid (fun (W : World) (hb : Below w.heap.size w W) => zz2_c (hva.below hb))
  have HFB := Lib.hid (fun (W : World) (hb : Below w.heap.size w W) => zz2_c (hvb.below hb))
  have HNO := Lib.hid hno
  have HA := Lib.hid hA
  clear hno hA
  have HVA := Lib.hid hva
  have HVB := Lib.hid hvb
  obtain ⟨va0, van, vac, hvae⟩ := hva.slice
  obtain ⟨vb0, vbn, vbc, hvbe⟩ := hvb.slice
  clear hva hvb
  subst hvae
  subst hvbe
  generalize h1 : fits20 (F.map ofFlag) = b1 at H19
  generalize h2 : fits2 (L.map mkT) = b2 at HFA
  generalize h3 : fits2 (M.map mkT) = b3 at HFB
  have HB1 := Lib.hid h1
  have HB2 := Lib.hid h2
  have HB3 := Lib.hid h3
  clear h1 h2 h3
  cases b1 with
  | false =>
    go_enter Try.func9, Try.ntmps9
    go_upto_region 1 with fail
    generalize hWX : w.alloc _ = WX
    have HB : Hid (Below w.heap.size w WX) := Lib.hid (by rw [← hWX]; exact (Below.refl _ _).alloc (Nat.le_refl _) _)
    have q3 : WX.heap[w.heap.size]? = some (.cells #[.slice A F.length cap, .bool pl, .bool un, .int .i64 k] 24 (0, 0)) := by rw [← hWX]; exact heap_alloc_new w _
    clear hWX
    have c0 : WX.cell? ⟨w.heap.size, 0, none⟩ = some (.slice A F.length cap) := (cell_blk q3 0).trans rfl
    have c1 : WX.cell? ⟨w.heap.size, 1, none⟩ = some (.bool pl) := (cell_blk q3 1).trans rfl
    have c2 : WX.cell? ⟨w.heap.size, 2, none⟩ = some (.bool un) := (cell_blk q3 2).trans rfl
    have c3 : WX.cell? ⟨w.heap.size, 3, none⟩ = some (.int .i64 k) := (cell_blk q3 3).trans rfl
    go_wp2_with ((with_reducible go_at_call 14); (with_reducible refine Calls.mono (H19.out _ HB.out) ?_); rintro e w3 ⟨rfl, hb3⟩; have q3 := block_kept q3 hb3; have c0 := cell_kept hb3 c0; have c1 := cell_kept hb3 c1; have c2 := cell_kept hb3 c2; have c3 := cell_kept hb3 c3; have HB := Lib.hid (HB.out.trans (hb3.mono HB.out.size)); clear hb3)
    go_ret
    exact yesEnd rfl HB.out
  | true =>
  cases b2 with
  | false =>
    go_enter Try.func9, Try.ntmps9
    go_upto_region 1 with fail
    generalize hWX : w.alloc _ = WX
    have HB : Hid (Below w.heap.size w WX) := Lib.hid (by rw [← hWX]; exact (Below.refl _ _).alloc (Nat.le_refl _) _)
    have q3 : WX.heap[w.heap.size]? = some (.cells #[.slice A F.length cap, .bool pl, .bool un, .int .i64 k] 24 (0, 0)) := by rw [← hWX]; exact heap_alloc_new w _
    clear hWX
    have c0 : WX.cell? ⟨w.heap.size, 0, none⟩ = some (.slice A F.length cap) := (cell_blk q3 0).trans rfl
    have c1 : WX.cell? ⟨w.heap.size, 1, none⟩ = some (.bool pl) := (cell_blk q3 1).trans rfl
    have c2 : WX.cell? ⟨w.heap.size, 2, none⟩ = some (.bool un) := (cell_blk q3 2).trans rfl
    have c3 : WX.cell? ⟨w.heap.size, 3, none⟩ = some (.int .i64 k) := (cell_blk q3 3).trans rfl
    go_wp2_with (first | ((with_reducible go_at_call 14); (with_reducible refine Calls.mono (H19.out _ HB.out) ?_); rintro e w3 ⟨rfl, hb3⟩; have q3 := block_kept q3 hb3; have c0 := cell_kept hb3 c0; have c1 := cell_kept hb3 c1; have c2 := cell_kept hb3 c2; have c3 := cell_kept hb3 c3; have HB := Lib.hid (HB.out.trans (hb3.mono HB.out.size)); clear hb3) | ((with_reducible go_at_call 15); (with_reducible refine Calls.mono (HFA.out _ HB.out) ?_); rintro e w3 ⟨rfl, hb3⟩; have q3 := block_kept q3 hb3; have c0 := cell_kept hb3 c0; have c1 := cell_kept hb3 c1; have c2 := cell_kept hb3 c2; have c3 := cell_kept hb3 c3; have HB := Lib.hid (HB.out.trans (hb3.mono HB.out.size)); clear hb3) | ((with_reducible go_at_call 15); (with_reducible refine Calls.mono (HFB.out _ HB.out) ?_); rintro e w3 ⟨rfl, hb3⟩; have q3 := block_kept q3 hb3; have c0 := cell_kept hb3 c0; have c1 := cell_kept hb3 c1; have c2 := cell_kept hb3 c2; have c3 := cell_kept hb3 c3; have HB := Lib.hid (HB.out.trans (hb3.mono HB.out.size)); clear hb3))
    go_ret
    exact yesEnd rfl HB.out
  | true =>
  cases b3 with
  | false =>
    go_enter Try.func9, Try.ntmps9
    go_upto_region 1 with fail
    generalize hWX : w.alloc _ = WX
    have HB : Hid (Below w.heap.size w WX) := Lib.hid (by rw [← hWX]; exact (Below.refl _ _).alloc (Nat.le_refl _) _)
    have q3 : WX.heap[w.heap.size]? = some (.cells #[.slice A F.length cap, .bool pl, .bool un, .int .i64 k] 24 (0, 0)) := by rw [← hWX]; exact heap_alloc_new w _
    clear hWX
    have c0 : WX.cell? ⟨w.heap.size, 0, none⟩ = some (.slice A F.length cap) := (cell_blk q3 0).trans rfl
    have c1 : WX.cell? ⟨w.heap.size, 1, none⟩ = some (.bool pl) := (cell_blk q3 1).trans rfl
    have c2 : WX.cell? ⟨w.heap.size, 2, none⟩ = some (.bool un) := (cell_blk q3 2).trans rfl
    have c3 : WX.cell? ⟨w.heap.size, 3, none⟩ = some (.int .i64 k) := (cell_blk q3 3).trans rfl
    go_wp2_with (first | ((with_reducible go_at_call 14); (with_reducible refine Calls.mono (H19.out _ HB.out) ?_); rintro e w3 ⟨rfl, hb3⟩; have q3 := block_kept q3 hb3; have c0 := cell_kept hb3 c0; have c1 := cell_kept hb3 c1; have c2 := cell_kept hb3 c2; have c3 := cell_kept hb3 c3; have HB := Lib.hid (HB.out.trans (hb3.mono HB.out.size)); clear hb3) | ((with_reducible go_at_call 15); (with_reducible refine Calls.mono (HFA.out _ HB.out) ?_); rintro e w3 ⟨rfl, hb3⟩; have q3 := block_kept q3 hb3; have c0 := cell_kept hb3 c0; have c1 := cell_kept hb3 c1; have c2 := cell_kept hb3 c2; have c3 := cell_kept hb3 c3; have HB := Lib.hid (HB.out.trans (hb3.mono HB.out.size)); clear hb3) | ((with_reducible go_at_call 15); (with_reducible refine Calls.mono (HFB.out _ HB.out) ?_); rintro e w3 ⟨rfl, hb3⟩; have q3 := block_kept q3 hb3; have c0 := cell_kept hb3 c0; have c1 := cell_kept hb3 c1; have c2 := cell_kept hb3 c2; have c3 := cell_kept hb3 c3; have HB := Lib.hid (HB.out.trans (hb3.mono HB.out.size)); clear hb3))
    go_ret
    exact yesEnd rfl HB.out
  | true =>
  have hsz : F.length ≤ 2147483647 ∧ ∀ f ∈ F, f.name.length ≤ 2147483647 ∧ f.short.length ≤ 2147483647 := fits20_F HB1.out
  have HFT : Hid (∀ xs ∈ [L.map mkT, M.map mkT], fits2 xs = true) := Lib.hid (fun xs hx => by
    simp only [List.mem_cons, List.not_mem_nil, or_false] at hx
    rcases hx with rfl | rfl
    · exact HB2.out
    · exact HB3.out)
  have HRT := Lib.hid (fun (W : World) (hb : Below w.heap.size w W) => right_any F A cap pl un k _ _ rfl rfl W (HA.out.below hb) hsz.1 hsz.2)
  clear hsz
  generalize h4 : (rightL (foldGT (bits BinOp.and IntKind.i64 k 1 == 1) (bits BinOp.and IntKind.i64 k 2 == 2)) [] [] F && decide (0 ≤ k ∧ k ≤ 3)) = b4 at HRT
  have HB4 := Lib.hid h4
  clear h4
  cases b4 with
  | false =>
    go_enter Try.func9, Try.ntmps9
    go_upto_region 1 with fail
    generalize hWX : w.alloc _ = WX
    have HB : Hid (Below w.heap.size w WX) := Lib.hid (by rw [← hWX]; exact (Below.refl _ _).alloc (Nat.le_refl _) _)
    have q3 : WX.heap[w.heap.size]? = some (.cells #[.slice A F.length cap, .bool pl, .bool un, .int .i64 k] 24 (0, 0)) := by rw [← hWX]; exact heap_alloc_new w _
    clear hWX
    have c0 : WX.cell? ⟨w.heap.size, 0, none⟩ = some (.slice A F.length cap) := (cell_blk q3 0).trans rfl
    have c1 : WX.cell? ⟨w.heap.size, 1, none⟩ = some (.bool pl) := (cell_blk q3 1).trans rfl
    have c2 : WX.cell? ⟨w.heap.size, 2, none⟩ = some (.bool un) := (cell_blk q3 2).trans rfl
    have c3 : WX.cell? ⟨w.heap.size, 3, none⟩ = some (.int .i64 k) := (cell_blk q3 3).trans rfl
    go_wp2_with (first | ((with_reducible go_at_call 14); (with_reducible refine Calls.mono (H19.out _ HB.out) ?_); rintro e w3 ⟨rfl, hb3⟩; have q3 := block_kept q3 hb3; have c0 := cell_kept hb3 c0; have c1 := cell_kept hb3 c1; have c2 := cell_kept hb3 c2; have c3 := cell_kept hb3 c3; have HB := Lib.hid (HB.out.trans (hb3.mono HB.out.size)); clear hb3) | ((with_reducible go_at_call 15); (with_reducible refine Calls.mono (HFA.out _ HB.out) ?_); rintro e w3 ⟨rfl, hb3⟩; have q3 := block_kept q3 hb3; have c0 := cell_kept hb3 c0; have c1 := cell_kept hb3 c1; have c2 := cell_kept hb3 c2; have c3 := cell_kept hb3 c3; have HB := Lib.hid (HB.out.trans (hb3.mono HB.out.size)); clear hb3) | ((with_reducible go_at_call 15); (with_reducible refine Calls.mono (HFB.out _ HB.out) ?_); rintro e w3 ⟨rfl, hb3⟩; have q3 := block_kept q3 hb3; have c0 := cell_kept hb3 c0; have c1 := cell_kept hb3 c1; have c2 := cell_kept hb3 c2; have c3 := cell_kept hb3 c3; have HB := Lib.hid (HB.out.trans (hb3.mono HB.out.size)); clear hb3) | ((with_reducible go_at_call 16); (with_reducible refine Calls.mono (HRT.out _ HB.out) ?_); rintro e w3 ⟨rfl, hb3⟩; have q3 := block_kept q3 hb3; have c0 := cell_kept hb3 c0; have c1 := cell_kept hb3 c1; have c2 := cell_kept hb3 c2; have c3 := cell_kept hb3 c3; have HB := Lib.hid (HB.out.trans (hb3.mono HB.out.size)); clear hb3) | ((with_reducible go_at_call 25); refine (lives_c _).mono ?_; rintro e w3 ⟨rfl, hb3⟩; have HB := Lib.hid (HB.out.trans (hb3.mono HB.out.size)); clear hb3))
    go_ret
    exact yesEnd rfl HB.out
  | true =>
    have h5 : decide (wtBB [L.map mkT, M.map mkT] ≤ 1048576) = false := by
      have := HNO.out
      have h4 := HB4.out
      rw [Bool.and_eq_true] at h4
      apply decide_eq_false
      intro h
      exact this ⟨HB1.out, HB2.out, HB3.out, h4.1, of_decide_eq_true h4.2, h⟩
    have HF14 := Lib.hid (fun (W : World) (hb : Below w.heap.size w W) => fit14_s hb HVA.out HVB.out HFT.out h5)
    clear h5
    go_enter Try.func9, Try.ntmps9
    go_upto_region 1 with fail
    generalize hWX : w.alloc _ = WX
    have HB : Hid (Below w.heap.size w WX) := Lib.hid (by rw [← hWX]; exact (Below.refl _ _).alloc (Nat.le_refl _) _)
    have q3 : WX.heap[w.heap.size]? = some (.cells #[.slice A F.length cap, .bool pl, .bool un, .int .i64 k] 24 (0, 0)) := by rw [← hWX]; exact heap_alloc_new w _
    clear hWX
    have c0 : WX.cell? ⟨w.heap.size, 0, none⟩ = some (.slice A F.length cap) := (cell_blk q3 0).trans rfl
    have c1 : WX.cell? ⟨w.heap.size, 1, none⟩ = some (.bool pl) := (cell_blk q3 1).trans rfl
    have c2 : WX.cell? ⟨w.heap.size, 2, none⟩ = some (.bool un) := (cell_blk q3 2).trans rfl
    have c3 : WX.cell? ⟨w.heap.size, 3, none⟩ = some (.int .i64 k) := (cell_blk q3 3).trans rfl
    go_wp2_with (first | ((with_reducible go_at_call 14); (with_reducible refine Calls.mono (H19.out _ HB.out) ?_); rintro e w3 ⟨rfl, hb3⟩; have q3 := block_kept q3 hb3; have c0 := cell_kept hb3 c0; have c1 := cell_kept hb3 c1; have c2 := cell_kept hb3 c2; have c3 := cell_kept hb3 c3; have HB := Lib.hid (HB.out.trans (hb3.mono HB.out.size)); clear hb3) | ((with_reducible go_at_call 15); (with_reducible refine Calls.mono (HFA.out _ HB.out) ?_); rintro e w3 ⟨rfl, hb3⟩; have q3 := block_kept q3 hb3; have c0 := cell_kept hb3 c0; have c1 := cell_kept hb3 c1; have c2 := cell_kept hb3 c2; have c3 := cell_kept hb3 c3; have HB := Lib.hid (HB.out.trans (hb3.mono HB.out.size)); clear hb3) | ((with_reducible go_at_call 15); (with_reducible refine Calls.mono (HFB.out _ HB.out) ?_); rintro e w3 ⟨rfl, hb3⟩; have q3 := block_kept q3 hb3; have c0 := cell_kept hb3 c0; have c1 := cell_kept hb3 c1; have c2 := cell_kept hb3 c2; have c3 := cell_kept hb3 c3; have HB := Lib.hid (HB.out.trans (hb3.mono HB.out.size)); clear hb3) | ((with_reducible go_at_call 16); (with_reducible refine Calls.mono (HRT.out _ HB.out) ?_); rintro e w3 ⟨rfl, hb3⟩; have q3 := block_kept q3 hb3; have c0 := cell_kept hb3 c0; have c1 := cell_kept hb3 c1; have c2 := cell_kept hb3 c2; have c3 := cell_kept hb3 c3; have HB := Lib.hid (HB.out.trans (hb3.mono HB.out.size)); clear hb3) | ((with_reducible go_at_call 17); (with_reducible refine Calls.mono (HF14.out _ HB.out) ?_); rintro e w3 ⟨rfl, hb3⟩; have q3 := block_kept (block_kept q3 ((Below.refl _ _).alloc (Nat.le_refl _) _)) hb3; have c0 := cell_kept hb3 (cell_kept ((Below.refl _ _).alloc (Nat.le_refl _) _) c0); have c1 := cell_kept hb3 (cell_kept ((Below.refl _ _).alloc (Nat.le_refl _) _) c1); have c2 := cell_kept hb3 (cell_kept ((Below.refl _ _).alloc (Nat.le_refl _) _) c2); have c3 := cell_kept hb3 (cell_kept ((Below.refl _ _).alloc (Nat.le_refl _) _) c3); have HB := Lib.hid ((HB.out.alloc HB.out.size _).trans (hb3.mono (by simp; exact Nat.le_succ_of_le HB.out.size))); clear hb3) | ((with_reducible go_at_call 25); refine (lives_c _).mono ?_; rintro e w3 ⟨rfl, hb3⟩; have HB := Lib.hid (HB.out.trans (hb3.mono HB.out.size)); clear hb3))
    go_ret
    exact yesEnd rfl HB.out

set_option maxRecDepth 100000 in
set_option maxHeartbeats 6400000 in
/-- What fits answers true. -/
theorem tail_comp {w : World} {A : Option Addr} {S : SetP} (hS : SetOK w A S) (cap : Nat) (hc : S.flags.length ≤ cap) {va vb : Value} {L M : List Txt} (hva : TextIn w va (L.map mkT)) (hvb : TextIn w vb (M.map mkT))
    (h1 : fits20 (S.flags.map ofFlag) = true) (h2 : fits2 (L.map mkT) = true) (h3 : fits2 (M.map mkT) = true) (h4 : rightL (foldGT (bits BinOp.and IntKind.i64 (S.fold : Int) 1 == 1) (bits BinOp.and IntKind.i64 (S.fold : Int) 2 == 2)) [] [] S.flags = true) (h5 : wtBB [L.map mkT, M.map mkT] ≤ 1048576) :
    Calls Try.prog 9 #[setV A S cap, va, vb] w (YesEnd w) := by
  have hwt : wt L + wt M ≤ 1048576 := by
    simp only [wtBB, wt_map] at h5; omega
  have hls : ∀ t ∈ L ++ [45, 45] :: M, t.length ≤ 2147483600 := by
    intro t ht
    have hm : ∀ (X : List Txt) (t : Txt), t ∈ X → t.length ≤ wt X := fun X t h => by
      have := wtB_mem (List.mem_map_of_mem (f := mkT) h)
      rw [wt_map, mkT_size] at this; omega
    rcases List.mem_append.1 ht with h | h
    · have := hm L t h; omega
    · rcases List.mem_cons.1 h with h | h
      · subst h; decide
      · have := hm M t h; omega
  have hl1 : ∀ t ∈ L, t.length ≤ 2147483600 := fun t h => hls t (List.mem_append_left _ h)
  have HL2 := Lib.hid hls
  have HLL : Hid (L.length ≤ 1048576 ∧ M.length ≤ 1048576 ∧ wt L ≤ 1048576 ∧ wt M ≤ 1048576) := Lib.hid (by
    have a := wt_len L
    have b := wt_len M
    omega)
  have hfl := fits20_F h1
  have H19 : Hid (∀ (W : World), Below w.heap.size w W → Calls Try.prog 14 #[.agg #[.slice A S.flags.length cap, .bool S.plain, .bool S.unknown, .int .i64 S.fold]] W fun e w' => e = .returned (.bool true) ∧ Below W.heap.size W w') := Lib.hid (fun W hb => by
    have h := zz19_c (hS.flg.below hb) (by omega) cap hc S.plain S.unknown (S.fold : Int)
    rw [h1] at h; exact h)
  have HFA : Hid (∀ (W : World), Below w.heap.size w W → Calls Try.prog 15 #[va] W fun e w' => e = .returned (.bool true) ∧ Below W.heap.size W w') := Lib.hid (fun W hb => by
    have h := zz2_c (hva.below hb)
    rw [h2] at h; exact h)
  have HFB : Hid (∀ (W : World), Below w.heap.size w W → Calls Try.prog 15 #[vb] W fun e w' => e = .returned (.bool true) ∧ Below W.heap.size W w') := Lib.hid (fun W hb => by
    have h := zz2_c (hvb.below hb)
    rw [h3] at h; exact h)
  have HRT : Hid (∀ (W : World), Below w.heap.size w W → Calls Try.prog 16 #[.agg #[.slice A S.flags.length cap, .bool S.plain, .bool S.unknown, .int .i64 S.fold]] W fun e w' => e = .returned (.bool true) ∧ Below W.heap.size W w') := Lib.hid (fun W hb => by
    have h := right_any S.flags A cap S.plain S.unknown (S.fold : Int) _ _ rfl rfl W (hS.flg.below hb) hfl.1 hfl.2
    have hf := hS.right.fold
    rw [h4, decide_eq_true (by omega)] at h; exact h)
  have HFT : ∀ xs ∈ [L.map mkT, M.map mkT], fits2 xs = true := (fun xs hx => by
    simp only [List.mem_cons, List.not_mem_nil, or_false] at hx
    rcases hx with rfl | rfl
    · exact h2
    · exact h3)
  have HPC : Hid (∀ (W : World) (hb : Below w.heap.size w W) (v : Value) (M : List Txt) (hv : TextIn W v (M.map mkT)) (hwt : wt M ≤ 1099511627776) (hls : ∀ t ∈ M, t.length ≤ 2147483600), Calls Try.prog 26 #[.agg #[.slice A S.flags.length cap, .bool S.plain, .bool S.unknown, .int .i64 S.fold], v] W fun e w' => ∃ u, e = .returned u ∧ HeardOwn w' (psOf none true (goes S none st0 M)) (goes S none st0 M).err S.flags.length u ∧ Below W.heap.size W w') := Lib.hid (fun W hb v M hv hwt hls => parse_c (hS.below hb) cap hv hwt hls)
  have HCY : Hid (CompX S L → ∀ (W : World), Below w.heap.size w W → Calls Try.prog 33 #[.agg #[.slice A S.flags.length cap, .bool S.plain, .bool S.unknown, .int .i64 S.fold], va] W fun e w' => e = .returned (.bool true) ∧ Below W.heap.size W w') := Lib.hid (fun hcx W hb => complete_yes (hS.below hb) cap (hva.below hb) (by omega) hl1 hcx)
  have HCN : Hid (¬ CompX S L → ∀ (W : World), Below w.heap.size w W → Calls Try.prog 33 #[.agg #[.slice A S.flags.length cap, .bool S.plain, .bool S.unknown, .int .i64 S.fold], va] W fun e w' => e = .returned (.bool false) ∧ Below W.heap.size W w') := Lib.hid (fun hcx W hb => complete_no (hS.below hb) cap (hva.below hb) (by omega) hl1 hcx)
  unfold setV
  have HVA := Lib.hid hva
  have HVB := Lib.hid hvb
  obtain ⟨va0, van, vac, hvae⟩ := hva.slice
  obtain ⟨vb0, vbn, vbc, hvbe⟩ := hvb.slice
  clear hva hvb
  subst hvae
  subst hvbe
  have HF14 := Lib.hid (fun (W : World) (hb : Below w.heap.size w W) => fit14_s hb HVA.out HVB.out HFT (decide_eq_true h5))
  clear hS h1 h2 h3 h4 h5 HFT hfl hl1 hls hwt
  by_cases hcx : CompX S L
  case neg =>
    have HCP := Lib.hid (HCN.out hcx)
    clear HCN HCY hcx
    go_enter Try.func9, Try.ntmps9
    go_upto_region 1 with fail
    generalize hWX : w.alloc _ = WX
    have HB : Hid (Below w.heap.size w WX) := Lib.hid (by rw [← hWX]; exact (Below.refl _ _).alloc (Nat.le_refl _) _)
    have q3 : WX.heap[w.heap.size]? = some (.cells #[.slice A S.flags.length cap, .bool S.plain, .bool S.unknown, .int .i64 S.fold] 24 (0, 0)) := by rw [← hWX]; exact heap_alloc_new w _
    clear hWX
    have c0 : WX.cell? ⟨w.heap.size, 0, none⟩ = some (.slice A S.flags.length cap) := (cell_blk q3 0).trans rfl
    have c1 : WX.cell? ⟨w.heap.size, 1, none⟩ = some (.bool S.plain) := (cell_blk q3 1).trans rfl
    have c2 : WX.cell? ⟨w.heap.size, 2, none⟩ = some (.bool S.unknown) := (cell_blk q3 2).trans rfl
    have c3 : WX.cell? ⟨w.heap.size, 3, none⟩ = some (.int .i64 S.fold) := (cell_blk q3 3).trans rfl
    go_wp2_with (first | ((with_reducible go_at_call 14); (with_reducible refine Calls.mono (H19.out _ HB.out) ?_); rintro e w3 ⟨rfl, hb3⟩; have q3 := block_kept q3 hb3; have c0 := cell_kept hb3 c0; have c1 := cell_kept hb3 c1; have c2 := cell_kept hb3 c2; have c3 := cell_kept hb3 c3; have HB := Lib.hid (HB.out.trans (hb3.mono HB.out.size)); clear hb3) | ((with_reducible go_at_call 15); (with_reducible refine Calls.mono (HFA.out _ HB.out) ?_); rintro e w3 ⟨rfl, hb3⟩; have q3 := block_kept q3 hb3; have c0 := cell_kept hb3 c0; have c1 := cell_kept hb3 c1; have c2 := cell_kept hb3 c2; have c3 := cell_kept hb3 c3; have HB := Lib.hid (HB.out.trans (hb3.mono HB.out.size)); clear hb3) | ((with_reducible go_at_call 15); (with_reducible refine Calls.mono (HFB.out _ HB.out) ?_); rintro e w3 ⟨rfl, hb3⟩; have q3 := block_kept q3 hb3; have c0 := cell_kept hb3 c0; have c1 := cell_kept hb3 c1; have c2 := cell_kept hb3 c2; have c3 := cell_kept hb3 c3; have HB := Lib.hid (HB.out.trans (hb3.mono HB.out.size)); clear hb3) | ((with_reducible go_at_call 16); (with_reducible refine Calls.mono (HRT.out _ HB.out) ?_); rintro e w3 ⟨rfl, hb3⟩; have q3 := block_kept q3 hb3; have c0 := cell_kept hb3 c0; have c1 := cell_kept hb3 c1; have c2 := cell_kept hb3 c2; have c3 := cell_kept hb3 c3; have HB := Lib.hid (HB.out.trans (hb3.mono HB.out.size)); clear hb3) | ((with_reducible go_at_call 17); (with_reducible refine Calls.mono (HF14.out _ HB.out) ?_); rintro e w3 ⟨rfl, hb3⟩; have q3 := block_kept (block_kept q3 ((Below.refl _ _).alloc (Nat.le_refl _) _)) hb3; have c0 := cell_kept hb3 (cell_kept ((Below.refl _ _).alloc (Nat.le_refl _) _) c0); have c1 := cell_kept hb3 (cell_kept ((Below.refl _ _).alloc (Nat.le_refl _) _) c1); have c2 := cell_kept hb3 (cell_kept ((Below.refl _ _).alloc (Nat.le_refl _) _) c2); have c3 := cell_kept hb3 (cell_kept ((Below.refl _ _).alloc (Nat.le_refl _) _) c3); have HB := Lib.hid ((HB.out.alloc HB.out.size _).trans (hb3.mono (by simp; exact Nat.le_succ_of_le HB.out.size))); clear hb3) | ((with_reducible go_at_call 33); (with_reducible refine Calls.mono (HCP.out _ HB.out) ?_); rintro e w3 ⟨rfl, hb3⟩; have q3 := block_kept q3 hb3; have c0 := cell_kept hb3 c0; have c1 := cell_kept hb3 c1; have c2 := cell_kept hb3 c2; have c3 := cell_kept hb3 c3; have HB := Lib.hid (HB.out.trans (hb3.mono HB.out.size)); clear hb3) | ((with_reducible go_at_call 25); refine (lives_c _).mono ?_; rintro e w3 ⟨rfl, hb3⟩; have HB := Lib.hid (HB.out.trans (hb3.mono HB.out.size)); clear hb3))
    go_ret
    exact yesEnd rfl HB.out
  case pos =>
    have HCP := Lib.hid (HCY.out hcx)
    have hEr := hcx.err
    have hApp := (hcx.comp.app ([45, 45] :: M)).trans (law_tail _ M)
    clear HCN HCY hcx
    have HER := Lib.hid hEr
    have HAP := Lib.hid hApp
    clear hEr hApp
    go_enter Try.func9, Try.ntmps9
    go_upto_region 1 with fail
    generalize hWX : w.alloc _ = WX
    have HB : Hid (Below w.heap.size w WX) := Lib.hid (by rw [← hWX]; exact (Below.refl _ _).alloc (Nat.le_refl _) _)
    have q3 : WX.heap[w.heap.size]? = some (.cells #[.slice A S.flags.length cap, .bool S.plain, .bool S.unknown, .int .i64 S.fold] 24 (0, 0)) := by rw [← hWX]; exact heap_alloc_new w _
    clear hWX
    have c0 : WX.cell? ⟨w.heap.size, 0, none⟩ = some (.slice A S.flags.length cap) := (cell_blk q3 0).trans rfl
    have c1 : WX.cell? ⟨w.heap.size, 1, none⟩ = some (.bool S.plain) := (cell_blk q3 1).trans rfl
    have c2 : WX.cell? ⟨w.heap.size, 2, none⟩ = some (.bool S.unknown) := (cell_blk q3 2).trans rfl
    have c3 : WX.cell? ⟨w.heap.size, 3, none⟩ = some (.int .i64 S.fold) := (cell_blk q3 3).trans rfl
    go_upto_region 5 with (first | ((with_reducible go_at_call 14); (with_reducible refine Calls.mono (H19.out _ HB.out) ?_); rintro e w3 ⟨rfl, hb3⟩; have q3 := block_kept q3 hb3; have c0 := cell_kept hb3 c0; have c1 := cell_kept hb3 c1; have c2 := cell_kept hb3 c2; have c3 := cell_kept hb3 c3; have HB := Lib.hid (HB.out.trans (hb3.mono HB.out.size)); clear hb3) | ((with_reducible go_at_call 15); (with_reducible refine Calls.mono (HFA.out _ HB.out) ?_); rintro e w3 ⟨rfl, hb3⟩; have q3 := block_kept q3 hb3; have c0 := cell_kept hb3 c0; have c1 := cell_kept hb3 c1; have c2 := cell_kept hb3 c2; have c3 := cell_kept hb3 c3; have HB := Lib.hid (HB.out.trans (hb3.mono HB.out.size)); clear hb3) | ((with_reducible go_at_call 15); (with_reducible refine Calls.mono (HFB.out _ HB.out) ?_); rintro e w3 ⟨rfl, hb3⟩; have q3 := block_kept q3 hb3; have c0 := cell_kept hb3 c0; have c1 := cell_kept hb3 c1; have c2 := cell_kept hb3 c2; have c3 := cell_kept hb3 c3; have HB := Lib.hid (HB.out.trans (hb3.mono HB.out.size)); clear hb3) | ((with_reducible go_at_call 16); (with_reducible refine Calls.mono (HRT.out _ HB.out) ?_); rintro e w3 ⟨rfl, hb3⟩; have q3 := block_kept q3 hb3; have c0 := cell_kept hb3 c0; have c1 := cell_kept hb3 c1; have c2 := cell_kept hb3 c2; have c3 := cell_kept hb3 c3; have HB := Lib.hid (HB.out.trans (hb3.mono HB.out.size)); clear hb3) | ((with_reducible go_at_call 17); (with_reducible refine Calls.mono (HF14.out _ HB.out) ?_); rintro e w3 ⟨rfl, hb3⟩; have q3 := block_kept (block_kept q3 ((Below.refl _ _).alloc (Nat.le_refl _) _)) hb3; have c0 := cell_kept hb3 (cell_kept ((Below.refl _ _).alloc (Nat.le_refl _) _) c0); have c1 := cell_kept hb3 (cell_kept ((Below.refl _ _).alloc (Nat.le_refl _) _) c1); have c2 := cell_kept hb3 (cell_kept ((Below.refl _ _).alloc (Nat.le_refl _) _) c2); have c3 := cell_kept hb3 (cell_kept ((Below.refl _ _).alloc (Nat.le_refl _) _) c3); have HB := Lib.hid ((HB.out.alloc HB.out.size _).trans (hb3.mono (by simp; exact Nat.le_succ_of_le HB.out.size))); clear hb3) | ((with_reducible go_at_call 33); (with_reducible refine Calls.mono (HCP.out _ HB.out) ?_); rintro e w3 ⟨rfl, hb3⟩; have q3 := block_kept q3 hb3; have c0 := cell_kept hb3 c0; have c1 := cell_kept hb3 c1; have c2 := cell_kept hb3 c2; have c3 := cell_kept hb3 c3; have HB := Lib.hid (HB.out.trans (hb3.mono HB.out.size)); clear hb3) | ((with_reducible go_at_call 25); refine (lives_c _).mono ?_; rintro e w3 ⟨rfl, hb3⟩; have HB := Lib.hid (HB.out.trans (hb3.mono HB.out.size)); clear hb3))
    have hbx := HB.out
    have hw1 : wt L ≤ 1099511627776 := by have := HLL.out; omega
    have hl1 : ∀ t ∈ L, t.length ≤ 2147483600 := fun t h => HL2.out t (List.mem_append_left _ h)
    have hw2 : wt (L ++ [45, 45] :: M) ≤ 1099511627776 := by
      rw [wt_app]
      have e : wt ([45, 45] :: M) = 2 + 1 + wt M := rfl
      have := HLL.out; omega
    have hl2 := HL2.out
    have hflat : [L.map mkT, [mkT [45, 45]], M.map mkT].flatten.length < 8796093022208 := by
      have := HLL.out
      simp; omega
    clear c0 c1 c2 c3
    refine region_inv (by kernel_rfl) (fun u v => Below u.heap.size u v) (T5 (.agg #[.slice A S.flags.length cap, .bool S.plain, .bool S.unknown, .int .i64 S.fold]) (.slice va0 van vac) (.slice vb0 vbn vbc) w3.heap.size S L M) (fun i => decide (i = 10) || decide (i = 11)) (fun i => [39, 40, 41, 42, 43, 44, 45, 46, 47, 48, 7, 8].getD i 0) 12
      (Below.refl _ _) (fun _ _ _ h k => below_step h k) (fun i hi v u u' h hb => T5.below hi h hb) ?_ (hgd_none (by kernel_rfl)) (by kernel_rfl) (by kernel_rfl) (by kernel_rfl) (by kernel_rfl) ?_ ?_
    · intro i hi hA v u h
      have hA2 : i = 10 ∨ i = 11 := by simpa using hA
      rcases hA2 with rfl | rfl
      · obtain ⟨g, rfl, _, h⟩ := h; exact in_of h
      · obtain ⟨g, rfl, _, h⟩ := h; exact in_of h
    · intro i hi o ho a u hG hk hd
      have hG9 : Below w3.heap.size w3 u := ((Below.refl _ _).drew).trans hG
      match i, hi with
      | 0, _ =>
        simp only [List.getElem?_toArray, List.getElem?_cons_zero, List.getElem?_cons_succ, Option.some.injEq] at ho
        subst ho
        exact ow_load_set rfl ((hk 3 (by decide)).trans rfl) (block_kept q3 hG9) ⟨_, rfl, rfl, Below.refl _ _, fun h => by cases h⟩
      | 1, _ =>
        simp only [List.getElem?_toArray, List.getElem?_cons_zero, List.getElem?_cons_succ, Option.some.injEq] at ho
        subst ho
        exact ow_move rfl ((hk 1 (by decide)).trans rfl) ⟨_, rfl, rfl, Below.refl _ _, fun h => by cases h⟩
      | 2, _ =>
        simp only [List.getElem?_toArray, List.getElem?_cons_zero, List.getElem?_cons_succ, Option.some.injEq] at ho
        subst ho
        have h40 : a.eval (.tmp 40) = .slice va0 van vac := hd 1 (by kernel_rfl) (by decide)
        have h39 : a.eval (.tmp 39) = .agg #[.slice A S.flags.length cap, .bool S.plain, .bool S.unknown, .int .i64 S.fold] := hd 0 (by kernel_rfl) (by decide)
        have h40 : TextIn u (a.eval (.tmp 40)) (L.map mkT) := (by rw [h40]; exact HVA.out.below (hbx.trans (hG9.mono hbx.size)))
        refine ow_call #[.tmp 39, .tmp 40] #[24, 25] 26 Try.func26 (by kernel_rfl) (by rfl) rfl #[.agg #[.slice A S.flags.length cap, .bool S.plain, .bool S.unknown, .int .i64 S.fold], a.eval (.tmp 40)] (by simp only [List.map_toArray, List.map_cons, List.map_nil, h39]) (HPC.out u (hbx.trans (hG9.mono hbx.size)) _ _ h40 hw1 hl1) ?_
        rintro e u2 ⟨v, rfl, hv2, hb2⟩
        exact ⟨v, rfl, _, rfl, hv2, hb2, fun h => by cases h⟩
      | 3, _ =>
        simp only [List.getElem?_toArray, List.getElem?_cons_zero, List.getElem?_cons_succ, Option.some.injEq] at ho
        subst ho
        exact ow_load_set rfl ((hk 3 (by decide)).trans rfl) (block_kept q3 hG9) ⟨_, rfl, rfl, Below.refl _ _, fun h => by cases h⟩
      | 4, _ =>
        simp only [List.getElem?_toArray, List.getElem?_cons_zero, List.getElem?_cons_succ, Option.some.injEq] at ho
        subst ho
        exact ow_move rfl ((hk 1 (by decide)).trans rfl) ⟨_, rfl, rfl, Below.refl _ _, fun h => by cases h⟩
      | 5, _ =>
        simp only [List.getElem?_toArray, List.getElem?_cons_zero, List.getElem?_cons_succ, Option.some.injEq] at ho
        subst ho
        exact ow_build1 (s := mkT [45, 45]) (v := .nilIface) rfl rfl ⟨_, rfl, ⟨_, rfl, heap_alloc_new _ _⟩, (Below.refl _ _).alloc (Nat.le_refl _) _, fun h => by cases h⟩
      | 6, _ =>
        simp only [List.getElem?_toArray, List.getElem?_cons_zero, List.getElem?_cons_succ, Option.some.injEq] at ho
        subst ho
        exact ow_move rfl ((hk 2 (by decide)).trans rfl) ⟨_, rfl, rfl, Below.refl _ _, fun h => by cases h⟩
      | 7, _ =>
        simp only [List.getElem?_toArray, List.getElem?_cons_zero, List.getElem?_cons_succ, Option.some.injEq] at ho
        subst ho
        have h43 : a.eval (.tmp 43) = .slice va0 van vac := hd 4 (by kernel_rfl) (by decide)
        obtain ⟨g, h44, hg⟩ := hd 5 (by kernel_rfl) (by decide)
        have h45 : a.eval (.tmp 45) = .slice vb0 vbn vbc := hd 6 (by kernel_rfl) (by decide)
        exact ow_rows3 rfl h43 h44 h45 ⟨_, rfl, ⟨_, _, rfl, rows3 (heap_alloc_new _ _) ((HVA.out.below (hbx.trans (hG9.mono hbx.size))).below ((Below.refl _ _).alloc (Nat.le_refl _) _)) ((one_text hg).below ((Below.refl _ _).alloc (Nat.le_refl _) _)) ((HVB.out.below (hbx.trans (hG9.mono hbx.size))).below ((Below.refl _ _).alloc (Nat.le_refl _) _))⟩, (Below.refl _ _).alloc (Nat.le_refl _) _, fun h => by cases h⟩
      | 8, _ =>
        simp only [List.getElem?_toArray, List.getElem?_cons_zero, List.getElem?_cons_succ, Option.some.injEq] at ho
        subst ho
        obtain ⟨g, vs, h46', hr⟩ := hd 7 (by kernel_rfl) (by decide)
        have h46 : a.eval (.tmp 46) = .slice (some ⟨g, 0, none⟩) 3 3 := h46'
        have hl14 : Calls Try.prog 27 #[.slice (some ⟨g, 0, none⟩) 3 3] u _ := list14_c (ls := [L.map mkT, [mkT [45, 45]], M.map mkT]) hr (by (show 3 ≤ 2147483647; decide)) (Nat.le_refl 3) hflat
        refine ow_call #[.tmp 46] #[68] 27 Try.func27 (by kernel_rfl) (by rfl) rfl #[.slice (some ⟨g, 0, none⟩) 3 3] (by simp only [List.map_toArray, List.map_cons, List.map_nil, h46]) hl14 ?_
        rintro e u2 ⟨v, rfl, hv2, hb2⟩
        refine ⟨v, rfl, _, rfl, ?_, hb2, fun h => by cases h⟩
        show TextIn u2 v ((L ++ [45, 45] :: M).map mkT)
        rw [map_mid]
        simpa using hv2
      | 9, _ =>
        simp only [List.getElem?_toArray, List.getElem?_cons_zero, List.getElem?_cons_succ, Option.some.injEq] at ho
        subst ho
        have h42 : a.eval (.tmp 42) = .agg #[.slice A S.flags.length cap, .bool S.plain, .bool S.unknown, .int .i64 S.fold] := hd 3 (by kernel_rfl) (by decide)
        have h47 : TextIn u (a.eval (.tmp 47)) ((L ++ [45, 45] :: M).map mkT) := hd 8 (by kernel_rfl) (by decide)
        refine ow_call #[.tmp 42, .tmp 47] #[24, 25] 26 Try.func26 (by kernel_rfl) (by rfl) rfl #[.agg #[.slice A S.flags.length cap, .bool S.plain, .bool S.unknown, .int .i64 S.fold], a.eval (.tmp 47)] (by simp only [List.map_toArray, List.map_cons, List.map_nil, h42]) (HPC.out u (hbx.trans (hG9.mono hbx.size)) _ _ h47 hw2 hl2) ?_
        rintro e u2 ⟨v, rfl, hv2, hb2⟩
        exact ⟨v, rfl, _, rfl, hv2, hb2, fun h => by cases h⟩
      | 10, _ =>
        simp only [List.getElem?_toArray, List.getElem?_cons_zero, List.getElem?_cons_succ, Option.some.injEq] at ho
        subst ho
        exact ow_alloc_hd rfl ⟨_, rfl, ⟨_, rfl, hG9.size, heap_alloc_new _ _⟩, (Below.refl _ _).alloc (Nat.le_refl _) _, fun _ => not_in⟩
      | 11, _ =>
        simp only [List.getElem?_toArray, List.getElem?_cons_zero, List.getElem?_cons_succ, Option.some.injEq] at ho
        subst ho
        exact ow_alloc_hd rfl ⟨_, rfl, ⟨_, rfl, hG9.size, heap_alloc_new _ _⟩, (Below.refl _ _).alloc (Nat.le_refl _) _, fun _ => not_in⟩
    · intro x u hG hx hdif
      have hG9 : Below w3.heap.size w3 u := ((Below.refl _ _).drew).trans hG
      obtain ⟨g7, e7, hB7, hg7⟩ := hx 10 (by decide)
      obtain ⟨g8, e8, hB8, hg8⟩ := hx 11 (by decide)
      have hne : g8 ≠ g7 := fun e => hdif 10 11 (by decide) (by decide) (by decide) rfl rfl (by rw [e7, e8, e])
      obtain ⟨ga, gc, ta, tc, ca, cc, e41, hrow1⟩ := hx 2 (by decide)
      have h9 := hx 9 (by decide)
      have h9 : HeardOwn u (psOf none true (goes S none st0 (L ++ [45, 45] :: M))) (goes S none st0 (L ++ [45, 45] :: M)).err S.flags.length (x 9) := h9
      rw [HAP.out] at h9
      have hlA := goes_len S none st0 L
      have hEr := HER.out
      generalize hst : goes S none st0 L = st at e41 hrow1 h9 hlA hEr
      have hlA : st.given.length ≤ 0 + wt L ∧ st.args.length ≤ 0 + L.length := hlA
      clear hst
      obtain ⟨ga2, gc2, ta2, tc2, ca2, cc2, e48, hrow2⟩ := h9
      simp only [putAll, Act.put, List.getD_cons_zero, List.getD_cons_succ, List.setIfInBounds_toArray, List.set_cons_succ, List.set_cons_zero]
      refine wpAny_next (i := 12) (by kernel_rfl) rfl rfl ?_
      refine ow_store_hd (s := psOf none true st) (er := st.err) (n := S.flags.length) rfl rfl e7 e41 hg7 ?_
      have hU7 := hdPut_blk (psOf none true st) st.err S.flags.length (.slice ga (psOf none true st).G.length gc) (.slice ta (psOf none true st).A.length tc) (.slice ca (chL (psOf none true st).chg S.flags.length).length cc) hg7
      have hU8 := (hdPut_other (psOf none true st) st.err (.slice ga (psOf none true st).G.length gc) (.slice ta (psOf none true st).A.length tc) (.slice ca (chL (psOf none true st).chg S.flags.length).length cc) (w := u) hne).trans hg8
      have hrow1 := hrow1.put (t := psOf none true st) (er := st.err) (G' := .slice ga (psOf none true st).G.length gc) (A' := .slice ta (psOf none true st).A.length tc) (C' := .slice ca (chL (psOf none true st).chg S.flags.length).length cc) hg7
      have hrow2 := hrow2.put (t := psOf none true st) (er := st.err) (G' := .slice ga (psOf none true st).G.length gc) (A' := .slice ta (psOf none true st).A.length tc) (C' := .slice ca (chL (psOf none true st).chg S.flags.length).length cc) hg7
      have hbU : Below w3.heap.size w3 (hdPut u g7 (psOf none true st) st.err (.slice ga (psOf none true st).G.length gc) (.slice ta (psOf none true st).A.length tc) (.slice ca (chL (psOf none true st).chg S.flags.length).length cc)) := hdPut_below _ _ _ _ _ hG9 hB7
      generalize hdPut u g7 (psOf none true st) st.err (.slice ga (psOf none true st).G.length gc) (.slice ta (psOf none true st).A.length tc) (.slice ca (chL (psOf none true st).chg S.flags.length).length cc) = U1 at hU7 hU8 hrow1 hrow2 hbU ⊢
      refine wpAny_last (i := 13) (by kernel_rfl) rfl rfl (by kernel_rfl) ?_
      generalize hs2 : psOf none true { st with dash := (st.args.length : Int), args := st.args ++ M } = s2 at hrow2 e48
      refine ow_store_hd (s := s2) (er := st.err) (n := S.flags.length) rfl rfl e8 e48 hU8 ?_
      rw [e7, e8]
      have hV8 := hdPut_blk s2 st.err S.flags.length (.slice ga2 s2.G.length gc2) (.slice ta2 s2.A.length tc2) (.slice ca2 (chL s2.chg S.flags.length).length cc2) hU8
      have hV7 := (hdPut_other s2 st.err (.slice ga2 s2.G.length gc2) (.slice ta2 s2.A.length tc2) (.slice ca2 (chL s2.chg S.flags.length).length cc2) (w := U1) (Ne.symm hne)).trans hU7
      have hrow1 := hrow1.put (t := s2) (er := st.err) (G' := .slice ga2 s2.G.length gc2) (A' := .slice ta2 s2.A.length tc2) (C' := .slice ca2 (chL s2.chg S.flags.length).length cc2) hU8
      have hrow2 := hrow2.put (t := s2) (er := st.err) (G' := .slice ga2 s2.G.length gc2) (A' := .slice ta2 s2.A.length tc2) (C' := .slice ca2 (chL s2.chg S.flags.length).length cc2) hU8
      have hbU : Below w3.heap.size w3 (hdPut U1 g8 s2 st.err (.slice ga2 s2.G.length gc2) (.slice ta2 s2.A.length tc2) (.slice ca2 (chL s2.chg S.flags.length).length cc2)) := hdPut_below _ _ _ _ _ hbU hB8
      generalize hdPut U1 g8 s2 st.err (.slice ga2 s2.G.length gc2) (.slice ta2 s2.A.length tc2) (.slice ca2 (chL s2.chg S.flags.length).length cc2) = U at hV7 hV8 hrow1 hrow2 hbU ⊢
      subst hs2
      have y75 : U.cell? ⟨g7, 5, none⟩ = some (.slice ga st.given.length gc) := (cell_blk hV7 5).trans rfl
      have y76 : U.cell? ⟨g7, 6, none⟩ = some (.slice ta st.args.length tc) := (cell_blk hV7 6).trans rfl
      have y80 : U.cell? ⟨g8, 0, none⟩ = some (.int .i64 0) := (cell_blk hV8 0).trans (by rw [hEr]; rfl)
      have y85 : U.cell? ⟨g8, 5, none⟩ = some (.slice ga2 st.given.length gc2) := (cell_blk hV8 5).trans rfl
      have y86 : U.cell? ⟨g8, 6, none⟩ = some (.slice ta2 (st.args ++ M).length tc2) := (cell_blk hV8 6).trans rfl
      have y87 : U.cell? ⟨g8, 7, none⟩ = some (.int .i64 (st.args.length : Int)) := (cell_blk hV8 7).trans rfl
      have hbwU : Below w.heap.size w U := hbx.trans (hbU.mono hbx.size)
      obtain ⟨_, r11, r12, r13, _⟩ := own_full hrow1.1
      obtain ⟨_, r21, r22, r23, _⟩ := own_full hrow2.1
      have HTA := Lib.hid ((show TextIn U (.slice ta st.args.length tc) (st.args.map mkT) from by have h := hrow1.hdIn.2.1; exact h))
      have HTB := Lib.hid ((show TextIn U (.slice ta2 (st.args ++ M).length tc2) ((st.args ++ M).map mkT) from by have h := hrow2.hdIn.2.1; exact h))
      have HVC := Lib.hid (HVB.out.below hbwU)
      have hgl : st.given.length ≤ 1099511627776 := by have := HLL.out; omega
      have HSG : Hid (∀ (W : World), Below U.heap.size U W → Calls Try.prog 34 #[.slice ga st.given.length gc, .slice ga2 st.given.length gc2] W (fun e w' => e = .returned (.bool true) ∧ Below W.heap.size W w')) := Lib.hid (fun W hb => by
        have h := sameGiven_c (G := st.given) (H := st.given) (rowAt_below r11 hb) r12 hgl (rowAt_below r21 hb) r22 hgl
        rw [decide_eq_true rfl] at h
        exact h)
      have hflat2 : [st.args.map mkT, M.map mkT].flatten.length < 8796093022208 := by
        have := HLL.out
        simp; omega
      have hmx : ((st.args ++ M).map mkT).length ≤ 9223372036854775806 := by
        have := HLL.out
        simp; omega
      clear hrow1 hrow2 r11 r12 r13 r21 r22 r23 hV7 hV8 hU7 hU8 hg7 hg8 e41 e48 e7 e8 hdif hx
      go_upto_region 6 with fail
      refine region_inv (by kernel_rfl) (fun u v => Below u.heap.size u v) (T6 g7 g8 (st.args.length : Int) (.slice ga st.given.length gc) (.slice ga2 st.given.length gc2) (.slice ta st.args.length tc) (.slice vb0 vbn vbc) (.slice ta2 (st.args ++ M).length tc2) st.args M) (fun i => false) (fun i => [49, 50, 51, 52, 53, 54, 55, 56, 57, 58, 59, 60, 61, 62, 63, 64, 65, 66, 67, 68, 69, 70, 71, 72, 73, 74, 75, 76, 77, 78, 79, 6].getD i 0) 32
        (Below.refl _ _) (fun _ _ _ h k => below_step h k) (fun i hi v u u' h hb => T6.below hi h hb) ?_ ?_ (by kernel_rfl) (by kernel_rfl) (by kernel_rfl) (by kernel_rfl) ?_ ?_
      · intro i hi hA; cases hA
      · intro i hi o ho g want hg v u hR
        match i, hi with
        | 0, _ =>
          simp only [List.getElem?_toArray, List.getElem?_cons_zero, List.getElem?_cons_succ, Option.some.injEq] at ho
          subst ho
          cases hg
        | 1, _ =>
          simp only [List.getElem?_toArray, List.getElem?_cons_zero, List.getElem?_cons_succ, Option.some.injEq] at ho
          subst ho
          cases hg
        | 2, _ =>
          simp only [List.getElem?_toArray, List.getElem?_cons_zero, List.getElem?_cons_succ, Option.some.injEq] at ho
          subst ho
          cases hg
        | 3, _ =>
          simp only [List.getElem?_toArray, List.getElem?_cons_zero, List.getElem?_cons_succ, Option.some.injEq] at ho
          subst ho
          cases hg
        | 4, _ =>
          simp only [List.getElem?_toArray, List.getElem?_cons_zero, List.getElem?_cons_succ, Option.some.injEq] at ho
          subst ho
          cases hg; exact hR
        | 5, _ =>
          simp only [List.getElem?_toArray, List.getElem?_cons_zero, List.getElem?_cons_succ, Option.some.injEq] at ho
          subst ho
          cases hg; exact hR
        | 6, _ =>
          simp only [List.getElem?_toArray, List.getElem?_cons_zero, List.getElem?_cons_succ, Option.some.injEq] at ho
          subst ho
          cases hg; exact hR
        | 7, _ =>
          simp only [List.getElem?_toArray, List.getElem?_cons_zero, List.getElem?_cons_succ, Option.some.injEq] at ho
          subst ho
          cases hg; exact hR
        | 8, _ =>
          simp only [List.getElem?_toArray, List.getElem?_cons_zero, List.getElem?_cons_succ, Option.some.injEq] at ho
          subst ho
          cases hg; exact hR
        | 9, _ =>
          simp only [List.getElem?_toArray, List.getElem?_cons_zero, List.getElem?_cons_succ, Option.some.injEq] at ho
          subst ho
          cases hg; exact hR
        | 10, _ =>
          simp only [List.getElem?_toArray, List.getElem?_cons_zero, List.getElem?_cons_succ, Option.some.injEq] at ho
          subst ho
          cases hg
        | 11, _ =>
          simp only [List.getElem?_toArray, List.getElem?_cons_zero, List.getElem?_cons_succ, Option.some.injEq] at ho
          subst ho
          cases hg
        | 12, _ =>
          simp only [List.getElem?_toArray, List.getElem?_cons_zero, List.getElem?_cons_succ, Option.some.injEq] at ho
          subst ho
          cases hg; exact hR
        | 13, _ =>
          simp only [List.getElem?_toArray, List.getElem?_cons_zero, List.getElem?_cons_succ, Option.some.injEq] at ho
          subst ho
          cases hg; exact hR
        | 14, _ =>
          simp only [List.getElem?_toArray, List.getElem?_cons_zero, List.getElem?_cons_succ, Option.some.injEq] at ho
          subst ho
          cases hg; exact hR
        | 15, _ =>
          simp only [List.getElem?_toArray, List.getElem?_cons_zero, List.getElem?_cons_succ, Option.some.injEq] at ho
          subst ho
          cases hg; exact hR
        | 16, _ =>
          simp only [List.getElem?_toArray, List.getElem?_cons_zero, List.getElem?_cons_succ, Option.some.injEq] at ho
          subst ho
          cases hg; exact hR
        | 17, _ =>
          simp only [List.getElem?_toArray, List.getElem?_cons_zero, List.getElem?_cons_succ, Option.some.injEq] at ho
          subst ho
          cases hg
        | 18, _ =>
          simp only [List.getElem?_toArray, List.getElem?_cons_zero, List.getElem?_cons_succ, Option.some.injEq] at ho
          subst ho
          cases hg
        | 19, _ =>
          simp only [List.getElem?_toArray, List.getElem?_cons_zero, List.getElem?_cons_succ, Option.some.injEq] at ho
          subst ho
          cases hg; exact hR
        | 20, _ =>
          simp only [List.getElem?_toArray, List.getElem?_cons_zero, List.getElem?_cons_succ, Option.some.injEq] at ho
          subst ho
          cases hg; exact hR
        | 21, _ =>
          simp only [List.getElem?_toArray, List.getElem?_cons_zero, List.getElem?_cons_succ, Option.some.injEq] at ho
          subst ho
          cases hg; exact hR
        | 22, _ =>
          simp only [List.getElem?_toArray, List.getElem?_cons_zero, List.getElem?_cons_succ, Option.some.injEq] at ho
          subst ho
          cases hg; exact hR
        | 23, _ =>
          simp only [List.getElem?_toArray, List.getElem?_cons_zero, List.getElem?_cons_succ, Option.some.injEq] at ho
          subst ho
          cases hg; exact hR
        | 24, _ =>
          simp only [List.getElem?_toArray, List.getElem?_cons_zero, List.getElem?_cons_succ, Option.some.injEq] at ho
          subst ho
          cases hg; exact hR
        | 25, _ =>
          simp only [List.getElem?_toArray, List.getElem?_cons_zero, List.getElem?_cons_succ, Option.some.injEq] at ho
          subst ho
          cases hg; exact hR
        | 26, _ =>
          simp only [List.getElem?_toArray, List.getElem?_cons_zero, List.getElem?_cons_succ, Option.some.injEq] at ho
          subst ho
          cases hg; exact hR
        | 27, _ =>
          simp only [List.getElem?_toArray, List.getElem?_cons_zero, List.getElem?_cons_succ, Option.some.injEq] at ho
          subst ho
          cases hg
        | 28, _ =>
          simp only [List.getElem?_toArray, List.getElem?_cons_zero, List.getElem?_cons_succ, Option.some.injEq] at ho
          subst ho
          cases hg
        | 29, _ =>
          simp only [List.getElem?_toArray, List.getElem?_cons_zero, List.getElem?_cons_succ, Option.some.injEq] at ho
          subst ho
          cases hg; exact hR
        | 30, _ =>
          simp only [List.getElem?_toArray, List.getElem?_cons_zero, List.getElem?_cons_succ, Option.some.injEq] at ho
          subst ho
          cases hg
        | 31, _ =>
          simp only [List.getElem?_toArray, List.getElem?_cons_zero, List.getElem?_cons_succ, Option.some.injEq] at ho
          subst ho
          cases hg
        | k + 32, hi => exact absurd hi (by omega)
      · intro i hi o ho a u hG hk hd
        have hG9 : Below U.heap.size U u := ((Below.refl _ _).drew).trans hG
        match i, hi with
        | 0, _ =>
          simp only [List.getElem?_toArray, List.getElem?_cons_zero, List.getElem?_cons_succ, Option.some.injEq] at ho
          subst ho
          exact ow_field_hd (i := 0) (by decide) rfl ((hk 8 (by decide)).trans rfl) ⟨_, rfl, rfl, Below.refl _ _, fun h => by cases h⟩
        | 1, _ =>
          simp only [List.getElem?_toArray, List.getElem?_cons_zero, List.getElem?_cons_succ, Option.some.injEq] at ho
          subst ho
          have e49 : a.eval (.tmp 49) = .pointer (some ⟨g8, 0, none⟩) := hd 0 (by kernel_rfl) (by decide)
          exact ow_load_int rfl e49 (cell_kept hG9 y80) ⟨_, rfl, rfl, Below.refl _ _, fun h => by cases h⟩
        | 2, _ =>
          simp only [List.getElem?_toArray, List.getElem?_cons_zero, List.getElem?_cons_succ, Option.some.injEq] at ho
          subst ho
          have e50 : a.eval (.tmp 50) = .int .i64 0 := hd 1 (by kernel_rfl) (by decide)
          exact ow_eql_int rfl e50 rfl ⟨_, rfl, rfl, Below.refl _ _, fun h => by cases h⟩
        | 3, _ =>
          simp only [List.getElem?_toArray, List.getElem?_cons_zero, List.getElem?_cons_succ, Option.some.injEq] at ho
          subst ho
          have e51 : a.eval (.tmp 51) = .bool true := hd 2 (by kernel_rfl) (by decide)
          exact ow_move rfl e51 ⟨_, rfl, rfl, Below.refl _ _, fun h => by cases h⟩
        | 4, _ =>
          simp only [List.getElem?_toArray, List.getElem?_cons_zero, List.getElem?_cons_succ, Option.some.injEq] at ho
          subst ho
          exact ow_field_hd (i := 7) (by decide) rfl ((hk 8 (by decide)).trans rfl) ⟨_, rfl, rfl, Below.refl _ _, fun h => by cases h⟩
        | 5, _ =>
          simp only [List.getElem?_toArray, List.getElem?_cons_zero, List.getElem?_cons_succ, Option.some.injEq] at ho
          subst ho
          have e53 : a.eval (.tmp 53) = .pointer (some ⟨g8, 7, none⟩) := hd 4 (by kernel_rfl) (by decide)
          exact ow_load_int rfl e53 (cell_kept hG9 y87) ⟨_, rfl, rfl, Below.refl _ _, fun h => by cases h⟩
        | 6, _ =>
          simp only [List.getElem?_toArray, List.getElem?_cons_zero, List.getElem?_cons_succ, Option.some.injEq] at ho
          subst ho
          exact ow_field_hd (i := 6) (by decide) rfl ((hk 7 (by decide)).trans rfl) ⟨_, rfl, rfl, Below.refl _ _, fun h => by cases h⟩
        | 7, _ =>
          simp only [List.getElem?_toArray, List.getElem?_cons_zero, List.getElem?_cons_succ, Option.some.injEq] at ho
          subst ho
          have e55 : a.eval (.tmp 55) = .pointer (some ⟨g7, 6, none⟩) := hd 6 (by kernel_rfl) (by decide)
          exact ow_load_texts rfl e55 (cell_kept hG9 y76) ⟨_, rfl, rfl, Below.refl _ _, fun h => by cases h⟩
        | 8, _ =>
          simp only [List.getElem?_toArray, List.getElem?_cons_zero, List.getElem?_cons_succ, Option.some.injEq] at ho
          subst ho
          have e56 : a.eval (.tmp 56) = .slice ta st.args.length tc := hd 7 (by kernel_rfl) (by decide)
          exact ow_len_texts rfl e56 ⟨_, rfl, rfl, Below.refl _ _, fun h => by cases h⟩
        | 9, _ =>
          simp only [List.getElem?_toArray, List.getElem?_cons_zero, List.getElem?_cons_succ, Option.some.injEq] at ho
          subst ho
          have e54 : a.eval (.tmp 54) = .int .i64 (st.args.length : Int) := hd 5 (by kernel_rfl) (by decide)
          have e57 : a.eval (.tmp 57) = .int .i64 (st.args.length : Int) := hd 8 (by kernel_rfl) (by decide)
          exact ow_eql_int rfl e54 e57 ⟨_, rfl, congrArg Value.bool (beq_self_eq_true _), Below.refl _ _, fun h => by cases h⟩
        | 10, _ =>
          simp only [List.getElem?_toArray, List.getElem?_cons_zero, List.getElem?_cons_succ, Option.some.injEq] at ho
          subst ho
          have e52 : a.eval (.tmp 52) = .bool true := hd 3 (by kernel_rfl) (by decide)
          have e58 : a.eval (.tmp 58) = .bool true := hd 9 (by kernel_rfl) (by decide)
          exact ow_pick rfl e52 e58 ⟨_, rfl, rfl, Below.refl _ _, fun h => by cases h⟩
        | 11, _ =>
          simp only [List.getElem?_toArray, List.getElem?_cons_zero, List.getElem?_cons_succ, Option.some.injEq] at ho
          subst ho
          have e59 : a.eval (.tmp 59) = .bool true := hd 10 (by kernel_rfl) (by decide)
          exact ow_move rfl e59 ⟨_, rfl, rfl, Below.refl _ _, fun h => by cases h⟩
        | 12, _ =>
          simp only [List.getElem?_toArray, List.getElem?_cons_zero, List.getElem?_cons_succ, Option.some.injEq] at ho
          subst ho
          exact ow_field_hd (i := 5) (by decide) rfl ((hk 7 (by decide)).trans rfl) ⟨_, rfl, rfl, Below.refl _ _, fun h => by cases h⟩
        | 13, _ =>
          simp only [List.getElem?_toArray, List.getElem?_cons_zero, List.getElem?_cons_succ, Option.some.injEq] at ho
          subst ho
          have e61 : a.eval (.tmp 61) = .pointer (some ⟨g7, 5, none⟩) := hd 12 (by kernel_rfl) (by decide)
          exact ow_load_given rfl e61 (cell_kept hG9 y75) ⟨_, rfl, rfl, Below.refl _ _, fun h => by cases h⟩
        | 14, _ =>
          simp only [List.getElem?_toArray, List.getElem?_cons_zero, List.getElem?_cons_succ, Option.some.injEq] at ho
          subst ho
          exact ow_field_hd (i := 5) (by decide) rfl ((hk 8 (by decide)).trans rfl) ⟨_, rfl, rfl, Below.refl _ _, fun h => by cases h⟩
        | 15, _ =>
          simp only [List.getElem?_toArray, List.getElem?_cons_zero, List.getElem?_cons_succ, Option.some.injEq] at ho
          subst ho
          have e63 : a.eval (.tmp 63) = .pointer (some ⟨g8, 5, none⟩) := hd 14 (by kernel_rfl) (by decide)
          exact ow_load_given rfl e63 (cell_kept hG9 y85) ⟨_, rfl, rfl, Below.refl _ _, fun h => by cases h⟩
        | 16, _ =>
          simp only [List.getElem?_toArray, List.getElem?_cons_zero, List.getElem?_cons_succ, Option.some.injEq] at ho
          subst ho
          have e62 : a.eval (.tmp 62) = _ := hd 13 (by kernel_rfl) (by decide)
          have e64 : a.eval (.tmp 64) = _ := hd 15 (by kernel_rfl) (by decide)
          refine ow_call #[.tmp 62, .tmp 64] #[29, 29] 34 Try.func34 (by kernel_rfl) (by rfl) rfl #[_, _] (by simp only [List.map_toArray, List.map_cons, List.map_nil, e62, e64]) (HSG.out u hG9) ?_
          rintro e u2 ⟨rfl, hb2⟩
          exact ⟨_, rfl, _, rfl, rfl, hb2, fun h => by cases h⟩
        | 17, _ =>
          simp only [List.getElem?_toArray, List.getElem?_cons_zero, List.getElem?_cons_succ, Option.some.injEq] at ho
          subst ho
          have e60 : a.eval (.tmp 60) = .bool true := hd 11 (by kernel_rfl) (by decide)
          have e65 : a.eval (.tmp 65) = .bool true := hd 16 (by kernel_rfl) (by decide)
          exact ow_pick rfl e60 e65 ⟨_, rfl, rfl, Below.refl _ _, fun h => by cases h⟩
        | 18, _ =>
          simp only [List.getElem?_toArray, List.getElem?_cons_zero, List.getElem?_cons_succ, Option.some.injEq] at ho
          subst ho
          have e66 : a.eval (.tmp 66) = .bool true := hd 17 (by kernel_rfl) (by decide)
          exact ow_move rfl e66 ⟨_, rfl, rfl, Below.refl _ _, fun h => by cases h⟩
        | 19, _ =>
          simp only [List.getElem?_toArray, List.getElem?_cons_zero, List.getElem?_cons_succ, Option.some.injEq] at ho
          subst ho
          exact ow_field_hd (i := 6) (by decide) rfl ((hk 7 (by decide)).trans rfl) ⟨_, rfl, rfl, Below.refl _ _, fun h => by cases h⟩
        | 20, _ =>
          simp only [List.getElem?_toArray, List.getElem?_cons_zero, List.getElem?_cons_succ, Option.some.injEq] at ho
          subst ho
          have e68 : a.eval (.tmp 68) = .pointer (some ⟨g7, 6, none⟩) := hd 19 (by kernel_rfl) (by decide)
          exact ow_load_texts rfl e68 (cell_kept hG9 y76) ⟨_, rfl, rfl, Below.refl _ _, fun h => by cases h⟩
        | 21, _ =>
          simp only [List.getElem?_toArray, List.getElem?_cons_zero, List.getElem?_cons_succ, Option.some.injEq] at ho
          subst ho
          exact ow_move rfl ((hk 2 (by decide)).trans rfl) ⟨_, rfl, rfl, Below.refl _ _, fun h => by cases h⟩
        | 22, _ =>
          simp only [List.getElem?_toArray, List.getElem?_cons_zero, List.getElem?_cons_succ, Option.some.injEq] at ho
          subst ho
          have e69 : a.eval (.tmp 69) = .slice ta st.args.length tc := hd 20 (by kernel_rfl) (by decide)
          have e70 : a.eval (.tmp 70) = .slice vb0 vbn vbc := hd 21 (by kernel_rfl) (by decide)
          exact ow_rows2 rfl e69 e70 ⟨_, rfl, ⟨_, _, rfl, rows2 (heap_alloc_new _ _) ((HTA.out.below hG9).below ((Below.refl _ _).alloc (Nat.le_refl _) _)) ((HVC.out.below hG9).below ((Below.refl _ _).alloc (Nat.le_refl _) _))⟩, (Below.refl _ _).alloc (Nat.le_refl _) _, fun h => by cases h⟩
        | 23, _ =>
          simp only [List.getElem?_toArray, List.getElem?_cons_zero, List.getElem?_cons_succ, Option.some.injEq] at ho
          subst ho
          obtain ⟨g, vs, e71', hr⟩ := hd 22 (by kernel_rfl) (by decide)
          have e71 : a.eval (.tmp 71) = .slice (some ⟨g, 0, none⟩) 2 2 := e71'
          have hl14 : Calls Try.prog 27 #[.slice (some ⟨g, 0, none⟩) 2 2] u _ := list14_c (ls := [st.args.map mkT, M.map mkT]) hr (by (show 2 ≤ 2147483647; decide)) (Nat.le_refl 2) hflat2
          refine ow_call #[.tmp 71] #[68] 27 Try.func27 (by kernel_rfl) (by rfl) rfl #[.slice (some ⟨g, 0, none⟩) 2 2] (by simp only [List.map_toArray, List.map_cons, List.map_nil, e71]) hl14 ?_
          rintro e u2 ⟨v, rfl, hv2, hb2⟩
          refine ⟨v, rfl, _, rfl, ?_, hb2, fun h => by cases h⟩
          show TextIn u2 v ((st.args ++ M).map mkT)
          rw [List.map_append]
          simpa using hv2
        | 24, _ =>
          simp only [List.getElem?_toArray, List.getElem?_cons_zero, List.getElem?_cons_succ, Option.some.injEq] at ho
          subst ho
          exact ow_field_hd (i := 6) (by decide) rfl ((hk 8 (by decide)).trans rfl) ⟨_, rfl, rfl, Below.refl _ _, fun h => by cases h⟩
        | 25, _ =>
          simp only [List.getElem?_toArray, List.getElem?_cons_zero, List.getElem?_cons_succ, Option.some.injEq] at ho
          subst ho
          have e73 : a.eval (.tmp 73) = .pointer (some ⟨g8, 6, none⟩) := hd 24 (by kernel_rfl) (by decide)
          exact ow_load_texts rfl e73 (cell_kept hG9 y86) ⟨_, rfl, rfl, Below.refl _ _, fun h => by cases h⟩
        | 26, _ =>
          simp only [List.getElem?_toArray, List.getElem?_cons_zero, List.getElem?_cons_succ, Option.some.injEq] at ho
          subst ho
          have e72 : TextIn u (a.eval (.tmp 72)) ((st.args ++ M).map mkT) := hd 23 (by kernel_rfl) (by decide)
          have e74 : a.eval (.tmp 74) = _ := hd 25 (by kernel_rfl) (by decide)
          refine ow_call #[.tmp 72, .tmp 74] #[25, 25] 23 Try.func23 (by kernel_rfl) (by rfl) rfl #[a.eval (.tmp 72), _] (by simp only [List.map_toArray, List.map_cons, List.map_nil, e74]) (sameTexts_c e72 (HTB.out.below hG9) hmx) ?_
          rintro e u2 ⟨rfl, hb2⟩
          exact ⟨_, rfl, _, rfl, congrArg Value.bool (decide_eq_true rfl), hb2, fun h => by cases h⟩
        | 27, _ =>
          simp only [List.getElem?_toArray, List.getElem?_cons_zero, List.getElem?_cons_succ, Option.some.injEq] at ho
          subst ho
          have e67 : a.eval (.tmp 67) = .bool true := hd 18 (by kernel_rfl) (by decide)
          have e75 : a.eval (.tmp 75) = .bool true := hd 26 (by kernel_rfl) (by decide)
          exact ow_pick rfl e67 e75 ⟨_, rfl, rfl, Below.refl _ _, fun h => by cases h⟩
        | 28, _ =>
          simp only [List.getElem?_toArray, List.getElem?_cons_zero, List.getElem?_cons_succ, Option.some.injEq] at ho
          subst ho
          have e76 : a.eval (.tmp 76) = .bool true := hd 27 (by kernel_rfl) (by decide)
          exact ow_move rfl e76 ⟨_, rfl, rfl, Below.refl _ _, fun h => by cases h⟩
        | 29, _ =>
          simp only [List.getElem?_toArray, List.getElem?_cons_zero, List.getElem?_cons_succ, Option.some.injEq] at ho
          subst ho
          refine ow_call #[] #[] 25 Try.func25 (by kernel_rfl) (by rfl) rfl #[] (by simp only [List.map_toArray, List.map_nil]) (lives_c u) ?_
          rintro e u2 ⟨rfl, hb2⟩
          exact ⟨_, rfl, _, rfl, rfl, hb2, fun h => by cases h⟩
        | 30, _ =>
          simp only [List.getElem?_toArray, List.getElem?_cons_zero, List.getElem?_cons_succ, Option.some.injEq] at ho
          subst ho
          have e77 : a.eval (.tmp 77) = .bool true := hd 28 (by kernel_rfl) (by decide)
          have e78 : a.eval (.tmp 78) = .bool true := hd 29 (by kernel_rfl) (by decide)
          exact ow_pick rfl e77 e78 ⟨_, rfl, rfl, Below.refl _ _, fun h => by cases h⟩
        | 31, _ =>
          simp only [List.getElem?_toArray, List.getElem?_cons_zero, List.getElem?_cons_succ, Option.some.injEq] at ho
          subst ho
          have e79 : a.eval (.tmp 79) = .bool true := hd 30 (by kernel_rfl) (by decide)
          exact ow_assign rfl e79 ⟨_, rfl, rfl, Below.refl _ _, fun h => by cases h⟩
        | k + 32, hi => exact absurd hi (by omega)
      · intro x u hG hx hdif
        have e31 : x 31 = _ := hx 31 (by decide)
        simp only [putAll, Act.put, List.getD_cons_zero, List.getD_cons_succ, List.setIfInBounds_toArray, List.set_cons_succ, List.set_cons_zero]
        refine wpAny_end (by kernel_rfl) ?_
        rw [e31]
        go_wp2
        go_ret
        exact yesEnd rfl (hbwU.trans ((((Below.refl _ _).drew).trans hG).mono hbwU.size))
end Go.Proofs.Ytgmhhdpggnmipaa.E
