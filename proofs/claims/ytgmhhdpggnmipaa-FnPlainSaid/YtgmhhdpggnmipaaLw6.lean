/- laws.FnPlain over this seat's program. Written by gen_lw6.py. -/
import Derived.Test.YtgmhhdpggnmipaaLw5
import Derived.Test.YtgmhhdpggnmipaaBare
namespace Go.Proofs.Ytgmhhdpggnmipaa.E
open Go.RowKit Go.Proofs
set_option linter.unusedVariables false
set_option linter.unusedSimpArgs false
theorem map_mid1 (L M : List Txt) (s : Txt) : (L ++ s :: M).map mkT = L.map mkT ++ ([mkT s] ++ M.map mkT) := by simp
section
variable {o : Oper} {a : Act} {w : World} {K : Act → World → Prop} {Q : Exit → Act → World → Prop}
theorem ow_lss_int {x y : Operand} {m n : Int} (ho : o.op = .binOp .lss 3 x y 3) (hx : a.eval x = .int .i64 m) (hy : a.eval y = .int .i64 n) (h : K (a.put o.dst (.bool (decide (m < n)))) w) : Oper.wp Try.prog o a w K Q := by
  unfold Oper.wp
  simp [execOp, ho, hx, hy]
  go_simp
  first
    | exact h
    | simpa using h
end
theorem below_two {w W w3 : World} {o o2 : Obj} (h : Below w.heap.size w W) (h3 : Below ((W.alloc o).alloc o2).heap.size ((W.alloc o).alloc o2) w3) : Below w.heap.size w w3 := by
  have h1 := (h.alloc h.size o).alloc (by simp; exact Nat.le_succ_of_le h.size) o2
  exact h1.trans (h3.mono h1.size)
theorem two_kept {W w3 : World} {o o2 : Obj} (h3 : Below ((W.alloc o).alloc o2).heap.size ((W.alloc o).alloc o2) w3) : Below W.heap.size W w3 := below_two (Below.refl _ _) h3
theorem fit14_3 {w W : World} (hb : Below w.heap.size w W) {va0 vb0 : Option Addr} {van vac vbn vbc : Nat} {xs ys : List ByteArray} {z : ByteArray} (ha : TextIn w (.slice va0 van vac) xs) (hv : TextIn w (.slice vb0 vbn vbc) ys) (hf : ∀ zs ∈ [xs, ys, [z]], fits2 zs = true) {b : Bool} (h : decide (wtBB [xs, ys, [z]] ≤ 1048576) = b) :
    Calls Try.prog 17 #[.slice (some ⟨W.heap.size + 1, 0, none⟩) 3 3] ((W.alloc (.cells #[.string z] 9)).alloc (.cells #[.slice va0 van vac, .slice vb0 vbn vbc, .slice (some ⟨W.heap.size, 0, none⟩) 1 1] 25)) fun e w' => e = .returned (.bool b) ∧ Below ((W.alloc (.cells #[.string z] 9)).alloc (.cells #[.slice va0 van vac, .slice vb0 vbn vbc, .slice (some ⟨W.heap.size, 0, none⟩) 1 1] 25)).heap.size ((W.alloc (.cells #[.string z] 9)).alloc (.cells #[.slice va0 van vac, .slice vb0 vbn vbc, .slice (some ⟨W.heap.size, 0, none⟩) 1 1] 25)) w' := by
  subst h
  have e : W.heap.size + 1 = (W.alloc (.cells #[.string z] 9)).heap.size := by simp
  rw [e]
  have hk : ∀ (V : World) (o : Obj), Below V.heap.size V (V.alloc o) := fun V o => (Below.refl _ _).alloc (Nat.le_refl _) _
  exact fits14_c (ls := [xs, ys, [z]]) (rows3 (heap_alloc_new _ _) (((ha.below hb).below (hk _ _)).below (hk _ _)) (((hv.below hb).below (hk _ _)).below (hk _ _)) ((one_text (heap_alloc_new W _)).below (hk _ _))) (by (show 3 ≤ 2147483647; decide)) (Nat.le_refl 3) hf
def P5 (sv va vb : Value) (B : Nat) (S : SetP) (L M : List Txt) (s : Txt) : Nat → Value → World → Prop
  | 0, v, _ => v = sv
  | 1, v, _ => v = va
  | 2, v, w => HeardOwn w (psOf none true (goes S none st0 L)) (goes S none st0 L).err S.flags.length v
  | 3, v, _ => v = sv
  | 4, v, _ => v = va
  | 5, v, _ => v = .string (mkT s)
  | 6, v, w => ∃ g, v = .slice (some ⟨g, 0, none⟩) 1 1 ∧ w.heap[g]? = some (.cells #[.string (mkT s)] 9 (0, 0))
  | 7, v, _ => v = vb
  | 8, v, w => ∃ g vs, v = .slice (some ⟨g, 0, none⟩) 3 3 ∧ RowsIn w g vs [L.map mkT, [mkT s], M.map mkT]
  | 9, v, w => TextIn w v ((L ++ s :: M).map mkT)
  | 10, v, w => HeardOwn w (psOf none true (goes S none st0 (L ++ s :: M))) (goes S none st0 (L ++ s :: M)).err S.flags.length v
  | 11, v, w => ∃ g, v = .pointer (some ⟨g, 0, none⟩) ∧ B ≤ g ∧ w.heap[g]? = some (.cells hdZero 32 (0, 0))
  | 12, v, w => ∃ g, v = .pointer (some ⟨g, 0, none⟩) ∧ B ≤ g ∧ w.heap[g]? = some (.cells hdZero 32 (0, 0))
  | _, _, _ => True
theorem P5.below {sv va vb : Value} {B : Nat} {S : SetP} {L M : List Txt} {s : Txt} {i : Nat} (hi : i < 13) {v : Value} {w w' : World} (h : P5 sv va vb B S L M s i v w) (hb : Below w.heap.size w w') : P5 sv va vb B S L M s i v w' := by
  match i, hi, h with
  | 0, _, h => exact h
  | 1, _, h => exact h
  | 2, _, h => exact HeardOwn.below h hb
  | 3, _, h => exact h
  | 4, _, h => exact h
  | 5, _, h => exact h
  | 6, _, h => obtain ⟨g, e, h⟩ := h; exact ⟨g, e, block_kept h hb⟩
  | 7, _, h => exact h
  | 8, _, h => obtain ⟨g, vs, e, h⟩ := h; exact ⟨g, vs, e, h.below hb⟩
  | 9, _, h => exact TextIn.below h hb
  | 10, _, h => exact HeardOwn.below h hb
  | 11, _, h => obtain ⟨g, e, hB, h⟩ := h; exact ⟨g, e, hB, block_kept h hb⟩
  | 12, _, h => obtain ⟨g, e, hB, h⟩ := h; exact ⟨g, e, hB, block_kept h hb⟩
  | k + 13, hi, _ => exact absurd hi (by omega)
def P6 (q7 q8 : Nat) (nd : Int) (A1 A2 vb A4 : Value) (s : Txt) (M : List Txt) : Nat → Value → World → Prop
  | 0, v, _ => v = .pointer (some ⟨q8, 0, none⟩)
  | 1, v, _ => v = .int .i64 0
  | 2, v, _ => v = .bool true
  | 3, v, _ => v = .bool true
  | 4, v, _ => v = .pointer (some ⟨q8, 7, none⟩)
  | 5, v, _ => v = .int .i64 nd
  | 6, v, _ => v = .bool true
  | 7, v, _ => v = .bool true
  | 8, v, _ => v = .bool true
  | 9, v, _ => v = .pointer (some ⟨q7, 5, none⟩)
  | 10, v, _ => v = A1
  | 11, v, _ => v = .pointer (some ⟨q8, 5, none⟩)
  | 12, v, _ => v = A2
  | 13, v, _ => v = .bool true
  | 14, v, _ => v = .bool true
  | 15, v, _ => v = .bool true
  | 16, v, _ => v = .pointer (some ⟨q8, 6, none⟩)
  | 17, v, _ => v = A4
  | 18, v, _ => v = .string (mkT s)
  | 19, v, w => ∃ g, v = .slice (some ⟨g, 0, none⟩) 1 1 ∧ w.heap[g]? = some (.cells #[.string (mkT s)] 9 (0, 0))
  | 20, v, _ => v = vb
  | 21, v, w => ∃ g vs, v = .slice (some ⟨g, 0, none⟩) 2 2 ∧ RowsIn w g vs [[mkT s], M.map mkT]
  | 22, v, w => TextIn w v ((s :: M).map mkT)
  | 23, v, _ => v = .bool true
  | 24, v, _ => v = .bool true
  | 25, v, _ => v = .bool true
  | 26, v, _ => v = .bool true
  | 27, v, _ => v = .bool true
  | 28, v, _ => v = .bool true
  | _, _, _ => True
theorem P6.below {q7 q8 : Nat} {nd : Int} {A1 A2 vb A4 : Value} {s : Txt} {M : List Txt} {i : Nat} (hi : i < 29) {v : Value} {w w' : World} (h : P6 q7 q8 nd A1 A2 vb A4 s M i v w) (hb : Below w.heap.size w w') : P6 q7 q8 nd A1 A2 vb A4 s M i v w' := by
  match i, hi, h with
  | 0, _, h => exact h
  | 1, _, h => exact h
  | 2, _, h => exact h
  | 3, _, h => exact h
  | 4, _, h => exact h
  | 5, _, h => exact h
  | 6, _, h => exact h
  | 7, _, h => exact h
  | 8, _, h => exact h
  | 9, _, h => exact h
  | 10, _, h => exact h
  | 11, _, h => exact h
  | 12, _, h => exact h
  | 13, _, h => exact h
  | 14, _, h => exact h
  | 15, _, h => exact h
  | 16, _, h => exact h
  | 17, _, h => exact h
  | 18, _, h => exact h
  | 19, _, h => obtain ⟨g, e, h⟩ := h; exact ⟨g, e, block_kept h hb⟩
  | 20, _, h => exact h
  | 21, _, h => obtain ⟨g, vs, e, h⟩ := h; exact ⟨g, vs, e, h.below hb⟩
  | 22, _, h => exact TextIn.below h hb
  | 23, _, h => exact h
  | 24, _, h => exact h
  | 25, _, h => exact h
  | 26, _, h => exact h
  | 27, _, h => exact h
  | 28, _, h => exact h
  | k + 29, hi, _ => exact absurd hi (by omega)
set_option maxRecDepth 100000 in
set_option maxHeartbeats 6400000 in
/-- What does not fit answers true. -/
theorem plain_small {w : World} {A : Option Addr} {F : List FlagP} (hA : FlagsAt w A F) (hn : F.length ≤ 9223372036854775807) (cap : Nat) (hc : F.length ≤ cap) (pl un : Bool) (k : Int) {va vb : Value} {L M : List Txt} {s : Txt} (hva : TextIn w va (L.map mkT)) (hvb : TextIn w vb (M.map mkT))
    (hno : ¬ (fits20 (F.map ofFlag) = true ∧ fits2 (L.map mkT) = true ∧ fits2 (M.map mkT) = true ∧ rightL (foldGT (bits BinOp.and IntKind.i64 k 1 == 1) (bits BinOp.and IntKind.i64 k 2 == 2)) [] [] F = true ∧ (0 ≤ k ∧ k ≤ 3) ∧ (mkT s).size ≤ 2147483647 ∧ pl = true ∧ wtBB [L.map mkT, M.map mkT, [mkT s]] ≤ 1048576 ∧ bareB s = true)) :
    Calls Try.prog 8 #[.agg #[.slice A F.length cap, .bool pl, .bool un, .int .i64 k], va, .string (mkT s), vb] w (YesEnd w) := by
  have H19 := Lib.hid (fun (W : World) (hb : Below w.heap.size w W) => zz19_c (hA.below hb) hn cap hc pl un k)
  have HFA := Lib.hid (fun (W : World) (hb : Below w.heap.size w W) => zz2_c (hva.below hb))
  have HFB := Lib.hid (fun (W : World) (hb : Below w.heap.size w W) => zz2_c (hvb.below hb))
  have HNO := Lib.hid hno
  have HA := Lib.hid hA
  clear hno hA
  have HVA := Lib.hid hva
  have HVB := Lib.hid hvb
  obtain ⟨va0, van, vac, hvae⟩ := hva.slice
  obtain ⟨vb0, vbn, vbc, hvbe⟩ := hvb.slice
  clear hva hvb
  subst hvae
  subst hvbe
  generalize h1 : fits20 (F.map ofFlag) = b1 at H19
  generalize h2 : fits2 (L.map mkT) = b2 at HFA
  generalize h3 : fits2 (M.map mkT) = b3 at HFB
  have HB1 := Lib.hid h1
  have HB2 := Lib.hid h2
  have HB3 := Lib.hid h3
  clear h1 h2 h3
  cases b1 with
  | false =>
    go_enter Try.func8, Try.ntmps8
    go_upto_region 1 with fail
    generalize hWX : w.alloc _ = WX
    have HB : Hid (Below w.heap.size w WX) := Lib.hid (by rw [← hWX]; exact (Below.refl _ _).alloc (Nat.le_refl _) _)
    have q3 : WX.heap[w.heap.size]? = some (.cells #[.slice A F.length cap, .bool pl, .bool un, .int .i64 k] 24 (0, 0)) := by rw [← hWX]; exact heap_alloc_new w _
    clear hWX
    have c0 : WX.cell? ⟨w.heap.size, 0, none⟩ = some (.slice A F.length cap) := (cell_blk q3 0).trans rfl
    have c1 : WX.cell? ⟨w.heap.size, 1, none⟩ = some (.bool pl) := (cell_blk q3 1).trans rfl
    have c2 : WX.cell? ⟨w.heap.size, 2, none⟩ = some (.bool un) := (cell_blk q3 2).trans rfl
    have c3 : WX.cell? ⟨w.heap.size, 3, none⟩ = some (.int .i64 k) := (cell_blk q3 3).trans rfl
    go_wp2_with ((with_reducible go_at_call 14); (with_reducible refine Calls.mono (H19.out _ HB.out) ?_); rintro e w3 ⟨rfl, hb3⟩; have q3 := block_kept q3 hb3; have c0 := cell_kept hb3 c0; have c1 := cell_kept hb3 c1; have c2 := cell_kept hb3 c2; have c3 := cell_kept hb3 c3; have HB := Lib.hid (HB.out.trans (hb3.mono HB.out.size)); clear hb3)
    go_ret
    exact yesEnd rfl HB.out
  | true =>
  cases b2 with
  | false =>
    go_enter Try.func8, Try.ntmps8
    go_upto_region 1 with fail
    generalize hWX : w.alloc _ = WX
    have HB : Hid (Below w.heap.size w WX) := Lib.hid (by rw [← hWX]; exact (Below.refl _ _).alloc (Nat.le_refl _) _)
    have q3 : WX.heap[w.heap.size]? = some (.cells #[.slice A F.length cap, .bool pl, .bool un, .int .i64 k] 24 (0, 0)) := by rw [← hWX]; exact heap_alloc_new w _
    clear hWX
    have c0 : WX.cell? ⟨w.heap.size, 0, none⟩ = some (.slice A F.length cap) := (cell_blk q3 0).trans rfl
    have c1 : WX.cell? ⟨w.heap.size, 1, none⟩ = some (.bool pl) := (cell_blk q3 1).trans rfl
    have c2 : WX.cell? ⟨w.heap.size, 2, none⟩ = some (.bool un) := (cell_blk q3 2).trans rfl
    have c3 : WX.cell? ⟨w.heap.size, 3, none⟩ = some (.int .i64 k) := (cell_blk q3 3).trans rfl
    go_wp2_with (first | ((with_reducible go_at_call 14); (with_reducible refine Calls.mono (H19.out _ HB.out) ?_); rintro e w3 ⟨rfl, hb3⟩; have q3 := block_kept q3 hb3; have c0 := cell_kept hb3 c0; have c1 := cell_kept hb3 c1; have c2 := cell_kept hb3 c2; have c3 := cell_kept hb3 c3; have HB := Lib.hid (HB.out.trans (hb3.mono HB.out.size)); clear hb3) | ((with_reducible go_at_call 15); (with_reducible refine Calls.mono (HFA.out _ HB.out) ?_); rintro e w3 ⟨rfl, hb3⟩; have q3 := block_kept q3 hb3; have c0 := cell_kept hb3 c0; have c1 := cell_kept hb3 c1; have c2 := cell_kept hb3 c2; have c3 := cell_kept hb3 c3; have HB := Lib.hid (HB.out.trans (hb3.mono HB.out.size)); clear hb3) | ((with_reducible go_at_call 15); (with_reducible refine Calls.mono (HFB.out _ HB.out) ?_); rintro e w3 ⟨rfl, hb3⟩; have q3 := block_kept q3 hb3; have c0 := cell_kept hb3 c0; have c1 := cell_kept hb3 c1; have c2 := cell_kept hb3 c2; have c3 := cell_kept hb3 c3; have HB := Lib.hid (HB.out.trans (hb3.mono HB.out.size)); clear hb3))
    go_ret
    exact yesEnd rfl HB.out
  | true =>
  by_cases hz : 2147483647 < (mkT s).size
  · have hz2 : (2147483647 : Int) < ((mkT s).size : Int) := by omega
    go_enter Try.func8, Try.ntmps8
    go_upto_region 1 with fail
    generalize hWX : w.alloc _ = WX
    have HB : Hid (Below w.heap.size w WX) := Lib.hid (by rw [← hWX]; exact (Below.refl _ _).alloc (Nat.le_refl _) _)
    have q3 : WX.heap[w.heap.size]? = some (.cells #[.slice A F.length cap, .bool pl, .bool un, .int .i64 k] 24 (0, 0)) := by rw [← hWX]; exact heap_alloc_new w _
    clear hWX
    have c0 : WX.cell? ⟨w.heap.size, 0, none⟩ = some (.slice A F.length cap) := (cell_blk q3 0).trans rfl
    have c1 : WX.cell? ⟨w.heap.size, 1, none⟩ = some (.bool pl) := (cell_blk q3 1).trans rfl
    have c2 : WX.cell? ⟨w.heap.size, 2, none⟩ = some (.bool un) := (cell_blk q3 2).trans rfl
    have c3 : WX.cell? ⟨w.heap.size, 3, none⟩ = some (.int .i64 k) := (cell_blk q3 3).trans rfl
    go_wp2_with (first | ((with_reducible go_at_call 14); (with_reducible refine Calls.mono (H19.out _ HB.out) ?_); rintro e w3 ⟨rfl, hb3⟩; have q3 := block_kept q3 hb3; have c0 := cell_kept hb3 c0; have c1 := cell_kept hb3 c1; have c2 := cell_kept hb3 c2; have c3 := cell_kept hb3 c3; have HB := Lib.hid (HB.out.trans (hb3.mono HB.out.size)); clear hb3) | ((with_reducible go_at_call 15); (with_reducible refine Calls.mono (HFA.out _ HB.out) ?_); rintro e w3 ⟨rfl, hb3⟩; have q3 := block_kept q3 hb3; have c0 := cell_kept hb3 c0; have c1 := cell_kept hb3 c1; have c2 := cell_kept hb3 c2; have c3 := cell_kept hb3 c3; have HB := Lib.hid (HB.out.trans (hb3.mono HB.out.size)); clear hb3) | ((with_reducible go_at_call 15); (with_reducible refine Calls.mono (HFB.out _ HB.out) ?_); rintro e w3 ⟨rfl, hb3⟩; have q3 := block_kept q3 hb3; have c0 := cell_kept hb3 c0; have c1 := cell_kept hb3 c1; have c2 := cell_kept hb3 c2; have c3 := cell_kept hb3 c3; have HB := Lib.hid (HB.out.trans (hb3.mono HB.out.size)); clear hb3))
    go_ret
    exact yesEnd rfl HB.out
  have hz2 : ¬ (2147483647 : Int) < ((mkT s).size : Int) := by omega
  cases b3 with
  | false =>
    go_enter Try.func8, Try.ntmps8
    go_upto_region 1 with fail
    generalize hWX : w.alloc _ = WX
    have HB : Hid (Below w.heap.size w WX) := Lib.hid (by rw [← hWX]; exact (Below.refl _ _).alloc (Nat.le_refl _) _)
    have q3 : WX.heap[w.heap.size]? = some (.cells #[.slice A F.length cap, .bool pl, .bool un, .int .i64 k] 24 (0, 0)) := by rw [← hWX]; exact heap_alloc_new w _
    clear hWX
    have c0 : WX.cell? ⟨w.heap.size, 0, none⟩ = some (.slice A F.length cap) := (cell_blk q3 0).trans rfl
    have c1 : WX.cell? ⟨w.heap.size, 1, none⟩ = some (.bool pl) := (cell_blk q3 1).trans rfl
    have c2 : WX.cell? ⟨w.heap.size, 2, none⟩ = some (.bool un) := (cell_blk q3 2).trans rfl
    have c3 : WX.cell? ⟨w.heap.size, 3, none⟩ = some (.int .i64 k) := (cell_blk q3 3).trans rfl
    go_wp2_with (first | ((with_reducible go_at_call 14); (with_reducible refine Calls.mono (H19.out _ HB.out) ?_); rintro e w3 ⟨rfl, hb3⟩; have q3 := block_kept q3 hb3; have c0 := cell_kept hb3 c0; have c1 := cell_kept hb3 c1; have c2 := cell_kept hb3 c2; have c3 := cell_kept hb3 c3; have HB := Lib.hid (HB.out.trans (hb3.mono HB.out.size)); clear hb3) | ((with_reducible go_at_call 15); (with_reducible refine Calls.mono (HFA.out _ HB.out) ?_); rintro e w3 ⟨rfl, hb3⟩; have q3 := block_kept q3 hb3; have c0 := cell_kept hb3 c0; have c1 := cell_kept hb3 c1; have c2 := cell_kept hb3 c2; have c3 := cell_kept hb3 c3; have HB := Lib.hid (HB.out.trans (hb3.mono HB.out.size)); clear hb3) | ((with_reducible go_at_call 15); (with_reducible refine Calls.mono (HFB.out _ HB.out) ?_); rintro e w3 ⟨rfl, hb3⟩; have q3 := block_kept q3 hb3; have c0 := cell_kept hb3 c0; have c1 := cell_kept hb3 c1; have c2 := cell_kept hb3 c2; have c3 := cell_kept hb3 c3; have HB := Lib.hid (HB.out.trans (hb3.mono HB.out.size)); clear hb3))
    go_ret
    exact yesEnd rfl HB.out
  | true =>
  have hsz : F.length ≤ 2147483647 ∧ ∀ f ∈ F, f.name.length ≤ 2147483647 ∧ f.short.length ≤ 2147483647 := fits20_F HB1.out
  have HFT : Hid (∀ xs ∈ [L.map mkT, M.map mkT, [mkT s]], fits2 xs = true) := Lib.hid (fun xs hx => by
    simp only [List.mem_cons, List.not_mem_nil, or_false] at hx
    rcases hx with rfl | rfl | rfl
    · exact HB2.out
    · exact HB3.out
    · exact fits2_iff.2 ⟨by simp, fun x hx => by simp only [List.mem_singleton] at hx; subst hx; omega⟩)
  have HRT := Lib.hid (fun (W : World) (hb : Below w.heap.size w W) => right_any F A cap pl un k _ _ rfl rfl W (HA.out.below hb) hsz.1 hsz.2)
  clear hsz
  generalize h4 : (rightL (foldGT (bits BinOp.and IntKind.i64 k 1 == 1) (bits BinOp.and IntKind.i64 k 2 == 2)) [] [] F && decide (0 ≤ k ∧ k ≤ 3)) = b4 at HRT
  have HB4 := Lib.hid h4
  clear h4
  cases b4 with
  | false =>
    go_enter Try.func8, Try.ntmps8
    go_upto_region 1 with fail
    generalize hWX : w.alloc _ = WX
    have HB : Hid (Below w.heap.size w WX) := Lib.hid (by rw [← hWX]; exact (Below.refl _ _).alloc (Nat.le_refl _) _)
    have q3 : WX.heap[w.heap.size]? = some (.cells #[.slice A F.length cap, .bool pl, .bool un, .int .i64 k] 24 (0, 0)) := by rw [← hWX]; exact heap_alloc_new w _
    clear hWX
    have c0 : WX.cell? ⟨w.heap.size, 0, none⟩ = some (.slice A F.length cap) := (cell_blk q3 0).trans rfl
    have c1 : WX.cell? ⟨w.heap.size, 1, none⟩ = some (.bool pl) := (cell_blk q3 1).trans rfl
    have c2 : WX.cell? ⟨w.heap.size, 2, none⟩ = some (.bool un) := (cell_blk q3 2).trans rfl
    have c3 : WX.cell? ⟨w.heap.size, 3, none⟩ = some (.int .i64 k) := (cell_blk q3 3).trans rfl
    go_wp2_with (first | ((with_reducible go_at_call 14); (with_reducible refine Calls.mono (H19.out _ HB.out) ?_); rintro e w3 ⟨rfl, hb3⟩; have q3 := block_kept q3 hb3; have c0 := cell_kept hb3 c0; have c1 := cell_kept hb3 c1; have c2 := cell_kept hb3 c2; have c3 := cell_kept hb3 c3; have HB := Lib.hid (HB.out.trans (hb3.mono HB.out.size)); clear hb3) | ((with_reducible go_at_call 15); (with_reducible refine Calls.mono (HFA.out _ HB.out) ?_); rintro e w3 ⟨rfl, hb3⟩; have q3 := block_kept q3 hb3; have c0 := cell_kept hb3 c0; have c1 := cell_kept hb3 c1; have c2 := cell_kept hb3 c2; have c3 := cell_kept hb3 c3; have HB := Lib.hid (HB.out.trans (hb3.mono HB.out.size)); clear hb3) | ((with_reducible go_at_call 15); (with_reducible refine Calls.mono (HFB.out _ HB.out) ?_); rintro e w3 ⟨rfl, hb3⟩; have q3 := block_kept q3 hb3; have c0 := cell_kept hb3 c0; have c1 := cell_kept hb3 c1; have c2 := cell_kept hb3 c2; have c3 := cell_kept hb3 c3; have HB := Lib.hid (HB.out.trans (hb3.mono HB.out.size)); clear hb3) | ((with_reducible go_at_call 16); (with_reducible refine Calls.mono (HRT.out _ HB.out) ?_); rintro e w3 ⟨rfl, hb3⟩; have q3 := block_kept q3 hb3; have c0 := cell_kept hb3 c0; have c1 := cell_kept hb3 c1; have c2 := cell_kept hb3 c2; have c3 := cell_kept hb3 c3; have HB := Lib.hid (HB.out.trans (hb3.mono HB.out.size)); clear hb3) | ((with_reducible go_at_call 25); refine (lives_c _).mono ?_; rintro e w3 ⟨rfl, hb3⟩; have HB := Lib.hid (HB.out.trans (hb3.mono HB.out.size)); clear hb3))
    go_ret
    exact yesEnd rfl HB.out
  | true =>
  cases pl with
  | false =>
    go_enter Try.func8, Try.ntmps8
    go_upto_region 1 with fail
    generalize hWX : w.alloc _ = WX
    have HB : Hid (Below w.heap.size w WX) := Lib.hid (by rw [← hWX]; exact (Below.refl _ _).alloc (Nat.le_refl _) _)
    have q3 : WX.heap[w.heap.size]? = some (.cells #[.slice A F.length cap, .bool false, .bool un, .int .i64 k] 24 (0, 0)) := by rw [← hWX]; exact heap_alloc_new w _
    clear hWX
    have c0 : WX.cell? ⟨w.heap.size, 0, none⟩ = some (.slice A F.length cap) := (cell_blk q3 0).trans rfl
    have c1 : WX.cell? ⟨w.heap.size, 1, none⟩ = some (.bool false) := (cell_blk q3 1).trans rfl
    have c2 : WX.cell? ⟨w.heap.size, 2, none⟩ = some (.bool un) := (cell_blk q3 2).trans rfl
    have c3 : WX.cell? ⟨w.heap.size, 3, none⟩ = some (.int .i64 k) := (cell_blk q3 3).trans rfl
    go_wp2_with (first | ((with_reducible go_at_call 14); (with_reducible refine Calls.mono (H19.out _ HB.out) ?_); rintro e w3 ⟨rfl, hb3⟩; have q3 := block_kept q3 hb3; have c0 := cell_kept hb3 c0; have c1 := cell_kept hb3 c1; have c2 := cell_kept hb3 c2; have c3 := cell_kept hb3 c3; have HB := Lib.hid (HB.out.trans (hb3.mono HB.out.size)); clear hb3) | ((with_reducible go_at_call 15); (with_reducible refine Calls.mono (HFA.out _ HB.out) ?_); rintro e w3 ⟨rfl, hb3⟩; have q3 := block_kept q3 hb3; have c0 := cell_kept hb3 c0; have c1 := cell_kept hb3 c1; have c2 := cell_kept hb3 c2; have c3 := cell_kept hb3 c3; have HB := Lib.hid (HB.out.trans (hb3.mono HB.out.size)); clear hb3) | ((with_reducible go_at_call 15); (with_reducible refine Calls.mono (HFB.out _ HB.out) ?_); rintro e w3 ⟨rfl, hb3⟩; have q3 := block_kept q3 hb3; have c0 := cell_kept hb3 c0; have c1 := cell_kept hb3 c1; have c2 := cell_kept hb3 c2; have c3 := cell_kept hb3 c3; have HB := Lib.hid (HB.out.trans (hb3.mono HB.out.size)); clear hb3) | ((with_reducible go_at_call 16); (with_reducible refine Calls.mono (HRT.out _ HB.out) ?_); rintro e w3 ⟨rfl, hb3⟩; have q3 := block_kept q3 hb3; have c0 := cell_kept hb3 c0; have c1 := cell_kept hb3 c1; have c2 := cell_kept hb3 c2; have c3 := cell_kept hb3 c3; have HB := Lib.hid (HB.out.trans (hb3.mono HB.out.size)); clear hb3) | ((with_reducible go_at_call 25); refine (lives_c _).mono ?_; rintro e w3 ⟨rfl, hb3⟩; have HB := Lib.hid (HB.out.trans (hb3.mono HB.out.size)); clear hb3))
    go_ret
    exact yesEnd rfl HB.out
  | true =>
  obtain ⟨b5, h5⟩ : ∃ b, decide (wtBB [L.map mkT, M.map mkT, [mkT s]] ≤ 1048576) = b := ⟨_, rfl⟩
  have HF14 := Lib.hid (fun (W : World) (hb : Below w.heap.size w W) => fit14_3 hb HVA.out HVB.out HFT.out h5)
  have HB5 := Lib.hid h5
  clear h5
  cases b5 with
  | false =>
    go_enter Try.func8, Try.ntmps8
    go_upto_region 1 with fail
    generalize hWX : w.alloc _ = WX
    have HB : Hid (Below w.heap.size w WX) := Lib.hid (by rw [← hWX]; exact (Below.refl _ _).alloc (Nat.le_refl _) _)
    have q3 : WX.heap[w.heap.size]? = some (.cells #[.slice A F.length cap, .bool true, .bool un, .int .i64 k] 24 (0, 0)) := by rw [← hWX]; exact heap_alloc_new w _
    clear hWX
    have c0 : WX.cell? ⟨w.heap.size, 0, none⟩ = some (.slice A F.length cap) := (cell_blk q3 0).trans rfl
    have c1 : WX.cell? ⟨w.heap.size, 1, none⟩ = some (.bool true) := (cell_blk q3 1).trans rfl
    have c2 : WX.cell? ⟨w.heap.size, 2, none⟩ = some (.bool un) := (cell_blk q3 2).trans rfl
    have c3 : WX.cell? ⟨w.heap.size, 3, none⟩ = some (.int .i64 k) := (cell_blk q3 3).trans rfl
    go_wp2_with (first | ((with_reducible go_at_call 14); (with_reducible refine Calls.mono (H19.out _ HB.out) ?_); rintro e w3 ⟨rfl, hb3⟩; have q3 := block_kept q3 hb3; have c0 := cell_kept hb3 c0; have c1 := cell_kept hb3 c1; have c2 := cell_kept hb3 c2; have c3 := cell_kept hb3 c3; have HB := Lib.hid (HB.out.trans (hb3.mono HB.out.size)); clear hb3) | ((with_reducible go_at_call 15); (with_reducible refine Calls.mono (HFA.out _ HB.out) ?_); rintro e w3 ⟨rfl, hb3⟩; have q3 := block_kept q3 hb3; have c0 := cell_kept hb3 c0; have c1 := cell_kept hb3 c1; have c2 := cell_kept hb3 c2; have c3 := cell_kept hb3 c3; have HB := Lib.hid (HB.out.trans (hb3.mono HB.out.size)); clear hb3) | ((with_reducible go_at_call 15); (with_reducible refine Calls.mono (HFB.out _ HB.out) ?_); rintro e w3 ⟨rfl, hb3⟩; have q3 := block_kept q3 hb3; have c0 := cell_kept hb3 c0; have c1 := cell_kept hb3 c1; have c2 := cell_kept hb3 c2; have c3 := cell_kept hb3 c3; have HB := Lib.hid (HB.out.trans (hb3.mono HB.out.size)); clear hb3) | ((with_reducible go_at_call 16); (with_reducible refine Calls.mono (HRT.out _ HB.out) ?_); rintro e w3 ⟨rfl, hb3⟩; have q3 := block_kept q3 hb3; have c0 := cell_kept hb3 c0; have c1 := cell_kept hb3 c1; have c2 := cell_kept hb3 c2; have c3 := cell_kept hb3 c3; have HB := Lib.hid (HB.out.trans (hb3.mono HB.out.size)); clear hb3) | ((with_reducible go_at_call 17); (with_reducible refine Calls.mono (HF14.out _ HB.out) ?_); rintro e w3 ⟨rfl, hb3⟩; have hb3 := two_kept hb3; have q3 := block_kept q3 hb3; have c0 := cell_kept hb3 c0; have c1 := cell_kept hb3 c1; have c2 := cell_kept hb3 c2; have c3 := cell_kept hb3 c3; have HB := Lib.hid (HB.out.trans (hb3.mono HB.out.size)); clear hb3) | ((with_reducible go_at_call 25); refine (lives_c _).mono ?_; rintro e w3 ⟨rfl, hb3⟩; have HB := Lib.hid (HB.out.trans (hb3.mono HB.out.size)); clear hb3))
    go_ret
    exact yesEnd rfl HB.out
  | true =>
    have h6 : bareB s = false := by
      have := HNO.out
      have h4 := HB4.out
      rw [Bool.and_eq_true] at h4
      cases q : bareB s with
      | false => rfl
      | true => exact absurd ⟨HB1.out, HB2.out, HB3.out, h4.1, of_decide_eq_true h4.2, by omega, rfl, of_decide_eq_true HB5.out, q⟩ this
    have HBR : Hid (∀ (W : World), Below w.heap.size w W → Calls Try.prog 32 #[.string (mkT s)] W fun e w' => e = .returned (.bool false) ∧ Below W.heap.size W w') := Lib.hid (fun W _ => by
      have h := bare_c s W
      rw [h6] at h; exact h)
    clear h6
    go_enter Try.func8, Try.ntmps8
    go_upto_region 1 with fail
    generalize hWX : w.alloc _ = WX
    have HB : Hid (Below w.heap.size w WX) := Lib.hid (by rw [← hWX]; exact (Below.refl _ _).alloc (Nat.le_refl _) _)
    have q3 : WX.heap[w.heap.size]? = some (.cells #[.slice A F.length cap, .bool true, .bool un, .int .i64 k] 24 (0, 0)) := by rw [← hWX]; exact heap_alloc_new w _
    clear hWX
    have c0 : WX.cell? ⟨w.heap.size, 0, none⟩ = some (.slice A F.length cap) := (cell_blk q3 0).trans rfl
    have c1 : WX.cell? ⟨w.heap.size, 1, none⟩ = some (.bool true) := (cell_blk q3 1).trans rfl
    have c2 : WX.cell? ⟨w.heap.size, 2, none⟩ = some (.bool un) := (cell_blk q3 2).trans rfl
    have c3 : WX.cell? ⟨w.heap.size, 3, none⟩ = some (.int .i64 k) := (cell_blk q3 3).trans rfl
    go_wp2_with (first | ((with_reducible go_at_call 14); (with_reducible refine Calls.mono (H19.out _ HB.out) ?_); rintro e w3 ⟨rfl, hb3⟩; have q3 := block_kept q3 hb3; have c0 := cell_kept hb3 c0; have c1 := cell_kept hb3 c1; have c2 := cell_kept hb3 c2; have c3 := cell_kept hb3 c3; have HB := Lib.hid (HB.out.trans (hb3.mono HB.out.size)); clear hb3) | ((with_reducible go_at_call 15); (with_reducible refine Calls.mono (HFA.out _ HB.out) ?_); rintro e w3 ⟨rfl, hb3⟩; have q3 := block_kept q3 hb3; have c0 := cell_kept hb3 c0; have c1 := cell_kept hb3 c1; have c2 := cell_kept hb3 c2; have c3 := cell_kept hb3 c3; have HB := Lib.hid (HB.out.trans (hb3.mono HB.out.size)); clear hb3) | ((with_reducible go_at_call 15); (with_reducible refine Calls.mono (HFB.out _ HB.out) ?_); rintro e w3 ⟨rfl, hb3⟩; have q3 := block_kept q3 hb3; have c0 := cell_kept hb3 c0; have c1 := cell_kept hb3 c1; have c2 := cell_kept hb3 c2; have c3 := cell_kept hb3 c3; have HB := Lib.hid (HB.out.trans (hb3.mono HB.out.size)); clear hb3) | ((with_reducible go_at_call 16); (with_reducible refine Calls.mono (HRT.out _ HB.out) ?_); rintro e w3 ⟨rfl, hb3⟩; have q3 := block_kept q3 hb3; have c0 := cell_kept hb3 c0; have c1 := cell_kept hb3 c1; have c2 := cell_kept hb3 c2; have c3 := cell_kept hb3 c3; have HB := Lib.hid (HB.out.trans (hb3.mono HB.out.size)); clear hb3) | ((with_reducible go_at_call 17); (with_reducible refine Calls.mono (HF14.out _ HB.out) ?_); rintro e w3 ⟨rfl, hb3⟩; have hb3 := two_kept hb3; have q3 := block_kept q3 hb3; have c0 := cell_kept hb3 c0; have c1 := cell_kept hb3 c1; have c2 := cell_kept hb3 c2; have c3 := cell_kept hb3 c3; have HB := Lib.hid (HB.out.trans (hb3.mono HB.out.size)); clear hb3) | ((with_reducible go_at_call 32); (with_reducible refine Calls.mono (HBR.out _ HB.out) ?_); rintro e w3 ⟨rfl, hb3⟩; have q3 := block_kept q3 hb3; have c0 := cell_kept hb3 c0; have c1 := cell_kept hb3 c1; have c2 := cell_kept hb3 c2; have c3 := cell_kept hb3 c3; have HB := Lib.hid (HB.out.trans (hb3.mono HB.out.size)); clear hb3) | ((with_reducible go_at_call 25); refine (lives_c _).mono ?_; rintro e w3 ⟨rfl, hb3⟩; have HB := Lib.hid (HB.out.trans (hb3.mono HB.out.size)); clear hb3))
    go_ret
    exact yesEnd rfl HB.out

set_option maxRecDepth 100000 in
set_option maxHeartbeats 6400000 in
/-- What fits answers true. -/
theorem plain_comp {w : World} {A : Option Addr} {S : SetP} (hS : SetOK w A S) (cap : Nat) (hc : S.flags.length ≤ cap) {va vb : Value} {L M : List Txt} {s : Txt} (hp : S.plain = true) (hz : (mkT s).size ≤ 2147483647) (hbs : bareB s = true) (hva : TextIn w va (L.map mkT)) (hvb : TextIn w vb (M.map mkT))
    (h1 : fits20 (S.flags.map ofFlag) = true) (h2 : fits2 (L.map mkT) = true) (h3 : fits2 (M.map mkT) = true) (h4 : rightL (foldGT (bits BinOp.and IntKind.i64 (S.fold : Int) 1 == 1) (bits BinOp.and IntKind.i64 (S.fold : Int) 2 == 2)) [] [] S.flags = true) (h5 : wtBB [L.map mkT, M.map mkT, [mkT s]] ≤ 1048576) :
    Calls Try.prog 8 #[.agg #[.slice A S.flags.length cap, .bool true, .bool S.unknown, .int .i64 S.fold], va, .string (mkT s), vb] w (YesEnd w) := by
  have hwt : wt L + wt M + s.length + 1 ≤ 1048576 := by
    simp only [wtBB, wt_map, wtB, mkT_size] at h5; omega
  have hls : ∀ t ∈ L ++ s :: M, t.length ≤ 2147483600 := by
    intro t ht
    have hm : ∀ (X : List Txt) (t : Txt), t ∈ X → t.length ≤ wt X := fun X t h => by
      have := wtB_mem (List.mem_map_of_mem (f := mkT) h)
      rw [wt_map, mkT_size] at this; omega
    rcases List.mem_append.1 ht with h | h
    · have := hm L t h; omega
    · rcases List.mem_cons.1 h with h | h
      · rw [h]; omega
      · have := hm M t h; omega
  have hl1 : ∀ t ∈ L, t.length ≤ 2147483600 := fun t h => hls t (List.mem_append_left _ h)
  have HL2 := Lib.hid hls
  have HLL : Hid (L.length ≤ 1048576 ∧ M.length ≤ 1048576 ∧ wt L ≤ 1048576 ∧ wt M ≤ 1048576 ∧ s.length ≤ 1048576) := Lib.hid (by
    have a := wt_len L
    have b := wt_len M
    omega)
  have hfl := fits20_F h1
  have H19 : Hid (∀ (W : World), Below w.heap.size w W → Calls Try.prog 14 #[.agg #[.slice A S.flags.length cap, .bool true, .bool S.unknown, .int .i64 S.fold]] W fun e w' => e = .returned (.bool true) ∧ Below W.heap.size W w') := Lib.hid (fun W hb => by
    have h := zz19_c (hS.flg.below hb) (by omega) cap hc true S.unknown (S.fold : Int)
    rw [h1] at h; exact h)
  have HFA : Hid (∀ (W : World), Below w.heap.size w W → Calls Try.prog 15 #[va] W fun e w' => e = .returned (.bool true) ∧ Below W.heap.size W w') := Lib.hid (fun W hb => by
    have h := zz2_c (hva.below hb)
    rw [h2] at h; exact h)
  have HFB : Hid (∀ (W : World), Below w.heap.size w W → Calls Try.prog 15 #[vb] W fun e w' => e = .returned (.bool true) ∧ Below W.heap.size W w') := Lib.hid (fun W hb => by
    have h := zz2_c (hvb.below hb)
    rw [h3] at h; exact h)
  have HRT : Hid (∀ (W : World), Below w.heap.size w W → Calls Try.prog 16 #[.agg #[.slice A S.flags.length cap, .bool true, .bool S.unknown, .int .i64 S.fold]] W fun e w' => e = .returned (.bool true) ∧ Below W.heap.size W w') := Lib.hid (fun W hb => by
    have h := right_any S.flags A cap true S.unknown (S.fold : Int) _ _ rfl rfl W (hS.flg.below hb) hfl.1 hfl.2
    have hf := hS.right.fold
    rw [h4, decide_eq_true (by omega)] at h; exact h)
  have HFT : ∀ xs ∈ [L.map mkT, M.map mkT, [mkT s]], fits2 xs = true := (fun xs hx => by
    simp only [List.mem_cons, List.not_mem_nil, or_false] at hx
    rcases hx with rfl | rfl | rfl
    · exact h2
    · exact h3
    · exact fits2_iff.2 ⟨by simp, fun x hx => by simp only [List.mem_singleton] at hx; subst hx; omega⟩)
  have HPC : Hid (∀ (W : World) (hb : Below w.heap.size w W) (v : Value) (M : List Txt) (hv : TextIn W v (M.map mkT)) (hwt : wt M ≤ 1099511627776) (hls : ∀ t ∈ M, t.length ≤ 2147483600), Calls Try.prog 26 #[.agg #[.slice A S.flags.length cap, .bool true, .bool S.unknown, .int .i64 S.fold], v] W fun e w' => ∃ u, e = .returned u ∧ HeardOwn w' (psOf none true (goes S none st0 M)) (goes S none st0 M).err S.flags.length u ∧ Below W.heap.size W w') := Lib.hid (fun W hb v M hv hwt hls => by
    have h := parse_c (hS.below hb) cap hv hwt hls
    rw [hp] at h; exact h)
  have HCY : Hid (CompX S L → ∀ (W : World), Below w.heap.size w W → Calls Try.prog 33 #[.agg #[.slice A S.flags.length cap, .bool true, .bool S.unknown, .int .i64 S.fold], va] W fun e w' => e = .returned (.bool true) ∧ Below W.heap.size W w') := Lib.hid (fun hcx W hb => by
    have h := complete_yes (hS.below hb) cap (hva.below hb) (by omega) hl1 hcx
    unfold setV at h
    rw [hp] at h; exact h)
  have HCN : Hid (¬ CompX S L → ∀ (W : World), Below w.heap.size w W → Calls Try.prog 33 #[.agg #[.slice A S.flags.length cap, .bool true, .bool S.unknown, .int .i64 S.fold], va] W fun e w' => e = .returned (.bool false) ∧ Below W.heap.size W w') := Lib.hid (fun hcx W hb => by
    have h := complete_no (hS.below hb) cap (hva.below hb) (by omega) hl1 hcx
    unfold setV at h
    rw [hp] at h; exact h)
  have HBR : Hid (∀ (W : World), Below w.heap.size w W → Calls Try.prog 32 #[.string (mkT s)] W fun e w' => e = .returned (.bool true) ∧ Below W.heap.size W w') := Lib.hid (fun W _ => by
    have h := bare_c s W
    rw [hbs] at h; exact h)
  have hz2 : ¬ (2147483647 : Int) < ((mkT s).size : Int) := by omega
  have HVA := Lib.hid hva
  have HVB := Lib.hid hvb
  obtain ⟨va0, van, vac, hvae⟩ := hva.slice
  obtain ⟨vb0, vbn, vbc, hvbe⟩ := hvb.slice
  clear hva hvb
  subst hvae
  subst hvbe
  have HF14 := Lib.hid (fun (W : World) (hb : Below w.heap.size w W) => fit14_3 hb HVA.out HVB.out HFT (decide_eq_true h5))
  have HP := Lib.hid hp
  have HBS := Lib.hid hbs
  clear hS h1 h2 h3 h4 h5 HFT hfl hl1 hls hwt hp hbs hz
  by_cases hcx : CompX S L
  case neg =>
    have HCP := Lib.hid (HCN.out hcx)
    clear HCN HCY hcx
    go_enter Try.func8, Try.ntmps8
    go_upto_region 1 with fail
    generalize hWX : w.alloc _ = WX
    have HB : Hid (Below w.heap.size w WX) := Lib.hid (by rw [← hWX]; exact (Below.refl _ _).alloc (Nat.le_refl _) _)
    have q3 : WX.heap[w.heap.size]? = some (.cells #[.slice A S.flags.length cap, .bool true, .bool S.unknown, .int .i64 S.fold] 24 (0, 0)) := by rw [← hWX]; exact heap_alloc_new w _
    clear hWX
    have c0 : WX.cell? ⟨w.heap.size, 0, none⟩ = some (.slice A S.flags.length cap) := (cell_blk q3 0).trans rfl
    have c1 : WX.cell? ⟨w.heap.size, 1, none⟩ = some (.bool true) := (cell_blk q3 1).trans rfl
    have c2 : WX.cell? ⟨w.heap.size, 2, none⟩ = some (.bool S.unknown) := (cell_blk q3 2).trans rfl
    have c3 : WX.cell? ⟨w.heap.size, 3, none⟩ = some (.int .i64 S.fold) := (cell_blk q3 3).trans rfl
    go_wp2_with (first | ((with_reducible go_at_call 14); (with_reducible refine Calls.mono (H19.out _ HB.out) ?_); rintro e w3 ⟨rfl, hb3⟩; have q3 := block_kept q3 hb3; have c0 := cell_kept hb3 c0; have c1 := cell_kept hb3 c1; have c2 := cell_kept hb3 c2; have c3 := cell_kept hb3 c3; have HB := Lib.hid (HB.out.trans (hb3.mono HB.out.size)); clear hb3) | ((with_reducible go_at_call 15); (with_reducible refine Calls.mono (HFA.out _ HB.out) ?_); rintro e w3 ⟨rfl, hb3⟩; have q3 := block_kept q3 hb3; have c0 := cell_kept hb3 c0; have c1 := cell_kept hb3 c1; have c2 := cell_kept hb3 c2; have c3 := cell_kept hb3 c3; have HB := Lib.hid (HB.out.trans (hb3.mono HB.out.size)); clear hb3) | ((with_reducible go_at_call 15); (with_reducible refine Calls.mono (HFB.out _ HB.out) ?_); rintro e w3 ⟨rfl, hb3⟩; have q3 := block_kept q3 hb3; have c0 := cell_kept hb3 c0; have c1 := cell_kept hb3 c1; have c2 := cell_kept hb3 c2; have c3 := cell_kept hb3 c3; have HB := Lib.hid (HB.out.trans (hb3.mono HB.out.size)); clear hb3) | ((with_reducible go_at_call 16); (with_reducible refine Calls.mono (HRT.out _ HB.out) ?_); rintro e w3 ⟨rfl, hb3⟩; have q3 := block_kept q3 hb3; have c0 := cell_kept hb3 c0; have c1 := cell_kept hb3 c1; have c2 := cell_kept hb3 c2; have c3 := cell_kept hb3 c3; have HB := Lib.hid (HB.out.trans (hb3.mono HB.out.size)); clear hb3) | ((with_reducible go_at_call 17); (with_reducible refine Calls.mono (HF14.out _ HB.out) ?_); rintro e w3 ⟨rfl, hb3⟩; have hb3 := two_kept hb3; have q3 := block_kept q3 hb3; have c0 := cell_kept hb3 c0; have c1 := cell_kept hb3 c1; have c2 := cell_kept hb3 c2; have c3 := cell_kept hb3 c3; have HB := Lib.hid (HB.out.trans (hb3.mono HB.out.size)); clear hb3) | ((with_reducible go_at_call 32); (with_reducible refine Calls.mono (HBR.out _ HB.out) ?_); rintro e w3 ⟨rfl, hb3⟩; have q3 := block_kept q3 hb3; have c0 := cell_kept hb3 c0; have c1 := cell_kept hb3 c1; have c2 := cell_kept hb3 c2; have c3 := cell_kept hb3 c3; have HB := Lib.hid (HB.out.trans (hb3.mono HB.out.size)); clear hb3) | ((with_reducible go_at_call 33); (with_reducible refine Calls.mono (HCP.out _ HB.out) ?_); rintro e w3 ⟨rfl, hb3⟩; have q3 := block_kept q3 hb3; have c0 := cell_kept hb3 c0; have c1 := cell_kept hb3 c1; have c2 := cell_kept hb3 c2; have c3 := cell_kept hb3 c3; have HB := Lib.hid (HB.out.trans (hb3.mono HB.out.size)); clear hb3) | ((with_reducible go_at_call 25); refine (lives_c _).mono ?_; rintro e w3 ⟨rfl, hb3⟩; have HB := Lib.hid (HB.out.trans (hb3.mono HB.out.size)); clear hb3))
    go_ret
    exact yesEnd rfl HB.out
  case pos =>
    have HCP := Lib.hid (HCY.out hcx)
    have hEr := hcx.err
    have hDa := hcx.dash
    have hAr := hcx.plain HP.out
    have hApp := (hcx.comp.app (s :: M)).trans (law_plain _ HP.out HBS.out M)
    clear HCN HCY hcx
    have HER := Lib.hid hEr
    have HAP := Lib.hid hApp
    have HDA := Lib.hid hDa
    have HAR := Lib.hid hAr
    clear hEr hApp hDa hAr
    go_enter Try.func8, Try.ntmps8
    go_upto_region 1 with fail
    generalize hWX : w.alloc _ = WX
    have HB : Hid (Below w.heap.size w WX) := Lib.hid (by rw [← hWX]; exact (Below.refl _ _).alloc (Nat.le_refl _) _)
    have q3 : WX.heap[w.heap.size]? = some (.cells #[.slice A S.flags.length cap, .bool true, .bool S.unknown, .int .i64 S.fold] 24 (0, 0)) := by rw [← hWX]; exact heap_alloc_new w _
    clear hWX
    have c0 : WX.cell? ⟨w.heap.size, 0, none⟩ = some (.slice A S.flags.length cap) := (cell_blk q3 0).trans rfl
    have c1 : WX.cell? ⟨w.heap.size, 1, none⟩ = some (.bool true) := (cell_blk q3 1).trans rfl
    have c2 : WX.cell? ⟨w.heap.size, 2, none⟩ = some (.bool S.unknown) := (cell_blk q3 2).trans rfl
    have c3 : WX.cell? ⟨w.heap.size, 3, none⟩ = some (.int .i64 S.fold) := (cell_blk q3 3).trans rfl
    go_upto_region 5 with (first | ((with_reducible go_at_call 14); (with_reducible refine Calls.mono (H19.out _ HB.out) ?_); rintro e w3 ⟨rfl, hb3⟩; have q3 := block_kept q3 hb3; have c0 := cell_kept hb3 c0; have c1 := cell_kept hb3 c1; have c2 := cell_kept hb3 c2; have c3 := cell_kept hb3 c3; have HB := Lib.hid (HB.out.trans (hb3.mono HB.out.size)); clear hb3) | ((with_reducible go_at_call 15); (with_reducible refine Calls.mono (HFA.out _ HB.out) ?_); rintro e w3 ⟨rfl, hb3⟩; have q3 := block_kept q3 hb3; have c0 := cell_kept hb3 c0; have c1 := cell_kept hb3 c1; have c2 := cell_kept hb3 c2; have c3 := cell_kept hb3 c3; have HB := Lib.hid (HB.out.trans (hb3.mono HB.out.size)); clear hb3) | ((with_reducible go_at_call 15); (with_reducible refine Calls.mono (HFB.out _ HB.out) ?_); rintro e w3 ⟨rfl, hb3⟩; have q3 := block_kept q3 hb3; have c0 := cell_kept hb3 c0; have c1 := cell_kept hb3 c1; have c2 := cell_kept hb3 c2; have c3 := cell_kept hb3 c3; have HB := Lib.hid (HB.out.trans (hb3.mono HB.out.size)); clear hb3) | ((with_reducible go_at_call 16); (with_reducible refine Calls.mono (HRT.out _ HB.out) ?_); rintro e w3 ⟨rfl, hb3⟩; have q3 := block_kept q3 hb3; have c0 := cell_kept hb3 c0; have c1 := cell_kept hb3 c1; have c2 := cell_kept hb3 c2; have c3 := cell_kept hb3 c3; have HB := Lib.hid (HB.out.trans (hb3.mono HB.out.size)); clear hb3) | ((with_reducible go_at_call 17); (with_reducible refine Calls.mono (HF14.out _ HB.out) ?_); rintro e w3 ⟨rfl, hb3⟩; have hb3 := two_kept hb3; have q3 := block_kept q3 hb3; have c0 := cell_kept hb3 c0; have c1 := cell_kept hb3 c1; have c2 := cell_kept hb3 c2; have c3 := cell_kept hb3 c3; have HB := Lib.hid (HB.out.trans (hb3.mono HB.out.size)); clear hb3) | ((with_reducible go_at_call 32); (with_reducible refine Calls.mono (HBR.out _ HB.out) ?_); rintro e w3 ⟨rfl, hb3⟩; have q3 := block_kept q3 hb3; have c0 := cell_kept hb3 c0; have c1 := cell_kept hb3 c1; have c2 := cell_kept hb3 c2; have c3 := cell_kept hb3 c3; have HB := Lib.hid (HB.out.trans (hb3.mono HB.out.size)); clear hb3) | ((with_reducible go_at_call 33); (with_reducible refine Calls.mono (HCP.out _ HB.out) ?_); rintro e w3 ⟨rfl, hb3⟩; have q3 := block_kept q3 hb3; have c0 := cell_kept hb3 c0; have c1 := cell_kept hb3 c1; have c2 := cell_kept hb3 c2; have c3 := cell_kept hb3 c3; have HB := Lib.hid (HB.out.trans (hb3.mono HB.out.size)); clear hb3) | ((with_reducible go_at_call 25); refine (lives_c _).mono ?_; rintro e w3 ⟨rfl, hb3⟩; have HB := Lib.hid (HB.out.trans (hb3.mono HB.out.size)); clear hb3))
    have hbx := HB.out
    have hw1 : wt L ≤ 1099511627776 := by have := HLL.out; omega
    have hl1 : ∀ t ∈ L, t.length ≤ 2147483600 := fun t h => HL2.out t (List.mem_append_left _ h)
    have hw2 : wt (L ++ s :: M) ≤ 1099511627776 := by
      rw [wt_app]
      have e : wt (s :: M) = s.length + 1 + wt M := rfl
      have := HLL.out; omega
    have hl2 := HL2.out
    have hflat : [L.map mkT, [mkT s], M.map mkT].flatten.length < 8796093022208 := by
      have := HLL.out
      simp; omega
    clear c0 c1 c2 c3
    refine region_inv (by kernel_rfl) (fun u v => Below u.heap.size u v) (P5 (.agg #[.slice A S.flags.length cap, .bool true, .bool S.unknown, .int .i64 S.fold]) (.slice va0 van vac) (.slice vb0 vbn vbc) w3.heap.size S L M s) (fun i => decide (i = 11) || decide (i = 12)) (fun i => [58, 59, 60, 61, 62, 63, 64, 65, 66, 67, 68, 9, 10].getD i 0) 13
      (Below.refl _ _) (fun _ _ _ h k => below_step h k) (fun i hi v u u' h hb => P5.below hi h hb) ?_ (hgd_none (by kernel_rfl)) (by kernel_rfl) (by kernel_rfl) (by kernel_rfl) (by kernel_rfl) ?_ ?_
    · intro i hi hA v u h
      have hA2 : i = 11 ∨ i = 12 := by simpa using hA
      rcases hA2 with rfl | rfl
      · obtain ⟨g, rfl, _, h⟩ := h; exact in_of h
      · obtain ⟨g, rfl, _, h⟩ := h; exact in_of h
    · intro i hi o ho a u hG hk hd
      have hG9 : Below w3.heap.size w3 u := ((Below.refl _ _).drew).trans hG
      match i, hi with
      | 0, _ =>
        simp only [List.getElem?_toArray, List.getElem?_cons_zero, List.getElem?_cons_succ, Option.some.injEq] at ho
        subst ho
        exact ow_load_set rfl ((hk 4 (by decide)).trans rfl) (block_kept q3 hG9) ⟨_, rfl, rfl, Below.refl _ _, fun h => by cases h⟩
      | 1, _ =>
        simp only [List.getElem?_toArray, List.getElem?_cons_zero, List.getElem?_cons_succ, Option.some.injEq] at ho
        subst ho
        exact ow_move rfl ((hk 1 (by decide)).trans rfl) ⟨_, rfl, rfl, Below.refl _ _, fun h => by cases h⟩
      | 2, _ =>
        simp only [List.getElem?_toArray, List.getElem?_cons_zero, List.getElem?_cons_succ, Option.some.injEq] at ho
        subst ho
        have h59 : a.eval (.tmp 59) = .slice va0 van vac := hd 1 (by kernel_rfl) (by decide)
        have h58 : a.eval (.tmp 58) = .agg #[.slice A S.flags.length cap, .bool true, .bool S.unknown, .int .i64 S.fold] := hd 0 (by kernel_rfl) (by decide)
        have h59 : TextIn u (a.eval (.tmp 59)) (L.map mkT) := (by rw [h59]; exact HVA.out.below (hbx.trans (hG9.mono hbx.size)))
        refine ow_call #[.tmp 58, .tmp 59] #[24, 25] 26 Try.func26 (by kernel_rfl) (by rfl) rfl #[.agg #[.slice A S.flags.length cap, .bool true, .bool S.unknown, .int .i64 S.fold], a.eval (.tmp 59)] (by simp only [List.map_toArray, List.map_cons, List.map_nil, h58]) (HPC.out u (hbx.trans (hG9.mono hbx.size)) _ _ h59 hw1 hl1) ?_
        rintro e u2 ⟨v, rfl, hv2, hb2⟩
        exact ⟨v, rfl, _, rfl, hv2, hb2, fun h => by cases h⟩
      | 3, _ =>
        simp only [List.getElem?_toArray, List.getElem?_cons_zero, List.getElem?_cons_succ, Option.some.injEq] at ho
        subst ho
        exact ow_load_set rfl ((hk 4 (by decide)).trans rfl) (block_kept q3 hG9) ⟨_, rfl, rfl, Below.refl _ _, fun h => by cases h⟩
      | 4, _ =>
        simp only [List.getElem?_toArray, List.getElem?_cons_zero, List.getElem?_cons_succ, Option.some.injEq] at ho
        subst ho
        exact ow_move rfl ((hk 1 (by decide)).trans rfl) ⟨_, rfl, rfl, Below.refl _ _, fun h => by cases h⟩
      | 5, _ =>
        simp only [List.getElem?_toArray, List.getElem?_cons_zero, List.getElem?_cons_succ, Option.some.injEq] at ho
        subst ho
        exact ow_move rfl ((hk 2 (by decide)).trans rfl) ⟨_, rfl, rfl, Below.refl _ _, fun h => by cases h⟩
      | 6, _ =>
        simp only [List.getElem?_toArray, List.getElem?_cons_zero, List.getElem?_cons_succ, Option.some.injEq] at ho
        subst ho
        have h63 : a.eval (.tmp 63) = .string (mkT s) := hd 5 (by kernel_rfl) (by decide)
        exact ow_build1 (s := mkT s) (v := .nilIface) rfl h63 ⟨_, rfl, ⟨_, rfl, heap_alloc_new _ _⟩, (Below.refl _ _).alloc (Nat.le_refl _) _, fun h => by cases h⟩
      | 7, _ =>
        simp only [List.getElem?_toArray, List.getElem?_cons_zero, List.getElem?_cons_succ, Option.some.injEq] at ho
        subst ho
        exact ow_move rfl ((hk 3 (by decide)).trans rfl) ⟨_, rfl, rfl, Below.refl _ _, fun h => by cases h⟩
      | 8, _ =>
        simp only [List.getElem?_toArray, List.getElem?_cons_zero, List.getElem?_cons_succ, Option.some.injEq] at ho
        subst ho
        have h62 : a.eval (.tmp 62) = .slice va0 van vac := hd 4 (by kernel_rfl) (by decide)
        obtain ⟨g, h64, hg⟩ := hd 6 (by kernel_rfl) (by decide)
        have h65 : a.eval (.tmp 65) = .slice vb0 vbn vbc := hd 7 (by kernel_rfl) (by decide)
        exact ow_rows3 rfl h62 h64 h65 ⟨_, rfl, ⟨_, _, rfl, rows3 (heap_alloc_new _ _) ((HVA.out.below (hbx.trans (hG9.mono hbx.size))).below ((Below.refl _ _).alloc (Nat.le_refl _) _)) ((one_text hg).below ((Below.refl _ _).alloc (Nat.le_refl _) _)) ((HVB.out.below (hbx.trans (hG9.mono hbx.size))).below ((Below.refl _ _).alloc (Nat.le_refl _) _))⟩, (Below.refl _ _).alloc (Nat.le_refl _) _, fun h => by cases h⟩
      | 9, _ =>
        simp only [List.getElem?_toArray, List.getElem?_cons_zero, List.getElem?_cons_succ, Option.some.injEq] at ho
        subst ho
        obtain ⟨g, vs, h66', hr⟩ := hd 8 (by kernel_rfl) (by decide)
        have h66 : a.eval (.tmp 66) = .slice (some ⟨g, 0, none⟩) 3 3 := h66'
        have hl14 : Calls Try.prog 27 #[.slice (some ⟨g, 0, none⟩) 3 3] u _ := list14_c (ls := [L.map mkT, [mkT s], M.map mkT]) hr (by (show 3 ≤ 2147483647; decide)) (Nat.le_refl 3) hflat
        refine ow_call #[.tmp 66] #[68] 27 Try.func27 (by kernel_rfl) (by rfl) rfl #[.slice (some ⟨g, 0, none⟩) 3 3] (by simp only [List.map_toArray, List.map_cons, List.map_nil, h66]) hl14 ?_
        rintro e u2 ⟨v, rfl, hv2, hb2⟩
        refine ⟨v, rfl, _, rfl, ?_, hb2, fun h => by cases h⟩
        show TextIn u2 v ((L ++ s :: M).map mkT)
        rw [map_mid1]
        simpa using hv2
      | 10, _ =>
        simp only [List.getElem?_toArray, List.getElem?_cons_zero, List.getElem?_cons_succ, Option.some.injEq] at ho
        subst ho
        have h61 : a.eval (.tmp 61) = .agg #[.slice A S.flags.length cap, .bool true, .bool S.unknown, .int .i64 S.fold] := hd 3 (by kernel_rfl) (by decide)
        have h67 : TextIn u (a.eval (.tmp 67)) ((L ++ s :: M).map mkT) := hd 9 (by kernel_rfl) (by decide)
        refine ow_call #[.tmp 61, .tmp 67] #[24, 25] 26 Try.func26 (by kernel_rfl) (by rfl) rfl #[.agg #[.slice A S.flags.length cap, .bool true, .bool S.unknown, .int .i64 S.fold], a.eval (.tmp 67)] (by simp only [List.map_toArray, List.map_cons, List.map_nil, h61]) (HPC.out u (hbx.trans (hG9.mono hbx.size)) _ _ h67 hw2 hl2) ?_
        rintro e u2 ⟨v, rfl, hv2, hb2⟩
        exact ⟨v, rfl, _, rfl, hv2, hb2, fun h => by cases h⟩
      | 11, _ =>
        simp only [List.getElem?_toArray, List.getElem?_cons_zero, List.getElem?_cons_succ, Option.some.injEq] at ho
        subst ho
        exact ow_alloc_hd rfl ⟨_, rfl, ⟨_, rfl, hG9.size, heap_alloc_new _ _⟩, (Below.refl _ _).alloc (Nat.le_refl _) _, fun _ => not_in⟩
      | 12, _ =>
        simp only [List.getElem?_toArray, List.getElem?_cons_zero, List.getElem?_cons_succ, Option.some.injEq] at ho
        subst ho
        exact ow_alloc_hd rfl ⟨_, rfl, ⟨_, rfl, hG9.size, heap_alloc_new _ _⟩, (Below.refl _ _).alloc (Nat.le_refl _) _, fun _ => not_in⟩
      | k + 13, hi => exact absurd hi (by omega)
    · intro x u hG hx hdif
      have hG9 : Below w3.heap.size w3 u := ((Below.refl _ _).drew).trans hG
      obtain ⟨g7, e7, hB7, hg7⟩ := hx 11 (by decide)
      obtain ⟨g8, e8, hB8, hg8⟩ := hx 12 (by decide)
      have hne : g8 ≠ g7 := fun e => hdif 11 12 (by decide) (by decide) (by decide) rfl rfl (by rw [e7, e8, e])
      obtain ⟨ga, gc, ta, tc, ca, cc, e41, hrow1⟩ := hx 2 (by decide)
      have h9 := hx 10 (by decide)
      have h9 : HeardOwn u (psOf none true (goes S none st0 (L ++ s :: M))) (goes S none st0 (L ++ s :: M)).err S.flags.length (x 10) := h9
      rw [HAP.out] at h9
      have hlA := goes_len S none st0 L
      have hEr := HER.out
      have hdash := HDA.out
      have hAr := HAR.out
      generalize hst : goes S none st0 L = st at e41 hrow1 h9 hlA hEr hdash hAr
      have hlA : st.given.length ≤ 0 + wt L ∧ st.args.length ≤ 0 + L.length := hlA
      clear hst
      obtain ⟨ga2, gc2, ta2, tc2, ca2, cc2, e48, hrow2⟩ := h9
      simp only [putAll, Act.put, List.getD_cons_zero, List.getD_cons_succ, List.setIfInBounds_toArray, List.set_cons_succ, List.set_cons_zero]
      refine wpAny_next (i := 13) (by kernel_rfl) rfl rfl ?_
      refine ow_store_hd (s := psOf none true st) (er := st.err) (n := S.flags.length) rfl rfl e7 e41 hg7 ?_
      have hU7 := hdPut_blk (psOf none true st) st.err S.flags.length (.slice ga (psOf none true st).G.length gc) (.slice ta (psOf none true st).A.length tc) (.slice ca (chL (psOf none true st).chg S.flags.length).length cc) hg7
      have hU8 := (hdPut_other (psOf none true st) st.err (.slice ga (psOf none true st).G.length gc) (.slice ta (psOf none true st).A.length tc) (.slice ca (chL (psOf none true st).chg S.flags.length).length cc) (w := u) hne).trans hg8
      have hrow1 := hrow1.put (t := psOf none true st) (er := st.err) (G' := .slice ga (psOf none true st).G.length gc) (A' := .slice ta (psOf none true st).A.length tc) (C' := .slice ca (chL (psOf none true st).chg S.flags.length).length cc) hg7
      have hrow2 := hrow2.put (t := psOf none true st) (er := st.err) (G' := .slice ga (psOf none true st).G.length gc) (A' := .slice ta (psOf none true st).A.length tc) (C' := .slice ca (chL (psOf none true st).chg S.flags.length).length cc) hg7
      have hbU : Below w3.heap.size w3 (hdPut u g7 (psOf none true st) st.err (.slice ga (psOf none true st).G.length gc) (.slice ta (psOf none true st).A.length tc) (.slice ca (chL (psOf none true st).chg S.flags.length).length cc)) := hdPut_below _ _ _ _ _ hG9 hB7
      generalize hdPut u g7 (psOf none true st) st.err (.slice ga (psOf none true st).G.length gc) (.slice ta (psOf none true st).A.length tc) (.slice ca (chL (psOf none true st).chg S.flags.length).length cc) = U1 at hU7 hU8 hrow1 hrow2 hbU ⊢
      refine wpAny_last (i := 14) (by kernel_rfl) rfl rfl (by kernel_rfl) ?_
      generalize hs2 : psOf none true { st with args := st.args ++ (s :: M) } = s2 at hrow2 e48
      refine ow_store_hd (s := s2) (er := st.err) (n := S.flags.length) rfl rfl e8 e48 hU8 ?_
      rw [e7, e8]
      have hV8 := hdPut_blk s2 st.err S.flags.length (.slice ga2 s2.G.length gc2) (.slice ta2 s2.A.length tc2) (.slice ca2 (chL s2.chg S.flags.length).length cc2) hU8
      have hV7 := (hdPut_other s2 st.err (.slice ga2 s2.G.length gc2) (.slice ta2 s2.A.length tc2) (.slice ca2 (chL s2.chg S.flags.length).length cc2) (w := U1) (Ne.symm hne)).trans hU7
      have hrow1 := hrow1.put (t := s2) (er := st.err) (G' := .slice ga2 s2.G.length gc2) (A' := .slice ta2 s2.A.length tc2) (C' := .slice ca2 (chL s2.chg S.flags.length).length cc2) hU8
      have hrow2 := hrow2.put (t := s2) (er := st.err) (G' := .slice ga2 s2.G.length gc2) (A' := .slice ta2 s2.A.length tc2) (C' := .slice ca2 (chL s2.chg S.flags.length).length cc2) hU8
      have hbU : Below w3.heap.size w3 (hdPut U1 g8 s2 st.err (.slice ga2 s2.G.length gc2) (.slice ta2 s2.A.length tc2) (.slice ca2 (chL s2.chg S.flags.length).length cc2)) := hdPut_below _ _ _ _ _ hbU hB8
      generalize hdPut U1 g8 s2 st.err (.slice ga2 s2.G.length gc2) (.slice ta2 s2.A.length tc2) (.slice ca2 (chL s2.chg S.flags.length).length cc2) = U at hV7 hV8 hrow1 hrow2 hbU ⊢
      subst hs2
      have y75 : U.cell? ⟨g7, 5, none⟩ = some (.slice ga st.given.length gc) := (cell_blk hV7 5).trans rfl
      have y80 : U.cell? ⟨g8, 0, none⟩ = some (.int .i64 0) := (cell_blk hV8 0).trans (by rw [hEr]; rfl)
      have y85 : U.cell? ⟨g8, 5, none⟩ = some (.slice ga2 st.given.length gc2) := (cell_blk hV8 5).trans rfl
      have y86 : U.cell? ⟨g8, 6, none⟩ = some (.slice ta2 (s :: M).length tc2) := (cell_blk hV8 6).trans (show _ = some (Value.slice ta2 (s :: M).length tc2) from (show _ = some (Value.slice ta2 (st.args ++ (s :: M)).length tc2) from rfl).trans (by rw [hAr]; rfl))
      have y87 : U.cell? ⟨g8, 7, none⟩ = some (.int .i64 st.dash) := (cell_blk hV8 7).trans rfl
      have hbwU : Below w.heap.size w U := hbx.trans (hbU.mono hbx.size)
      obtain ⟨_, r11, r12, r13, _⟩ := own_full hrow1.1
      obtain ⟨_, r21, r22, r23, _⟩ := own_full hrow2.1
      have HTB := Lib.hid ((show TextIn U (.slice ta2 (s :: M).length tc2) ((s :: M).map mkT) from by
        have h := hrow2.hdIn.2.1
        have h : TextIn U (.slice ta2 (st.args ++ (s :: M)).length tc2) ((st.args ++ (s :: M)).map mkT) := h
        rw [hAr] at h; exact h))
      have HVC := Lib.hid (HVB.out.below hbwU)
      have hgl : st.given.length ≤ 1099511627776 := by have := HLL.out; omega
      have HSG : Hid (∀ (W : World), Below U.heap.size U W → Calls Try.prog 34 #[.slice ga st.given.length gc, .slice ga2 st.given.length gc2] W (fun e w' => e = .returned (.bool true) ∧ Below W.heap.size W w')) := Lib.hid (fun W hb => by
        have h := sameGiven_c (G := st.given) (H := st.given) (rowAt_below r11 hb) r12 hgl (rowAt_below r21 hb) r22 hgl
        rw [decide_eq_true rfl] at h
        exact h)
      have hflat2 : [[mkT s], M.map mkT].flatten.length < 8796093022208 := by
        have := HLL.out
        simp; omega
      have hmx : ((s :: M).map mkT).length ≤ 9223372036854775806 := by
        have := HLL.out
        simp; omega
      clear hAr hrow1 hrow2 r11 r12 r13 r21 r22 r23 hV7 hV8 hU7 hU8 hg7 hg8 e41 e48 e7 e8 hdif hx
      go_upto_region 6 with fail
      refine region_inv (by kernel_rfl) (fun u v => Below u.heap.size u v) (P6 g7 g8 st.dash (.slice ga st.given.length gc) (.slice ga2 st.given.length gc2) (.slice vb0 vbn vbc) (.slice ta2 (s :: M).length tc2) s M) (fun i => false) (fun i => [69, 70, 71, 72, 73, 74, 75, 76, 77, 78, 79, 80, 81, 82, 83, 84, 85, 86, 87, 88, 89, 90, 91, 92, 93, 94, 95, 96, 8].getD i 0) 29
        (Below.refl _ _) (fun _ _ _ h k => below_step h k) (fun i hi v u u' h hb => P6.below hi h hb) ?_ ?_ (by kernel_rfl) (by kernel_rfl) (by kernel_rfl) (by kernel_rfl) ?_ ?_
      · intro i hi hA; cases hA
      · intro i hi o ho g want hg v u hR
        match i, hi with
        | 0, _ =>
          simp only [List.getElem?_toArray, List.getElem?_cons_zero, List.getElem?_cons_succ, Option.some.injEq] at ho
          subst ho
          cases hg
        | 1, _ =>
          simp only [List.getElem?_toArray, List.getElem?_cons_zero, List.getElem?_cons_succ, Option.some.injEq] at ho
          subst ho
          cases hg
        | 2, _ =>
          simp only [List.getElem?_toArray, List.getElem?_cons_zero, List.getElem?_cons_succ, Option.some.injEq] at ho
          subst ho
          cases hg
        | 3, _ =>
          simp only [List.getElem?_toArray, List.getElem?_cons_zero, List.getElem?_cons_succ, Option.some.injEq] at ho
          subst ho
          cases hg
        | 4, _ =>
          simp only [List.getElem?_toArray, List.getElem?_cons_zero, List.getElem?_cons_succ, Option.some.injEq] at ho
          subst ho
          cases hg; exact hR
        | 5, _ =>
          simp only [List.getElem?_toArray, List.getElem?_cons_zero, List.getElem?_cons_succ, Option.some.injEq] at ho
          subst ho
          cases hg; exact hR
        | 6, _ =>
          simp only [List.getElem?_toArray, List.getElem?_cons_zero, List.getElem?_cons_succ, Option.some.injEq] at ho
          subst ho
          cases hg; exact hR
        | 7, _ =>
          simp only [List.getElem?_toArray, List.getElem?_cons_zero, List.getElem?_cons_succ, Option.some.injEq] at ho
          subst ho
          cases hg
        | 8, _ =>
          simp only [List.getElem?_toArray, List.getElem?_cons_zero, List.getElem?_cons_succ, Option.some.injEq] at ho
          subst ho
          cases hg
        | 9, _ =>
          simp only [List.getElem?_toArray, List.getElem?_cons_zero, List.getElem?_cons_succ, Option.some.injEq] at ho
          subst ho
          cases hg; exact hR
        | 10, _ =>
          simp only [List.getElem?_toArray, List.getElem?_cons_zero, List.getElem?_cons_succ, Option.some.injEq] at ho
          subst ho
          cases hg; exact hR
        | 11, _ =>
          simp only [List.getElem?_toArray, List.getElem?_cons_zero, List.getElem?_cons_succ, Option.some.injEq] at ho
          subst ho
          cases hg; exact hR
        | 12, _ =>
          simp only [List.getElem?_toArray, List.getElem?_cons_zero, List.getElem?_cons_succ, Option.some.injEq] at ho
          subst ho
          cases hg; exact hR
        | 13, _ =>
          simp only [List.getElem?_toArray, List.getElem?_cons_zero, List.getElem?_cons_succ, Option.some.injEq] at ho
          subst ho
          cases hg; exact hR
        | 14, _ =>
          simp only [List.getElem?_toArray, List.getElem?_cons_zero, List.getElem?_cons_succ, Option.some.injEq] at ho
          subst ho
          cases hg
        | 15, _ =>
          simp only [List.getElem?_toArray, List.getElem?_cons_zero, List.getElem?_cons_succ, Option.some.injEq] at ho
          subst ho
          cases hg
        | 16, _ =>
          simp only [List.getElem?_toArray, List.getElem?_cons_zero, List.getElem?_cons_succ, Option.some.injEq] at ho
          subst ho
          cases hg; exact hR
        | 17, _ =>
          simp only [List.getElem?_toArray, List.getElem?_cons_zero, List.getElem?_cons_succ, Option.some.injEq] at ho
          subst ho
          cases hg; exact hR
        | 18, _ =>
          simp only [List.getElem?_toArray, List.getElem?_cons_zero, List.getElem?_cons_succ, Option.some.injEq] at ho
          subst ho
          cases hg; exact hR
        | 19, _ =>
          simp only [List.getElem?_toArray, List.getElem?_cons_zero, List.getElem?_cons_succ, Option.some.injEq] at ho
          subst ho
          cases hg; exact hR
        | 20, _ =>
          simp only [List.getElem?_toArray, List.getElem?_cons_zero, List.getElem?_cons_succ, Option.some.injEq] at ho
          subst ho
          cases hg; exact hR
        | 21, _ =>
          simp only [List.getElem?_toArray, List.getElem?_cons_zero, List.getElem?_cons_succ, Option.some.injEq] at ho
          subst ho
          cases hg; exact hR
        | 22, _ =>
          simp only [List.getElem?_toArray, List.getElem?_cons_zero, List.getElem?_cons_succ, Option.some.injEq] at ho
          subst ho
          cases hg; exact hR
        | 23, _ =>
          simp only [List.getElem?_toArray, List.getElem?_cons_zero, List.getElem?_cons_succ, Option.some.injEq] at ho
          subst ho
          cases hg; exact hR
        | 24, _ =>
          simp only [List.getElem?_toArray, List.getElem?_cons_zero, List.getElem?_cons_succ, Option.some.injEq] at ho
          subst ho
          cases hg
        | 25, _ =>
          simp only [List.getElem?_toArray, List.getElem?_cons_zero, List.getElem?_cons_succ, Option.some.injEq] at ho
          subst ho
          cases hg
        | 26, _ =>
          simp only [List.getElem?_toArray, List.getElem?_cons_zero, List.getElem?_cons_succ, Option.some.injEq] at ho
          subst ho
          cases hg; exact hR
        | 27, _ =>
          simp only [List.getElem?_toArray, List.getElem?_cons_zero, List.getElem?_cons_succ, Option.some.injEq] at ho
          subst ho
          cases hg
        | 28, _ =>
          simp only [List.getElem?_toArray, List.getElem?_cons_zero, List.getElem?_cons_succ, Option.some.injEq] at ho
          subst ho
          cases hg
        | k + 29, hi => exact absurd hi (by omega)
      · intro i hi o ho a u hG hk hd
        have hG9 : Below U.heap.size U u := ((Below.refl _ _).drew).trans hG
        match i, hi with
        | 0, _ =>
          simp only [List.getElem?_toArray, List.getElem?_cons_zero, List.getElem?_cons_succ, Option.some.injEq] at ho
          subst ho
          exact ow_field_hd (i := 0) (by decide) rfl ((hk 10 (by decide)).trans rfl) ⟨_, rfl, rfl, Below.refl _ _, fun h => by cases h⟩
        | 1, _ =>
          simp only [List.getElem?_toArray, List.getElem?_cons_zero, List.getElem?_cons_succ, Option.some.injEq] at ho
          subst ho
          have e69 : a.eval (.tmp 69) = .pointer (some ⟨g8, 0, none⟩) := hd 0 (by kernel_rfl) (by decide)
          exact ow_load_int rfl e69 (cell_kept hG9 y80) ⟨_, rfl, rfl, Below.refl _ _, fun h => by cases h⟩
        | 2, _ =>
          simp only [List.getElem?_toArray, List.getElem?_cons_zero, List.getElem?_cons_succ, Option.some.injEq] at ho
          subst ho
          have e70 : a.eval (.tmp 70) = .int .i64 0 := hd 1 (by kernel_rfl) (by decide)
          exact ow_eql_int rfl e70 rfl ⟨_, rfl, rfl, Below.refl _ _, fun h => by cases h⟩
        | 3, _ =>
          simp only [List.getElem?_toArray, List.getElem?_cons_zero, List.getElem?_cons_succ, Option.some.injEq] at ho
          subst ho
          have e71 : a.eval (.tmp 71) = .bool true := hd 2 (by kernel_rfl) (by decide)
          exact ow_move rfl e71 ⟨_, rfl, rfl, Below.refl _ _, fun h => by cases h⟩
        | 4, _ =>
          simp only [List.getElem?_toArray, List.getElem?_cons_zero, List.getElem?_cons_succ, Option.some.injEq] at ho
          subst ho
          exact ow_field_hd (i := 7) (by decide) rfl ((hk 10 (by decide)).trans rfl) ⟨_, rfl, rfl, Below.refl _ _, fun h => by cases h⟩
        | 5, _ =>
          simp only [List.getElem?_toArray, List.getElem?_cons_zero, List.getElem?_cons_succ, Option.some.injEq] at ho
          subst ho
          have e73 : a.eval (.tmp 73) = .pointer (some ⟨g8, 7, none⟩) := hd 4 (by kernel_rfl) (by decide)
          exact ow_load_int rfl e73 (cell_kept hG9 y87) ⟨_, rfl, rfl, Below.refl _ _, fun h => by cases h⟩
        | 6, _ =>
          simp only [List.getElem?_toArray, List.getElem?_cons_zero, List.getElem?_cons_succ, Option.some.injEq] at ho
          subst ho
          have e74 : a.eval (.tmp 74) = .int .i64 st.dash := hd 5 (by kernel_rfl) (by decide)
          exact ow_lss_int rfl e74 rfl ⟨_, rfl, congrArg Value.bool (decide_eq_true hdash), Below.refl _ _, fun h => by cases h⟩
        | 7, _ =>
          simp only [List.getElem?_toArray, List.getElem?_cons_zero, List.getElem?_cons_succ, Option.some.injEq] at ho
          subst ho
          have e72 : a.eval (.tmp 72) = .bool true := hd 3 (by kernel_rfl) (by decide)
          have e75 : a.eval (.tmp 75) = .bool true := hd 6 (by kernel_rfl) (by decide)
          exact ow_pick rfl e72 e75 ⟨_, rfl, rfl, Below.refl _ _, fun h => by cases h⟩
        | 8, _ =>
          simp only [List.getElem?_toArray, List.getElem?_cons_zero, List.getElem?_cons_succ, Option.some.injEq] at ho
          subst ho
          have e76 : a.eval (.tmp 76) = .bool true := hd 7 (by kernel_rfl) (by decide)
          exact ow_move rfl e76 ⟨_, rfl, rfl, Below.refl _ _, fun h => by cases h⟩
        | 9, _ =>
          simp only [List.getElem?_toArray, List.getElem?_cons_zero, List.getElem?_cons_succ, Option.some.injEq] at ho
          subst ho
          exact ow_field_hd (i := 5) (by decide) rfl ((hk 9 (by decide)).trans rfl) ⟨_, rfl, rfl, Below.refl _ _, fun h => by cases h⟩
        | 10, _ =>
          simp only [List.getElem?_toArray, List.getElem?_cons_zero, List.getElem?_cons_succ, Option.some.injEq] at ho
          subst ho
          have e78 : a.eval (.tmp 78) = .pointer (some ⟨g7, 5, none⟩) := hd 9 (by kernel_rfl) (by decide)
          exact ow_load_given rfl e78 (cell_kept hG9 y75) ⟨_, rfl, rfl, Below.refl _ _, fun h => by cases h⟩
        | 11, _ =>
          simp only [List.getElem?_toArray, List.getElem?_cons_zero, List.getElem?_cons_succ, Option.some.injEq] at ho
          subst ho
          exact ow_field_hd (i := 5) (by decide) rfl ((hk 10 (by decide)).trans rfl) ⟨_, rfl, rfl, Below.refl _ _, fun h => by cases h⟩
        | 12, _ =>
          simp only [List.getElem?_toArray, List.getElem?_cons_zero, List.getElem?_cons_succ, Option.some.injEq] at ho
          subst ho
          have e80 : a.eval (.tmp 80) = .pointer (some ⟨g8, 5, none⟩) := hd 11 (by kernel_rfl) (by decide)
          exact ow_load_given rfl e80 (cell_kept hG9 y85) ⟨_, rfl, rfl, Below.refl _ _, fun h => by cases h⟩
        | 13, _ =>
          simp only [List.getElem?_toArray, List.getElem?_cons_zero, List.getElem?_cons_succ, Option.some.injEq] at ho
          subst ho
          have e79 : a.eval (.tmp 79) = _ := hd 10 (by kernel_rfl) (by decide)
          have e81 : a.eval (.tmp 81) = _ := hd 12 (by kernel_rfl) (by decide)
          refine ow_call #[.tmp 79, .tmp 81] #[29, 29] 34 Try.func34 (by kernel_rfl) (by rfl) rfl #[_, _] (by simp only [List.map_toArray, List.map_cons, List.map_nil, e79, e81]) (HSG.out u hG9) ?_
          rintro e u2 ⟨rfl, hb2⟩
          exact ⟨_, rfl, _, rfl, rfl, hb2, fun h => by cases h⟩
        | 14, _ =>
          simp only [List.getElem?_toArray, List.getElem?_cons_zero, List.getElem?_cons_succ, Option.some.injEq] at ho
          subst ho
          have e77 : a.eval (.tmp 77) = .bool true := hd 8 (by kernel_rfl) (by decide)
          have e82 : a.eval (.tmp 82) = .bool true := hd 13 (by kernel_rfl) (by decide)
          exact ow_pick rfl e77 e82 ⟨_, rfl, rfl, Below.refl _ _, fun h => by cases h⟩
        | 15, _ =>
          simp only [List.getElem?_toArray, List.getElem?_cons_zero, List.getElem?_cons_succ, Option.some.injEq] at ho
          subst ho
          have e83 : a.eval (.tmp 83) = .bool true := hd 14 (by kernel_rfl) (by decide)
          exact ow_move rfl e83 ⟨_, rfl, rfl, Below.refl _ _, fun h => by cases h⟩
        | 16, _ =>
          simp only [List.getElem?_toArray, List.getElem?_cons_zero, List.getElem?_cons_succ, Option.some.injEq] at ho
          subst ho
          exact ow_field_hd (i := 6) (by decide) rfl ((hk 10 (by decide)).trans rfl) ⟨_, rfl, rfl, Below.refl _ _, fun h => by cases h⟩
        | 17, _ =>
          simp only [List.getElem?_toArray, List.getElem?_cons_zero, List.getElem?_cons_succ, Option.some.injEq] at ho
          subst ho
          have e85 : a.eval (.tmp 85) = .pointer (some ⟨g8, 6, none⟩) := hd 16 (by kernel_rfl) (by decide)
          exact ow_load_texts rfl e85 (cell_kept hG9 y86) ⟨_, rfl, rfl, Below.refl _ _, fun h => by cases h⟩
        | 18, _ =>
          simp only [List.getElem?_toArray, List.getElem?_cons_zero, List.getElem?_cons_succ, Option.some.injEq] at ho
          subst ho
          exact ow_move rfl ((hk 2 (by decide)).trans rfl) ⟨_, rfl, rfl, Below.refl _ _, fun h => by cases h⟩
        | 19, _ =>
          simp only [List.getElem?_toArray, List.getElem?_cons_zero, List.getElem?_cons_succ, Option.some.injEq] at ho
          subst ho
          have e87 : a.eval (.tmp 87) = .string (mkT s) := hd 18 (by kernel_rfl) (by decide)
          exact ow_build1 (s := mkT s) (v := .nilIface) rfl e87 ⟨_, rfl, ⟨_, rfl, heap_alloc_new _ _⟩, (Below.refl _ _).alloc (Nat.le_refl _) _, fun h => by cases h⟩
        | 20, _ =>
          simp only [List.getElem?_toArray, List.getElem?_cons_zero, List.getElem?_cons_succ, Option.some.injEq] at ho
          subst ho
          exact ow_move rfl ((hk 3 (by decide)).trans rfl) ⟨_, rfl, rfl, Below.refl _ _, fun h => by cases h⟩
        | 21, _ =>
          simp only [List.getElem?_toArray, List.getElem?_cons_zero, List.getElem?_cons_succ, Option.some.injEq] at ho
          subst ho
          obtain ⟨g, e88, hg⟩ := hd 19 (by kernel_rfl) (by decide)
          have e89 : a.eval (.tmp 89) = .slice vb0 vbn vbc := hd 20 (by kernel_rfl) (by decide)
          exact ow_rows2 rfl e88 e89 ⟨_, rfl, ⟨_, _, rfl, rows2 (heap_alloc_new _ _) ((one_text hg).below ((Below.refl _ _).alloc (Nat.le_refl _) _)) ((HVC.out.below hG9).below ((Below.refl _ _).alloc (Nat.le_refl _) _))⟩, (Below.refl _ _).alloc (Nat.le_refl _) _, fun h => by cases h⟩
        | 22, _ =>
          simp only [List.getElem?_toArray, List.getElem?_cons_zero, List.getElem?_cons_succ, Option.some.injEq] at ho
          subst ho
          obtain ⟨g, vs, e90', hr⟩ := hd 21 (by kernel_rfl) (by decide)
          have e90 : a.eval (.tmp 90) = .slice (some ⟨g, 0, none⟩) 2 2 := e90'
          have hl14 : Calls Try.prog 27 #[.slice (some ⟨g, 0, none⟩) 2 2] u _ := list14_c (ls := [[mkT s], M.map mkT]) hr (by (show 2 ≤ 2147483647; decide)) (Nat.le_refl 2) hflat2
          refine ow_call #[.tmp 90] #[68] 27 Try.func27 (by kernel_rfl) (by rfl) rfl #[.slice (some ⟨g, 0, none⟩) 2 2] (by simp only [List.map_toArray, List.map_cons, List.map_nil, e90]) hl14 ?_
          rintro e u2 ⟨v, rfl, hv2, hb2⟩
          refine ⟨v, rfl, _, rfl, ?_, hb2, fun h => by cases h⟩
          show TextIn u2 v ((s :: M).map mkT)
          simpa using hv2
        | 23, _ =>
          simp only [List.getElem?_toArray, List.getElem?_cons_zero, List.getElem?_cons_succ, Option.some.injEq] at ho
          subst ho
          have e91 : TextIn u (a.eval (.tmp 91)) ((s :: M).map mkT) := hd 22 (by kernel_rfl) (by decide)
          have e86 : a.eval (.tmp 86) = _ := hd 17 (by kernel_rfl) (by decide)
          refine ow_call #[.tmp 86, .tmp 91] #[25, 25] 23 Try.func23 (by kernel_rfl) (by rfl) rfl #[_, a.eval (.tmp 91)] (by simp only [List.map_toArray, List.map_cons, List.map_nil, e86]) (sameTexts_c (HTB.out.below hG9) e91 hmx) ?_
          rintro e u2 ⟨rfl, hb2⟩
          exact ⟨_, rfl, _, rfl, congrArg Value.bool (decide_eq_true rfl), hb2, fun h => by cases h⟩
        | 24, _ =>
          simp only [List.getElem?_toArray, List.getElem?_cons_zero, List.getElem?_cons_succ, Option.some.injEq] at ho
          subst ho
          have e84 : a.eval (.tmp 84) = .bool true := hd 15 (by kernel_rfl) (by decide)
          have e92 : a.eval (.tmp 92) = .bool true := hd 23 (by kernel_rfl) (by decide)
          exact ow_pick rfl e84 e92 ⟨_, rfl, rfl, Below.refl _ _, fun h => by cases h⟩
        | 25, _ =>
          simp only [List.getElem?_toArray, List.getElem?_cons_zero, List.getElem?_cons_succ, Option.some.injEq] at ho
          subst ho
          have e93 : a.eval (.tmp 93) = .bool true := hd 24 (by kernel_rfl) (by decide)
          exact ow_move rfl e93 ⟨_, rfl, rfl, Below.refl _ _, fun h => by cases h⟩
        | 26, _ =>
          simp only [List.getElem?_toArray, List.getElem?_cons_zero, List.getElem?_cons_succ, Option.some.injEq] at ho
          subst ho
          refine ow_call #[] #[] 25 Try.func25 (by kernel_rfl) (by rfl) rfl #[] (by simp only [List.map_toArray, List.map_nil]) (lives_c u) ?_
          rintro e u2 ⟨rfl, hb2⟩
          exact ⟨_, rfl, _, rfl, rfl, hb2, fun h => by cases h⟩
        | 27, _ =>
          simp only [List.getElem?_toArray, List.getElem?_cons_zero, List.getElem?_cons_succ, Option.some.injEq] at ho
          subst ho
          have e94 : a.eval (.tmp 94) = .bool true := hd 25 (by kernel_rfl) (by decide)
          have e95 : a.eval (.tmp 95) = .bool true := hd 26 (by kernel_rfl) (by decide)
          exact ow_pick rfl e94 e95 ⟨_, rfl, rfl, Below.refl _ _, fun h => by cases h⟩
        | 28, _ =>
          simp only [List.getElem?_toArray, List.getElem?_cons_zero, List.getElem?_cons_succ, Option.some.injEq] at ho
          subst ho
          have e96 : a.eval (.tmp 96) = .bool true := hd 27 (by kernel_rfl) (by decide)
          exact ow_assign rfl e96 ⟨_, rfl, rfl, Below.refl _ _, fun h => by cases h⟩
        | k + 29, hi => exact absurd hi (by omega)
      · intro x u hG hx hdif
        have e31 : x 28 = _ := hx 28 (by decide)
        simp only [putAll, Act.put, List.getD_cons_zero, List.getD_cons_succ, List.setIfInBounds_toArray, List.set_cons_succ, List.set_cons_zero]
        refine wpAny_end (by kernel_rfl) ?_
        rw [e31]
        go_wp2
        go_ret
        exact yesEnd rfl (hbwU.trans ((((Below.refl _ _).drew).trans hG).mono hbwU.size))
end Go.Proofs.Ytgmhhdpggnmipaa.E
