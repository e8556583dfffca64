/- laws.FnUnknown over this seat's program. Written by gen_lwu.py. -/
import Derived.Test.YtgmhhdpggnmipaaNm
import Derived.Test.YtgmhhdpggnmipaaLw4
namespace Go.Proofs.Ytgmhhdpggnmipaa.E
open Go.RowKit Go.Proofs
set_option linter.unusedVariables false
set_option linter.unusedSimpArgs false
theorem two_texts {w : World} {g : Nat} {s t : ByteArray} {T : TypeId} (h : w.heap[g]? = some (.cells #[.string s, .string t] T (0, 0))) : TextIn w (.slice (some ⟨g, 0, none⟩) 2 2) [s, t] := by
  refine ⟨_, 2, rfl, ?_, Nat.le_refl _, by decide, (fun h => by cases h), (fun a e => by cases e; exact lt_of_block h)⟩
  intro i hi
  have hi : i < 2 := hi
  match i, hi with
  | 0, _ => exact ⟨g, 0, rfl, (cell_blk h 0).trans rfl⟩
  | 1, _ => exact ⟨g, 0, rfl, (cell_blk h 1).trans rfl⟩
theorem says_parse {w : World} {A : Option Addr} {S : SetP} (hS : SetOK w A S) (cap : Nat) (W : World) (hb : Below w.heap.size w W) (v : Value) (L : List Txt) (hv : TextIn W v (L.map mkT)) (hwt : wt L ≤ 1099511627776) (hls : ∀ t ∈ L, t.length ≤ 8589934592) :
    Calls Try.prog 26 #[.agg #[.slice A S.flags.length cap, .bool S.plain, .bool S.unknown, .int .i64 S.fold], v] W fun e w' => ∃ u, e = .returned u ∧ HeardOwn w' (psOf none true (goes S none st0 L)) (goes S none st0 L).err S.flags.length u ∧ Below W.heap.size W w' := parse_c (hS.below hb) cap hv hwt hls
theorem named_not {r : Int} {p : Prop} (h : 0 ≤ r ↔ p) (q : ¬ p) : r < 0 := by
  by_cases z : 0 ≤ r
  · exact absurd (h.1 z) q
  · omega
theorem no_byte {t : Txt} (h : ∀ j (hj : j < (mkT t).size), (mkT t)[j] ≠ 61) : ¬ (61 : UInt8) ∈ t := by
  intro hm
  obtain ⟨j, hj, e⟩ := List.getElem_of_mem hm
  have hj2 : j < (mkT t).size := by rw [mkT_size]; exact hj
  refine h j hj2 ?_
  rw [bget hj2]
  simpa [mkT_list] using e
theorem ow_load_hd {o : Oper} {a : Act} {w : World} {K : Act → World → Prop} {Q : Exit → Act → World → Prop} {x : Operand} {b n : Nat} {s : PS} {er : Er} {G A C : Value} {T : TypeId} (ho : o.op = .load 32 x) (hx : a.eval x = .pointer (some ⟨b, 0, none⟩)) (hb : w.heap[b]? = some (.cells (hdCells s er n G A C) T (0, 0))) (h : K (a.put o.dst (.agg (hdCells s er n G A C))) w) : Oper.wp Try.prog o a w K Q := by
  unfold hdCells at h
  have c0 : w.cell? ⟨b, 0, none⟩ = some (.int .i64 (eNo er)) := (cell_blk hb 0).trans rfl
  have c1 : w.cell? ⟨b, 1, none⟩ = some (.string (mkT (eName er))) := (cell_blk hb 1).trans rfl
  have c2 : w.cell? ⟨b, 2, none⟩ = some (.string (mkT (eShort er))) := (cell_blk hb 2).trans rfl
  have c3 : w.cell? ⟨b, 3, none⟩ = some (.string (mkT (eVal er))) := (cell_blk hb 3).trans rfl
  have c4 : w.cell? ⟨b, 4, none⟩ = some (.int .i64 (eFlag er)) := (cell_blk hb 4).trans rfl
  have c5 : w.cell? ⟨b, 5, none⟩ = some G := (cell_blk hb 5).trans rfl
  have c6 : w.cell? ⟨b, 6, none⟩ = some A := (cell_blk hb 6).trans rfl
  have c7 : w.cell? ⟨b, 7, none⟩ = some (.int .i64 s.dash) := (cell_blk hb 7).trans rfl
  have c8 : w.cell? ⟨b, 8, none⟩ = some C := (cell_blk hb 8).trans rfl
  have c9 : w.cell? ⟨b, 9, none⟩ = some (.bool s.parsed) := (cell_blk hb 9).trans rfl
  have c10 : w.cell? ⟨b, 10, none⟩ = some (.bool false) := (cell_blk hb 10).trans rfl
  unfold Oper.wp
  simp [execOp, ho, hx]
  go_simp
  exact h
theorem fit14_3t {w W : World} (hb : Below w.heap.size w W) {va0 vb0 : Option Addr} {van vac vbn vbc : Nat} {xs ys : List ByteArray} {z1 z2 : ByteArray} (ha : TextIn w (.slice va0 van vac) xs) (hv : TextIn w (.slice vb0 vbn vbc) ys) (hf : fits2 xs = true) (hg : fits2 ys = true) (h1 : z1.size ≤ 2147483647) (h2 : z2.size ≤ 2147483647) {b : Bool} (h : decide (wtBB [xs, ys, [z1, z2]] ≤ 1048576) = b) :
    Calls Try.prog 17 #[.slice (some ⟨W.heap.size + 1, 0, none⟩) 3 3] ((W.alloc (.cells #[.string z1, .string z2] 9)).alloc (.cells #[.slice va0 van vac, .slice vb0 vbn vbc, .slice (some ⟨W.heap.size, 0, none⟩) 2 2] 25)) fun e w' => e = .returned (.bool b) ∧ Below W.heap.size W w' := by
  subst h
  have e : W.heap.size + 1 = (W.alloc (.cells #[.string z1, .string z2] 9)).heap.size := by simp
  rw [e]
  have hk : ∀ (V : World) (o : Obj), Below V.heap.size V (V.alloc o) := fun V o => (Below.refl _ _).alloc (Nat.le_refl _) _
  have h := fits14_c (w := (W.alloc (.cells #[.string z1, .string z2] 9)).alloc (.cells #[.slice va0 van vac, .slice vb0 vbn vbc, .slice (some ⟨W.heap.size, 0, none⟩) 2 2] 25)) (ls := [xs, ys, [z1, z2]]) (rows3 (heap_alloc_new _ _) (((ha.below hb).below (hk _ _)).below (hk _ _)) (((hv.below hb).below (hk _ _)).below (hk _ _)) ((two_texts (heap_alloc_new W _)).below (hk _ _))) (by (show 3 ≤ 2147483647; decide)) (Nat.le_refl 3) (fun zs hzs => by
    simp only [List.mem_cons, List.not_mem_nil, or_false] at hzs
    rcases hzs with rfl | rfl | rfl
    · exact hf
    · exact hg
    · exact fits2_iff.2 ⟨by simp, fun x hx => by simp only [List.mem_cons, List.not_mem_nil, or_false] at hx; rcases hx with rfl | rfl <;> assumption⟩)
  refine h.mono ?_
  rintro e w' ⟨he, hb2⟩
  have h2 := (hk W (.cells #[.string z1, .string z2] 9)).trans (((hk (W.alloc (.cells #[.string z1, .string z2] 9)) (.cells #[.slice va0 van vac, .slice vb0 vbn vbc, .slice (some ⟨W.heap.size, 0, none⟩) 2 2] 25))).mono (by simp))
  exact ⟨he, h2.trans (hb2.mono h2.size)⟩

set_option maxRecDepth 100000 in
set_option maxHeartbeats 6400000 in
theorem unk_1 {w : World} {A : Option Addr} {F : List FlagP} (hA : FlagsAt w A F) {cap : Nat} (hc : F.length ≤ cap) (hm : cap ≤ 9223372036854775807) (pl un : Bool) (k : Int) (t vl : Txt) {va vb : Value} {L M : List Txt} (hva : TextIn w va (L.map mkT)) (hvb : TextIn w vb (M.map mkT)) (h1 : fits20 (F.map ofFlag) = false)  :
    Calls Try.prog 10 #[.agg #[.slice A F.length cap, .bool pl, .bool un, .int .i64 k], va, .string (mkT t), .string (mkT vl), vb] w (YesEnd w) := by
  have H19 := Lib.hid (says19 hA hc hm pl un k h1)
  have HVA := Lib.hid hva
  have HVB := Lib.hid hvb
  obtain ⟨va0, van, vac, hvae⟩ := hva.slice
  obtain ⟨vb0, vbn, vbc, hvbe⟩ := hvb.slice
  clear hva hvb
  subst hvae
  subst hvbe
  go_enter Try.func10, Try.ntmps10
  go_upto_region 1 with fail
  generalize hWX : w.alloc _ = WX
  have HB : Hid (Below w.heap.size w WX) := Lib.hid (by rw [← hWX]; exact (Below.refl _ _).alloc (Nat.le_refl _) _)
  have q3 : WX.heap[w.heap.size]? = some (.cells #[.slice A F.length cap, .bool pl, .bool un, .int .i64 k] 24 (0, 0)) := by rw [← hWX]; exact heap_alloc_new w _
  clear hWX
  have c0 : WX.cell? ⟨w.heap.size, 0, none⟩ = some (.slice A F.length cap) := (cell_blk q3 0).trans rfl
  have c1 : WX.cell? ⟨w.heap.size, 1, none⟩ = some (.bool pl) := (cell_blk q3 1).trans rfl
  have c2 : WX.cell? ⟨w.heap.size, 2, none⟩ = some (.bool un) := (cell_blk q3 2).trans rfl
  have c3 : WX.cell? ⟨w.heap.size, 3, none⟩ = some (.int .i64 k) := (cell_blk q3 3).trans rfl
  go_wp2_with (first | ((with_reducible go_at_call 14); (with_reducible refine Calls.mono (H19.out _ HB.out) ?_); rintro e w3 ⟨rfl, hb3⟩; have q3 := block_kept q3 hb3; have c0 := cell_kept hb3 c0; have c1 := cell_kept hb3 c1; have c2 := cell_kept hb3 c2; have c3 := cell_kept hb3 c3; have HB := Lib.hid (HB.out.trans (hb3.mono HB.out.size)); clear hb3) | ((with_reducible go_at_call 15); (with_reducible refine Calls.mono (H2a.out _ HB.out) ?_); rintro e w3 ⟨rfl, hb3⟩; have q3 := block_kept q3 hb3; have c0 := cell_kept hb3 c0; have c1 := cell_kept hb3 c1; have c2 := cell_kept hb3 c2; have c3 := cell_kept hb3 c3; have HB := Lib.hid (HB.out.trans (hb3.mono HB.out.size)); clear hb3) | ((with_reducible go_at_call 15); (with_reducible refine Calls.mono (H2b.out _ HB.out) ?_); rintro e w3 ⟨rfl, hb3⟩; have q3 := block_kept q3 hb3; have c0 := cell_kept hb3 c0; have c1 := cell_kept hb3 c1; have c2 := cell_kept hb3 c2; have c3 := cell_kept hb3 c3; have HB := Lib.hid (HB.out.trans (hb3.mono HB.out.size)); clear hb3) | ((with_reducible go_at_call 16); (with_reducible refine Calls.mono (HRT.out _ HB.out) ?_); rintro e w3 ⟨rfl, hb3⟩; have q3 := block_kept q3 hb3; have c0 := cell_kept hb3 c0; have c1 := cell_kept hb3 c1; have c2 := cell_kept hb3 c2; have c3 := cell_kept hb3 c3; have HB := Lib.hid (HB.out.trans (hb3.mono HB.out.size)); clear hb3) | ((with_reducible go_at_call 17); (with_reducible refine Calls.mono (HF14.out _ HB.out) ?_); rintro e w3 ⟨rfl, hb3⟩; have q3 := block_kept q3 hb3; have c0 := cell_kept hb3 c0; have c1 := cell_kept hb3 c1; have c2 := cell_kept hb3 c2; have c3 := cell_kept hb3 c3; have HB := Lib.hid (HB.out.trans (hb3.mono HB.out.size)); clear hb3) | ((with_reducible go_at_call 33); (with_reducible refine Calls.mono (HCP.out _ HB.out) ?_); rintro e w3 ⟨rfl, hb3⟩; have q3 := block_kept q3 hb3; have c0 := cell_kept hb3 c0; have c1 := cell_kept hb3 c1; have c2 := cell_kept hb3 c2; have c3 := cell_kept hb3 c3; have HB := Lib.hid (HB.out.trans (hb3.mono HB.out.size)); clear hb3) | ((with_reducible go_at_call 25); (with_reducible refine Calls.mono (HLV.out _ HB.out) ?_); rintro e w3 ⟨rfl, hb3⟩; have q3 := block_kept q3 hb3; have c0 := cell_kept hb3 c0; have c1 := cell_kept hb3 c1; have c2 := cell_kept hb3 c2; have c3 := cell_kept hb3 c3; have HB := Lib.hid (HB.out.trans (hb3.mono HB.out.size)); clear hb3))
  go_ret
  exact yesEnd rfl HB.out

set_option maxRecDepth 100000 in
set_option maxHeartbeats 6400000 in
theorem unk_2 {w : World} {A : Option Addr} {F : List FlagP} (hA : FlagsAt w A F) {cap : Nat} (hc : F.length ≤ cap) (hm : cap ≤ 9223372036854775807) (pl un : Bool) (k : Int) (t vl : Txt) {va vb : Value} {L M : List Txt} (hva : TextIn w va (L.map mkT)) (hvb : TextIn w vb (M.map mkT)) (h1 : fits20 (F.map ofFlag) = true) (h2a : fits2 (L.map mkT) = false)  :
    Calls Try.prog 10 #[.agg #[.slice A F.length cap, .bool pl, .bool un, .int .i64 k], va, .string (mkT t), .string (mkT vl), vb] w (YesEnd w) := by
  have H19 := Lib.hid (says19 hA hc hm pl un k h1)
  have H2a := Lib.hid (says2 hva h2a)
  have HVA := Lib.hid hva
  have HVB := Lib.hid hvb
  obtain ⟨va0, van, vac, hvae⟩ := hva.slice
  obtain ⟨vb0, vbn, vbc, hvbe⟩ := hvb.slice
  clear hva hvb
  subst hvae
  subst hvbe
  go_enter Try.func10, Try.ntmps10
  go_upto_region 1 with fail
  generalize hWX : w.alloc _ = WX
  have HB : Hid (Below w.heap.size w WX) := Lib.hid (by rw [← hWX]; exact (Below.refl _ _).alloc (Nat.le_refl _) _)
  have q3 : WX.heap[w.heap.size]? = some (.cells #[.slice A F.length cap, .bool pl, .bool un, .int .i64 k] 24 (0, 0)) := by rw [← hWX]; exact heap_alloc_new w _
  clear hWX
  have c0 : WX.cell? ⟨w.heap.size, 0, none⟩ = some (.slice A F.length cap) := (cell_blk q3 0).trans rfl
  have c1 : WX.cell? ⟨w.heap.size, 1, none⟩ = some (.bool pl) := (cell_blk q3 1).trans rfl
  have c2 : WX.cell? ⟨w.heap.size, 2, none⟩ = some (.bool un) := (cell_blk q3 2).trans rfl
  have c3 : WX.cell? ⟨w.heap.size, 3, none⟩ = some (.int .i64 k) := (cell_blk q3 3).trans rfl
  go_wp2_with (first | ((with_reducible go_at_call 14); (with_reducible refine Calls.mono (H19.out _ HB.out) ?_); rintro e w3 ⟨rfl, hb3⟩; have q3 := block_kept q3 hb3; have c0 := cell_kept hb3 c0; have c1 := cell_kept hb3 c1; have c2 := cell_kept hb3 c2; have c3 := cell_kept hb3 c3; have HB := Lib.hid (HB.out.trans (hb3.mono HB.out.size)); clear hb3) | ((with_reducible go_at_call 15); (with_reducible refine Calls.mono (H2a.out _ HB.out) ?_); rintro e w3 ⟨rfl, hb3⟩; have q3 := block_kept q3 hb3; have c0 := cell_kept hb3 c0; have c1 := cell_kept hb3 c1; have c2 := cell_kept hb3 c2; have c3 := cell_kept hb3 c3; have HB := Lib.hid (HB.out.trans (hb3.mono HB.out.size)); clear hb3) | ((with_reducible go_at_call 15); (with_reducible refine Calls.mono (H2b.out _ HB.out) ?_); rintro e w3 ⟨rfl, hb3⟩; have q3 := block_kept q3 hb3; have c0 := cell_kept hb3 c0; have c1 := cell_kept hb3 c1; have c2 := cell_kept hb3 c2; have c3 := cell_kept hb3 c3; have HB := Lib.hid (HB.out.trans (hb3.mono HB.out.size)); clear hb3) | ((with_reducible go_at_call 16); (with_reducible refine Calls.mono (HRT.out _ HB.out) ?_); rintro e w3 ⟨rfl, hb3⟩; have q3 := block_kept q3 hb3; have c0 := cell_kept hb3 c0; have c1 := cell_kept hb3 c1; have c2 := cell_kept hb3 c2; have c3 := cell_kept hb3 c3; have HB := Lib.hid (HB.out.trans (hb3.mono HB.out.size)); clear hb3) | ((with_reducible go_at_call 17); (with_reducible refine Calls.mono (HF14.out _ HB.out) ?_); rintro e w3 ⟨rfl, hb3⟩; have q3 := block_kept q3 hb3; have c0 := cell_kept hb3 c0; have c1 := cell_kept hb3 c1; have c2 := cell_kept hb3 c2; have c3 := cell_kept hb3 c3; have HB := Lib.hid (HB.out.trans (hb3.mono HB.out.size)); clear hb3) | ((with_reducible go_at_call 33); (with_reducible refine Calls.mono (HCP.out _ HB.out) ?_); rintro e w3 ⟨rfl, hb3⟩; have q3 := block_kept q3 hb3; have c0 := cell_kept hb3 c0; have c1 := cell_kept hb3 c1; have c2 := cell_kept hb3 c2; have c3 := cell_kept hb3 c3; have HB := Lib.hid (HB.out.trans (hb3.mono HB.out.size)); clear hb3) | ((with_reducible go_at_call 25); (with_reducible refine Calls.mono (HLV.out _ HB.out) ?_); rintro e w3 ⟨rfl, hb3⟩; have q3 := block_kept q3 hb3; have c0 := cell_kept hb3 c0; have c1 := cell_kept hb3 c1; have c2 := cell_kept hb3 c2; have c3 := cell_kept hb3 c3; have HB := Lib.hid (HB.out.trans (hb3.mono HB.out.size)); clear hb3))
  go_ret
  exact yesEnd rfl HB.out

set_option maxRecDepth 100000 in
set_option maxHeartbeats 6400000 in
theorem unk_3 {w : World} {A : Option Addr} {F : List FlagP} (hA : FlagsAt w A F) {cap : Nat} (hc : F.length ≤ cap) (hm : cap ≤ 9223372036854775807) (pl un : Bool) (k : Int) (t vl : Txt) {va vb : Value} {L M : List Txt} (hva : TextIn w va (L.map mkT)) (hvb : TextIn w vb (M.map mkT)) (h1 : fits20 (F.map ofFlag) = true) (h2a : fits2 (L.map mkT) = true) (hzt : ¬ (mkT t).size ≤ 2147483647) :
    Calls Try.prog 10 #[.agg #[.slice A F.length cap, .bool pl, .bool un, .int .i64 k], va, .string (mkT t), .string (mkT vl), vb] w (YesEnd w) := by
  have H19 := Lib.hid (says19 hA hc hm pl un k h1)
  have H2a := Lib.hid (says2 hva h2a)
  have hzt2 : (2147483647 : Int) < ((mkT t).size : Int) := by omega
  have HVA := Lib.hid hva
  have HVB := Lib.hid hvb
  obtain ⟨va0, van, vac, hvae⟩ := hva.slice
  obtain ⟨vb0, vbn, vbc, hvbe⟩ := hvb.slice
  clear hva hvb
  subst hvae
  subst hvbe
  go_enter Try.func10, Try.ntmps10
  go_upto_region 1 with fail
  generalize hWX : w.alloc _ = WX
  have HB : Hid (Below w.heap.size w WX) := Lib.hid (by rw [← hWX]; exact (Below.refl _ _).alloc (Nat.le_refl _) _)
  have q3 : WX.heap[w.heap.size]? = some (.cells #[.slice A F.length cap, .bool pl, .bool un, .int .i64 k] 24 (0, 0)) := by rw [← hWX]; exact heap_alloc_new w _
  clear hWX
  have c0 : WX.cell? ⟨w.heap.size, 0, none⟩ = some (.slice A F.length cap) := (cell_blk q3 0).trans rfl
  have c1 : WX.cell? ⟨w.heap.size, 1, none⟩ = some (.bool pl) := (cell_blk q3 1).trans rfl
  have c2 : WX.cell? ⟨w.heap.size, 2, none⟩ = some (.bool un) := (cell_blk q3 2).trans rfl
  have c3 : WX.cell? ⟨w.heap.size, 3, none⟩ = some (.int .i64 k) := (cell_blk q3 3).trans rfl
  go_wp2_with (first | ((with_reducible go_at_call 14); (with_reducible refine Calls.mono (H19.out _ HB.out) ?_); rintro e w3 ⟨rfl, hb3⟩; have q3 := block_kept q3 hb3; have c0 := cell_kept hb3 c0; have c1 := cell_kept hb3 c1; have c2 := cell_kept hb3 c2; have c3 := cell_kept hb3 c3; have HB := Lib.hid (HB.out.trans (hb3.mono HB.out.size)); clear hb3) | ((with_reducible go_at_call 15); (with_reducible refine Calls.mono (H2a.out _ HB.out) ?_); rintro e w3 ⟨rfl, hb3⟩; have q3 := block_kept q3 hb3; have c0 := cell_kept hb3 c0; have c1 := cell_kept hb3 c1; have c2 := cell_kept hb3 c2; have c3 := cell_kept hb3 c3; have HB := Lib.hid (HB.out.trans (hb3.mono HB.out.size)); clear hb3) | ((with_reducible go_at_call 15); (with_reducible refine Calls.mono (H2b.out _ HB.out) ?_); rintro e w3 ⟨rfl, hb3⟩; have q3 := block_kept q3 hb3; have c0 := cell_kept hb3 c0; have c1 := cell_kept hb3 c1; have c2 := cell_kept hb3 c2; have c3 := cell_kept hb3 c3; have HB := Lib.hid (HB.out.trans (hb3.mono HB.out.size)); clear hb3) | ((with_reducible go_at_call 16); (with_reducible refine Calls.mono (HRT.out _ HB.out) ?_); rintro e w3 ⟨rfl, hb3⟩; have q3 := block_kept q3 hb3; have c0 := cell_kept hb3 c0; have c1 := cell_kept hb3 c1; have c2 := cell_kept hb3 c2; have c3 := cell_kept hb3 c3; have HB := Lib.hid (HB.out.trans (hb3.mono HB.out.size)); clear hb3) | ((with_reducible go_at_call 17); (with_reducible refine Calls.mono (HF14.out _ HB.out) ?_); rintro e w3 ⟨rfl, hb3⟩; have q3 := block_kept q3 hb3; have c0 := cell_kept hb3 c0; have c1 := cell_kept hb3 c1; have c2 := cell_kept hb3 c2; have c3 := cell_kept hb3 c3; have HB := Lib.hid (HB.out.trans (hb3.mono HB.out.size)); clear hb3) | ((with_reducible go_at_call 33); (with_reducible refine Calls.mono (HCP.out _ HB.out) ?_); rintro e w3 ⟨rfl, hb3⟩; have q3 := block_kept q3 hb3; have c0 := cell_kept hb3 c0; have c1 := cell_kept hb3 c1; have c2 := cell_kept hb3 c2; have c3 := cell_kept hb3 c3; have HB := Lib.hid (HB.out.trans (hb3.mono HB.out.size)); clear hb3) | ((with_reducible go_at_call 25); (with_reducible refine Calls.mono (HLV.out _ HB.out) ?_); rintro e w3 ⟨rfl, hb3⟩; have q3 := block_kept q3 hb3; have c0 := cell_kept hb3 c0; have c1 := cell_kept hb3 c1; have c2 := cell_kept hb3 c2; have c3 := cell_kept hb3 c3; have HB := Lib.hid (HB.out.trans (hb3.mono HB.out.size)); clear hb3))
  go_ret
  exact yesEnd rfl HB.out

set_option maxRecDepth 100000 in
set_option maxHeartbeats 6400000 in
theorem unk_4 {w : World} {A : Option Addr} {F : List FlagP} (hA : FlagsAt w A F) {cap : Nat} (hc : F.length ≤ cap) (hm : cap ≤ 9223372036854775807) (pl un : Bool) (k : Int) (t vl : Txt) {va vb : Value} {L M : List Txt} (hva : TextIn w va (L.map mkT)) (hvb : TextIn w vb (M.map mkT)) (h1 : fits20 (F.map ofFlag) = true) (h2a : fits2 (L.map mkT) = true) (hzt : (mkT t).size ≤ 2147483647) (hzv : ¬ (mkT vl).size ≤ 2147483647) :
    Calls Try.prog 10 #[.agg #[.slice A F.length cap, .bool pl, .bool un, .int .i64 k], va, .string (mkT t), .string (mkT vl), vb] w (YesEnd w) := by
  have H19 := Lib.hid (says19 hA hc hm pl un k h1)
  have H2a := Lib.hid (says2 hva h2a)
  have hzt2 : ¬ (2147483647 : Int) < ((mkT t).size : Int) := by omega
  have hzv2 : (2147483647 : Int) < ((mkT vl).size : Int) := by omega
  have HVA := Lib.hid hva
  have HVB := Lib.hid hvb
  obtain ⟨va0, van, vac, hvae⟩ := hva.slice
  obtain ⟨vb0, vbn, vbc, hvbe⟩ := hvb.slice
  clear hva hvb
  subst hvae
  subst hvbe
  go_enter Try.func10, Try.ntmps10
  go_upto_region 1 with fail
  generalize hWX : w.alloc _ = WX
  have HB : Hid (Below w.heap.size w WX) := Lib.hid (by rw [← hWX]; exact (Below.refl _ _).alloc (Nat.le_refl _) _)
  have q3 : WX.heap[w.heap.size]? = some (.cells #[.slice A F.length cap, .bool pl, .bool un, .int .i64 k] 24 (0, 0)) := by rw [← hWX]; exact heap_alloc_new w _
  clear hWX
  have c0 : WX.cell? ⟨w.heap.size, 0, none⟩ = some (.slice A F.length cap) := (cell_blk q3 0).trans rfl
  have c1 : WX.cell? ⟨w.heap.size, 1, none⟩ = some (.bool pl) := (cell_blk q3 1).trans rfl
  have c2 : WX.cell? ⟨w.heap.size, 2, none⟩ = some (.bool un) := (cell_blk q3 2).trans rfl
  have c3 : WX.cell? ⟨w.heap.size, 3, none⟩ = some (.int .i64 k) := (cell_blk q3 3).trans rfl
  go_wp2_with (first | ((with_reducible go_at_call 14); (with_reducible refine Calls.mono (H19.out _ HB.out) ?_); rintro e w3 ⟨rfl, hb3⟩; have q3 := block_kept q3 hb3; have c0 := cell_kept hb3 c0; have c1 := cell_kept hb3 c1; have c2 := cell_kept hb3 c2; have c3 := cell_kept hb3 c3; have HB := Lib.hid (HB.out.trans (hb3.mono HB.out.size)); clear hb3) | ((with_reducible go_at_call 15); (with_reducible refine Calls.mono (H2a.out _ HB.out) ?_); rintro e w3 ⟨rfl, hb3⟩; have q3 := block_kept q3 hb3; have c0 := cell_kept hb3 c0; have c1 := cell_kept hb3 c1; have c2 := cell_kept hb3 c2; have c3 := cell_kept hb3 c3; have HB := Lib.hid (HB.out.trans (hb3.mono HB.out.size)); clear hb3) | ((with_reducible go_at_call 15); (with_reducible refine Calls.mono (H2b.out _ HB.out) ?_); rintro e w3 ⟨rfl, hb3⟩; have q3 := block_kept q3 hb3; have c0 := cell_kept hb3 c0; have c1 := cell_kept hb3 c1; have c2 := cell_kept hb3 c2; have c3 := cell_kept hb3 c3; have HB := Lib.hid (HB.out.trans (hb3.mono HB.out.size)); clear hb3) | ((with_reducible go_at_call 16); (with_reducible refine Calls.mono (HRT.out _ HB.out) ?_); rintro e w3 ⟨rfl, hb3⟩; have q3 := block_kept q3 hb3; have c0 := cell_kept hb3 c0; have c1 := cell_kept hb3 c1; have c2 := cell_kept hb3 c2; have c3 := cell_kept hb3 c3; have HB := Lib.hid (HB.out.trans (hb3.mono HB.out.size)); clear hb3) | ((with_reducible go_at_call 17); (with_reducible refine Calls.mono (HF14.out _ HB.out) ?_); rintro e w3 ⟨rfl, hb3⟩; have q3 := block_kept q3 hb3; have c0 := cell_kept hb3 c0; have c1 := cell_kept hb3 c1; have c2 := cell_kept hb3 c2; have c3 := cell_kept hb3 c3; have HB := Lib.hid (HB.out.trans (hb3.mono HB.out.size)); clear hb3) | ((with_reducible go_at_call 33); (with_reducible refine Calls.mono (HCP.out _ HB.out) ?_); rintro e w3 ⟨rfl, hb3⟩; have q3 := block_kept q3 hb3; have c0 := cell_kept hb3 c0; have c1 := cell_kept hb3 c1; have c2 := cell_kept hb3 c2; have c3 := cell_kept hb3 c3; have HB := Lib.hid (HB.out.trans (hb3.mono HB.out.size)); clear hb3) | ((with_reducible go_at_call 25); (with_reducible refine Calls.mono (HLV.out _ HB.out) ?_); rintro e w3 ⟨rfl, hb3⟩; have q3 := block_kept q3 hb3; have c0 := cell_kept hb3 c0; have c1 := cell_kept hb3 c1; have c2 := cell_kept hb3 c2; have c3 := cell_kept hb3 c3; have HB := Lib.hid (HB.out.trans (hb3.mono HB.out.size)); clear hb3))
  go_ret
  exact yesEnd rfl HB.out

set_option maxRecDepth 100000 in
set_option maxHeartbeats 6400000 in
theorem unk_5 {w : World} {A : Option Addr} {F : List FlagP} (hA : FlagsAt w A F) {cap : Nat} (hc : F.length ≤ cap) (hm : cap ≤ 9223372036854775807) (pl un : Bool) (k : Int) (t vl : Txt) {va vb : Value} {L M : List Txt} (hva : TextIn w va (L.map mkT)) (hvb : TextIn w vb (M.map mkT)) (h1 : fits20 (F.map ofFlag) = true) (h2a : fits2 (L.map mkT) = true) (hzt : (mkT t).size ≤ 2147483647) (hzv : (mkT vl).size ≤ 2147483647) (h2b : fits2 (M.map mkT) = false)  :
    Calls Try.prog 10 #[.agg #[.slice A F.length cap, .bool pl, .bool un, .int .i64 k], va, .string (mkT t), .string (mkT vl), vb] w (YesEnd w) := by
  have H19 := Lib.hid (says19 hA hc hm pl un k h1)
  have H2a := Lib.hid (says2 hva h2a)
  have H2b := Lib.hid (says2 hvb h2b)
  have hzt2 : ¬ (2147483647 : Int) < ((mkT t).size : Int) := by omega
  have hzv2 : ¬ (2147483647 : Int) < ((mkT vl).size : Int) := by omega
  have HVA := Lib.hid hva
  have HVB := Lib.hid hvb
  obtain ⟨va0, van, vac, hvae⟩ := hva.slice
  obtain ⟨vb0, vbn, vbc, hvbe⟩ := hvb.slice
  clear hva hvb
  subst hvae
  subst hvbe
  go_enter Try.func10, Try.ntmps10
  go_upto_region 1 with fail
  generalize hWX : w.alloc _ = WX
  have HB : Hid (Below w.heap.size w WX) := Lib.hid (by rw [← hWX]; exact (Below.refl _ _).alloc (Nat.le_refl _) _)
  have q3 : WX.heap[w.heap.size]? = some (.cells #[.slice A F.length cap, .bool pl, .bool un, .int .i64 k] 24 (0, 0)) := by rw [← hWX]; exact heap_alloc_new w _
  clear hWX
  have c0 : WX.cell? ⟨w.heap.size, 0, none⟩ = some (.slice A F.length cap) := (cell_blk q3 0).trans rfl
  have c1 : WX.cell? ⟨w.heap.size, 1, none⟩ = some (.bool pl) := (cell_blk q3 1).trans rfl
  have c2 : WX.cell? ⟨w.heap.size, 2, none⟩ = some (.bool un) := (cell_blk q3 2).trans rfl
  have c3 : WX.cell? ⟨w.heap.size, 3, none⟩ = some (.int .i64 k) := (cell_blk q3 3).trans rfl
  go_wp2_with (first | ((with_reducible go_at_call 14); (with_reducible refine Calls.mono (H19.out _ HB.out) ?_); rintro e w3 ⟨rfl, hb3⟩; have q3 := block_kept q3 hb3; have c0 := cell_kept hb3 c0; have c1 := cell_kept hb3 c1; have c2 := cell_kept hb3 c2; have c3 := cell_kept hb3 c3; have HB := Lib.hid (HB.out.trans (hb3.mono HB.out.size)); clear hb3) | ((with_reducible go_at_call 15); (with_reducible refine Calls.mono (H2a.out _ HB.out) ?_); rintro e w3 ⟨rfl, hb3⟩; have q3 := block_kept q3 hb3; have c0 := cell_kept hb3 c0; have c1 := cell_kept hb3 c1; have c2 := cell_kept hb3 c2; have c3 := cell_kept hb3 c3; have HB := Lib.hid (HB.out.trans (hb3.mono HB.out.size)); clear hb3) | ((with_reducible go_at_call 15); (with_reducible refine Calls.mono (H2b.out _ HB.out) ?_); rintro e w3 ⟨rfl, hb3⟩; have q3 := block_kept q3 hb3; have c0 := cell_kept hb3 c0; have c1 := cell_kept hb3 c1; have c2 := cell_kept hb3 c2; have c3 := cell_kept hb3 c3; have HB := Lib.hid (HB.out.trans (hb3.mono HB.out.size)); clear hb3) | ((with_reducible go_at_call 16); (with_reducible refine Calls.mono (HRT.out _ HB.out) ?_); rintro e w3 ⟨rfl, hb3⟩; have q3 := block_kept q3 hb3; have c0 := cell_kept hb3 c0; have c1 := cell_kept hb3 c1; have c2 := cell_kept hb3 c2; have c3 := cell_kept hb3 c3; have HB := Lib.hid (HB.out.trans (hb3.mono HB.out.size)); clear hb3) | ((with_reducible go_at_call 17); (with_reducible refine Calls.mono (HF14.out _ HB.out) ?_); rintro e w3 ⟨rfl, hb3⟩; have q3 := block_kept q3 hb3; have c0 := cell_kept hb3 c0; have c1 := cell_kept hb3 c1; have c2 := cell_kept hb3 c2; have c3 := cell_kept hb3 c3; have HB := Lib.hid (HB.out.trans (hb3.mono HB.out.size)); clear hb3) | ((with_reducible go_at_call 33); (with_reducible refine Calls.mono (HCP.out _ HB.out) ?_); rintro e w3 ⟨rfl, hb3⟩; have q3 := block_kept q3 hb3; have c0 := cell_kept hb3 c0; have c1 := cell_kept hb3 c1; have c2 := cell_kept hb3 c2; have c3 := cell_kept hb3 c3; have HB := Lib.hid (HB.out.trans (hb3.mono HB.out.size)); clear hb3) | ((with_reducible go_at_call 25); (with_reducible refine Calls.mono (HLV.out _ HB.out) ?_); rintro e w3 ⟨rfl, hb3⟩; have q3 := block_kept q3 hb3; have c0 := cell_kept hb3 c0; have c1 := cell_kept hb3 c1; have c2 := cell_kept hb3 c2; have c3 := cell_kept hb3 c3; have HB := Lib.hid (HB.out.trans (hb3.mono HB.out.size)); clear hb3))
  go_ret
  exact yesEnd rfl HB.out

set_option maxRecDepth 100000 in
set_option maxHeartbeats 6400000 in
theorem unk_6 {w : World} {A : Option Addr} {F : List FlagP} (hA : FlagsAt w A F) {cap : Nat} (hc : F.length ≤ cap) (hm : cap ≤ 9223372036854775807) (pl un : Bool) (k : Int) (t vl : Txt) {va vb : Value} {L M : List Txt} (hva : TextIn w va (L.map mkT)) (hvb : TextIn w vb (M.map mkT)) (h1 : fits20 (F.map ofFlag) = true) (h2a : fits2 (L.map mkT) = true) (hzt : (mkT t).size ≤ 2147483647) (hzv : (mkT vl).size ≤ 2147483647) (h2b : fits2 (M.map mkT) = true) (h3 : RightK F k = false)  :
    Calls Try.prog 10 #[.agg #[.slice A F.length cap, .bool pl, .bool un, .int .i64 k], va, .string (mkT t), .string (mkT vl), vb] w (YesEnd w) := by
  have H19 := Lib.hid (says19 hA hc hm pl un k h1)
  have H2a := Lib.hid (says2 hva h2a)
  have H2b := Lib.hid (says2 hvb h2b)
  have hzt2 : ¬ (2147483647 : Int) < ((mkT t).size : Int) := by omega
  have hzv2 : ¬ (2147483647 : Int) < ((mkT vl).size : Int) := by omega
  have HLV := Lib.hid (saysL w)
  have HRT := Lib.hid (saysR hA cap pl un k h1 h3)
  have HVA := Lib.hid hva
  have HVB := Lib.hid hvb
  obtain ⟨va0, van, vac, hvae⟩ := hva.slice
  obtain ⟨vb0, vbn, vbc, hvbe⟩ := hvb.slice
  clear hva hvb
  subst hvae
  subst hvbe
  go_enter Try.func10, Try.ntmps10
  go_upto_region 1 with fail
  generalize hWX : w.alloc _ = WX
  have HB : Hid (Below w.heap.size w WX) := Lib.hid (by rw [← hWX]; exact (Below.refl _ _).alloc (Nat.le_refl _) _)
  have q3 : WX.heap[w.heap.size]? = some (.cells #[.slice A F.length cap, .bool pl, .bool un, .int .i64 k] 24 (0, 0)) := by rw [← hWX]; exact heap_alloc_new w _
  clear hWX
  have c0 : WX.cell? ⟨w.heap.size, 0, none⟩ = some (.slice A F.length cap) := (cell_blk q3 0).trans rfl
  have c1 : WX.cell? ⟨w.heap.size, 1, none⟩ = some (.bool pl) := (cell_blk q3 1).trans rfl
  have c2 : WX.cell? ⟨w.heap.size, 2, none⟩ = some (.bool un) := (cell_blk q3 2).trans rfl
  have c3 : WX.cell? ⟨w.heap.size, 3, none⟩ = some (.int .i64 k) := (cell_blk q3 3).trans rfl
  go_wp2_with (first | ((with_reducible go_at_call 14); (with_reducible refine Calls.mono (H19.out _ HB.out) ?_); rintro e w3 ⟨rfl, hb3⟩; have q3 := block_kept q3 hb3; have c0 := cell_kept hb3 c0; have c1 := cell_kept hb3 c1; have c2 := cell_kept hb3 c2; have c3 := cell_kept hb3 c3; have HB := Lib.hid (HB.out.trans (hb3.mono HB.out.size)); clear hb3) | ((with_reducible go_at_call 15); (with_reducible refine Calls.mono (H2a.out _ HB.out) ?_); rintro e w3 ⟨rfl, hb3⟩; have q3 := block_kept q3 hb3; have c0 := cell_kept hb3 c0; have c1 := cell_kept hb3 c1; have c2 := cell_kept hb3 c2; have c3 := cell_kept hb3 c3; have HB := Lib.hid (HB.out.trans (hb3.mono HB.out.size)); clear hb3) | ((with_reducible go_at_call 15); (with_reducible refine Calls.mono (H2b.out _ HB.out) ?_); rintro e w3 ⟨rfl, hb3⟩; have q3 := block_kept q3 hb3; have c0 := cell_kept hb3 c0; have c1 := cell_kept hb3 c1; have c2 := cell_kept hb3 c2; have c3 := cell_kept hb3 c3; have HB := Lib.hid (HB.out.trans (hb3.mono HB.out.size)); clear hb3) | ((with_reducible go_at_call 16); (with_reducible refine Calls.mono (HRT.out _ HB.out) ?_); rintro e w3 ⟨rfl, hb3⟩; have q3 := block_kept q3 hb3; have c0 := cell_kept hb3 c0; have c1 := cell_kept hb3 c1; have c2 := cell_kept hb3 c2; have c3 := cell_kept hb3 c3; have HB := Lib.hid (HB.out.trans (hb3.mono HB.out.size)); clear hb3) | ((with_reducible go_at_call 17); (with_reducible refine Calls.mono (HF14.out _ HB.out) ?_); rintro e w3 ⟨rfl, hb3⟩; have q3 := block_kept q3 hb3; have c0 := cell_kept hb3 c0; have c1 := cell_kept hb3 c1; have c2 := cell_kept hb3 c2; have c3 := cell_kept hb3 c3; have HB := Lib.hid (HB.out.trans (hb3.mono HB.out.size)); clear hb3) | ((with_reducible go_at_call 33); (with_reducible refine Calls.mono (HCP.out _ HB.out) ?_); rintro e w3 ⟨rfl, hb3⟩; have q3 := block_kept q3 hb3; have c0 := cell_kept hb3 c0; have c1 := cell_kept hb3 c1; have c2 := cell_kept hb3 c2; have c3 := cell_kept hb3 c3; have HB := Lib.hid (HB.out.trans (hb3.mono HB.out.size)); clear hb3) | ((with_reducible go_at_call 25); (with_reducible refine Calls.mono (HLV.out _ HB.out) ?_); rintro e w3 ⟨rfl, hb3⟩; have q3 := block_kept q3 hb3; have c0 := cell_kept hb3 c0; have c1 := cell_kept hb3 c1; have c2 := cell_kept hb3 c2; have c3 := cell_kept hb3 c3; have HB := Lib.hid (HB.out.trans (hb3.mono HB.out.size)); clear hb3))
  go_ret
  exact yesEnd rfl HB.out

set_option maxRecDepth 100000 in
set_option maxHeartbeats 6400000 in
theorem unk_7 {w : World} {A : Option Addr} {F : List FlagP} (hA : FlagsAt w A F) {cap : Nat} (hc : F.length ≤ cap) (hm : cap ≤ 9223372036854775807) (pl un : Bool) (k : Int) (t vl : Txt) {va vb : Value} {L M : List Txt} (hva : TextIn w va (L.map mkT)) (hvb : TextIn w vb (M.map mkT)) (h1 : fits20 (F.map ofFlag) = true) (h2a : fits2 (L.map mkT) = true) (hzt : (mkT t).size ≤ 2147483647) (hzv : (mkT vl).size ≤ 2147483647) (h2b : fits2 (M.map mkT) = true) (h3 : RightK F k = true) (h5 : decide (wtBB [L.map mkT, M.map mkT, [mkT t, mkT vl]] ≤ 1048576) = false) :
    Calls Try.prog 10 #[.agg #[.slice A F.length cap, .bool pl, .bool un, .int .i64 k], va, .string (mkT t), .string (mkT vl), vb] w (YesEnd w) := by
  have H19 := Lib.hid (says19 hA hc hm pl un k h1)
  have H2a := Lib.hid (says2 hva h2a)
  have H2b := Lib.hid (says2 hvb h2b)
  have hzt2 : ¬ (2147483647 : Int) < ((mkT t).size : Int) := by omega
  have hzv2 : ¬ (2147483647 : Int) < ((mkT vl).size : Int) := by omega
  have HLV := Lib.hid (saysL w)
  have HRT := Lib.hid (saysR hA cap pl un k h1 h3)
  have HVA := Lib.hid hva
  have HVB := Lib.hid hvb
  obtain ⟨va0, van, vac, hvae⟩ := hva.slice
  obtain ⟨vb0, vbn, vbc, hvbe⟩ := hvb.slice
  clear hva hvb
  subst hvae
  subst hvbe
  have HF14 := Lib.hid (fun (W : World) (hb : Below w.heap.size w W) => fit14_3t hb HVA.out HVB.out h2a h2b hzt hzv h5)
  go_enter Try.func10, Try.ntmps10
  go_upto_region 1 with fail
  generalize hWX : w.alloc _ = WX
  have HB : Hid (Below w.heap.size w WX) := Lib.hid (by rw [← hWX]; exact (Below.refl _ _).alloc (Nat.le_refl _) _)
  have q3 : WX.heap[w.heap.size]? = some (.cells #[.slice A F.length cap, .bool pl, .bool un, .int .i64 k] 24 (0, 0)) := by rw [← hWX]; exact heap_alloc_new w _
  clear hWX
  have c0 : WX.cell? ⟨w.heap.size, 0, none⟩ = some (.slice A F.length cap) := (cell_blk q3 0).trans rfl
  have c1 : WX.cell? ⟨w.heap.size, 1, none⟩ = some (.bool pl) := (cell_blk q3 1).trans rfl
  have c2 : WX.cell? ⟨w.heap.size, 2, none⟩ = some (.bool un) := (cell_blk q3 2).trans rfl
  have c3 : WX.cell? ⟨w.heap.size, 3, none⟩ = some (.int .i64 k) := (cell_blk q3 3).trans rfl
  go_wp2_with (first | ((with_reducible go_at_call 14); (with_reducible refine Calls.mono (H19.out _ HB.out) ?_); rintro e w3 ⟨rfl, hb3⟩; have q3 := block_kept q3 hb3; have c0 := cell_kept hb3 c0; have c1 := cell_kept hb3 c1; have c2 := cell_kept hb3 c2; have c3 := cell_kept hb3 c3; have HB := Lib.hid (HB.out.trans (hb3.mono HB.out.size)); clear hb3) | ((with_reducible go_at_call 15); (with_reducible refine Calls.mono (H2a.out _ HB.out) ?_); rintro e w3 ⟨rfl, hb3⟩; have q3 := block_kept q3 hb3; have c0 := cell_kept hb3 c0; have c1 := cell_kept hb3 c1; have c2 := cell_kept hb3 c2; have c3 := cell_kept hb3 c3; have HB := Lib.hid (HB.out.trans (hb3.mono HB.out.size)); clear hb3) | ((with_reducible go_at_call 15); (with_reducible refine Calls.mono (H2b.out _ HB.out) ?_); rintro e w3 ⟨rfl, hb3⟩; have q3 := block_kept q3 hb3; have c0 := cell_kept hb3 c0; have c1 := cell_kept hb3 c1; have c2 := cell_kept hb3 c2; have c3 := cell_kept hb3 c3; have HB := Lib.hid (HB.out.trans (hb3.mono HB.out.size)); clear hb3) | ((with_reducible go_at_call 16); (with_reducible refine Calls.mono (HRT.out _ HB.out) ?_); rintro e w3 ⟨rfl, hb3⟩; have q3 := block_kept q3 hb3; have c0 := cell_kept hb3 c0; have c1 := cell_kept hb3 c1; have c2 := cell_kept hb3 c2; have c3 := cell_kept hb3 c3; have HB := Lib.hid (HB.out.trans (hb3.mono HB.out.size)); clear hb3) | ((with_reducible go_at_call 17); (with_reducible refine Calls.mono (HF14.out _ HB.out) ?_); rintro e w3 ⟨rfl, hb3⟩; have q3 := block_kept q3 hb3; have c0 := cell_kept hb3 c0; have c1 := cell_kept hb3 c1; have c2 := cell_kept hb3 c2; have c3 := cell_kept hb3 c3; have HB := Lib.hid (HB.out.trans (hb3.mono HB.out.size)); clear hb3) | ((with_reducible go_at_call 33); (with_reducible refine Calls.mono (HCP.out _ HB.out) ?_); rintro e w3 ⟨rfl, hb3⟩; have q3 := block_kept q3 hb3; have c0 := cell_kept hb3 c0; have c1 := cell_kept hb3 c1; have c2 := cell_kept hb3 c2; have c3 := cell_kept hb3 c3; have HB := Lib.hid (HB.out.trans (hb3.mono HB.out.size)); clear hb3) | ((with_reducible go_at_call 25); (with_reducible refine Calls.mono (HLV.out _ HB.out) ?_); rintro e w3 ⟨rfl, hb3⟩; have q3 := block_kept q3 hb3; have c0 := cell_kept hb3 c0; have c1 := cell_kept hb3 c1; have c2 := cell_kept hb3 c2; have c3 := cell_kept hb3 c3; have HB := Lib.hid (HB.out.trans (hb3.mono HB.out.size)); clear hb3))
  go_ret
  exact yesEnd rfl HB.out

set_option maxRecDepth 100000 in
set_option maxHeartbeats 6400000 in
theorem unk_8 {w : World} {A : Option Addr} {S : SetP} (hS : SetOK w A S) {cap : Nat} (hc : S.flags.length ≤ cap) (hm : cap ≤ 9223372036854775807) (t vl : Txt) {va vb : Value} {L M : List Txt} (hva : TextIn w va (L.map mkT)) (hvb : TextIn w vb (M.map mkT)) (h1 : fits20 (S.flags.map ofFlag) = true) (h2a : fits2 (L.map mkT) = true) (hzt : (mkT t).size ≤ 2147483647) (hzv : (mkT vl).size ≤ 2147483647) (h2b : fits2 (M.map mkT) = true) (h3 : RightK S.flags S.fold = true)
    (h5 : decide (wtBB [L.map mkT, M.map mkT, [mkT t, mkT vl]] ≤ 1048576) = true) (hcx : ¬ CompX S L) :
    Calls Try.prog 10 #[.agg #[.slice A S.flags.length cap, .bool S.plain, .bool S.unknown, .int .i64 S.fold], va, .string (mkT t), .string (mkT vl), vb] w (YesEnd w) := by
  have hwt : wt L + wt M + t.length + vl.length + 2 ≤ 1048576 := by
    have h := of_decide_eq_true h5
    simp only [wtBB, wtB, wt_map, mkT_size] at h; omega
  have hls : ∀ x ∈ L, x.length ≤ 8589934592 := fun x hx => by have := wt_mem hx; omega
  have H19 := Lib.hid (says19 hS.flg hc hm S.plain S.unknown S.fold h1)
  have H2a := Lib.hid (says2 hva h2a)
  have H2b := Lib.hid (says2 hvb h2b)
  have HRT := Lib.hid (saysR hS.flg cap S.plain S.unknown S.fold h1 h3)
  have HLV := Lib.hid (saysL w)
  have HCP : Hid (Says w 33 #[.agg #[.slice A S.flags.length cap, .bool S.plain, .bool S.unknown, .int .i64 S.fold], va] false) := Lib.hid (fun W hb => complete_no (hS.below hb) cap (hva.below hb) (by omega) hls hcx)
  have hzt2 : ¬ (2147483647 : Int) < ((mkT t).size : Int) := by omega
  have hzv2 : ¬ (2147483647 : Int) < ((mkT vl).size : Int) := by omega
  have HVA := Lib.hid hva
  have HVB := Lib.hid hvb
  obtain ⟨va0, van, vac, hvae⟩ := hva.slice
  obtain ⟨vb0, vbn, vbc, hvbe⟩ := hvb.slice
  clear hva hvb
  subst hvae
  subst hvbe
  have HF14 := Lib.hid (fun (W : World) (hb : Below w.heap.size w W) => fit14_3t hb HVA.out HVB.out h2a h2b hzt hzv h5)
  clear hS h1 h2a h2b h3 h5 hcx hwt hls
  go_enter Try.func10, Try.ntmps10
  go_upto_region 1 with fail
  generalize hWX : w.alloc _ = WX
  have HB : Hid (Below w.heap.size w WX) := Lib.hid (by rw [← hWX]; exact (Below.refl _ _).alloc (Nat.le_refl _) _)
  have q3 : WX.heap[w.heap.size]? = some (.cells #[.slice A S.flags.length cap, .bool S.plain, .bool S.unknown, .int .i64 S.fold] 24 (0, 0)) := by rw [← hWX]; exact heap_alloc_new w _
  clear hWX
  have c0 : WX.cell? ⟨w.heap.size, 0, none⟩ = some (.slice A S.flags.length cap) := (cell_blk q3 0).trans rfl
  have c1 : WX.cell? ⟨w.heap.size, 1, none⟩ = some (.bool S.plain) := (cell_blk q3 1).trans rfl
  have c2 : WX.cell? ⟨w.heap.size, 2, none⟩ = some (.bool S.unknown) := (cell_blk q3 2).trans rfl
  have c3 : WX.cell? ⟨w.heap.size, 3, none⟩ = some (.int .i64 S.fold) := (cell_blk q3 3).trans rfl
  go_wp2_with (first | ((with_reducible go_at_call 14); (with_reducible refine Calls.mono (H19.out _ HB.out) ?_); rintro e w3 ⟨rfl, hb3⟩; have q3 := block_kept q3 hb3; have c0 := cell_kept hb3 c0; have c1 := cell_kept hb3 c1; have c2 := cell_kept hb3 c2; have c3 := cell_kept hb3 c3; have HB := Lib.hid (HB.out.trans (hb3.mono HB.out.size)); clear hb3) | ((with_reducible go_at_call 15); (with_reducible refine Calls.mono (H2a.out _ HB.out) ?_); rintro e w3 ⟨rfl, hb3⟩; have q3 := block_kept q3 hb3; have c0 := cell_kept hb3 c0; have c1 := cell_kept hb3 c1; have c2 := cell_kept hb3 c2; have c3 := cell_kept hb3 c3; have HB := Lib.hid (HB.out.trans (hb3.mono HB.out.size)); clear hb3) | ((with_reducible go_at_call 15); (with_reducible refine Calls.mono (H2b.out _ HB.out) ?_); rintro e w3 ⟨rfl, hb3⟩; have q3 := block_kept q3 hb3; have c0 := cell_kept hb3 c0; have c1 := cell_kept hb3 c1; have c2 := cell_kept hb3 c2; have c3 := cell_kept hb3 c3; have HB := Lib.hid (HB.out.trans (hb3.mono HB.out.size)); clear hb3) | ((with_reducible go_at_call 16); (with_reducible refine Calls.mono (HRT.out _ HB.out) ?_); rintro e w3 ⟨rfl, hb3⟩; have q3 := block_kept q3 hb3; have c0 := cell_kept hb3 c0; have c1 := cell_kept hb3 c1; have c2 := cell_kept hb3 c2; have c3 := cell_kept hb3 c3; have HB := Lib.hid (HB.out.trans (hb3.mono HB.out.size)); clear hb3) | ((with_reducible go_at_call 17); (with_reducible refine Calls.mono (HF14.out _ HB.out) ?_); rintro e w3 ⟨rfl, hb3⟩; have q3 := block_kept q3 hb3; have c0 := cell_kept hb3 c0; have c1 := cell_kept hb3 c1; have c2 := cell_kept hb3 c2; have c3 := cell_kept hb3 c3; have HB := Lib.hid (HB.out.trans (hb3.mono HB.out.size)); clear hb3) | ((with_reducible go_at_call 33); (with_reducible refine Calls.mono (HCP.out _ HB.out) ?_); rintro e w3 ⟨rfl, hb3⟩; have q3 := block_kept q3 hb3; have c0 := cell_kept hb3 c0; have c1 := cell_kept hb3 c1; have c2 := cell_kept hb3 c2; have c3 := cell_kept hb3 c3; have HB := Lib.hid (HB.out.trans (hb3.mono HB.out.size)); clear hb3) | ((with_reducible go_at_call 25); (with_reducible refine Calls.mono (HLV.out _ HB.out) ?_); rintro e w3 ⟨rfl, hb3⟩; have q3 := block_kept q3 hb3; have c0 := cell_kept hb3 c0; have c1 := cell_kept hb3 c1; have c2 := cell_kept hb3 c2; have c3 := cell_kept hb3 c3; have HB := Lib.hid (HB.out.trans (hb3.mono HB.out.size)); clear hb3))
  go_ret
  exact yesEnd rfl HB.out
def U12 (sv : Value) (S : SetP) (B : Nat) (t : Txt) (vl : Txt) (va : Value) (vb : Value) (L : List Txt) (M : List Txt) : Nat → Value → World → Prop
  | 0, v, _ => v = sv
  | 1, v, _ => v = va
  | 2, v, _ => v = .string (mkT (t))
  | 3, v, _ => v = .string (mkT (([45, 45] ++ t)))
  | 4, v, _ => v = .string (mkT ((([45, 45] ++ t) ++ [61])))
  | 5, v, _ => v = .string (mkT (vl))
  | 6, v, _ => v = .string (mkT (((([45, 45] ++ t) ++ [61]) ++ vl)))
  | 7, v, w => ∃ g, v = .slice (some ⟨g, 0, none⟩) 1 1 ∧ w.heap[g]? = some (.cells #[.string (mkT (((([45, 45] ++ t) ++ [61]) ++ vl)))] 9 (0, 0))
  | 8, v, _ => v = vb
  | 9, v, w => ∃ g vs, v = .slice (some ⟨g, 0, none⟩) 3 3 ∧ RowsIn w g vs [L.map mkT, [mkT (((([45, 45] ++ t) ++ [61]) ++ vl))], M.map mkT]
  | 10, v, w => TextIn w v (((L ++ ((([45, 45] ++ t) ++ [61]) ++ vl) :: M)).map mkT)
  | 11, v, w => HeardOwn w (psOf none true (goes S none st0 ((L ++ ((([45, 45] ++ t) ++ [61]) ++ vl) :: M)))) (goes S none st0 ((L ++ ((([45, 45] ++ t) ++ [61]) ++ vl) :: M))).err S.flags.length v
  | 12, v, w => ∃ g, v = .pointer (some ⟨g, 0, none⟩) ∧ B ≤ g ∧ w.heap[g]? = some (.cells hdZero 32 (0, 0))
  | _, _, _ => True
theorem U12.below {sv : Value} {S : SetP} {B : Nat} {t : Txt} {vl : Txt} {va : Value} {vb : Value} {L : List Txt} {M : List Txt} {ix : Nat} (hix : ix < 13) {v : Value} {w w' : World} (h : U12 sv S B t vl va vb L M ix v w) (hb : Below w.heap.size w w') : U12 sv S B t vl va vb L M ix v w' := by
  match ix, hix, h with
  | 0, _, h => exact h
  | 1, _, h => exact h
  | 2, _, h => exact h
  | 3, _, h => exact h
  | 4, _, h => exact h
  | 5, _, h => exact h
  | 6, _, h => exact h
  | 7, _, h => obtain ⟨g, e, h⟩ := h; exact ⟨g, e, block_kept h hb⟩
  | 8, _, h => exact h
  | 9, _, h => obtain ⟨g, vs, e, h⟩ := h; exact ⟨g, vs, e, h.below hb⟩
  | 10, _, h => exact TextIn.below h hb
  | 11, _, h => exact HeardOwn.below h hb
  | 12, _, h => obtain ⟨g, e, hB, h⟩ := h; exact ⟨g, e, hB, block_kept h hb⟩
  | k + 13, hi, _ => exact absurd hi (by omega)
def U14 (sv : Value) (S : SetP) (t : Txt) (vl : Txt) (va : Value) (vb : Value) (L : List Txt) (M : List Txt) (g7 : Nat) : Nat → Value → World → Prop
  | 0, v, w => HeardOwn w (psOf none true (goes S none st0 ((L ++ ((([45, 45] ++ t) ++ [61]) ++ vl) :: M)))) (goes S none st0 ((L ++ ((([45, 45] ++ t) ++ [61]) ++ vl) :: M))).err S.flags.length v
  | 1, v, _ => v = sv
  | 2, v, _ => v = va
  | 3, v, _ => v = vb
  | 4, v, w => ∃ g vs, v = .slice (some ⟨g, 0, none⟩) 2 2 ∧ RowsIn w g vs [L.map mkT, M.map mkT]
  | 5, v, w => TextIn w v (((L ++ M)).map mkT)
  | 6, v, w => HeardOwn w (psOf none true (goes S none st0 ((L ++ M)))) (goes S none st0 ((L ++ M))).err S.flags.length v
  | 7, v, _ => v = .bool true
  | 8, v, _ => v = .bool true
  | _, _, _ => True
theorem U14.below {sv : Value} {S : SetP} {t : Txt} {vl : Txt} {va : Value} {vb : Value} {L : List Txt} {M : List Txt} {g7 : Nat} {ix : Nat} (hix : ix < 9) {v : Value} {w w' : World} (h : U14 sv S t vl va vb L M g7 ix v w) (hb : Below w.heap.size w w') : U14 sv S t vl va vb L M g7 ix v w' := by
  match ix, hix, h with
  | 0, _, h => exact HeardOwn.below h hb
  | 1, _, h => exact h
  | 2, _, h => exact h
  | 3, _, h => exact h
  | 4, _, h => obtain ⟨g, vs, e, h⟩ := h; exact ⟨g, vs, e, h.below hb⟩
  | 5, _, h => exact TextIn.below h hb
  | 6, _, h => exact HeardOwn.below h hb
  | 7, _, h => exact h
  | 8, _, h => exact h

set_option maxRecDepth 100000 in
set_option maxHeartbeats 6400000 in
theorem unk_9 {w : World} {A : Option Addr} {S : SetP} (hS : SetOK w A S) {cap : Nat} (hc : S.flags.length ≤ cap) (hm : cap ≤ 9223372036854775807) (t vl : Txt) {va vb : Value} {L M : List Txt} (hva : TextIn w va (L.map mkT)) (hvb : TextIn w vb (M.map mkT)) (h1 : fits20 (S.flags.map ofFlag) = true) (h2a : fits2 (L.map mkT) = true) (hzt : (mkT t).size ≤ 2147483647) (hzv : (mkT vl).size ≤ 2147483647) (h2b : fits2 (M.map mkT) = true) (h3 : RightK S.flags S.fold = true)
    (h5 : decide (wtBB [L.map mkT, M.map mkT, [mkT t, mkT vl]] ≤ 1048576) = true) (hcx : CompX S L) :
    Calls Try.prog 10 #[.agg #[.slice A S.flags.length cap, .bool S.plain, .bool S.unknown, .int .i64 S.fold], va, .string (mkT t), .string (mkT vl), vb] w (YesEnd w) := by
  have hwt : wt L + wt M + t.length + vl.length + 2 ≤ 1048576 := by
    have h := of_decide_eq_true h5
    simp only [wtBB, wtB, wt_map, mkT_size] at h; omega
  have hls : ∀ x ∈ L, x.length ≤ 8589934592 := fun x hx => by have := wt_mem hx; omega
  have H19 := Lib.hid (says19 hS.flg hc hm S.plain S.unknown S.fold h1)
  have H2a := Lib.hid (says2 hva h2a)
  have H2b := Lib.hid (says2 hvb h2b)
  have HRT := Lib.hid (saysR hS.flg cap S.plain S.unknown S.fold h1 h3)
  have HLV := Lib.hid (saysL w)
  have HCP : Hid (Says w 33 #[.agg #[.slice A S.flags.length cap, .bool S.plain, .bool S.unknown, .int .i64 S.fold], va] true) := Lib.hid (fun W hb => complete_yes (hS.below hb) cap (hva.below hb) (by omega) hls hcx)
  have hfl := fits20_F h1
  have hnum := hS.num
  have hk3 := fold_le h3
  have HP := Lib.hid (fun (W : World) (hb : Below w.heap.size w W) => parse_s (hS.below hb) cap (hva.below hb) (by omega) hls)
  have HPC := Lib.hid (says_parse hS cap)
  have HNM : Hid (∀ (W : World), Below w.heap.size w W → Calls Try.prog 35 #[.agg #[.slice A S.flags.length cap, .bool S.plain, .bool S.unknown, .int .i64 S.fold], .string (mkT t)] W (NamedEnd S.flags S.fold t W)) := Lib.hid (fun W hb => named_any (hS.flg.below hb) hnum (fun f hf => (hfl.2 f hf).1) cap S.plain S.unknown hk3 t hzt)
  have HCX := Lib.hid hcx
  have hzt2 : ¬ (2147483647 : Int) < ((mkT t).size : Int) := by omega
  have hzv2 : ¬ (2147483647 : Int) < ((mkT vl).size : Int) := by omega
  have HVA := Lib.hid hva
  have HVB := Lib.hid hvb
  obtain ⟨va0, van, vac, hvae⟩ := hva.slice
  obtain ⟨vb0, vbn, vbc, hvbe⟩ := hvb.slice
  clear hva hvb
  subst hvae
  subst hvbe
  have HF14 := Lib.hid (fun (W : World) (hb : Below w.heap.size w W) => fit14_3t hb HVA.out HVB.out h2a h2b hzt hzv h5)
  have HXX := Lib.hid (And.intro hwt (And.intro hls hnum))
  clear hS h1 h2a h2b h3 h5 hcx hwt hls hfl hk3 hnum
  go_enter Try.func10, Try.ntmps10
  go_upto_region 1 with fail
  generalize hWX : w.alloc _ = WX
  have HB : Hid (Below w.heap.size w WX) := Lib.hid (by rw [← hWX]; exact (Below.refl _ _).alloc (Nat.le_refl _) _)
  have q3 : WX.heap[w.heap.size]? = some (.cells #[.slice A S.flags.length cap, .bool S.plain, .bool S.unknown, .int .i64 S.fold] 24 (0, 0)) := by rw [← hWX]; exact heap_alloc_new w _
  clear hWX
  have c0 : WX.cell? ⟨w.heap.size, 0, none⟩ = some (.slice A S.flags.length cap) := (cell_blk q3 0).trans rfl
  have c1 : WX.cell? ⟨w.heap.size, 1, none⟩ = some (.bool S.plain) := (cell_blk q3 1).trans rfl
  have c2 : WX.cell? ⟨w.heap.size, 2, none⟩ = some (.bool S.unknown) := (cell_blk q3 2).trans rfl
  have c3 : WX.cell? ⟨w.heap.size, 3, none⟩ = some (.int .i64 S.fold) := (cell_blk q3 3).trans rfl
  have hts : (mkT t).size = t.length := mkT_size t
  go_wp2_with (first | ((with_reducible go_at_call 14); (with_reducible refine Calls.mono (H19.out _ HB.out) ?_); rintro e w3 ⟨rfl, hb3⟩; have q3 := block_kept q3 hb3; have c0 := cell_kept hb3 c0; have c1 := cell_kept hb3 c1; have c2 := cell_kept hb3 c2; have c3 := cell_kept hb3 c3; have HB := Lib.hid (HB.out.trans (hb3.mono HB.out.size)); clear hb3) | ((with_reducible go_at_call 15); (with_reducible refine Calls.mono (H2a.out _ HB.out) ?_); rintro e w3 ⟨rfl, hb3⟩; have q3 := block_kept q3 hb3; have c0 := cell_kept hb3 c0; have c1 := cell_kept hb3 c1; have c2 := cell_kept hb3 c2; have c3 := cell_kept hb3 c3; have HB := Lib.hid (HB.out.trans (hb3.mono HB.out.size)); clear hb3) | ((with_reducible go_at_call 15); (with_reducible refine Calls.mono (H2b.out _ HB.out) ?_); rintro e w3 ⟨rfl, hb3⟩; have q3 := block_kept q3 hb3; have c0 := cell_kept hb3 c0; have c1 := cell_kept hb3 c1; have c2 := cell_kept hb3 c2; have c3 := cell_kept hb3 c3; have HB := Lib.hid (HB.out.trans (hb3.mono HB.out.size)); clear hb3) | ((with_reducible go_at_call 16); (with_reducible refine Calls.mono (HRT.out _ HB.out) ?_); rintro e w3 ⟨rfl, hb3⟩; have q3 := block_kept q3 hb3; have c0 := cell_kept hb3 c0; have c1 := cell_kept hb3 c1; have c2 := cell_kept hb3 c2; have c3 := cell_kept hb3 c3; have HB := Lib.hid (HB.out.trans (hb3.mono HB.out.size)); clear hb3) | ((with_reducible go_at_call 17); (with_reducible refine Calls.mono (HF14.out _ HB.out) ?_); rintro e w3 ⟨rfl, hb3⟩; have q3 := block_kept q3 hb3; have c0 := cell_kept hb3 c0; have c1 := cell_kept hb3 c1; have c2 := cell_kept hb3 c2; have c3 := cell_kept hb3 c3; have HB := Lib.hid (HB.out.trans (hb3.mono HB.out.size)); clear hb3) | ((with_reducible go_at_call 33); (with_reducible refine Calls.mono (HCP.out _ HB.out) ?_); rintro e w3 ⟨rfl, hb3⟩; have q3 := block_kept q3 hb3; have c0 := cell_kept hb3 c0; have c1 := cell_kept hb3 c1; have c2 := cell_kept hb3 c2; have c3 := cell_kept hb3 c3; have HB := Lib.hid (HB.out.trans (hb3.mono HB.out.size)); clear hb3) | ((with_reducible go_at_call 25); (with_reducible refine Calls.mono (HLV.out _ HB.out) ?_); rintro e w3 ⟨rfl, hb3⟩; have q3 := block_kept q3 hb3; have c0 := cell_kept hb3 c0; have c1 := cell_kept hb3 c1; have c2 := cell_kept hb3 c2; have c3 := cell_kept hb3 c3; have HB := Lib.hid (HB.out.trans (hb3.mono HB.out.size)); clear hb3))
  go_loopw [11] (fun i wr => ∃ k : Nat, k ≤ (mkT t).size ∧ i = .int .i64 k ∧ wr = w3 ∧ Hid (∀ j (hj : j < (mkT t).size), j < k → (mkT t)[j] ≠ 61)) (fun i _ => (mkT t).size - (intOf i).toNat)
  case atStart => exact ⟨0, Nat.zero_le _, rfl, by first | rfl | trivial, Lib.hid (fun j hj h => absurd h (Nat.not_lt_zero _))⟩
  case round =>
    obtain ⟨k, hk, rfl, rfl, HN⟩ := hrel
    have i0 : (0 : Int) ≤ (k : Int) := Int.natCast_nonneg _
    by_cases hlt : k < (mkT t).size
    · have i1 : (k : Int) < ((mkT t).size : Int) := by omega
      by_cases hb : (mkT t)[k] = 61
      · have b1 : (((mkT t)[k].toNat : Int) == 61) = true := by rw [hb]; rfl
        clear hts hb
        go_wp2_with (first | ((with_reducible go_at_call 25); (with_reducible refine Calls.mono (HLV.out _ HB.out) ?_); rintro e w3 ⟨rfl, hb3⟩; have HB := Lib.hid (HB.out.trans (hb3.mono HB.out.size)); clear hb3))
        go_ret
        exact yesEnd rfl HB.out
      · have b1 : (((mkT t)[k].toNat : Int) == 61) = false := nat_beq_false (b := 61) (fun e => hb (UInt8.toNat_inj.1 e))
        clear hts
        go_wp2_with fail
        go_roundw
        case rel => exact ⟨k + 1, by omega, by go_num, by first | rfl | trivial, Lib.hid (fun j hj h => by
          by_cases e : j = k
          · subst e; exact hb
          · exact HN.out j hj (by omega))⟩
        case measure => simp [intOf]; omega
    have hke : k = (mkT t).size := by omega
    have i1 : ¬ (k : Int) < ((mkT t).size : Int) := by omega
    have HM1 : Hid (¬ (61 : UInt8) ∈ t) := Lib.hid (no_byte (fun j hj => HN.out j hj (by omega)))
    clear HN hlt
    by_cases hte : t = []
    · subst hte
      have z1 : mkT ([] : Txt) = ⟨#[]⟩ := rfl
      clear HNM
      simp only [z1] at i1 hke hts ⊢
      go_wp2_with (first | ((with_reducible go_at_call 25); (with_reducible refine Calls.mono (HLV.out _ HB.out) ?_); rintro e w3 ⟨rfl, hb3⟩; have HB := Lib.hid (HB.out.trans (hb3.mono HB.out.size)); clear hb3))
      go_ret
      exact yesEnd rfl HB.out
    obtain ⟨ch, tr, hct⟩ := List.exists_cons_of_ne_nil hte
    obtain ⟨p0, g0⟩ := mkT_get hct
    have po1 := nonempty_list p0
    have po2 := nonempty_not p0
    by_cases h45 : ch = 45
    · have b1 : (((mkT t)[0].toNat : Int) == 45) = true := by rw [g0, h45]; rfl
      clear hct g0 hts h45
      go_wp2_with (first | ((with_reducible go_at_call 25); (with_reducible refine Calls.mono (HLV.out _ HB.out) ?_); rintro e w3 ⟨rfl, hb3⟩; have HB := Lib.hid (HB.out.trans (hb3.mono HB.out.size)); clear hb3))
      go_ret
      exact yesEnd rfl HB.out
    have b1 : (((mkT t)[0].toNat : Int) == 45) = false := nat_beq_false (b := 45) (by rw [g0]; intro e; exact h45 (UInt8.toNat_inj.1 e))
    have HMT : Hid (Meet t) := Lib.hid ⟨⟨ch, tr, hct, h45⟩, HM1.out⟩
    clear hct g0 h45 hte
    by_cases hh : t = helpT
    · have b2 : ((mkT t).toList == [104, 101, 108, 112]) = true := by rw [ByteArray.toList_eq, mkT_list, hh]; rfl
      clear hh hts
      go_wp2_with (first | ((with_reducible go_at_call 25); (with_reducible refine Calls.mono (HLV.out _ HB.out) ?_); rintro e w3 ⟨rfl, hb3⟩; have HB := Lib.hid (HB.out.trans (hb3.mono HB.out.size)); clear hb3))
      go_ret
      exact yesEnd rfl HB.out
    have b2 : ((mkT t).toList == [104, 101, 108, 112]) = false := by rw [ByteArray.toList_eq, mkT_list]; simpa [helpT] using hh
    have HH := Lib.hid hh
    clear hh
    by_cases hnd : ∃ f ∈ S.flags, foldT S.fold f.name = foldT S.fold t
    · have hnd := Lib.hid hnd
      clear hts
      go_wp2_with (first | ((with_reducible go_at_call 25); (with_reducible refine Calls.mono (HLV.out _ HB.out) ?_); rintro e w3 ⟨rfl, hb3⟩; have HB := Lib.hid (HB.out.trans (hb3.mono HB.out.size)); clear hb3) | ((with_reducible go_at_call 35); (with_reducible refine Calls.mono (HNM.out _ HB.out) ?_); rintro e w3 ⟨r, rfl, hr, hb3⟩; have q3 := block_kept q3 hb3; have c0 := cell_kept hb3 c0; have c1 := cell_kept hb3 c1; have c2 := cell_kept hb3 c2; have c3 := cell_kept hb3 c3; have HB := Lib.hid (HB.out.trans (hb3.mono HB.out.size)); have hr := hr.2 hnd.out; clear hb3))
      go_ret
      exact yesEnd rfl HB.out
    have HNO : Hid (named S t = none) := Lib.hid (by
      unfold named
      rw [List.findIdx?_eq_none_iff]
      intro f hf
      exact decide_eq_false (fun e => hnd ⟨f, hf, e⟩))
    have hnd := Lib.hid hnd
    clear hts
    go_upto_region 12 with ((with_reducible go_at_call 35); (with_reducible refine Calls.mono (HNM.out _ HB.out) ?_); rintro e w3 ⟨r, rfl, hr, hb3⟩; have q3 := block_kept q3 hb3; have c0 := cell_kept hb3 c0; have c1 := cell_kept hb3 c1; have c2 := cell_kept hb3 c2; have c3 := cell_kept hb3 c3; have HB := Lib.hid (HB.out.trans (hb3.mono HB.out.size)); have hr : r < 0 := (named_not hr hnd.out); clear hb3)
    have hAP : goes S none st0 (L ++ ((([45, 45] ++ t) ++ [61]) ++ vl) :: M) = if S.unknown = true then goes S none (goes S none st0 L) M else { goes S none st0 L with err := .notExist t [] } := by
      have e : longT t vl = ((([45, 45] ++ t) ++ [61]) ++ vl) := by simp [longT]
      rw [← e]
      exact (HCX.out.comp.app (longT t vl :: M)).trans (law_unknown _ HCX.out.err HMT.out HH.out HNO.out vl M)
    have hAP2 := HCX.out.comp.app M
    obtain ⟨hwt, hls, hnum2⟩ := HXX.out
    have hlx : (((([45, 45] ++ t) ++ [61]) ++ vl)).length = t.length + vl.length + 3 := by simp; omega
    have hw1 : wt (L ++ ((([45, 45] ++ t) ++ [61]) ++ vl) :: M) ≤ 1099511627776 := by
      rw [wt_app]
      have e : wt (((([45, 45] ++ t) ++ [61]) ++ vl) :: M) = (((([45, 45] ++ t) ++ [61]) ++ vl)).length + 1 + wt M := rfl
      rw [e]; omega
    have hl1 : ∀ x ∈ (L ++ ((([45, 45] ++ t) ++ [61]) ++ vl) :: M), x.length ≤ 8589934592 := by
      intro x hx
      rcases List.mem_append.1 hx with h | h
      · exact hls x h
      · rcases List.mem_cons.1 h with h | h
        · rw [h]; omega
        · have := wt_mem h; omega
    have hw2 : wt (L ++ M) ≤ 1099511627776 := by rw [wt_app]; omega
    have hl2 : ∀ x ∈ (L ++ M), x.length ≤ 8589934592 := by
      intro x hx
      rcases List.mem_append.1 hx with h | h
      · exact hls x h
      · have := wt_mem h; omega
    have hwlL := wt_len L
    have hwlM := wt_len M
    have hflat1 : [L.map mkT, [mkT (((([45, 45] ++ t) ++ [61]) ++ vl))], M.map mkT].flatten.length < 8796093022208 := by simp; omega
    have hflat2 : [L.map mkT, M.map mkT].flatten.length < 8796093022208 := by simp; omega
    have HZ : Hid (t.length + vl.length ≤ 1048576) := Lib.hid (by omega)
    generalize hWB : w3 = WB at *
    clear hWB
    have hbx := HB.out
    have HVC := Lib.hid (HVA.out.below hbx)
    have HVD := Lib.hid (HVB.out.below hbx)
    clear c0 c1 c2 c3
    refine region_inv (by kernel_rfl) (fun u v => Below u.heap.size u v) (U12 (.agg #[.slice A S.flags.length cap, .bool S.plain, .bool S.unknown, .int .i64 S.fold]) (S) (WB.heap.size) (t) (vl) (.slice va0 van vac) (.slice vb0 vbn vbc) (L) (M)) (fun i => decide (i = 12)) (fun i => [86, 87, 88, 89, 90, 91, 92, 93, 94, 95, 96, 97, 12].getD i 0) 13
      (Below.refl _ _) (fun _ _ _ h k => below_step h k) (fun i hi v u u' h hb => U12.below hi h hb) ?_ (hgd_none (by kernel_rfl)) (by kernel_rfl) (by kernel_rfl) (by kernel_rfl) (by kernel_rfl) ?_ ?_
    · intro i hi hA v u h
      have : i = 12 := of_decide_eq_true hA
      subst this
      obtain ⟨g, rfl, _, h⟩ := h
      exact in_of h
    · intro i hi o ho a u hG hk hd
      have hG9 : Below WB.heap.size WB u := ((Below.refl _ _).drew).trans hG
      match i, hi with
      | 0, _ =>
        cases ho
        exact ow_load_set rfl ((hk 5 (by decide)).trans rfl) (block_kept q3 hG9) ⟨_, rfl, rfl, Below.refl _ _, fun h => by cases h⟩
      | 1, _ =>
        cases ho
        exact ow_move rfl ((hk 1 (by decide)).trans rfl) ⟨_, rfl, rfl, Below.refl _ _, fun h => by cases h⟩
      | 2, _ =>
        cases ho
        exact ow_move rfl ((hk 2 (by decide)).trans rfl) ⟨_, rfl, rfl, Below.refl _ _, fun h => by cases h⟩
      | 3, _ =>
        cases ho
        have e88 : a.eval (.tmp 88) = _ := hd 2 (by kernel_rfl) (by decide)
        exact ow_cat (by simp only [List.length_append, List.length_cons, List.length_nil]; have := HZ.out; omega) rfl (rfl : _ = Value.string (mkT [45, 45])) e88 ⟨_, rfl, rfl, Below.refl _ _, fun h => by cases h⟩
      | 4, _ =>
        cases ho
        have e89 : a.eval (.tmp 89) = _ := hd 3 (by kernel_rfl) (by decide)
        exact ow_cat (by simp only [List.length_append, List.length_cons, List.length_nil]; have := HZ.out; omega) rfl e89 (rfl : _ = Value.string (mkT [61])) ⟨_, rfl, rfl, Below.refl _ _, fun h => by cases h⟩
      | 5, _ =>
        cases ho
        exact ow_move rfl ((hk 3 (by decide)).trans rfl) ⟨_, rfl, rfl, Below.refl _ _, fun h => by cases h⟩
      | 6, _ =>
        cases ho
        have e90 : a.eval (.tmp 90) = _ := hd 4 (by kernel_rfl) (by decide)
        have e91 : a.eval (.tmp 91) = _ := hd 5 (by kernel_rfl) (by decide)
        exact ow_cat (by simp only [List.length_append, List.length_cons, List.length_nil]; have := HZ.out; omega) rfl e90 e91 ⟨_, rfl, rfl, Below.refl _ _, fun h => by cases h⟩
      | 7, _ =>
        cases ho
        have e92 : a.eval (.tmp 92) = _ := hd 6 (by kernel_rfl) (by decide)
        exact ow_build1 (s := mkT (((([45, 45] ++ t) ++ [61]) ++ vl))) (v := .nilIface) rfl e92 ⟨_, rfl, ⟨_, rfl, heap_alloc_new _ _⟩, (Below.refl _ _).alloc (Nat.le_refl _) _, fun h => by cases h⟩
      | 8, _ =>
        cases ho
        exact ow_move rfl ((hk 4 (by decide)).trans rfl) ⟨_, rfl, rfl, Below.refl _ _, fun h => by cases h⟩
      | 9, _ =>
        cases ho
        have e87 : a.eval (.tmp 87) = _ := hd 1 (by kernel_rfl) (by decide)
        obtain ⟨g93, e93, hg93⟩ := hd 7 (by kernel_rfl) (by decide)
        have e94 : a.eval (.tmp 94) = _ := hd 8 (by kernel_rfl) (by decide)
        exact ow_rows3 rfl e87 e93 e94 ⟨_, rfl, ⟨_, _, rfl, rows3 (heap_alloc_new _ _) ((HVC.out.below hG9).below ((Below.refl _ _).alloc (Nat.le_refl _) _)) ((one_text hg93).below ((Below.refl _ _).alloc (Nat.le_refl _) _)) ((HVD.out.below hG9).below ((Below.refl _ _).alloc (Nat.le_refl _) _))⟩, (Below.refl _ _).alloc (Nat.le_refl _) _, fun h => by cases h⟩
      | 10, _ =>
        cases ho
        obtain ⟨g, vs, e95', hr⟩ := hd 9 (by kernel_rfl) (by decide)
        have e95 : a.eval (.tmp 95) = .slice (some ⟨g, 0, none⟩) 3 3 := e95'
        have hl14 : Calls Try.prog 27 #[.slice (some ⟨g, 0, none⟩) 3 3] u _ := list14_c (ls := [L.map mkT, [mkT (((([45, 45] ++ t) ++ [61]) ++ vl))], M.map mkT]) hr (by (show 3 ≤ 2147483647; decide)) (Nat.le_refl 3) hflat1
        refine ow_call #[.tmp 95] #[68] 27 Try.func27 (by kernel_rfl) (by rfl) rfl #[.slice (some ⟨g, 0, none⟩) 3 3] (by simp only [List.map_toArray, List.map_cons, List.map_nil, e95]) hl14 ?_
        rintro e u2 ⟨v, rfl, hv2, hb2⟩
        refine ⟨v, rfl, _, rfl, ?_, hb2, fun h => by cases h⟩
        show TextIn u2 v (((L ++ ((([45, 45] ++ t) ++ [61]) ++ vl) :: M)).map mkT)
        simpa using hv2
      | 11, _ =>
        cases ho
        have e86 : a.eval (.tmp 86) = _ := hd 0 (by kernel_rfl) (by decide)
        have e96 : TextIn u (a.eval (.tmp 96)) (((L ++ ((([45, 45] ++ t) ++ [61]) ++ vl) :: M)).map mkT) := hd 10 (by kernel_rfl) (by decide)
        refine ow_call #[.tmp 86, .tmp 96] #[24, 25] 26 Try.func26 (by kernel_rfl) (by rfl) rfl #[_, a.eval (.tmp 96)] (by simp only [List.map_toArray, List.map_cons, List.map_nil, e86]) (HPC.out u (hbx.trans (hG9.mono hbx.size)) _ ((L ++ ((([45, 45] ++ t) ++ [61]) ++ vl) :: M)) e96 hw1 hl1) ?_
        rintro e u2 ⟨v, rfl, hv2, hb2⟩
        exact ⟨v, rfl, _, rfl, hv2, hb2, fun h => by cases h⟩
      | 12, _ =>
        cases ho
        exact ow_alloc_hd rfl ⟨_, rfl, ⟨_, rfl, hG9.size, heap_alloc_new _ _⟩, (Below.refl _ _).alloc (Nat.le_refl _) _, fun _ => not_in⟩
      | k + 13, hi => exact absurd hi (by omega)
    · intro x u hG hx hdif
      have hG9 : Below WB.heap.size WB u := ((Below.refl _ _).drew).trans hG
      obtain ⟨g7, e7, hB7, hg7⟩ := hx 12 (by decide)
      have h1 := hx 11 (by decide)
      have h1 : HeardOwn u (psOf none true (goes S none st0 (L ++ ((([45, 45] ++ t) ++ [61]) ++ vl) :: M))) (goes S none st0 (L ++ ((([45, 45] ++ t) ++ [61]) ++ vl) :: M)).err S.flags.length (x 11) := h1
      obtain ⟨ga, gc, ta, tc, ca, cc, e41, hrow1⟩ := h1
      have hall : goes S none st0 (L ++ ((([45, 45] ++ t) ++ [61]) ++ vl) :: M) = goes S none st0 (L ++ ((([45, 45] ++ t) ++ [61]) ++ vl) :: M) := rfl
      generalize hst : goes S none st0 (L ++ ((([45, 45] ++ t) ++ [61]) ++ vl) :: M) = st1 at hrow1 e41 hAP
      simp only [putAll, Act.put, List.getD_cons_zero, List.getD_cons_succ, List.setIfInBounds_toArray, List.set_cons_succ, List.set_cons_zero]
      refine wpAny_last (i := 13) (by kernel_rfl) rfl rfl (by kernel_rfl) ?_
      refine ow_store_hd (s := psOf none true st1) (er := st1.err) (n := S.flags.length) rfl rfl e7 e41 hg7 ?_
      rw [e7]
      have hV := hdPut_blk (psOf none true st1) st1.err S.flags.length (.slice ga (psOf none true st1).G.length gc) (.slice ta (psOf none true st1).A.length tc) (.slice ca (chL (psOf none true st1).chg S.flags.length).length cc) hg7
      have hrow1 := hrow1.put (t := psOf none true st1) (er := st1.err) (G' := .slice ga (psOf none true st1).G.length gc) (A' := .slice ta (psOf none true st1).A.length tc) (C' := .slice ca (chL (psOf none true st1).chg S.flags.length).length cc) hg7
      have hbU : Below WB.heap.size WB (hdPut u g7 (psOf none true st1) st1.err (.slice ga (psOf none true st1).G.length gc) (.slice ta (psOf none true st1).A.length tc) (.slice ca (chL (psOf none true st1).chg S.flags.length).length cc)) := hdPut_below _ _ _ _ _ hG9 hB7
      generalize hdPut u g7 (psOf none true st1) st1.err (.slice ga (psOf none true st1).G.length gc) (.slice ta (psOf none true st1).A.length tc) (.slice ca (chL (psOf none true st1).chg S.flags.length).length cc) = U at hV hrow1 hbU ⊢
      have HB : Hid (Below w.heap.size w U) := Lib.hid (hbx.trans (hbU.mono hbx.size))
      have q3 := block_kept q3 hbU
      clear hg7 e41 e7 hdif hx hG hG9 hbx HVC HVD
      have hbx := HB.out
      have HVC := Lib.hid (HVA.out.below hbx)
      have HVD := Lib.hid (HVB.out.below hbx)
      rcases Bool.eq_false_or_eq_true S.unknown with hun | hun
      · have c2 : U.cell? ⟨w.heap.size, 2, none⟩ = some (.bool true) := (cell_blk q3 2).trans (by rw [hun]; rfl)
        rw [if_pos hun] at hAP
        have HEQ : Hid (goes S none st0 (L ++ ((([45, 45] ++ t) ++ [61]) ++ vl) :: M) = goes S none st0 (L ++ M)) := Lib.hid (hst.trans (hAP.trans hAP2.symm))
        subst hst
        have hlen := goes_len S none st0 (L ++ ((([45, 45] ++ t) ++ [61]) ++ vl) :: M)
        have hg1 : (psOf none true (goes S none st0 (L ++ ((([45, 45] ++ t) ++ [61]) ++ vl) :: M))).G.length ≤ 1099511627776 := by
          have e : (psOf none true (goes S none st0 (L ++ ((([45, 45] ++ t) ++ [61]) ++ vl) :: M))).G.length = (goes S none st0 (L ++ ((([45, 45] ++ t) ++ [61]) ++ vl) :: M)).given.length := rfl
          rw [e]; have : st0.given.length = 0 := rfl; omega
        have hg2 : (psOf none true (goes S none st0 (L ++ ((([45, 45] ++ t) ++ [61]) ++ vl) :: M))).A.length ≤ 1099511627776 := by
          have e : (psOf none true (goes S none st0 (L ++ ((([45, 45] ++ t) ++ [61]) ++ vl) :: M))).A.length = (goes S none st0 (L ++ ((([45, 45] ++ t) ++ [61]) ++ vl) :: M)).args.length := rfl
          have e2 : (L ++ ((([45, 45] ++ t) ++ [61]) ++ vl) :: M).length = L.length + M.length + 1 := by simp; omega
          rw [e]; have : st0.args.length = 0 := rfl; omega
        have HGO := Lib.hid (show HeardOwn U (psOf none true (goes S none st0 (L ++ ((([45, 45] ++ t) ++ [61]) ++ vl) :: M))) (goes S none st0 (L ++ ((([45, 45] ++ t) ++ [61]) ++ vl) :: M)).err S.flags.length _ from ⟨ga, gc, ta, tc, ca, cc, rfl, hrow1⟩)
        clear hun hAP hAP2 hall hlen
        go_upto_region 14 with fail
        refine region_inv (by kernel_rfl) (fun u v => Below u.heap.size u v) (U14 (.agg #[.slice A S.flags.length cap, .bool S.plain, .bool S.unknown, .int .i64 S.fold]) (S) (t) (vl) (.slice va0 van vac) (.slice vb0 vbn vbc) (L) (M) (g7)) (fun i => false) (fun i => [100, 101, 102, 103, 104, 105, 106, 107, 10].getD i 0) 9
          (Below.refl _ _) (fun _ _ _ h k => below_step h k) (fun i hi v u u' h hb => U14.below hi h hb) ?_ (hgd_none (by kernel_rfl)) (by kernel_rfl) (by kernel_rfl) (by kernel_rfl) (by kernel_rfl) ?_ ?_
        · intro i hi hA; cases hA
        · intro i hi o ho a u hG hk hd
          have hG9 : Below U.heap.size U u := ((Below.refl _ _).drew).trans hG
          match i, hi with
          | 0, _ =>
            cases ho
            exact ow_load_hd rfl ((hk 12 (by decide)).trans rfl) (block_kept hV hG9) ⟨_, rfl, HGO.out.below hG9, Below.refl _ _, fun h => by cases h⟩
          | 1, _ =>
            cases ho
            exact ow_load_set rfl ((hk 5 (by decide)).trans rfl) (block_kept q3 hG9) ⟨_, rfl, rfl, Below.refl _ _, fun h => by cases h⟩
          | 2, _ =>
            cases ho
            exact ow_move rfl ((hk 1 (by decide)).trans rfl) ⟨_, rfl, rfl, Below.refl _ _, fun h => by cases h⟩
          | 3, _ =>
            cases ho
            exact ow_move rfl ((hk 4 (by decide)).trans rfl) ⟨_, rfl, rfl, Below.refl _ _, fun h => by cases h⟩
          | 4, _ =>
            cases ho
            have e102 : a.eval (.tmp 102) = _ := hd 2 (by kernel_rfl) (by decide)
            have e103 : a.eval (.tmp 103) = _ := hd 3 (by kernel_rfl) (by decide)
            exact ow_rows2 rfl e102 e103 ⟨_, rfl, ⟨_, _, rfl, rows2 (heap_alloc_new _ _) ((HVC.out.below hG9).below ((Below.refl _ _).alloc (Nat.le_refl _) _)) ((HVD.out.below hG9).below ((Below.refl _ _).alloc (Nat.le_refl _) _))⟩, (Below.refl _ _).alloc (Nat.le_refl _) _, fun h => by cases h⟩
          | 5, _ =>
            cases ho
            obtain ⟨g, vs, e104', hr⟩ := hd 4 (by kernel_rfl) (by decide)
            have e104 : a.eval (.tmp 104) = .slice (some ⟨g, 0, none⟩) 2 2 := e104'
            have hl14 : Calls Try.prog 27 #[.slice (some ⟨g, 0, none⟩) 2 2] u _ := list14_c (ls := [L.map mkT, M.map mkT]) hr (by (show 2 ≤ 2147483647; decide)) (Nat.le_refl 2) hflat2
            refine ow_call #[.tmp 104] #[68] 27 Try.func27 (by kernel_rfl) (by rfl) rfl #[.slice (some ⟨g, 0, none⟩) 2 2] (by simp only [List.map_toArray, List.map_cons, List.map_nil, e104]) hl14 ?_
            rintro e u2 ⟨v, rfl, hv2, hb2⟩
            refine ⟨v, rfl, _, rfl, ?_, hb2, fun h => by cases h⟩
            show TextIn u2 v (((L ++ M)).map mkT)
            simpa using hv2
          | 6, _ =>
            cases ho
            have e101 : a.eval (.tmp 101) = _ := hd 1 (by kernel_rfl) (by decide)
            have e105 : TextIn u (a.eval (.tmp 105)) (((L ++ M)).map mkT) := hd 5 (by kernel_rfl) (by decide)
            refine ow_call #[.tmp 101, .tmp 105] #[24, 25] 26 Try.func26 (by kernel_rfl) (by rfl) rfl #[_, a.eval (.tmp 105)] (by simp only [List.map_toArray, List.map_cons, List.map_nil, e101]) (HPC.out u (hbx.trans (hG9.mono hbx.size)) _ ((L ++ M)) e105 hw2 hl2) ?_
            rintro e u2 ⟨v, rfl, hv2, hb2⟩
            exact ⟨v, rfl, _, rfl, hv2, hb2, fun h => by cases h⟩
          | 7, _ =>
            cases ho
            have e100 : HeardOwn u (psOf none true (goes S none st0 ((L ++ ((([45, 45] ++ t) ++ [61]) ++ vl) :: M)))) (goes S none st0 ((L ++ ((([45, 45] ++ t) ++ [61]) ++ vl) :: M))).err S.flags.length (a.eval (.tmp 100)) := hd 0 (by kernel_rfl) (by decide)
            have e106 : HeardOwn u (psOf none true (goes S none st0 ((L ++ M)))) (goes S none st0 ((L ++ M))).err S.flags.length (a.eval (.tmp 106)) := hd 6 (by kernel_rfl) (by decide)
            rw [← HEQ.out] at e106
            refine ow_call #[.tmp 100, .tmp 106] #[32, 32] 22 Try.func22 (by kernel_rfl) (by rfl) rfl #[a.eval (.tmp 100), a.eval (.tmp 106)] (by simp only [List.map_toArray, List.map_cons, List.map_nil]) (same_c e100.is e106.is hg1 hg2 hnum2) ?_
            rintro e u2 ⟨rfl, hb2⟩
            exact ⟨_, rfl, _, rfl, rfl, hb2, fun h => by cases h⟩
          | 8, _ =>
            cases ho
            have e107 : a.eval (.tmp 107) = .bool true := hd 7 (by kernel_rfl) (by decide)
            exact ow_assign rfl e107 ⟨_, rfl, rfl, Below.refl _ _, fun h => by cases h⟩
        · intro x u hG hx hdif
          have hlast : x 8 = _ := hx 8 (by decide)
          simp only [putAll, Act.put, List.getD_cons_zero, List.getD_cons_succ, List.setIfInBounds_toArray, List.set_cons_succ, List.set_cons_zero]
          refine wpAny_end (by kernel_rfl) ?_
          rw [hlast]
          go_wp2
          go_ret
          exact yesEnd rfl (hbx.trans ((((Below.refl _ _).drew).trans hG).mono hbx.size))
      · have c2 : U.cell? ⟨w.heap.size, 2, none⟩ = some (.bool false) := (cell_blk q3 2).trans (by rw [hun]; rfl)
        have c0 : U.cell? ⟨w.heap.size, 0, none⟩ = some (.slice A S.flags.length cap) := (cell_blk q3 0).trans rfl
        have c1 : U.cell? ⟨w.heap.size, 1, none⟩ = some (.bool S.plain) := (cell_blk q3 1).trans rfl
        have c3 : U.cell? ⟨w.heap.size, 3, none⟩ = some (.int .i64 S.fold) := (cell_blk q3 3).trans rfl
        rw [if_neg (by rw [hun]; decide)] at hAP
        have HUN := Lib.hid hun
        clear hst hall hAP2 HCX
        have hgl := goes_len S none st0 L
        have hgl : (goes S none st0 L).given.length ≤ 1048576 ∧ (goes S none st0 L).args.length ≤ 1048576 := by
          have : st0.given.length = 0 := rfl
          have : st0.args.length = 0 := rfl
          omega
        generalize goes S none st0 L = st at hAP HP hgl
        subst hAP
        have HP : Hid (∀ (W : World), Below w.heap.size w W → Calls Try.prog 26 #[.agg #[.slice A S.flags.length cap, .bool S.plain, .bool false, .int .i64 S.fold], .slice va0 van vac] W (Said1 W S st)) := Lib.hid (fun W hb => by
          have h := HP.out W hb
          rw [HUN.out] at h; exact h)
        clear hun
        go_upto_region 16 with ((with_reducible go_at_call 26); (with_reducible refine Calls.mono (HP.out _ HB.out) ?_); rintro e w5 ⟨ga5, gc5, ta5, tc5, ca5, cc5, rfl, hf, hb5⟩; have HF := Lib.hid hf; clear hf)
        generalize hWX : w5.alloc _ = WX
        have hb9 : Below w5.heap.size w5 WX := by rw [← hWX]; exact (Below.refl _ _).alloc (Nat.le_refl _) _
        have q5 : WX.cell? ⟨w5.heap.size, 5, none⟩ = some (.slice ga5 st.given.length gc5) := by rw [← hWX]; exact (cell_blk (heap_alloc_new w5 _) 5).trans rfl
        have q6 : WX.cell? ⟨w5.heap.size, 6, none⟩ = some (.slice ta5 st.args.length tc5) := by rw [← hWX]; exact (cell_blk (heap_alloc_new w5 _) 6).trans rfl
        clear hWX
        have hb7 : Below U.heap.size U WX := hb5.trans (hb9.mono hb5.size)
        have hV := block_kept hV hb7
        have hrow1 := hrow1.below hb7
        have hrow2 := HF.out.below hb9
        have y0 : WX.cell? ⟨g7, 0, none⟩ = some (.int .i64 2) := (cell_blk hV 0).trans rfl
        have y1 : WX.cell? ⟨g7, 1, none⟩ = some (.string (mkT t)) := (cell_blk hV 1).trans rfl
        have y2 : WX.cell? ⟨g7, 2, none⟩ = some (.string ⟨#[]⟩) := (cell_blk hV 2).trans rfl
        have y5 : WX.cell? ⟨g7, 5, none⟩ = some (.slice ga st.given.length gc) := (cell_blk hV 5).trans rfl
        have y6 : WX.cell? ⟨g7, 6, none⟩ = some (.slice ta st.args.length tc) := (cell_blk hV 6).trans rfl
        obtain ⟨-, r11, r12, r13, _⟩ := own_full hrow1.1
        obtain ⟨-, r21, r22, r23, _⟩ := own_full hrow2.1
        have HTA := Lib.hid (show TextIn WX (.slice ta st.args.length tc) (st.args.map mkT) from by have h := hrow1.hdIn.2.1; exact h)
        have HTB := Lib.hid (show TextIn WX (.slice ta5 st.args.length tc5) (st.args.map mkT) from by have h := hrow2.hdIn.2.1; exact h)
        have HSG : Hid (Says WX 34 #[.slice ga5 st.given.length gc5, .slice ga st.given.length gc] true) := Lib.hid (fun W hb => by
          have h := sameGiven_c (G := st.given) (H := st.given) (rowAt_below r21 hb) r22 (by omega) (rowAt_below r11 hb) r12 (by omega)
          rw [decide_eq_true rfl] at h
          exact h)
        have HST : Hid (Says WX 23 #[.slice ta5 st.args.length tc5, .slice ta st.args.length tc] true) := Lib.hid (fun W hb => by
          have h := sameTexts_c (HTB.out.below hb) (HTA.out.below hb) (by simp; omega)
          rw [decide_eq_true rfl] at h
          exact h)
        have HBW := Lib.hid (HB.out.trans (hb7.mono HB.out.size))
        have HLV := Lib.hid (saysL WX)
        have HB := Lib.hid (Below.refl WX.heap.size WX)
        clear hV hrow1 hrow2 r11 r12 r13 r21 r22 r23 hb5 hb7 hb9 q3 c0 c1 c2 c3 hbU
        go_wp2_with (first | ((with_reducible go_at_call 34); (with_reducible refine Calls.mono (HSG.out _ HB.out) ?_); rintro e w3 ⟨rfl, hb3⟩; have q5 := cell_kept hb3 q5; have q6 := cell_kept hb3 q6; have y5 := cell_kept hb3 y5; have y6 := cell_kept hb3 y6; have HB := Lib.hid (HB.out.trans (hb3.mono HB.out.size)); clear hb3) | ((with_reducible go_at_call 23); (with_reducible refine Calls.mono (HST.out _ HB.out) ?_); rintro e w3 ⟨rfl, hb3⟩; have q5 := cell_kept hb3 q5; have q6 := cell_kept hb3 q6; have y5 := cell_kept hb3 y5; have y6 := cell_kept hb3 y6; have HB := Lib.hid (HB.out.trans (hb3.mono HB.out.size)); clear hb3) | ((with_reducible go_at_call 25); (with_reducible refine Calls.mono (HLV.out _ HB.out) ?_); rintro e w3 ⟨rfl, hb3⟩; have q5 := cell_kept hb3 q5; have q6 := cell_kept hb3 q6; have y5 := cell_kept hb3 y5; have y6 := cell_kept hb3 y6; have HB := Lib.hid (HB.out.trans (hb3.mono HB.out.size)); clear hb3))
        go_ret
        exact yesEnd rfl (HBW.out.trans (HB.out.mono HBW.out.size))
end Go.Proofs.Ytgmhhdpggnmipaa.E
