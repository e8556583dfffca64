/- laws.FnHanded over this seat's program. Written by gen_lwh.py. -/
import Derived.Test.YtgmhhdpggnmipaaGs17
import Derived.Test.YtgmhhdpggnmipaaLs
namespace Go.Proofs.Ytgmhhdpggnmipaa.E
open Go.RowKit Go.Proofs
set_option linter.unusedVariables false
set_option linter.unusedSimpArgs false
theorem says_parse {w : World} {A : Option Addr} {S : SetP} (hS : SetOK w A S) (cap : Nat) (W : World) (hb : Below w.heap.size w W) (v : Value) (L : List Txt) (hv : TextIn W v (L.map mkT)) (hwt : wt L ≤ 1099511627776) (hls : ∀ t ∈ L, t.length ≤ 8589934592) :
    Calls Try.prog 26 #[.agg #[.slice A S.flags.length cap, .bool S.plain, .bool S.unknown, .int .i64 S.fold], v] W fun e w' => ∃ u, e = .returned u ∧ HeardOwn w' (psOf none true (goes S none st0 L)) (goes S none st0 L).err S.flags.length u ∧ Below W.heap.size W w' := parse_c (hS.below hb) cap hv hwt hls
theorem parseAll_c {w : World} {A : Option Addr} {S : SetP} (h : SetOK w A S) (cap : Nat) {v : Value} {L : List Txt} (hv : TextIn w v (L.map mkT)) (hwt : wt L ≤ 1099511627776) (hls : ∀ t ∈ L, t.length ≤ 8589934592) (hb : ∀ f ∈ S.flags, f.bad = []) :
    Calls Try.prog 39 #[.agg #[.slice A S.flags.length cap, .bool S.plain, .bool S.unknown, .int .i64 S.fold], v, .slice none 0 0] w fun e w' => ∃ u, e = .returned u ∧ HeardOwn w' (psOf (some []) true (goes S none st0 L)) (goes S none st0 L).err S.flags.length u ∧ Below w.heap.size w w' := by
  obtain ⟨Ar, cr, rfl, h1, h2, h3, h4, h5⟩ := hv
  have hl : (L.map mkT).length = L.length := List.length_map _
  rw [hl] at h2
  have hp := implParseAll_any S h.right A cap L Ar cr w h1 h2 h3 h4 h5 hwt hls h.flg h.low (Nat.le_trans h.num (by decide)) (fun i hi => Nat.le_trans (h.nsz i hi) (by decide))
  rw [law_handed hb L.length st0 L (Nat.le_refl _)] at hp
  rw [hl]
  refine hp.mono ?_
  rintro e w' ⟨GA, gc, AA, ac, CA, cc, rfl, hr, hb⟩
  exact ⟨_, rfl, ⟨GA, gc, AA, ac, CA, cc, rfl, hr.mono (Nat.zero_le _)⟩, hb⟩

set_option maxRecDepth 100000 in
set_option maxHeartbeats 6400000 in
theorem ha_1 {w : World} {A : Option Addr} {F : List FlagP} (hA : FlagsAt w A F) {cap : Nat} (hc : F.length ≤ cap) (hm : cap ≤ 9223372036854775807) (pl un : Bool) (k : Int) {va : Value} {L : List Txt} (hva : TextIn w va (L.map mkT)) (h1 : fits20 (F.map ofFlag) = false)  :
    Calls Try.prog 12 #[.agg #[.slice A F.length cap, .bool pl, .bool un, .int .i64 k], va] w (YesEnd w) := by
  have H19 := Lib.hid (says19 hA hc hm pl un k h1)
  have HVA := Lib.hid hva
  obtain ⟨va0, van, vac, hvae⟩ := hva.slice
  clear hva
  subst hvae
  go_enter Try.func12, Try.ntmps12
  go_upto_region 1 with fail
  generalize hWX : w.alloc _ = WX
  have HB : Hid (Below w.heap.size w WX) := Lib.hid (by rw [← hWX]; exact (Below.refl _ _).alloc (Nat.le_refl _) _)
  have q3 : WX.heap[w.heap.size]? = some (.cells #[.slice A F.length cap, .bool pl, .bool un, .int .i64 k] 24 (0, 0)) := by rw [← hWX]; exact heap_alloc_new w _
  clear hWX
  have c0 : WX.cell? ⟨w.heap.size, 0, none⟩ = some (.slice A F.length cap) := (cell_blk q3 0).trans rfl
  have c1 : WX.cell? ⟨w.heap.size, 1, none⟩ = some (.bool pl) := (cell_blk q3 1).trans rfl
  have c2 : WX.cell? ⟨w.heap.size, 2, none⟩ = some (.bool un) := (cell_blk q3 2).trans rfl
  have c3 : WX.cell? ⟨w.heap.size, 3, none⟩ = some (.int .i64 k) := (cell_blk q3 3).trans rfl
  go_wp2_with (first | ((with_reducible go_at_call 14); (with_reducible refine Calls.mono (H19.out _ HB.out) ?_); rintro e w3 ⟨rfl, hb3⟩; have q3 := block_kept q3 hb3; have c0 := cell_kept hb3 c0; have c1 := cell_kept hb3 c1; have c2 := cell_kept hb3 c2; have c3 := cell_kept hb3 c3; have HB := Lib.hid (HB.out.trans (hb3.mono HB.out.size)); clear hb3) | ((with_reducible go_at_call 15); (with_reducible refine Calls.mono (H2.out _ HB.out) ?_); rintro e w3 ⟨rfl, hb3⟩; have q3 := block_kept q3 hb3; have c0 := cell_kept hb3 c0; have c1 := cell_kept hb3 c1; have c2 := cell_kept hb3 c2; have c3 := cell_kept hb3 c3; have HB := Lib.hid (HB.out.trans (hb3.mono HB.out.size)); clear hb3) | ((with_reducible go_at_call 16); (with_reducible refine Calls.mono (HRT.out _ HB.out) ?_); rintro e w3 ⟨rfl, hb3⟩; have q3 := block_kept q3 hb3; have c0 := cell_kept hb3 c0; have c1 := cell_kept hb3 c1; have c2 := cell_kept hb3 c2; have c3 := cell_kept hb3 c3; have HB := Lib.hid (HB.out.trans (hb3.mono HB.out.size)); clear hb3) | ((with_reducible go_at_call 17); (with_reducible refine Calls.mono (HF14.out _ HB.out) ?_); rintro e w3 ⟨rfl, hb3⟩; have q3 := block_kept q3 hb3; have c0 := cell_kept hb3 c0; have c1 := cell_kept hb3 c1; have c2 := cell_kept hb3 c2; have c3 := cell_kept hb3 c3; have HB := Lib.hid (HB.out.trans (hb3.mono HB.out.size)); clear hb3) | ((with_reducible go_at_call 25); (with_reducible refine Calls.mono (HLV.out _ HB.out) ?_); rintro e w3 ⟨rfl, hb3⟩; have q3 := block_kept q3 hb3; have c0 := cell_kept hb3 c0; have c1 := cell_kept hb3 c1; have c2 := cell_kept hb3 c2; have c3 := cell_kept hb3 c3; have HB := Lib.hid (HB.out.trans (hb3.mono HB.out.size)); clear hb3))
  go_ret
  exact yesEnd rfl HB.out

set_option maxRecDepth 100000 in
set_option maxHeartbeats 6400000 in
theorem ha_2 {w : World} {A : Option Addr} {F : List FlagP} (hA : FlagsAt w A F) {cap : Nat} (hc : F.length ≤ cap) (hm : cap ≤ 9223372036854775807) (pl un : Bool) (k : Int) {va : Value} {L : List Txt} (hva : TextIn w va (L.map mkT)) (h1 : fits20 (F.map ofFlag) = true) (h2 : fits2 (L.map mkT) = false)  :
    Calls Try.prog 12 #[.agg #[.slice A F.length cap, .bool pl, .bool un, .int .i64 k], va] w (YesEnd w) := by
  have H19 := Lib.hid (says19 hA hc hm pl un k h1)
  have H2 := Lib.hid (says2 hva h2)
  have HVA := Lib.hid hva
  obtain ⟨va0, van, vac, hvae⟩ := hva.slice
  clear hva
  subst hvae
  go_enter Try.func12, Try.ntmps12
  go_upto_region 1 with fail
  generalize hWX : w.alloc _ = WX
  have HB : Hid (Below w.heap.size w WX) := Lib.hid (by rw [← hWX]; exact (Below.refl _ _).alloc (Nat.le_refl _) _)
  have q3 : WX.heap[w.heap.size]? = some (.cells #[.slice A F.length cap, .bool pl, .bool un, .int .i64 k] 24 (0, 0)) := by rw [← hWX]; exact heap_alloc_new w _
  clear hWX
  have c0 : WX.cell? ⟨w.heap.size, 0, none⟩ = some (.slice A F.length cap) := (cell_blk q3 0).trans rfl
  have c1 : WX.cell? ⟨w.heap.size, 1, none⟩ = some (.bool pl) := (cell_blk q3 1).trans rfl
  have c2 : WX.cell? ⟨w.heap.size, 2, none⟩ = some (.bool un) := (cell_blk q3 2).trans rfl
  have c3 : WX.cell? ⟨w.heap.size, 3, none⟩ = some (.int .i64 k) := (cell_blk q3 3).trans rfl
  go_wp2_with (first | ((with_reducible go_at_call 14); (with_reducible refine Calls.mono (H19.out _ HB.out) ?_); rintro e w3 ⟨rfl, hb3⟩; have q3 := block_kept q3 hb3; have c0 := cell_kept hb3 c0; have c1 := cell_kept hb3 c1; have c2 := cell_kept hb3 c2; have c3 := cell_kept hb3 c3; have HB := Lib.hid (HB.out.trans (hb3.mono HB.out.size)); clear hb3) | ((with_reducible go_at_call 15); (with_reducible refine Calls.mono (H2.out _ HB.out) ?_); rintro e w3 ⟨rfl, hb3⟩; have q3 := block_kept q3 hb3; have c0 := cell_kept hb3 c0; have c1 := cell_kept hb3 c1; have c2 := cell_kept hb3 c2; have c3 := cell_kept hb3 c3; have HB := Lib.hid (HB.out.trans (hb3.mono HB.out.size)); clear hb3) | ((with_reducible go_at_call 16); (with_reducible refine Calls.mono (HRT.out _ HB.out) ?_); rintro e w3 ⟨rfl, hb3⟩; have q3 := block_kept q3 hb3; have c0 := cell_kept hb3 c0; have c1 := cell_kept hb3 c1; have c2 := cell_kept hb3 c2; have c3 := cell_kept hb3 c3; have HB := Lib.hid (HB.out.trans (hb3.mono HB.out.size)); clear hb3) | ((with_reducible go_at_call 17); (with_reducible refine Calls.mono (HF14.out _ HB.out) ?_); rintro e w3 ⟨rfl, hb3⟩; have q3 := block_kept q3 hb3; have c0 := cell_kept hb3 c0; have c1 := cell_kept hb3 c1; have c2 := cell_kept hb3 c2; have c3 := cell_kept hb3 c3; have HB := Lib.hid (HB.out.trans (hb3.mono HB.out.size)); clear hb3) | ((with_reducible go_at_call 25); (with_reducible refine Calls.mono (HLV.out _ HB.out) ?_); rintro e w3 ⟨rfl, hb3⟩; have q3 := block_kept q3 hb3; have c0 := cell_kept hb3 c0; have c1 := cell_kept hb3 c1; have c2 := cell_kept hb3 c2; have c3 := cell_kept hb3 c3; have HB := Lib.hid (HB.out.trans (hb3.mono HB.out.size)); clear hb3))
  go_ret
  exact yesEnd rfl HB.out

set_option maxRecDepth 100000 in
set_option maxHeartbeats 6400000 in
theorem ha_3 {w : World} {A : Option Addr} {F : List FlagP} (hA : FlagsAt w A F) {cap : Nat} (hc : F.length ≤ cap) (hm : cap ≤ 9223372036854775807) (pl un : Bool) (k : Int) {va : Value} {L : List Txt} (hva : TextIn w va (L.map mkT)) (h1 : fits20 (F.map ofFlag) = true) (h2 : fits2 (L.map mkT) = true) (h3 : RightK F k = false)  :
    Calls Try.prog 12 #[.agg #[.slice A F.length cap, .bool pl, .bool un, .int .i64 k], va] w (YesEnd w) := by
  have H19 := Lib.hid (says19 hA hc hm pl un k h1)
  have H2 := Lib.hid (says2 hva h2)
  have HLV := Lib.hid (saysL w)
  have HRT := Lib.hid (saysR hA cap pl un k h1 h3)
  have HVA := Lib.hid hva
  obtain ⟨va0, van, vac, hvae⟩ := hva.slice
  clear hva
  subst hvae
  go_enter Try.func12, Try.ntmps12
  go_upto_region 1 with fail
  generalize hWX : w.alloc _ = WX
  have HB : Hid (Below w.heap.size w WX) := Lib.hid (by rw [← hWX]; exact (Below.refl _ _).alloc (Nat.le_refl _) _)
  have q3 : WX.heap[w.heap.size]? = some (.cells #[.slice A F.length cap, .bool pl, .bool un, .int .i64 k] 24 (0, 0)) := by rw [← hWX]; exact heap_alloc_new w _
  clear hWX
  have c0 : WX.cell? ⟨w.heap.size, 0, none⟩ = some (.slice A F.length cap) := (cell_blk q3 0).trans rfl
  have c1 : WX.cell? ⟨w.heap.size, 1, none⟩ = some (.bool pl) := (cell_blk q3 1).trans rfl
  have c2 : WX.cell? ⟨w.heap.size, 2, none⟩ = some (.bool un) := (cell_blk q3 2).trans rfl
  have c3 : WX.cell? ⟨w.heap.size, 3, none⟩ = some (.int .i64 k) := (cell_blk q3 3).trans rfl
  go_wp2_with (first | ((with_reducible go_at_call 14); (with_reducible refine Calls.mono (H19.out _ HB.out) ?_); rintro e w3 ⟨rfl, hb3⟩; have q3 := block_kept q3 hb3; have c0 := cell_kept hb3 c0; have c1 := cell_kept hb3 c1; have c2 := cell_kept hb3 c2; have c3 := cell_kept hb3 c3; have HB := Lib.hid (HB.out.trans (hb3.mono HB.out.size)); clear hb3) | ((with_reducible go_at_call 15); (with_reducible refine Calls.mono (H2.out _ HB.out) ?_); rintro e w3 ⟨rfl, hb3⟩; have q3 := block_kept q3 hb3; have c0 := cell_kept hb3 c0; have c1 := cell_kept hb3 c1; have c2 := cell_kept hb3 c2; have c3 := cell_kept hb3 c3; have HB := Lib.hid (HB.out.trans (hb3.mono HB.out.size)); clear hb3) | ((with_reducible go_at_call 16); (with_reducible refine Calls.mono (HRT.out _ HB.out) ?_); rintro e w3 ⟨rfl, hb3⟩; have q3 := block_kept q3 hb3; have c0 := cell_kept hb3 c0; have c1 := cell_kept hb3 c1; have c2 := cell_kept hb3 c2; have c3 := cell_kept hb3 c3; have HB := Lib.hid (HB.out.trans (hb3.mono HB.out.size)); clear hb3) | ((with_reducible go_at_call 17); (with_reducible refine Calls.mono (HF14.out _ HB.out) ?_); rintro e w3 ⟨rfl, hb3⟩; have q3 := block_kept q3 hb3; have c0 := cell_kept hb3 c0; have c1 := cell_kept hb3 c1; have c2 := cell_kept hb3 c2; have c3 := cell_kept hb3 c3; have HB := Lib.hid (HB.out.trans (hb3.mono HB.out.size)); clear hb3) | ((with_reducible go_at_call 25); (with_reducible refine Calls.mono (HLV.out _ HB.out) ?_); rintro e w3 ⟨rfl, hb3⟩; have q3 := block_kept q3 hb3; have c0 := cell_kept hb3 c0; have c1 := cell_kept hb3 c1; have c2 := cell_kept hb3 c2; have c3 := cell_kept hb3 c3; have HB := Lib.hid (HB.out.trans (hb3.mono HB.out.size)); clear hb3))
  go_ret
  exact yesEnd rfl HB.out

set_option maxRecDepth 100000 in
set_option maxHeartbeats 6400000 in
theorem ha_4 {w : World} {A : Option Addr} {F : List FlagP} (hA : FlagsAt w A F) {cap : Nat} (hc : F.length ≤ cap) (hm : cap ≤ 9223372036854775807) (pl un : Bool) (k : Int) {va : Value} {L : List Txt} (hva : TextIn w va (L.map mkT)) (h1 : fits20 (F.map ofFlag) = true) (h2 : fits2 (L.map mkT) = true) (h3 : RightK F k = true) (h5 : decide (wtBB [L.map mkT] ≤ 1048576) = false) :
    Calls Try.prog 12 #[.agg #[.slice A F.length cap, .bool pl, .bool un, .int .i64 k], va] w (YesEnd w) := by
  have H19 := Lib.hid (says19 hA hc hm pl un k h1)
  have H2 := Lib.hid (says2 hva h2)
  have HLV := Lib.hid (saysL w)
  have HRT := Lib.hid (saysR hA cap pl un k h1 h3)
  have HVA := Lib.hid hva
  obtain ⟨va0, van, vac, hvae⟩ := hva.slice
  clear hva
  subst hvae
  have HF14 := Lib.hid (fun (W : World) (hb : Below w.heap.size w W) => fit14_1 hb HVA.out h2 h5)
  go_enter Try.func12, Try.ntmps12
  go_upto_region 1 with fail
  generalize hWX : w.alloc _ = WX
  have HB : Hid (Below w.heap.size w WX) := Lib.hid (by rw [← hWX]; exact (Below.refl _ _).alloc (Nat.le_refl _) _)
  have q3 : WX.heap[w.heap.size]? = some (.cells #[.slice A F.length cap, .bool pl, .bool un, .int .i64 k] 24 (0, 0)) := by rw [← hWX]; exact heap_alloc_new w _
  clear hWX
  have c0 : WX.cell? ⟨w.heap.size, 0, none⟩ = some (.slice A F.length cap) := (cell_blk q3 0).trans rfl
  have c1 : WX.cell? ⟨w.heap.size, 1, none⟩ = some (.bool pl) := (cell_blk q3 1).trans rfl
  have c2 : WX.cell? ⟨w.heap.size, 2, none⟩ = some (.bool un) := (cell_blk q3 2).trans rfl
  have c3 : WX.cell? ⟨w.heap.size, 3, none⟩ = some (.int .i64 k) := (cell_blk q3 3).trans rfl
  go_wp2_with (first | ((with_reducible go_at_call 14); (with_reducible refine Calls.mono (H19.out _ HB.out) ?_); rintro e w3 ⟨rfl, hb3⟩; have q3 := block_kept q3 hb3; have c0 := cell_kept hb3 c0; have c1 := cell_kept hb3 c1; have c2 := cell_kept hb3 c2; have c3 := cell_kept hb3 c3; have HB := Lib.hid (HB.out.trans (hb3.mono HB.out.size)); clear hb3) | ((with_reducible go_at_call 15); (with_reducible refine Calls.mono (H2.out _ HB.out) ?_); rintro e w3 ⟨rfl, hb3⟩; have q3 := block_kept q3 hb3; have c0 := cell_kept hb3 c0; have c1 := cell_kept hb3 c1; have c2 := cell_kept hb3 c2; have c3 := cell_kept hb3 c3; have HB := Lib.hid (HB.out.trans (hb3.mono HB.out.size)); clear hb3) | ((with_reducible go_at_call 16); (with_reducible refine Calls.mono (HRT.out _ HB.out) ?_); rintro e w3 ⟨rfl, hb3⟩; have q3 := block_kept q3 hb3; have c0 := cell_kept hb3 c0; have c1 := cell_kept hb3 c1; have c2 := cell_kept hb3 c2; have c3 := cell_kept hb3 c3; have HB := Lib.hid (HB.out.trans (hb3.mono HB.out.size)); clear hb3) | ((with_reducible go_at_call 17); (with_reducible refine Calls.mono (HF14.out _ HB.out) ?_); rintro e w3 ⟨rfl, hb3⟩; have q3 := block_kept q3 hb3; have c0 := cell_kept hb3 c0; have c1 := cell_kept hb3 c1; have c2 := cell_kept hb3 c2; have c3 := cell_kept hb3 c3; have HB := Lib.hid (HB.out.trans (hb3.mono HB.out.size)); clear hb3) | ((with_reducible go_at_call 25); (with_reducible refine Calls.mono (HLV.out _ HB.out) ?_); rintro e w3 ⟨rfl, hb3⟩; have q3 := block_kept q3 hb3; have c0 := cell_kept hb3 c0; have c1 := cell_kept hb3 c1; have c2 := cell_kept hb3 c2; have c3 := cell_kept hb3 c3; have HB := Lib.hid (HB.out.trans (hb3.mono HB.out.size)); clear hb3))
  go_ret
  exact yesEnd rfl HB.out
def H11 (sv : Value) (S : SetP) (B : Nat) (va : Value) (L : List Txt) : Nat → Value → World → Prop
  | 0, v, _ => v = sv
  | 1, v, _ => v = va
  | 2, v, w => HeardOwn w (psOf none true (goes S none st0 (L))) (goes S none st0 (L)).err S.flags.length v
  | 3, v, _ => v = sv
  | 4, v, _ => v = va
  | 5, v, w => HeardOwn w (psOf (some []) true (goes S none st0 L)) (goes S none st0 L).err S.flags.length v
  | 6, v, w => ∃ g, v = .pointer (some ⟨g, 0, none⟩) ∧ B ≤ g ∧ w.heap[g]? = some (.cells hdZero 32 (0, 0))
  | 7, v, w => ∃ g, v = .pointer (some ⟨g, 0, none⟩) ∧ B ≤ g ∧ w.heap[g]? = some (.cells hdZero 32 (0, 0))
  | _, _, _ => True
theorem H11.below {sv : Value} {S : SetP} {B : Nat} {va : Value} {L : List Txt} {ix : Nat} (hix : ix < 8) {v : Value} {w w' : World} (h : H11 sv S B va L ix v w) (hb : Below w.heap.size w w') : H11 sv S B va L ix v w' := by
  match ix, hix, h with
  | 0, _, h => exact h
  | 1, _, h => exact h
  | 2, _, h => exact HeardOwn.below h hb
  | 3, _, h => exact h
  | 4, _, h => exact h
  | 5, _, h => exact HeardOwn.below h hb
  | 6, _, h => obtain ⟨g, e, hB, h⟩ := h; exact ⟨g, e, hB, block_kept h hb⟩
  | 7, _, h => obtain ⟨g, e, hB, h⟩ := h; exact ⟨g, e, hB, block_kept h hb⟩

set_option maxRecDepth 100000 in
set_option maxHeartbeats 6400000 in
theorem ha_5 {w : World} {A : Option Addr} {S : SetP} (hS : SetOK w A S) {cap : Nat} (hc : S.flags.length ≤ cap) (hm : cap ≤ 9223372036854775807) {va : Value} {L : List Txt} (hva : TextIn w va (L.map mkT)) (h1 : fits20 (S.flags.map ofFlag) = true) (h2 : fits2 (L.map mkT) = true) (h3 : RightK S.flags S.fold = true) (h5 : decide (wtBB [L.map mkT] ≤ 1048576) = true) :
    Calls Try.prog 12 #[.agg #[.slice A S.flags.length cap, .bool S.plain, .bool S.unknown, .int .i64 S.fold], va] w (YesEnd w) := by
  have hwt : wt L ≤ 1048576 := by
    have h := of_decide_eq_true h5
    simp only [wtBB, wt_map] at h; omega
  have hw1 : wt L ≤ 1099511627776 := by omega
  have hl1 : ∀ t ∈ L, t.length ≤ 8589934592 := fun t h => by have := wt_mem h; omega
  have H19 := Lib.hid (says19 hS.flg hc hm S.plain S.unknown S.fold h1)
  have H2 := Lib.hid (says2 hva h2)
  have HRT := Lib.hid (saysR hS.flg cap S.plain S.unknown S.fold h1 h3)
  have HLV := Lib.hid (saysL w)
  have HPC := Lib.hid (says_parse hS cap)
  have HPS := Lib.hid (fun (hb : ∀ f ∈ S.flags, f.bad = []) (W : World) (hw : Below w.heap.size w W) (v : Value) (hv : TextIn W v (L.map mkT)) => parseAll_c (hS.below hw) cap hv hw1 hl1 hb)
  have HFL := Lib.hid hS.flg
  have hnum := hS.num
  have hgo := goes_len S none st0 L
  have hwl := wt_len L
  have hga : (goes S none st0 L).given.length ≤ 1048576 ∧ (goes S none st0 L).args.length ≤ 1048576 := by
    have : st0.given.length = 0 := rfl
    have : st0.args.length = 0 := rfl
    omega
  have HX := Lib.hid (And.intro hw1 (And.intro hl1 (And.intro hga hnum)))
  have HVA := Lib.hid hva
  obtain ⟨va0, van, vac, hvae⟩ := hva.slice
  clear hva
  subst hvae
  have HF14 := Lib.hid (fun (W : World) (hb : Below w.heap.size w W) => fit14_1 hb HVA.out h2 h5)
  clear hS h1 h2 h3 h5 hwt hw1 hl1 hgo hwl hga
  go_enter Try.func12, Try.ntmps12
  go_upto_region 1 with fail
  generalize hWX : w.alloc _ = WX
  have HB : Hid (Below w.heap.size w WX) := Lib.hid (by rw [← hWX]; exact (Below.refl _ _).alloc (Nat.le_refl _) _)
  have q3 : WX.heap[w.heap.size]? = some (.cells #[.slice A S.flags.length cap, .bool S.plain, .bool S.unknown, .int .i64 S.fold] 24 (0, 0)) := by rw [← hWX]; exact heap_alloc_new w _
  clear hWX
  have c0 : WX.cell? ⟨w.heap.size, 0, none⟩ = some (.slice A S.flags.length cap) := (cell_blk q3 0).trans rfl
  have c1 : WX.cell? ⟨w.heap.size, 1, none⟩ = some (.bool S.plain) := (cell_blk q3 1).trans rfl
  have c2 : WX.cell? ⟨w.heap.size, 2, none⟩ = some (.bool S.unknown) := (cell_blk q3 2).trans rfl
  have c3 : WX.cell? ⟨w.heap.size, 3, none⟩ = some (.int .i64 S.fold) := (cell_blk q3 3).trans rfl
  go_wp2_with (first | ((with_reducible go_at_call 14); (with_reducible refine Calls.mono (H19.out _ HB.out) ?_); rintro e w3 ⟨rfl, hb3⟩; have q3 := block_kept q3 hb3; have c0 := cell_kept hb3 c0; have c1 := cell_kept hb3 c1; have c2 := cell_kept hb3 c2; have c3 := cell_kept hb3 c3; have HB := Lib.hid (HB.out.trans (hb3.mono HB.out.size)); clear hb3) | ((with_reducible go_at_call 15); (with_reducible refine Calls.mono (H2.out _ HB.out) ?_); rintro e w3 ⟨rfl, hb3⟩; have q3 := block_kept q3 hb3; have c0 := cell_kept hb3 c0; have c1 := cell_kept hb3 c1; have c2 := cell_kept hb3 c2; have c3 := cell_kept hb3 c3; have HB := Lib.hid (HB.out.trans (hb3.mono HB.out.size)); clear hb3) | ((with_reducible go_at_call 16); (with_reducible refine Calls.mono (HRT.out _ HB.out) ?_); rintro e w3 ⟨rfl, hb3⟩; have q3 := block_kept q3 hb3; have c0 := cell_kept hb3 c0; have c1 := cell_kept hb3 c1; have c2 := cell_kept hb3 c2; have c3 := cell_kept hb3 c3; have HB := Lib.hid (HB.out.trans (hb3.mono HB.out.size)); clear hb3) | ((with_reducible go_at_call 17); (with_reducible refine Calls.mono (HF14.out _ HB.out) ?_); rintro e w3 ⟨rfl, hb3⟩; have q3 := block_kept q3 hb3; have c0 := cell_kept hb3 c0; have c1 := cell_kept hb3 c1; have c2 := cell_kept hb3 c2; have c3 := cell_kept hb3 c3; have HB := Lib.hid (HB.out.trans (hb3.mono HB.out.size)); clear hb3) | ((with_reducible go_at_call 25); (with_reducible refine Calls.mono (HLV.out _ HB.out) ?_); rintro e w3 ⟨rfl, hb3⟩; have q3 := block_kept q3 hb3; have c0 := cell_kept hb3 c0; have c1 := cell_kept hb3 c1; have c2 := cell_kept hb3 c2; have c3 := cell_kept hb3 c3; have HB := Lib.hid (HB.out.trans (hb3.mono HB.out.size)); clear hb3))
  have Q3 := Lib.hid q3
  clear q3 c0 c1 c2 c3
  go_loopw [30] (fun i wr => ∃ k : Nat, k ≤ S.flags.length ∧ i = .int .i64 k ∧ Hid (Below w.heap.size w wr) ∧ Hid (wr.heap[w.heap.size]? = some (.cells #[.slice A S.flags.length cap, .bool S.plain, .bool S.unknown, .int .i64 S.fold] 24 (0, 0))) ∧ Hid (∀ f ∈ S.flags.take k, f.bad = [])) (fun i _ => S.flags.length - (intOf i).toNat)
  case atStart => exact ⟨0, Nat.zero_le _, rfl, HB, Q3, Lib.hid (by simp)⟩
  case round =>
    clear HB Q3
    obtain ⟨k, hk, rfl, HB, Q3, HN⟩ := hrel
    have i0 : (0 : Int) ≤ (k : Int) := Int.natCast_nonneg _
    by_cases hlt : k < S.flags.length
    · have i1 : (k : Int) < (S.flags.length : Int) := by omega
      obtain ⟨b, o, v, hAe, f0, f1, f2, f3, ht⟩ := HFL.out k hlt
      subst hAe
      obtain ⟨Av, cv, hve, _⟩ := ht
      have hnl : (S.flags[k].bad.map mkT).length = S.flags[k].bad.length := List.length_map _
      rw [hnl] at hve
      subst hve
      have d0 := cell_kept HB.out f0
      have d1 := cell_kept HB.out f1
      have d2 := cell_kept HB.out f2
      have d3 := cell_kept HB.out f3
      have HTK : Hid (S.flags.take (k + 1) = S.flags.take k ++ [S.flags[k]]) := Lib.hid (List.take_succ_eq_append_getElem hlt)
      clear f0 f1 f2 f3 hnl
      generalize S.flags[k] = f at d0 d1 d2 d3 HTK
      have hal : ∀ o, Below wr.heap.size wr (wr.alloc o) := fun o => (Below.refl _ _).alloc (Nat.le_refl _) o
      have HBO := Lib.hid (fun o => HB.out.trans ((hal o).mono HB.out.size))
      have Q3O := Lib.hid (fun o => block_kept Q3.out (hal o))
      clear hal
      by_cases hbd : f.bad = []
      · have hz : f.bad.length = 0 := by rw [hbd]; rfl
        rw [hz] at d3
        go_wp2
        go_roundw
        case rel => exact ⟨k + 1, by omega, by go_num, HBO.out _, Q3O.out _, Lib.hid (by
          rw [HTK.out]
          intro g hg
          rcases List.mem_append.1 hg with h | h
          · exact HN.out g h
          · rw [List.mem_singleton] at h; subst h; exact hbd)⟩
        case measure => simp [intOf]; omega
      · have hz : 0 < f.bad.length := List.length_pos_iff.2 hbd
        have hz2 : (0 : Int) < (f.bad.length : Int) := by omega
        generalize f.bad.length = nb at d3 hz hz2
        have HB := Lib.hid (HBO.out (.cells #[.string (mkT f.name), .string (mkT f.short), .string (mkT f.noOpt), .slice Av nb cv] 47))
        clear hbd
        go_wp2_with (first | ((with_reducible go_at_call 25); (with_reducible refine Calls.mono (HLV.out _ HB.out) ?_); rintro e w3 ⟨rfl, hb3⟩; have HB := Lib.hid (HB.out.trans (hb3.mono HB.out.size)); clear hb3))
        go_ret
        exact yesEnd rfl HB.out
    have hke : k = S.flags.length := by omega
    have i1 : ¬ (k : Int) < (S.flags.length : Int) := by omega
    have hbad : ∀ f ∈ S.flags, f.bad = [] := fun f hf => HN.out f (by rw [hke, List.take_length]; exact hf)
    have HPA := Lib.hid (HPS.out hbad)
    have hbx := HB.out
    have q3 := Q3.out
    have HVC := Lib.hid (HVA.out.below hbx)
    obtain ⟨hw1, hl1, hga, hnum2⟩ := HX.out
    clear HPS hbad HN hlt Q3
    go_upto_region 11 with fail
    refine region_inv (by kernel_rfl) (fun u v => Below u.heap.size u v) (H11 (.agg #[.slice A S.flags.length cap, .bool S.plain, .bool S.unknown, .int .i64 S.fold]) (S) (wr.heap.size) (.slice va0 van vac) (L)) (fun i => decide (i = 6) || decide (i = 7)) (fun i => [40, 41, 42, 43, 44, 45, 7, 8].getD i 0) 8
      (Below.refl _ _) (fun _ _ _ h k => below_step h k) (fun i hi v u u' h hb => H11.below hi h hb) ?_ (hgd_none (by kernel_rfl)) (by kernel_rfl) (by kernel_rfl) (by kernel_rfl) (by kernel_rfl) ?_ ?_
    · intro i hi hA v u h
      have hA2 : i = 6 ∨ i = 7 := by simpa using hA
      rcases hA2 with rfl | rfl
      · obtain ⟨g, rfl, _, h⟩ := h; exact in_of h
      · obtain ⟨g, rfl, _, h⟩ := h; exact in_of h
    · intro i hi o ho a u hG hk hd
      have hG9 : Below wr.heap.size wr u := ((Below.refl _ _).drew).trans hG
      match i, hi with
      | 0, _ =>
        cases ho
        exact ow_load_set rfl ((hk 2 (by decide)).trans rfl) (block_kept q3 hG9) ⟨_, rfl, rfl, Below.refl _ _, fun h => by cases h⟩
      | 1, _ =>
        cases ho
        exact ow_move rfl ((hk 1 (by decide)).trans rfl) ⟨_, rfl, rfl, Below.refl _ _, fun h => by cases h⟩
      | 2, _ =>
        cases ho
        have e40 : a.eval (.tmp 40) = _ := hd 0 (by kernel_rfl) (by decide)
        have e41 : a.eval (.tmp 41) = _ := hd 1 (by kernel_rfl) (by decide)
        refine ow_call #[.tmp 40, .tmp 41] #[24, 25] 26 Try.func26 (by kernel_rfl) (by rfl) rfl #[_, _] (by simp only [List.map_toArray, List.map_cons, List.map_nil, e40, e41]) (HPC.out u (hbx.trans (hG9.mono hbx.size)) _ (L) (HVC.out.below hG9) hw1 hl1) ?_
        rintro e u2 ⟨v, rfl, hv2, hb2⟩
        exact ⟨v, rfl, _, rfl, hv2, hb2, fun h => by cases h⟩
      | 3, _ =>
        cases ho
        exact ow_load_set rfl ((hk 2 (by decide)).trans rfl) (block_kept q3 hG9) ⟨_, rfl, rfl, Below.refl _ _, fun h => by cases h⟩
      | 4, _ =>
        cases ho
        exact ow_move rfl ((hk 1 (by decide)).trans rfl) ⟨_, rfl, rfl, Below.refl _ _, fun h => by cases h⟩
      | 5, _ =>
        cases ho
        have e43 : a.eval (.tmp 43) = _ := hd 3 (by kernel_rfl) (by decide)
        have e44 : a.eval (.tmp 44) = _ := hd 4 (by kernel_rfl) (by decide)
        refine ow_call #[.tmp 43, .tmp 44, .const (.slice none 0 0)] #[24, 25, 25] 39 Try.func39 (by kernel_rfl) (by rfl) rfl #[_, _, .slice none 0 0] (by simp only [List.map_toArray, List.map_cons, List.map_nil, e43, e44]; rfl) (HPA.out u (hbx.trans (hG9.mono hbx.size)) _ (HVC.out.below hG9)) ?_
        rintro e u2 ⟨v, rfl, hv2, hb2⟩
        exact ⟨v, rfl, _, rfl, hv2, hb2, fun h => by cases h⟩
      | 6, _ =>
        cases ho
        exact ow_alloc_hd rfl ⟨_, rfl, ⟨_, rfl, hG9.size, heap_alloc_new _ _⟩, (Below.refl _ _).alloc (Nat.le_refl _) _, fun _ => not_in⟩
      | 7, _ =>
        cases ho
        exact ow_alloc_hd rfl ⟨_, rfl, ⟨_, rfl, hG9.size, heap_alloc_new _ _⟩, (Below.refl _ _).alloc (Nat.le_refl _) _, fun _ => not_in⟩
    · intro x u hG hx hdif
      have hG9 : Below wr.heap.size wr u := ((Below.refl _ _).drew).trans hG
      obtain ⟨g7, e7, hB7, hg7⟩ := hx 6 (by decide)
      obtain ⟨g8, e8, hB8, hg8⟩ := hx 7 (by decide)
      have hne : g8 ≠ g7 := fun e => hdif 6 7 (by decide) (by decide) (by decide) rfl rfl (by rw [e7, e8, e])
      have h1 := hx 2 (by decide)
      have h1 : HeardOwn u (psOf none true (goes S none st0 L)) (goes S none st0 L).err S.flags.length (x 2) := h1
      have h2 := hx 5 (by decide)
      have h2 : HeardOwn u (psOf (some []) true (goes S none st0 L)) (goes S none st0 L).err S.flags.length (x 5) := h2
      generalize goes S none st0 L = st at h1 h2 hga
      obtain ⟨ga, gc, ta, tc, ca, cc, e41, hrow1⟩ := h1
      obtain ⟨ga2, gc2, ta2, tc2, ca2, cc2, e48, hrow2⟩ := h2
      generalize hs1 : psOf none true st = s1 at hrow1 e41
      generalize hs2 : psOf (some []) true st = s2 at hrow2 e48
      simp only [putAll, Act.put, List.getD_cons_zero, List.getD_cons_succ, List.setIfInBounds_toArray, List.set_cons_succ, List.set_cons_zero]
      refine wpAny_next (i := 8) (by kernel_rfl) rfl rfl ?_
      refine ow_store_hd (s := s1) (er := st.err) (n := S.flags.length) rfl rfl e7 e41 hg7 ?_
      have hV7 := hdPut_blk s1 st.err S.flags.length (.slice ga s1.G.length gc) (.slice ta s1.A.length tc) (.slice ca (chL s1.chg S.flags.length).length cc) hg7
      have hV8 := (hdPut_other s1 st.err (.slice ga s1.G.length gc) (.slice ta s1.A.length tc) (.slice ca (chL s1.chg S.flags.length).length cc) (w := u) hne).trans hg8
      have hrow1 := hrow1.put (t := s1) (er := st.err) (G' := .slice ga s1.G.length gc) (A' := .slice ta s1.A.length tc) (C' := .slice ca (chL s1.chg S.flags.length).length cc) hg7
      have hrow2 := hrow2.put (t := s1) (er := st.err) (G' := .slice ga s1.G.length gc) (A' := .slice ta s1.A.length tc) (C' := .slice ca (chL s1.chg S.flags.length).length cc) hg7
      have hbU : Below wr.heap.size wr (hdPut u g7 s1 st.err (.slice ga s1.G.length gc) (.slice ta s1.A.length tc) (.slice ca (chL s1.chg S.flags.length).length cc)) := hdPut_below _ _ _ _ _ hG9 hB7
      generalize hdPut u g7 s1 st.err (.slice ga s1.G.length gc) (.slice ta s1.A.length tc) (.slice ca (chL s1.chg S.flags.length).length cc) = U1 at hV7 hV8 hrow1 hrow2 hbU ⊢
      refine wpAny_last (i := 9) (by kernel_rfl) rfl rfl (by kernel_rfl) ?_
      refine ow_store_hd (s := s2) (er := st.err) (n := S.flags.length) rfl rfl e8 e48 hV8 ?_
      rw [e7, e8]
      have hV7 := (hdPut_other s2 st.err (.slice ga2 s2.G.length gc2) (.slice ta2 s2.A.length tc2) (.slice ca2 (chL s2.chg S.flags.length).length cc2) (w := U1) (Ne.symm hne)).trans hV7
      have hrow1 := hrow1.put (t := s2) (er := st.err) (G' := .slice ga2 s2.G.length gc2) (A' := .slice ta2 s2.A.length tc2) (C' := .slice ca2 (chL s2.chg S.flags.length).length cc2) hV8
      have hrow2 := hrow2.put (t := s2) (er := st.err) (G' := .slice ga2 s2.G.length gc2) (A' := .slice ta2 s2.A.length tc2) (C' := .slice ca2 (chL s2.chg S.flags.length).length cc2) hV8
      have hbU : Below wr.heap.size wr (hdPut U1 g8 s2 st.err (.slice ga2 s2.G.length gc2) (.slice ta2 s2.A.length tc2) (.slice ca2 (chL s2.chg S.flags.length).length cc2)) := hdPut_below _ _ _ _ _ hbU hB8
      have hV8 := hdPut_blk s2 st.err S.flags.length (.slice ga2 s2.G.length gc2) (.slice ta2 s2.A.length tc2) (.slice ca2 (chL s2.chg S.flags.length).length cc2) hV8
      generalize hdPut U1 g8 s2 st.err (.slice ga2 s2.G.length gc2) (.slice ta2 s2.A.length tc2) (.slice ca2 (chL s2.chg S.flags.length).length cc2) = U at hV7 hV8 hrow1 hrow2 hbU ⊢
      have HB : Hid (Below w.heap.size w U) := Lib.hid (hbx.trans (hbU.mono hbx.size))
      have hlw := lt_of_block q3
      subst hs1
      subst hs2
      have hch : (chL (psOf (some []) true st).chg S.flags.length) = [] := by
        show ((List.range S.flags.length).filter fun _ => false) = []
        simp
      rw [hch] at hV8 hrow2
      have hV7 : U.heap[g7]? = some (.cells #[.int .i64 (eNo st.err), .string (mkT (eName st.err)), .string (mkT (eShort st.err)), .string (mkT (eVal st.err)), .int .i64 (eFlag st.err), .slice ga st.given.length gc, .slice ta st.args.length tc, .int .i64 st.dash, .slice ca (chL (fun j => st.given.any fun g => g.1 == j) S.flags.length).length cc, .bool true, .bool false] 32 (0, 0)) := hV7
      have hV8 : U.heap[g8]? = some (.cells #[.int .i64 (eNo st.err), .string (mkT (eName st.err)), .string (mkT (eShort st.err)), .string (mkT (eVal st.err)), .int .i64 (eFlag st.err), .slice ga2 st.given.length gc2, .slice ta2 st.args.length tc2, .int .i64 st.dash, .slice ca2 0 cc2, .bool true, .bool false] 32 (0, 0)) := hV8
      have y78 : U.cell? ⟨g7, 8, none⟩ = some _ := cell_blk hV7 8
      have z78 := free_blk hV7
      have l78 := lt_of_block hV7
      clear hg7 hg8 e41 e48 e7 e8 hdif hx q3
      go_upto_region 13 with fail
      have hrow1 := hrow1.blk (w' := U.setCell ⟨g7, 8, none⟩ (.slice none 0 0)) g7 hV7 (by decide) (by decide) (by decide) (fun b _ ne => blk_other ne)
      have hrow2 := hrow2.blk (w' := U.setCell ⟨g7, 8, none⟩ (.slice none 0 0)) g7 hV7 (by decide) (by decide) (by decide) (fun b _ ne => blk_other ne)
      have hV8 := (blk_other (a := ⟨g7, 8, none⟩) (v := .slice none 0 0) hne).trans hV8
      have hV7 := blk_set hV7 8 (.slice none 0 0)
      have HB := Lib.hid (HB.out.setCell (p := ⟨g7, 8, none⟩) (by show w.heap.size ≤ g7; omega) (.slice none 0 0))
      generalize U.setCell ⟨g7, 8, none⟩ (.slice none 0 0) = U4 at hV7 hV8 hrow1 hrow2 HB ⊢
      clear y78 z78 l78
      have hV7 : U4.heap[g7]? = some (.cells #[.int .i64 (eNo st.err), .string (mkT (eName st.err)), .string (mkT (eShort st.err)), .string (mkT (eVal st.err)), .int .i64 (eFlag st.err), .slice ga st.given.length gc, .slice ta st.args.length tc, .int .i64 st.dash, .slice none 0 0, .bool true, .bool false] 32 (0, 0)) := hV7
      have ya0 : U4.cell? ⟨g7, 0, none⟩ = some (.int .i64 (eNo st.err)) := (cell_blk hV7 0).trans rfl
      have ya1 : U4.cell? ⟨g7, 1, none⟩ = some (.string (mkT (eName st.err))) := (cell_blk hV7 1).trans rfl
      have ya2 : U4.cell? ⟨g7, 2, none⟩ = some (.string (mkT (eShort st.err))) := (cell_blk hV7 2).trans rfl
      have ya3 : U4.cell? ⟨g7, 3, none⟩ = some (.string (mkT (eVal st.err))) := (cell_blk hV7 3).trans rfl
      have ya4 : U4.cell? ⟨g7, 4, none⟩ = some (.int .i64 (eFlag st.err)) := (cell_blk hV7 4).trans rfl
      have ya5 : U4.cell? ⟨g7, 5, none⟩ = some (.slice ga st.given.length gc) := (cell_blk hV7 5).trans rfl
      have ya6 : U4.cell? ⟨g7, 6, none⟩ = some (.slice ta st.args.length tc) := (cell_blk hV7 6).trans rfl
      have ya7 : U4.cell? ⟨g7, 7, none⟩ = some (.int .i64 st.dash) := (cell_blk hV7 7).trans rfl
      have ya8 : U4.cell? ⟨g7, 8, none⟩ = some (.slice none 0 0) := (cell_blk hV7 8).trans rfl
      have ya9 : U4.cell? ⟨g7, 9, none⟩ = some (.bool true) := (cell_blk hV7 9).trans rfl
      have ya10 : U4.cell? ⟨g7, 10, none⟩ = some (.bool false) := (cell_blk hV7 10).trans rfl
      have yb0 : U4.cell? ⟨g8, 0, none⟩ = some (.int .i64 (eNo st.err)) := (cell_blk hV8 0).trans rfl
      have yb1 : U4.cell? ⟨g8, 1, none⟩ = some (.string (mkT (eName st.err))) := (cell_blk hV8 1).trans rfl
      have yb2 : U4.cell? ⟨g8, 2, none⟩ = some (.string (mkT (eShort st.err))) := (cell_blk hV8 2).trans rfl
      have yb3 : U4.cell? ⟨g8, 3, none⟩ = some (.string (mkT (eVal st.err))) := (cell_blk hV8 3).trans rfl
      have yb4 : U4.cell? ⟨g8, 4, none⟩ = some (.int .i64 (eFlag st.err)) := (cell_blk hV8 4).trans rfl
      have yb5 : U4.cell? ⟨g8, 5, none⟩ = some (.slice ga2 st.given.length gc2) := (cell_blk hV8 5).trans rfl
      have yb6 : U4.cell? ⟨g8, 6, none⟩ = some (.slice ta2 st.args.length tc2) := (cell_blk hV8 6).trans rfl
      have yb7 : U4.cell? ⟨g8, 7, none⟩ = some (.int .i64 st.dash) := (cell_blk hV8 7).trans rfl
      have yb8 : U4.cell? ⟨g8, 8, none⟩ = some (.slice ca2 0 cc2) := (cell_blk hV8 8).trans rfl
      have yb9 : U4.cell? ⟨g8, 9, none⟩ = some (.bool true) := (cell_blk hV8 9).trans rfl
      have yb10 : U4.cell? ⟨g8, 10, none⟩ = some (.bool false) := (cell_blk hV8 10).trans rfl
      have HSM : Hid (Calls Try.prog 22 #[.agg #[.int .i64 (eNo st.err), .string (mkT (eName st.err)), .string (mkT (eShort st.err)), .string (mkT (eVal st.err)), .int .i64 (eFlag st.err), .slice ga st.given.length gc, .slice ta st.args.length tc, .int .i64 st.dash, .slice none 0 0, .bool true, .bool false], .agg #[.int .i64 (eNo st.err), .string (mkT (eName st.err)), .string (mkT (eShort st.err)), .string (mkT (eVal st.err)), .int .i64 (eFlag st.err), .slice ga2 st.given.length gc2, .slice ta2 st.args.length tc2, .int .i64 st.dash, .slice ca2 0 cc2, .bool true, .bool false]] U4 fun e w' => e = .returned (.bool true) ∧ Below U4.heap.size U4 w') := Lib.hid (by
        have k1 : HeardIs U4 (psOf (some []) true st) st.err S.flags.length (.agg #[.int .i64 (eNo st.err), .string (mkT (eName st.err)), .string (mkT (eShort st.err)), .string (mkT (eVal st.err)), .int .i64 (eFlag st.err), .slice ga st.given.length gc, .slice ta st.args.length tc, .int .i64 st.dash, .slice none 0 0, .bool true, .bool false]) := ⟨.slice ga st.given.length gc, .slice ta st.args.length tc, .slice none 0 0, rfl, hrow1.hdIn.1, hrow1.hdIn.2.1, none, 0, by rw [hch]; rfl, fun i u hu => by rw [hch] at hu; simp [iCells] at hu, by rw [hch]; exact Nat.le_refl 0, by decide⟩
        have i2 := HdRows.hdIn (s := psOf (some []) true st) (n := S.flags.length) (gc := gc2) (ac := tc2) (cc := cc2) (GA := ga2) (AA := ta2) (CA := ca2) (w := U4) (B := 0) (by rw [hch]; exact hrow2)
        have k2 : HeardIs U4 (psOf (some []) true st) st.err S.flags.length (.agg #[.int .i64 (eNo st.err), .string (mkT (eName st.err)), .string (mkT (eShort st.err)), .string (mkT (eVal st.err)), .int .i64 (eFlag st.err), .slice ga2 st.given.length gc2, .slice ta2 st.args.length tc2, .int .i64 st.dash, .slice ca2 0 cc2, .bool true, .bool false]) := ⟨_, _, _, rfl, by rw [hch] at i2; exact i2⟩
        have e1 : (psOf (some []) true st).G.length = st.given.length := rfl
        have e2 : (psOf (some []) true st).A.length = st.args.length := rfl
        exact same_c k1 k2 (by rw [e1]; have := hga.1; omega) (by rw [e2]; have := hga.2; omega) hnum2)
      clear hV7 hV8 hrow1 hrow2
      go_wp2_with (first | ((with_reducible go_at_call 22); (with_reducible refine Calls.mono (HSM.out) ?_); rintro e w9 ⟨rfl, hb9⟩; have HB := Lib.hid (HB.out.trans (hb9.mono HB.out.size)); clear hb9) | ((with_reducible go_at_call 25); (with_reducible refine Calls.mono (HLV.out _ HB.out) ?_); rintro e w3 ⟨rfl, hb3⟩; have HB := Lib.hid (HB.out.trans (hb3.mono HB.out.size)); clear hb3))
      go_ret
      exact yesEnd rfl HB.out
theorem fnHanded_any {w : World} {A : Option Addr} {F : List FlagP} (hA : FlagsAt w A F) (hlow : LowBad w A F w.heap.size) {cap : Nat} (hc : F.length ≤ cap) (hcm : cap ≤ 9223372036854775807) (pl un : Bool) (k : Int) {va : Value} {xs : List ByteArray} (hva : TextIn w va xs) :
    Calls Try.prog 12 #[.agg #[.slice A F.length cap, .bool pl, .bool un, .int .i64 k], va] w (YesEnd w) := by
  rw [← texts_back xs] at hva
  generalize (xs.map fun s => s.data.toList : List Txt) = L at hva
  cases h1 : fits20 (F.map ofFlag) with
  | false => exact ha_1 hA hc hcm pl un k hva h1
  | true =>
  cases h2 : fits2 (L.map mkT) with
  | false => exact ha_2 hA hc hcm pl un k hva h1 h2
  | true =>
  cases h3 : RightK F k with
  | false => exact ha_3 hA hc hcm pl un k hva h1 h2 h3
  | true =>
  cases h8 : decide (wtBB [L.map mkT] ≤ 1048576) with
  | false => exact ha_4 hA hc hcm pl un k hva h1 h2 h3 h8
  | true =>
  obtain ⟨n, rfl, hn, hS⟩ := setOK_of hA hlow pl un h1 h3
  exact ha_5 hS hc hcm hva h1 h2 h3 h8
end Go.Proofs.Ytgmhhdpggnmipaa.E
