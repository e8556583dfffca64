/- impl.IntValue of each kind, over this seat's program. Written by gen_intloop.py. -/
import Derived.Test.YtjfgebgkdpomiaaDoorIntV
import Derived.Test.YtjfgebgkdpomiaaDoorFits2
namespace Go.Proofs.YtjfgebgkdpomiaaDoor.E
open Go.RowKit Go.Proofs
open Go.Lib (NumEnd)
set_option linter.unusedVariables false
set_option linter.unusedSimpArgs false

theorem Tryd.infoIS : (Tryd.prog.info? 58).map (fun i => (i.zero, i.size, i.bytes)) = some (some (.agg #[.bool false, .int .i64 0, .string ⟨#[]⟩]), 3, 32) := by kernel_rfl
def intP (M C : Nat) (s : ByteArray) : NumEnd Int × Int := piE M C s.data.toList
def intCells (M C : Nat) (s : ByteArray) : List Value := [.bool (badV (intP M C s)), .int .i64 (gotV (intP M C s)), .string (said (gotV (intP M C s)))]
theorem intCells_len (M C : Nat) (s : ByteArray) : (intCells M C s).length = 3 := rfl

set_option maxRecDepth 400000 in
set_option maxHeartbeats 3200000 in
theorem intValue_int (d : Int) (A : Option Addr) (cap : Nat) (xs : List ByteArray) (w : World) (hx : StrsAt w A xs) (hm : xs.length ≤ 2147483647) (hs : ∀ j, j < xs.length → (tx xs j).size ≤ 2147483647) (he1 : ErrCell 0 w) (he2 : ErrCell 1 w) (ht : Pow w) (hd1 : -9223372036854775808 ≤ d) (hd2 : d ≤ 9223372036854775807) :
    Calls Tryd.prog 24 #[.int .i64 0, .int .i64 d, .slice A xs.length cap] w fun e w' => ∃ A' c, e = .returned (.slice A' xs.length c) ∧ RowAt w' A' (flat (intCells 18446744073709551615 9223372036854775808) xs xs.length) ∧ Below w.heap.size w w' := by
  obtain ⟨i0, hi, hz0, hz1, hz2⟩ := info_parts Tryd.infoIS
  have HS := Lib.hid hs
  have E1 := Lib.hid he1
  have E2 := Lib.hid he2
  have HT := Lib.hid ht
  clear hs he1 he2 ht
  go_enter Tryd.func24, Tryd.ntmps24
  go_wp2_with (go_at_call 49; refine (zz_int _ _ 0 _ (by simp) (by simp)).mono ?_; rintro e w' ⟨rfl, rfl⟩)
  go_loopw [7, 47] (fun v i wr => ∃ k : Nat, k ≤ xs.length ∧ i = .int .i64 k ∧ wr.ownsRow (w.heap.size + 1) 58 3 v k (flat (intCells 18446744073709551615 9223372036854775808) xs k) ∧ (∃ u, wr.heap[w.heap.size]? = some (.cells #[.int .i64 u] 3 (0, 0))) ∧ Below w.heap.size w wr) (fun _ i _ => xs.length - (intOf i).toNat)
  case atStart => exact ⟨0, Nat.zero_le _, rfl, World.ownsRow_nil _ _ _ _, ⟨_, heap_alloc_new w _⟩, (Below.refl _ _).alloc (Nat.le_refl _) _⟩
  case round =>
    obtain ⟨k, hk, rfl, hown, ⟨u, hu⟩, hbel⟩ := hrel
    by_cases hlt : k < xs.length
    · obtain ⟨ba, oa, rfl, hc0⟩ := hx k hlt
      have hc := cell_kept hbel hc0
      have hcp : wr.cell? ⟨w.heap.size, 0, none⟩ = some (.int .i64 u) := cell_of_one hu
      have hfp : wr.frozen? ⟨w.heap.size, 0, none⟩ = false := free_of_one hu
      have hsz : (tx xs k).size ≤ 281474976710656 := by have := HS.out k hlt; omega
      have H := Lib.hid (set_int ⟨w.heap.size, 0, none⟩ (tx xs k) u wr hcp hfp hsz (E1.out.below hbel) (E2.out.below hbel))
      have hi12 := piE_in (M := 18446744073709551615) (C := 9223372036854775808) (by omega) (tx xs k).data.toList
      have HP : Hid (intP 18446744073709551615 9223372036854775808 (tx xs k) = piE 18446744073709551615 9223372036854775808 (tx xs k).data.toList) := rfl
      generalize piE 18446744073709551615 9223372036854775808 (tx xs k).data.toList = p at H hi12 HP
      generalize hV : gotV p = V at H hi12
      have HV := Lib.hid hV
      clear hV hcp hfp
      obtain ⟨hi1, hi2⟩ := hi12
      have j1 : -9223372036854775808 ≤ V := by omega
      have j2 : V ≤ 9223372036854775807 := by omega
      clear hi1 hi2
      have HW : Hid (IntKind.i64.wrap V = V) := by show IntKind.i64.wrap V = V; rw [IntKind.wrap_i64]; omega
      go_wp2_with (go_at_call 50; refine (H.out).mono ?_; rintro e w1 ⟨E, w0, rfl, hE, hb0, hw1⟩; obtain ⟨hu1, hown1, hbel1, hs1⟩ := set_step (block_kept hu hb0) (own_kept hown hb0) (below_step hbel hb0) hw1; clear hw1)
      have hcp1 : w1.cell? ⟨w.heap.size, 0, none⟩ = some (.int .i64 V) := cell_of_one hu1
      have HT1 : Hid (Pow w1.drew) := Lib.tabBelow_of_tabIs HT.out w1.drew hbel1.drew
      rcases hE with ⟨hB, rfl⟩ | ⟨hB, te, ve, rfl⟩
      all_goals
        have HB := Lib.hid hB
        clear hB
        go_region_held3 (fun w' => w'.cell? ⟨w.heap.size, 0, none⟩ = some (.int .i64 V)) (first | assumption | (rw [hgrow.cell_far _ (by simp; omega) (Ne.symm hne)]; assumption) | go_keep)
          (first
            | (go_at_call 51; refine (string_int _ V j1 j2 _ ?_ HT1.out).mono ?_; (assumption); rintro e w3 ⟨rfl, hb3⟩; replace hb3 : Below w1.heap.size w1 w3 := ((Below.refl w1.heap.size w1).drew).trans hb3; have hcp3 := cell_kept hb3 hcp1; have hu3 := block_kept hu1 hb3; have hown3 := own_kept hown1 hb3; have hbel3 := below_step hbel1 hb3; have hs3 := lt_of_block hu3; have hne := own_ne hown3 (Nat.lt_succ_self _))
            | (refine step_append_lies _ (by rfl) _ _ _ (by rfl) (w.heap.size + 1) 58 i0 _ 3 32 Tryd.underlying55 hi hz0 hz1 hz2 rfl (by omega) _ k _ (by rfl) (hown3.alloc _) ⟨w3.heap.size, 0, none⟩ 1 1 [.bool _, .int .i64 _, .string (said V)] (by rfl) (by rfl) (World.news_of_block (cs := #[.bool _, .int .i64 _, .string (said V)]) (t := 58) (fr := (0, 0)) (heap_alloc_new w3 _)) (by simp [Value.oneCell']) (by omega) (by unfold maxLen; omega) (by omega) (by simp; omega) (w3.heap.size + 1) (by simp) ?_; intro gg cap w2 hown2 hgrow hat hlt2))
        have hbw : Below w.heap.size w w2 := (hbel3.alloc (by omega) _).grown hgrow (by simp; omega) (fun b hb => by have := (hown3.lt b hb).1; omega)
        have huw : w2.heap[w.heap.size]? = some (.cells #[.int .i64 V] 3 (0, 0)) := by
          rw [hgrow.block w.heap.size (by simp; omega) (Ne.symm hne)]
          show (w3.alloc _).heap[w.heap.size]? = _
          rw [Below.heap_alloc w3 _ _ hs3]; exact hu3
        have hown4 : w2.ownsRow (w.heap.size + 1) 58 3 (.slice (some ⟨gg, 0, none⟩) (k + 1) cap) (k + 1) (flat (intCells 18446744073709551615 9223372036854775808) xs (k + 1)) := by
          rw [flat_succ hlt]; unfold intCells; rw [HP.out, HV.out, HB.out]; (try rw [HW.out] at hown2); exact hown2
        clear hown2
        go_wp2
        go_roundw
        case rel => exact ⟨k + 1, by omega, by go_num, hown4, ⟨_, huw⟩, hbw⟩
        case measure => simp [intOf]; omega
    · have HK : Hid (k = xs.length) := by show k = _; omega
      have hown1 : wr.ownsRow (w.heap.size + 1) 58 3 u7 xs.length (flat (intCells 18446744073709551615 9223372036854775808) xs xs.length) := by have e := HK.out; rw [e] at hown; exact hown
      clear hown
      obtain ⟨A', c, rfl, hrow⟩ := own_row hown1
      go_wp2
      go_ret
      exact ⟨A', c, rfl, hrow, hbel⟩

set_option maxRecDepth 400000 in
set_option maxHeartbeats 3200000 in
theorem intValue_int8 (d : Int) (A : Option Addr) (cap : Nat) (xs : List ByteArray) (w : World) (hx : StrsAt w A xs) (hm : xs.length ≤ 2147483647) (hs : ∀ j, j < xs.length → (tx xs j).size ≤ 2147483647) (he1 : ErrCell 0 w) (he2 : ErrCell 1 w) (ht : Pow w) (hd1 : -128 ≤ d) (hd2 : d ≤ 127) :
    Calls Tryd.prog 24 #[.int .i64 1, .int .i64 d, .slice A xs.length cap] w fun e w' => ∃ A' c, e = .returned (.slice A' xs.length c) ∧ RowAt w' A' (flat (intCells 255 128) xs xs.length) ∧ Below w.heap.size w w' := by
  obtain ⟨i0, hi, hz0, hz1, hz2⟩ := info_parts Tryd.infoIS
  have HS := Lib.hid hs
  have E1 := Lib.hid he1
  have E2 := Lib.hid he2
  have HT := Lib.hid ht
  clear hs he1 he2 ht
  go_enter Tryd.func24, Tryd.ntmps24
  go_wp2_with (go_at_call 52; refine (zz_int8 _ _ 0 _ (by simp) (by simp)).mono ?_; rintro e w' ⟨rfl, rfl⟩)
  go_loopw [7, 75] (fun v i wr => ∃ k : Nat, k ≤ xs.length ∧ i = .int .i64 k ∧ wr.ownsRow (w.heap.size + 1) 58 3 v k (flat (intCells 255 128) xs k) ∧ (∃ u, wr.heap[w.heap.size]? = some (.cells #[.int .i8 u] 103 (0, 0))) ∧ Below w.heap.size w wr) (fun _ i _ => xs.length - (intOf i).toNat)
  case atStart => exact ⟨0, Nat.zero_le _, rfl, World.ownsRow_nil _ _ _ _, ⟨_, heap_alloc_new w _⟩, (Below.refl _ _).alloc (Nat.le_refl _) _⟩
  case round =>
    obtain ⟨k, hk, rfl, hown, ⟨u, hu⟩, hbel⟩ := hrel
    by_cases hlt : k < xs.length
    · obtain ⟨ba, oa, rfl, hc0⟩ := hx k hlt
      have hc := cell_kept hbel hc0
      have hcp : wr.cell? ⟨w.heap.size, 0, none⟩ = some (.int .i8 u) := cell_of_one hu
      have hfp : wr.frozen? ⟨w.heap.size, 0, none⟩ = false := free_of_one hu
      have hsz : (tx xs k).size ≤ 281474976710656 := by have := HS.out k hlt; omega
      have H := Lib.hid (set_int8 ⟨w.heap.size, 0, none⟩ (tx xs k) u wr hcp hfp hsz (E1.out.below hbel) (E2.out.below hbel))
      have hi12 := piE_in (M := 255) (C := 128) (by omega) (tx xs k).data.toList
      have HP : Hid (intP 255 128 (tx xs k) = piE 255 128 (tx xs k).data.toList) := rfl
      generalize piE 255 128 (tx xs k).data.toList = p at H hi12 HP
      generalize hV : gotV p = V at H hi12
      have HV := Lib.hid hV
      clear hV hcp hfp
      obtain ⟨hi1, hi2⟩ := hi12
      have j1 : -128 ≤ V := by omega
      have j2 : V ≤ 127 := by omega
      clear hi1 hi2
      have HW : Hid (IntKind.i64.wrap V = V) := by show IntKind.i64.wrap V = V; rw [IntKind.wrap_i64]; omega
      go_wp2_with (go_at_call 53; refine (H.out).mono ?_; rintro e w1 ⟨E, w0, rfl, hE, hb0, hw1⟩; obtain ⟨hu1, hown1, hbel1, hs1⟩ := set_step (block_kept hu hb0) (own_kept hown hb0) (below_step hbel hb0) hw1; clear hw1)
      have hcp1 : w1.cell? ⟨w.heap.size, 0, none⟩ = some (.int .i8 V) := cell_of_one hu1
      have HT1 : Hid (Pow w1.drew) := Lib.tabBelow_of_tabIs HT.out w1.drew hbel1.drew
      rcases hE with ⟨hB, rfl⟩ | ⟨hB, te, ve, rfl⟩
      all_goals
        have HB := Lib.hid hB
        clear hB
        go_region_held3 (fun w' => w'.cell? ⟨w.heap.size, 0, none⟩ = some (.int .i8 V)) (first | assumption | (rw [hgrow.cell_far _ (by simp; omega) (Ne.symm hne)]; assumption) | go_keep)
          (first
            | (go_at_call 54; refine (string_int8 _ V j1 j2 _ ?_ HT1.out).mono ?_; (assumption); rintro e w3 ⟨rfl, hb3⟩; replace hb3 : Below w1.heap.size w1 w3 := ((Below.refl w1.heap.size w1).drew).trans hb3; have hcp3 := cell_kept hb3 hcp1; have hu3 := block_kept hu1 hb3; have hown3 := own_kept hown1 hb3; have hbel3 := below_step hbel1 hb3; have hs3 := lt_of_block hu3; have hne := own_ne hown3 (Nat.lt_succ_self _))
            | (refine step_append_lies _ (by rfl) _ _ _ (by rfl) (w.heap.size + 1) 58 i0 _ 3 32 Tryd.underlying55 hi hz0 hz1 hz2 rfl (by omega) _ k _ (by rfl) (hown3.alloc _) ⟨w3.heap.size, 0, none⟩ 1 1 [.bool _, .int .i64 _, .string (said V)] (by rfl) (by rfl) (World.news_of_block (cs := #[.bool _, .int .i64 _, .string (said V)]) (t := 58) (fr := (0, 0)) (heap_alloc_new w3 _)) (by simp [Value.oneCell']) (by omega) (by unfold maxLen; omega) (by omega) (by simp; omega) (w3.heap.size + 1) (by simp) ?_; intro gg cap w2 hown2 hgrow hat hlt2))
        have hbw : Below w.heap.size w w2 := (hbel3.alloc (by omega) _).grown hgrow (by simp; omega) (fun b hb => by have := (hown3.lt b hb).1; omega)
        have huw : w2.heap[w.heap.size]? = some (.cells #[.int .i8 V] 103 (0, 0)) := by
          rw [hgrow.block w.heap.size (by simp; omega) (Ne.symm hne)]
          show (w3.alloc _).heap[w.heap.size]? = _
          rw [Below.heap_alloc w3 _ _ hs3]; exact hu3
        have hown4 : w2.ownsRow (w.heap.size + 1) 58 3 (.slice (some ⟨gg, 0, none⟩) (k + 1) cap) (k + 1) (flat (intCells 255 128) xs (k + 1)) := by
          rw [flat_succ hlt]; unfold intCells; rw [HP.out, HV.out, HB.out]; (try rw [HW.out] at hown2); exact hown2
        clear hown2
        go_wp2
        go_roundw
        case rel => exact ⟨k + 1, by omega, by go_num, hown4, ⟨_, huw⟩, hbw⟩
        case measure => simp [intOf]; omega
    · have HK : Hid (k = xs.length) := by show k = _; omega
      have hown1 : wr.ownsRow (w.heap.size + 1) 58 3 u7 xs.length (flat (intCells 255 128) xs xs.length) := by have e := HK.out; rw [e] at hown; exact hown
      clear hown
      obtain ⟨A', c, rfl, hrow⟩ := own_row hown1
      go_wp2
      go_ret
      exact ⟨A', c, rfl, hrow, hbel⟩

set_option maxRecDepth 400000 in
set_option maxHeartbeats 3200000 in
theorem intValue_int16 (d : Int) (A : Option Addr) (cap : Nat) (xs : List ByteArray) (w : World) (hx : StrsAt w A xs) (hm : xs.length ≤ 2147483647) (hs : ∀ j, j < xs.length → (tx xs j).size ≤ 2147483647) (he1 : ErrCell 0 w) (he2 : ErrCell 1 w) (ht : Pow w) (hd1 : -32768 ≤ d) (hd2 : d ≤ 32767) :
    Calls Tryd.prog 24 #[.int .i64 2, .int .i64 d, .slice A xs.length cap] w fun e w' => ∃ A' c, e = .returned (.slice A' xs.length c) ∧ RowAt w' A' (flat (intCells 65535 32768) xs xs.length) ∧ Below w.heap.size w w' := by
  obtain ⟨i0, hi, hz0, hz1, hz2⟩ := info_parts Tryd.infoIS
  have HS := Lib.hid hs
  have E1 := Lib.hid he1
  have E2 := Lib.hid he2
  have HT := Lib.hid ht
  clear hs he1 he2 ht
  go_enter Tryd.func24, Tryd.ntmps24
  go_wp2_with (go_at_call 55; refine (zz_int16 _ _ 0 _ (by simp) (by simp)).mono ?_; rintro e w' ⟨rfl, rfl⟩)
  go_loopw [7, 104] (fun v i wr => ∃ k : Nat, k ≤ xs.length ∧ i = .int .i64 k ∧ wr.ownsRow (w.heap.size + 1) 58 3 v k (flat (intCells 65535 32768) xs k) ∧ (∃ u, wr.heap[w.heap.size]? = some (.cells #[.int .i16 u] 107 (0, 0))) ∧ Below w.heap.size w wr) (fun _ i _ => xs.length - (intOf i).toNat)
  case atStart => exact ⟨0, Nat.zero_le _, rfl, World.ownsRow_nil _ _ _ _, ⟨_, heap_alloc_new w _⟩, (Below.refl _ _).alloc (Nat.le_refl _) _⟩
  case round =>
    obtain ⟨k, hk, rfl, hown, ⟨u, hu⟩, hbel⟩ := hrel
    by_cases hlt : k < xs.length
    · obtain ⟨ba, oa, rfl, hc0⟩ := hx k hlt
      have hc := cell_kept hbel hc0
      have hcp : wr.cell? ⟨w.heap.size, 0, none⟩ = some (.int .i16 u) := cell_of_one hu
      have hfp : wr.frozen? ⟨w.heap.size, 0, none⟩ = false := free_of_one hu
      have hsz : (tx xs k).size ≤ 281474976710656 := by have := HS.out k hlt; omega
      have H := Lib.hid (set_int16 ⟨w.heap.size, 0, none⟩ (tx xs k) u wr hcp hfp hsz (E1.out.below hbel) (E2.out.below hbel))
      have hi12 := piE_in (M := 65535) (C := 32768) (by omega) (tx xs k).data.toList
      have HP : Hid (intP 65535 32768 (tx xs k) = piE 65535 32768 (tx xs k).data.toList) := rfl
      generalize piE 65535 32768 (tx xs k).data.toList = p at H hi12 HP
      generalize hV : gotV p = V at H hi12
      have HV := Lib.hid hV
      clear hV hcp hfp
      obtain ⟨hi1, hi2⟩ := hi12
      have j1 : -32768 ≤ V := by omega
      have j2 : V ≤ 32767 := by omega
      clear hi1 hi2
      have HW : Hid (IntKind.i64.wrap V = V) := by show IntKind.i64.wrap V = V; rw [IntKind.wrap_i64]; omega
      go_wp2_with (go_at_call 56; refine (H.out).mono ?_; rintro e w1 ⟨E, w0, rfl, hE, hb0, hw1⟩; obtain ⟨hu1, hown1, hbel1, hs1⟩ := set_step (block_kept hu hb0) (own_kept hown hb0) (below_step hbel hb0) hw1; clear hw1)
      have hcp1 : w1.cell? ⟨w.heap.size, 0, none⟩ = some (.int .i16 V) := cell_of_one hu1
      have HT1 : Hid (Pow w1.drew) := Lib.tabBelow_of_tabIs HT.out w1.drew hbel1.drew
      rcases hE with ⟨hB, rfl⟩ | ⟨hB, te, ve, rfl⟩
      all_goals
        have HB := Lib.hid hB
        clear hB
        go_region_held3 (fun w' => w'.cell? ⟨w.heap.size, 0, none⟩ = some (.int .i16 V)) (first | assumption | (rw [hgrow.cell_far _ (by simp; omega) (Ne.symm hne)]; assumption) | go_keep)
          (first
            | (go_at_call 57; refine (string_int16 _ V j1 j2 _ ?_ HT1.out).mono ?_; (assumption); rintro e w3 ⟨rfl, hb3⟩; replace hb3 : Below w1.heap.size w1 w3 := ((Below.refl w1.heap.size w1).drew).trans hb3; have hcp3 := cell_kept hb3 hcp1; have hu3 := block_kept hu1 hb3; have hown3 := own_kept hown1 hb3; have hbel3 := below_step hbel1 hb3; have hs3 := lt_of_block hu3; have hne := own_ne hown3 (Nat.lt_succ_self _))
            | (refine step_append_lies _ (by rfl) _ _ _ (by rfl) (w.heap.size + 1) 58 i0 _ 3 32 Tryd.underlying55 hi hz0 hz1 hz2 rfl (by omega) _ k _ (by rfl) (hown3.alloc _) ⟨w3.heap.size, 0, none⟩ 1 1 [.bool _, .int .i64 _, .string (said V)] (by rfl) (by rfl) (World.news_of_block (cs := #[.bool _, .int .i64 _, .string (said V)]) (t := 58) (fr := (0, 0)) (heap_alloc_new w3 _)) (by simp [Value.oneCell']) (by omega) (by unfold maxLen; omega) (by omega) (by simp; omega) (w3.heap.size + 1) (by simp) ?_; intro gg cap w2 hown2 hgrow hat hlt2))
        have hbw : Below w.heap.size w w2 := (hbel3.alloc (by omega) _).grown hgrow (by simp; omega) (fun b hb => by have := (hown3.lt b hb).1; omega)
        have huw : w2.heap[w.heap.size]? = some (.cells #[.int .i16 V] 107 (0, 0)) := by
          rw [hgrow.block w.heap.size (by simp; omega) (Ne.symm hne)]
          show (w3.alloc _).heap[w.heap.size]? = _
          rw [Below.heap_alloc w3 _ _ hs3]; exact hu3
        have hown4 : w2.ownsRow (w.heap.size + 1) 58 3 (.slice (some ⟨gg, 0, none⟩) (k + 1) cap) (k + 1) (flat (intCells 65535 32768) xs (k + 1)) := by
          rw [flat_succ hlt]; unfold intCells; rw [HP.out, HV.out, HB.out]; (try rw [HW.out] at hown2); exact hown2
        clear hown2
        go_wp2
        go_roundw
        case rel => exact ⟨k + 1, by omega, by go_num, hown4, ⟨_, huw⟩, hbw⟩
        case measure => simp [intOf]; omega
    · have HK : Hid (k = xs.length) := by show k = _; omega
      have hown1 : wr.ownsRow (w.heap.size + 1) 58 3 u7 xs.length (flat (intCells 65535 32768) xs xs.length) := by have e := HK.out; rw [e] at hown; exact hown
      clear hown
      obtain ⟨A', c, rfl, hrow⟩ := own_row hown1
      go_wp2
      go_ret
      exact ⟨A', c, rfl, hrow, hbel⟩

set_option maxRecDepth 400000 in
set_option maxHeartbeats 3200000 in
theorem intValue_int32 (d : Int) (A : Option Addr) (cap : Nat) (xs : List ByteArray) (w : World) (hx : StrsAt w A xs) (hm : xs.length ≤ 2147483647) (hs : ∀ j, j < xs.length → (tx xs j).size ≤ 2147483647) (he1 : ErrCell 0 w) (he2 : ErrCell 1 w) (ht : Pow w) (hd1 : -2147483648 ≤ d) (hd2 : d ≤ 2147483647) :
    Calls Tryd.prog 24 #[.int .i64 3, .int .i64 d, .slice A xs.length cap] w fun e w' => ∃ A' c, e = .returned (.slice A' xs.length c) ∧ RowAt w' A' (flat (intCells 4294967295 2147483648) xs xs.length) ∧ Below w.heap.size w w' := by
  obtain ⟨i0, hi, hz0, hz1, hz2⟩ := info_parts Tryd.infoIS
  have HS := Lib.hid hs
  have E1 := Lib.hid he1
  have E2 := Lib.hid he2
  have HT := Lib.hid ht
  clear hs he1 he2 ht
  go_enter Tryd.func24, Tryd.ntmps24
  go_wp2_with (go_at_call 58; refine (zz_int32 _ _ 0 _ (by simp) (by simp)).mono ?_; rintro e w' ⟨rfl, rfl⟩)
  go_loopw [7, 133] (fun v i wr => ∃ k : Nat, k ≤ xs.length ∧ i = .int .i64 k ∧ wr.ownsRow (w.heap.size + 1) 58 3 v k (flat (intCells 4294967295 2147483648) xs k) ∧ (∃ u, wr.heap[w.heap.size]? = some (.cells #[.int .i32 u] 21 (0, 0))) ∧ Below w.heap.size w wr) (fun _ i _ => xs.length - (intOf i).toNat)
  case atStart => exact ⟨0, Nat.zero_le _, rfl, World.ownsRow_nil _ _ _ _, ⟨_, heap_alloc_new w _⟩, (Below.refl _ _).alloc (Nat.le_refl _) _⟩
  case round =>
    obtain ⟨k, hk, rfl, hown, ⟨u, hu⟩, hbel⟩ := hrel
    by_cases hlt : k < xs.length
    · obtain ⟨ba, oa, rfl, hc0⟩ := hx k hlt
      have hc := cell_kept hbel hc0
      have hcp : wr.cell? ⟨w.heap.size, 0, none⟩ = some (.int .i32 u) := cell_of_one hu
      have hfp : wr.frozen? ⟨w.heap.size, 0, none⟩ = false := free_of_one hu
      have hsz : (tx xs k).size ≤ 281474976710656 := by have := HS.out k hlt; omega
      have H := Lib.hid (set_int32 ⟨w.heap.size, 0, none⟩ (tx xs k) u wr hcp hfp hsz (E1.out.below hbel) (E2.out.below hbel))
      have hi12 := piE_in (M := 4294967295) (C := 2147483648) (by omega) (tx xs k).data.toList
      have HP : Hid (intP 4294967295 2147483648 (tx xs k) = piE 4294967295 2147483648 (tx xs k).data.toList) := rfl
      generalize piE 4294967295 2147483648 (tx xs k).data.toList = p at H hi12 HP
      generalize hV : gotV p = V at H hi12
      have HV := Lib.hid hV
      clear hV hcp hfp
      obtain ⟨hi1, hi2⟩ := hi12
      have j1 : -2147483648 ≤ V := by omega
      have j2 : V ≤ 2147483647 := by omega
      clear hi1 hi2
      have HW : Hid (IntKind.i64.wrap V = V) := by show IntKind.i64.wrap V = V; rw [IntKind.wrap_i64]; omega
      go_wp2_with (go_at_call 59; refine (H.out).mono ?_; rintro e w1 ⟨E, w0, rfl, hE, hb0, hw1⟩; obtain ⟨hu1, hown1, hbel1, hs1⟩ := set_step (block_kept hu hb0) (own_kept hown hb0) (below_step hbel hb0) hw1; clear hw1)
      have hcp1 : w1.cell? ⟨w.heap.size, 0, none⟩ = some (.int .i32 V) := cell_of_one hu1
      have HT1 : Hid (Pow w1.drew) := Lib.tabBelow_of_tabIs HT.out w1.drew hbel1.drew
      rcases hE with ⟨hB, rfl⟩ | ⟨hB, te, ve, rfl⟩
      all_goals
        have HB := Lib.hid hB
        clear hB
        go_region_held3 (fun w' => w'.cell? ⟨w.heap.size, 0, none⟩ = some (.int .i32 V)) (first | assumption | (rw [hgrow.cell_far _ (by simp; omega) (Ne.symm hne)]; assumption) | go_keep)
          (first
            | (go_at_call 60; refine (string_int32 _ V j1 j2 _ ?_ HT1.out).mono ?_; (assumption); rintro e w3 ⟨rfl, hb3⟩; replace hb3 : Below w1.heap.size w1 w3 := ((Below.refl w1.heap.size w1).drew).trans hb3; have hcp3 := cell_kept hb3 hcp1; have hu3 := block_kept hu1 hb3; have hown3 := own_kept hown1 hb3; have hbel3 := below_step hbel1 hb3; have hs3 := lt_of_block hu3; have hne := own_ne hown3 (Nat.lt_succ_self _))
            | (refine step_append_lies _ (by rfl) _ _ _ (by rfl) (w.heap.size + 1) 58 i0 _ 3 32 Tryd.underlying55 hi hz0 hz1 hz2 rfl (by omega) _ k _ (by rfl) (hown3.alloc _) ⟨w3.heap.size, 0, none⟩ 1 1 [.bool _, .int .i64 _, .string (said V)] (by rfl) (by rfl) (World.news_of_block (cs := #[.bool _, .int .i64 _, .string (said V)]) (t := 58) (fr := (0, 0)) (heap_alloc_new w3 _)) (by simp [Value.oneCell']) (by omega) (by unfold maxLen; omega) (by omega) (by simp; omega) (w3.heap.size + 1) (by simp) ?_; intro gg cap w2 hown2 hgrow hat hlt2))
        have hbw : Below w.heap.size w w2 := (hbel3.alloc (by omega) _).grown hgrow (by simp; omega) (fun b hb => by have := (hown3.lt b hb).1; omega)
        have huw : w2.heap[w.heap.size]? = some (.cells #[.int .i32 V] 21 (0, 0)) := by
          rw [hgrow.block w.heap.size (by simp; omega) (Ne.symm hne)]
          show (w3.alloc _).heap[w.heap.size]? = _
          rw [Below.heap_alloc w3 _ _ hs3]; exact hu3
        have hown4 : w2.ownsRow (w.heap.size + 1) 58 3 (.slice (some ⟨gg, 0, none⟩) (k + 1) cap) (k + 1) (flat (intCells 4294967295 2147483648) xs (k + 1)) := by
          rw [flat_succ hlt]; unfold intCells; rw [HP.out, HV.out, HB.out]; (try rw [HW.out] at hown2); exact hown2
        clear hown2
        go_wp2
        go_roundw
        case rel => exact ⟨k + 1, by omega, by go_num, hown4, ⟨_, huw⟩, hbw⟩
        case measure => simp [intOf]; omega
    · have HK : Hid (k = xs.length) := by show k = _; omega
      have hown1 : wr.ownsRow (w.heap.size + 1) 58 3 u7 xs.length (flat (intCells 4294967295 2147483648) xs xs.length) := by have e := HK.out; rw [e] at hown; exact hown
      clear hown
      obtain ⟨A', c, rfl, hrow⟩ := own_row hown1
      go_wp2
      go_ret
      exact ⟨A', c, rfl, hrow, hbel⟩

set_option maxRecDepth 400000 in
set_option maxHeartbeats 3200000 in
theorem intValue_int64 (d : Int) (A : Option Addr) (cap : Nat) (xs : List ByteArray) (w : World) (hx : StrsAt w A xs) (hm : xs.length ≤ 2147483647) (hs : ∀ j, j < xs.length → (tx xs j).size ≤ 2147483647) (he1 : ErrCell 0 w) (he2 : ErrCell 1 w) (ht : Pow w) (hd1 : -9223372036854775808 ≤ d) (hd2 : d ≤ 9223372036854775807) :
    Calls Tryd.prog 24 #[.int .i64 4, .int .i64 d, .slice A xs.length cap] w fun e w' => ∃ A' c, e = .returned (.slice A' xs.length c) ∧ RowAt w' A' (flat (intCells 18446744073709551615 9223372036854775808) xs xs.length) ∧ Below w.heap.size w w' := by
  obtain ⟨i0, hi, hz0, hz1, hz2⟩ := info_parts Tryd.infoIS
  have HS := Lib.hid hs
  have E1 := Lib.hid he1
  have E2 := Lib.hid he2
  have HT := Lib.hid ht
  clear hs he1 he2 ht
  go_enter Tryd.func24, Tryd.ntmps24
  go_wp2_with (go_at_call 61; refine (zz_int64 _ _ 0 _ (by simp) (by simp)).mono ?_; rintro e w' ⟨rfl, rfl⟩)
  go_loopw [7, 161] (fun v i wr => ∃ k : Nat, k ≤ xs.length ∧ i = .int .i64 k ∧ wr.ownsRow (w.heap.size + 1) 58 3 v k (flat (intCells 18446744073709551615 9223372036854775808) xs k) ∧ (∃ u, wr.heap[w.heap.size]? = some (.cells #[.int .i64 u] 2 (0, 0))) ∧ Below w.heap.size w wr) (fun _ i _ => xs.length - (intOf i).toNat)
  case atStart => exact ⟨0, Nat.zero_le _, rfl, World.ownsRow_nil _ _ _ _, ⟨_, heap_alloc_new w _⟩, (Below.refl _ _).alloc (Nat.le_refl _) _⟩
  case round =>
    obtain ⟨k, hk, rfl, hown, ⟨u, hu⟩, hbel⟩ := hrel
    by_cases hlt : k < xs.length
    · obtain ⟨ba, oa, rfl, hc0⟩ := hx k hlt
      have hc := cell_kept hbel hc0
      have hcp : wr.cell? ⟨w.heap.size, 0, none⟩ = some (.int .i64 u) := cell_of_one hu
      have hfp : wr.frozen? ⟨w.heap.size, 0, none⟩ = false := free_of_one hu
      have hsz : (tx xs k).size ≤ 281474976710656 := by have := HS.out k hlt; omega
      have H := Lib.hid (set_int64 ⟨w.heap.size, 0, none⟩ (tx xs k) u wr hcp hfp hsz (E1.out.below hbel) (E2.out.below hbel))
      have hi12 := piE_in (M := 18446744073709551615) (C := 9223372036854775808) (by omega) (tx xs k).data.toList
      have HP : Hid (intP 18446744073709551615 9223372036854775808 (tx xs k) = piE 18446744073709551615 9223372036854775808 (tx xs k).data.toList) := rfl
      generalize piE 18446744073709551615 9223372036854775808 (tx xs k).data.toList = p at H hi12 HP
      generalize hV : gotV p = V at H hi12
      have HV := Lib.hid hV
      clear hV hcp hfp
      obtain ⟨hi1, hi2⟩ := hi12
      have j1 : -9223372036854775808 ≤ V := by omega
      have j2 : V ≤ 9223372036854775807 := by omega
      clear hi1 hi2
      have HW : Hid (IntKind.i64.wrap V = V) := by show IntKind.i64.wrap V = V; rw [IntKind.wrap_i64]; omega
      go_wp2_with (go_at_call 62; refine (H.out).mono ?_; rintro e w1 ⟨E, w0, rfl, hE, hb0, hw1⟩; obtain ⟨hu1, hown1, hbel1, hs1⟩ := set_step (block_kept hu hb0) (own_kept hown hb0) (below_step hbel hb0) hw1; clear hw1)
      have hcp1 : w1.cell? ⟨w.heap.size, 0, none⟩ = some (.int .i64 V) := cell_of_one hu1
      have HT1 : Hid (Pow w1.drew) := Lib.tabBelow_of_tabIs HT.out w1.drew hbel1.drew
      rcases hE with ⟨hB, rfl⟩ | ⟨hB, te, ve, rfl⟩
      all_goals
        have HB := Lib.hid hB
        clear hB
        go_region_held3 (fun w' => w'.cell? ⟨w.heap.size, 0, none⟩ = some (.int .i64 V)) (first | assumption | (rw [hgrow.cell_far _ (by simp; omega) (Ne.symm hne)]; assumption) | go_keep)
          (first
            | (go_at_call 63; refine (string_int64 _ V j1 j2 _ ?_ HT1.out).mono ?_; (assumption); rintro e w3 ⟨rfl, hb3⟩; replace hb3 : Below w1.heap.size w1 w3 := ((Below.refl w1.heap.size w1).drew).trans hb3; have hcp3 := cell_kept hb3 hcp1; have hu3 := block_kept hu1 hb3; have hown3 := own_kept hown1 hb3; have hbel3 := below_step hbel1 hb3; have hs3 := lt_of_block hu3; have hne := own_ne hown3 (Nat.lt_succ_self _))
            | (refine step_append_lies _ (by rfl) _ _ _ (by rfl) (w.heap.size + 1) 58 i0 _ 3 32 Tryd.underlying55 hi hz0 hz1 hz2 rfl (by omega) _ k _ (by rfl) (hown3.alloc _) ⟨w3.heap.size, 0, none⟩ 1 1 [.bool _, .int .i64 _, .string (said V)] (by rfl) (by rfl) (World.news_of_block (cs := #[.bool _, .int .i64 _, .string (said V)]) (t := 58) (fr := (0, 0)) (heap_alloc_new w3 _)) (by simp [Value.oneCell']) (by omega) (by unfold maxLen; omega) (by omega) (by simp; omega) (w3.heap.size + 1) (by simp) ?_; intro gg cap w2 hown2 hgrow hat hlt2))
        have hbw : Below w.heap.size w w2 := (hbel3.alloc (by omega) _).grown hgrow (by simp; omega) (fun b hb => by have := (hown3.lt b hb).1; omega)
        have huw : w2.heap[w.heap.size]? = some (.cells #[.int .i64 V] 2 (0, 0)) := by
          rw [hgrow.block w.heap.size (by simp; omega) (Ne.symm hne)]
          show (w3.alloc _).heap[w.heap.size]? = _
          rw [Below.heap_alloc w3 _ _ hs3]; exact hu3
        have hown4 : w2.ownsRow (w.heap.size + 1) 58 3 (.slice (some ⟨gg, 0, none⟩) (k + 1) cap) (k + 1) (flat (intCells 18446744073709551615 9223372036854775808) xs (k + 1)) := by
          rw [flat_succ hlt]; unfold intCells; rw [HP.out, HV.out, HB.out]; (try rw [HW.out] at hown2); exact hown2
        clear hown2
        go_wp2
        go_roundw
        case rel => exact ⟨k + 1, by omega, by go_num, hown4, ⟨_, huw⟩, hbw⟩
        case measure => simp [intOf]; omega
    · have HK : Hid (k = xs.length) := by show k = _; omega
      have hown1 : wr.ownsRow (w.heap.size + 1) 58 3 u7 xs.length (flat (intCells 18446744073709551615 9223372036854775808) xs xs.length) := by have e := HK.out; rw [e] at hown; exact hown
      clear hown
      obtain ⟨A', c, rfl, hrow⟩ := own_row hown1
      go_wp2
      go_ret
      exact ⟨A', c, rfl, hrow, hbel⟩

end Go.Proofs.YtjfgebgkdpomiaaDoor.E
