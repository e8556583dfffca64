/- impl.UintValue of each width, over this seat's program. Written by gen_uintloop.py. -/
import Derived.Test.YtoofmiafcaipmaaDoorUintV
namespace Go.Proofs.YtoofmiafcaipmaaDoor.E
open Go.RowKit Go.Proofs
open Go.Lib (NumEnd)
set_option linter.unusedVariables false
set_option linter.unusedSimpArgs false


set_option maxRecDepth 400000 in
set_option maxHeartbeats 3200000 in
theorem uintValue_uint (d : Int) (A : Option Addr) (cap : Nat) (xs : List ByteArray) (w : World) (hx : StrsAt w A xs) (hm : xs.length ≤ 2147483647) (hs : ∀ j, j < xs.length → (tx xs j).size ≤ 2147483647) (he1 : ErrCell 0 w) (he2 : ErrCell 1 w) (ht : Pow w) (hd1 : 0 ≤ d) (hd2 : d ≤ 18446744073709551615) :
    Calls Tryd.prog 26 #[.int .i64 0, .int .u64 d, .slice A xs.length cap] w fun e w' => ∃ A' c, e = .returned (.slice A' xs.length c) ∧ RowAt w' A' (flat (uCells 18446744073709551615) xs xs.length) ∧ Below w.heap.size w w' := by
  obtain ⟨i0, hi, hz0, hz1, hz2⟩ := info_parts Tryd.infoUS
  have HS := Lib.hid hs
  have E1 := Lib.hid he1
  have E2 := Lib.hid he2
  have HT := Lib.hid ht
  clear hs he1 he2 ht
  go_enter Tryd.func26, Tryd.ntmps26
  go_wp2_with (go_at_call 66; refine (zzU_uint _ _ 0 _ (by simp) (by simp)).mono ?_; rintro e w' ⟨rfl, rfl⟩)
  go_loopw [7, 42] (fun v i wr => ∃ k : Nat, k ≤ xs.length ∧ i = .int .i64 k ∧ wr.ownsRow (w.heap.size + 1) 61 3 v k (flat (uCells 18446744073709551615) xs k) ∧ (∃ u : Int, wr.heap[w.heap.size]? = some (.cells #[.int .u64 u] 57 (0, 0))) ∧ Below w.heap.size w wr) (fun _ i _ => xs.length - (intOf i).toNat)
  case atStart => exact ⟨0, Nat.zero_le _, rfl, World.ownsRow_nil _ _ _ _, ⟨_, heap_alloc_new w _⟩, (Below.refl _ _).alloc (Nat.le_refl _) _⟩
  case round =>
    obtain ⟨k, hk, rfl, hown, ⟨u, hu⟩, hbel⟩ := hrel
    by_cases hlt : k < xs.length
    · obtain ⟨ba, oa, rfl, hc0⟩ := hx k hlt
      have hc := cell_kept hbel hc0
      have hcp : wr.cell? ⟨w.heap.size, 0, none⟩ = some (.int .u64 u) := cell_of_one hu
      have hfp : wr.frozen? ⟨w.heap.size, 0, none⟩ = false := free_of_one hu
      have hsz : (tx xs k).size ≤ 281474976710656 := by have := HS.out k hlt; omega
      have H := Lib.hid (setU_uint ⟨w.heap.size, 0, none⟩ (tx xs k) u wr hcp hfp hsz (E1.out.below hbel) (E2.out.below hbel))
      have hi12 : gotU 18446744073709551615 (uP 18446744073709551615 (tx xs k)) ≤ 18446744073709551615 := gotU_le _
      have HP : Hid (uCells 18446744073709551615 (tx xs k) = [.bool (badU (uP 18446744073709551615 (tx xs k))), .int .u64 (gotU 18446744073709551615 (uP 18446744073709551615 (tx xs k))), .string (saidU (gotU 18446744073709551615 (uP 18446744073709551615 (tx xs k))))]) := rfl
      generalize badU (uP 18446744073709551615 (tx xs k)) = BB at H HP
      generalize gotU 18446744073709551615 (uP 18446744073709551615 (tx xs k)) = V at H hi12 HP
      clear hcp hfp
      have j1 : (0 : Int) ≤ (V : Int) := Int.natCast_nonneg _
      have j2 : (V : Int) ≤ 18446744073709551615 := by omega
      have HI := Lib.hid hi12
      clear hi12
      have HW : Hid (IntKind.u64.wrap V = V) := by show IntKind.u64.wrap V = V; rw [IntKind.wrap_u64]; omega
      go_wp2_with (go_at_call 67; refine (H.out).mono ?_; rintro e w1 ⟨E, w0, rfl, hE, hb0, hw1⟩; obtain ⟨hu1, hown1, hbel1, hs1⟩ := set_step (block_kept hu hb0) (own_kept hown hb0) (below_step hbel hb0) hw1; clear hw1)
      have hcp1 : w1.cell? ⟨w.heap.size, 0, none⟩ = some (.int .u64 V) := cell_of_one hu1
      have HT1 : Hid (Pow w1.drew) := Lib.tabBelow_of_tabIs HT.out w1.drew hbel1.drew
      rcases hE with ⟨hB, rfl⟩ | ⟨hB, te, ve, rfl⟩
      all_goals
        have HB := Lib.hid hB
        clear hB
        go_region_held3 (fun w' => w'.cell? ⟨w.heap.size, 0, none⟩ = some (.int .u64 V)) (first | assumption | (rw [hgrow.cell_far _ (by simp; omega) (Ne.symm hne)]; assumption) | go_keep)
          (first
            | (go_at_call 68; refine (stringU_uint _ V HI.out _ ?_ HT1.out).mono ?_; (assumption); rintro e w3 ⟨rfl, hb3⟩; replace hb3 : Below w1.heap.size w1 w3 := ((Below.refl w1.heap.size w1).drew).trans hb3; have hcp3 := cell_kept hb3 hcp1; have hu3 := block_kept hu1 hb3; have hown3 := own_kept hown1 hb3; have hbel3 := below_step hbel1 hb3; have hs3 := lt_of_block hu3; have hne := own_ne hown3 (Nat.lt_succ_self _))
            | (refine step_append_lies _ (by rfl) _ _ _ (by rfl) (w.heap.size + 1) 61 i0 _ 3 32 Tryd.underlying58 hi hz0 hz1 hz2 rfl (by omega) _ k _ (by rfl) (hown3.alloc _) ⟨w3.heap.size, 0, none⟩ 1 1 [.bool _, .int .u64 _, .string (saidU V)] (by rfl) (by rfl) (World.news_of_block (cs := #[.bool _, .int .u64 _, .string (saidU V)]) (t := 61) (fr := (0, 0)) (heap_alloc_new w3 _)) (by simp [Value.oneCell']) (by omega) (by unfold maxLen; omega) (by omega) (by simp; omega) (w3.heap.size + 1) (by simp) ?_; intro gg cap w2 hown2 hgrow hat hlt2))
        have hbw : Below w.heap.size w w2 := (hbel3.alloc (by omega) _).grown hgrow (by simp; omega) (fun b hb => by have := (hown3.lt b hb).1; omega)
        have huw : w2.heap[w.heap.size]? = some (.cells #[.int .u64 V] 57 (0, 0)) := by
          rw [hgrow.block w.heap.size (by simp; omega) (Ne.symm hne)]
          show (w3.alloc _).heap[w.heap.size]? = _
          rw [Below.heap_alloc w3 _ _ hs3]; exact hu3
        have hown4 : w2.ownsRow (w.heap.size + 1) 61 3 (.slice (some ⟨gg, 0, none⟩) (k + 1) cap) (k + 1) (flat (uCells 18446744073709551615) xs (k + 1)) := by
          rw [flat_succ hlt, HP.out, HB.out]; (try rw [HW.out] at hown2); exact hown2
        clear hown2
        go_wp2
        go_roundw
        case rel => exact ⟨k + 1, by omega, by go_num, hown4, ⟨_, huw⟩, hbw⟩
        case measure => simp [intOf]; omega
    · have HK : Hid (k = xs.length) := by show k = _; omega
      have hown1 : wr.ownsRow (w.heap.size + 1) 61 3 u7 xs.length (flat (uCells 18446744073709551615) xs xs.length) := by have e := HK.out; rw [e] at hown; exact hown
      clear hown
      obtain ⟨A', c, rfl, hrow⟩ := own_row hown1
      go_wp2
      go_ret
      exact ⟨A', c, rfl, hrow, hbel⟩


set_option maxRecDepth 400000 in
set_option maxHeartbeats 3200000 in
theorem uintValue_uint8 (d : Int) (A : Option Addr) (cap : Nat) (xs : List ByteArray) (w : World) (hx : StrsAt w A xs) (hm : xs.length ≤ 2147483647) (hs : ∀ j, j < xs.length → (tx xs j).size ≤ 2147483647) (he1 : ErrCell 0 w) (he2 : ErrCell 1 w) (ht : Pow w) (hd1 : 0 ≤ d) (hd2 : d ≤ 255) :
    Calls Tryd.prog 26 #[.int .i64 8, .int .u64 d, .slice A xs.length cap] w fun e w' => ∃ A' c, e = .returned (.slice A' xs.length c) ∧ RowAt w' A' (flat (uCells 255) xs xs.length) ∧ Below w.heap.size w w' := by
  obtain ⟨i0, hi, hz0, hz1, hz2⟩ := info_parts Tryd.infoUS
  have HS := Lib.hid hs
  have E1 := Lib.hid he1
  have E2 := Lib.hid he2
  have HT := Lib.hid ht
  clear hs he1 he2 ht
  go_enter Tryd.func26, Tryd.ntmps26
  go_wp2_with (go_at_call 69; refine (zzU_uint8 _ _ 0 _ (by simp) (by simp)).mono ?_; rintro e w' ⟨rfl, rfl⟩)
  go_loopw [7, 70] (fun v i wr => ∃ k : Nat, k ≤ xs.length ∧ i = .int .i64 k ∧ wr.ownsRow (w.heap.size + 1) 61 3 v k (flat (uCells 255) xs k) ∧ (∃ u : Int, wr.heap[w.heap.size]? = some (.cells #[.int .u8 u] 5 (0, 0))) ∧ Below w.heap.size w wr) (fun _ i _ => xs.length - (intOf i).toNat)
  case atStart => exact ⟨0, Nat.zero_le _, rfl, World.ownsRow_nil _ _ _ _, ⟨_, heap_alloc_new w _⟩, (Below.refl _ _).alloc (Nat.le_refl _) _⟩
  case round =>
    obtain ⟨k, hk, rfl, hown, ⟨u, hu⟩, hbel⟩ := hrel
    by_cases hlt : k < xs.length
    · obtain ⟨ba, oa, rfl, hc0⟩ := hx k hlt
      have hc := cell_kept hbel hc0
      have hcp : wr.cell? ⟨w.heap.size, 0, none⟩ = some (.int .u8 u) := cell_of_one hu
      have hfp : wr.frozen? ⟨w.heap.size, 0, none⟩ = false := free_of_one hu
      have hsz : (tx xs k).size ≤ 281474976710656 := by have := HS.out k hlt; omega
      have H := Lib.hid (setU_uint8 ⟨w.heap.size, 0, none⟩ (tx xs k) u wr hcp hfp hsz (E1.out.below hbel) (E2.out.below hbel))
      have hi12 : gotU 255 (uP 255 (tx xs k)) ≤ 255 := gotU_le _
      have HP : Hid (uCells 255 (tx xs k) = [.bool (badU (uP 255 (tx xs k))), .int .u64 (gotU 255 (uP 255 (tx xs k))), .string (saidU (gotU 255 (uP 255 (tx xs k))))]) := rfl
      generalize badU (uP 255 (tx xs k)) = BB at H HP
      generalize gotU 255 (uP 255 (tx xs k)) = V at H hi12 HP
      clear hcp hfp
      have j1 : (0 : Int) ≤ (V : Int) := Int.natCast_nonneg _
      have j2 : (V : Int) ≤ 255 := by omega
      have HI := Lib.hid hi12
      clear hi12
      have HW : Hid (IntKind.u64.wrap V = V) := by show IntKind.u64.wrap V = V; rw [IntKind.wrap_u64]; omega
      go_wp2_with (go_at_call 70; refine (H.out).mono ?_; rintro e w1 ⟨E, w0, rfl, hE, hb0, hw1⟩; obtain ⟨hu1, hown1, hbel1, hs1⟩ := set_step (block_kept hu hb0) (own_kept hown hb0) (below_step hbel hb0) hw1; clear hw1)
      have hcp1 : w1.cell? ⟨w.heap.size, 0, none⟩ = some (.int .u8 V) := cell_of_one hu1
      have HT1 : Hid (Pow w1.drew) := Lib.tabBelow_of_tabIs HT.out w1.drew hbel1.drew
      rcases hE with ⟨hB, rfl⟩ | ⟨hB, te, ve, rfl⟩
      all_goals
        have HB := Lib.hid hB
        clear hB
        go_region_held3 (fun w' => w'.cell? ⟨w.heap.size, 0, none⟩ = some (.int .u8 V)) (first | assumption | (rw [hgrow.cell_far _ (by simp; omega) (Ne.symm hne)]; assumption) | go_keep)
          (first
            | (go_at_call 71; refine (stringU_uint8 _ V HI.out _ ?_ HT1.out).mono ?_; (assumption); rintro e w3 ⟨rfl, hb3⟩; replace hb3 : Below w1.heap.size w1 w3 := ((Below.refl w1.heap.size w1).drew).trans hb3; have hcp3 := cell_kept hb3 hcp1; have hu3 := block_kept hu1 hb3; have hown3 := own_kept hown1 hb3; have hbel3 := below_step hbel1 hb3; have hs3 := lt_of_block hu3; have hne := own_ne hown3 (Nat.lt_succ_self _))
            | (refine step_append_lies _ (by rfl) _ _ _ (by rfl) (w.heap.size + 1) 61 i0 _ 3 32 Tryd.underlying58 hi hz0 hz1 hz2 rfl (by omega) _ k _ (by rfl) (hown3.alloc _) ⟨w3.heap.size, 0, none⟩ 1 1 [.bool _, .int .u64 _, .string (saidU V)] (by rfl) (by rfl) (World.news_of_block (cs := #[.bool _, .int .u64 _, .string (saidU V)]) (t := 61) (fr := (0, 0)) (heap_alloc_new w3 _)) (by simp [Value.oneCell']) (by omega) (by unfold maxLen; omega) (by omega) (by simp; omega) (w3.heap.size + 1) (by simp) ?_; intro gg cap w2 hown2 hgrow hat hlt2))
        have hbw : Below w.heap.size w w2 := (hbel3.alloc (by omega) _).grown hgrow (by simp; omega) (fun b hb => by have := (hown3.lt b hb).1; omega)
        have huw : w2.heap[w.heap.size]? = some (.cells #[.int .u8 V] 5 (0, 0)) := by
          rw [hgrow.block w.heap.size (by simp; omega) (Ne.symm hne)]
          show (w3.alloc _).heap[w.heap.size]? = _
          rw [Below.heap_alloc w3 _ _ hs3]; exact hu3
        have hown4 : w2.ownsRow (w.heap.size + 1) 61 3 (.slice (some ⟨gg, 0, none⟩) (k + 1) cap) (k + 1) (flat (uCells 255) xs (k + 1)) := by
          rw [flat_succ hlt, HP.out, HB.out]; (try rw [HW.out] at hown2); exact hown2
        clear hown2
        go_wp2
        go_roundw
        case rel => exact ⟨k + 1, by omega, by go_num, hown4, ⟨_, huw⟩, hbw⟩
        case measure => simp [intOf]; omega
    · have HK : Hid (k = xs.length) := by show k = _; omega
      have hown1 : wr.ownsRow (w.heap.size + 1) 61 3 u7 xs.length (flat (uCells 255) xs xs.length) := by have e := HK.out; rw [e] at hown; exact hown
      clear hown
      obtain ⟨A', c, rfl, hrow⟩ := own_row hown1
      go_wp2
      go_ret
      exact ⟨A', c, rfl, hrow, hbel⟩


set_option maxRecDepth 400000 in
set_option maxHeartbeats 3200000 in
theorem uintValue_uint16 (d : Int) (A : Option Addr) (cap : Nat) (xs : List ByteArray) (w : World) (hx : StrsAt w A xs) (hm : xs.length ≤ 2147483647) (hs : ∀ j, j < xs.length → (tx xs j).size ≤ 2147483647) (he1 : ErrCell 0 w) (he2 : ErrCell 1 w) (ht : Pow w) (hd1 : 0 ≤ d) (hd2 : d ≤ 65535) :
    Calls Tryd.prog 26 #[.int .i64 16, .int .u64 d, .slice A xs.length cap] w fun e w' => ∃ A' c, e = .returned (.slice A' xs.length c) ∧ RowAt w' A' (flat (uCells 65535) xs xs.length) ∧ Below w.heap.size w w' := by
  obtain ⟨i0, hi, hz0, hz1, hz2⟩ := info_parts Tryd.infoUS
  have HS := Lib.hid hs
  have E1 := Lib.hid he1
  have E2 := Lib.hid he2
  have HT := Lib.hid ht
  clear hs he1 he2 ht
  go_enter Tryd.func26, Tryd.ntmps26
  go_wp2_with (go_at_call 72; refine (zzU_uint16 _ _ 0 _ (by simp) (by simp)).mono ?_; rintro e w' ⟨rfl, rfl⟩)
  go_loopw [7, 99] (fun v i wr => ∃ k : Nat, k ≤ xs.length ∧ i = .int .i64 k ∧ wr.ownsRow (w.heap.size + 1) 61 3 v k (flat (uCells 65535) xs k) ∧ (∃ u : Int, wr.heap[w.heap.size]? = some (.cells #[.int .u16 u] 117 (0, 0))) ∧ Below w.heap.size w wr) (fun _ i _ => xs.length - (intOf i).toNat)
  case atStart => exact ⟨0, Nat.zero_le _, rfl, World.ownsRow_nil _ _ _ _, ⟨_, heap_alloc_new w _⟩, (Below.refl _ _).alloc (Nat.le_refl _) _⟩
  case round =>
    obtain ⟨k, hk, rfl, hown, ⟨u, hu⟩, hbel⟩ := hrel
    by_cases hlt : k < xs.length
    · obtain ⟨ba, oa, rfl, hc0⟩ := hx k hlt
      have hc := cell_kept hbel hc0
      have hcp : wr.cell? ⟨w.heap.size, 0, none⟩ = some (.int .u16 u) := cell_of_one hu
      have hfp : wr.frozen? ⟨w.heap.size, 0, none⟩ = false := free_of_one hu
      have hsz : (tx xs k).size ≤ 281474976710656 := by have := HS.out k hlt; omega
      have H := Lib.hid (setU_uint16 ⟨w.heap.size, 0, none⟩ (tx xs k) u wr hcp hfp hsz (E1.out.below hbel) (E2.out.below hbel))
      have hi12 : gotU 65535 (uP 65535 (tx xs k)) ≤ 65535 := gotU_le _
      have HP : Hid (uCells 65535 (tx xs k) = [.bool (badU (uP 65535 (tx xs k))), .int .u64 (gotU 65535 (uP 65535 (tx xs k))), .string (saidU (gotU 65535 (uP 65535 (tx xs k))))]) := rfl
      generalize badU (uP 65535 (tx xs k)) = BB at H HP
      generalize gotU 65535 (uP 65535 (tx xs k)) = V at H hi12 HP
      clear hcp hfp
      have j1 : (0 : Int) ≤ (V : Int) := Int.natCast_nonneg _
      have j2 : (V : Int) ≤ 65535 := by omega
      have HI := Lib.hid hi12
      clear hi12
      have HW : Hid (IntKind.u64.wrap V = V) := by show IntKind.u64.wrap V = V; rw [IntKind.wrap_u64]; omega
      go_wp2_with (go_at_call 73; refine (H.out).mono ?_; rintro e w1 ⟨E, w0, rfl, hE, hb0, hw1⟩; obtain ⟨hu1, hown1, hbel1, hs1⟩ := set_step (block_kept hu hb0) (own_kept hown hb0) (below_step hbel hb0) hw1; clear hw1)
      have hcp1 : w1.cell? ⟨w.heap.size, 0, none⟩ = some (.int .u16 V) := cell_of_one hu1
      have HT1 : Hid (Pow w1.drew) := Lib.tabBelow_of_tabIs HT.out w1.drew hbel1.drew
      rcases hE with ⟨hB, rfl⟩ | ⟨hB, te, ve, rfl⟩
      all_goals
        have HB := Lib.hid hB
        clear hB
        go_region_held3 (fun w' => w'.cell? ⟨w.heap.size, 0, none⟩ = some (.int .u16 V)) (first | assumption | (rw [hgrow.cell_far _ (by simp; omega) (Ne.symm hne)]; assumption) | go_keep)
          (first
            | (go_at_call 74; refine (stringU_uint16 _ V HI.out _ ?_ HT1.out).mono ?_; (assumption); rintro e w3 ⟨rfl, hb3⟩; replace hb3 : Below w1.heap.size w1 w3 := ((Below.refl w1.heap.size w1).drew).trans hb3; have hcp3 := cell_kept hb3 hcp1; have hu3 := block_kept hu1 hb3; have hown3 := own_kept hown1 hb3; have hbel3 := below_step hbel1 hb3; have hs3 := lt_of_block hu3; have hne := own_ne hown3 (Nat.lt_succ_self _))
            | (refine step_append_lies _ (by rfl) _ _ _ (by rfl) (w.heap.size + 1) 61 i0 _ 3 32 Tryd.underlying58 hi hz0 hz1 hz2 rfl (by omega) _ k _ (by rfl) (hown3.alloc _) ⟨w3.heap.size, 0, none⟩ 1 1 [.bool _, .int .u64 _, .string (saidU V)] (by rfl) (by rfl) (World.news_of_block (cs := #[.bool _, .int .u64 _, .string (saidU V)]) (t := 61) (fr := (0, 0)) (heap_alloc_new w3 _)) (by simp [Value.oneCell']) (by omega) (by unfold maxLen; omega) (by omega) (by simp; omega) (w3.heap.size + 1) (by simp) ?_; intro gg cap w2 hown2 hgrow hat hlt2))
        have hbw : Below w.heap.size w w2 := (hbel3.alloc (by omega) _).grown hgrow (by simp; omega) (fun b hb => by have := (hown3.lt b hb).1; omega)
        have huw : w2.heap[w.heap.size]? = some (.cells #[.int .u16 V] 117 (0, 0)) := by
          rw [hgrow.block w.heap.size (by simp; omega) (Ne.symm hne)]
          show (w3.alloc _).heap[w.heap.size]? = _
          rw [Below.heap_alloc w3 _ _ hs3]; exact hu3
        have hown4 : w2.ownsRow (w.heap.size + 1) 61 3 (.slice (some ⟨gg, 0, none⟩) (k + 1) cap) (k + 1) (flat (uCells 65535) xs (k + 1)) := by
          rw [flat_succ hlt, HP.out, HB.out]; (try rw [HW.out] at hown2); exact hown2
        clear hown2
        go_wp2
        go_roundw
        case rel => exact ⟨k + 1, by omega, by go_num, hown4, ⟨_, huw⟩, hbw⟩
        case measure => simp [intOf]; omega
    · have HK : Hid (k = xs.length) := by show k = _; omega
      have hown1 : wr.ownsRow (w.heap.size + 1) 61 3 u7 xs.length (flat (uCells 65535) xs xs.length) := by have e := HK.out; rw [e] at hown; exact hown
      clear hown
      obtain ⟨A', c, rfl, hrow⟩ := own_row hown1
      go_wp2
      go_ret
      exact ⟨A', c, rfl, hrow, hbel⟩


set_option maxRecDepth 400000 in
set_option maxHeartbeats 3200000 in
theorem uintValue_uint32 (d : Int) (A : Option Addr) (cap : Nat) (xs : List ByteArray) (w : World) (hx : StrsAt w A xs) (hm : xs.length ≤ 2147483647) (hs : ∀ j, j < xs.length → (tx xs j).size ≤ 2147483647) (he1 : ErrCell 0 w) (he2 : ErrCell 1 w) (ht : Pow w) (hd1 : 0 ≤ d) (hd2 : d ≤ 4294967295) :
    Calls Tryd.prog 26 #[.int .i64 32, .int .u64 d, .slice A xs.length cap] w fun e w' => ∃ A' c, e = .returned (.slice A' xs.length c) ∧ RowAt w' A' (flat (uCells 4294967295) xs xs.length) ∧ Below w.heap.size w w' := by
  obtain ⟨i0, hi, hz0, hz1, hz2⟩ := info_parts Tryd.infoUS
  have HS := Lib.hid hs
  have E1 := Lib.hid he1
  have E2 := Lib.hid he2
  have HT := Lib.hid ht
  clear hs he1 he2 ht
  go_enter Tryd.func26, Tryd.ntmps26
  go_wp2_with (go_at_call 75; refine (zzU_uint32 _ _ 0 _ (by simp) (by simp)).mono ?_; rintro e w' ⟨rfl, rfl⟩)
  go_loopw [7, 128] (fun v i wr => ∃ k : Nat, k ≤ xs.length ∧ i = .int .i64 k ∧ wr.ownsRow (w.heap.size + 1) 61 3 v k (flat (uCells 4294967295) xs k) ∧ (∃ u : Int, wr.heap[w.heap.size]? = some (.cells #[.int .u32 u] 121 (0, 0))) ∧ Below w.heap.size w wr) (fun _ i _ => xs.length - (intOf i).toNat)
  case atStart => exact ⟨0, Nat.zero_le _, rfl, World.ownsRow_nil _ _ _ _, ⟨_, heap_alloc_new w _⟩, (Below.refl _ _).alloc (Nat.le_refl _) _⟩
  case round =>
    obtain ⟨k, hk, rfl, hown, ⟨u, hu⟩, hbel⟩ := hrel
    by_cases hlt : k < xs.length
    · obtain ⟨ba, oa, rfl, hc0⟩ := hx k hlt
      have hc := cell_kept hbel hc0
      have hcp : wr.cell? ⟨w.heap.size, 0, none⟩ = some (.int .u32 u) := cell_of_one hu
      have hfp : wr.frozen? ⟨w.heap.size, 0, none⟩ = false := free_of_one hu
      have hsz : (tx xs k).size ≤ 281474976710656 := by have := HS.out k hlt; omega
      have H := Lib.hid (setU_uint32 ⟨w.heap.size, 0, none⟩ (tx xs k) u wr hcp hfp hsz (E1.out.below hbel) (E2.out.below hbel))
      have hi12 : gotU 4294967295 (uP 4294967295 (tx xs k)) ≤ 4294967295 := gotU_le _
      have HP : Hid (uCells 4294967295 (tx xs k) = [.bool (badU (uP 4294967295 (tx xs k))), .int .u64 (gotU 4294967295 (uP 4294967295 (tx xs k))), .string (saidU (gotU 4294967295 (uP 4294967295 (tx xs k))))]) := rfl
      generalize badU (uP 4294967295 (tx xs k)) = BB at H HP
      generalize gotU 4294967295 (uP 4294967295 (tx xs k)) = V at H hi12 HP
      clear hcp hfp
      have j1 : (0 : Int) ≤ (V : Int) := Int.natCast_nonneg _
      have j2 : (V : Int) ≤ 4294967295 := by omega
      have HI := Lib.hid hi12
      clear hi12
      have HW : Hid (IntKind.u64.wrap V = V) := by show IntKind.u64.wrap V = V; rw [IntKind.wrap_u64]; omega
      go_wp2_with (go_at_call 76; refine (H.out).mono ?_; rintro e w1 ⟨E, w0, rfl, hE, hb0, hw1⟩; obtain ⟨hu1, hown1, hbel1, hs1⟩ := set_step (block_kept hu hb0) (own_kept hown hb0) (below_step hbel hb0) hw1; clear hw1)
      have hcp1 : w1.cell? ⟨w.heap.size, 0, none⟩ = some (.int .u32 V) := cell_of_one hu1
      have HT1 : Hid (Pow w1.drew) := Lib.tabBelow_of_tabIs HT.out w1.drew hbel1.drew
      rcases hE with ⟨hB, rfl⟩ | ⟨hB, te, ve, rfl⟩
      all_goals
        have HB := Lib.hid hB
        clear hB
        go_region_held3 (fun w' => w'.cell? ⟨w.heap.size, 0, none⟩ = some (.int .u32 V)) (first | assumption | (rw [hgrow.cell_far _ (by simp; omega) (Ne.symm hne)]; assumption) | go_keep)
          (first
            | (go_at_call 77; refine (stringU_uint32 _ V HI.out _ ?_ HT1.out).mono ?_; (assumption); rintro e w3 ⟨rfl, hb3⟩; replace hb3 : Below w1.heap.size w1 w3 := ((Below.refl w1.heap.size w1).drew).trans hb3; have hcp3 := cell_kept hb3 hcp1; have hu3 := block_kept hu1 hb3; have hown3 := own_kept hown1 hb3; have hbel3 := below_step hbel1 hb3; have hs3 := lt_of_block hu3; have hne := own_ne hown3 (Nat.lt_succ_self _))
            | (refine step_append_lies _ (by rfl) _ _ _ (by rfl) (w.heap.size + 1) 61 i0 _ 3 32 Tryd.underlying58 hi hz0 hz1 hz2 rfl (by omega) _ k _ (by rfl) (hown3.alloc _) ⟨w3.heap.size, 0, none⟩ 1 1 [.bool _, .int .u64 _, .string (saidU V)] (by rfl) (by rfl) (World.news_of_block (cs := #[.bool _, .int .u64 _, .string (saidU V)]) (t := 61) (fr := (0, 0)) (heap_alloc_new w3 _)) (by simp [Value.oneCell']) (by omega) (by unfold maxLen; omega) (by omega) (by simp; omega) (w3.heap.size + 1) (by simp) ?_; intro gg cap w2 hown2 hgrow hat hlt2))
        have hbw : Below w.heap.size w w2 := (hbel3.alloc (by omega) _).grown hgrow (by simp; omega) (fun b hb => by have := (hown3.lt b hb).1; omega)
        have huw : w2.heap[w.heap.size]? = some (.cells #[.int .u32 V] 121 (0, 0)) := by
          rw [hgrow.block w.heap.size (by simp; omega) (Ne.symm hne)]
          show (w3.alloc _).heap[w.heap.size]? = _
          rw [Below.heap_alloc w3 _ _ hs3]; exact hu3
        have hown4 : w2.ownsRow (w.heap.size + 1) 61 3 (.slice (some ⟨gg, 0, none⟩) (k + 1) cap) (k + 1) (flat (uCells 4294967295) xs (k + 1)) := by
          rw [flat_succ hlt, HP.out, HB.out]; (try rw [HW.out] at hown2); exact hown2
        clear hown2
        go_wp2
        go_roundw
        case rel => exact ⟨k + 1, by omega, by go_num, hown4, ⟨_, huw⟩, hbw⟩
        case measure => simp [intOf]; omega
    · have HK : Hid (k = xs.length) := by show k = _; omega
      have hown1 : wr.ownsRow (w.heap.size + 1) 61 3 u7 xs.length (flat (uCells 4294967295) xs xs.length) := by have e := HK.out; rw [e] at hown; exact hown
      clear hown
      obtain ⟨A', c, rfl, hrow⟩ := own_row hown1
      go_wp2
      go_ret
      exact ⟨A', c, rfl, hrow, hbel⟩


set_option maxRecDepth 400000 in
set_option maxHeartbeats 3200000 in
theorem uintValue_uint64 (d : Int) (A : Option Addr) (cap : Nat) (xs : List ByteArray) (w : World) (hx : StrsAt w A xs) (hm : xs.length ≤ 2147483647) (hs : ∀ j, j < xs.length → (tx xs j).size ≤ 2147483647) (he1 : ErrCell 0 w) (he2 : ErrCell 1 w) (ht : Pow w) (hd1 : 0 ≤ d) (hd2 : d ≤ 18446744073709551615) :
    Calls Tryd.prog 26 #[.int .i64 64, .int .u64 d, .slice A xs.length cap] w fun e w' => ∃ A' c, e = .returned (.slice A' xs.length c) ∧ RowAt w' A' (flat (uCells 18446744073709551615) xs xs.length) ∧ Below w.heap.size w w' := by
  obtain ⟨i0, hi, hz0, hz1, hz2⟩ := info_parts Tryd.infoUS
  have HS := Lib.hid hs
  have E1 := Lib.hid he1
  have E2 := Lib.hid he2
  have HT := Lib.hid ht
  clear hs he1 he2 ht
  go_enter Tryd.func26, Tryd.ntmps26
  go_wp2_with (go_at_call 78; refine (zzU_uint64 _ _ 0 _ (by simp) (by simp)).mono ?_; rintro e w' ⟨rfl, rfl⟩)
  go_loopw [7, 156] (fun v i wr => ∃ k : Nat, k ≤ xs.length ∧ i = .int .i64 k ∧ wr.ownsRow (w.heap.size + 1) 61 3 v k (flat (uCells 18446744073709551615) xs k) ∧ (∃ u : Int, wr.heap[w.heap.size]? = some (.cells #[.int .u64 u] 22 (0, 0))) ∧ Below w.heap.size w wr) (fun _ i _ => xs.length - (intOf i).toNat)
  case atStart => exact ⟨0, Nat.zero_le _, rfl, World.ownsRow_nil _ _ _ _, ⟨_, heap_alloc_new w _⟩, (Below.refl _ _).alloc (Nat.le_refl _) _⟩
  case round =>
    obtain ⟨k, hk, rfl, hown, ⟨u, hu⟩, hbel⟩ := hrel
    by_cases hlt : k < xs.length
    · obtain ⟨ba, oa, rfl, hc0⟩ := hx k hlt
      have hc := cell_kept hbel hc0
      have hcp : wr.cell? ⟨w.heap.size, 0, none⟩ = some (.int .u64 u) := cell_of_one hu
      have hfp : wr.frozen? ⟨w.heap.size, 0, none⟩ = false := free_of_one hu
      have hsz : (tx xs k).size ≤ 281474976710656 := by have := HS.out k hlt; omega
      have H := Lib.hid (setU_uint64 ⟨w.heap.size, 0, none⟩ (tx xs k) u wr hcp hfp hsz (E1.out.below hbel) (E2.out.below hbel))
      have hi12 : gotU 18446744073709551615 (uP 18446744073709551615 (tx xs k)) ≤ 18446744073709551615 := gotU_le _
      have HP : Hid (uCells 18446744073709551615 (tx xs k) = [.bool (badU (uP 18446744073709551615 (tx xs k))), .int .u64 (gotU 18446744073709551615 (uP 18446744073709551615 (tx xs k))), .string (saidU (gotU 18446744073709551615 (uP 18446744073709551615 (tx xs k))))]) := rfl
      generalize badU (uP 18446744073709551615 (tx xs k)) = BB at H HP
      generalize gotU 18446744073709551615 (uP 18446744073709551615 (tx xs k)) = V at H hi12 HP
      clear hcp hfp
      have j1 : (0 : Int) ≤ (V : Int) := Int.natCast_nonneg _
      have j2 : (V : Int) ≤ 18446744073709551615 := by omega
      have HI := Lib.hid hi12
      clear hi12
      have HW : Hid (IntKind.u64.wrap V = V) := by show IntKind.u64.wrap V = V; rw [IntKind.wrap_u64]; omega
      go_wp2_with (go_at_call 79; refine (H.out).mono ?_; rintro e w1 ⟨E, w0, rfl, hE, hb0, hw1⟩; obtain ⟨hu1, hown1, hbel1, hs1⟩ := set_step (block_kept hu hb0) (own_kept hown hb0) (below_step hbel hb0) hw1; clear hw1)
      have hcp1 : w1.cell? ⟨w.heap.size, 0, none⟩ = some (.int .u64 V) := cell_of_one hu1
      have HT1 : Hid (Pow w1.drew) := Lib.tabBelow_of_tabIs HT.out w1.drew hbel1.drew
      rcases hE with ⟨hB, rfl⟩ | ⟨hB, te, ve, rfl⟩
      all_goals
        have HB := Lib.hid hB
        clear hB
        go_region_held3 (fun w' => w'.cell? ⟨w.heap.size, 0, none⟩ = some (.int .u64 V)) (first | assumption | (rw [hgrow.cell_far _ (by simp; omega) (Ne.symm hne)]; assumption) | go_keep)
          (first
            | (go_at_call 80; refine (stringU_uint64 _ V HI.out _ ?_ HT1.out).mono ?_; (assumption); rintro e w3 ⟨rfl, hb3⟩; replace hb3 : Below w1.heap.size w1 w3 := ((Below.refl w1.heap.size w1).drew).trans hb3; have hcp3 := cell_kept hb3 hcp1; have hu3 := block_kept hu1 hb3; have hown3 := own_kept hown1 hb3; have hbel3 := below_step hbel1 hb3; have hs3 := lt_of_block hu3; have hne := own_ne hown3 (Nat.lt_succ_self _))
            | (refine step_append_lies _ (by rfl) _ _ _ (by rfl) (w.heap.size + 1) 61 i0 _ 3 32 Tryd.underlying58 hi hz0 hz1 hz2 rfl (by omega) _ k _ (by rfl) (hown3.alloc _) ⟨w3.heap.size, 0, none⟩ 1 1 [.bool _, .int .u64 _, .string (saidU V)] (by rfl) (by rfl) (World.news_of_block (cs := #[.bool _, .int .u64 _, .string (saidU V)]) (t := 61) (fr := (0, 0)) (heap_alloc_new w3 _)) (by simp [Value.oneCell']) (by omega) (by unfold maxLen; omega) (by omega) (by simp; omega) (w3.heap.size + 1) (by simp) ?_; intro gg cap w2 hown2 hgrow hat hlt2))
        have hbw : Below w.heap.size w w2 := (hbel3.alloc (by omega) _).grown hgrow (by simp; omega) (fun b hb => by have := (hown3.lt b hb).1; omega)
        have huw : w2.heap[w.heap.size]? = some (.cells #[.int .u64 V] 22 (0, 0)) := by
          rw [hgrow.block w.heap.size (by simp; omega) (Ne.symm hne)]
          show (w3.alloc _).heap[w.heap.size]? = _
          rw [Below.heap_alloc w3 _ _ hs3]; exact hu3
        have hown4 : w2.ownsRow (w.heap.size + 1) 61 3 (.slice (some ⟨gg, 0, none⟩) (k + 1) cap) (k + 1) (flat (uCells 18446744073709551615) xs (k + 1)) := by
          rw [flat_succ hlt, HP.out, HB.out]; (try rw [HW.out] at hown2); exact hown2
        clear hown2
        go_wp2
        go_roundw
        case rel => exact ⟨k + 1, by omega, by go_num, hown4, ⟨_, huw⟩, hbw⟩
        case measure => simp [intOf]; omega
    · have HK : Hid (k = xs.length) := by show k = _; omega
      have hown1 : wr.ownsRow (w.heap.size + 1) 61 3 u7 xs.length (flat (uCells 18446744073709551615) xs xs.length) := by have e := HK.out; rw [e] at hown; exact hown
      clear hown
      obtain ⟨A', c, rfl, hrow⟩ := own_row hown1
      go_wp2
      go_ret
      exact ⟨A', c, rfl, hrow, hbel⟩

end Go.Proofs.YtoofmiafcaipmaaDoor.E
