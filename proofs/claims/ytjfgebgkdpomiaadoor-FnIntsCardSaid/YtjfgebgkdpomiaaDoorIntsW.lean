/- The walk of laws.integers29 of plain texts, over this seat's program. Written by gen_intsw.py. -/
import Derived.Test.YtjfgebgkdpomiaaDoorHeard
namespace Go.Proofs.YtjfgebgkdpomiaaDoor.E
open Go.RowKit Go.Proofs
open Go.Lib (NumEnd)
set_option linter.unusedVariables false
set_option linter.unusedSimpArgs false

theorem piE_ok {M C : Nat} {s : ByteArray} {v : Int} (hC : C ≤ M) (h : wholeP C s.data.toList = some v) : badV (intP M C s) = false ∧ gotV (intP M C s) = v := by
  unfold intP
  rw [whole_pi hC _ h]
  exact ⟨rfl, rfl⟩
theorem wholeP_in {C : Nat} (hC : 0 < C) {l : List UInt8} {v : Int} (h : wholeP C l = some v) : -(C : Int) ≤ v ∧ v < C := by
  have := whole_pi (M := C) (Nat.le_refl _) l h
  cases l with
  | nil => cases h
  | cons c r =>
    simp only [wholeP] at h
    split at h
    · cases hn : natP r with
      | none => rw [hn] at h; cases h
      | some n => rw [hn] at h; simp only [minusP] at h; split at h <;> (cases h; try omega)
    · cases hn : natP (c :: r) with
      | none => rw [hn] at h; cases h
      | some n => rw [hn] at h; simp only [plusP] at h; split at h <;> (cases h; try omega)


set_option maxRecDepth 400000 in
set_option maxHeartbeats 3200000 in
theorem integers_int (d : Int) (A : Option Addr) (cap : Nat) (xs : List ByteArray) (w : World) (hx : StrsAt w A xs) (hm : xs.length ≤ 2147483647) (hs : ∀ j, j < xs.length → (tx xs j).size ≤ 2147483647) (he1 : ErrCell 0 w) (he2 : ErrCell 1 w) (ht : Pow w) (hd1 : -9223372036854775808 ≤ d) (hd2 : d < 9223372036854775808) :
    Calls Tryd.prog 26 #[.int .i64 0, .int .i64 d, .slice A xs.length cap, .bool false] w fun e w' => e = .returned (.bool true) ∧ Below w.heap.size w w' := by
  have H := fun w (hx : StrsAt w A xs) he1 he2 ht => Lib.hid (intValue_int d A cap xs w hx hm hs he1 he2 ht (by omega) (by omega))
  have HV := Lib.hid (H w hx he1 he2 ht).out
  have HS := Lib.hid hs
  clear H hs he1 he2 ht
  go_enter Tryd.func26, Tryd.ntmps26
  go_wp2_with (first
    | (go_at_call 27; refine (width_int _).mono ?_; rintro e w1 ⟨rfl, rfl⟩)
    | (go_at_call 28; refine (holds_64 _ _).mono ?_; rintro e w1 ⟨rfl, rfl⟩)
    | (go_at_call 24; refine (HV.out).mono ?_; rintro e w1 ⟨A', c, rfl, hrow, hbel⟩))
  go_loopw [36] (fun i wr => ∃ k : Nat, k ≤ xs.length ∧ i = .int .i64 k ∧ Below w1.heap.size w1 wr) (fun i _ => xs.length - (intOf i).toNat)
  case atStart => exact ⟨0, Nat.zero_le _, rfl, Below.refl _ _⟩
  case round =>
    obtain ⟨k, hk, rfl, hb2⟩ := hrel
    by_cases hlt : k < xs.length
    · obtain ⟨ba, oa, rfl, hc0⟩ := hx k hlt
      have s0 := flat_at (intCells_len 18446744073709551615 9223372036854775808) hlt (j := 0) (by omega)
      have s1 := flat_at (intCells_len 18446744073709551615 9223372036854775808) hlt (j := 1) (by omega)
      have s2 := flat_at (intCells_len 18446744073709551615 9223372036854775808) hlt (j := 2) (by omega)
      obtain ⟨g, rfl, c0, c1, c2⟩ := row3 hrow s0 s1 s2
      have d0 : wr.cell? ⟨g, k * 3, none⟩ = some (.bool (badV (intP 18446744073709551615 9223372036854775808 (tx xs k)))) := cell_kept hb2 c0
      have d1 : wr.cell? ⟨g, k * 3 + 1, none⟩ = some (.int .i64 (gotV (intP 18446744073709551615 9223372036854775808 (tx xs k)))) := cell_kept hb2 c1
      have d2 : wr.cell? ⟨g, k * 3 + 2, none⟩ = some (.string (said (gotV (intP 18446744073709551615 9223372036854775808 (tx xs k))))) := cell_kept hb2 c2
      have hc := cell_kept (below_step hbel hb2) hc0
      have hc' : ∀ o, (wr.alloc o).cell? ⟨ba, oa + k, none⟩ = some (.string (tx xs k)) := fun o => cell_kept ((Below.refl _ _).alloc (Nat.le_refl _) o) hc
      have i0 : (0 : Int) ≤ (k : Int) := Int.natCast_nonneg _
      have i1 : (k : Int) < (xs.length : Int) := by omega
      have hsz : (tx xs k).size ≤ 9223372036854775806 := by have := HS.out k hlt; omega
      clear c0 c1 c2 s0 s1 s2 hc0
      have HT := fun w => Lib.hid (whole_of 64 63 9223372036854775808 (by omega) (tx xs k) hsz w)
      have hin := fun v => wholeP_in (C := 9223372036854775808) (by omega) (l := (tx xs k).data.toList) (v := v)
      have hok := fun v => piE_ok (M := 18446744073709551615) (C := 9223372036854775808) (s := tx xs k) (v := v) (by omega)
      generalize wholeP 9223372036854775808 (tx xs k).data.toList = q at HT hin hok
      generalize intP 18446744073709551615 9223372036854775808 (tx xs k) = P at d0 d1 d2 hok
      clear hsz
      cases q with
      | some v =>
        obtain ⟨f1, f2⟩ := hok v rfl
        rw [f1] at d0
        rw [f2] at d1 d2
        obtain ⟨v0, v1⟩ := hin v rfl
        have v2 : -9223372036854775808 ≤ v := by omega
        have v3 : v ≤ 9223372036854775807 := by omega
        simp only [wholeRes] at HT
        clear f1 f2 hin hok v0 v1
        go_wp2_with (go_at_call 18; refine ((HT _).out).mono ?_; rintro e w2 ⟨rfl, hb3⟩; have hb4 : Below w1.heap.size w1 w2 := (hb2.alloc hb2.size _).trans (hb3.mono (by have := hb2.size; simp; omega)))
        have q0 : w2.cell? ⟨wr.heap.size, 0, none⟩ = some (.bool false) := cell_kept hb3 (cell_of_row _ _ 0 _ _ _ (heap_alloc_new wr _))
        have q1 : w2.cell? ⟨wr.heap.size, 1, none⟩ = some (.int .i64 v) := cell_kept hb3 (cell_of_row _ _ 1 _ _ _ (heap_alloc_new wr _))
        have q2 : w2.cell? ⟨wr.heap.size, 2, none⟩ = some (.string (said v)) := cell_kept hb3 (cell_of_row _ _ 2 _ _ _ (heap_alloc_new wr _))
        clear d0 d1 d2 hc hc' hb3 HT
        go_region_held3 (fun w' => w'.cell? ⟨wr.heap.size, 0, none⟩ = some (.bool false) ∧ w'.cell? ⟨wr.heap.size, 1, none⟩ = some (.int .i64 v) ∧ w'.cell? ⟨wr.heap.size, 2, none⟩ = some (.string (said v))) (first | (exact ⟨by assumption, by assumption, by assumption⟩) | go_keep)
          (first
            | (go_at_call 39; refine (heard_fits _).mono ?_; rintro e w' ⟨rfl, rfl⟩)
            | (go_at_call 25; refine (numeral_any v v2 v3 _).mono ?_; rintro e w3 ⟨rfl, hb5⟩; have r0 := cell_kept hb5 q0; have r1 := cell_kept hb5 q1; have r2 := cell_kept hb5 q2))
        go_wp2
        go_roundw
        case rel => exact ⟨k + 1, by omega, by go_num, hb4.trans (((Below.refl _ _).drew.trans hb5).mono hb4.size)⟩
        case measure => simp [intOf]; omega
      | none =>
        simp only [wholeRes] at HT
        clear hin hok
        go_wp2_with (go_at_call 18; refine ((HT _).out).mono ?_; rintro e w2 ⟨rfl, hb3⟩; have hb4 : Below w1.heap.size w1 w2 := (hb2.alloc hb2.size _).trans (hb3.mono (by have := hb2.size; simp; omega)))
        have q0 : w2.cell? ⟨wr.heap.size, 0, none⟩ = some (.bool (badV P)) := cell_kept hb3 (cell_of_row _ _ 0 _ _ _ (heap_alloc_new wr _))
        have q1 : w2.cell? ⟨wr.heap.size, 1, none⟩ = some (.int .i64 (gotV P)) := cell_kept hb3 (cell_of_row _ _ 1 _ _ _ (heap_alloc_new wr _))
        have q2 : w2.cell? ⟨wr.heap.size, 2, none⟩ = some (.string (said (gotV P))) := cell_kept hb3 (cell_of_row _ _ 2 _ _ _ (heap_alloc_new wr _))
        clear d0 d1 d2 hc hc' HT hb3
        go_quiet ((go_at_call 39; exact Calls.quiet_of_same ((heard_open _ _).mono fun _ _ h => ⟨h.1, h.2.symm⟩)))
        go_wp2
        go_roundw
        case rel => exact ⟨k + 1, by omega, by go_num, bdrew hb4 _⟩
        case measure => simp [intOf]; omega
    · go_wp2
      go_ret
      exact ⟨rfl, below_step hbel hb2⟩


set_option maxRecDepth 400000 in
set_option maxHeartbeats 3200000 in
theorem integers_int8 (d : Int) (A : Option Addr) (cap : Nat) (xs : List ByteArray) (w : World) (hx : StrsAt w A xs) (hm : xs.length ≤ 2147483647) (hs : ∀ j, j < xs.length → (tx xs j).size ≤ 2147483647) (he1 : ErrCell 0 w) (he2 : ErrCell 1 w) (ht : Pow w) (hd1 : -128 ≤ d) (hd2 : d < 128) :
    Calls Tryd.prog 26 #[.int .i64 1, .int .i64 d, .slice A xs.length cap, .bool false] w fun e w' => e = .returned (.bool true) ∧ Below w.heap.size w w' := by
  have H := fun w (hx : StrsAt w A xs) he1 he2 ht => Lib.hid (intValue_int8 d A cap xs w hx hm hs he1 he2 ht (by omega) (by omega))
  have HV := Lib.hid (H w hx he1 he2 ht).out
  have HS := Lib.hid hs
  clear H hs he1 he2 ht
  go_enter Tryd.func26, Tryd.ntmps26
  go_wp2_with (first
    | (go_at_call 27; refine (width_int8 _).mono ?_; rintro e w1 ⟨rfl, rfl⟩)
    | (go_at_call 28; refine (holds_8_yes _ hd1 hd2 _).mono ?_; rintro e w1 ⟨rfl, rfl⟩)
    | (go_at_call 24; refine (HV.out).mono ?_; rintro e w1 ⟨A', c, rfl, hrow, hbel⟩))
  go_loopw [36] (fun i wr => ∃ k : Nat, k ≤ xs.length ∧ i = .int .i64 k ∧ Below w1.heap.size w1 wr) (fun i _ => xs.length - (intOf i).toNat)
  case atStart => exact ⟨0, Nat.zero_le _, rfl, Below.refl _ _⟩
  case round =>
    obtain ⟨k, hk, rfl, hb2⟩ := hrel
    by_cases hlt : k < xs.length
    · obtain ⟨ba, oa, rfl, hc0⟩ := hx k hlt
      have s0 := flat_at (intCells_len 255 128) hlt (j := 0) (by omega)
      have s1 := flat_at (intCells_len 255 128) hlt (j := 1) (by omega)
      have s2 := flat_at (intCells_len 255 128) hlt (j := 2) (by omega)
      obtain ⟨g, rfl, c0, c1, c2⟩ := row3 hrow s0 s1 s2
      have d0 : wr.cell? ⟨g, k * 3, none⟩ = some (.bool (badV (intP 255 128 (tx xs k)))) := cell_kept hb2 c0
      have d1 : wr.cell? ⟨g, k * 3 + 1, none⟩ = some (.int .i64 (gotV (intP 255 128 (tx xs k)))) := cell_kept hb2 c1
      have d2 : wr.cell? ⟨g, k * 3 + 2, none⟩ = some (.string (said (gotV (intP 255 128 (tx xs k))))) := cell_kept hb2 c2
      have hc := cell_kept (below_step hbel hb2) hc0
      have hc' : ∀ o, (wr.alloc o).cell? ⟨ba, oa + k, none⟩ = some (.string (tx xs k)) := fun o => cell_kept ((Below.refl _ _).alloc (Nat.le_refl _) o) hc
      have i0 : (0 : Int) ≤ (k : Int) := Int.natCast_nonneg _
      have i1 : (k : Int) < (xs.length : Int) := by omega
      have hsz : (tx xs k).size ≤ 9223372036854775806 := by have := HS.out k hlt; omega
      clear c0 c1 c2 s0 s1 s2 hc0
      have HT := fun w => Lib.hid (whole_of 8 7 128 (by omega) (tx xs k) hsz w)
      have hin := fun v => wholeP_in (C := 128) (by omega) (l := (tx xs k).data.toList) (v := v)
      have hok := fun v => piE_ok (M := 255) (C := 128) (s := tx xs k) (v := v) (by omega)
      generalize wholeP 128 (tx xs k).data.toList = q at HT hin hok
      generalize intP 255 128 (tx xs k) = P at d0 d1 d2 hok
      clear hsz
      cases q with
      | some v =>
        obtain ⟨f1, f2⟩ := hok v rfl
        rw [f1] at d0
        rw [f2] at d1 d2
        obtain ⟨v0, v1⟩ := hin v rfl
        have v2 : -9223372036854775808 ≤ v := by omega
        have v3 : v ≤ 9223372036854775807 := by omega
        simp only [wholeRes] at HT
        clear f1 f2 hin hok v0 v1
        go_wp2_with (go_at_call 18; refine ((HT _).out).mono ?_; rintro e w2 ⟨rfl, hb3⟩; have hb4 : Below w1.heap.size w1 w2 := (hb2.alloc hb2.size _).trans (hb3.mono (by have := hb2.size; simp; omega)))
        have q0 : w2.cell? ⟨wr.heap.size, 0, none⟩ = some (.bool false) := cell_kept hb3 (cell_of_row _ _ 0 _ _ _ (heap_alloc_new wr _))
        have q1 : w2.cell? ⟨wr.heap.size, 1, none⟩ = some (.int .i64 v) := cell_kept hb3 (cell_of_row _ _ 1 _ _ _ (heap_alloc_new wr _))
        have q2 : w2.cell? ⟨wr.heap.size, 2, none⟩ = some (.string (said v)) := cell_kept hb3 (cell_of_row _ _ 2 _ _ _ (heap_alloc_new wr _))
        clear d0 d1 d2 hc hc' hb3 HT
        go_region_held3 (fun w' => w'.cell? ⟨wr.heap.size, 0, none⟩ = some (.bool false) ∧ w'.cell? ⟨wr.heap.size, 1, none⟩ = some (.int .i64 v) ∧ w'.cell? ⟨wr.heap.size, 2, none⟩ = some (.string (said v))) (first | (exact ⟨by assumption, by assumption, by assumption⟩) | go_keep)
          (first
            | (go_at_call 39; refine (heard_fits _).mono ?_; rintro e w' ⟨rfl, rfl⟩)
            | (go_at_call 25; refine (numeral_any v v2 v3 _).mono ?_; rintro e w3 ⟨rfl, hb5⟩; have r0 := cell_kept hb5 q0; have r1 := cell_kept hb5 q1; have r2 := cell_kept hb5 q2))
        go_wp2
        go_roundw
        case rel => exact ⟨k + 1, by omega, by go_num, hb4.trans (((Below.refl _ _).drew.trans hb5).mono hb4.size)⟩
        case measure => simp [intOf]; omega
      | none =>
        simp only [wholeRes] at HT
        clear hin hok
        go_wp2_with (go_at_call 18; refine ((HT _).out).mono ?_; rintro e w2 ⟨rfl, hb3⟩; have hb4 : Below w1.heap.size w1 w2 := (hb2.alloc hb2.size _).trans (hb3.mono (by have := hb2.size; simp; omega)))
        have q0 : w2.cell? ⟨wr.heap.size, 0, none⟩ = some (.bool (badV P)) := cell_kept hb3 (cell_of_row _ _ 0 _ _ _ (heap_alloc_new wr _))
        have q1 : w2.cell? ⟨wr.heap.size, 1, none⟩ = some (.int .i64 (gotV P)) := cell_kept hb3 (cell_of_row _ _ 1 _ _ _ (heap_alloc_new wr _))
        have q2 : w2.cell? ⟨wr.heap.size, 2, none⟩ = some (.string (said (gotV P))) := cell_kept hb3 (cell_of_row _ _ 2 _ _ _ (heap_alloc_new wr _))
        clear d0 d1 d2 hc hc' HT hb3
        go_quiet ((go_at_call 39; exact Calls.quiet_of_same ((heard_open _ _).mono fun _ _ h => ⟨h.1, h.2.symm⟩)))
        go_wp2
        go_roundw
        case rel => exact ⟨k + 1, by omega, by go_num, bdrew hb4 _⟩
        case measure => simp [intOf]; omega
    · go_wp2
      go_ret
      exact ⟨rfl, below_step hbel hb2⟩


set_option maxRecDepth 400000 in
set_option maxHeartbeats 3200000 in
theorem integers_int16 (d : Int) (A : Option Addr) (cap : Nat) (xs : List ByteArray) (w : World) (hx : StrsAt w A xs) (hm : xs.length ≤ 2147483647) (hs : ∀ j, j < xs.length → (tx xs j).size ≤ 2147483647) (he1 : ErrCell 0 w) (he2 : ErrCell 1 w) (ht : Pow w) (hd1 : -32768 ≤ d) (hd2 : d < 32768) :
    Calls Tryd.prog 26 #[.int .i64 2, .int .i64 d, .slice A xs.length cap, .bool false] w fun e w' => e = .returned (.bool true) ∧ Below w.heap.size w w' := by
  have H := fun w (hx : StrsAt w A xs) he1 he2 ht => Lib.hid (intValue_int16 d A cap xs w hx hm hs he1 he2 ht (by omega) (by omega))
  have HV := Lib.hid (H w hx he1 he2 ht).out
  have HS := Lib.hid hs
  clear H hs he1 he2 ht
  go_enter Tryd.func26, Tryd.ntmps26
  go_wp2_with (first
    | (go_at_call 27; refine (width_int16 _).mono ?_; rintro e w1 ⟨rfl, rfl⟩)
    | (go_at_call 28; refine (holds_16_yes _ hd1 hd2 _).mono ?_; rintro e w1 ⟨rfl, rfl⟩)
    | (go_at_call 24; refine (HV.out).mono ?_; rintro e w1 ⟨A', c, rfl, hrow, hbel⟩))
  go_loopw [36] (fun i wr => ∃ k : Nat, k ≤ xs.length ∧ i = .int .i64 k ∧ Below w1.heap.size w1 wr) (fun i _ => xs.length - (intOf i).toNat)
  case atStart => exact ⟨0, Nat.zero_le _, rfl, Below.refl _ _⟩
  case round =>
    obtain ⟨k, hk, rfl, hb2⟩ := hrel
    by_cases hlt : k < xs.length
    · obtain ⟨ba, oa, rfl, hc0⟩ := hx k hlt
      have s0 := flat_at (intCells_len 65535 32768) hlt (j := 0) (by omega)
      have s1 := flat_at (intCells_len 65535 32768) hlt (j := 1) (by omega)
      have s2 := flat_at (intCells_len 65535 32768) hlt (j := 2) (by omega)
      obtain ⟨g, rfl, c0, c1, c2⟩ := row3 hrow s0 s1 s2
      have d0 : wr.cell? ⟨g, k * 3, none⟩ = some (.bool (badV (intP 65535 32768 (tx xs k)))) := cell_kept hb2 c0
      have d1 : wr.cell? ⟨g, k * 3 + 1, none⟩ = some (.int .i64 (gotV (intP 65535 32768 (tx xs k)))) := cell_kept hb2 c1
      have d2 : wr.cell? ⟨g, k * 3 + 2, none⟩ = some (.string (said (gotV (intP 65535 32768 (tx xs k))))) := cell_kept hb2 c2
      have hc := cell_kept (below_step hbel hb2) hc0
      have hc' : ∀ o, (wr.alloc o).cell? ⟨ba, oa + k, none⟩ = some (.string (tx xs k)) := fun o => cell_kept ((Below.refl _ _).alloc (Nat.le_refl _) o) hc
      have i0 : (0 : Int) ≤ (k : Int) := Int.natCast_nonneg _
      have i1 : (k : Int) < (xs.length : Int) := by omega
      have hsz : (tx xs k).size ≤ 9223372036854775806 := by have := HS.out k hlt; omega
      clear c0 c1 c2 s0 s1 s2 hc0
      have HT := fun w => Lib.hid (whole_of 16 15 32768 (by omega) (tx xs k) hsz w)
      have hin := fun v => wholeP_in (C := 32768) (by omega) (l := (tx xs k).data.toList) (v := v)
      have hok := fun v => piE_ok (M := 65535) (C := 32768) (s := tx xs k) (v := v) (by omega)
      generalize wholeP 32768 (tx xs k).data.toList = q at HT hin hok
      generalize intP 65535 32768 (tx xs k) = P at d0 d1 d2 hok
      clear hsz
      cases q with
      | some v =>
        obtain ⟨f1, f2⟩ := hok v rfl
        rw [f1] at d0
        rw [f2] at d1 d2
        obtain ⟨v0, v1⟩ := hin v rfl
        have v2 : -9223372036854775808 ≤ v := by omega
        have v3 : v ≤ 9223372036854775807 := by omega
        simp only [wholeRes] at HT
        clear f1 f2 hin hok v0 v1
        go_wp2_with (go_at_call 18; refine ((HT _).out).mono ?_; rintro e w2 ⟨rfl, hb3⟩; have hb4 : Below w1.heap.size w1 w2 := (hb2.alloc hb2.size _).trans (hb3.mono (by have := hb2.size; simp; omega)))
        have q0 : w2.cell? ⟨wr.heap.size, 0, none⟩ = some (.bool false) := cell_kept hb3 (cell_of_row _ _ 0 _ _ _ (heap_alloc_new wr _))
        have q1 : w2.cell? ⟨wr.heap.size, 1, none⟩ = some (.int .i64 v) := cell_kept hb3 (cell_of_row _ _ 1 _ _ _ (heap_alloc_new wr _))
        have q2 : w2.cell? ⟨wr.heap.size, 2, none⟩ = some (.string (said v)) := cell_kept hb3 (cell_of_row _ _ 2 _ _ _ (heap_alloc_new wr _))
        clear d0 d1 d2 hc hc' hb3 HT
        go_region_held3 (fun w' => w'.cell? ⟨wr.heap.size, 0, none⟩ = some (.bool false) ∧ w'.cell? ⟨wr.heap.size, 1, none⟩ = some (.int .i64 v) ∧ w'.cell? ⟨wr.heap.size, 2, none⟩ = some (.string (said v))) (first | (exact ⟨by assumption, by assumption, by assumption⟩) | go_keep)
          (first
            | (go_at_call 39; refine (heard_fits _).mono ?_; rintro e w' ⟨rfl, rfl⟩)
            | (go_at_call 25; refine (numeral_any v v2 v3 _).mono ?_; rintro e w3 ⟨rfl, hb5⟩; have r0 := cell_kept hb5 q0; have r1 := cell_kept hb5 q1; have r2 := cell_kept hb5 q2))
        go_wp2
        go_roundw
        case rel => exact ⟨k + 1, by omega, by go_num, hb4.trans (((Below.refl _ _).drew.trans hb5).mono hb4.size)⟩
        case measure => simp [intOf]; omega
      | none =>
        simp only [wholeRes] at HT
        clear hin hok
        go_wp2_with (go_at_call 18; refine ((HT _).out).mono ?_; rintro e w2 ⟨rfl, hb3⟩; have hb4 : Below w1.heap.size w1 w2 := (hb2.alloc hb2.size _).trans (hb3.mono (by have := hb2.size; simp; omega)))
        have q0 : w2.cell? ⟨wr.heap.size, 0, none⟩ = some (.bool (badV P)) := cell_kept hb3 (cell_of_row _ _ 0 _ _ _ (heap_alloc_new wr _))
        have q1 : w2.cell? ⟨wr.heap.size, 1, none⟩ = some (.int .i64 (gotV P)) := cell_kept hb3 (cell_of_row _ _ 1 _ _ _ (heap_alloc_new wr _))
        have q2 : w2.cell? ⟨wr.heap.size, 2, none⟩ = some (.string (said (gotV P))) := cell_kept hb3 (cell_of_row _ _ 2 _ _ _ (heap_alloc_new wr _))
        clear d0 d1 d2 hc hc' HT hb3
        go_quiet ((go_at_call 39; exact Calls.quiet_of_same ((heard_open _ _).mono fun _ _ h => ⟨h.1, h.2.symm⟩)))
        go_wp2
        go_roundw
        case rel => exact ⟨k + 1, by omega, by go_num, bdrew hb4 _⟩
        case measure => simp [intOf]; omega
    · go_wp2
      go_ret
      exact ⟨rfl, below_step hbel hb2⟩


set_option maxRecDepth 400000 in
set_option maxHeartbeats 3200000 in
theorem integers_int32 (d : Int) (A : Option Addr) (cap : Nat) (xs : List ByteArray) (w : World) (hx : StrsAt w A xs) (hm : xs.length ≤ 2147483647) (hs : ∀ j, j < xs.length → (tx xs j).size ≤ 2147483647) (he1 : ErrCell 0 w) (he2 : ErrCell 1 w) (ht : Pow w) (hd1 : -2147483648 ≤ d) (hd2 : d < 2147483648) :
    Calls Tryd.prog 26 #[.int .i64 3, .int .i64 d, .slice A xs.length cap, .bool false] w fun e w' => e = .returned (.bool true) ∧ Below w.heap.size w w' := by
  have H := fun w (hx : StrsAt w A xs) he1 he2 ht => Lib.hid (intValue_int32 d A cap xs w hx hm hs he1 he2 ht (by omega) (by omega))
  have HV := Lib.hid (H w hx he1 he2 ht).out
  have HS := Lib.hid hs
  clear H hs he1 he2 ht
  go_enter Tryd.func26, Tryd.ntmps26
  go_wp2_with (first
    | (go_at_call 27; refine (width_int32 _).mono ?_; rintro e w1 ⟨rfl, rfl⟩)
    | (go_at_call 28; refine (holds_32_yes _ hd1 hd2 _).mono ?_; rintro e w1 ⟨rfl, rfl⟩)
    | (go_at_call 24; refine (HV.out).mono ?_; rintro e w1 ⟨A', c, rfl, hrow, hbel⟩))
  go_loopw [36] (fun i wr => ∃ k : Nat, k ≤ xs.length ∧ i = .int .i64 k ∧ Below w1.heap.size w1 wr) (fun i _ => xs.length - (intOf i).toNat)
  case atStart => exact ⟨0, Nat.zero_le _, rfl, Below.refl _ _⟩
  case round =>
    obtain ⟨k, hk, rfl, hb2⟩ := hrel
    by_cases hlt : k < xs.length
    · obtain ⟨ba, oa, rfl, hc0⟩ := hx k hlt
      have s0 := flat_at (intCells_len 4294967295 2147483648) hlt (j := 0) (by omega)
      have s1 := flat_at (intCells_len 4294967295 2147483648) hlt (j := 1) (by omega)
      have s2 := flat_at (intCells_len 4294967295 2147483648) hlt (j := 2) (by omega)
      obtain ⟨g, rfl, c0, c1, c2⟩ := row3 hrow s0 s1 s2
      have d0 : wr.cell? ⟨g, k * 3, none⟩ = some (.bool (badV (intP 4294967295 2147483648 (tx xs k)))) := cell_kept hb2 c0
      have d1 : wr.cell? ⟨g, k * 3 + 1, none⟩ = some (.int .i64 (gotV (intP 4294967295 2147483648 (tx xs k)))) := cell_kept hb2 c1
      have d2 : wr.cell? ⟨g, k * 3 + 2, none⟩ = some (.string (said (gotV (intP 4294967295 2147483648 (tx xs k))))) := cell_kept hb2 c2
      have hc := cell_kept (below_step hbel hb2) hc0
      have hc' : ∀ o, (wr.alloc o).cell? ⟨ba, oa + k, none⟩ = some (.string (tx xs k)) := fun o => cell_kept ((Below.refl _ _).alloc (Nat.le_refl _) o) hc
      have i0 : (0 : Int) ≤ (k : Int) := Int.natCast_nonneg _
      have i1 : (k : Int) < (xs.length : Int) := by omega
      have hsz : (tx xs k).size ≤ 9223372036854775806 := by have := HS.out k hlt; omega
      clear c0 c1 c2 s0 s1 s2 hc0
      have HT := fun w => Lib.hid (whole_of 32 31 2147483648 (by omega) (tx xs k) hsz w)
      have hin := fun v => wholeP_in (C := 2147483648) (by omega) (l := (tx xs k).data.toList) (v := v)
      have hok := fun v => piE_ok (M := 4294967295) (C := 2147483648) (s := tx xs k) (v := v) (by omega)
      generalize wholeP 2147483648 (tx xs k).data.toList = q at HT hin hok
      generalize intP 4294967295 2147483648 (tx xs k) = P at d0 d1 d2 hok
      clear hsz
      cases q with
      | some v =>
        obtain ⟨f1, f2⟩ := hok v rfl
        rw [f1] at d0
        rw [f2] at d1 d2
        obtain ⟨v0, v1⟩ := hin v rfl
        have v2 : -9223372036854775808 ≤ v := by omega
        have v3 : v ≤ 9223372036854775807 := by omega
        simp only [wholeRes] at HT
        clear f1 f2 hin hok v0 v1
        go_wp2_with (go_at_call 18; refine ((HT _).out).mono ?_; rintro e w2 ⟨rfl, hb3⟩; have hb4 : Below w1.heap.size w1 w2 := (hb2.alloc hb2.size _).trans (hb3.mono (by have := hb2.size; simp; omega)))
        have q0 : w2.cell? ⟨wr.heap.size, 0, none⟩ = some (.bool false) := cell_kept hb3 (cell_of_row _ _ 0 _ _ _ (heap_alloc_new wr _))
        have q1 : w2.cell? ⟨wr.heap.size, 1, none⟩ = some (.int .i64 v) := cell_kept hb3 (cell_of_row _ _ 1 _ _ _ (heap_alloc_new wr _))
        have q2 : w2.cell? ⟨wr.heap.size, 2, none⟩ = some (.string (said v)) := cell_kept hb3 (cell_of_row _ _ 2 _ _ _ (heap_alloc_new wr _))
        clear d0 d1 d2 hc hc' hb3 HT
        go_region_held3 (fun w' => w'.cell? ⟨wr.heap.size, 0, none⟩ = some (.bool false) ∧ w'.cell? ⟨wr.heap.size, 1, none⟩ = some (.int .i64 v) ∧ w'.cell? ⟨wr.heap.size, 2, none⟩ = some (.string (said v))) (first | (exact ⟨by assumption, by assumption, by assumption⟩) | go_keep)
          (first
            | (go_at_call 39; refine (heard_fits _).mono ?_; rintro e w' ⟨rfl, rfl⟩)
            | (go_at_call 25; refine (numeral_any v v2 v3 _).mono ?_; rintro e w3 ⟨rfl, hb5⟩; have r0 := cell_kept hb5 q0; have r1 := cell_kept hb5 q1; have r2 := cell_kept hb5 q2))
        go_wp2
        go_roundw
        case rel => exact ⟨k + 1, by omega, by go_num, hb4.trans (((Below.refl _ _).drew.trans hb5).mono hb4.size)⟩
        case measure => simp [intOf]; omega
      | none =>
        simp only [wholeRes] at HT
        clear hin hok
        go_wp2_with (go_at_call 18; refine ((HT _).out).mono ?_; rintro e w2 ⟨rfl, hb3⟩; have hb4 : Below w1.heap.size w1 w2 := (hb2.alloc hb2.size _).trans (hb3.mono (by have := hb2.size; simp; omega)))
        have q0 : w2.cell? ⟨wr.heap.size, 0, none⟩ = some (.bool (badV P)) := cell_kept hb3 (cell_of_row _ _ 0 _ _ _ (heap_alloc_new wr _))
        have q1 : w2.cell? ⟨wr.heap.size, 1, none⟩ = some (.int .i64 (gotV P)) := cell_kept hb3 (cell_of_row _ _ 1 _ _ _ (heap_alloc_new wr _))
        have q2 : w2.cell? ⟨wr.heap.size, 2, none⟩ = some (.string (said (gotV P))) := cell_kept hb3 (cell_of_row _ _ 2 _ _ _ (heap_alloc_new wr _))
        clear d0 d1 d2 hc hc' HT hb3
        go_quiet ((go_at_call 39; exact Calls.quiet_of_same ((heard_open _ _).mono fun _ _ h => ⟨h.1, h.2.symm⟩)))
        go_wp2
        go_roundw
        case rel => exact ⟨k + 1, by omega, by go_num, bdrew hb4 _⟩
        case measure => simp [intOf]; omega
    · go_wp2
      go_ret
      exact ⟨rfl, below_step hbel hb2⟩


set_option maxRecDepth 400000 in
set_option maxHeartbeats 3200000 in
theorem integers_int64 (d : Int) (A : Option Addr) (cap : Nat) (xs : List ByteArray) (w : World) (hx : StrsAt w A xs) (hm : xs.length ≤ 2147483647) (hs : ∀ j, j < xs.length → (tx xs j).size ≤ 2147483647) (he1 : ErrCell 0 w) (he2 : ErrCell 1 w) (ht : Pow w) (hd1 : -9223372036854775808 ≤ d) (hd2 : d < 9223372036854775808) :
    Calls Tryd.prog 26 #[.int .i64 4, .int .i64 d, .slice A xs.length cap, .bool false] w fun e w' => e = .returned (.bool true) ∧ Below w.heap.size w w' := by
  have H := fun w (hx : StrsAt w A xs) he1 he2 ht => Lib.hid (intValue_int64 d A cap xs w hx hm hs he1 he2 ht (by omega) (by omega))
  have HV := Lib.hid (H w hx he1 he2 ht).out
  have HS := Lib.hid hs
  clear H hs he1 he2 ht
  go_enter Tryd.func26, Tryd.ntmps26
  go_wp2_with (first
    | (go_at_call 27; refine (width_int64 _).mono ?_; rintro e w1 ⟨rfl, rfl⟩)
    | (go_at_call 28; refine (holds_64 _ _).mono ?_; rintro e w1 ⟨rfl, rfl⟩)
    | (go_at_call 24; refine (HV.out).mono ?_; rintro e w1 ⟨A', c, rfl, hrow, hbel⟩))
  go_loopw [36] (fun i wr => ∃ k : Nat, k ≤ xs.length ∧ i = .int .i64 k ∧ Below w1.heap.size w1 wr) (fun i _ => xs.length - (intOf i).toNat)
  case atStart => exact ⟨0, Nat.zero_le _, rfl, Below.refl _ _⟩
  case round =>
    obtain ⟨k, hk, rfl, hb2⟩ := hrel
    by_cases hlt : k < xs.length
    · obtain ⟨ba, oa, rfl, hc0⟩ := hx k hlt
      have s0 := flat_at (intCells_len 18446744073709551615 9223372036854775808) hlt (j := 0) (by omega)
      have s1 := flat_at (intCells_len 18446744073709551615 9223372036854775808) hlt (j := 1) (by omega)
      have s2 := flat_at (intCells_len 18446744073709551615 9223372036854775808) hlt (j := 2) (by omega)
      obtain ⟨g, rfl, c0, c1, c2⟩ := row3 hrow s0 s1 s2
      have d0 : wr.cell? ⟨g, k * 3, none⟩ = some (.bool (badV (intP 18446744073709551615 9223372036854775808 (tx xs k)))) := cell_kept hb2 c0
      have d1 : wr.cell? ⟨g, k * 3 + 1, none⟩ = some (.int .i64 (gotV (intP 18446744073709551615 9223372036854775808 (tx xs k)))) := cell_kept hb2 c1
      have d2 : wr.cell? ⟨g, k * 3 + 2, none⟩ = some (.string (said (gotV (intP 18446744073709551615 9223372036854775808 (tx xs k))))) := cell_kept hb2 c2
      have hc := cell_kept (below_step hbel hb2) hc0
      have hc' : ∀ o, (wr.alloc o).cell? ⟨ba, oa + k, none⟩ = some (.string (tx xs k)) := fun o => cell_kept ((Below.refl _ _).alloc (Nat.le_refl _) o) hc
      have i0 : (0 : Int) ≤ (k : Int) := Int.natCast_nonneg _
      have i1 : (k : Int) < (xs.length : Int) := by omega
      have hsz : (tx xs k).size ≤ 9223372036854775806 := by have := HS.out k hlt; omega
      clear c0 c1 c2 s0 s1 s2 hc0
      have HT := fun w => Lib.hid (whole_of 64 63 9223372036854775808 (by omega) (tx xs k) hsz w)
      have hin := fun v => wholeP_in (C := 9223372036854775808) (by omega) (l := (tx xs k).data.toList) (v := v)
      have hok := fun v => piE_ok (M := 18446744073709551615) (C := 9223372036854775808) (s := tx xs k) (v := v) (by omega)
      generalize wholeP 9223372036854775808 (tx xs k).data.toList = q at HT hin hok
      generalize intP 18446744073709551615 9223372036854775808 (tx xs k) = P at d0 d1 d2 hok
      clear hsz
      cases q with
      | some v =>
        obtain ⟨f1, f2⟩ := hok v rfl
        rw [f1] at d0
        rw [f2] at d1 d2
        obtain ⟨v0, v1⟩ := hin v rfl
        have v2 : -9223372036854775808 ≤ v := by omega
        have v3 : v ≤ 9223372036854775807 := by omega
        simp only [wholeRes] at HT
        clear f1 f2 hin hok v0 v1
        go_wp2_with (go_at_call 18; refine ((HT _).out).mono ?_; rintro e w2 ⟨rfl, hb3⟩; have hb4 : Below w1.heap.size w1 w2 := (hb2.alloc hb2.size _).trans (hb3.mono (by have := hb2.size; simp; omega)))
        have q0 : w2.cell? ⟨wr.heap.size, 0, none⟩ = some (.bool false) := cell_kept hb3 (cell_of_row _ _ 0 _ _ _ (heap_alloc_new wr _))
        have q1 : w2.cell? ⟨wr.heap.size, 1, none⟩ = some (.int .i64 v) := cell_kept hb3 (cell_of_row _ _ 1 _ _ _ (heap_alloc_new wr _))
        have q2 : w2.cell? ⟨wr.heap.size, 2, none⟩ = some (.string (said v)) := cell_kept hb3 (cell_of_row _ _ 2 _ _ _ (heap_alloc_new wr _))
        clear d0 d1 d2 hc hc' hb3 HT
        go_region_held3 (fun w' => w'.cell? ⟨wr.heap.size, 0, none⟩ = some (.bool false) ∧ w'.cell? ⟨wr.heap.size, 1, none⟩ = some (.int .i64 v) ∧ w'.cell? ⟨wr.heap.size, 2, none⟩ = some (.string (said v))) (first | (exact ⟨by assumption, by assumption, by assumption⟩) | go_keep)
          (first
            | (go_at_call 39; refine (heard_fits _).mono ?_; rintro e w' ⟨rfl, rfl⟩)
            | (go_at_call 25; refine (numeral_any v v2 v3 _).mono ?_; rintro e w3 ⟨rfl, hb5⟩; have r0 := cell_kept hb5 q0; have r1 := cell_kept hb5 q1; have r2 := cell_kept hb5 q2))
        go_wp2
        go_roundw
        case rel => exact ⟨k + 1, by omega, by go_num, hb4.trans (((Below.refl _ _).drew.trans hb5).mono hb4.size)⟩
        case measure => simp [intOf]; omega
      | none =>
        simp only [wholeRes] at HT
        clear hin hok
        go_wp2_with (go_at_call 18; refine ((HT _).out).mono ?_; rintro e w2 ⟨rfl, hb3⟩; have hb4 : Below w1.heap.size w1 w2 := (hb2.alloc hb2.size _).trans (hb3.mono (by have := hb2.size; simp; omega)))
        have q0 : w2.cell? ⟨wr.heap.size, 0, none⟩ = some (.bool (badV P)) := cell_kept hb3 (cell_of_row _ _ 0 _ _ _ (heap_alloc_new wr _))
        have q1 : w2.cell? ⟨wr.heap.size, 1, none⟩ = some (.int .i64 (gotV P)) := cell_kept hb3 (cell_of_row _ _ 1 _ _ _ (heap_alloc_new wr _))
        have q2 : w2.cell? ⟨wr.heap.size, 2, none⟩ = some (.string (said (gotV P))) := cell_kept hb3 (cell_of_row _ _ 2 _ _ _ (heap_alloc_new wr _))
        clear d0 d1 d2 hc hc' HT hb3
        go_quiet ((go_at_call 39; exact Calls.quiet_of_same ((heard_open _ _).mono fun _ _ h => ⟨h.1, h.2.symm⟩)))
        go_wp2
        go_roundw
        case rel => exact ⟨k + 1, by omega, by go_num, bdrew hb4 _⟩
        case measure => simp [intOf]; omega
    · go_wp2
      go_ret
      exact ⟨rfl, below_step hbel hb2⟩

end Go.Proofs.YtjfgebgkdpomiaaDoor.E
