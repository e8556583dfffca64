/- The walk of laws.naturals29 of any texts, over this seat's program. Written by gen_naturalsw.py. -/
import Derived.Test.YtoofmiafcaipmaaDoorNatural
import Derived.Test.YtoofmiafcaipmaaDoorUintLoop
import Derived.Test.YtoofmiafcaipmaaDoorFits2
namespace Go.Proofs.YtoofmiafcaipmaaDoor.E
open Go.RowKit Go.Proofs
open Go.Lib (NumEnd)
set_option linter.unusedVariables false
set_option linter.unusedSimpArgs false

theorem heardN_fits (w : World) : Calls Tryd.prog 28 #[.int .i64 1, .bool false] w fun e w' => e = .returned (.bool true) ∧ w = w' := by
  go_enter Tryd.func28, Tryd.ntmps28
  go_wp2
  go_ret
  exact ⟨rfl, rfl⟩
theorem heardN_wrong (w : World) : Calls Tryd.prog 28 #[.int .i64 2, .bool true] w fun e w' => e = .returned (.bool true) ∧ w = w' := by
  go_enter Tryd.func28, Tryd.ntmps28
  go_wp2
  go_ret
  exact ⟨rfl, rfl⟩
theorem numeralN_any (n : Nat) (h1 : n ≤ 18446744073709551615) (w : World) :
    Calls Tryd.prog 29 #[.int .u64 n] w fun e w' => e = .returned (.string (saidU n)) ∧ Below w.heap.size w w' :=
  PSignedNumeral.spec_Numeral.calls 20 n (saidU n) w (numeral_at 19 n (by omega) h1)

set_option maxRecDepth 400000 in
set_option maxHeartbeats 3200000 in
theorem naturals_uint (d : Int) (A : Option Addr) (cap : Nat) (xs : List ByteArray) (w : World) (hx : StrsAt w A xs) (hm : xs.length ≤ 2147483647) (hs : ∀ j, j < xs.length → (tx xs j).size ≤ 2147483647) (he1 : ErrCell 0 w) (he2 : ErrCell 1 w) (ht : Pow w) (hd1 : 0 ≤ d) (hd2 : d ≤ 18446744073709551615) :
    Calls Tryd.prog 8 #[.int .i64 0, .int .u64 d, .slice A xs.length cap, .bool true] w fun e w' => e = .returned (.bool true) ∧ Below w.heap.size w w' := by
  have H := fun w (hx : StrsAt w A xs) he1 he2 ht => Lib.hid (uintValue_uint d A cap xs w hx hm hs he1 he2 ht hd1 hd2)
  have HV := Lib.hid (H w hx he1 he2 ht).out
  have HS := Lib.hid hs
  clear H hs he1 he2 ht
  go_enter Tryd.func8, Tryd.ntmps8
  go_wp2_with (go_at_call 26; refine (HV.out).mono ?_; rintro e w1 ⟨A', c, rfl, hrow, hbel⟩)
  go_loopw [60] (fun i wr => ∃ k : Nat, k ≤ xs.length ∧ i = .int .i64 k ∧ Below w1.heap.size w1 wr) (fun i _ => xs.length - (intOf i).toNat)
  case atStart => exact ⟨0, Nat.zero_le _, rfl, Below.refl _ _⟩
  case round =>
    obtain ⟨k, hk, rfl, hb2⟩ := hrel
    by_cases hlt : k < xs.length
    · obtain ⟨ba, oa, rfl, hc0⟩ := hx k hlt
      have s0 := flat_at (uCells_len 18446744073709551615) hlt (j := 0) (by omega)
      have s1 := flat_at (uCells_len 18446744073709551615) hlt (j := 1) (by omega)
      have s2 := flat_at (uCells_len 18446744073709551615) hlt (j := 2) (by omega)
      obtain ⟨g, rfl, c0, c1, c2⟩ := row3 hrow s0 s1 s2
      have d0 : wr.cell? ⟨g, k * 3, none⟩ = some (.bool (badU (uP 18446744073709551615 (tx xs k)))) := cell_kept hb2 c0
      have d1 : wr.cell? ⟨g, k * 3 + 1, none⟩ = some (.int .u64 (gotU 18446744073709551615 (uP 18446744073709551615 (tx xs k)))) := cell_kept hb2 c1
      have d2 : wr.cell? ⟨g, k * 3 + 2, none⟩ = some (.string (saidU (gotU 18446744073709551615 (uP 18446744073709551615 (tx xs k))))) := cell_kept hb2 c2
      have hc := cell_kept (below_step hbel hb2) hc0
      have hc' : ∀ o, (wr.alloc o).cell? ⟨ba, oa + k, none⟩ = some (.string (tx xs k)) := fun o => cell_kept ((Below.refl _ _).alloc (Nat.le_refl _) o) hc
      have i0 : (0 : Int) ≤ (k : Int) := Int.natCast_nonneg _
      have i1 : (k : Int) < (xs.length : Int) := by omega
      have hsz : (tx xs k).size ≤ 2147483647 := HS.out k hlt
      clear c0 c1 c2 s0 s1 s2 hc0
      have HT := fun w => Lib.hid (natural_all64 (tx xs k) hsz w)
      have hin := fun n => natA_le (M := 18446744073709551615) (l := (tx xs k).data.toList) (n := n)
      obtain ⟨hok, hno⟩ := natA_uP 18446744073709551615 (tx xs k)
      generalize natA 18446744073709551615 (tx xs k).data.toList = q at HT hin hok hno
      generalize uP 18446744073709551615 (tx xs k) = P at d0 d1 d2 hok hno
      clear hsz
      cases q with
      | some v =>
        obtain ⟨f1, f2⟩ := hok v rfl
        rw [f1] at d0
        rw [f2] at d1 d2
        have v1 := hin v rfl
        have HV1 : Hid (v ≤ 18446744073709551615) := by show v ≤ _; omega
        have v2 : (v : Int) ≤ 18446744073709551615 := by omega
        have v3 : (0 : Int) ≤ (v : Int) := Int.natCast_nonneg _
        simp only [dRes] at HT
        clear f1 f2 hin hok hno v1
        go_wp2_with (go_at_call 27; refine ((HT _).out).mono ?_; rintro e w2 ⟨rfl, hb3⟩; have hb4 : Below w1.heap.size w1 w2 := (hb2.alloc hb2.size _).trans (hb3.mono (by have := hb2.size; simp; omega)))
        have q0 : w2.cell? ⟨wr.heap.size, 0, none⟩ = some (.bool false) := cell_kept hb3 (cell_of_row _ _ 0 _ _ _ (heap_alloc_new wr _))
        have q1 : w2.cell? ⟨wr.heap.size, 1, none⟩ = some (.int .u64 v) := cell_kept hb3 (cell_of_row _ _ 1 _ _ _ (heap_alloc_new wr _))
        have q2 : w2.cell? ⟨wr.heap.size, 2, none⟩ = some (.string (saidU v)) := cell_kept hb3 (cell_of_row _ _ 2 _ _ _ (heap_alloc_new wr _))
        clear d0 d1 d2 hc hc' hb3 HT
        go_region_held3 (fun w' => w'.cell? ⟨wr.heap.size, 0, none⟩ = some (.bool false) ∧ w'.cell? ⟨wr.heap.size, 1, none⟩ = some (.int .u64 v) ∧ w'.cell? ⟨wr.heap.size, 2, none⟩ = some (.string (saidU v))) (first | (exact ⟨by assumption, by assumption, by assumption⟩) | go_keep)
          (first
            | (go_at_call 28; refine (heardN_fits _).mono ?_; rintro e w' ⟨rfl, rfl⟩)
            | (go_at_call 29; refine (numeralN_any v HV1.out _).mono ?_; rintro e w3 ⟨rfl, hb5⟩; have r0 := cell_kept hb5 q0; have r1 := cell_kept hb5 q1; have r2 := cell_kept hb5 q2))
        go_wp2
        go_roundw
        case rel => exact ⟨k + 1, by omega, by go_num, hb4.trans (((Below.refl _ _).drew.trans hb5).mono hb4.size)⟩
        case measure => simp [intOf]; omega
      | none =>
        simp only [dRes] at HT
        have f1 := hno rfl
        rw [f1] at d0
        clear hin hok hno f1
        go_wp2_with (go_at_call 27; refine ((HT _).out).mono ?_; rintro e w2 ⟨rfl, hb3⟩; have hb4 : Below w1.heap.size w1 w2 := (hb2.alloc hb2.size _).trans (hb3.mono (by have := hb2.size; simp; omega)))
        have q0 : w2.cell? ⟨wr.heap.size, 0, none⟩ = some (.bool true) := cell_kept hb3 (cell_of_row _ _ 0 _ _ _ (heap_alloc_new wr _))
        have q1 : w2.cell? ⟨wr.heap.size, 1, none⟩ = some (.int .u64 (gotU 18446744073709551615 P)) := cell_kept hb3 (cell_of_row _ _ 1 _ _ _ (heap_alloc_new wr _))
        have q2 : w2.cell? ⟨wr.heap.size, 2, none⟩ = some (.string (saidU (gotU 18446744073709551615 P))) := cell_kept hb3 (cell_of_row _ _ 2 _ _ _ (heap_alloc_new wr _))
        clear d0 d1 d2 hc hc' HT hb3
        go_quiet ((go_at_call 28; exact Calls.quiet_of_same ((heardN_wrong _).mono fun _ _ h => ⟨h.1, h.2.symm⟩)))
        go_wp2
        go_roundw
        case rel => exact ⟨k + 1, by omega, by go_num, bdrew hb4 _⟩
        case measure => simp [intOf]; omega
    · go_wp2
      go_ret
      exact ⟨rfl, below_step hbel hb2⟩

set_option maxRecDepth 400000 in
set_option maxHeartbeats 3200000 in
theorem naturals_uint8 (d : Int) (A : Option Addr) (cap : Nat) (xs : List ByteArray) (w : World) (hx : StrsAt w A xs) (hm : xs.length ≤ 2147483647) (hs : ∀ j, j < xs.length → (tx xs j).size ≤ 2147483647) (he1 : ErrCell 0 w) (he2 : ErrCell 1 w) (ht : Pow w) (hd1 : 0 ≤ d) (hd2 : d ≤ 255) :
    Calls Tryd.prog 8 #[.int .i64 8, .int .u64 d, .slice A xs.length cap, .bool true] w fun e w' => e = .returned (.bool true) ∧ Below w.heap.size w w' := by
  have H := fun w (hx : StrsAt w A xs) he1 he2 ht => Lib.hid (uintValue_uint8 d A cap xs w hx hm hs he1 he2 ht hd1 hd2)
  have HV := Lib.hid (H w hx he1 he2 ht).out
  have HS := Lib.hid hs
  clear H hs he1 he2 ht
  go_enter Tryd.func8, Tryd.ntmps8
  go_wp2_with (go_at_call 26; refine (HV.out).mono ?_; rintro e w1 ⟨A', c, rfl, hrow, hbel⟩)
  go_loopw [60] (fun i wr => ∃ k : Nat, k ≤ xs.length ∧ i = .int .i64 k ∧ Below w1.heap.size w1 wr) (fun i _ => xs.length - (intOf i).toNat)
  case atStart => exact ⟨0, Nat.zero_le _, rfl, Below.refl _ _⟩
  case round =>
    obtain ⟨k, hk, rfl, hb2⟩ := hrel
    by_cases hlt : k < xs.length
    · obtain ⟨ba, oa, rfl, hc0⟩ := hx k hlt
      have s0 := flat_at (uCells_len 255) hlt (j := 0) (by omega)
      have s1 := flat_at (uCells_len 255) hlt (j := 1) (by omega)
      have s2 := flat_at (uCells_len 255) hlt (j := 2) (by omega)
      obtain ⟨g, rfl, c0, c1, c2⟩ := row3 hrow s0 s1 s2
      have d0 : wr.cell? ⟨g, k * 3, none⟩ = some (.bool (badU (uP 255 (tx xs k)))) := cell_kept hb2 c0
      have d1 : wr.cell? ⟨g, k * 3 + 1, none⟩ = some (.int .u64 (gotU 255 (uP 255 (tx xs k)))) := cell_kept hb2 c1
      have d2 : wr.cell? ⟨g, k * 3 + 2, none⟩ = some (.string (saidU (gotU 255 (uP 255 (tx xs k))))) := cell_kept hb2 c2
      have hc := cell_kept (below_step hbel hb2) hc0
      have hc' : ∀ o, (wr.alloc o).cell? ⟨ba, oa + k, none⟩ = some (.string (tx xs k)) := fun o => cell_kept ((Below.refl _ _).alloc (Nat.le_refl _) o) hc
      have i0 : (0 : Int) ≤ (k : Int) := Int.natCast_nonneg _
      have i1 : (k : Int) < (xs.length : Int) := by omega
      have hsz : (tx xs k).size ≤ 2147483647 := HS.out k hlt
      clear c0 c1 c2 s0 s1 s2 hc0
      have HT := fun w => Lib.hid (natural_all8 (tx xs k) hsz w)
      have hin := fun n => natA_le (M := 255) (l := (tx xs k).data.toList) (n := n)
      obtain ⟨hok, hno⟩ := natA_uP 255 (tx xs k)
      generalize natA 255 (tx xs k).data.toList = q at HT hin hok hno
      generalize uP 255 (tx xs k) = P at d0 d1 d2 hok hno
      clear hsz
      cases q with
      | some v =>
        obtain ⟨f1, f2⟩ := hok v rfl
        rw [f1] at d0
        rw [f2] at d1 d2
        have v1 := hin v rfl
        have HV1 : Hid (v ≤ 18446744073709551615) := by show v ≤ _; omega
        have v2 : (v : Int) ≤ 255 := by omega
        have v3 : (0 : Int) ≤ (v : Int) := Int.natCast_nonneg _
        simp only [dRes] at HT
        clear f1 f2 hin hok hno v1
        go_wp2_with (go_at_call 27; refine ((HT _).out).mono ?_; rintro e w2 ⟨rfl, hb3⟩; have hb4 : Below w1.heap.size w1 w2 := (hb2.alloc hb2.size _).trans (hb3.mono (by have := hb2.size; simp; omega)))
        have q0 : w2.cell? ⟨wr.heap.size, 0, none⟩ = some (.bool false) := cell_kept hb3 (cell_of_row _ _ 0 _ _ _ (heap_alloc_new wr _))
        have q1 : w2.cell? ⟨wr.heap.size, 1, none⟩ = some (.int .u64 v) := cell_kept hb3 (cell_of_row _ _ 1 _ _ _ (heap_alloc_new wr _))
        have q2 : w2.cell? ⟨wr.heap.size, 2, none⟩ = some (.string (saidU v)) := cell_kept hb3 (cell_of_row _ _ 2 _ _ _ (heap_alloc_new wr _))
        clear d0 d1 d2 hc hc' hb3 HT
        go_region_held3 (fun w' => w'.cell? ⟨wr.heap.size, 0, none⟩ = some (.bool false) ∧ w'.cell? ⟨wr.heap.size, 1, none⟩ = some (.int .u64 v) ∧ w'.cell? ⟨wr.heap.size, 2, none⟩ = some (.string (saidU v))) (first | (exact ⟨by assumption, by assumption, by assumption⟩) | go_keep)
          (first
            | (go_at_call 28; refine (heardN_fits _).mono ?_; rintro e w' ⟨rfl, rfl⟩)
            | (go_at_call 29; refine (numeralN_any v HV1.out _).mono ?_; rintro e w3 ⟨rfl, hb5⟩; have r0 := cell_kept hb5 q0; have r1 := cell_kept hb5 q1; have r2 := cell_kept hb5 q2))
        go_wp2
        go_roundw
        case rel => exact ⟨k + 1, by omega, by go_num, hb4.trans (((Below.refl _ _).drew.trans hb5).mono hb4.size)⟩
        case measure => simp [intOf]; omega
      | none =>
        simp only [dRes] at HT
        have f1 := hno rfl
        rw [f1] at d0
        clear hin hok hno f1
        go_wp2_with (go_at_call 27; refine ((HT _).out).mono ?_; rintro e w2 ⟨rfl, hb3⟩; have hb4 : Below w1.heap.size w1 w2 := (hb2.alloc hb2.size _).trans (hb3.mono (by have := hb2.size; simp; omega)))
        have q0 : w2.cell? ⟨wr.heap.size, 0, none⟩ = some (.bool true) := cell_kept hb3 (cell_of_row _ _ 0 _ _ _ (heap_alloc_new wr _))
        have q1 : w2.cell? ⟨wr.heap.size, 1, none⟩ = some (.int .u64 (gotU 255 P)) := cell_kept hb3 (cell_of_row _ _ 1 _ _ _ (heap_alloc_new wr _))
        have q2 : w2.cell? ⟨wr.heap.size, 2, none⟩ = some (.string (saidU (gotU 255 P))) := cell_kept hb3 (cell_of_row _ _ 2 _ _ _ (heap_alloc_new wr _))
        clear d0 d1 d2 hc hc' HT hb3
        go_quiet ((go_at_call 28; exact Calls.quiet_of_same ((heardN_wrong _).mono fun _ _ h => ⟨h.1, h.2.symm⟩)))
        go_wp2
        go_roundw
        case rel => exact ⟨k + 1, by omega, by go_num, bdrew hb4 _⟩
        case measure => simp [intOf]; omega
    · go_wp2
      go_ret
      exact ⟨rfl, below_step hbel hb2⟩

set_option maxRecDepth 400000 in
set_option maxHeartbeats 3200000 in
theorem naturals_uint16 (d : Int) (A : Option Addr) (cap : Nat) (xs : List ByteArray) (w : World) (hx : StrsAt w A xs) (hm : xs.length ≤ 2147483647) (hs : ∀ j, j < xs.length → (tx xs j).size ≤ 2147483647) (he1 : ErrCell 0 w) (he2 : ErrCell 1 w) (ht : Pow w) (hd1 : 0 ≤ d) (hd2 : d ≤ 65535) :
    Calls Tryd.prog 8 #[.int .i64 16, .int .u64 d, .slice A xs.length cap, .bool true] w fun e w' => e = .returned (.bool true) ∧ Below w.heap.size w w' := by
  have H := fun w (hx : StrsAt w A xs) he1 he2 ht => Lib.hid (uintValue_uint16 d A cap xs w hx hm hs he1 he2 ht hd1 hd2)
  have HV := Lib.hid (H w hx he1 he2 ht).out
  have HS := Lib.hid hs
  clear H hs he1 he2 ht
  go_enter Tryd.func8, Tryd.ntmps8
  go_wp2_with (go_at_call 26; refine (HV.out).mono ?_; rintro e w1 ⟨A', c, rfl, hrow, hbel⟩)
  go_loopw [60] (fun i wr => ∃ k : Nat, k ≤ xs.length ∧ i = .int .i64 k ∧ Below w1.heap.size w1 wr) (fun i _ => xs.length - (intOf i).toNat)
  case atStart => exact ⟨0, Nat.zero_le _, rfl, Below.refl _ _⟩
  case round =>
    obtain ⟨k, hk, rfl, hb2⟩ := hrel
    by_cases hlt : k < xs.length
    · obtain ⟨ba, oa, rfl, hc0⟩ := hx k hlt
      have s0 := flat_at (uCells_len 65535) hlt (j := 0) (by omega)
      have s1 := flat_at (uCells_len 65535) hlt (j := 1) (by omega)
      have s2 := flat_at (uCells_len 65535) hlt (j := 2) (by omega)
      obtain ⟨g, rfl, c0, c1, c2⟩ := row3 hrow s0 s1 s2
      have d0 : wr.cell? ⟨g, k * 3, none⟩ = some (.bool (badU (uP 65535 (tx xs k)))) := cell_kept hb2 c0
      have d1 : wr.cell? ⟨g, k * 3 + 1, none⟩ = some (.int .u64 (gotU 65535 (uP 65535 (tx xs k)))) := cell_kept hb2 c1
      have d2 : wr.cell? ⟨g, k * 3 + 2, none⟩ = some (.string (saidU (gotU 65535 (uP 65535 (tx xs k))))) := cell_kept hb2 c2
      have hc := cell_kept (below_step hbel hb2) hc0
      have hc' : ∀ o, (wr.alloc o).cell? ⟨ba, oa + k, none⟩ = some (.string (tx xs k)) := fun o => cell_kept ((Below.refl _ _).alloc (Nat.le_refl _) o) hc
      have i0 : (0 : Int) ≤ (k : Int) := Int.natCast_nonneg _
      have i1 : (k : Int) < (xs.length : Int) := by omega
      have hsz : (tx xs k).size ≤ 2147483647 := HS.out k hlt
      clear c0 c1 c2 s0 s1 s2 hc0
      have HT := fun w => Lib.hid (natural_all16 (tx xs k) hsz w)
      have hin := fun n => natA_le (M := 65535) (l := (tx xs k).data.toList) (n := n)
      obtain ⟨hok, hno⟩ := natA_uP 65535 (tx xs k)
      generalize natA 65535 (tx xs k).data.toList = q at HT hin hok hno
      generalize uP 65535 (tx xs k) = P at d0 d1 d2 hok hno
      clear hsz
      cases q with
      | some v =>
        obtain ⟨f1, f2⟩ := hok v rfl
        rw [f1] at d0
        rw [f2] at d1 d2
        have v1 := hin v rfl
        have HV1 : Hid (v ≤ 18446744073709551615) := by show v ≤ _; omega
        have v2 : (v : Int) ≤ 65535 := by omega
        have v3 : (0 : Int) ≤ (v : Int) := Int.natCast_nonneg _
        simp only [dRes] at HT
        clear f1 f2 hin hok hno v1
        go_wp2_with (go_at_call 27; refine ((HT _).out).mono ?_; rintro e w2 ⟨rfl, hb3⟩; have hb4 : Below w1.heap.size w1 w2 := (hb2.alloc hb2.size _).trans (hb3.mono (by have := hb2.size; simp; omega)))
        have q0 : w2.cell? ⟨wr.heap.size, 0, none⟩ = some (.bool false) := cell_kept hb3 (cell_of_row _ _ 0 _ _ _ (heap_alloc_new wr _))
        have q1 : w2.cell? ⟨wr.heap.size, 1, none⟩ = some (.int .u64 v) := cell_kept hb3 (cell_of_row _ _ 1 _ _ _ (heap_alloc_new wr _))
        have q2 : w2.cell? ⟨wr.heap.size, 2, none⟩ = some (.string (saidU v)) := cell_kept hb3 (cell_of_row _ _ 2 _ _ _ (heap_alloc_new wr _))
        clear d0 d1 d2 hc hc' hb3 HT
        go_region_held3 (fun w' => w'.cell? ⟨wr.heap.size, 0, none⟩ = some (.bool false) ∧ w'.cell? ⟨wr.heap.size, 1, none⟩ = some (.int .u64 v) ∧ w'.cell? ⟨wr.heap.size, 2, none⟩ = some (.string (saidU v))) (first | (exact ⟨by assumption, by assumption, by assumption⟩) | go_keep)
          (first
            | (go_at_call 28; refine (heardN_fits _).mono ?_; rintro e w' ⟨rfl, rfl⟩)
            | (go_at_call 29; refine (numeralN_any v HV1.out _).mono ?_; rintro e w3 ⟨rfl, hb5⟩; have r0 := cell_kept hb5 q0; have r1 := cell_kept hb5 q1; have r2 := cell_kept hb5 q2))
        go_wp2
        go_roundw
        case rel => exact ⟨k + 1, by omega, by go_num, hb4.trans (((Below.refl _ _).drew.trans hb5).mono hb4.size)⟩
        case measure => simp [intOf]; omega
      | none =>
        simp only [dRes] at HT
        have f1 := hno rfl
        rw [f1] at d0
        clear hin hok hno f1
        go_wp2_with (go_at_call 27; refine ((HT _).out).mono ?_; rintro e w2 ⟨rfl, hb3⟩; have hb4 : Below w1.heap.size w1 w2 := (hb2.alloc hb2.size _).trans (hb3.mono (by have := hb2.size; simp; omega)))
        have q0 : w2.cell? ⟨wr.heap.size, 0, none⟩ = some (.bool true) := cell_kept hb3 (cell_of_row _ _ 0 _ _ _ (heap_alloc_new wr _))
        have q1 : w2.cell? ⟨wr.heap.size, 1, none⟩ = some (.int .u64 (gotU 65535 P)) := cell_kept hb3 (cell_of_row _ _ 1 _ _ _ (heap_alloc_new wr _))
        have q2 : w2.cell? ⟨wr.heap.size, 2, none⟩ = some (.string (saidU (gotU 65535 P))) := cell_kept hb3 (cell_of_row _ _ 2 _ _ _ (heap_alloc_new wr _))
        clear d0 d1 d2 hc hc' HT hb3
        go_quiet ((go_at_call 28; exact Calls.quiet_of_same ((heardN_wrong _).mono fun _ _ h => ⟨h.1, h.2.symm⟩)))
        go_wp2
        go_roundw
        case rel => exact ⟨k + 1, by omega, by go_num, bdrew hb4 _⟩
        case measure => simp [intOf]; omega
    · go_wp2
      go_ret
      exact ⟨rfl, below_step hbel hb2⟩

set_option maxRecDepth 400000 in
set_option maxHeartbeats 3200000 in
theorem naturals_uint32 (d : Int) (A : Option Addr) (cap : Nat) (xs : List ByteArray) (w : World) (hx : StrsAt w A xs) (hm : xs.length ≤ 2147483647) (hs : ∀ j, j < xs.length → (tx xs j).size ≤ 2147483647) (he1 : ErrCell 0 w) (he2 : ErrCell 1 w) (ht : Pow w) (hd1 : 0 ≤ d) (hd2 : d ≤ 4294967295) :
    Calls Tryd.prog 8 #[.int .i64 32, .int .u64 d, .slice A xs.length cap, .bool true] w fun e w' => e = .returned (.bool true) ∧ Below w.heap.size w w' := by
  have H := fun w (hx : StrsAt w A xs) he1 he2 ht => Lib.hid (uintValue_uint32 d A cap xs w hx hm hs he1 he2 ht hd1 hd2)
  have HV := Lib.hid (H w hx he1 he2 ht).out
  have HS := Lib.hid hs
  clear H hs he1 he2 ht
  go_enter Tryd.func8, Tryd.ntmps8
  go_wp2_with (go_at_call 26; refine (HV.out).mono ?_; rintro e w1 ⟨A', c, rfl, hrow, hbel⟩)
  go_loopw [60] (fun i wr => ∃ k : Nat, k ≤ xs.length ∧ i = .int .i64 k ∧ Below w1.heap.size w1 wr) (fun i _ => xs.length - (intOf i).toNat)
  case atStart => exact ⟨0, Nat.zero_le _, rfl, Below.refl _ _⟩
  case round =>
    obtain ⟨k, hk, rfl, hb2⟩ := hrel
    by_cases hlt : k < xs.length
    · obtain ⟨ba, oa, rfl, hc0⟩ := hx k hlt
      have s0 := flat_at (uCells_len 4294967295) hlt (j := 0) (by omega)
      have s1 := flat_at (uCells_len 4294967295) hlt (j := 1) (by omega)
      have s2 := flat_at (uCells_len 4294967295) hlt (j := 2) (by omega)
      obtain ⟨g, rfl, c0, c1, c2⟩ := row3 hrow s0 s1 s2
      have d0 : wr.cell? ⟨g, k * 3, none⟩ = some (.bool (badU (uP 4294967295 (tx xs k)))) := cell_kept hb2 c0
      have d1 : wr.cell? ⟨g, k * 3 + 1, none⟩ = some (.int .u64 (gotU 4294967295 (uP 4294967295 (tx xs k)))) := cell_kept hb2 c1
      have d2 : wr.cell? ⟨g, k * 3 + 2, none⟩ = some (.string (saidU (gotU 4294967295 (uP 4294967295 (tx xs k))))) := cell_kept hb2 c2
      have hc := cell_kept (below_step hbel hb2) hc0
      have hc' : ∀ o, (wr.alloc o).cell? ⟨ba, oa + k, none⟩ = some (.string (tx xs k)) := fun o => cell_kept ((Below.refl _ _).alloc (Nat.le_refl _) o) hc
      have i0 : (0 : Int) ≤ (k : Int) := Int.natCast_nonneg _
      have i1 : (k : Int) < (xs.length : Int) := by omega
      have hsz : (tx xs k).size ≤ 2147483647 := HS.out k hlt
      clear c0 c1 c2 s0 s1 s2 hc0
      have HT := fun w => Lib.hid (natural_all32 (tx xs k) hsz w)
      have hin := fun n => natA_le (M := 4294967295) (l := (tx xs k).data.toList) (n := n)
      obtain ⟨hok, hno⟩ := natA_uP 4294967295 (tx xs k)
      generalize natA 4294967295 (tx xs k).data.toList = q at HT hin hok hno
      generalize uP 4294967295 (tx xs k) = P at d0 d1 d2 hok hno
      clear hsz
      cases q with
      | some v =>
        obtain ⟨f1, f2⟩ := hok v rfl
        rw [f1] at d0
        rw [f2] at d1 d2
        have v1 := hin v rfl
        have HV1 : Hid (v ≤ 18446744073709551615) := by show v ≤ _; omega
        have v2 : (v : Int) ≤ 4294967295 := by omega
        have v3 : (0 : Int) ≤ (v : Int) := Int.natCast_nonneg _
        simp only [dRes] at HT
        clear f1 f2 hin hok hno v1
        go_wp2_with (go_at_call 27; refine ((HT _).out).mono ?_; rintro e w2 ⟨rfl, hb3⟩; have hb4 : Below w1.heap.size w1 w2 := (hb2.alloc hb2.size _).trans (hb3.mono (by have := hb2.size; simp; omega)))
        have q0 : w2.cell? ⟨wr.heap.size, 0, none⟩ = some (.bool false) := cell_kept hb3 (cell_of_row _ _ 0 _ _ _ (heap_alloc_new wr _))
        have q1 : w2.cell? ⟨wr.heap.size, 1, none⟩ = some (.int .u64 v) := cell_kept hb3 (cell_of_row _ _ 1 _ _ _ (heap_alloc_new wr _))
        have q2 : w2.cell? ⟨wr.heap.size, 2, none⟩ = some (.string (saidU v)) := cell_kept hb3 (cell_of_row _ _ 2 _ _ _ (heap_alloc_new wr _))
        clear d0 d1 d2 hc hc' hb3 HT
        go_region_held3 (fun w' => w'.cell? ⟨wr.heap.size, 0, none⟩ = some (.bool false) ∧ w'.cell? ⟨wr.heap.size, 1, none⟩ = some (.int .u64 v) ∧ w'.cell? ⟨wr.heap.size, 2, none⟩ = some (.string (saidU v))) (first | (exact ⟨by assumption, by assumption, by assumption⟩) | go_keep)
          (first
            | (go_at_call 28; refine (heardN_fits _).mono ?_; rintro e w' ⟨rfl, rfl⟩)
            | (go_at_call 29; refine (numeralN_any v HV1.out _).mono ?_; rintro e w3 ⟨rfl, hb5⟩; have r0 := cell_kept hb5 q0; have r1 := cell_kept hb5 q1; have r2 := cell_kept hb5 q2))
        go_wp2
        go_roundw
        case rel => exact ⟨k + 1, by omega, by go_num, hb4.trans (((Below.refl _ _).drew.trans hb5).mono hb4.size)⟩
        case measure => simp [intOf]; omega
      | none =>
        simp only [dRes] at HT
        have f1 := hno rfl
        rw [f1] at d0
        clear hin hok hno f1
        go_wp2_with (go_at_call 27; refine ((HT _).out).mono ?_; rintro e w2 ⟨rfl, hb3⟩; have hb4 : Below w1.heap.size w1 w2 := (hb2.alloc hb2.size _).trans (hb3.mono (by have := hb2.size; simp; omega)))
        have q0 : w2.cell? ⟨wr.heap.size, 0, none⟩ = some (.bool true) := cell_kept hb3 (cell_of_row _ _ 0 _ _ _ (heap_alloc_new wr _))
        have q1 : w2.cell? ⟨wr.heap.size, 1, none⟩ = some (.int .u64 (gotU 4294967295 P)) := cell_kept hb3 (cell_of_row _ _ 1 _ _ _ (heap_alloc_new wr _))
        have q2 : w2.cell? ⟨wr.heap.size, 2, none⟩ = some (.string (saidU (gotU 4294967295 P))) := cell_kept hb3 (cell_of_row _ _ 2 _ _ _ (heap_alloc_new wr _))
        clear d0 d1 d2 hc hc' HT hb3
        go_quiet ((go_at_call 28; exact Calls.quiet_of_same ((heardN_wrong _).mono fun _ _ h => ⟨h.1, h.2.symm⟩)))
        go_wp2
        go_roundw
        case rel => exact ⟨k + 1, by omega, by go_num, bdrew hb4 _⟩
        case measure => simp [intOf]; omega
    · go_wp2
      go_ret
      exact ⟨rfl, below_step hbel hb2⟩

set_option maxRecDepth 400000 in
set_option maxHeartbeats 3200000 in
theorem naturals_uint64 (d : Int) (A : Option Addr) (cap : Nat) (xs : List ByteArray) (w : World) (hx : StrsAt w A xs) (hm : xs.length ≤ 2147483647) (hs : ∀ j, j < xs.length → (tx xs j).size ≤ 2147483647) (he1 : ErrCell 0 w) (he2 : ErrCell 1 w) (ht : Pow w) (hd1 : 0 ≤ d) (hd2 : d ≤ 18446744073709551615) :
    Calls Tryd.prog 8 #[.int .i64 64, .int .u64 d, .slice A xs.length cap, .bool true] w fun e w' => e = .returned (.bool true) ∧ Below w.heap.size w w' := by
  have H := fun w (hx : StrsAt w A xs) he1 he2 ht => Lib.hid (uintValue_uint64 d A cap xs w hx hm hs he1 he2 ht hd1 hd2)
  have HV := Lib.hid (H w hx he1 he2 ht).out
  have HS := Lib.hid hs
  clear H hs he1 he2 ht
  go_enter Tryd.func8, Tryd.ntmps8
  go_wp2_with (go_at_call 26; refine (HV.out).mono ?_; rintro e w1 ⟨A', c, rfl, hrow, hbel⟩)
  go_loopw [60] (fun i wr => ∃ k : Nat, k ≤ xs.length ∧ i = .int .i64 k ∧ Below w1.heap.size w1 wr) (fun i _ => xs.length - (intOf i).toNat)
  case atStart => exact ⟨0, Nat.zero_le _, rfl, Below.refl _ _⟩
  case round =>
    obtain ⟨k, hk, rfl, hb2⟩ := hrel
    by_cases hlt : k < xs.length
    · obtain ⟨ba, oa, rfl, hc0⟩ := hx k hlt
      have s0 := flat_at (uCells_len 18446744073709551615) hlt (j := 0) (by omega)
      have s1 := flat_at (uCells_len 18446744073709551615) hlt (j := 1) (by omega)
      have s2 := flat_at (uCells_len 18446744073709551615) hlt (j := 2) (by omega)
      obtain ⟨g, rfl, c0, c1, c2⟩ := row3 hrow s0 s1 s2
      have d0 : wr.cell? ⟨g, k * 3, none⟩ = some (.bool (badU (uP 18446744073709551615 (tx xs k)))) := cell_kept hb2 c0
      have d1 : wr.cell? ⟨g, k * 3 + 1, none⟩ = some (.int .u64 (gotU 18446744073709551615 (uP 18446744073709551615 (tx xs k)))) := cell_kept hb2 c1
      have d2 : wr.cell? ⟨g, k * 3 + 2, none⟩ = some (.string (saidU (gotU 18446744073709551615 (uP 18446744073709551615 (tx xs k))))) := cell_kept hb2 c2
      have hc := cell_kept (below_step hbel hb2) hc0
      have hc' : ∀ o, (wr.alloc o).cell? ⟨ba, oa + k, none⟩ = some (.string (tx xs k)) := fun o => cell_kept ((Below.refl _ _).alloc (Nat.le_refl _) o) hc
      have i0 : (0 : Int) ≤ (k : Int) := Int.natCast_nonneg _
      have i1 : (k : Int) < (xs.length : Int) := by omega
      have hsz : (tx xs k).size ≤ 2147483647 := HS.out k hlt
      clear c0 c1 c2 s0 s1 s2 hc0
      have HT := fun w => Lib.hid (natural_all64 (tx xs k) hsz w)
      have hin := fun n => natA_le (M := 18446744073709551615) (l := (tx xs k).data.toList) (n := n)
      obtain ⟨hok, hno⟩ := natA_uP 18446744073709551615 (tx xs k)
      generalize natA 18446744073709551615 (tx xs k).data.toList = q at HT hin hok hno
      generalize uP 18446744073709551615 (tx xs k) = P at d0 d1 d2 hok hno
      clear hsz
      cases q with
      | some v =>
        obtain ⟨f1, f2⟩ := hok v rfl
        rw [f1] at d0
        rw [f2] at d1 d2
        have v1 := hin v rfl
        have HV1 : Hid (v ≤ 18446744073709551615) := by show v ≤ _; omega
        have v2 : (v : Int) ≤ 18446744073709551615 := by omega
        have v3 : (0 : Int) ≤ (v : Int) := Int.natCast_nonneg _
        simp only [dRes] at HT
        clear f1 f2 hin hok hno v1
        go_wp2_with (go_at_call 27; refine ((HT _).out).mono ?_; rintro e w2 ⟨rfl, hb3⟩; have hb4 : Below w1.heap.size w1 w2 := (hb2.alloc hb2.size _).trans (hb3.mono (by have := hb2.size; simp; omega)))
        have q0 : w2.cell? ⟨wr.heap.size, 0, none⟩ = some (.bool false) := cell_kept hb3 (cell_of_row _ _ 0 _ _ _ (heap_alloc_new wr _))
        have q1 : w2.cell? ⟨wr.heap.size, 1, none⟩ = some (.int .u64 v) := cell_kept hb3 (cell_of_row _ _ 1 _ _ _ (heap_alloc_new wr _))
        have q2 : w2.cell? ⟨wr.heap.size, 2, none⟩ = some (.string (saidU v)) := cell_kept hb3 (cell_of_row _ _ 2 _ _ _ (heap_alloc_new wr _))
        clear d0 d1 d2 hc hc' hb3 HT
        go_region_held3 (fun w' => w'.cell? ⟨wr.heap.size, 0, none⟩ = some (.bool false) ∧ w'.cell? ⟨wr.heap.size, 1, none⟩ = some (.int .u64 v) ∧ w'.cell? ⟨wr.heap.size, 2, none⟩ = some (.string (saidU v))) (first | (exact ⟨by assumption, by assumption, by assumption⟩) | go_keep)
          (first
            | (go_at_call 28; refine (heardN_fits _).mono ?_; rintro e w' ⟨rfl, rfl⟩)
            | (go_at_call 29; refine (numeralN_any v HV1.out _).mono ?_; rintro e w3 ⟨rfl, hb5⟩; have r0 := cell_kept hb5 q0; have r1 := cell_kept hb5 q1; have r2 := cell_kept hb5 q2))
        go_wp2
        go_roundw
        case rel => exact ⟨k + 1, by omega, by go_num, hb4.trans (((Below.refl _ _).drew.trans hb5).mono hb4.size)⟩
        case measure => simp [intOf]; omega
      | none =>
        simp only [dRes] at HT
        have f1 := hno rfl
        rw [f1] at d0
        clear hin hok hno f1
        go_wp2_with (go_at_call 27; refine ((HT _).out).mono ?_; rintro e w2 ⟨rfl, hb3⟩; have hb4 : Below w1.heap.size w1 w2 := (hb2.alloc hb2.size _).trans (hb3.mono (by have := hb2.size; simp; omega)))
        have q0 : w2.cell? ⟨wr.heap.size, 0, none⟩ = some (.bool true) := cell_kept hb3 (cell_of_row _ _ 0 _ _ _ (heap_alloc_new wr _))
        have q1 : w2.cell? ⟨wr.heap.size, 1, none⟩ = some (.int .u64 (gotU 18446744073709551615 P)) := cell_kept hb3 (cell_of_row _ _ 1 _ _ _ (heap_alloc_new wr _))
        have q2 : w2.cell? ⟨wr.heap.size, 2, none⟩ = some (.string (saidU (gotU 18446744073709551615 P))) := cell_kept hb3 (cell_of_row _ _ 2 _ _ _ (heap_alloc_new wr _))
        clear d0 d1 d2 hc hc' HT hb3
        go_quiet ((go_at_call 28; exact Calls.quiet_of_same ((heardN_wrong _).mono fun _ _ h => ⟨h.1, h.2.symm⟩)))
        go_wp2
        go_roundw
        case rel => exact ⟨k + 1, by omega, by go_num, bdrew hb4 _⟩
        case measure => simp [intOf]; omega
    · go_wp2
      go_ret
      exact ⟨rfl, below_step hbel hb2⟩
end Go.Proofs.YtoofmiafcaipmaaDoor.E

namespace Go.Proofs.YtoofmiafcaipmaaDoor.E
open Go.RowKit Go.Proofs
set_option linter.unusedVariables false
set_option linter.unusedSimpArgs false

theorem naturals_none (k d : Int) (v : Value) (all : Bool) (h : ¬ k = 0 ∧ ¬ k = 8 ∧ ¬ k = 16 ∧ ¬ k = 32 ∧ ¬ k = 64) (w : World) :
    Calls Tryd.prog 8 #[.int .i64 k, .int .u64 d, v, .bool all] w fun e w' => e = .returned (.bool true) ∧ Below w.heap.size w w' := by
  obtain ⟨h0, h1, h2, h3, h4⟩ := h
  have g0 : (k != 0) = true := by simpa using h0
  have g1 : (k != 8) = true := by simpa using h1
  have g2 : (k != 16) = true := by simpa using h2
  have g3 : (k != 32) = true := by simpa using h3
  have g4 : (k != 64) = true := by simpa using h4
  clear h0 h1 h2 h3 h4
  go_enter Tryd.func8, Tryd.ntmps8
  go_wp2
  go_ret
  exact ⟨rfl, Below.refl _ _⟩

theorem naturals_no8 (d : Int) (v : Value) (all : Bool) (h0 : 256 ≤ d) (h1 : d ≤ 18446744073709551615) (w : World) :
    Calls Tryd.prog 8 #[.int .i64 8, .int .u64 d, v, .bool all] w fun e w' => e = .returned (.bool true) ∧ Below w.heap.size w w' := by
  have i0 : 0 < d / 256 := by omega
  go_enter Tryd.func8, Tryd.ntmps8
  go_wp2
  go_ret
  exact ⟨rfl, Below.refl _ _⟩

theorem naturals_no16 (d : Int) (v : Value) (all : Bool) (h0 : 65536 ≤ d) (h1 : d ≤ 18446744073709551615) (w : World) :
    Calls Tryd.prog 8 #[.int .i64 16, .int .u64 d, v, .bool all] w fun e w' => e = .returned (.bool true) ∧ Below w.heap.size w w' := by
  have i0 : 0 < d / 65536 := by omega
  go_enter Tryd.func8, Tryd.ntmps8
  go_wp2
  go_ret
  exact ⟨rfl, Below.refl _ _⟩

theorem naturals_no32 (d : Int) (v : Value) (all : Bool) (h0 : 4294967296 ≤ d) (h1 : d ≤ 18446744073709551615) (w : World) :
    Calls Tryd.prog 8 #[.int .i64 32, .int .u64 d, v, .bool all] w fun e w' => e = .returned (.bool true) ∧ Below w.heap.size w w' := by
  have i0 : 0 < d / 4294967296 := by omega
  go_enter Tryd.func8, Tryd.ntmps8
  go_wp2
  go_ret
  exact ⟨rfl, Below.refl _ _⟩

theorem naturals_any (k d : Int) (A : Option Addr) (cap : Nat) (xs : List ByteArray) (w : World) (hx : StrsAt w A xs) (hm : xs.length ≤ 2147483647) (hs : ∀ j, j < xs.length → (tx xs j).size ≤ 2147483647) (he1 : ErrCell 0 w) (he2 : ErrCell 1 w) (ht : Pow w) (hd1 : 0 ≤ d) (hd2 : d ≤ 18446744073709551615) :
    Calls Tryd.prog 8 #[.int .i64 k, .int .u64 d, .slice A xs.length cap, .bool true] w fun e w' => e = .returned (.bool true) ∧ Below w.heap.size w w' := by
  by_cases h0 : k = 0
  · subst h0; exact naturals_uint d A cap xs w hx hm hs he1 he2 ht hd1 hd2
  by_cases h4 : k = 64
  · subst h4; exact naturals_uint64 d A cap xs w hx hm hs he1 he2 ht hd1 hd2
  by_cases h1 : k = 8
  · subst h1
    by_cases hd : d ≤ 255
    · exact naturals_uint8 d A cap xs w hx hm hs he1 he2 ht hd1 hd
    · exact naturals_no8 d _ _ (by omega) hd2 w
  by_cases h2 : k = 16
  · subst h2
    by_cases hd : d ≤ 65535
    · exact naturals_uint16 d A cap xs w hx hm hs he1 he2 ht hd1 hd
    · exact naturals_no16 d _ _ (by omega) hd2 w
  by_cases h3 : k = 32
  · subst h3
    by_cases hd : d ≤ 4294967295
    · exact naturals_uint32 d A cap xs w hx hm hs he1 he2 ht hd1 hd
    · exact naturals_no32 d _ _ (by omega) hd2 w
  exact naturals_none k d _ _ ⟨h0, h1, h2, h3, h4⟩ w

theorem fnUintsAll_any (k d : Int) (v : Value) (xs : List ByteArray) (w : World) (h : Texts w v xs) (he1 : ErrCell 0 w) (he2 : ErrCell 1 w) (ht : Pow w) (hd : 0 ≤ d ∧ d ≤ 18446744073709551615) :
    Calls Tryd.prog 3 #[.int .i64 k, .int .u64 d, v] w fun e w' => e = .returned (.bool true) ∧ Below w.heap.size w w' := by
  obtain ⟨A, cap, rfl, hx, hcap, hm, hA⟩ := h
  have hf := fits2_any A cap xs w hx (by omega)
  cases hr : fits2 xs with
  | false =>
    rw [hr] at hf
    go_enter Tryd.func3, Tryd.ntmps3
    go_wp2_with (go_at_call 7; refine hf.mono ?_; rintro e w' ⟨rfl, rfl⟩)
    go_ret
    exact ⟨rfl, Below.refl _ _⟩
  | true =>
    rw [hr] at hf
    have H := Lib.hid (naturals_any k d A cap xs w hx (fits2_iff.1 hr).1 (fits2_iff.1 hr).2 he1 he2 ht hd.1 hd.2)
    clear hr
    go_enter Tryd.func3, Tryd.ntmps3
    go_wp2_with (first | (go_at_call 7; refine hf.mono ?_; rintro e w' ⟨rfl, rfl⟩) | (go_at_call 8; refine (H.out).mono ?_; rintro e w1 ⟨rfl, hb⟩))
    go_ret
    exact ⟨rfl, hb⟩
end Go.Proofs.YtoofmiafcaipmaaDoor.E
