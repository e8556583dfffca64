/- The walk of laws.FnTexts, over this seat's program. -/
import Derived.Test.YtnlmmkmbgjgdbaaTextV
namespace Go.Proofs.Ytnlmmkmbgjgdbaa
open Go.RowKit
set_option linter.unusedVariables false
set_option linter.unusedSimpArgs false

theorem saidCells_all (xs : List ByteArray) : saidCells xs xs.length = (xs.map fun s => [Value.bool false, .string s, .string s]).flatten := by
  unfold saidCells; rw [List.take_length]

theorem said_at {xs : List ByteArray} {k : Nat} (h : k < xs.length) :
    (saidCells xs xs.length)[k * 3]? = some (.bool false) ∧ (saidCells xs xs.length)[k * 3 + 1]? = some (.string (tx xs k)) ∧ (saidCells xs xs.length)[k * 3 + 2]? = some (.string (tx xs k)) := by
  rw [saidCells_all]
  induction xs generalizing k with
  | nil => simp at h
  | cons x r ih =>
    cases k with
    | zero => simp [tx]
    | succ k =>
      have := ih (k := k) (by simpa using h)
      have e1 : (k + 1) * 3 = k * 3 + 3 := by omega
      rw [e1]
      simpa [tx, Nat.add_assoc] using this

set_option maxHeartbeats 1600000 in
theorem fnTexts_any (d : ByteArray) (A : Option Addr) (cap : Nat) (xs : List ByteArray) (w : World) (hx : StrsAt w A xs) (hm : xs.length ≤ 9223372036854775807) (hd : d.size ≤ 9223372036854775807) :
    Calls Try.prog 3 #[.string d, .slice A xs.length cap] w fun e w' => e = .returned (.bool true) ∧ Below w.heap.size w w' := by
  by_cases hbig : 2147483647 < d.size
  · have hb : ((2147483647 : Int) < (d.size : Int)) := by omega
    go_enter Try.func3, Try.ntmps3
    go_wp2
    go_ret
    exact ⟨rfl, Below.refl _ _⟩
  · have hb : ((d.size : Int) ≤ 2147483647) := by omega
    have hf := fits2_any A cap xs w hx hm
    cases hr : fits2 xs with
    | false =>
      rw [hr] at hf
      have HF := Lib.hid hf
      clear hf
      go_enter Try.func3, Try.ntmps3
      go_wp2_with (go_at_call 7; refine (HF.out).mono ?_; rintro e w' ⟨rfl, rfl⟩)
      go_ret
      exact ⟨rfl, Below.refl _ _⟩
    | true =>
      rw [hr] at hf
      have HF := Lib.hid hf
      have hlen := (fits2_iff.1 hr).1
      have hsz := (fits2_iff.1 hr).2
      clear hf
      go_enter Try.func3, Try.ntmps3
      go_wp2_with (first | (go_at_call 7; refine (HF.out).mono ?_; rintro e w' ⟨rfl, rfl⟩) | (go_at_call 8; refine (textValue_any d A cap xs _ hx hlen).mono ?_; rintro e w1 ⟨A', c, rfl, hrow, hbel⟩))
      go_loopw [26] (fun i wr => ∃ k : Nat, k ≤ xs.length ∧ i = .int .i64 k ∧ Below w1.heap.size w1 wr) (fun i _ => xs.length - (intOf i).toNat)
      case atStart => exact ⟨0, Nat.zero_le _, rfl, Below.refl _ _⟩
      case round =>
        obtain ⟨k, hk, rfl, hb2⟩ := hrel
        by_cases hlt : k < xs.length
        · obtain ⟨ba, oa, rfl, hc0⟩ := hx k hlt
          obtain ⟨s0, s1, s2⟩ := said_at hlt
          obtain ⟨g, rfl, c0, c1, c2⟩ := row3 hrow s0 s1 s2
          have d0 := cell_kept hb2 c0
          have d1 := cell_kept hb2 c1
          have d2 := cell_kept hb2 c2
          have hc := cell_kept (below_step hbel hb2) hc0
          clear c0 c1 c2 s0 s1 s2 hc0
          have hc' : ∀ o, (wr.alloc o).cell? ⟨ba, oa + k, none⟩ = some (.string (tx xs k)) := fun o => cell_kept ((Below.refl _ _).alloc (Nat.le_refl _) o) hc
          have i0 : (0 : Int) ≤ (k : Int) := Int.natCast_nonneg _
          have i1 : (k : Int) < (xs.length : Int) := by omega
          go_wp2
          go_quiet (fail)
          go_wp2
          go_roundw
          case rel => exact ⟨k + 1, by omega, by go_num, below_drewN (hb2.alloc hb2.size _) _⟩
          case measure => simp [intOf]; omega
        · go_wp2
          go_ret
          exact ⟨rfl, below_step hbel hb2⟩
theorem fnTexts_all (d : ByteArray) (v : Value) (xs : List ByteArray) (w : World) (h : Texts w v xs) (hd : d.size ≤ 9223372036854775807) :
    Calls Try.prog 3 #[.string d, v] w fun e w' => e = .returned (.bool true) ∧ Below w.heap.size w w' := by
  obtain ⟨A, cap, rfl, hx, hcap, hm, _⟩ := h
  exact fnTexts_any d A cap xs w hx (by omega) hd
end Go.Proofs.Ytnlmmkmbgjgdbaa
