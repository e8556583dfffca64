/- The walk of laws.FnStrip, over this seat's program. -/
import Derived.Test.YtnlmmkmbgjgdbaaStrip
namespace Go.Proofs.Ytnlmmkmbgjgdbaa
open Go.RowKit
set_option linter.unusedVariables false
set_option linter.unusedSimpArgs false

theorem stripped_len (xs : List ByteArray) : (stripped xs).length ≤ xs.length := by
  match xs with
  | [] => simp [stripped]
  | x :: r => simp only [stripped]; split <;> simp

set_option maxHeartbeats 1600000 in
theorem fnStrip_any (v : Value) (xs : List ByteArray) (w : World) (h : Texts w v xs) :
    Calls Try.prog 4 #[v] w fun e w' => e = .returned (.bool true) ∧ Below w.heap.size w w' := by
  have ht := h
  obtain ⟨A, cap, rfl, hx, hcap, hm, hA⟩ := h
  have hf := fits2_any A cap xs w hx (by omega)
  cases hr : fits2 xs with
  | false =>
    rw [hr] at hf
    go_enter Try.func4, Try.ntmps4
    go_wp2_with (go_at_call 7; refine hf.mono ?_; rintro e w' ⟨rfl, rfl⟩)
    go_ret
    exact ⟨rfl, Below.refl _ _⟩
  | true =>
    rw [hr] at hf
    have hlen := (fits2_iff.1 hr).1
    have hsz := (fits2_iff.1 hr).2
    clear hr
    have hb1 : Below w.heap.size w (w.alloc (.cells #[.slice A xs.length cap] 22)) := (Below.refl _ _).alloc (Nat.le_refl _) _
    have ht1 := ht.below hb1
    have h14 := fits14_one (heap_alloc_new w (.cells #[.slice A xs.length cap] 22)) ht1 hlen hsz
    cases hr : fits14 [xs] with
    | false =>
      rw [hr] at h14
      go_enter Try.func4, Try.ntmps4
      go_wp2_with (first
        | (go_at_call 7; refine hf.mono ?_; rintro e w' ⟨rfl, rfl⟩)
        | (go_at_call 9; refine h14.mono ?_; rintro e w' ⟨rfl, rfl⟩))
      go_ret
      exact ⟨rfl, hb1⟩
    | true =>
      rw [hr] at h14
      go_enter Try.func4, Try.ntmps4
      go_wp2_with (first
        | (go_at_call 7; refine hf.mono ?_; rintro e w' ⟨rfl, rfl⟩)
        | (go_at_call 9; refine h14.mono ?_; rintro e w' ⟨rfl, rfl⟩)
        | (go_at_call 11; refine (strip_any _ xs _ ht1 hlen hsz).mono ?_; rintro e w2 ⟨v2, rfl, ht2, hb2⟩)
        | (go_at_call 12; refine (stripS_any _ xs _ (ht1.below hb2)).mono ?_; rintro e w3 ⟨⟨v3, rfl, ht3⟩, rfl⟩; obtain ⟨A2, c2, rfl, hx2, _⟩ := ht2; obtain ⟨A3, c3, rfl, hx3, _⟩ := ht3)
        | (go_at_call 10; refine (sameTexts_any A2 A3 c2 c3 (stripped xs) (stripped xs) _ hx2 hx3 (by have := stripped_len xs; omega)).mono ?_; rintro e w4 ⟨rfl, hd4⟩))
      go_ret
      exact ⟨by simp, below_step (below_step hb1 hb2) hd4.below⟩
end Go.Proofs.Ytnlmmkmbgjgdbaa
