/- The walk of laws.FnInts, over this seat's program. -/
import Derived.Test.YtjfgebgkdpomiaaDoorIntsW
namespace Go.Proofs.YtjfgebgkdpomiaaDoor.E
open Go.RowKit Go.Proofs
set_option linter.unusedVariables false
set_option linter.unusedSimpArgs false

theorem integers_none (k d : Int) (v : Value) (all : Bool) (h : ¬ k = 0 ∧ ¬ k = 1 ∧ ¬ k = 2 ∧ ¬ k = 3 ∧ ¬ k = 4) (w : World) :
    Calls Tryd.prog 26 #[.int .i64 k, .int .i64 d, v, .bool all] w fun e w' => e = .returned (.bool true) ∧ Below w.heap.size w w' := by
  have H := fun w => Lib.hid (width_none k h w)
  clear h
  go_enter Tryd.func26, Tryd.ntmps26
  go_wp2_with (go_at_call 27; refine ((H _).out).mono ?_; rintro e w1 ⟨rfl, rfl⟩)
  go_ret
  exact ⟨rfl, Below.refl _ _⟩

theorem integers_no8 (d : Int) (v : Value) (all : Bool) (h : d < -128 ∨ 128 ≤ d) (w : World) :
    Calls Tryd.prog 26 #[.int .i64 1, .int .i64 d, v, .bool all] w fun e w' => e = .returned (.bool true) ∧ Below w.heap.size w w' := by
  have H := fun w => Lib.hid (holds_8_no d h w)
  clear h
  go_enter Tryd.func26, Tryd.ntmps26
  go_wp2_with (first
    | (go_at_call 27; refine (width_int8 _).mono ?_; rintro e w1 ⟨rfl, rfl⟩)
    | (go_at_call 28; refine ((H _).out).mono ?_; rintro e w1 ⟨rfl, rfl⟩))
  go_ret
  exact ⟨rfl, Below.refl _ _⟩

theorem integers_no16 (d : Int) (v : Value) (all : Bool) (h : d < -32768 ∨ 32768 ≤ d) (w : World) :
    Calls Tryd.prog 26 #[.int .i64 2, .int .i64 d, v, .bool all] w fun e w' => e = .returned (.bool true) ∧ Below w.heap.size w w' := by
  have H := fun w => Lib.hid (holds_16_no d h w)
  clear h
  go_enter Tryd.func26, Tryd.ntmps26
  go_wp2_with (first
    | (go_at_call 27; refine (width_int16 _).mono ?_; rintro e w1 ⟨rfl, rfl⟩)
    | (go_at_call 28; refine ((H _).out).mono ?_; rintro e w1 ⟨rfl, rfl⟩))
  go_ret
  exact ⟨rfl, Below.refl _ _⟩

theorem integers_no32 (d : Int) (v : Value) (all : Bool) (h : d < -2147483648 ∨ 2147483648 ≤ d) (w : World) :
    Calls Tryd.prog 26 #[.int .i64 3, .int .i64 d, v, .bool all] w fun e w' => e = .returned (.bool true) ∧ Below w.heap.size w w' := by
  have H := fun w => Lib.hid (holds_32_no d h w)
  clear h
  go_enter Tryd.func26, Tryd.ntmps26
  go_wp2_with (first
    | (go_at_call 27; refine (width_int32 _).mono ?_; rintro e w1 ⟨rfl, rfl⟩)
    | (go_at_call 28; refine ((H _).out).mono ?_; rintro e w1 ⟨rfl, rfl⟩))
  go_ret
  exact ⟨rfl, Below.refl _ _⟩

theorem integers_any (k d : Int) (A : Option Addr) (cap : Nat) (xs : List ByteArray) (w : World) (hx : StrsAt w A xs) (hm : xs.length ≤ 2147483647) (hs : ∀ j, j < xs.length → (tx xs j).size ≤ 2147483647) (he1 : ErrCell 0 w) (he2 : ErrCell 1 w) (ht : Pow w) (hd1 : -9223372036854775808 ≤ d) (hd2 : d ≤ 9223372036854775807) :
    Calls Tryd.prog 26 #[.int .i64 k, .int .i64 d, .slice A xs.length cap, .bool false] w fun e w' => e = .returned (.bool true) ∧ Below w.heap.size w w' := by
  by_cases h0 : k = 0
  · subst h0; exact integers_int d A cap xs w hx hm hs he1 he2 ht (by omega) (by omega)
  by_cases h4 : k = 4
  · subst h4; exact integers_int64 d A cap xs w hx hm hs he1 he2 ht (by omega) (by omega)
  by_cases h1 : k = 1
  · subst h1
    by_cases hd : -128 ≤ d ∧ d < 128
    · exact integers_int8 d A cap xs w hx hm hs he1 he2 ht hd.1 hd.2
    · exact integers_no8 d _ _ (by omega) w
  by_cases h2 : k = 2
  · subst h2
    by_cases hd : -32768 ≤ d ∧ d < 32768
    · exact integers_int16 d A cap xs w hx hm hs he1 he2 ht hd.1 hd.2
    · exact integers_no16 d _ _ (by omega) w
  by_cases h3 : k = 3
  · subst h3
    by_cases hd : -2147483648 ≤ d ∧ d < 2147483648
    · exact integers_int32 d A cap xs w hx hm hs he1 he2 ht hd.1 hd.2
    · exact integers_no32 d _ _ (by omega) w
  exact integers_none k d _ _ ⟨h0, h1, h2, h3, h4⟩ w

theorem fnInts_any (k d : Int) (v : Value) (xs : List ByteArray) (w : World) (h : Texts w v xs) (he1 : ErrCell 0 w) (he2 : ErrCell 1 w) (ht : Pow w) (hd : -9223372036854775808 ≤ d ∧ d ≤ 9223372036854775807) :
    Calls Tryd.prog 7 #[.int .i64 k, .int .i64 d, v] w fun e w' => e = .returned (.bool true) ∧ Below w.heap.size w w' := by
  obtain ⟨A, cap, rfl, hx, hcap, hm, hA⟩ := h
  have hf := fits2_any A cap xs w hx (by omega)
  cases hr : fits2 xs with
  | false =>
    rw [hr] at hf
    go_enter Tryd.func7, Tryd.ntmps7
    go_wp2_with (go_at_call 13; refine hf.mono ?_; rintro e w' ⟨rfl, rfl⟩)
    go_ret
    exact ⟨rfl, Below.refl _ _⟩
  | true =>
    rw [hr] at hf
    have H := Lib.hid (integers_any k d A cap xs w hx (fits2_iff.1 hr).1 (fits2_iff.1 hr).2 he1 he2 ht hd.1 hd.2)
    clear hr
    go_enter Tryd.func7, Tryd.ntmps7
    go_wp2_with (first | (go_at_call 13; refine hf.mono ?_; rintro e w' ⟨rfl, rfl⟩) | (go_at_call 26; refine (H.out).mono ?_; rintro e w1 ⟨rfl, hb⟩))
    go_ret
    exact ⟨rfl, hb⟩
end Go.Proofs.YtjfgebgkdpomiaaDoor.E
