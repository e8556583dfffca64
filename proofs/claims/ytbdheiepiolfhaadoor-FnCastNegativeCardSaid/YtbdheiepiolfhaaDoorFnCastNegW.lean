/- The walk of laws.FnCastNegative, over this seat's program. Written by gen_castnegw.py. -/
import Derived.Test.YtbdheiepiolfhaaDoorCastNeg
namespace Go.Proofs.YtbdheiepiolfhaaDoor.E
open Go.RowKit
set_option linter.unusedVariables false
set_option linter.unusedSimpArgs false

theorem castLives_any (w : World) : Calls Tryd.prog 20 #[] w fun e w' => e = .returned (.bool true) ∧ Below w.heap.size w w' := by
  have H := fun w => Lib.hid (impl_int_int 7 0 0 ⟨#[]⟩ w (by omega) (by omega))
  unfold anyOf at H
  go_enter Tryd.func20, Tryd.ntmps20
  go_wp2_with (go_at_call 35; refine ((H _).out).mono ?_; rintro e w1 ⟨rfl, hb⟩)
  go_ret
  exact ⟨rfl, by first | exact hb | exact below_new hb⟩

theorem castUintN_uint (a c : Int) (ha : (a = 2 ∧ -9223372036854775808 ≤ c ∧ c < 0) ∨ (a = 3 ∧ -128 ≤ c ∧ c < 0) ∨ (a = 4 ∧ -32768 ≤ c ∧ c < 0) ∨ (a = 5 ∧ -2147483648 ≤ c ∧ c < 0) ∨ (a = 6 ∧ -9223372036854775808 ≤ c ∧ c < 0)) (w : World) :
    Calls Tryd.prog 21 #[.int .i64 7, anyOf a c 0 0 ⟨#[]⟩] w fun e w' => (e = .returned (.tuple #[.int .u64 0, .bool false])) ∧ Below w.heap.size w w' := by
  rcases ha with ⟨rfl, h0, h1⟩ | ⟨rfl, h0, h1⟩ | ⟨rfl, h0, h1⟩ | ⟨rfl, h0, h1⟩ | ⟨rfl, h0, h1⟩
  · have H := fun w => Lib.hid (doorN_uint_int c h0 h1 w)
    unfold anyOf at H ⊢
    go_enter Tryd.func21, Tryd.ntmps21
    go_wp2_with (go_at_call 42; refine ((H _).out).mono ?_; rintro e w1 ⟨rfl, hb⟩)
    go_ret2
    exact ⟨rfl, by first | exact hb | exact below_new hb⟩
  · have H := fun w => Lib.hid (doorN_uint_int8 c h0 h1 w)
    unfold anyOf at H ⊢
    go_enter Tryd.func21, Tryd.ntmps21
    go_wp2_with (go_at_call 42; refine ((H _).out).mono ?_; rintro e w1 ⟨rfl, hb⟩)
    go_ret2
    exact ⟨rfl, by first | exact hb | exact below_new hb⟩
  · have H := fun w => Lib.hid (doorN_uint_int16 c h0 h1 w)
    unfold anyOf at H ⊢
    go_enter Tryd.func21, Tryd.ntmps21
    go_wp2_with (go_at_call 42; refine ((H _).out).mono ?_; rintro e w1 ⟨rfl, hb⟩)
    go_ret2
    exact ⟨rfl, by first | exact hb | exact below_new hb⟩
  · have H := fun w => Lib.hid (doorN_uint_int32 c h0 h1 w)
    unfold anyOf at H ⊢
    go_enter Tryd.func21, Tryd.ntmps21
    go_wp2_with (go_at_call 42; refine ((H _).out).mono ?_; rintro e w1 ⟨rfl, hb⟩)
    go_ret2
    exact ⟨rfl, by first | exact hb | exact below_new hb⟩
  · have H := fun w => Lib.hid (doorN_uint_int64 c h0 h1 w)
    unfold anyOf at H ⊢
    go_enter Tryd.func21, Tryd.ntmps21
    go_wp2_with (go_at_call 42; refine ((H _).out).mono ?_; rintro e w1 ⟨rfl, hb⟩)
    go_ret2
    exact ⟨rfl, by first | exact hb | exact below_new hb⟩

theorem castUintN_uint8 (a c : Int) (ha : (a = 2 ∧ -9223372036854775808 ≤ c ∧ c < 0) ∨ (a = 3 ∧ -128 ≤ c ∧ c < 0) ∨ (a = 4 ∧ -32768 ≤ c ∧ c < 0) ∨ (a = 5 ∧ -2147483648 ≤ c ∧ c < 0) ∨ (a = 6 ∧ -9223372036854775808 ≤ c ∧ c < 0)) (w : World) :
    Calls Tryd.prog 21 #[.int .i64 8, anyOf a c 0 0 ⟨#[]⟩] w fun e w' => (e = .returned (.tuple #[.int .u64 0, .bool false])) ∧ Below w.heap.size w w' := by
  rcases ha with ⟨rfl, h0, h1⟩ | ⟨rfl, h0, h1⟩ | ⟨rfl, h0, h1⟩ | ⟨rfl, h0, h1⟩ | ⟨rfl, h0, h1⟩
  · have H := fun w => Lib.hid (doorN_uint8_int c h0 h1 w)
    unfold anyOf at H ⊢
    go_enter Tryd.func21, Tryd.ntmps21
    go_wp2_with (go_at_call 38; refine ((H _).out).mono ?_; rintro e w1 ⟨rfl, hb⟩)
    go_ret2
    exact ⟨rfl, by first | exact hb | exact below_new hb⟩
  · have H := fun w => Lib.hid (doorN_uint8_int8 c h0 h1 w)
    unfold anyOf at H ⊢
    go_enter Tryd.func21, Tryd.ntmps21
    go_wp2_with (go_at_call 38; refine ((H _).out).mono ?_; rintro e w1 ⟨rfl, hb⟩)
    go_ret2
    exact ⟨rfl, by first | exact hb | exact below_new hb⟩
  · have H := fun w => Lib.hid (doorN_uint8_int16 c h0 h1 w)
    unfold anyOf at H ⊢
    go_enter Tryd.func21, Tryd.ntmps21
    go_wp2_with (go_at_call 38; refine ((H _).out).mono ?_; rintro e w1 ⟨rfl, hb⟩)
    go_ret2
    exact ⟨rfl, by first | exact hb | exact below_new hb⟩
  · have H := fun w => Lib.hid (doorN_uint8_int32 c h0 h1 w)
    unfold anyOf at H ⊢
    go_enter Tryd.func21, Tryd.ntmps21
    go_wp2_with (go_at_call 38; refine ((H _).out).mono ?_; rintro e w1 ⟨rfl, hb⟩)
    go_ret2
    exact ⟨rfl, by first | exact hb | exact below_new hb⟩
  · have H := fun w => Lib.hid (doorN_uint8_int64 c h0 h1 w)
    unfold anyOf at H ⊢
    go_enter Tryd.func21, Tryd.ntmps21
    go_wp2_with (go_at_call 38; refine ((H _).out).mono ?_; rintro e w1 ⟨rfl, hb⟩)
    go_ret2
    exact ⟨rfl, by first | exact hb | exact below_new hb⟩

theorem castUintN_uint16 (a c : Int) (ha : (a = 2 ∧ -9223372036854775808 ≤ c ∧ c < 0) ∨ (a = 3 ∧ -128 ≤ c ∧ c < 0) ∨ (a = 4 ∧ -32768 ≤ c ∧ c < 0) ∨ (a = 5 ∧ -2147483648 ≤ c ∧ c < 0) ∨ (a = 6 ∧ -9223372036854775808 ≤ c ∧ c < 0)) (w : World) :
    Calls Tryd.prog 21 #[.int .i64 9, anyOf a c 0 0 ⟨#[]⟩] w fun e w' => (e = .returned (.tuple #[.int .u64 0, .bool false])) ∧ Below w.heap.size w w' := by
  rcases ha with ⟨rfl, h0, h1⟩ | ⟨rfl, h0, h1⟩ | ⟨rfl, h0, h1⟩ | ⟨rfl, h0, h1⟩ | ⟨rfl, h0, h1⟩
  · have H := fun w => Lib.hid (doorN_uint16_int c h0 h1 w)
    unfold anyOf at H ⊢
    go_enter Tryd.func21, Tryd.ntmps21
    go_wp2_with (go_at_call 39; refine ((H _).out).mono ?_; rintro e w1 ⟨rfl, hb⟩)
    go_ret2
    exact ⟨rfl, by first | exact hb | exact below_new hb⟩
  · have H := fun w => Lib.hid (doorN_uint16_int8 c h0 h1 w)
    unfold anyOf at H ⊢
    go_enter Tryd.func21, Tryd.ntmps21
    go_wp2_with (go_at_call 39; refine ((H _).out).mono ?_; rintro e w1 ⟨rfl, hb⟩)
    go_ret2
    exact ⟨rfl, by first | exact hb | exact below_new hb⟩
  · have H := fun w => Lib.hid (doorN_uint16_int16 c h0 h1 w)
    unfold anyOf at H ⊢
    go_enter Tryd.func21, Tryd.ntmps21
    go_wp2_with (go_at_call 39; refine ((H _).out).mono ?_; rintro e w1 ⟨rfl, hb⟩)
    go_ret2
    exact ⟨rfl, by first | exact hb | exact below_new hb⟩
  · have H := fun w => Lib.hid (doorN_uint16_int32 c h0 h1 w)
    unfold anyOf at H ⊢
    go_enter Tryd.func21, Tryd.ntmps21
    go_wp2_with (go_at_call 39; refine ((H _).out).mono ?_; rintro e w1 ⟨rfl, hb⟩)
    go_ret2
    exact ⟨rfl, by first | exact hb | exact below_new hb⟩
  · have H := fun w => Lib.hid (doorN_uint16_int64 c h0 h1 w)
    unfold anyOf at H ⊢
    go_enter Tryd.func21, Tryd.ntmps21
    go_wp2_with (go_at_call 39; refine ((H _).out).mono ?_; rintro e w1 ⟨rfl, hb⟩)
    go_ret2
    exact ⟨rfl, by first | exact hb | exact below_new hb⟩

theorem castUintN_uint32 (a c : Int) (ha : (a = 2 ∧ -9223372036854775808 ≤ c ∧ c < 0) ∨ (a = 3 ∧ -128 ≤ c ∧ c < 0) ∨ (a = 4 ∧ -32768 ≤ c ∧ c < 0) ∨ (a = 5 ∧ -2147483648 ≤ c ∧ c < 0) ∨ (a = 6 ∧ -9223372036854775808 ≤ c ∧ c < 0)) (w : World) :
    Calls Tryd.prog 21 #[.int .i64 10, anyOf a c 0 0 ⟨#[]⟩] w fun e w' => (e = .returned (.tuple #[.int .u64 0, .bool false])) ∧ Below w.heap.size w w' := by
  rcases ha with ⟨rfl, h0, h1⟩ | ⟨rfl, h0, h1⟩ | ⟨rfl, h0, h1⟩ | ⟨rfl, h0, h1⟩ | ⟨rfl, h0, h1⟩
  · have H := fun w => Lib.hid (doorN_uint32_int c h0 h1 w)
    unfold anyOf at H ⊢
    go_enter Tryd.func21, Tryd.ntmps21
    go_wp2_with (go_at_call 40; refine ((H _).out).mono ?_; rintro e w1 ⟨rfl, hb⟩)
    go_ret2
    exact ⟨rfl, by first | exact hb | exact below_new hb⟩
  · have H := fun w => Lib.hid (doorN_uint32_int8 c h0 h1 w)
    unfold anyOf at H ⊢
    go_enter Tryd.func21, Tryd.ntmps21
    go_wp2_with (go_at_call 40; refine ((H _).out).mono ?_; rintro e w1 ⟨rfl, hb⟩)
    go_ret2
    exact ⟨rfl, by first | exact hb | exact below_new hb⟩
  · have H := fun w => Lib.hid (doorN_uint32_int16 c h0 h1 w)
    unfold anyOf at H ⊢
    go_enter Tryd.func21, Tryd.ntmps21
    go_wp2_with (go_at_call 40; refine ((H _).out).mono ?_; rintro e w1 ⟨rfl, hb⟩)
    go_ret2
    exact ⟨rfl, by first | exact hb | exact below_new hb⟩
  · have H := fun w => Lib.hid (doorN_uint32_int32 c h0 h1 w)
    unfold anyOf at H ⊢
    go_enter Tryd.func21, Tryd.ntmps21
    go_wp2_with (go_at_call 40; refine ((H _).out).mono ?_; rintro e w1 ⟨rfl, hb⟩)
    go_ret2
    exact ⟨rfl, by first | exact hb | exact below_new hb⟩
  · have H := fun w => Lib.hid (doorN_uint32_int64 c h0 h1 w)
    unfold anyOf at H ⊢
    go_enter Tryd.func21, Tryd.ntmps21
    go_wp2_with (go_at_call 40; refine ((H _).out).mono ?_; rintro e w1 ⟨rfl, hb⟩)
    go_ret2
    exact ⟨rfl, by first | exact hb | exact below_new hb⟩

theorem castUintN_uint64 (a c : Int) (ha : (a = 2 ∧ -9223372036854775808 ≤ c ∧ c < 0) ∨ (a = 3 ∧ -128 ≤ c ∧ c < 0) ∨ (a = 4 ∧ -32768 ≤ c ∧ c < 0) ∨ (a = 5 ∧ -2147483648 ≤ c ∧ c < 0) ∨ (a = 6 ∧ -9223372036854775808 ≤ c ∧ c < 0)) (w : World) :
    Calls Tryd.prog 21 #[.int .i64 11, anyOf a c 0 0 ⟨#[]⟩] w fun e w' => (e = .returned (.tuple #[.int .u64 0, .bool false])) ∧ Below w.heap.size w w' := by
  rcases ha with ⟨rfl, h0, h1⟩ | ⟨rfl, h0, h1⟩ | ⟨rfl, h0, h1⟩ | ⟨rfl, h0, h1⟩ | ⟨rfl, h0, h1⟩
  · have H := fun w => Lib.hid (doorN_uint64_int c h0 h1 w)
    unfold anyOf at H ⊢
    go_enter Tryd.func21, Tryd.ntmps21
    go_wp2_with (go_at_call 41; refine ((H _).out).mono ?_; rintro e w1 ⟨rfl, hb⟩)
    go_ret2
    exact ⟨rfl, by first | exact hb | exact below_new hb⟩
  · have H := fun w => Lib.hid (doorN_uint64_int8 c h0 h1 w)
    unfold anyOf at H ⊢
    go_enter Tryd.func21, Tryd.ntmps21
    go_wp2_with (go_at_call 41; refine ((H _).out).mono ?_; rintro e w1 ⟨rfl, hb⟩)
    go_ret2
    exact ⟨rfl, by first | exact hb | exact below_new hb⟩
  · have H := fun w => Lib.hid (doorN_uint64_int16 c h0 h1 w)
    unfold anyOf at H ⊢
    go_enter Tryd.func21, Tryd.ntmps21
    go_wp2_with (go_at_call 41; refine ((H _).out).mono ?_; rintro e w1 ⟨rfl, hb⟩)
    go_ret2
    exact ⟨rfl, by first | exact hb | exact below_new hb⟩
  · have H := fun w => Lib.hid (doorN_uint64_int32 c h0 h1 w)
    unfold anyOf at H ⊢
    go_enter Tryd.func21, Tryd.ntmps21
    go_wp2_with (go_at_call 41; refine ((H _).out).mono ?_; rintro e w1 ⟨rfl, hb⟩)
    go_ret2
    exact ⟨rfl, by first | exact hb | exact below_new hb⟩
  · have H := fun w => Lib.hid (doorN_uint64_int64 c h0 h1 w)
    unfold anyOf at H ⊢
    go_enter Tryd.func21, Tryd.ntmps21
    go_wp2_with (go_at_call 41; refine ((H _).out).mono ?_; rintro e w1 ⟨rfl, hb⟩)
    go_ret2
    exact ⟨rfl, by first | exact hb | exact below_new hb⟩

theorem castUintN_any (b a c : Int) (hb : 7 ≤ b ∧ b ≤ 11) (ha : (a = 2 ∧ -9223372036854775808 ≤ c ∧ c < 0) ∨ (a = 3 ∧ -128 ≤ c ∧ c < 0) ∨ (a = 4 ∧ -32768 ≤ c ∧ c < 0) ∨ (a = 5 ∧ -2147483648 ≤ c ∧ c < 0) ∨ (a = 6 ∧ -9223372036854775808 ≤ c ∧ c < 0)) (w : World) :
    Calls Tryd.prog 21 #[.int .i64 b, anyOf a c 0 0 ⟨#[]⟩] w fun e w' => (e = .returned (.tuple #[.int .u64 0, .bool false])) ∧ Below w.heap.size w w' := by
  have h : b = 7 ∨ b = 8 ∨ b = 9 ∨ b = 10 ∨ b = 11 := by omega
  rcases h with rfl | rfl | rfl | rfl | rfl
  · exact castUintN_uint a c ha w
  · exact castUintN_uint8 a c ha w
  · exact castUintN_uint16 a c ha w
  · exact castUintN_uint32 a c ha w
  · exact castUintN_uint64 a c ha w

theorem castUintP_uint (a c : Int) (ha : (a = 2 ∧ 0 ≤ c ∧ c ≤ 9223372036854775807) ∨ (a = 3 ∧ 0 ≤ c ∧ c ≤ 127) ∨ (a = 4 ∧ 0 ≤ c ∧ c ≤ 32767) ∨ (a = 5 ∧ 0 ≤ c ∧ c ≤ 2147483647) ∨ (a = 6 ∧ 0 ≤ c ∧ c ≤ 9223372036854775807)) (w : World) :
    Calls Tryd.prog 21 #[.int .i64 7, anyOf a c 0 0 ⟨#[]⟩] w fun e w' => (∃ v : Int, e = .returned (.tuple #[.int .u64 v, .bool true])) ∧ Below w.heap.size w w' := by
  rcases ha with ⟨rfl, h0, h1⟩ | ⟨rfl, h0, h1⟩ | ⟨rfl, h0, h1⟩ | ⟨rfl, h0, h1⟩ | ⟨rfl, h0, h1⟩
  · have H := fun w => Lib.hid (doorP_uint_int c h0 h1 w)
    unfold anyOf at H ⊢
    go_enter Tryd.func21, Tryd.ntmps21
    go_wp2_with (go_at_call 42; refine ((H _).out).mono ?_; rintro e w1 ⟨⟨v, rfl⟩, hb⟩)
    go_ret2
    exact ⟨⟨_, rfl⟩, by first | exact hb | exact below_new hb⟩
  · have H := fun w => Lib.hid (doorP_uint_int8 c h0 h1 w)
    unfold anyOf at H ⊢
    go_enter Tryd.func21, Tryd.ntmps21
    go_wp2_with (go_at_call 42; refine ((H _).out).mono ?_; rintro e w1 ⟨⟨v, rfl⟩, hb⟩)
    go_ret2
    exact ⟨⟨_, rfl⟩, by first | exact hb | exact below_new hb⟩
  · have H := fun w => Lib.hid (doorP_uint_int16 c h0 h1 w)
    unfold anyOf at H ⊢
    go_enter Tryd.func21, Tryd.ntmps21
    go_wp2_with (go_at_call 42; refine ((H _).out).mono ?_; rintro e w1 ⟨⟨v, rfl⟩, hb⟩)
    go_ret2
    exact ⟨⟨_, rfl⟩, by first | exact hb | exact below_new hb⟩
  · have H := fun w => Lib.hid (doorP_uint_int32 c h0 h1 w)
    unfold anyOf at H ⊢
    go_enter Tryd.func21, Tryd.ntmps21
    go_wp2_with (go_at_call 42; refine ((H _).out).mono ?_; rintro e w1 ⟨⟨v, rfl⟩, hb⟩)
    go_ret2
    exact ⟨⟨_, rfl⟩, by first | exact hb | exact below_new hb⟩
  · have H := fun w => Lib.hid (doorP_uint_int64 c h0 h1 w)
    unfold anyOf at H ⊢
    go_enter Tryd.func21, Tryd.ntmps21
    go_wp2_with (go_at_call 42; refine ((H _).out).mono ?_; rintro e w1 ⟨⟨v, rfl⟩, hb⟩)
    go_ret2
    exact ⟨⟨_, rfl⟩, by first | exact hb | exact below_new hb⟩

theorem castUintP_uint8 (a c : Int) (ha : (a = 2 ∧ 0 ≤ c ∧ c ≤ 9223372036854775807) ∨ (a = 3 ∧ 0 ≤ c ∧ c ≤ 127) ∨ (a = 4 ∧ 0 ≤ c ∧ c ≤ 32767) ∨ (a = 5 ∧ 0 ≤ c ∧ c ≤ 2147483647) ∨ (a = 6 ∧ 0 ≤ c ∧ c ≤ 9223372036854775807)) (w : World) :
    Calls Tryd.prog 21 #[.int .i64 8, anyOf a c 0 0 ⟨#[]⟩] w fun e w' => (∃ v : Int, e = .returned (.tuple #[.int .u64 v, .bool true])) ∧ Below w.heap.size w w' := by
  rcases ha with ⟨rfl, h0, h1⟩ | ⟨rfl, h0, h1⟩ | ⟨rfl, h0, h1⟩ | ⟨rfl, h0, h1⟩ | ⟨rfl, h0, h1⟩
  · have H := fun w => Lib.hid (doorP_uint8_int c h0 h1 w)
    unfold anyOf at H ⊢
    go_enter Tryd.func21, Tryd.ntmps21
    go_wp2_with (go_at_call 38; refine ((H _).out).mono ?_; rintro e w1 ⟨⟨v, rfl⟩, hb⟩)
    go_ret2
    exact ⟨⟨_, rfl⟩, by first | exact hb | exact below_new hb⟩
  · have H := fun w => Lib.hid (doorP_uint8_int8 c h0 h1 w)
    unfold anyOf at H ⊢
    go_enter Tryd.func21, Tryd.ntmps21
    go_wp2_with (go_at_call 38; refine ((H _).out).mono ?_; rintro e w1 ⟨⟨v, rfl⟩, hb⟩)
    go_ret2
    exact ⟨⟨_, rfl⟩, by first | exact hb | exact below_new hb⟩
  · have H := fun w => Lib.hid (doorP_uint8_int16 c h0 h1 w)
    unfold anyOf at H ⊢
    go_enter Tryd.func21, Tryd.ntmps21
    go_wp2_with (go_at_call 38; refine ((H _).out).mono ?_; rintro e w1 ⟨⟨v, rfl⟩, hb⟩)
    go_ret2
    exact ⟨⟨_, rfl⟩, by first | exact hb | exact below_new hb⟩
  · have H := fun w => Lib.hid (doorP_uint8_int32 c h0 h1 w)
    unfold anyOf at H ⊢
    go_enter Tryd.func21, Tryd.ntmps21
    go_wp2_with (go_at_call 38; refine ((H _).out).mono ?_; rintro e w1 ⟨⟨v, rfl⟩, hb⟩)
    go_ret2
    exact ⟨⟨_, rfl⟩, by first | exact hb | exact below_new hb⟩
  · have H := fun w => Lib.hid (doorP_uint8_int64 c h0 h1 w)
    unfold anyOf at H ⊢
    go_enter Tryd.func21, Tryd.ntmps21
    go_wp2_with (go_at_call 38; refine ((H _).out).mono ?_; rintro e w1 ⟨⟨v, rfl⟩, hb⟩)
    go_ret2
    exact ⟨⟨_, rfl⟩, by first | exact hb | exact below_new hb⟩

theorem castUintP_uint16 (a c : Int) (ha : (a = 2 ∧ 0 ≤ c ∧ c ≤ 9223372036854775807) ∨ (a = 3 ∧ 0 ≤ c ∧ c ≤ 127) ∨ (a = 4 ∧ 0 ≤ c ∧ c ≤ 32767) ∨ (a = 5 ∧ 0 ≤ c ∧ c ≤ 2147483647) ∨ (a = 6 ∧ 0 ≤ c ∧ c ≤ 9223372036854775807)) (w : World) :
    Calls Tryd.prog 21 #[.int .i64 9, anyOf a c 0 0 ⟨#[]⟩] w fun e w' => (∃ v : Int, e = .returned (.tuple #[.int .u64 v, .bool true])) ∧ Below w.heap.size w w' := by
  rcases ha with ⟨rfl, h0, h1⟩ | ⟨rfl, h0, h1⟩ | ⟨rfl, h0, h1⟩ | ⟨rfl, h0, h1⟩ | ⟨rfl, h0, h1⟩
  · have H := fun w => Lib.hid (doorP_uint16_int c h0 h1 w)
    unfold anyOf at H ⊢
    go_enter Tryd.func21, Tryd.ntmps21
    go_wp2_with (go_at_call 39; refine ((H _).out).mono ?_; rintro e w1 ⟨⟨v, rfl⟩, hb⟩)
    go_ret2
    exact ⟨⟨_, rfl⟩, by first | exact hb | exact below_new hb⟩
  · have H := fun w => Lib.hid (doorP_uint16_int8 c h0 h1 w)
    unfold anyOf at H ⊢
    go_enter Tryd.func21, Tryd.ntmps21
    go_wp2_with (go_at_call 39; refine ((H _).out).mono ?_; rintro e w1 ⟨⟨v, rfl⟩, hb⟩)
    go_ret2
    exact ⟨⟨_, rfl⟩, by first | exact hb | exact below_new hb⟩
  · have H := fun w => Lib.hid (doorP_uint16_int16 c h0 h1 w)
    unfold anyOf at H ⊢
    go_enter Tryd.func21, Tryd.ntmps21
    go_wp2_with (go_at_call 39; refine ((H _).out).mono ?_; rintro e w1 ⟨⟨v, rfl⟩, hb⟩)
    go_ret2
    exact ⟨⟨_, rfl⟩, by first | exact hb | exact below_new hb⟩
  · have H := fun w => Lib.hid (doorP_uint16_int32 c h0 h1 w)
    unfold anyOf at H ⊢
    go_enter Tryd.func21, Tryd.ntmps21
    go_wp2_with (go_at_call 39; refine ((H _).out).mono ?_; rintro e w1 ⟨⟨v, rfl⟩, hb⟩)
    go_ret2
    exact ⟨⟨_, rfl⟩, by first | exact hb | exact below_new hb⟩
  · have H := fun w => Lib.hid (doorP_uint16_int64 c h0 h1 w)
    unfold anyOf at H ⊢
    go_enter Tryd.func21, Tryd.ntmps21
    go_wp2_with (go_at_call 39; refine ((H _).out).mono ?_; rintro e w1 ⟨⟨v, rfl⟩, hb⟩)
    go_ret2
    exact ⟨⟨_, rfl⟩, by first | exact hb | exact below_new hb⟩

theorem castUintP_uint32 (a c : Int) (ha : (a = 2 ∧ 0 ≤ c ∧ c ≤ 9223372036854775807) ∨ (a = 3 ∧ 0 ≤ c ∧ c ≤ 127) ∨ (a = 4 ∧ 0 ≤ c ∧ c ≤ 32767) ∨ (a = 5 ∧ 0 ≤ c ∧ c ≤ 2147483647) ∨ (a = 6 ∧ 0 ≤ c ∧ c ≤ 9223372036854775807)) (w : World) :
    Calls Tryd.prog 21 #[.int .i64 10, anyOf a c 0 0 ⟨#[]⟩] w fun e w' => (∃ v : Int, e = .returned (.tuple #[.int .u64 v, .bool true])) ∧ Below w.heap.size w w' := by
  rcases ha with ⟨rfl, h0, h1⟩ | ⟨rfl, h0, h1⟩ | ⟨rfl, h0, h1⟩ | ⟨rfl, h0, h1⟩ | ⟨rfl, h0, h1⟩
  · have H := fun w => Lib.hid (doorP_uint32_int c h0 h1 w)
    unfold anyOf at H ⊢
    go_enter Tryd.func21, Tryd.ntmps21
    go_wp2_with (go_at_call 40; refine ((H _).out).mono ?_; rintro e w1 ⟨⟨v, rfl⟩, hb⟩)
    go_ret2
    exact ⟨⟨_, rfl⟩, by first | exact hb | exact below_new hb⟩
  · have H := fun w => Lib.hid (doorP_uint32_int8 c h0 h1 w)
    unfold anyOf at H ⊢
    go_enter Tryd.func21, Tryd.ntmps21
    go_wp2_with (go_at_call 40; refine ((H _).out).mono ?_; rintro e w1 ⟨⟨v, rfl⟩, hb⟩)
    go_ret2
    exact ⟨⟨_, rfl⟩, by first | exact hb | exact below_new hb⟩
  · have H := fun w => Lib.hid (doorP_uint32_int16 c h0 h1 w)
    unfold anyOf at H ⊢
    go_enter Tryd.func21, Tryd.ntmps21
    go_wp2_with (go_at_call 40; refine ((H _).out).mono ?_; rintro e w1 ⟨⟨v, rfl⟩, hb⟩)
    go_ret2
    exact ⟨⟨_, rfl⟩, by first | exact hb | exact below_new hb⟩
  · have H := fun w => Lib.hid (doorP_uint32_int32 c h0 h1 w)
    unfold anyOf at H ⊢
    go_enter Tryd.func21, Tryd.ntmps21
    go_wp2_with (go_at_call 40; refine ((H _).out).mono ?_; rintro e w1 ⟨⟨v, rfl⟩, hb⟩)
    go_ret2
    exact ⟨⟨_, rfl⟩, by first | exact hb | exact below_new hb⟩
  · have H := fun w => Lib.hid (doorP_uint32_int64 c h0 h1 w)
    unfold anyOf at H ⊢
    go_enter Tryd.func21, Tryd.ntmps21
    go_wp2_with (go_at_call 40; refine ((H _).out).mono ?_; rintro e w1 ⟨⟨v, rfl⟩, hb⟩)
    go_ret2
    exact ⟨⟨_, rfl⟩, by first | exact hb | exact below_new hb⟩

theorem castUintP_uint64 (a c : Int) (ha : (a = 2 ∧ 0 ≤ c ∧ c ≤ 9223372036854775807) ∨ (a = 3 ∧ 0 ≤ c ∧ c ≤ 127) ∨ (a = 4 ∧ 0 ≤ c ∧ c ≤ 32767) ∨ (a = 5 ∧ 0 ≤ c ∧ c ≤ 2147483647) ∨ (a = 6 ∧ 0 ≤ c ∧ c ≤ 9223372036854775807)) (w : World) :
    Calls Tryd.prog 21 #[.int .i64 11, anyOf a c 0 0 ⟨#[]⟩] w fun e w' => (∃ v : Int, e = .returned (.tuple #[.int .u64 v, .bool true])) ∧ Below w.heap.size w w' := by
  rcases ha with ⟨rfl, h0, h1⟩ | ⟨rfl, h0, h1⟩ | ⟨rfl, h0, h1⟩ | ⟨rfl, h0, h1⟩ | ⟨rfl, h0, h1⟩
  · have H := fun w => Lib.hid (doorP_uint64_int c h0 h1 w)
    unfold anyOf at H ⊢
    go_enter Tryd.func21, Tryd.ntmps21
    go_wp2_with (go_at_call 41; refine ((H _).out).mono ?_; rintro e w1 ⟨⟨v, rfl⟩, hb⟩)
    go_ret2
    exact ⟨⟨_, rfl⟩, by first | exact hb | exact below_new hb⟩
  · have H := fun w => Lib.hid (doorP_uint64_int8 c h0 h1 w)
    unfold anyOf at H ⊢
    go_enter Tryd.func21, Tryd.ntmps21
    go_wp2_with (go_at_call 41; refine ((H _).out).mono ?_; rintro e w1 ⟨⟨v, rfl⟩, hb⟩)
    go_ret2
    exact ⟨⟨_, rfl⟩, by first | exact hb | exact below_new hb⟩
  · have H := fun w => Lib.hid (doorP_uint64_int16 c h0 h1 w)
    unfold anyOf at H ⊢
    go_enter Tryd.func21, Tryd.ntmps21
    go_wp2_with (go_at_call 41; refine ((H _).out).mono ?_; rintro e w1 ⟨⟨v, rfl⟩, hb⟩)
    go_ret2
    exact ⟨⟨_, rfl⟩, by first | exact hb | exact below_new hb⟩
  · have H := fun w => Lib.hid (doorP_uint64_int32 c h0 h1 w)
    unfold anyOf at H ⊢
    go_enter Tryd.func21, Tryd.ntmps21
    go_wp2_with (go_at_call 41; refine ((H _).out).mono ?_; rintro e w1 ⟨⟨v, rfl⟩, hb⟩)
    go_ret2
    exact ⟨⟨_, rfl⟩, by first | exact hb | exact below_new hb⟩
  · have H := fun w => Lib.hid (doorP_uint64_int64 c h0 h1 w)
    unfold anyOf at H ⊢
    go_enter Tryd.func21, Tryd.ntmps21
    go_wp2_with (go_at_call 41; refine ((H _).out).mono ?_; rintro e w1 ⟨⟨v, rfl⟩, hb⟩)
    go_ret2
    exact ⟨⟨_, rfl⟩, by first | exact hb | exact below_new hb⟩

theorem castUintP_any (b a c : Int) (hb : 7 ≤ b ∧ b ≤ 11) (ha : (a = 2 ∧ 0 ≤ c ∧ c ≤ 9223372036854775807) ∨ (a = 3 ∧ 0 ≤ c ∧ c ≤ 127) ∨ (a = 4 ∧ 0 ≤ c ∧ c ≤ 32767) ∨ (a = 5 ∧ 0 ≤ c ∧ c ≤ 2147483647) ∨ (a = 6 ∧ 0 ≤ c ∧ c ≤ 9223372036854775807)) (w : World) :
    Calls Tryd.prog 21 #[.int .i64 b, anyOf a c 0 0 ⟨#[]⟩] w fun e w' => (∃ v : Int, e = .returned (.tuple #[.int .u64 v, .bool true])) ∧ Below w.heap.size w w' := by
  have h : b = 7 ∨ b = 8 ∨ b = 9 ∨ b = 10 ∨ b = 11 := by omega
  rcases h with rfl | rfl | rfl | rfl | rfl
  · exact castUintP_uint a c ha w
  · exact castUintP_uint8 a c ha w
  · exact castUintP_uint16 a c ha w
  · exact castUintP_uint32 a c ha w
  · exact castUintP_uint64 a c ha w

theorem cut_in (a n : Int) (ha : 2 ≤ a ∧ a ≤ 6) (hn : -9223372036854775808 ≤ n ∧ n ≤ 9223372036854775807) : (cutI a n < 0 → (a = 2 ∧ -9223372036854775808 ≤ cutI a n ∧ cutI a n < 0) ∨ (a = 3 ∧ -128 ≤ cutI a n ∧ cutI a n < 0) ∨ (a = 4 ∧ -32768 ≤ cutI a n ∧ cutI a n < 0) ∨ (a = 5 ∧ -2147483648 ≤ cutI a n ∧ cutI a n < 0) ∨ (a = 6 ∧ -9223372036854775808 ≤ cutI a n ∧ cutI a n < 0)) ∧
    (0 ≤ cutI a n → (a = 2 ∧ 0 ≤ cutI a n ∧ cutI a n ≤ 9223372036854775807) ∨ (a = 3 ∧ 0 ≤ cutI a n ∧ cutI a n ≤ 127) ∨ (a = 4 ∧ 0 ≤ cutI a n ∧ cutI a n ≤ 32767) ∨ (a = 5 ∧ 0 ≤ cutI a n ∧ cutI a n ≤ 2147483647) ∨ (a = 6 ∧ 0 ≤ cutI a n ∧ cutI a n ≤ 9223372036854775807)) := by
  have h : a = 2 ∨ a = 3 ∨ a = 4 ∨ a = 5 ∨ a = 6 := by omega
  clear ha
  rcases h with rfl | rfl | rfl | rfl | rfl
  all_goals
    constructor
    all_goals
      simp [cutI, wrap32, IntKind.wrap, IntKind.bits, IntKind.signed]
      try omega

theorem fnCastNegative_any (k t n : Int) (w : World) (hn : -9223372036854775808 ≤ n ∧ n ≤ 9223372036854775807) :
    Calls Tryd.prog 7 #[.int .i64 k, .int .i64 t, .int .i64 n] w fun e w' => e = .returned (.bool true) ∧ Below w.heap.size w w' := by
  have HK := fun w => Lib.hid (castKindInt_any k w)
  have HU := fun w => Lib.hid (castKindUint_any t w)
  obtain ⟨r0, r1⟩ := kindI_range k
  have hu := kindU_range t
  generalize kindI k = a at HK r0 r1
  generalize kindU t = b at HU hu
  have HS := fun w => Lib.hid (castCutInt_any a n w ⟨r0, r1⟩ hn)
  obtain ⟨f1, f2⟩ := cut_in a n ⟨r0, r1⟩ hn
  have HL := fun w => Lib.hid (castLives_any w)
  clear hn
  generalize cutI a n = c at HS f1 f2
  by_cases hc : c < 0
  · have HC := fun w => Lib.hid (castUintN_any b a c hu (f1 hc) w)
    unfold anyOf at HC
    have hc2 : ¬ 0 ≤ c := by omega
    clear f1 f2 hu
    go_enter Tryd.func7, Tryd.ntmps7
    go_wp2_with (first
      | (go_at_call 14; refine ((HK _).out).mono ?_; rintro e w1 ⟨rfl, rfl⟩)
      | (go_at_call 22; refine ((HU _).out).mono ?_; rintro e w1 ⟨rfl, rfl⟩)
      | (go_at_call 21; refine ((HC _).out).mono ?_; rintro e w1 ⟨rfl, hb⟩)
      | (go_at_call 20; refine ((HL _).out).mono ?_; rintro e w2 ⟨rfl, hb2⟩)
      | (go_at_call 16; refine ((HS _).out).mono ?_; rintro e w2 ⟨rfl, rfl⟩))
    go_ret
    exact ⟨rfl, by first | exact below_step hb hb2 | exact below_step (below_new hb) hb2⟩
  · have HC := fun w => Lib.hid (castUintP_any b a c hu (f2 (by omega)) w)
    unfold anyOf at HC
    have hc2 : 0 ≤ c := by omega
    clear f1 f2 hu hc
    go_enter Tryd.func7, Tryd.ntmps7
    go_wp2_with (first
      | (go_at_call 14; refine ((HK _).out).mono ?_; rintro e w1 ⟨rfl, rfl⟩)
      | (go_at_call 22; refine ((HU _).out).mono ?_; rintro e w1 ⟨rfl, rfl⟩)
      | (go_at_call 21; refine ((HC _).out).mono ?_; rintro e w1 ⟨⟨v, rfl⟩, hb⟩)
      | (go_at_call 20; refine ((HL _).out).mono ?_; rintro e w2 ⟨rfl, hb2⟩)
      | (go_at_call 16; refine ((HS _).out).mono ?_; rintro e w2 ⟨rfl, rfl⟩))
    go_ret
    exact ⟨rfl, by first | exact below_step hb hb2 | exact below_step (below_new hb) hb2⟩
end Go.Proofs.YtbdheiepiolfhaaDoor.E
