/- The walk of laws.FnCastIntFits, over this seat's program. Written by gen_castfits.py. -/
import Derived.Test.YtbdheiepiolfhaaGreatDoorCastInts
import Derived.Test.YtbdheiepiolfhaaGreatDoorCastNeg
namespace Go.Proofs.YtbdheiepiolfhaaGreatDoor.E
open Go.RowKit
set_option linter.unusedVariables false
set_option linter.unusedSimpArgs false

theorem castIntF_int (a c : Int) (ha : (a = 2 ∧ -9223372036854775808 ≤ c ∧ c ≤ 9223372036854775807) ∨ (a = 3 ∧ -128 ≤ c ∧ c ≤ 127) ∨ (a = 4 ∧ -32768 ≤ c ∧ c ≤ 32767) ∨ (a = 5 ∧ -2147483648 ≤ c ∧ c ≤ 2147483647) ∨ (a = 6 ∧ -9223372036854775808 ≤ c ∧ c ≤ 9223372036854775807)) (w : World) :
    Calls Tryz.prog 8 #[.int .i64 2, anyOf a c 0 0 ⟨#[]⟩] w fun e w' => (∃ v : Int, v = cutI 2 c ∧ e = .returned (.tuple #[.int .i64 v, .bool true])) ∧ Below w.heap.size w w' := by
  rcases ha with ⟨rfl, h0, h1⟩ | ⟨rfl, h0, h1⟩ | ⟨rfl, h0, h1⟩ | ⟨rfl, h0, h1⟩ | ⟨rfl, h0, h1⟩
  · have H := fun w => Lib.hid (doorI_int_int c h0 h1 w)
    unfold anyOf at H ⊢
    go_enter Tryz.func8, Tryz.ntmps8
    go_wp2_with (go_at_call 18; refine ((H _).out).mono ?_; rintro e w1 ⟨rfl, hb⟩)
    go_ret2
    exact ⟨⟨_, (by first | rfl | (simp [cutI, wrap32, IntKind.wrap, IntKind.bits, IntKind.signed]; omega)), rfl⟩, by first | exact hb | exact below_new hb⟩
  · have H := fun w => Lib.hid (doorI_int_int8 c h0 h1 w)
    unfold anyOf at H ⊢
    go_enter Tryz.func8, Tryz.ntmps8
    go_wp2_with (go_at_call 18; refine ((H _).out).mono ?_; rintro e w1 ⟨rfl, hb⟩)
    go_ret2
    exact ⟨⟨_, (by first | rfl | (simp [cutI, wrap32, IntKind.wrap, IntKind.bits, IntKind.signed]; omega)), rfl⟩, by first | exact hb | exact below_new hb⟩
  · have H := fun w => Lib.hid (doorI_int_int16 c h0 h1 w)
    unfold anyOf at H ⊢
    go_enter Tryz.func8, Tryz.ntmps8
    go_wp2_with (go_at_call 18; refine ((H _).out).mono ?_; rintro e w1 ⟨rfl, hb⟩)
    go_ret2
    exact ⟨⟨_, (by first | rfl | (simp [cutI, wrap32, IntKind.wrap, IntKind.bits, IntKind.signed]; omega)), rfl⟩, by first | exact hb | exact below_new hb⟩
  · have H := fun w => Lib.hid (doorI_int_int32 c h0 h1 w)
    unfold anyOf at H ⊢
    go_enter Tryz.func8, Tryz.ntmps8
    go_wp2_with (go_at_call 18; refine ((H _).out).mono ?_; rintro e w1 ⟨rfl, hb⟩)
    go_ret2
    exact ⟨⟨_, (by first | rfl | (simp [cutI, wrap32, IntKind.wrap, IntKind.bits, IntKind.signed]; omega)), rfl⟩, by first | exact hb | exact below_new hb⟩
  · have H := fun w => Lib.hid (doorI_int_int64 c h0 h1 w)
    unfold anyOf at H ⊢
    go_enter Tryz.func8, Tryz.ntmps8
    go_wp2_with (go_at_call 18; refine ((H _).out).mono ?_; rintro e w1 ⟨rfl, hb⟩)
    go_ret2
    exact ⟨⟨_, (by first | rfl | (simp [cutI, wrap32, IntKind.wrap, IntKind.bits, IntKind.signed]; omega)), rfl⟩, by first | exact hb | exact below_new hb⟩

theorem castIntF_int8 (a c : Int) (ha : (a = 2 ∧ -9223372036854775808 ≤ c ∧ c ≤ 9223372036854775807) ∨ (a = 3 ∧ -128 ≤ c ∧ c ≤ 127) ∨ (a = 4 ∧ -32768 ≤ c ∧ c ≤ 32767) ∨ (a = 5 ∧ -2147483648 ≤ c ∧ c ≤ 2147483647) ∨ (a = 6 ∧ -9223372036854775808 ≤ c ∧ c ≤ 9223372036854775807)) (w : World) :
    Calls Tryz.prog 8 #[.int .i64 3, anyOf a c 0 0 ⟨#[]⟩] w fun e w' => (∃ v : Int, v = cutI 3 c ∧ e = .returned (.tuple #[.int .i64 v, .bool true])) ∧ Below w.heap.size w w' := by
  rcases ha with ⟨rfl, h0, h1⟩ | ⟨rfl, h0, h1⟩ | ⟨rfl, h0, h1⟩ | ⟨rfl, h0, h1⟩ | ⟨rfl, h0, h1⟩
  · have H := fun w => Lib.hid (doorI_int8_int c h0 h1 w)
    unfold anyOf at H ⊢
    go_enter Tryz.func8, Tryz.ntmps8
    go_wp2_with (go_at_call 14; refine ((H _).out).mono ?_; rintro e w1 ⟨rfl, hb⟩)
    go_ret2
    exact ⟨⟨_, (by first | rfl | (simp [cutI, wrap32, IntKind.wrap, IntKind.bits, IntKind.signed]; omega)), rfl⟩, by first | exact hb | exact below_new hb⟩
  · have H := fun w => Lib.hid (doorI_int8_int8 c h0 h1 w)
    unfold anyOf at H ⊢
    go_enter Tryz.func8, Tryz.ntmps8
    go_wp2_with (go_at_call 14; refine ((H _).out).mono ?_; rintro e w1 ⟨rfl, hb⟩)
    go_ret2
    exact ⟨⟨_, (by first | rfl | (simp [cutI, wrap32, IntKind.wrap, IntKind.bits, IntKind.signed]; omega)), rfl⟩, by first | exact hb | exact below_new hb⟩
  · have H := fun w => Lib.hid (doorI_int8_int16 c h0 h1 w)
    unfold anyOf at H ⊢
    go_enter Tryz.func8, Tryz.ntmps8
    go_wp2_with (go_at_call 14; refine ((H _).out).mono ?_; rintro e w1 ⟨rfl, hb⟩)
    go_ret2
    exact ⟨⟨_, (by first | rfl | (simp [cutI, wrap32, IntKind.wrap, IntKind.bits, IntKind.signed]; omega)), rfl⟩, by first | exact hb | exact below_new hb⟩
  · have H := fun w => Lib.hid (doorI_int8_int32 c h0 h1 w)
    unfold anyOf at H ⊢
    go_enter Tryz.func8, Tryz.ntmps8
    go_wp2_with (go_at_call 14; refine ((H _).out).mono ?_; rintro e w1 ⟨rfl, hb⟩)
    go_ret2
    exact ⟨⟨_, (by first | rfl | (simp [cutI, wrap32, IntKind.wrap, IntKind.bits, IntKind.signed]; omega)), rfl⟩, by first | exact hb | exact below_new hb⟩
  · have H := fun w => Lib.hid (doorI_int8_int64 c h0 h1 w)
    unfold anyOf at H ⊢
    go_enter Tryz.func8, Tryz.ntmps8
    go_wp2_with (go_at_call 14; refine ((H _).out).mono ?_; rintro e w1 ⟨rfl, hb⟩)
    go_ret2
    exact ⟨⟨_, (by first | rfl | (simp [cutI, wrap32, IntKind.wrap, IntKind.bits, IntKind.signed]; omega)), rfl⟩, by first | exact hb | exact below_new hb⟩

theorem castIntF_int16 (a c : Int) (ha : (a = 2 ∧ -9223372036854775808 ≤ c ∧ c ≤ 9223372036854775807) ∨ (a = 3 ∧ -128 ≤ c ∧ c ≤ 127) ∨ (a = 4 ∧ -32768 ≤ c ∧ c ≤ 32767) ∨ (a = 5 ∧ -2147483648 ≤ c ∧ c ≤ 2147483647) ∨ (a = 6 ∧ -9223372036854775808 ≤ c ∧ c ≤ 9223372036854775807)) (w : World) :
    Calls Tryz.prog 8 #[.int .i64 4, anyOf a c 0 0 ⟨#[]⟩] w fun e w' => (∃ v : Int, v = cutI 4 c ∧ e = .returned (.tuple #[.int .i64 v, .bool true])) ∧ Below w.heap.size w w' := by
  rcases ha with ⟨rfl, h0, h1⟩ | ⟨rfl, h0, h1⟩ | ⟨rfl, h0, h1⟩ | ⟨rfl, h0, h1⟩ | ⟨rfl, h0, h1⟩
  · have H := fun w => Lib.hid (doorI_int16_int c h0 h1 w)
    unfold anyOf at H ⊢
    go_enter Tryz.func8, Tryz.ntmps8
    go_wp2_with (go_at_call 15; refine ((H _).out).mono ?_; rintro e w1 ⟨rfl, hb⟩)
    go_ret2
    exact ⟨⟨_, (by first | rfl | (simp [cutI, wrap32, IntKind.wrap, IntKind.bits, IntKind.signed]; omega)), rfl⟩, by first | exact hb | exact below_new hb⟩
  · have H := fun w => Lib.hid (doorI_int16_int8 c h0 h1 w)
    unfold anyOf at H ⊢
    go_enter Tryz.func8, Tryz.ntmps8
    go_wp2_with (go_at_call 15; refine ((H _).out).mono ?_; rintro e w1 ⟨rfl, hb⟩)
    go_ret2
    exact ⟨⟨_, (by first | rfl | (simp [cutI, wrap32, IntKind.wrap, IntKind.bits, IntKind.signed]; omega)), rfl⟩, by first | exact hb | exact below_new hb⟩
  · have H := fun w => Lib.hid (doorI_int16_int16 c h0 h1 w)
    unfold anyOf at H ⊢
    go_enter Tryz.func8, Tryz.ntmps8
    go_wp2_with (go_at_call 15; refine ((H _).out).mono ?_; rintro e w1 ⟨rfl, hb⟩)
    go_ret2
    exact ⟨⟨_, (by first | rfl | (simp [cutI, wrap32, IntKind.wrap, IntKind.bits, IntKind.signed]; omega)), rfl⟩, by first | exact hb | exact below_new hb⟩
  · have H := fun w => Lib.hid (doorI_int16_int32 c h0 h1 w)
    unfold anyOf at H ⊢
    go_enter Tryz.func8, Tryz.ntmps8
    go_wp2_with (go_at_call 15; refine ((H _).out).mono ?_; rintro e w1 ⟨rfl, hb⟩)
    go_ret2
    exact ⟨⟨_, (by first | rfl | (simp [cutI, wrap32, IntKind.wrap, IntKind.bits, IntKind.signed]; omega)), rfl⟩, by first | exact hb | exact below_new hb⟩
  · have H := fun w => Lib.hid (doorI_int16_int64 c h0 h1 w)
    unfold anyOf at H ⊢
    go_enter Tryz.func8, Tryz.ntmps8
    go_wp2_with (go_at_call 15; refine ((H _).out).mono ?_; rintro e w1 ⟨rfl, hb⟩)
    go_ret2
    exact ⟨⟨_, (by first | rfl | (simp [cutI, wrap32, IntKind.wrap, IntKind.bits, IntKind.signed]; omega)), rfl⟩, by first | exact hb | exact below_new hb⟩

theorem castIntF_int32 (a c : Int) (ha : (a = 2 ∧ -9223372036854775808 ≤ c ∧ c ≤ 9223372036854775807) ∨ (a = 3 ∧ -128 ≤ c ∧ c ≤ 127) ∨ (a = 4 ∧ -32768 ≤ c ∧ c ≤ 32767) ∨ (a = 5 ∧ -2147483648 ≤ c ∧ c ≤ 2147483647) ∨ (a = 6 ∧ -9223372036854775808 ≤ c ∧ c ≤ 9223372036854775807)) (w : World) :
    Calls Tryz.prog 8 #[.int .i64 5, anyOf a c 0 0 ⟨#[]⟩] w fun e w' => (∃ v : Int, v = cutI 5 c ∧ e = .returned (.tuple #[.int .i64 v, .bool true])) ∧ Below w.heap.size w w' := by
  rcases ha with ⟨rfl, h0, h1⟩ | ⟨rfl, h0, h1⟩ | ⟨rfl, h0, h1⟩ | ⟨rfl, h0, h1⟩ | ⟨rfl, h0, h1⟩
  · have H := fun w => Lib.hid (doorI_int32_int c h0 h1 w)
    unfold anyOf at H ⊢
    go_enter Tryz.func8, Tryz.ntmps8
    go_wp2_with (go_at_call 16; refine ((H _).out).mono ?_; rintro e w1 ⟨rfl, hb⟩)
    go_ret2
    exact ⟨⟨_, (by first | rfl | (simp [cutI, wrap32, IntKind.wrap, IntKind.bits, IntKind.signed]; omega)), rfl⟩, by first | exact hb | exact below_new hb⟩
  · have H := fun w => Lib.hid (doorI_int32_int8 c h0 h1 w)
    unfold anyOf at H ⊢
    go_enter Tryz.func8, Tryz.ntmps8
    go_wp2_with (go_at_call 16; refine ((H _).out).mono ?_; rintro e w1 ⟨rfl, hb⟩)
    go_ret2
    exact ⟨⟨_, (by first | rfl | (simp [cutI, wrap32, IntKind.wrap, IntKind.bits, IntKind.signed]; omega)), rfl⟩, by first | exact hb | exact below_new hb⟩
  · have H := fun w => Lib.hid (doorI_int32_int16 c h0 h1 w)
    unfold anyOf at H ⊢
    go_enter Tryz.func8, Tryz.ntmps8
    go_wp2_with (go_at_call 16; refine ((H _).out).mono ?_; rintro e w1 ⟨rfl, hb⟩)
    go_ret2
    exact ⟨⟨_, (by first | rfl | (simp [cutI, wrap32, IntKind.wrap, IntKind.bits, IntKind.signed]; omega)), rfl⟩, by first | exact hb | exact below_new hb⟩
  · have H := fun w => Lib.hid (doorI_int32_int32 c h0 h1 w)
    unfold anyOf at H ⊢
    go_enter Tryz.func8, Tryz.ntmps8
    go_wp2_with (go_at_call 16; refine ((H _).out).mono ?_; rintro e w1 ⟨rfl, hb⟩)
    go_ret2
    exact ⟨⟨_, (by first | rfl | (simp [cutI, wrap32, IntKind.wrap, IntKind.bits, IntKind.signed]; omega)), rfl⟩, by first | exact hb | exact below_new hb⟩
  · have H := fun w => Lib.hid (doorI_int32_int64 c h0 h1 w)
    unfold anyOf at H ⊢
    go_enter Tryz.func8, Tryz.ntmps8
    go_wp2_with (go_at_call 16; refine ((H _).out).mono ?_; rintro e w1 ⟨rfl, hb⟩)
    go_ret2
    exact ⟨⟨_, (by first | rfl | (simp [cutI, wrap32, IntKind.wrap, IntKind.bits, IntKind.signed]; omega)), rfl⟩, by first | exact hb | exact below_new hb⟩

theorem castIntF_int64 (a c : Int) (ha : (a = 2 ∧ -9223372036854775808 ≤ c ∧ c ≤ 9223372036854775807) ∨ (a = 3 ∧ -128 ≤ c ∧ c ≤ 127) ∨ (a = 4 ∧ -32768 ≤ c ∧ c ≤ 32767) ∨ (a = 5 ∧ -2147483648 ≤ c ∧ c ≤ 2147483647) ∨ (a = 6 ∧ -9223372036854775808 ≤ c ∧ c ≤ 9223372036854775807)) (w : World) :
    Calls Tryz.prog 8 #[.int .i64 6, anyOf a c 0 0 ⟨#[]⟩] w fun e w' => (∃ v : Int, v = cutI 6 c ∧ e = .returned (.tuple #[.int .i64 v, .bool true])) ∧ Below w.heap.size w w' := by
  rcases ha with ⟨rfl, h0, h1⟩ | ⟨rfl, h0, h1⟩ | ⟨rfl, h0, h1⟩ | ⟨rfl, h0, h1⟩ | ⟨rfl, h0, h1⟩
  · have H := fun w => Lib.hid (doorI_int64_int c h0 h1 w)
    unfold anyOf at H ⊢
    go_enter Tryz.func8, Tryz.ntmps8
    go_wp2_with (go_at_call 17; refine ((H _).out).mono ?_; rintro e w1 ⟨rfl, hb⟩)
    go_ret2
    exact ⟨⟨_, (by first | rfl | (simp [cutI, wrap32, IntKind.wrap, IntKind.bits, IntKind.signed]; omega)), rfl⟩, by first | exact hb | exact below_new hb⟩
  · have H := fun w => Lib.hid (doorI_int64_int8 c h0 h1 w)
    unfold anyOf at H ⊢
    go_enter Tryz.func8, Tryz.ntmps8
    go_wp2_with (go_at_call 17; refine ((H _).out).mono ?_; rintro e w1 ⟨rfl, hb⟩)
    go_ret2
    exact ⟨⟨_, (by first | rfl | (simp [cutI, wrap32, IntKind.wrap, IntKind.bits, IntKind.signed]; omega)), rfl⟩, by first | exact hb | exact below_new hb⟩
  · have H := fun w => Lib.hid (doorI_int64_int16 c h0 h1 w)
    unfold anyOf at H ⊢
    go_enter Tryz.func8, Tryz.ntmps8
    go_wp2_with (go_at_call 17; refine ((H _).out).mono ?_; rintro e w1 ⟨rfl, hb⟩)
    go_ret2
    exact ⟨⟨_, (by first | rfl | (simp [cutI, wrap32, IntKind.wrap, IntKind.bits, IntKind.signed]; omega)), rfl⟩, by first | exact hb | exact below_new hb⟩
  · have H := fun w => Lib.hid (doorI_int64_int32 c h0 h1 w)
    unfold anyOf at H ⊢
    go_enter Tryz.func8, Tryz.ntmps8
    go_wp2_with (go_at_call 17; refine ((H _).out).mono ?_; rintro e w1 ⟨rfl, hb⟩)
    go_ret2
    exact ⟨⟨_, (by first | rfl | (simp [cutI, wrap32, IntKind.wrap, IntKind.bits, IntKind.signed]; omega)), rfl⟩, by first | exact hb | exact below_new hb⟩
  · have H := fun w => Lib.hid (doorI_int64_int64 c h0 h1 w)
    unfold anyOf at H ⊢
    go_enter Tryz.func8, Tryz.ntmps8
    go_wp2_with (go_at_call 17; refine ((H _).out).mono ?_; rintro e w1 ⟨rfl, hb⟩)
    go_ret2
    exact ⟨⟨_, (by first | rfl | (simp [cutI, wrap32, IntKind.wrap, IntKind.bits, IntKind.signed]; omega)), rfl⟩, by first | exact hb | exact below_new hb⟩

theorem castIntF_any (b a c : Int) (hb : 2 ≤ b ∧ b ≤ 6) (ha : (a = 2 ∧ -9223372036854775808 ≤ c ∧ c ≤ 9223372036854775807) ∨ (a = 3 ∧ -128 ≤ c ∧ c ≤ 127) ∨ (a = 4 ∧ -32768 ≤ c ∧ c ≤ 32767) ∨ (a = 5 ∧ -2147483648 ≤ c ∧ c ≤ 2147483647) ∨ (a = 6 ∧ -9223372036854775808 ≤ c ∧ c ≤ 9223372036854775807)) (w : World) :
    Calls Tryz.prog 8 #[.int .i64 b, anyOf a c 0 0 ⟨#[]⟩] w fun e w' => (∃ v : Int, v = cutI b c ∧ e = .returned (.tuple #[.int .i64 v, .bool true])) ∧ Below w.heap.size w w' := by
  have h : b = 2 ∨ b = 3 ∨ b = 4 ∨ b = 5 ∨ b = 6 := by omega
  rcases h with rfl | rfl | rfl | rfl | rfl
  · exact castIntF_int a c ha w
  · exact castIntF_int8 a c ha w
  · exact castIntF_int16 a c ha w
  · exact castIntF_int32 a c ha w
  · exact castIntF_int64 a c ha w

theorem castUintFN_uint (a c : Int) (ha : (a = 2 ∧ -9223372036854775808 ≤ c ∧ c < 0) ∨ (a = 3 ∧ -128 ≤ c ∧ c < 0) ∨ (a = 4 ∧ -32768 ≤ c ∧ c < 0) ∨ (a = 5 ∧ -2147483648 ≤ c ∧ c < 0) ∨ (a = 6 ∧ -9223372036854775808 ≤ c ∧ c < 0)) (w : World) :
    Calls Tryz.prog 9 #[.int .i64 7, anyOf a c 0 0 ⟨#[]⟩] w fun e w' => (e = .returned (.tuple #[.int .u64 0, .bool false])) ∧ Below w.heap.size w w' := by
  rcases ha with ⟨rfl, h0, h1⟩ | ⟨rfl, h0, h1⟩ | ⟨rfl, h0, h1⟩ | ⟨rfl, h0, h1⟩ | ⟨rfl, h0, h1⟩
  · have H := fun w => Lib.hid (doorN_uint_int c h0 h1 w)
    unfold anyOf at H ⊢
    go_enter Tryz.func9, Tryz.ntmps9
    go_wp2_with (go_at_call 23; refine ((H _).out).mono ?_; rintro e w1 ⟨rfl, hb⟩)
    go_ret2
    exact ⟨rfl, by first | exact hb | exact below_new hb⟩
  · have H := fun w => Lib.hid (doorN_uint_int8 c h0 h1 w)
    unfold anyOf at H ⊢
    go_enter Tryz.func9, Tryz.ntmps9
    go_wp2_with (go_at_call 23; refine ((H _).out).mono ?_; rintro e w1 ⟨rfl, hb⟩)
    go_ret2
    exact ⟨rfl, by first | exact hb | exact below_new hb⟩
  · have H := fun w => Lib.hid (doorN_uint_int16 c h0 h1 w)
    unfold anyOf at H ⊢
    go_enter Tryz.func9, Tryz.ntmps9
    go_wp2_with (go_at_call 23; refine ((H _).out).mono ?_; rintro e w1 ⟨rfl, hb⟩)
    go_ret2
    exact ⟨rfl, by first | exact hb | exact below_new hb⟩
  · have H := fun w => Lib.hid (doorN_uint_int32 c h0 h1 w)
    unfold anyOf at H ⊢
    go_enter Tryz.func9, Tryz.ntmps9
    go_wp2_with (go_at_call 23; refine ((H _).out).mono ?_; rintro e w1 ⟨rfl, hb⟩)
    go_ret2
    exact ⟨rfl, by first | exact hb | exact below_new hb⟩
  · have H := fun w => Lib.hid (doorN_uint_int64 c h0 h1 w)
    unfold anyOf at H ⊢
    go_enter Tryz.func9, Tryz.ntmps9
    go_wp2_with (go_at_call 23; refine ((H _).out).mono ?_; rintro e w1 ⟨rfl, hb⟩)
    go_ret2
    exact ⟨rfl, by first | exact hb | exact below_new hb⟩

theorem castUintFN_uint8 (a c : Int) (ha : (a = 2 ∧ -9223372036854775808 ≤ c ∧ c < 0) ∨ (a = 3 ∧ -128 ≤ c ∧ c < 0) ∨ (a = 4 ∧ -32768 ≤ c ∧ c < 0) ∨ (a = 5 ∧ -2147483648 ≤ c ∧ c < 0) ∨ (a = 6 ∧ -9223372036854775808 ≤ c ∧ c < 0)) (w : World) :
    Calls Tryz.prog 9 #[.int .i64 8, anyOf a c 0 0 ⟨#[]⟩] w fun e w' => (e = .returned (.tuple #[.int .u64 0, .bool false])) ∧ Below w.heap.size w w' := by
  rcases ha with ⟨rfl, h0, h1⟩ | ⟨rfl, h0, h1⟩ | ⟨rfl, h0, h1⟩ | ⟨rfl, h0, h1⟩ | ⟨rfl, h0, h1⟩
  · have H := fun w => Lib.hid (doorN_uint8_int c h0 h1 w)
    unfold anyOf at H ⊢
    go_enter Tryz.func9, Tryz.ntmps9
    go_wp2_with (go_at_call 19; refine ((H _).out).mono ?_; rintro e w1 ⟨rfl, hb⟩)
    go_ret2
    exact ⟨rfl, by first | exact hb | exact below_new hb⟩
  · have H := fun w => Lib.hid (doorN_uint8_int8 c h0 h1 w)
    unfold anyOf at H ⊢
    go_enter Tryz.func9, Tryz.ntmps9
    go_wp2_with (go_at_call 19; refine ((H _).out).mono ?_; rintro e w1 ⟨rfl, hb⟩)
    go_ret2
    exact ⟨rfl, by first | exact hb | exact below_new hb⟩
  · have H := fun w => Lib.hid (doorN_uint8_int16 c h0 h1 w)
    unfold anyOf at H ⊢
    go_enter Tryz.func9, Tryz.ntmps9
    go_wp2_with (go_at_call 19; refine ((H _).out).mono ?_; rintro e w1 ⟨rfl, hb⟩)
    go_ret2
    exact ⟨rfl, by first | exact hb | exact below_new hb⟩
  · have H := fun w => Lib.hid (doorN_uint8_int32 c h0 h1 w)
    unfold anyOf at H ⊢
    go_enter Tryz.func9, Tryz.ntmps9
    go_wp2_with (go_at_call 19; refine ((H _).out).mono ?_; rintro e w1 ⟨rfl, hb⟩)
    go_ret2
    exact ⟨rfl, by first | exact hb | exact below_new hb⟩
  · have H := fun w => Lib.hid (doorN_uint8_int64 c h0 h1 w)
    unfold anyOf at H ⊢
    go_enter Tryz.func9, Tryz.ntmps9
    go_wp2_with (go_at_call 19; refine ((H _).out).mono ?_; rintro e w1 ⟨rfl, hb⟩)
    go_ret2
    exact ⟨rfl, by first | exact hb | exact below_new hb⟩

theorem castUintFN_uint16 (a c : Int) (ha : (a = 2 ∧ -9223372036854775808 ≤ c ∧ c < 0) ∨ (a = 3 ∧ -128 ≤ c ∧ c < 0) ∨ (a = 4 ∧ -32768 ≤ c ∧ c < 0) ∨ (a = 5 ∧ -2147483648 ≤ c ∧ c < 0) ∨ (a = 6 ∧ -9223372036854775808 ≤ c ∧ c < 0)) (w : World) :
    Calls Tryz.prog 9 #[.int .i64 9, anyOf a c 0 0 ⟨#[]⟩] w fun e w' => (e = .returned (.tuple #[.int .u64 0, .bool false])) ∧ Below w.heap.size w w' := by
  rcases ha with ⟨rfl, h0, h1⟩ | ⟨rfl, h0, h1⟩ | ⟨rfl, h0, h1⟩ | ⟨rfl, h0, h1⟩ | ⟨rfl, h0, h1⟩
  · have H := fun w => Lib.hid (doorN_uint16_int c h0 h1 w)
    unfold anyOf at H ⊢
    go_enter Tryz.func9, Tryz.ntmps9
    go_wp2_with (go_at_call 20; refine ((H _).out).mono ?_; rintro e w1 ⟨rfl, hb⟩)
    go_ret2
    exact ⟨rfl, by first | exact hb | exact below_new hb⟩
  · have H := fun w => Lib.hid (doorN_uint16_int8 c h0 h1 w)
    unfold anyOf at H ⊢
    go_enter Tryz.func9, Tryz.ntmps9
    go_wp2_with (go_at_call 20; refine ((H _).out).mono ?_; rintro e w1 ⟨rfl, hb⟩)
    go_ret2
    exact ⟨rfl, by first | exact hb | exact below_new hb⟩
  · have H := fun w => Lib.hid (doorN_uint16_int16 c h0 h1 w)
    unfold anyOf at H ⊢
    go_enter Tryz.func9, Tryz.ntmps9
    go_wp2_with (go_at_call 20; refine ((H _).out).mono ?_; rintro e w1 ⟨rfl, hb⟩)
    go_ret2
    exact ⟨rfl, by first | exact hb | exact below_new hb⟩
  · have H := fun w => Lib.hid (doorN_uint16_int32 c h0 h1 w)
    unfold anyOf at H ⊢
    go_enter Tryz.func9, Tryz.ntmps9
    go_wp2_with (go_at_call 20; refine ((H _).out).mono ?_; rintro e w1 ⟨rfl, hb⟩)
    go_ret2
    exact ⟨rfl, by first | exact hb | exact below_new hb⟩
  · have H := fun w => Lib.hid (doorN_uint16_int64 c h0 h1 w)
    unfold anyOf at H ⊢
    go_enter Tryz.func9, Tryz.ntmps9
    go_wp2_with (go_at_call 20; refine ((H _).out).mono ?_; rintro e w1 ⟨rfl, hb⟩)
    go_ret2
    exact ⟨rfl, by first | exact hb | exact below_new hb⟩

theorem castUintFN_uint32 (a c : Int) (ha : (a = 2 ∧ -9223372036854775808 ≤ c ∧ c < 0) ∨ (a = 3 ∧ -128 ≤ c ∧ c < 0) ∨ (a = 4 ∧ -32768 ≤ c ∧ c < 0) ∨ (a = 5 ∧ -2147483648 ≤ c ∧ c < 0) ∨ (a = 6 ∧ -9223372036854775808 ≤ c ∧ c < 0)) (w : World) :
    Calls Tryz.prog 9 #[.int .i64 10, anyOf a c 0 0 ⟨#[]⟩] w fun e w' => (e = .returned (.tuple #[.int .u64 0, .bool false])) ∧ Below w.heap.size w w' := by
  rcases ha with ⟨rfl, h0, h1⟩ | ⟨rfl, h0, h1⟩ | ⟨rfl, h0, h1⟩ | ⟨rfl, h0, h1⟩ | ⟨rfl, h0, h1⟩
  · have H := fun w => Lib.hid (doorN_uint32_int c h0 h1 w)
    unfold anyOf at H ⊢
    go_enter Tryz.func9, Tryz.ntmps9
    go_wp2_with (go_at_call 21; refine ((H _).out).mono ?_; rintro e w1 ⟨rfl, hb⟩)
    go_ret2
    exact ⟨rfl, by first | exact hb | exact below_new hb⟩
  · have H := fun w => Lib.hid (doorN_uint32_int8 c h0 h1 w)
    unfold anyOf at H ⊢
    go_enter Tryz.func9, Tryz.ntmps9
    go_wp2_with (go_at_call 21; refine ((H _).out).mono ?_; rintro e w1 ⟨rfl, hb⟩)
    go_ret2
    exact ⟨rfl, by first | exact hb | exact below_new hb⟩
  · have H := fun w => Lib.hid (doorN_uint32_int16 c h0 h1 w)
    unfold anyOf at H ⊢
    go_enter Tryz.func9, Tryz.ntmps9
    go_wp2_with (go_at_call 21; refine ((H _).out).mono ?_; rintro e w1 ⟨rfl, hb⟩)
    go_ret2
    exact ⟨rfl, by first | exact hb | exact below_new hb⟩
  · have H := fun w => Lib.hid (doorN_uint32_int32 c h0 h1 w)
    unfold anyOf at H ⊢
    go_enter Tryz.func9, Tryz.ntmps9
    go_wp2_with (go_at_call 21; refine ((H _).out).mono ?_; rintro e w1 ⟨rfl, hb⟩)
    go_ret2
    exact ⟨rfl, by first | exact hb | exact below_new hb⟩
  · have H := fun w => Lib.hid (doorN_uint32_int64 c h0 h1 w)
    unfold anyOf at H ⊢
    go_enter Tryz.func9, Tryz.ntmps9
    go_wp2_with (go_at_call 21; refine ((H _).out).mono ?_; rintro e w1 ⟨rfl, hb⟩)
    go_ret2
    exact ⟨rfl, by first | exact hb | exact below_new hb⟩

theorem castUintFN_uint64 (a c : Int) (ha : (a = 2 ∧ -9223372036854775808 ≤ c ∧ c < 0) ∨ (a = 3 ∧ -128 ≤ c ∧ c < 0) ∨ (a = 4 ∧ -32768 ≤ c ∧ c < 0) ∨ (a = 5 ∧ -2147483648 ≤ c ∧ c < 0) ∨ (a = 6 ∧ -9223372036854775808 ≤ c ∧ c < 0)) (w : World) :
    Calls Tryz.prog 9 #[.int .i64 11, anyOf a c 0 0 ⟨#[]⟩] w fun e w' => (e = .returned (.tuple #[.int .u64 0, .bool false])) ∧ Below w.heap.size w w' := by
  rcases ha with ⟨rfl, h0, h1⟩ | ⟨rfl, h0, h1⟩ | ⟨rfl, h0, h1⟩ | ⟨rfl, h0, h1⟩ | ⟨rfl, h0, h1⟩
  · have H := fun w => Lib.hid (doorN_uint64_int c h0 h1 w)
    unfold anyOf at H ⊢
    go_enter Tryz.func9, Tryz.ntmps9
    go_wp2_with (go_at_call 22; refine ((H _).out).mono ?_; rintro e w1 ⟨rfl, hb⟩)
    go_ret2
    exact ⟨rfl, by first | exact hb | exact below_new hb⟩
  · have H := fun w => Lib.hid (doorN_uint64_int8 c h0 h1 w)
    unfold anyOf at H ⊢
    go_enter Tryz.func9, Tryz.ntmps9
    go_wp2_with (go_at_call 22; refine ((H _).out).mono ?_; rintro e w1 ⟨rfl, hb⟩)
    go_ret2
    exact ⟨rfl, by first | exact hb | exact below_new hb⟩
  · have H := fun w => Lib.hid (doorN_uint64_int16 c h0 h1 w)
    unfold anyOf at H ⊢
    go_enter Tryz.func9, Tryz.ntmps9
    go_wp2_with (go_at_call 22; refine ((H _).out).mono ?_; rintro e w1 ⟨rfl, hb⟩)
    go_ret2
    exact ⟨rfl, by first | exact hb | exact below_new hb⟩
  · have H := fun w => Lib.hid (doorN_uint64_int32 c h0 h1 w)
    unfold anyOf at H ⊢
    go_enter Tryz.func9, Tryz.ntmps9
    go_wp2_with (go_at_call 22; refine ((H _).out).mono ?_; rintro e w1 ⟨rfl, hb⟩)
    go_ret2
    exact ⟨rfl, by first | exact hb | exact below_new hb⟩
  · have H := fun w => Lib.hid (doorN_uint64_int64 c h0 h1 w)
    unfold anyOf at H ⊢
    go_enter Tryz.func9, Tryz.ntmps9
    go_wp2_with (go_at_call 22; refine ((H _).out).mono ?_; rintro e w1 ⟨rfl, hb⟩)
    go_ret2
    exact ⟨rfl, by first | exact hb | exact below_new hb⟩

theorem castUintFN_any (b a c : Int) (hb : 7 ≤ b ∧ b ≤ 11) (ha : (a = 2 ∧ -9223372036854775808 ≤ c ∧ c < 0) ∨ (a = 3 ∧ -128 ≤ c ∧ c < 0) ∨ (a = 4 ∧ -32768 ≤ c ∧ c < 0) ∨ (a = 5 ∧ -2147483648 ≤ c ∧ c < 0) ∨ (a = 6 ∧ -9223372036854775808 ≤ c ∧ c < 0)) (w : World) :
    Calls Tryz.prog 9 #[.int .i64 b, anyOf a c 0 0 ⟨#[]⟩] w fun e w' => (e = .returned (.tuple #[.int .u64 0, .bool false])) ∧ Below w.heap.size w w' := by
  have h : b = 7 ∨ b = 8 ∨ b = 9 ∨ b = 10 ∨ b = 11 := by omega
  rcases h with rfl | rfl | rfl | rfl | rfl
  · exact castUintFN_uint a c ha w
  · exact castUintFN_uint8 a c ha w
  · exact castUintFN_uint16 a c ha w
  · exact castUintFN_uint32 a c ha w
  · exact castUintFN_uint64 a c ha w

theorem castUintFP_uint (a c : Int) (ha : (a = 2 ∧ 0 ≤ c ∧ c ≤ 9223372036854775807) ∨ (a = 3 ∧ 0 ≤ c ∧ c ≤ 127) ∨ (a = 4 ∧ 0 ≤ c ∧ c ≤ 32767) ∨ (a = 5 ∧ 0 ≤ c ∧ c ≤ 2147483647) ∨ (a = 6 ∧ 0 ≤ c ∧ c ≤ 9223372036854775807)) (w : World) :
    Calls Tryz.prog 9 #[.int .i64 7, anyOf a c 0 0 ⟨#[]⟩] w fun e w' => (∃ v : Int, v = cutU 7 c ∧ e = .returned (.tuple #[.int .u64 v, .bool true])) ∧ Below w.heap.size w w' := by
  rcases ha with ⟨rfl, h0, h1⟩ | ⟨rfl, h0, h1⟩ | ⟨rfl, h0, h1⟩ | ⟨rfl, h0, h1⟩ | ⟨rfl, h0, h1⟩
  · have H := fun w => Lib.hid (doorP_uint_int c h0 h1 w)
    unfold anyOf at H ⊢
    go_enter Tryz.func9, Tryz.ntmps9
    go_wp2_with (go_at_call 23; refine ((H _).out).mono ?_; rintro e w1 ⟨⟨v, hv, rfl⟩, hb⟩; have HVV := Lib.hid hv; clear hv)
    go_ret2
    exact ⟨⟨_, HVV.out.trans (by simp [cutU]), rfl⟩, by first | exact hb | exact below_new hb⟩
  · have H := fun w => Lib.hid (doorP_uint_int8 c h0 h1 w)
    unfold anyOf at H ⊢
    go_enter Tryz.func9, Tryz.ntmps9
    go_wp2_with (go_at_call 23; refine ((H _).out).mono ?_; rintro e w1 ⟨⟨v, hv, rfl⟩, hb⟩; have HVV := Lib.hid hv; clear hv)
    go_ret2
    exact ⟨⟨_, HVV.out.trans (by simp [cutU]), rfl⟩, by first | exact hb | exact below_new hb⟩
  · have H := fun w => Lib.hid (doorP_uint_int16 c h0 h1 w)
    unfold anyOf at H ⊢
    go_enter Tryz.func9, Tryz.ntmps9
    go_wp2_with (go_at_call 23; refine ((H _).out).mono ?_; rintro e w1 ⟨⟨v, hv, rfl⟩, hb⟩; have HVV := Lib.hid hv; clear hv)
    go_ret2
    exact ⟨⟨_, HVV.out.trans (by simp [cutU]), rfl⟩, by first | exact hb | exact below_new hb⟩
  · have H := fun w => Lib.hid (doorP_uint_int32 c h0 h1 w)
    unfold anyOf at H ⊢
    go_enter Tryz.func9, Tryz.ntmps9
    go_wp2_with (go_at_call 23; refine ((H _).out).mono ?_; rintro e w1 ⟨⟨v, hv, rfl⟩, hb⟩; have HVV := Lib.hid hv; clear hv)
    go_ret2
    exact ⟨⟨_, HVV.out.trans (by simp [cutU]), rfl⟩, by first | exact hb | exact below_new hb⟩
  · have H := fun w => Lib.hid (doorP_uint_int64 c h0 h1 w)
    unfold anyOf at H ⊢
    go_enter Tryz.func9, Tryz.ntmps9
    go_wp2_with (go_at_call 23; refine ((H _).out).mono ?_; rintro e w1 ⟨⟨v, hv, rfl⟩, hb⟩; have HVV := Lib.hid hv; clear hv)
    go_ret2
    exact ⟨⟨_, HVV.out.trans (by simp [cutU]), rfl⟩, by first | exact hb | exact below_new hb⟩

theorem castUintFP_uint8 (a c : Int) (ha : (a = 2 ∧ 0 ≤ c ∧ c ≤ 9223372036854775807) ∨ (a = 3 ∧ 0 ≤ c ∧ c ≤ 127) ∨ (a = 4 ∧ 0 ≤ c ∧ c ≤ 32767) ∨ (a = 5 ∧ 0 ≤ c ∧ c ≤ 2147483647) ∨ (a = 6 ∧ 0 ≤ c ∧ c ≤ 9223372036854775807)) (w : World) :
    Calls Tryz.prog 9 #[.int .i64 8, anyOf a c 0 0 ⟨#[]⟩] w fun e w' => (∃ v : Int, v = cutU 8 c ∧ e = .returned (.tuple #[.int .u64 v, .bool true])) ∧ Below w.heap.size w w' := by
  rcases ha with ⟨rfl, h0, h1⟩ | ⟨rfl, h0, h1⟩ | ⟨rfl, h0, h1⟩ | ⟨rfl, h0, h1⟩ | ⟨rfl, h0, h1⟩
  · have H := fun w => Lib.hid (doorP_uint8_int c h0 h1 w)
    unfold anyOf at H ⊢
    go_enter Tryz.func9, Tryz.ntmps9
    go_wp2_with (go_at_call 19; refine ((H _).out).mono ?_; rintro e w1 ⟨⟨v, hv, rfl⟩, hb⟩; have HVV := Lib.hid hv; clear hv)
    go_ret2
    exact ⟨⟨_, HVV.out.trans (by simp [cutU]), rfl⟩, by first | exact hb | exact below_new hb⟩
  · have H := fun w => Lib.hid (doorP_uint8_int8 c h0 h1 w)
    unfold anyOf at H ⊢
    go_enter Tryz.func9, Tryz.ntmps9
    go_wp2_with (go_at_call 19; refine ((H _).out).mono ?_; rintro e w1 ⟨⟨v, hv, rfl⟩, hb⟩; have HVV := Lib.hid hv; clear hv)
    go_ret2
    exact ⟨⟨_, HVV.out.trans (by simp [cutU]), rfl⟩, by first | exact hb | exact below_new hb⟩
  · have H := fun w => Lib.hid (doorP_uint8_int16 c h0 h1 w)
    unfold anyOf at H ⊢
    go_enter Tryz.func9, Tryz.ntmps9
    go_wp2_with (go_at_call 19; refine ((H _).out).mono ?_; rintro e w1 ⟨⟨v, hv, rfl⟩, hb⟩; have HVV := Lib.hid hv; clear hv)
    go_ret2
    exact ⟨⟨_, HVV.out.trans (by simp [cutU]), rfl⟩, by first | exact hb | exact below_new hb⟩
  · have H := fun w => Lib.hid (doorP_uint8_int32 c h0 h1 w)
    unfold anyOf at H ⊢
    go_enter Tryz.func9, Tryz.ntmps9
    go_wp2_with (go_at_call 19; refine ((H _).out).mono ?_; rintro e w1 ⟨⟨v, hv, rfl⟩, hb⟩; have HVV := Lib.hid hv; clear hv)
    go_ret2
    exact ⟨⟨_, HVV.out.trans (by simp [cutU]), rfl⟩, by first | exact hb | exact below_new hb⟩
  · have H := fun w => Lib.hid (doorP_uint8_int64 c h0 h1 w)
    unfold anyOf at H ⊢
    go_enter Tryz.func9, Tryz.ntmps9
    go_wp2_with (go_at_call 19; refine ((H _).out).mono ?_; rintro e w1 ⟨⟨v, hv, rfl⟩, hb⟩; have HVV := Lib.hid hv; clear hv)
    go_ret2
    exact ⟨⟨_, HVV.out.trans (by simp [cutU]), rfl⟩, by first | exact hb | exact below_new hb⟩

theorem castUintFP_uint16 (a c : Int) (ha : (a = 2 ∧ 0 ≤ c ∧ c ≤ 9223372036854775807) ∨ (a = 3 ∧ 0 ≤ c ∧ c ≤ 127) ∨ (a = 4 ∧ 0 ≤ c ∧ c ≤ 32767) ∨ (a = 5 ∧ 0 ≤ c ∧ c ≤ 2147483647) ∨ (a = 6 ∧ 0 ≤ c ∧ c ≤ 9223372036854775807)) (w : World) :
    Calls Tryz.prog 9 #[.int .i64 9, anyOf a c 0 0 ⟨#[]⟩] w fun e w' => (∃ v : Int, v = cutU 9 c ∧ e = .returned (.tuple #[.int .u64 v, .bool true])) ∧ Below w.heap.size w w' := by
  rcases ha with ⟨rfl, h0, h1⟩ | ⟨rfl, h0, h1⟩ | ⟨rfl, h0, h1⟩ | ⟨rfl, h0, h1⟩ | ⟨rfl, h0, h1⟩
  · have H := fun w => Lib.hid (doorP_uint16_int c h0 h1 w)
    unfold anyOf at H ⊢
    go_enter Tryz.func9, Tryz.ntmps9
    go_wp2_with (go_at_call 20; refine ((H _).out).mono ?_; rintro e w1 ⟨⟨v, hv, rfl⟩, hb⟩; have HVV := Lib.hid hv; clear hv)
    go_ret2
    exact ⟨⟨_, HVV.out.trans (by simp [cutU]), rfl⟩, by first | exact hb | exact below_new hb⟩
  · have H := fun w => Lib.hid (doorP_uint16_int8 c h0 h1 w)
    unfold anyOf at H ⊢
    go_enter Tryz.func9, Tryz.ntmps9
    go_wp2_with (go_at_call 20; refine ((H _).out).mono ?_; rintro e w1 ⟨⟨v, hv, rfl⟩, hb⟩; have HVV := Lib.hid hv; clear hv)
    go_ret2
    exact ⟨⟨_, HVV.out.trans (by simp [cutU]), rfl⟩, by first | exact hb | exact below_new hb⟩
  · have H := fun w => Lib.hid (doorP_uint16_int16 c h0 h1 w)
    unfold anyOf at H ⊢
    go_enter Tryz.func9, Tryz.ntmps9
    go_wp2_with (go_at_call 20; refine ((H _).out).mono ?_; rintro e w1 ⟨⟨v, hv, rfl⟩, hb⟩; have HVV := Lib.hid hv; clear hv)
    go_ret2
    exact ⟨⟨_, HVV.out.trans (by simp [cutU]), rfl⟩, by first | exact hb | exact below_new hb⟩
  · have H := fun w => Lib.hid (doorP_uint16_int32 c h0 h1 w)
    unfold anyOf at H ⊢
    go_enter Tryz.func9, Tryz.ntmps9
    go_wp2_with (go_at_call 20; refine ((H _).out).mono ?_; rintro e w1 ⟨⟨v, hv, rfl⟩, hb⟩; have HVV := Lib.hid hv; clear hv)
    go_ret2
    exact ⟨⟨_, HVV.out.trans (by simp [cutU]), rfl⟩, by first | exact hb | exact below_new hb⟩
  · have H := fun w => Lib.hid (doorP_uint16_int64 c h0 h1 w)
    unfold anyOf at H ⊢
    go_enter Tryz.func9, Tryz.ntmps9
    go_wp2_with (go_at_call 20; refine ((H _).out).mono ?_; rintro e w1 ⟨⟨v, hv, rfl⟩, hb⟩; have HVV := Lib.hid hv; clear hv)
    go_ret2
    exact ⟨⟨_, HVV.out.trans (by simp [cutU]), rfl⟩, by first | exact hb | exact below_new hb⟩

theorem castUintFP_uint32 (a c : Int) (ha : (a = 2 ∧ 0 ≤ c ∧ c ≤ 9223372036854775807) ∨ (a = 3 ∧ 0 ≤ c ∧ c ≤ 127) ∨ (a = 4 ∧ 0 ≤ c ∧ c ≤ 32767) ∨ (a = 5 ∧ 0 ≤ c ∧ c ≤ 2147483647) ∨ (a = 6 ∧ 0 ≤ c ∧ c ≤ 9223372036854775807)) (w : World) :
    Calls Tryz.prog 9 #[.int .i64 10, anyOf a c 0 0 ⟨#[]⟩] w fun e w' => (∃ v : Int, v = cutU 10 c ∧ e = .returned (.tuple #[.int .u64 v, .bool true])) ∧ Below w.heap.size w w' := by
  rcases ha with ⟨rfl, h0, h1⟩ | ⟨rfl, h0, h1⟩ | ⟨rfl, h0, h1⟩ | ⟨rfl, h0, h1⟩ | ⟨rfl, h0, h1⟩
  · have H := fun w => Lib.hid (doorP_uint32_int c h0 h1 w)
    unfold anyOf at H ⊢
    go_enter Tryz.func9, Tryz.ntmps9
    go_wp2_with (go_at_call 21; refine ((H _).out).mono ?_; rintro e w1 ⟨⟨v, hv, rfl⟩, hb⟩; have HVV := Lib.hid hv; clear hv)
    go_ret2
    exact ⟨⟨_, HVV.out.trans (by simp [cutU]), rfl⟩, by first | exact hb | exact below_new hb⟩
  · have H := fun w => Lib.hid (doorP_uint32_int8 c h0 h1 w)
    unfold anyOf at H ⊢
    go_enter Tryz.func9, Tryz.ntmps9
    go_wp2_with (go_at_call 21; refine ((H _).out).mono ?_; rintro e w1 ⟨⟨v, hv, rfl⟩, hb⟩; have HVV := Lib.hid hv; clear hv)
    go_ret2
    exact ⟨⟨_, HVV.out.trans (by simp [cutU]), rfl⟩, by first | exact hb | exact below_new hb⟩
  · have H := fun w => Lib.hid (doorP_uint32_int16 c h0 h1 w)
    unfold anyOf at H ⊢
    go_enter Tryz.func9, Tryz.ntmps9
    go_wp2_with (go_at_call 21; refine ((H _).out).mono ?_; rintro e w1 ⟨⟨v, hv, rfl⟩, hb⟩; have HVV := Lib.hid hv; clear hv)
    go_ret2
    exact ⟨⟨_, HVV.out.trans (by simp [cutU]), rfl⟩, by first | exact hb | exact below_new hb⟩
  · have H := fun w => Lib.hid (doorP_uint32_int32 c h0 h1 w)
    unfold anyOf at H ⊢
    go_enter Tryz.func9, Tryz.ntmps9
    go_wp2_with (go_at_call 21; refine ((H _).out).mono ?_; rintro e w1 ⟨⟨v, hv, rfl⟩, hb⟩; have HVV := Lib.hid hv; clear hv)
    go_ret2
    exact ⟨⟨_, HVV.out.trans (by simp [cutU]), rfl⟩, by first | exact hb | exact below_new hb⟩
  · have H := fun w => Lib.hid (doorP_uint32_int64 c h0 h1 w)
    unfold anyOf at H ⊢
    go_enter Tryz.func9, Tryz.ntmps9
    go_wp2_with (go_at_call 21; refine ((H _).out).mono ?_; rintro e w1 ⟨⟨v, hv, rfl⟩, hb⟩; have HVV := Lib.hid hv; clear hv)
    go_ret2
    exact ⟨⟨_, HVV.out.trans (by simp [cutU]), rfl⟩, by first | exact hb | exact below_new hb⟩

theorem castUintFP_uint64 (a c : Int) (ha : (a = 2 ∧ 0 ≤ c ∧ c ≤ 9223372036854775807) ∨ (a = 3 ∧ 0 ≤ c ∧ c ≤ 127) ∨ (a = 4 ∧ 0 ≤ c ∧ c ≤ 32767) ∨ (a = 5 ∧ 0 ≤ c ∧ c ≤ 2147483647) ∨ (a = 6 ∧ 0 ≤ c ∧ c ≤ 9223372036854775807)) (w : World) :
    Calls Tryz.prog 9 #[.int .i64 11, anyOf a c 0 0 ⟨#[]⟩] w fun e w' => (∃ v : Int, v = cutU 11 c ∧ e = .returned (.tuple #[.int .u64 v, .bool true])) ∧ Below w.heap.size w w' := by
  rcases ha with ⟨rfl, h0, h1⟩ | ⟨rfl, h0, h1⟩ | ⟨rfl, h0, h1⟩ | ⟨rfl, h0, h1⟩ | ⟨rfl, h0, h1⟩
  · have H := fun w => Lib.hid (doorP_uint64_int c h0 h1 w)
    unfold anyOf at H ⊢
    go_enter Tryz.func9, Tryz.ntmps9
    go_wp2_with (go_at_call 22; refine ((H _).out).mono ?_; rintro e w1 ⟨⟨v, hv, rfl⟩, hb⟩; have HVV := Lib.hid hv; clear hv)
    go_ret2
    exact ⟨⟨_, HVV.out.trans (by simp [cutU]), rfl⟩, by first | exact hb | exact below_new hb⟩
  · have H := fun w => Lib.hid (doorP_uint64_int8 c h0 h1 w)
    unfold anyOf at H ⊢
    go_enter Tryz.func9, Tryz.ntmps9
    go_wp2_with (go_at_call 22; refine ((H _).out).mono ?_; rintro e w1 ⟨⟨v, hv, rfl⟩, hb⟩; have HVV := Lib.hid hv; clear hv)
    go_ret2
    exact ⟨⟨_, HVV.out.trans (by simp [cutU]), rfl⟩, by first | exact hb | exact below_new hb⟩
  · have H := fun w => Lib.hid (doorP_uint64_int16 c h0 h1 w)
    unfold anyOf at H ⊢
    go_enter Tryz.func9, Tryz.ntmps9
    go_wp2_with (go_at_call 22; refine ((H _).out).mono ?_; rintro e w1 ⟨⟨v, hv, rfl⟩, hb⟩; have HVV := Lib.hid hv; clear hv)
    go_ret2
    exact ⟨⟨_, HVV.out.trans (by simp [cutU]), rfl⟩, by first | exact hb | exact below_new hb⟩
  · have H := fun w => Lib.hid (doorP_uint64_int32 c h0 h1 w)
    unfold anyOf at H ⊢
    go_enter Tryz.func9, Tryz.ntmps9
    go_wp2_with (go_at_call 22; refine ((H _).out).mono ?_; rintro e w1 ⟨⟨v, hv, rfl⟩, hb⟩; have HVV := Lib.hid hv; clear hv)
    go_ret2
    exact ⟨⟨_, HVV.out.trans (by simp [cutU]), rfl⟩, by first | exact hb | exact below_new hb⟩
  · have H := fun w => Lib.hid (doorP_uint64_int64 c h0 h1 w)
    unfold anyOf at H ⊢
    go_enter Tryz.func9, Tryz.ntmps9
    go_wp2_with (go_at_call 22; refine ((H _).out).mono ?_; rintro e w1 ⟨⟨v, hv, rfl⟩, hb⟩; have HVV := Lib.hid hv; clear hv)
    go_ret2
    exact ⟨⟨_, HVV.out.trans (by simp [cutU]), rfl⟩, by first | exact hb | exact below_new hb⟩

theorem castUintFP_any (b a c : Int) (hb : 7 ≤ b ∧ b ≤ 11) (ha : (a = 2 ∧ 0 ≤ c ∧ c ≤ 9223372036854775807) ∨ (a = 3 ∧ 0 ≤ c ∧ c ≤ 127) ∨ (a = 4 ∧ 0 ≤ c ∧ c ≤ 32767) ∨ (a = 5 ∧ 0 ≤ c ∧ c ≤ 2147483647) ∨ (a = 6 ∧ 0 ≤ c ∧ c ≤ 9223372036854775807)) (w : World) :
    Calls Tryz.prog 9 #[.int .i64 b, anyOf a c 0 0 ⟨#[]⟩] w fun e w' => (∃ v : Int, v = cutU b c ∧ e = .returned (.tuple #[.int .u64 v, .bool true])) ∧ Below w.heap.size w w' := by
  have h : b = 7 ∨ b = 8 ∨ b = 9 ∨ b = 10 ∨ b = 11 := by omega
  rcases h with rfl | rfl | rfl | rfl | rfl
  · exact castUintFP_uint a c ha w
  · exact castUintFP_uint8 a c ha w
  · exact castUintFP_uint16 a c ha w
  · exact castUintFP_uint32 a c ha w
  · exact castUintFP_uint64 a c ha w

theorem cutF_in (a n : Int) (ha : 2 ≤ a ∧ a ≤ 6) (hn : -9223372036854775808 ≤ n ∧ n ≤ 9223372036854775807) : (a = 2 ∧ -9223372036854775808 ≤ cutI a n ∧ cutI a n ≤ 9223372036854775807) ∨ (a = 3 ∧ -128 ≤ cutI a n ∧ cutI a n ≤ 127) ∨ (a = 4 ∧ -32768 ≤ cutI a n ∧ cutI a n ≤ 32767) ∨ (a = 5 ∧ -2147483648 ≤ cutI a n ∧ cutI a n ≤ 2147483647) ∨ (a = 6 ∧ -9223372036854775808 ≤ cutI a n ∧ cutI a n ≤ 9223372036854775807) := by
  have h : a = 2 ∨ a = 3 ∨ a = 4 ∨ a = 5 ∨ a = 6 := by omega
  clear ha
  rcases h with rfl | rfl | rfl | rfl | rfl
  all_goals
    simp [cutI, wrap32, IntKind.wrap, IntKind.bits, IntKind.signed]
    try omega

set_option maxHeartbeats 1600000 in
theorem fnCastIntFits_any (k t n : Int) (w : World) (hn : -9223372036854775808 ≤ n ∧ n ≤ 9223372036854775807) :
    Calls Tryz.prog 3 #[.int .i64 k, .int .i64 t, .int .i64 n] w fun e w' => e = .returned (.bool true) ∧ Below w.heap.size w w' := by
  have hst := fun (a : Addr) (m : Mode) (f : Nat) (W : World) => run_store Tryz.prog W a (.float .f64 f) m rfl
  have HK := fun k w => Lib.hid (castKindInt_any k w)
  have HU := fun w => Lib.hid (castKindUint_any t w)
  have ra := kindI_range k
  have rb := kindI_range t
  have hu := kindU_range t
  have HS := fun w => Lib.hid (castCutInt_any (kindI k) n w ra hn)
  have hin := cutF_in (kindI k) n ra hn
  have HKk := HK k
  have HKt := HK t
  clear HK hn
  generalize hc0 : cutI (kindI k) n = c at HS hin
  clear hc0
  generalize kindI k = a at HKk HS hin ra
  generalize kindI t = b at HKt rb
  generalize kindU t = d at HU hu
  have hc64 : -9223372036854775808 ≤ c ∧ c ≤ 9223372036854775807 := by omega
  obtain ⟨c0, c1⟩ := hc64
  have HC := fun w => Lib.hid (castIntF_any b a c rb hin w)
  have HS2 := fun w => Lib.hid (castCutInt_any b c w rb ⟨c0, c1⟩)
  unfold anyOf at HC
  generalize cutI b c = q at HC HS2
  by_cases hc : c < 0
  · have HD := fun w => Lib.hid (castUintFN_any d a c hu (by omega) w)
    unfold anyOf at HD
    clear hin ra rb hu
    go_enter Tryz.func3, Tryz.ntmps3
    go_wp2_with (first
      | (go_at_call 5; ((with_reducible refine ((HKk _).out).mono ?_); rintro e w1 ⟨rfl, rfl⟩))
      | (go_at_call 5; ((with_reducible refine ((HKt _).out).mono ?_); rintro e w1 ⟨rfl, rfl⟩))
      | (go_at_call 6; refine ((HU _).out).mono ?_; rintro e w1 ⟨rfl, rfl⟩)
      | (go_at_call 7; ((with_reducible refine ((HS _).out).mono ?_); rintro e w2 ⟨rfl, rfl⟩))
      | (go_at_call 7; ((with_reducible refine ((HS2 _).out).mono ?_); rintro e w2 ⟨rfl, rfl⟩))
      | (go_at_call 8; refine ((HC _).out).mono ?_; rintro e w1 ⟨⟨v, hv, rfl⟩, hb⟩; have x0 : w1.cell? ⟨w.heap.size, 0, none⟩ = some (.int .i64 a) := cell_kept hb (by simp); have x1 : w1.cell? ⟨w.heap.size, 1, none⟩ = some (.int .i64 c) := cell_kept hb (by simp); have x2 : w1.cell? ⟨w.heap.size, 2, none⟩ = some (.int .u64 0) := cell_kept hb (by simp); have x3 : w1.cell? ⟨w.heap.size, 3, none⟩ = some (.float .f64 0) := cell_kept hb (by simp); have x4 : w1.cell? ⟨w.heap.size, 4, none⟩ = some (.string ⟨#[]⟩) := cell_kept hb (by simp); have x5 : w1.cell? ⟨w.heap.size, 5, none⟩ = some (.slice none 0 0) := cell_kept hb (by simp); have x6 : w1.cell? ⟨w.heap.size, 6, none⟩ = some (.slice none 0 0) := cell_kept hb (by simp); have hb1 : Below w.heap.size w w1 := (by first | exact hb | exact below_new hb); clear hb; obtain rfl : q = v := hv.symm)
      | (go_at_call 9; refine ((HD _).out).mono ?_; rintro e w3 ⟨rfl, hb⟩; have hb3 := below_step hb1 hb))
    all_goals
      go_ret
      exact ⟨rfl, hb3⟩
  · have HD := fun w => Lib.hid (castUintFP_any d a c hu (by omega) w)
    have HS3 := fun w => Lib.hid (castCutUint_any d c w hu ⟨by omega, by omega⟩)
    unfold anyOf at HD
    generalize cutU d c = r at HD HS3
    have hc0 : 0 ≤ c := by omega
    clear hin ra rb hu hc
    go_enter Tryz.func3, Tryz.ntmps3
    go_wp2_with (first
      | (go_at_call 5; ((with_reducible refine ((HKk _).out).mono ?_); rintro e w1 ⟨rfl, rfl⟩))
      | (go_at_call 5; ((with_reducible refine ((HKt _).out).mono ?_); rintro e w1 ⟨rfl, rfl⟩))
      | (go_at_call 6; refine ((HU _).out).mono ?_; rintro e w1 ⟨rfl, rfl⟩)
      | (go_at_call 7; ((with_reducible refine ((HS _).out).mono ?_); rintro e w2 ⟨rfl, rfl⟩))
      | (go_at_call 7; ((with_reducible refine ((HS2 _).out).mono ?_); rintro e w2 ⟨rfl, rfl⟩))
      | (go_at_call 8; refine ((HC _).out).mono ?_; rintro e w1 ⟨⟨v, hv, rfl⟩, hb⟩; have x0 : w1.cell? ⟨w.heap.size, 0, none⟩ = some (.int .i64 a) := cell_kept hb (by simp); have x1 : w1.cell? ⟨w.heap.size, 1, none⟩ = some (.int .i64 c) := cell_kept hb (by simp); have x2 : w1.cell? ⟨w.heap.size, 2, none⟩ = some (.int .u64 0) := cell_kept hb (by simp); have x3 : w1.cell? ⟨w.heap.size, 3, none⟩ = some (.float .f64 0) := cell_kept hb (by simp); have x4 : w1.cell? ⟨w.heap.size, 4, none⟩ = some (.string ⟨#[]⟩) := cell_kept hb (by simp); have x5 : w1.cell? ⟨w.heap.size, 5, none⟩ = some (.slice none 0 0) := cell_kept hb (by simp); have x6 : w1.cell? ⟨w.heap.size, 6, none⟩ = some (.slice none 0 0) := cell_kept hb (by simp); have hb1 : Below w.heap.size w w1 := (by first | exact hb | exact below_new hb); clear hb; obtain rfl : q = v := hv.symm)
      | (go_at_call 9; refine ((HD _).out).mono ?_; rintro e w3 ⟨⟨z, hz, rfl⟩, hb⟩; have hb3 := below_step hb1 hb; obtain rfl : r = z := hz.symm)
      | (go_at_call 10; refine ((HS3 _).out).mono ?_; rintro e w4 ⟨rfl, rfl⟩))
    all_goals
      go_ret
      exact ⟨rfl, hb3⟩
end Go.Proofs.YtbdheiepiolfhaaGreatDoor.E
