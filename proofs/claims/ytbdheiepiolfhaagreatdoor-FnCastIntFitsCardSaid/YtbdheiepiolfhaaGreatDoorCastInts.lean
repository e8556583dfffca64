/- cast's numbers: toNumber, toNumberE, the forms with an error and the doors, each at a source kind, over this seat's program. Written by gen_castnum.py. -/
import Derived.Test.YtbdheiepiolfhaaGreatDoorCastK
namespace Go.Proofs.YtbdheiepiolfhaaGreatDoor.E
open Go.RowKit
set_option linter.unusedVariables false
set_option linter.unusedSimpArgs false

theorem toNumber_int_int (c : Int) (h0 : -9223372036854775808 ≤ c) (h1 : c ≤ 9223372036854775807) (w : World) :
    Calls Tryz.prog 90 #[.iface 3 (.int .i64 c)] w fun e w' => e = .returned (.tuple #[.int .i64 c, .bool true]) ∧ w = w' := by
  have z0 := Tryz.is_int (.int .i64 c)
  go_enter Tryz.func90, Tryz.ntmps90
  go_wp2_with (go_at_call 79; refine (indirect_any 3 _ (by decide) (by decide) _).mono ?_; rintro e w' ⟨rfl, rfl⟩)
  go_ret2
  exact ⟨rfl, rfl⟩

theorem toNumberE_int_int (c : Int) (h0 : -9223372036854775808 ≤ c) (h1 : c ≤ 9223372036854775807) (pf : Value) (w : World) :
    Calls Tryz.prog 66 #[.iface 3 (.int .i64 c), pf] w fun e w' => e = .returned (.tuple #[.int .i64 c, .nilIface]) ∧ w = w' := by
  have H := fun w => Lib.hid (toNumber_int_int c h0 h1 w)
  go_enter Tryz.func66, Tryz.ntmps66
  go_wp2_with (go_at_call 90; refine ((H _).out).mono ?_; rintro e w' ⟨rfl, rfl⟩)
  go_ret2
  exact ⟨rfl, rfl⟩

theorem toE_int_int (c : Int) (h0 : -9223372036854775808 ≤ c) (h1 : c ≤ 9223372036854775807) (w : World) :
    Calls Tryz.prog 32 #[.iface 3 (.int .i64 c)] w fun e w' => e = .returned (.tuple #[.int .i64 c, .nilIface]) ∧ w = w' := by
  have hmf : ∀ (fn : Fn) (first cap : Array Value) (w : World), (Instr.makeFunc fn first cap).run Tryz.prog w = .ok (.func fn first cap) w := fun _ _ _ _ => rfl
  have H := fun pf w => Lib.hid (toNumberE_int_int c h0 h1 pf w)
  go_enter Tryz.func32, Tryz.ntmps32
  go_wp2_with (go_at_call 66; refine ((H _ _).out).mono ?_; rintro e w' ⟨rfl, rfl⟩)
  go_ret2
  exact ⟨rfl, rfl⟩


theorem doorI_int_int (c : Int) (h0 : -9223372036854775808 ≤ c) (h1 : c ≤ 9223372036854775807) (w : World) :
    Calls Tryz.prog 18 #[anyOf 2 c 0 0 ⟨#[]⟩] w fun e w' => e = .returned (.tuple #[.int .i64 c, .bool true]) ∧ Below w.heap.size w w' := by
  have HV := fun w => Lib.hid (value_int c 0 0 ⟨#[]⟩ w (by omega) (by omega))
  have HE := fun w => Lib.hid (toE_int_int c h0 h1 w)
  unfold anyOf at HV ⊢
  go_enter Tryz.func18, Tryz.ntmps18
  go_wp2_with (first
    | (go_at_call 25; refine ((HV _).out).mono ?_; rintro e w1 ⟨rfl, hb0⟩; have hb1 : Below w.heap.size w w1 := ((Below.refl _ _).alloc (Nat.le_refl _) _).trans (hb0.mono (by simp)))
    | (go_at_call 32; refine ((HE _).out).mono ?_; rintro e w2 ⟨rfl, rfl⟩))
  go_quiet (fail)
  go_wp2
  go_ret2
  exact ⟨rfl, bdrew hb1 _⟩

theorem toNumber_int_int8 (c : Int) (h0 : -128 ≤ c) (h1 : c ≤ 127) (w : World) :
    Calls Tryz.prog 90 #[.iface 42 (.int .i8 c)] w fun e w' => e = .returned (.tuple #[.int .i64 c, .bool true]) ∧ w = w' := by
  have z0 := Tryz.no_int 42 (by decide) (.int .i8 c)
  have z1 := Tryz.is_int8 (.int .i8 c)
  go_enter Tryz.func90, Tryz.ntmps90
  go_wp2_with (go_at_call 79; refine (indirect_any 42 _ (by decide) (by decide) _).mono ?_; rintro e w' ⟨rfl, rfl⟩)
  go_ret2
  exact ⟨rfl, rfl⟩

theorem toNumberE_int_int8 (c : Int) (h0 : -128 ≤ c) (h1 : c ≤ 127) (pf : Value) (w : World) :
    Calls Tryz.prog 66 #[.iface 42 (.int .i8 c), pf] w fun e w' => e = .returned (.tuple #[.int .i64 c, .nilIface]) ∧ w = w' := by
  have H := fun w => Lib.hid (toNumber_int_int8 c h0 h1 w)
  go_enter Tryz.func66, Tryz.ntmps66
  go_wp2_with (go_at_call 90; refine ((H _).out).mono ?_; rintro e w' ⟨rfl, rfl⟩)
  go_ret2
  exact ⟨rfl, rfl⟩

theorem toE_int_int8 (c : Int) (h0 : -128 ≤ c) (h1 : c ≤ 127) (w : World) :
    Calls Tryz.prog 32 #[.iface 42 (.int .i8 c)] w fun e w' => e = .returned (.tuple #[.int .i64 c, .nilIface]) ∧ w = w' := by
  have hmf : ∀ (fn : Fn) (first cap : Array Value) (w : World), (Instr.makeFunc fn first cap).run Tryz.prog w = .ok (.func fn first cap) w := fun _ _ _ _ => rfl
  have H := fun pf w => Lib.hid (toNumberE_int_int8 c h0 h1 pf w)
  go_enter Tryz.func32, Tryz.ntmps32
  go_wp2_with (go_at_call 66; refine ((H _ _).out).mono ?_; rintro e w' ⟨rfl, rfl⟩)
  go_ret2
  exact ⟨rfl, rfl⟩


theorem doorI_int_int8 (c : Int) (h0 : -128 ≤ c) (h1 : c ≤ 127) (w : World) :
    Calls Tryz.prog 18 #[anyOf 3 c 0 0 ⟨#[]⟩] w fun e w' => e = .returned (.tuple #[.int .i64 c, .bool true]) ∧ Below w.heap.size w w' := by
  have HV := fun w => Lib.hid (value_int8 c 0 0 ⟨#[]⟩ w (by omega) (by omega))
  have hval : (IntKind.i8.wrap c) = c := by simp [wrap32, IntKind.wrap, IntKind.bits, IntKind.signed]; omega
  rw [hval] at HV
  clear hval
  have HE := fun w => Lib.hid (toE_int_int8 c h0 h1 w)
  unfold anyOf at HV ⊢
  go_enter Tryz.func18, Tryz.ntmps18
  go_wp2_with (first
    | (go_at_call 25; refine ((HV _).out).mono ?_; rintro e w1 ⟨rfl, hb0⟩; have hb1 : Below w.heap.size w w1 := ((Below.refl _ _).alloc (Nat.le_refl _) _).trans (hb0.mono (by simp)))
    | (go_at_call 32; refine ((HE _).out).mono ?_; rintro e w2 ⟨rfl, rfl⟩))
  go_quiet (fail)
  go_wp2
  go_ret2
  exact ⟨rfl, bdrew hb1 _⟩

theorem toNumber_int_int16 (c : Int) (h0 : -32768 ≤ c) (h1 : c ≤ 32767) (w : World) :
    Calls Tryz.prog 90 #[.iface 43 (.int .i16 c)] w fun e w' => e = .returned (.tuple #[.int .i64 c, .bool true]) ∧ w = w' := by
  have z0 := Tryz.no_int 43 (by decide) (.int .i16 c)
  have z1 := Tryz.no_int8 43 (by decide) (.int .i16 c)
  have z2 := Tryz.is_int16 (.int .i16 c)
  go_enter Tryz.func90, Tryz.ntmps90
  go_wp2_with (go_at_call 79; refine (indirect_any 43 _ (by decide) (by decide) _).mono ?_; rintro e w' ⟨rfl, rfl⟩)
  go_ret2
  exact ⟨rfl, rfl⟩

theorem toNumberE_int_int16 (c : Int) (h0 : -32768 ≤ c) (h1 : c ≤ 32767) (pf : Value) (w : World) :
    Calls Tryz.prog 66 #[.iface 43 (.int .i16 c), pf] w fun e w' => e = .returned (.tuple #[.int .i64 c, .nilIface]) ∧ w = w' := by
  have H := fun w => Lib.hid (toNumber_int_int16 c h0 h1 w)
  go_enter Tryz.func66, Tryz.ntmps66
  go_wp2_with (go_at_call 90; refine ((H _).out).mono ?_; rintro e w' ⟨rfl, rfl⟩)
  go_ret2
  exact ⟨rfl, rfl⟩

theorem toE_int_int16 (c : Int) (h0 : -32768 ≤ c) (h1 : c ≤ 32767) (w : World) :
    Calls Tryz.prog 32 #[.iface 43 (.int .i16 c)] w fun e w' => e = .returned (.tuple #[.int .i64 c, .nilIface]) ∧ w = w' := by
  have hmf : ∀ (fn : Fn) (first cap : Array Value) (w : World), (Instr.makeFunc fn first cap).run Tryz.prog w = .ok (.func fn first cap) w := fun _ _ _ _ => rfl
  have H := fun pf w => Lib.hid (toNumberE_int_int16 c h0 h1 pf w)
  go_enter Tryz.func32, Tryz.ntmps32
  go_wp2_with (go_at_call 66; refine ((H _ _).out).mono ?_; rintro e w' ⟨rfl, rfl⟩)
  go_ret2
  exact ⟨rfl, rfl⟩


theorem doorI_int_int16 (c : Int) (h0 : -32768 ≤ c) (h1 : c ≤ 32767) (w : World) :
    Calls Tryz.prog 18 #[anyOf 4 c 0 0 ⟨#[]⟩] w fun e w' => e = .returned (.tuple #[.int .i64 c, .bool true]) ∧ Below w.heap.size w w' := by
  have HV := fun w => Lib.hid (value_int16 c 0 0 ⟨#[]⟩ w (by omega) (by omega))
  have hval : (IntKind.i16.wrap c) = c := by simp [wrap32, IntKind.wrap, IntKind.bits, IntKind.signed]; omega
  rw [hval] at HV
  clear hval
  have HE := fun w => Lib.hid (toE_int_int16 c h0 h1 w)
  unfold anyOf at HV ⊢
  go_enter Tryz.func18, Tryz.ntmps18
  go_wp2_with (first
    | (go_at_call 25; refine ((HV _).out).mono ?_; rintro e w1 ⟨rfl, hb0⟩; have hb1 : Below w.heap.size w w1 := ((Below.refl _ _).alloc (Nat.le_refl _) _).trans (hb0.mono (by simp)))
    | (go_at_call 32; refine ((HE _).out).mono ?_; rintro e w2 ⟨rfl, rfl⟩))
  go_quiet (fail)
  go_wp2
  go_ret2
  exact ⟨rfl, bdrew hb1 _⟩

theorem toNumber_int_int32 (c : Int) (h0 : -2147483648 ≤ c) (h1 : c ≤ 2147483647) (w : World) :
    Calls Tryz.prog 90 #[.iface 21 (.int .i32 c)] w fun e w' => e = .returned (.tuple #[.int .i64 c, .bool true]) ∧ w = w' := by
  have z0 := Tryz.no_int 21 (by decide) (.int .i32 c)
  have z1 := Tryz.no_int8 21 (by decide) (.int .i32 c)
  have z2 := Tryz.no_int16 21 (by decide) (.int .i32 c)
  have z3 := Tryz.is_int32 (.int .i32 c)
  go_enter Tryz.func90, Tryz.ntmps90
  go_wp2_with (go_at_call 79; refine (indirect_any 21 _ (by decide) (by decide) _).mono ?_; rintro e w' ⟨rfl, rfl⟩)
  go_ret2
  exact ⟨rfl, rfl⟩

theorem toNumberE_int_int32 (c : Int) (h0 : -2147483648 ≤ c) (h1 : c ≤ 2147483647) (pf : Value) (w : World) :
    Calls Tryz.prog 66 #[.iface 21 (.int .i32 c), pf] w fun e w' => e = .returned (.tuple #[.int .i64 c, .nilIface]) ∧ w = w' := by
  have H := fun w => Lib.hid (toNumber_int_int32 c h0 h1 w)
  go_enter Tryz.func66, Tryz.ntmps66
  go_wp2_with (go_at_call 90; refine ((H _).out).mono ?_; rintro e w' ⟨rfl, rfl⟩)
  go_ret2
  exact ⟨rfl, rfl⟩

theorem toE_int_int32 (c : Int) (h0 : -2147483648 ≤ c) (h1 : c ≤ 2147483647) (w : World) :
    Calls Tryz.prog 32 #[.iface 21 (.int .i32 c)] w fun e w' => e = .returned (.tuple #[.int .i64 c, .nilIface]) ∧ w = w' := by
  have hmf : ∀ (fn : Fn) (first cap : Array Value) (w : World), (Instr.makeFunc fn first cap).run Tryz.prog w = .ok (.func fn first cap) w := fun _ _ _ _ => rfl
  have H := fun pf w => Lib.hid (toNumberE_int_int32 c h0 h1 pf w)
  go_enter Tryz.func32, Tryz.ntmps32
  go_wp2_with (go_at_call 66; refine ((H _ _).out).mono ?_; rintro e w' ⟨rfl, rfl⟩)
  go_ret2
  exact ⟨rfl, rfl⟩


theorem doorI_int_int32 (c : Int) (h0 : -2147483648 ≤ c) (h1 : c ≤ 2147483647) (w : World) :
    Calls Tryz.prog 18 #[anyOf 5 c 0 0 ⟨#[]⟩] w fun e w' => e = .returned (.tuple #[.int .i64 c, .bool true]) ∧ Below w.heap.size w w' := by
  have HV := fun w => Lib.hid (value_int32 c 0 0 ⟨#[]⟩ w (by omega) (by omega))
  have hval : (wrap32 c) = c := by simp [wrap32, IntKind.wrap, IntKind.bits, IntKind.signed]; omega
  rw [hval] at HV
  clear hval
  have HE := fun w => Lib.hid (toE_int_int32 c h0 h1 w)
  unfold anyOf at HV ⊢
  go_enter Tryz.func18, Tryz.ntmps18
  go_wp2_with (first
    | (go_at_call 25; refine ((HV _).out).mono ?_; rintro e w1 ⟨rfl, hb0⟩; have hb1 : Below w.heap.size w w1 := ((Below.refl _ _).alloc (Nat.le_refl _) _).trans (hb0.mono (by simp)))
    | (go_at_call 32; refine ((HE _).out).mono ?_; rintro e w2 ⟨rfl, rfl⟩))
  go_quiet (fail)
  go_wp2
  go_ret2
  exact ⟨rfl, bdrew hb1 _⟩

theorem toNumber_int_int64 (c : Int) (h0 : -9223372036854775808 ≤ c) (h1 : c ≤ 9223372036854775807) (w : World) :
    Calls Tryz.prog 90 #[.iface 2 (.int .i64 c)] w fun e w' => e = .returned (.tuple #[.int .i64 c, .bool true]) ∧ w = w' := by
  have z0 := Tryz.no_int 2 (by decide) (.int .i64 c)
  have z1 := Tryz.no_int8 2 (by decide) (.int .i64 c)
  have z2 := Tryz.no_int16 2 (by decide) (.int .i64 c)
  have z3 := Tryz.no_int32 2 (by decide) (.int .i64 c)
  have z4 := Tryz.is_int64 (.int .i64 c)
  go_enter Tryz.func90, Tryz.ntmps90
  go_wp2_with (go_at_call 79; refine (indirect_any 2 _ (by decide) (by decide) _).mono ?_; rintro e w' ⟨rfl, rfl⟩)
  go_ret2
  exact ⟨rfl, rfl⟩

theorem toNumberE_int_int64 (c : Int) (h0 : -9223372036854775808 ≤ c) (h1 : c ≤ 9223372036854775807) (pf : Value) (w : World) :
    Calls Tryz.prog 66 #[.iface 2 (.int .i64 c), pf] w fun e w' => e = .returned (.tuple #[.int .i64 c, .nilIface]) ∧ w = w' := by
  have H := fun w => Lib.hid (toNumber_int_int64 c h0 h1 w)
  go_enter Tryz.func66, Tryz.ntmps66
  go_wp2_with (go_at_call 90; refine ((H _).out).mono ?_; rintro e w' ⟨rfl, rfl⟩)
  go_ret2
  exact ⟨rfl, rfl⟩

theorem toE_int_int64 (c : Int) (h0 : -9223372036854775808 ≤ c) (h1 : c ≤ 9223372036854775807) (w : World) :
    Calls Tryz.prog 32 #[.iface 2 (.int .i64 c)] w fun e w' => e = .returned (.tuple #[.int .i64 c, .nilIface]) ∧ w = w' := by
  have hmf : ∀ (fn : Fn) (first cap : Array Value) (w : World), (Instr.makeFunc fn first cap).run Tryz.prog w = .ok (.func fn first cap) w := fun _ _ _ _ => rfl
  have H := fun pf w => Lib.hid (toNumberE_int_int64 c h0 h1 pf w)
  go_enter Tryz.func32, Tryz.ntmps32
  go_wp2_with (go_at_call 66; refine ((H _ _).out).mono ?_; rintro e w' ⟨rfl, rfl⟩)
  go_ret2
  exact ⟨rfl, rfl⟩


theorem doorI_int_int64 (c : Int) (h0 : -9223372036854775808 ≤ c) (h1 : c ≤ 9223372036854775807) (w : World) :
    Calls Tryz.prog 18 #[anyOf 6 c 0 0 ⟨#[]⟩] w fun e w' => e = .returned (.tuple #[.int .i64 c, .bool true]) ∧ Below w.heap.size w w' := by
  have HV := fun w => Lib.hid (value_int64 c 0 0 ⟨#[]⟩ w (by omega) (by omega))
  have HE := fun w => Lib.hid (toE_int_int64 c h0 h1 w)
  unfold anyOf at HV ⊢
  go_enter Tryz.func18, Tryz.ntmps18
  go_wp2_with (first
    | (go_at_call 25; refine ((HV _).out).mono ?_; rintro e w1 ⟨rfl, hb0⟩; have hb1 : Below w.heap.size w w1 := ((Below.refl _ _).alloc (Nat.le_refl _) _).trans (hb0.mono (by simp)))
    | (go_at_call 32; refine ((HE _).out).mono ?_; rintro e w2 ⟨rfl, rfl⟩))
  go_quiet (fail)
  go_wp2
  go_ret2
  exact ⟨rfl, bdrew hb1 _⟩

theorem toNumber_int8_int (c : Int) (h0 : -9223372036854775808 ≤ c) (h1 : c ≤ 9223372036854775807) (w : World) :
    Calls Tryz.prog 84 #[.iface 3 (.int .i64 c)] w fun e w' => e = .returned (.tuple #[.int .i8 (IntKind.i8.wrap c), .bool true]) ∧ w = w' := by
  have z0 := Tryz.no_int8 3 (by decide) (.int .i64 c)
  have z1 := Tryz.is_int (.int .i64 c)
  go_enter Tryz.func84, Tryz.ntmps84
  go_wp2_with (go_at_call 79; refine (indirect_any 3 _ (by decide) (by decide) _).mono ?_; rintro e w' ⟨rfl, rfl⟩)
  go_ret2
  exact ⟨rfl, rfl⟩

theorem toNumberE_int8_int (c : Int) (h0 : -9223372036854775808 ≤ c) (h1 : c ≤ 9223372036854775807) (pf : Value) (w : World) :
    Calls Tryz.prog 58 #[.iface 3 (.int .i64 c), pf] w fun e w' => e = .returned (.tuple #[.int .i8 (IntKind.i8.wrap c), .nilIface]) ∧ w = w' := by
  have H := fun w => Lib.hid (toNumber_int8_int c h0 h1 w)
  go_enter Tryz.func58, Tryz.ntmps58
  go_wp2_with (go_at_call 84; refine ((H _).out).mono ?_; rintro e w' ⟨rfl, rfl⟩)
  go_ret2
  exact ⟨rfl, rfl⟩

theorem toE_int8_int (c : Int) (h0 : -9223372036854775808 ≤ c) (h1 : c ≤ 9223372036854775807) (w : World) :
    Calls Tryz.prog 28 #[.iface 3 (.int .i64 c)] w fun e w' => e = .returned (.tuple #[.int .i8 (IntKind.i8.wrap c), .nilIface]) ∧ w = w' := by
  have hmf : ∀ (fn : Fn) (first cap : Array Value) (w : World), (Instr.makeFunc fn first cap).run Tryz.prog w = .ok (.func fn first cap) w := fun _ _ _ _ => rfl
  have H := fun pf w => Lib.hid (toNumberE_int8_int c h0 h1 pf w)
  go_enter Tryz.func28, Tryz.ntmps28
  go_wp2_with (go_at_call 58; refine ((H _ _).out).mono ?_; rintro e w' ⟨rfl, rfl⟩)
  go_ret2
  exact ⟨rfl, rfl⟩


theorem doorI_int8_int (c : Int) (h0 : -9223372036854775808 ≤ c) (h1 : c ≤ 9223372036854775807) (w : World) :
    Calls Tryz.prog 14 #[anyOf 2 c 0 0 ⟨#[]⟩] w fun e w' => e = .returned (.tuple #[.int .i64 (IntKind.i8.wrap c), .bool true]) ∧ Below w.heap.size w w' := by
  have HV := fun w => Lib.hid (value_int c 0 0 ⟨#[]⟩ w (by omega) (by omega))
  have HE := fun w => Lib.hid (toE_int8_int c h0 h1 w)
  have e0 : -128 ≤ (IntKind.i8.wrap c) := by simp [wrap32, IntKind.wrap, IntKind.bits, IntKind.signed]; omega
  have e1 : (IntKind.i8.wrap c) ≤ 127 := by simp [wrap32, IntKind.wrap, IntKind.bits, IntKind.signed]; omega
  generalize (IntKind.i8.wrap c) = d at HE e0 e1 ⊢
  unfold anyOf at HV ⊢
  go_enter Tryz.func14, Tryz.ntmps14
  go_wp2_with (first
    | (go_at_call 25; refine ((HV _).out).mono ?_; rintro e w1 ⟨rfl, hb0⟩; have hb1 : Below w.heap.size w w1 := ((Below.refl _ _).alloc (Nat.le_refl _) _).trans (hb0.mono (by simp)))
    | (go_at_call 28; refine ((HE _).out).mono ?_; rintro e w2 ⟨rfl, rfl⟩))
  go_quiet (fail)
  go_wp2
  go_ret2
  exact ⟨rfl, bdrew hb1 _⟩

theorem toNumber_int8_int8 (c : Int) (h0 : -128 ≤ c) (h1 : c ≤ 127) (w : World) :
    Calls Tryz.prog 84 #[.iface 42 (.int .i8 c)] w fun e w' => e = .returned (.tuple #[.int .i8 c, .bool true]) ∧ w = w' := by
  have z0 := Tryz.is_int8 (.int .i8 c)
  go_enter Tryz.func84, Tryz.ntmps84
  go_wp2_with (go_at_call 79; refine (indirect_any 42 _ (by decide) (by decide) _).mono ?_; rintro e w' ⟨rfl, rfl⟩)
  go_ret2
  exact ⟨rfl, rfl⟩

theorem toNumberE_int8_int8 (c : Int) (h0 : -128 ≤ c) (h1 : c ≤ 127) (pf : Value) (w : World) :
    Calls Tryz.prog 58 #[.iface 42 (.int .i8 c), pf] w fun e w' => e = .returned (.tuple #[.int .i8 c, .nilIface]) ∧ w = w' := by
  have H := fun w => Lib.hid (toNumber_int8_int8 c h0 h1 w)
  go_enter Tryz.func58, Tryz.ntmps58
  go_wp2_with (go_at_call 84; refine ((H _).out).mono ?_; rintro e w' ⟨rfl, rfl⟩)
  go_ret2
  exact ⟨rfl, rfl⟩

theorem toE_int8_int8 (c : Int) (h0 : -128 ≤ c) (h1 : c ≤ 127) (w : World) :
    Calls Tryz.prog 28 #[.iface 42 (.int .i8 c)] w fun e w' => e = .returned (.tuple #[.int .i8 c, .nilIface]) ∧ w = w' := by
  have hmf : ∀ (fn : Fn) (first cap : Array Value) (w : World), (Instr.makeFunc fn first cap).run Tryz.prog w = .ok (.func fn first cap) w := fun _ _ _ _ => rfl
  have H := fun pf w => Lib.hid (toNumberE_int8_int8 c h0 h1 pf w)
  go_enter Tryz.func28, Tryz.ntmps28
  go_wp2_with (go_at_call 58; refine ((H _ _).out).mono ?_; rintro e w' ⟨rfl, rfl⟩)
  go_ret2
  exact ⟨rfl, rfl⟩


theorem doorI_int8_int8 (c : Int) (h0 : -128 ≤ c) (h1 : c ≤ 127) (w : World) :
    Calls Tryz.prog 14 #[anyOf 3 c 0 0 ⟨#[]⟩] w fun e w' => e = .returned (.tuple #[.int .i64 c, .bool true]) ∧ Below w.heap.size w w' := by
  have HV := fun w => Lib.hid (value_int8 c 0 0 ⟨#[]⟩ w (by omega) (by omega))
  have hval : (IntKind.i8.wrap c) = c := by simp [wrap32, IntKind.wrap, IntKind.bits, IntKind.signed]; omega
  rw [hval] at HV
  clear hval
  have HE := fun w => Lib.hid (toE_int8_int8 c h0 h1 w)
  unfold anyOf at HV ⊢
  go_enter Tryz.func14, Tryz.ntmps14
  go_wp2_with (first
    | (go_at_call 25; refine ((HV _).out).mono ?_; rintro e w1 ⟨rfl, hb0⟩; have hb1 : Below w.heap.size w w1 := ((Below.refl _ _).alloc (Nat.le_refl _) _).trans (hb0.mono (by simp)))
    | (go_at_call 28; refine ((HE _).out).mono ?_; rintro e w2 ⟨rfl, rfl⟩))
  go_quiet (fail)
  go_wp2
  go_ret2
  exact ⟨rfl, bdrew hb1 _⟩

theorem toNumber_int8_int16 (c : Int) (h0 : -32768 ≤ c) (h1 : c ≤ 32767) (w : World) :
    Calls Tryz.prog 84 #[.iface 43 (.int .i16 c)] w fun e w' => e = .returned (.tuple #[.int .i8 (IntKind.i8.wrap c), .bool true]) ∧ w = w' := by
  have z0 := Tryz.no_int8 43 (by decide) (.int .i16 c)
  have z1 := Tryz.no_int 43 (by decide) (.int .i16 c)
  have z2 := Tryz.is_int16 (.int .i16 c)
  go_enter Tryz.func84, Tryz.ntmps84
  go_wp2_with (go_at_call 79; refine (indirect_any 43 _ (by decide) (by decide) _).mono ?_; rintro e w' ⟨rfl, rfl⟩)
  go_ret2
  exact ⟨rfl, rfl⟩

theorem toNumberE_int8_int16 (c : Int) (h0 : -32768 ≤ c) (h1 : c ≤ 32767) (pf : Value) (w : World) :
    Calls Tryz.prog 58 #[.iface 43 (.int .i16 c), pf] w fun e w' => e = .returned (.tuple #[.int .i8 (IntKind.i8.wrap c), .nilIface]) ∧ w = w' := by
  have H := fun w => Lib.hid (toNumber_int8_int16 c h0 h1 w)
  go_enter Tryz.func58, Tryz.ntmps58
  go_wp2_with (go_at_call 84; refine ((H _).out).mono ?_; rintro e w' ⟨rfl, rfl⟩)
  go_ret2
  exact ⟨rfl, rfl⟩

theorem toE_int8_int16 (c : Int) (h0 : -32768 ≤ c) (h1 : c ≤ 32767) (w : World) :
    Calls Tryz.prog 28 #[.iface 43 (.int .i16 c)] w fun e w' => e = .returned (.tuple #[.int .i8 (IntKind.i8.wrap c), .nilIface]) ∧ w = w' := by
  have hmf : ∀ (fn : Fn) (first cap : Array Value) (w : World), (Instr.makeFunc fn first cap).run Tryz.prog w = .ok (.func fn first cap) w := fun _ _ _ _ => rfl
  have H := fun pf w => Lib.hid (toNumberE_int8_int16 c h0 h1 pf w)
  go_enter Tryz.func28, Tryz.ntmps28
  go_wp2_with (go_at_call 58; refine ((H _ _).out).mono ?_; rintro e w' ⟨rfl, rfl⟩)
  go_ret2
  exact ⟨rfl, rfl⟩


theorem doorI_int8_int16 (c : Int) (h0 : -32768 ≤ c) (h1 : c ≤ 32767) (w : World) :
    Calls Tryz.prog 14 #[anyOf 4 c 0 0 ⟨#[]⟩] w fun e w' => e = .returned (.tuple #[.int .i64 (IntKind.i8.wrap c), .bool true]) ∧ Below w.heap.size w w' := by
  have HV := fun w => Lib.hid (value_int16 c 0 0 ⟨#[]⟩ w (by omega) (by omega))
  have hval : (IntKind.i16.wrap c) = c := by simp [wrap32, IntKind.wrap, IntKind.bits, IntKind.signed]; omega
  rw [hval] at HV
  clear hval
  have HE := fun w => Lib.hid (toE_int8_int16 c h0 h1 w)
  have e0 : -128 ≤ (IntKind.i8.wrap c) := by simp [wrap32, IntKind.wrap, IntKind.bits, IntKind.signed]; omega
  have e1 : (IntKind.i8.wrap c) ≤ 127 := by simp [wrap32, IntKind.wrap, IntKind.bits, IntKind.signed]; omega
  generalize (IntKind.i8.wrap c) = d at HE e0 e1 ⊢
  unfold anyOf at HV ⊢
  go_enter Tryz.func14, Tryz.ntmps14
  go_wp2_with (first
    | (go_at_call 25; refine ((HV _).out).mono ?_; rintro e w1 ⟨rfl, hb0⟩; have hb1 : Below w.heap.size w w1 := ((Below.refl _ _).alloc (Nat.le_refl _) _).trans (hb0.mono (by simp)))
    | (go_at_call 28; refine ((HE _).out).mono ?_; rintro e w2 ⟨rfl, rfl⟩))
  go_quiet (fail)
  go_wp2
  go_ret2
  exact ⟨rfl, bdrew hb1 _⟩

theorem toNumber_int8_int32 (c : Int) (h0 : -2147483648 ≤ c) (h1 : c ≤ 2147483647) (w : World) :
    Calls Tryz.prog 84 #[.iface 21 (.int .i32 c)] w fun e w' => e = .returned (.tuple #[.int .i8 (IntKind.i8.wrap c), .bool true]) ∧ w = w' := by
  have z0 := Tryz.no_int8 21 (by decide) (.int .i32 c)
  have z1 := Tryz.no_int 21 (by decide) (.int .i32 c)
  have z2 := Tryz.no_int16 21 (by decide) (.int .i32 c)
  have z3 := Tryz.is_int32 (.int .i32 c)
  go_enter Tryz.func84, Tryz.ntmps84
  go_wp2_with (go_at_call 79; refine (indirect_any 21 _ (by decide) (by decide) _).mono ?_; rintro e w' ⟨rfl, rfl⟩)
  go_ret2
  exact ⟨rfl, rfl⟩

theorem toNumberE_int8_int32 (c : Int) (h0 : -2147483648 ≤ c) (h1 : c ≤ 2147483647) (pf : Value) (w : World) :
    Calls Tryz.prog 58 #[.iface 21 (.int .i32 c), pf] w fun e w' => e = .returned (.tuple #[.int .i8 (IntKind.i8.wrap c), .nilIface]) ∧ w = w' := by
  have H := fun w => Lib.hid (toNumber_int8_int32 c h0 h1 w)
  go_enter Tryz.func58, Tryz.ntmps58
  go_wp2_with (go_at_call 84; refine ((H _).out).mono ?_; rintro e w' ⟨rfl, rfl⟩)
  go_ret2
  exact ⟨rfl, rfl⟩

theorem toE_int8_int32 (c : Int) (h0 : -2147483648 ≤ c) (h1 : c ≤ 2147483647) (w : World) :
    Calls Tryz.prog 28 #[.iface 21 (.int .i32 c)] w fun e w' => e = .returned (.tuple #[.int .i8 (IntKind.i8.wrap c), .nilIface]) ∧ w = w' := by
  have hmf : ∀ (fn : Fn) (first cap : Array Value) (w : World), (Instr.makeFunc fn first cap).run Tryz.prog w = .ok (.func fn first cap) w := fun _ _ _ _ => rfl
  have H := fun pf w => Lib.hid (toNumberE_int8_int32 c h0 h1 pf w)
  go_enter Tryz.func28, Tryz.ntmps28
  go_wp2_with (go_at_call 58; refine ((H _ _).out).mono ?_; rintro e w' ⟨rfl, rfl⟩)
  go_ret2
  exact ⟨rfl, rfl⟩


theorem doorI_int8_int32 (c : Int) (h0 : -2147483648 ≤ c) (h1 : c ≤ 2147483647) (w : World) :
    Calls Tryz.prog 14 #[anyOf 5 c 0 0 ⟨#[]⟩] w fun e w' => e = .returned (.tuple #[.int .i64 (IntKind.i8.wrap c), .bool true]) ∧ Below w.heap.size w w' := by
  have HV := fun w => Lib.hid (value_int32 c 0 0 ⟨#[]⟩ w (by omega) (by omega))
  have hval : (wrap32 c) = c := by simp [wrap32, IntKind.wrap, IntKind.bits, IntKind.signed]; omega
  rw [hval] at HV
  clear hval
  have HE := fun w => Lib.hid (toE_int8_int32 c h0 h1 w)
  have e0 : -128 ≤ (IntKind.i8.wrap c) := by simp [wrap32, IntKind.wrap, IntKind.bits, IntKind.signed]; omega
  have e1 : (IntKind.i8.wrap c) ≤ 127 := by simp [wrap32, IntKind.wrap, IntKind.bits, IntKind.signed]; omega
  generalize (IntKind.i8.wrap c) = d at HE e0 e1 ⊢
  unfold anyOf at HV ⊢
  go_enter Tryz.func14, Tryz.ntmps14
  go_wp2_with (first
    | (go_at_call 25; refine ((HV _).out).mono ?_; rintro e w1 ⟨rfl, hb0⟩; have hb1 : Below w.heap.size w w1 := ((Below.refl _ _).alloc (Nat.le_refl _) _).trans (hb0.mono (by simp)))
    | (go_at_call 28; refine ((HE _).out).mono ?_; rintro e w2 ⟨rfl, rfl⟩))
  go_quiet (fail)
  go_wp2
  go_ret2
  exact ⟨rfl, bdrew hb1 _⟩

theorem toNumber_int8_int64 (c : Int) (h0 : -9223372036854775808 ≤ c) (h1 : c ≤ 9223372036854775807) (w : World) :
    Calls Tryz.prog 84 #[.iface 2 (.int .i64 c)] w fun e w' => e = .returned (.tuple #[.int .i8 (IntKind.i8.wrap c), .bool true]) ∧ w = w' := by
  have z0 := Tryz.no_int8 2 (by decide) (.int .i64 c)
  have z1 := Tryz.no_int 2 (by decide) (.int .i64 c)
  have z2 := Tryz.no_int16 2 (by decide) (.int .i64 c)
  have z3 := Tryz.no_int32 2 (by decide) (.int .i64 c)
  have z4 := Tryz.is_int64 (.int .i64 c)
  go_enter Tryz.func84, Tryz.ntmps84
  go_wp2_with (go_at_call 79; refine (indirect_any 2 _ (by decide) (by decide) _).mono ?_; rintro e w' ⟨rfl, rfl⟩)
  go_ret2
  exact ⟨rfl, rfl⟩

theorem toNumberE_int8_int64 (c : Int) (h0 : -9223372036854775808 ≤ c) (h1 : c ≤ 9223372036854775807) (pf : Value) (w : World) :
    Calls Tryz.prog 58 #[.iface 2 (.int .i64 c), pf] w fun e w' => e = .returned (.tuple #[.int .i8 (IntKind.i8.wrap c), .nilIface]) ∧ w = w' := by
  have H := fun w => Lib.hid (toNumber_int8_int64 c h0 h1 w)
  go_enter Tryz.func58, Tryz.ntmps58
  go_wp2_with (go_at_call 84; refine ((H _).out).mono ?_; rintro e w' ⟨rfl, rfl⟩)
  go_ret2
  exact ⟨rfl, rfl⟩

theorem toE_int8_int64 (c : Int) (h0 : -9223372036854775808 ≤ c) (h1 : c ≤ 9223372036854775807) (w : World) :
    Calls Tryz.prog 28 #[.iface 2 (.int .i64 c)] w fun e w' => e = .returned (.tuple #[.int .i8 (IntKind.i8.wrap c), .nilIface]) ∧ w = w' := by
  have hmf : ∀ (fn : Fn) (first cap : Array Value) (w : World), (Instr.makeFunc fn first cap).run Tryz.prog w = .ok (.func fn first cap) w := fun _ _ _ _ => rfl
  have H := fun pf w => Lib.hid (toNumberE_int8_int64 c h0 h1 pf w)
  go_enter Tryz.func28, Tryz.ntmps28
  go_wp2_with (go_at_call 58; refine ((H _ _).out).mono ?_; rintro e w' ⟨rfl, rfl⟩)
  go_ret2
  exact ⟨rfl, rfl⟩


theorem doorI_int8_int64 (c : Int) (h0 : -9223372036854775808 ≤ c) (h1 : c ≤ 9223372036854775807) (w : World) :
    Calls Tryz.prog 14 #[anyOf 6 c 0 0 ⟨#[]⟩] w fun e w' => e = .returned (.tuple #[.int .i64 (IntKind.i8.wrap c), .bool true]) ∧ Below w.heap.size w w' := by
  have HV := fun w => Lib.hid (value_int64 c 0 0 ⟨#[]⟩ w (by omega) (by omega))
  have HE := fun w => Lib.hid (toE_int8_int64 c h0 h1 w)
  have e0 : -128 ≤ (IntKind.i8.wrap c) := by simp [wrap32, IntKind.wrap, IntKind.bits, IntKind.signed]; omega
  have e1 : (IntKind.i8.wrap c) ≤ 127 := by simp [wrap32, IntKind.wrap, IntKind.bits, IntKind.signed]; omega
  generalize (IntKind.i8.wrap c) = d at HE e0 e1 ⊢
  unfold anyOf at HV ⊢
  go_enter Tryz.func14, Tryz.ntmps14
  go_wp2_with (first
    | (go_at_call 25; refine ((HV _).out).mono ?_; rintro e w1 ⟨rfl, hb0⟩; have hb1 : Below w.heap.size w w1 := ((Below.refl _ _).alloc (Nat.le_refl _) _).trans (hb0.mono (by simp)))
    | (go_at_call 28; refine ((HE _).out).mono ?_; rintro e w2 ⟨rfl, rfl⟩))
  go_quiet (fail)
  go_wp2
  go_ret2
  exact ⟨rfl, bdrew hb1 _⟩

theorem toNumber_int16_int (c : Int) (h0 : -9223372036854775808 ≤ c) (h1 : c ≤ 9223372036854775807) (w : World) :
    Calls Tryz.prog 87 #[.iface 3 (.int .i64 c)] w fun e w' => e = .returned (.tuple #[.int .i16 (IntKind.i16.wrap c), .bool true]) ∧ w = w' := by
  have z0 := Tryz.no_int16 3 (by decide) (.int .i64 c)
  have z1 := Tryz.is_int (.int .i64 c)
  go_enter Tryz.func87, Tryz.ntmps87
  go_wp2_with (go_at_call 79; refine (indirect_any 3 _ (by decide) (by decide) _).mono ?_; rintro e w' ⟨rfl, rfl⟩)
  go_ret2
  exact ⟨rfl, rfl⟩

theorem toNumberE_int16_int (c : Int) (h0 : -9223372036854775808 ≤ c) (h1 : c ≤ 9223372036854775807) (pf : Value) (w : World) :
    Calls Tryz.prog 60 #[.iface 3 (.int .i64 c), pf] w fun e w' => e = .returned (.tuple #[.int .i16 (IntKind.i16.wrap c), .nilIface]) ∧ w = w' := by
  have H := fun w => Lib.hid (toNumber_int16_int c h0 h1 w)
  go_enter Tryz.func60, Tryz.ntmps60
  go_wp2_with (go_at_call 87; refine ((H _).out).mono ?_; rintro e w' ⟨rfl, rfl⟩)
  go_ret2
  exact ⟨rfl, rfl⟩

theorem toE_int16_int (c : Int) (h0 : -9223372036854775808 ≤ c) (h1 : c ≤ 9223372036854775807) (w : World) :
    Calls Tryz.prog 29 #[.iface 3 (.int .i64 c)] w fun e w' => e = .returned (.tuple #[.int .i16 (IntKind.i16.wrap c), .nilIface]) ∧ w = w' := by
  have hmf : ∀ (fn : Fn) (first cap : Array Value) (w : World), (Instr.makeFunc fn first cap).run Tryz.prog w = .ok (.func fn first cap) w := fun _ _ _ _ => rfl
  have H := fun pf w => Lib.hid (toNumberE_int16_int c h0 h1 pf w)
  go_enter Tryz.func29, Tryz.ntmps29
  go_wp2_with (go_at_call 60; refine ((H _ _).out).mono ?_; rintro e w' ⟨rfl, rfl⟩)
  go_ret2
  exact ⟨rfl, rfl⟩


theorem doorI_int16_int (c : Int) (h0 : -9223372036854775808 ≤ c) (h1 : c ≤ 9223372036854775807) (w : World) :
    Calls Tryz.prog 15 #[anyOf 2 c 0 0 ⟨#[]⟩] w fun e w' => e = .returned (.tuple #[.int .i64 (IntKind.i16.wrap c), .bool true]) ∧ Below w.heap.size w w' := by
  have HV := fun w => Lib.hid (value_int c 0 0 ⟨#[]⟩ w (by omega) (by omega))
  have HE := fun w => Lib.hid (toE_int16_int c h0 h1 w)
  have e0 : -32768 ≤ (IntKind.i16.wrap c) := by simp [wrap32, IntKind.wrap, IntKind.bits, IntKind.signed]; omega
  have e1 : (IntKind.i16.wrap c) ≤ 32767 := by simp [wrap32, IntKind.wrap, IntKind.bits, IntKind.signed]; omega
  generalize (IntKind.i16.wrap c) = d at HE e0 e1 ⊢
  unfold anyOf at HV ⊢
  go_enter Tryz.func15, Tryz.ntmps15
  go_wp2_with (first
    | (go_at_call 25; refine ((HV _).out).mono ?_; rintro e w1 ⟨rfl, hb0⟩; have hb1 : Below w.heap.size w w1 := ((Below.refl _ _).alloc (Nat.le_refl _) _).trans (hb0.mono (by simp)))
    | (go_at_call 29; refine ((HE _).out).mono ?_; rintro e w2 ⟨rfl, rfl⟩))
  go_quiet (fail)
  go_wp2
  go_ret2
  exact ⟨rfl, bdrew hb1 _⟩

theorem toNumber_int16_int8 (c : Int) (h0 : -128 ≤ c) (h1 : c ≤ 127) (w : World) :
    Calls Tryz.prog 87 #[.iface 42 (.int .i8 c)] w fun e w' => e = .returned (.tuple #[.int .i16 c, .bool true]) ∧ w = w' := by
  have z0 := Tryz.no_int16 42 (by decide) (.int .i8 c)
  have z1 := Tryz.no_int 42 (by decide) (.int .i8 c)
  have z2 := Tryz.is_int8 (.int .i8 c)
  go_enter Tryz.func87, Tryz.ntmps87
  go_wp2_with (go_at_call 79; refine (indirect_any 42 _ (by decide) (by decide) _).mono ?_; rintro e w' ⟨rfl, rfl⟩)
  go_ret2
  exact ⟨rfl, rfl⟩

theorem toNumberE_int16_int8 (c : Int) (h0 : -128 ≤ c) (h1 : c ≤ 127) (pf : Value) (w : World) :
    Calls Tryz.prog 60 #[.iface 42 (.int .i8 c), pf] w fun e w' => e = .returned (.tuple #[.int .i16 c, .nilIface]) ∧ w = w' := by
  have H := fun w => Lib.hid (toNumber_int16_int8 c h0 h1 w)
  go_enter Tryz.func60, Tryz.ntmps60
  go_wp2_with (go_at_call 87; refine ((H _).out).mono ?_; rintro e w' ⟨rfl, rfl⟩)
  go_ret2
  exact ⟨rfl, rfl⟩

theorem toE_int16_int8 (c : Int) (h0 : -128 ≤ c) (h1 : c ≤ 127) (w : World) :
    Calls Tryz.prog 29 #[.iface 42 (.int .i8 c)] w fun e w' => e = .returned (.tuple #[.int .i16 c, .nilIface]) ∧ w = w' := by
  have hmf : ∀ (fn : Fn) (first cap : Array Value) (w : World), (Instr.makeFunc fn first cap).run Tryz.prog w = .ok (.func fn first cap) w := fun _ _ _ _ => rfl
  have H := fun pf w => Lib.hid (toNumberE_int16_int8 c h0 h1 pf w)
  go_enter Tryz.func29, Tryz.ntmps29
  go_wp2_with (go_at_call 60; refine ((H _ _).out).mono ?_; rintro e w' ⟨rfl, rfl⟩)
  go_ret2
  exact ⟨rfl, rfl⟩


theorem doorI_int16_int8 (c : Int) (h0 : -128 ≤ c) (h1 : c ≤ 127) (w : World) :
    Calls Tryz.prog 15 #[anyOf 3 c 0 0 ⟨#[]⟩] w fun e w' => e = .returned (.tuple #[.int .i64 c, .bool true]) ∧ Below w.heap.size w w' := by
  have HV := fun w => Lib.hid (value_int8 c 0 0 ⟨#[]⟩ w (by omega) (by omega))
  have hval : (IntKind.i8.wrap c) = c := by simp [wrap32, IntKind.wrap, IntKind.bits, IntKind.signed]; omega
  rw [hval] at HV
  clear hval
  have HE := fun w => Lib.hid (toE_int16_int8 c h0 h1 w)
  unfold anyOf at HV ⊢
  go_enter Tryz.func15, Tryz.ntmps15
  go_wp2_with (first
    | (go_at_call 25; refine ((HV _).out).mono ?_; rintro e w1 ⟨rfl, hb0⟩; have hb1 : Below w.heap.size w w1 := ((Below.refl _ _).alloc (Nat.le_refl _) _).trans (hb0.mono (by simp)))
    | (go_at_call 29; refine ((HE _).out).mono ?_; rintro e w2 ⟨rfl, rfl⟩))
  go_quiet (fail)
  go_wp2
  go_ret2
  exact ⟨rfl, bdrew hb1 _⟩

theorem toNumber_int16_int16 (c : Int) (h0 : -32768 ≤ c) (h1 : c ≤ 32767) (w : World) :
    Calls Tryz.prog 87 #[.iface 43 (.int .i16 c)] w fun e w' => e = .returned (.tuple #[.int .i16 c, .bool true]) ∧ w = w' := by
  have z0 := Tryz.is_int16 (.int .i16 c)
  go_enter Tryz.func87, Tryz.ntmps87
  go_wp2_with (go_at_call 79; refine (indirect_any 43 _ (by decide) (by decide) _).mono ?_; rintro e w' ⟨rfl, rfl⟩)
  go_ret2
  exact ⟨rfl, rfl⟩

theorem toNumberE_int16_int16 (c : Int) (h0 : -32768 ≤ c) (h1 : c ≤ 32767) (pf : Value) (w : World) :
    Calls Tryz.prog 60 #[.iface 43 (.int .i16 c), pf] w fun e w' => e = .returned (.tuple #[.int .i16 c, .nilIface]) ∧ w = w' := by
  have H := fun w => Lib.hid (toNumber_int16_int16 c h0 h1 w)
  go_enter Tryz.func60, Tryz.ntmps60
  go_wp2_with (go_at_call 87; refine ((H _).out).mono ?_; rintro e w' ⟨rfl, rfl⟩)
  go_ret2
  exact ⟨rfl, rfl⟩

theorem toE_int16_int16 (c : Int) (h0 : -32768 ≤ c) (h1 : c ≤ 32767) (w : World) :
    Calls Tryz.prog 29 #[.iface 43 (.int .i16 c)] w fun e w' => e = .returned (.tuple #[.int .i16 c, .nilIface]) ∧ w = w' := by
  have hmf : ∀ (fn : Fn) (first cap : Array Value) (w : World), (Instr.makeFunc fn first cap).run Tryz.prog w = .ok (.func fn first cap) w := fun _ _ _ _ => rfl
  have H := fun pf w => Lib.hid (toNumberE_int16_int16 c h0 h1 pf w)
  go_enter Tryz.func29, Tryz.ntmps29
  go_wp2_with (go_at_call 60; refine ((H _ _).out).mono ?_; rintro e w' ⟨rfl, rfl⟩)
  go_ret2
  exact ⟨rfl, rfl⟩


theorem doorI_int16_int16 (c : Int) (h0 : -32768 ≤ c) (h1 : c ≤ 32767) (w : World) :
    Calls Tryz.prog 15 #[anyOf 4 c 0 0 ⟨#[]⟩] w fun e w' => e = .returned (.tuple #[.int .i64 c, .bool true]) ∧ Below w.heap.size w w' := by
  have HV := fun w => Lib.hid (value_int16 c 0 0 ⟨#[]⟩ w (by omega) (by omega))
  have hval : (IntKind.i16.wrap c) = c := by simp [wrap32, IntKind.wrap, IntKind.bits, IntKind.signed]; omega
  rw [hval] at HV
  clear hval
  have HE := fun w => Lib.hid (toE_int16_int16 c h0 h1 w)
  unfold anyOf at HV ⊢
  go_enter Tryz.func15, Tryz.ntmps15
  go_wp2_with (first
    | (go_at_call 25; refine ((HV _).out).mono ?_; rintro e w1 ⟨rfl, hb0⟩; have hb1 : Below w.heap.size w w1 := ((Below.refl _ _).alloc (Nat.le_refl _) _).trans (hb0.mono (by simp)))
    | (go_at_call 29; refine ((HE _).out).mono ?_; rintro e w2 ⟨rfl, rfl⟩))
  go_quiet (fail)
  go_wp2
  go_ret2
  exact ⟨rfl, bdrew hb1 _⟩

theorem toNumber_int16_int32 (c : Int) (h0 : -2147483648 ≤ c) (h1 : c ≤ 2147483647) (w : World) :
    Calls Tryz.prog 87 #[.iface 21 (.int .i32 c)] w fun e w' => e = .returned (.tuple #[.int .i16 (IntKind.i16.wrap c), .bool true]) ∧ w = w' := by
  have z0 := Tryz.no_int16 21 (by decide) (.int .i32 c)
  have z1 := Tryz.no_int 21 (by decide) (.int .i32 c)
  have z2 := Tryz.no_int8 21 (by decide) (.int .i32 c)
  have z3 := Tryz.is_int32 (.int .i32 c)
  go_enter Tryz.func87, Tryz.ntmps87
  go_wp2_with (go_at_call 79; refine (indirect_any 21 _ (by decide) (by decide) _).mono ?_; rintro e w' ⟨rfl, rfl⟩)
  go_ret2
  exact ⟨rfl, rfl⟩

theorem toNumberE_int16_int32 (c : Int) (h0 : -2147483648 ≤ c) (h1 : c ≤ 2147483647) (pf : Value) (w : World) :
    Calls Tryz.prog 60 #[.iface 21 (.int .i32 c), pf] w fun e w' => e = .returned (.tuple #[.int .i16 (IntKind.i16.wrap c), .nilIface]) ∧ w = w' := by
  have H := fun w => Lib.hid (toNumber_int16_int32 c h0 h1 w)
  go_enter Tryz.func60, Tryz.ntmps60
  go_wp2_with (go_at_call 87; refine ((H _).out).mono ?_; rintro e w' ⟨rfl, rfl⟩)
  go_ret2
  exact ⟨rfl, rfl⟩

theorem toE_int16_int32 (c : Int) (h0 : -2147483648 ≤ c) (h1 : c ≤ 2147483647) (w : World) :
    Calls Tryz.prog 29 #[.iface 21 (.int .i32 c)] w fun e w' => e = .returned (.tuple #[.int .i16 (IntKind.i16.wrap c), .nilIface]) ∧ w = w' := by
  have hmf : ∀ (fn : Fn) (first cap : Array Value) (w : World), (Instr.makeFunc fn first cap).run Tryz.prog w = .ok (.func fn first cap) w := fun _ _ _ _ => rfl
  have H := fun pf w => Lib.hid (toNumberE_int16_int32 c h0 h1 pf w)
  go_enter Tryz.func29, Tryz.ntmps29
  go_wp2_with (go_at_call 60; refine ((H _ _).out).mono ?_; rintro e w' ⟨rfl, rfl⟩)
  go_ret2
  exact ⟨rfl, rfl⟩


theorem doorI_int16_int32 (c : Int) (h0 : -2147483648 ≤ c) (h1 : c ≤ 2147483647) (w : World) :
    Calls Tryz.prog 15 #[anyOf 5 c 0 0 ⟨#[]⟩] w fun e w' => e = .returned (.tuple #[.int .i64 (IntKind.i16.wrap c), .bool true]) ∧ Below w.heap.size w w' := by
  have HV := fun w => Lib.hid (value_int32 c 0 0 ⟨#[]⟩ w (by omega) (by omega))
  have hval : (wrap32 c) = c := by simp [wrap32, IntKind.wrap, IntKind.bits, IntKind.signed]; omega
  rw [hval] at HV
  clear hval
  have HE := fun w => Lib.hid (toE_int16_int32 c h0 h1 w)
  have e0 : -32768 ≤ (IntKind.i16.wrap c) := by simp [wrap32, IntKind.wrap, IntKind.bits, IntKind.signed]; omega
  have e1 : (IntKind.i16.wrap c) ≤ 32767 := by simp [wrap32, IntKind.wrap, IntKind.bits, IntKind.signed]; omega
  generalize (IntKind.i16.wrap c) = d at HE e0 e1 ⊢
  unfold anyOf at HV ⊢
  go_enter Tryz.func15, Tryz.ntmps15
  go_wp2_with (first
    | (go_at_call 25; refine ((HV _).out).mono ?_; rintro e w1 ⟨rfl, hb0⟩; have hb1 : Below w.heap.size w w1 := ((Below.refl _ _).alloc (Nat.le_refl _) _).trans (hb0.mono (by simp)))
    | (go_at_call 29; refine ((HE _).out).mono ?_; rintro e w2 ⟨rfl, rfl⟩))
  go_quiet (fail)
  go_wp2
  go_ret2
  exact ⟨rfl, bdrew hb1 _⟩

theorem toNumber_int16_int64 (c : Int) (h0 : -9223372036854775808 ≤ c) (h1 : c ≤ 9223372036854775807) (w : World) :
    Calls Tryz.prog 87 #[.iface 2 (.int .i64 c)] w fun e w' => e = .returned (.tuple #[.int .i16 (IntKind.i16.wrap c), .bool true]) ∧ w = w' := by
  have z0 := Tryz.no_int16 2 (by decide) (.int .i64 c)
  have z1 := Tryz.no_int 2 (by decide) (.int .i64 c)
  have z2 := Tryz.no_int8 2 (by decide) (.int .i64 c)
  have z3 := Tryz.no_int32 2 (by decide) (.int .i64 c)
  have z4 := Tryz.is_int64 (.int .i64 c)
  go_enter Tryz.func87, Tryz.ntmps87
  go_wp2_with (go_at_call 79; refine (indirect_any 2 _ (by decide) (by decide) _).mono ?_; rintro e w' ⟨rfl, rfl⟩)
  go_ret2
  exact ⟨rfl, rfl⟩

theorem toNumberE_int16_int64 (c : Int) (h0 : -9223372036854775808 ≤ c) (h1 : c ≤ 9223372036854775807) (pf : Value) (w : World) :
    Calls Tryz.prog 60 #[.iface 2 (.int .i64 c), pf] w fun e w' => e = .returned (.tuple #[.int .i16 (IntKind.i16.wrap c), .nilIface]) ∧ w = w' := by
  have H := fun w => Lib.hid (toNumber_int16_int64 c h0 h1 w)
  go_enter Tryz.func60, Tryz.ntmps60
  go_wp2_with (go_at_call 87; refine ((H _).out).mono ?_; rintro e w' ⟨rfl, rfl⟩)
  go_ret2
  exact ⟨rfl, rfl⟩

theorem toE_int16_int64 (c : Int) (h0 : -9223372036854775808 ≤ c) (h1 : c ≤ 9223372036854775807) (w : World) :
    Calls Tryz.prog 29 #[.iface 2 (.int .i64 c)] w fun e w' => e = .returned (.tuple #[.int .i16 (IntKind.i16.wrap c), .nilIface]) ∧ w = w' := by
  have hmf : ∀ (fn : Fn) (first cap : Array Value) (w : World), (Instr.makeFunc fn first cap).run Tryz.prog w = .ok (.func fn first cap) w := fun _ _ _ _ => rfl
  have H := fun pf w => Lib.hid (toNumberE_int16_int64 c h0 h1 pf w)
  go_enter Tryz.func29, Tryz.ntmps29
  go_wp2_with (go_at_call 60; refine ((H _ _).out).mono ?_; rintro e w' ⟨rfl, rfl⟩)
  go_ret2
  exact ⟨rfl, rfl⟩


theorem doorI_int16_int64 (c : Int) (h0 : -9223372036854775808 ≤ c) (h1 : c ≤ 9223372036854775807) (w : World) :
    Calls Tryz.prog 15 #[anyOf 6 c 0 0 ⟨#[]⟩] w fun e w' => e = .returned (.tuple #[.int .i64 (IntKind.i16.wrap c), .bool true]) ∧ Below w.heap.size w w' := by
  have HV := fun w => Lib.hid (value_int64 c 0 0 ⟨#[]⟩ w (by omega) (by omega))
  have HE := fun w => Lib.hid (toE_int16_int64 c h0 h1 w)
  have e0 : -32768 ≤ (IntKind.i16.wrap c) := by simp [wrap32, IntKind.wrap, IntKind.bits, IntKind.signed]; omega
  have e1 : (IntKind.i16.wrap c) ≤ 32767 := by simp [wrap32, IntKind.wrap, IntKind.bits, IntKind.signed]; omega
  generalize (IntKind.i16.wrap c) = d at HE e0 e1 ⊢
  unfold anyOf at HV ⊢
  go_enter Tryz.func15, Tryz.ntmps15
  go_wp2_with (first
    | (go_at_call 25; refine ((HV _).out).mono ?_; rintro e w1 ⟨rfl, hb0⟩; have hb1 : Below w.heap.size w w1 := ((Below.refl _ _).alloc (Nat.le_refl _) _).trans (hb0.mono (by simp)))
    | (go_at_call 29; refine ((HE _).out).mono ?_; rintro e w2 ⟨rfl, rfl⟩))
  go_quiet (fail)
  go_wp2
  go_ret2
  exact ⟨rfl, bdrew hb1 _⟩

theorem toNumber_int32_int (c : Int) (h0 : -9223372036854775808 ≤ c) (h1 : c ≤ 9223372036854775807) (w : World) :
    Calls Tryz.prog 88 #[.iface 3 (.int .i64 c)] w fun e w' => e = .returned (.tuple #[.int .i32 (wrap32 c), .bool true]) ∧ w = w' := by
  have z0 := Tryz.no_int32 3 (by decide) (.int .i64 c)
  have z1 := Tryz.is_int (.int .i64 c)
  go_enter Tryz.func88, Tryz.ntmps88
  go_wp2_with (go_at_call 79; refine (indirect_any 3 _ (by decide) (by decide) _).mono ?_; rintro e w' ⟨rfl, rfl⟩)
  go_ret2
  exact ⟨rfl, rfl⟩

theorem toNumberE_int32_int (c : Int) (h0 : -9223372036854775808 ≤ c) (h1 : c ≤ 9223372036854775807) (pf : Value) (w : World) :
    Calls Tryz.prog 62 #[.iface 3 (.int .i64 c), pf] w fun e w' => e = .returned (.tuple #[.int .i32 (wrap32 c), .nilIface]) ∧ w = w' := by
  have H := fun w => Lib.hid (toNumber_int32_int c h0 h1 w)
  go_enter Tryz.func62, Tryz.ntmps62
  go_wp2_with (go_at_call 88; refine ((H _).out).mono ?_; rintro e w' ⟨rfl, rfl⟩)
  go_ret2
  exact ⟨rfl, rfl⟩

theorem toE_int32_int (c : Int) (h0 : -9223372036854775808 ≤ c) (h1 : c ≤ 9223372036854775807) (w : World) :
    Calls Tryz.prog 30 #[.iface 3 (.int .i64 c)] w fun e w' => e = .returned (.tuple #[.int .i32 (wrap32 c), .nilIface]) ∧ w = w' := by
  have hmf : ∀ (fn : Fn) (first cap : Array Value) (w : World), (Instr.makeFunc fn first cap).run Tryz.prog w = .ok (.func fn first cap) w := fun _ _ _ _ => rfl
  have H := fun pf w => Lib.hid (toNumberE_int32_int c h0 h1 pf w)
  go_enter Tryz.func30, Tryz.ntmps30
  go_wp2_with (go_at_call 62; refine ((H _ _).out).mono ?_; rintro e w' ⟨rfl, rfl⟩)
  go_ret2
  exact ⟨rfl, rfl⟩


theorem doorI_int32_int (c : Int) (h0 : -9223372036854775808 ≤ c) (h1 : c ≤ 9223372036854775807) (w : World) :
    Calls Tryz.prog 16 #[anyOf 2 c 0 0 ⟨#[]⟩] w fun e w' => e = .returned (.tuple #[.int .i64 (wrap32 c), .bool true]) ∧ Below w.heap.size w w' := by
  have HV := fun w => Lib.hid (value_int c 0 0 ⟨#[]⟩ w (by omega) (by omega))
  have HE := fun w => Lib.hid (toE_int32_int c h0 h1 w)
  have e0 : -2147483648 ≤ (wrap32 c) := by simp [wrap32, IntKind.wrap, IntKind.bits, IntKind.signed]; omega
  have e1 : (wrap32 c) ≤ 2147483647 := by simp [wrap32, IntKind.wrap, IntKind.bits, IntKind.signed]; omega
  generalize (wrap32 c) = d at HE e0 e1 ⊢
  unfold anyOf at HV ⊢
  go_enter Tryz.func16, Tryz.ntmps16
  go_wp2_with (first
    | (go_at_call 25; refine ((HV _).out).mono ?_; rintro e w1 ⟨rfl, hb0⟩; have hb1 : Below w.heap.size w w1 := ((Below.refl _ _).alloc (Nat.le_refl _) _).trans (hb0.mono (by simp)))
    | (go_at_call 30; refine ((HE _).out).mono ?_; rintro e w2 ⟨rfl, rfl⟩))
  go_quiet (fail)
  go_wp2
  go_ret2
  exact ⟨rfl, bdrew hb1 _⟩

theorem toNumber_int32_int8 (c : Int) (h0 : -128 ≤ c) (h1 : c ≤ 127) (w : World) :
    Calls Tryz.prog 88 #[.iface 42 (.int .i8 c)] w fun e w' => e = .returned (.tuple #[.int .i32 c, .bool true]) ∧ w = w' := by
  have z0 := Tryz.no_int32 42 (by decide) (.int .i8 c)
  have z1 := Tryz.no_int 42 (by decide) (.int .i8 c)
  have z2 := Tryz.is_int8 (.int .i8 c)
  go_enter Tryz.func88, Tryz.ntmps88
  go_wp2_with (go_at_call 79; refine (indirect_any 42 _ (by decide) (by decide) _).mono ?_; rintro e w' ⟨rfl, rfl⟩)
  go_ret2
  exact ⟨rfl, rfl⟩

theorem toNumberE_int32_int8 (c : Int) (h0 : -128 ≤ c) (h1 : c ≤ 127) (pf : Value) (w : World) :
    Calls Tryz.prog 62 #[.iface 42 (.int .i8 c), pf] w fun e w' => e = .returned (.tuple #[.int .i32 c, .nilIface]) ∧ w = w' := by
  have H := fun w => Lib.hid (toNumber_int32_int8 c h0 h1 w)
  go_enter Tryz.func62, Tryz.ntmps62
  go_wp2_with (go_at_call 88; refine ((H _).out).mono ?_; rintro e w' ⟨rfl, rfl⟩)
  go_ret2
  exact ⟨rfl, rfl⟩

theorem toE_int32_int8 (c : Int) (h0 : -128 ≤ c) (h1 : c ≤ 127) (w : World) :
    Calls Tryz.prog 30 #[.iface 42 (.int .i8 c)] w fun e w' => e = .returned (.tuple #[.int .i32 c, .nilIface]) ∧ w = w' := by
  have hmf : ∀ (fn : Fn) (first cap : Array Value) (w : World), (Instr.makeFunc fn first cap).run Tryz.prog w = .ok (.func fn first cap) w := fun _ _ _ _ => rfl
  have H := fun pf w => Lib.hid (toNumberE_int32_int8 c h0 h1 pf w)
  go_enter Tryz.func30, Tryz.ntmps30
  go_wp2_with (go_at_call 62; refine ((H _ _).out).mono ?_; rintro e w' ⟨rfl, rfl⟩)
  go_ret2
  exact ⟨rfl, rfl⟩


theorem doorI_int32_int8 (c : Int) (h0 : -128 ≤ c) (h1 : c ≤ 127) (w : World) :
    Calls Tryz.prog 16 #[anyOf 3 c 0 0 ⟨#[]⟩] w fun e w' => e = .returned (.tuple #[.int .i64 c, .bool true]) ∧ Below w.heap.size w w' := by
  have HV := fun w => Lib.hid (value_int8 c 0 0 ⟨#[]⟩ w (by omega) (by omega))
  have hval : (IntKind.i8.wrap c) = c := by simp [wrap32, IntKind.wrap, IntKind.bits, IntKind.signed]; omega
  rw [hval] at HV
  clear hval
  have HE := fun w => Lib.hid (toE_int32_int8 c h0 h1 w)
  unfold anyOf at HV ⊢
  go_enter Tryz.func16, Tryz.ntmps16
  go_wp2_with (first
    | (go_at_call 25; refine ((HV _).out).mono ?_; rintro e w1 ⟨rfl, hb0⟩; have hb1 : Below w.heap.size w w1 := ((Below.refl _ _).alloc (Nat.le_refl _) _).trans (hb0.mono (by simp)))
    | (go_at_call 30; refine ((HE _).out).mono ?_; rintro e w2 ⟨rfl, rfl⟩))
  go_quiet (fail)
  go_wp2
  go_ret2
  exact ⟨rfl, bdrew hb1 _⟩

theorem toNumber_int32_int16 (c : Int) (h0 : -32768 ≤ c) (h1 : c ≤ 32767) (w : World) :
    Calls Tryz.prog 88 #[.iface 43 (.int .i16 c)] w fun e w' => e = .returned (.tuple #[.int .i32 c, .bool true]) ∧ w = w' := by
  have z0 := Tryz.no_int32 43 (by decide) (.int .i16 c)
  have z1 := Tryz.no_int 43 (by decide) (.int .i16 c)
  have z2 := Tryz.no_int8 43 (by decide) (.int .i16 c)
  have z3 := Tryz.is_int16 (.int .i16 c)
  go_enter Tryz.func88, Tryz.ntmps88
  go_wp2_with (go_at_call 79; refine (indirect_any 43 _ (by decide) (by decide) _).mono ?_; rintro e w' ⟨rfl, rfl⟩)
  go_ret2
  exact ⟨rfl, rfl⟩

theorem toNumberE_int32_int16 (c : Int) (h0 : -32768 ≤ c) (h1 : c ≤ 32767) (pf : Value) (w : World) :
    Calls Tryz.prog 62 #[.iface 43 (.int .i16 c), pf] w fun e w' => e = .returned (.tuple #[.int .i32 c, .nilIface]) ∧ w = w' := by
  have H := fun w => Lib.hid (toNumber_int32_int16 c h0 h1 w)
  go_enter Tryz.func62, Tryz.ntmps62
  go_wp2_with (go_at_call 88; refine ((H _).out).mono ?_; rintro e w' ⟨rfl, rfl⟩)
  go_ret2
  exact ⟨rfl, rfl⟩

theorem toE_int32_int16 (c : Int) (h0 : -32768 ≤ c) (h1 : c ≤ 32767) (w : World) :
    Calls Tryz.prog 30 #[.iface 43 (.int .i16 c)] w fun e w' => e = .returned (.tuple #[.int .i32 c, .nilIface]) ∧ w = w' := by
  have hmf : ∀ (fn : Fn) (first cap : Array Value) (w : World), (Instr.makeFunc fn first cap).run Tryz.prog w = .ok (.func fn first cap) w := fun _ _ _ _ => rfl
  have H := fun pf w => Lib.hid (toNumberE_int32_int16 c h0 h1 pf w)
  go_enter Tryz.func30, Tryz.ntmps30
  go_wp2_with (go_at_call 62; refine ((H _ _).out).mono ?_; rintro e w' ⟨rfl, rfl⟩)
  go_ret2
  exact ⟨rfl, rfl⟩


theorem doorI_int32_int16 (c : Int) (h0 : -32768 ≤ c) (h1 : c ≤ 32767) (w : World) :
    Calls Tryz.prog 16 #[anyOf 4 c 0 0 ⟨#[]⟩] w fun e w' => e = .returned (.tuple #[.int .i64 c, .bool true]) ∧ Below w.heap.size w w' := by
  have HV := fun w => Lib.hid (value_int16 c 0 0 ⟨#[]⟩ w (by omega) (by omega))
  have hval : (IntKind.i16.wrap c) = c := by simp [wrap32, IntKind.wrap, IntKind.bits, IntKind.signed]; omega
  rw [hval] at HV
  clear hval
  have HE := fun w => Lib.hid (toE_int32_int16 c h0 h1 w)
  unfold anyOf at HV ⊢
  go_enter Tryz.func16, Tryz.ntmps16
  go_wp2_with (first
    | (go_at_call 25; refine ((HV _).out).mono ?_; rintro e w1 ⟨rfl, hb0⟩; have hb1 : Below w.heap.size w w1 := ((Below.refl _ _).alloc (Nat.le_refl _) _).trans (hb0.mono (by simp)))
    | (go_at_call 30; refine ((HE _).out).mono ?_; rintro e w2 ⟨rfl, rfl⟩))
  go_quiet (fail)
  go_wp2
  go_ret2
  exact ⟨rfl, bdrew hb1 _⟩

theorem toNumber_int32_int32 (c : Int) (h0 : -2147483648 ≤ c) (h1 : c ≤ 2147483647) (w : World) :
    Calls Tryz.prog 88 #[.iface 21 (.int .i32 c)] w fun e w' => e = .returned (.tuple #[.int .i32 c, .bool true]) ∧ w = w' := by
  have z0 := Tryz.is_int32 (.int .i32 c)
  go_enter Tryz.func88, Tryz.ntmps88
  go_wp2_with (go_at_call 79; refine (indirect_any 21 _ (by decide) (by decide) _).mono ?_; rintro e w' ⟨rfl, rfl⟩)
  go_ret2
  exact ⟨rfl, rfl⟩

theorem toNumberE_int32_int32 (c : Int) (h0 : -2147483648 ≤ c) (h1 : c ≤ 2147483647) (pf : Value) (w : World) :
    Calls Tryz.prog 62 #[.iface 21 (.int .i32 c), pf] w fun e w' => e = .returned (.tuple #[.int .i32 c, .nilIface]) ∧ w = w' := by
  have H := fun w => Lib.hid (toNumber_int32_int32 c h0 h1 w)
  go_enter Tryz.func62, Tryz.ntmps62
  go_wp2_with (go_at_call 88; refine ((H _).out).mono ?_; rintro e w' ⟨rfl, rfl⟩)
  go_ret2
  exact ⟨rfl, rfl⟩

theorem toE_int32_int32 (c : Int) (h0 : -2147483648 ≤ c) (h1 : c ≤ 2147483647) (w : World) :
    Calls Tryz.prog 30 #[.iface 21 (.int .i32 c)] w fun e w' => e = .returned (.tuple #[.int .i32 c, .nilIface]) ∧ w = w' := by
  have hmf : ∀ (fn : Fn) (first cap : Array Value) (w : World), (Instr.makeFunc fn first cap).run Tryz.prog w = .ok (.func fn first cap) w := fun _ _ _ _ => rfl
  have H := fun pf w => Lib.hid (toNumberE_int32_int32 c h0 h1 pf w)
  go_enter Tryz.func30, Tryz.ntmps30
  go_wp2_with (go_at_call 62; refine ((H _ _).out).mono ?_; rintro e w' ⟨rfl, rfl⟩)
  go_ret2
  exact ⟨rfl, rfl⟩


theorem doorI_int32_int32 (c : Int) (h0 : -2147483648 ≤ c) (h1 : c ≤ 2147483647) (w : World) :
    Calls Tryz.prog 16 #[anyOf 5 c 0 0 ⟨#[]⟩] w fun e w' => e = .returned (.tuple #[.int .i64 c, .bool true]) ∧ Below w.heap.size w w' := by
  have HV := fun w => Lib.hid (value_int32 c 0 0 ⟨#[]⟩ w (by omega) (by omega))
  have hval : (wrap32 c) = c := by simp [wrap32, IntKind.wrap, IntKind.bits, IntKind.signed]; omega
  rw [hval] at HV
  clear hval
  have HE := fun w => Lib.hid (toE_int32_int32 c h0 h1 w)
  unfold anyOf at HV ⊢
  go_enter Tryz.func16, Tryz.ntmps16
  go_wp2_with (first
    | (go_at_call 25; refine ((HV _).out).mono ?_; rintro e w1 ⟨rfl, hb0⟩; have hb1 : Below w.heap.size w w1 := ((Below.refl _ _).alloc (Nat.le_refl _) _).trans (hb0.mono (by simp)))
    | (go_at_call 30; refine ((HE _).out).mono ?_; rintro e w2 ⟨rfl, rfl⟩))
  go_quiet (fail)
  go_wp2
  go_ret2
  exact ⟨rfl, bdrew hb1 _⟩

theorem toNumber_int32_int64 (c : Int) (h0 : -9223372036854775808 ≤ c) (h1 : c ≤ 9223372036854775807) (w : World) :
    Calls Tryz.prog 88 #[.iface 2 (.int .i64 c)] w fun e w' => e = .returned (.tuple #[.int .i32 (wrap32 c), .bool true]) ∧ w = w' := by
  have z0 := Tryz.no_int32 2 (by decide) (.int .i64 c)
  have z1 := Tryz.no_int 2 (by decide) (.int .i64 c)
  have z2 := Tryz.no_int8 2 (by decide) (.int .i64 c)
  have z3 := Tryz.no_int16 2 (by decide) (.int .i64 c)
  have z4 := Tryz.is_int64 (.int .i64 c)
  go_enter Tryz.func88, Tryz.ntmps88
  go_wp2_with (go_at_call 79; refine (indirect_any 2 _ (by decide) (by decide) _).mono ?_; rintro e w' ⟨rfl, rfl⟩)
  go_ret2
  exact ⟨rfl, rfl⟩

theorem toNumberE_int32_int64 (c : Int) (h0 : -9223372036854775808 ≤ c) (h1 : c ≤ 9223372036854775807) (pf : Value) (w : World) :
    Calls Tryz.prog 62 #[.iface 2 (.int .i64 c), pf] w fun e w' => e = .returned (.tuple #[.int .i32 (wrap32 c), .nilIface]) ∧ w = w' := by
  have H := fun w => Lib.hid (toNumber_int32_int64 c h0 h1 w)
  go_enter Tryz.func62, Tryz.ntmps62
  go_wp2_with (go_at_call 88; refine ((H _).out).mono ?_; rintro e w' ⟨rfl, rfl⟩)
  go_ret2
  exact ⟨rfl, rfl⟩

theorem toE_int32_int64 (c : Int) (h0 : -9223372036854775808 ≤ c) (h1 : c ≤ 9223372036854775807) (w : World) :
    Calls Tryz.prog 30 #[.iface 2 (.int .i64 c)] w fun e w' => e = .returned (.tuple #[.int .i32 (wrap32 c), .nilIface]) ∧ w = w' := by
  have hmf : ∀ (fn : Fn) (first cap : Array Value) (w : World), (Instr.makeFunc fn first cap).run Tryz.prog w = .ok (.func fn first cap) w := fun _ _ _ _ => rfl
  have H := fun pf w => Lib.hid (toNumberE_int32_int64 c h0 h1 pf w)
  go_enter Tryz.func30, Tryz.ntmps30
  go_wp2_with (go_at_call 62; refine ((H _ _).out).mono ?_; rintro e w' ⟨rfl, rfl⟩)
  go_ret2
  exact ⟨rfl, rfl⟩


theorem doorI_int32_int64 (c : Int) (h0 : -9223372036854775808 ≤ c) (h1 : c ≤ 9223372036854775807) (w : World) :
    Calls Tryz.prog 16 #[anyOf 6 c 0 0 ⟨#[]⟩] w fun e w' => e = .returned (.tuple #[.int .i64 (wrap32 c), .bool true]) ∧ Below w.heap.size w w' := by
  have HV := fun w => Lib.hid (value_int64 c 0 0 ⟨#[]⟩ w (by omega) (by omega))
  have HE := fun w => Lib.hid (toE_int32_int64 c h0 h1 w)
  have e0 : -2147483648 ≤ (wrap32 c) := by simp [wrap32, IntKind.wrap, IntKind.bits, IntKind.signed]; omega
  have e1 : (wrap32 c) ≤ 2147483647 := by simp [wrap32, IntKind.wrap, IntKind.bits, IntKind.signed]; omega
  generalize (wrap32 c) = d at HE e0 e1 ⊢
  unfold anyOf at HV ⊢
  go_enter Tryz.func16, Tryz.ntmps16
  go_wp2_with (first
    | (go_at_call 25; refine ((HV _).out).mono ?_; rintro e w1 ⟨rfl, hb0⟩; have hb1 : Below w.heap.size w w1 := ((Below.refl _ _).alloc (Nat.le_refl _) _).trans (hb0.mono (by simp)))
    | (go_at_call 30; refine ((HE _).out).mono ?_; rintro e w2 ⟨rfl, rfl⟩))
  go_quiet (fail)
  go_wp2
  go_ret2
  exact ⟨rfl, bdrew hb1 _⟩

theorem toNumber_int64_int (c : Int) (h0 : -9223372036854775808 ≤ c) (h1 : c ≤ 9223372036854775807) (w : World) :
    Calls Tryz.prog 89 #[.iface 3 (.int .i64 c)] w fun e w' => e = .returned (.tuple #[.int .i64 c, .bool true]) ∧ w = w' := by
  have z0 := Tryz.no_int64 3 (by decide) (.int .i64 c)
  have z1 := Tryz.is_int (.int .i64 c)
  go_enter Tryz.func89, Tryz.ntmps89
  go_wp2_with (go_at_call 79; refine (indirect_any 3 _ (by decide) (by decide) _).mono ?_; rintro e w' ⟨rfl, rfl⟩)
  go_ret2
  exact ⟨rfl, rfl⟩

theorem toNumberE_int64_int (c : Int) (h0 : -9223372036854775808 ≤ c) (h1 : c ≤ 9223372036854775807) (pf : Value) (w : World) :
    Calls Tryz.prog 64 #[.iface 3 (.int .i64 c), pf] w fun e w' => e = .returned (.tuple #[.int .i64 c, .nilIface]) ∧ w = w' := by
  have H := fun w => Lib.hid (toNumber_int64_int c h0 h1 w)
  go_enter Tryz.func64, Tryz.ntmps64
  go_wp2_with (go_at_call 89; refine ((H _).out).mono ?_; rintro e w' ⟨rfl, rfl⟩)
  go_ret2
  exact ⟨rfl, rfl⟩

theorem toE_int64_int (c : Int) (h0 : -9223372036854775808 ≤ c) (h1 : c ≤ 9223372036854775807) (w : World) :
    Calls Tryz.prog 31 #[.iface 3 (.int .i64 c)] w fun e w' => e = .returned (.tuple #[.int .i64 c, .nilIface]) ∧ w = w' := by
  have hmf : ∀ (fn : Fn) (first cap : Array Value) (w : World), (Instr.makeFunc fn first cap).run Tryz.prog w = .ok (.func fn first cap) w := fun _ _ _ _ => rfl
  have H := fun pf w => Lib.hid (toNumberE_int64_int c h0 h1 pf w)
  go_enter Tryz.func31, Tryz.ntmps31
  go_wp2_with (go_at_call 64; refine ((H _ _).out).mono ?_; rintro e w' ⟨rfl, rfl⟩)
  go_ret2
  exact ⟨rfl, rfl⟩


theorem doorI_int64_int (c : Int) (h0 : -9223372036854775808 ≤ c) (h1 : c ≤ 9223372036854775807) (w : World) :
    Calls Tryz.prog 17 #[anyOf 2 c 0 0 ⟨#[]⟩] w fun e w' => e = .returned (.tuple #[.int .i64 c, .bool true]) ∧ Below w.heap.size w w' := by
  have HV := fun w => Lib.hid (value_int c 0 0 ⟨#[]⟩ w (by omega) (by omega))
  have HE := fun w => Lib.hid (toE_int64_int c h0 h1 w)
  unfold anyOf at HV ⊢
  go_enter Tryz.func17, Tryz.ntmps17
  go_wp2_with (first
    | (go_at_call 25; refine ((HV _).out).mono ?_; rintro e w1 ⟨rfl, hb0⟩; have hb1 : Below w.heap.size w w1 := ((Below.refl _ _).alloc (Nat.le_refl _) _).trans (hb0.mono (by simp)))
    | (go_at_call 31; refine ((HE _).out).mono ?_; rintro e w2 ⟨rfl, rfl⟩))
  go_quiet (fail)
  go_wp2
  go_ret2
  exact ⟨rfl, bdrew hb1 _⟩

theorem toNumber_int64_int8 (c : Int) (h0 : -128 ≤ c) (h1 : c ≤ 127) (w : World) :
    Calls Tryz.prog 89 #[.iface 42 (.int .i8 c)] w fun e w' => e = .returned (.tuple #[.int .i64 c, .bool true]) ∧ w = w' := by
  have z0 := Tryz.no_int64 42 (by decide) (.int .i8 c)
  have z1 := Tryz.no_int 42 (by decide) (.int .i8 c)
  have z2 := Tryz.is_int8 (.int .i8 c)
  go_enter Tryz.func89, Tryz.ntmps89
  go_wp2_with (go_at_call 79; refine (indirect_any 42 _ (by decide) (by decide) _).mono ?_; rintro e w' ⟨rfl, rfl⟩)
  go_ret2
  exact ⟨rfl, rfl⟩

theorem toNumberE_int64_int8 (c : Int) (h0 : -128 ≤ c) (h1 : c ≤ 127) (pf : Value) (w : World) :
    Calls Tryz.prog 64 #[.iface 42 (.int .i8 c), pf] w fun e w' => e = .returned (.tuple #[.int .i64 c, .nilIface]) ∧ w = w' := by
  have H := fun w => Lib.hid (toNumber_int64_int8 c h0 h1 w)
  go_enter Tryz.func64, Tryz.ntmps64
  go_wp2_with (go_at_call 89; refine ((H _).out).mono ?_; rintro e w' ⟨rfl, rfl⟩)
  go_ret2
  exact ⟨rfl, rfl⟩

theorem toE_int64_int8 (c : Int) (h0 : -128 ≤ c) (h1 : c ≤ 127) (w : World) :
    Calls Tryz.prog 31 #[.iface 42 (.int .i8 c)] w fun e w' => e = .returned (.tuple #[.int .i64 c, .nilIface]) ∧ w = w' := by
  have hmf : ∀ (fn : Fn) (first cap : Array Value) (w : World), (Instr.makeFunc fn first cap).run Tryz.prog w = .ok (.func fn first cap) w := fun _ _ _ _ => rfl
  have H := fun pf w => Lib.hid (toNumberE_int64_int8 c h0 h1 pf w)
  go_enter Tryz.func31, Tryz.ntmps31
  go_wp2_with (go_at_call 64; refine ((H _ _).out).mono ?_; rintro e w' ⟨rfl, rfl⟩)
  go_ret2
  exact ⟨rfl, rfl⟩


theorem doorI_int64_int8 (c : Int) (h0 : -128 ≤ c) (h1 : c ≤ 127) (w : World) :
    Calls Tryz.prog 17 #[anyOf 3 c 0 0 ⟨#[]⟩] w fun e w' => e = .returned (.tuple #[.int .i64 c, .bool true]) ∧ Below w.heap.size w w' := by
  have HV := fun w => Lib.hid (value_int8 c 0 0 ⟨#[]⟩ w (by omega) (by omega))
  have hval : (IntKind.i8.wrap c) = c := by simp [wrap32, IntKind.wrap, IntKind.bits, IntKind.signed]; omega
  rw [hval] at HV
  clear hval
  have HE := fun w => Lib.hid (toE_int64_int8 c h0 h1 w)
  unfold anyOf at HV ⊢
  go_enter Tryz.func17, Tryz.ntmps17
  go_wp2_with (first
    | (go_at_call 25; refine ((HV _).out).mono ?_; rintro e w1 ⟨rfl, hb0⟩; have hb1 : Below w.heap.size w w1 := ((Below.refl _ _).alloc (Nat.le_refl _) _).trans (hb0.mono (by simp)))
    | (go_at_call 31; refine ((HE _).out).mono ?_; rintro e w2 ⟨rfl, rfl⟩))
  go_quiet (fail)
  go_wp2
  go_ret2
  exact ⟨rfl, bdrew hb1 _⟩

theorem toNumber_int64_int16 (c : Int) (h0 : -32768 ≤ c) (h1 : c ≤ 32767) (w : World) :
    Calls Tryz.prog 89 #[.iface 43 (.int .i16 c)] w fun e w' => e = .returned (.tuple #[.int .i64 c, .bool true]) ∧ w = w' := by
  have z0 := Tryz.no_int64 43 (by decide) (.int .i16 c)
  have z1 := Tryz.no_int 43 (by decide) (.int .i16 c)
  have z2 := Tryz.no_int8 43 (by decide) (.int .i16 c)
  have z3 := Tryz.is_int16 (.int .i16 c)
  go_enter Tryz.func89, Tryz.ntmps89
  go_wp2_with (go_at_call 79; refine (indirect_any 43 _ (by decide) (by decide) _).mono ?_; rintro e w' ⟨rfl, rfl⟩)
  go_ret2
  exact ⟨rfl, rfl⟩

theorem toNumberE_int64_int16 (c : Int) (h0 : -32768 ≤ c) (h1 : c ≤ 32767) (pf : Value) (w : World) :
    Calls Tryz.prog 64 #[.iface 43 (.int .i16 c), pf] w fun e w' => e = .returned (.tuple #[.int .i64 c, .nilIface]) ∧ w = w' := by
  have H := fun w => Lib.hid (toNumber_int64_int16 c h0 h1 w)
  go_enter Tryz.func64, Tryz.ntmps64
  go_wp2_with (go_at_call 89; refine ((H _).out).mono ?_; rintro e w' ⟨rfl, rfl⟩)
  go_ret2
  exact ⟨rfl, rfl⟩

theorem toE_int64_int16 (c : Int) (h0 : -32768 ≤ c) (h1 : c ≤ 32767) (w : World) :
    Calls Tryz.prog 31 #[.iface 43 (.int .i16 c)] w fun e w' => e = .returned (.tuple #[.int .i64 c, .nilIface]) ∧ w = w' := by
  have hmf : ∀ (fn : Fn) (first cap : Array Value) (w : World), (Instr.makeFunc fn first cap).run Tryz.prog w = .ok (.func fn first cap) w := fun _ _ _ _ => rfl
  have H := fun pf w => Lib.hid (toNumberE_int64_int16 c h0 h1 pf w)
  go_enter Tryz.func31, Tryz.ntmps31
  go_wp2_with (go_at_call 64; refine ((H _ _).out).mono ?_; rintro e w' ⟨rfl, rfl⟩)
  go_ret2
  exact ⟨rfl, rfl⟩


theorem doorI_int64_int16 (c : Int) (h0 : -32768 ≤ c) (h1 : c ≤ 32767) (w : World) :
    Calls Tryz.prog 17 #[anyOf 4 c 0 0 ⟨#[]⟩] w fun e w' => e = .returned (.tuple #[.int .i64 c, .bool true]) ∧ Below w.heap.size w w' := by
  have HV := fun w => Lib.hid (value_int16 c 0 0 ⟨#[]⟩ w (by omega) (by omega))
  have hval : (IntKind.i16.wrap c) = c := by simp [wrap32, IntKind.wrap, IntKind.bits, IntKind.signed]; omega
  rw [hval] at HV
  clear hval
  have HE := fun w => Lib.hid (toE_int64_int16 c h0 h1 w)
  unfold anyOf at HV ⊢
  go_enter Tryz.func17, Tryz.ntmps17
  go_wp2_with (first
    | (go_at_call 25; refine ((HV _).out).mono ?_; rintro e w1 ⟨rfl, hb0⟩; have hb1 : Below w.heap.size w w1 := ((Below.refl _ _).alloc (Nat.le_refl _) _).trans (hb0.mono (by simp)))
    | (go_at_call 31; refine ((HE _).out).mono ?_; rintro e w2 ⟨rfl, rfl⟩))
  go_quiet (fail)
  go_wp2
  go_ret2
  exact ⟨rfl, bdrew hb1 _⟩

theorem toNumber_int64_int32 (c : Int) (h0 : -2147483648 ≤ c) (h1 : c ≤ 2147483647) (w : World) :
    Calls Tryz.prog 89 #[.iface 21 (.int .i32 c)] w fun e w' => e = .returned (.tuple #[.int .i64 c, .bool true]) ∧ w = w' := by
  have z0 := Tryz.no_int64 21 (by decide) (.int .i32 c)
  have z1 := Tryz.no_int 21 (by decide) (.int .i32 c)
  have z2 := Tryz.no_int8 21 (by decide) (.int .i32 c)
  have z3 := Tryz.no_int16 21 (by decide) (.int .i32 c)
  have z4 := Tryz.is_int32 (.int .i32 c)
  go_enter Tryz.func89, Tryz.ntmps89
  go_wp2_with (go_at_call 79; refine (indirect_any 21 _ (by decide) (by decide) _).mono ?_; rintro e w' ⟨rfl, rfl⟩)
  go_ret2
  exact ⟨rfl, rfl⟩

theorem toNumberE_int64_int32 (c : Int) (h0 : -2147483648 ≤ c) (h1 : c ≤ 2147483647) (pf : Value) (w : World) :
    Calls Tryz.prog 64 #[.iface 21 (.int .i32 c), pf] w fun e w' => e = .returned (.tuple #[.int .i64 c, .nilIface]) ∧ w = w' := by
  have H := fun w => Lib.hid (toNumber_int64_int32 c h0 h1 w)
  go_enter Tryz.func64, Tryz.ntmps64
  go_wp2_with (go_at_call 89; refine ((H _).out).mono ?_; rintro e w' ⟨rfl, rfl⟩)
  go_ret2
  exact ⟨rfl, rfl⟩

theorem toE_int64_int32 (c : Int) (h0 : -2147483648 ≤ c) (h1 : c ≤ 2147483647) (w : World) :
    Calls Tryz.prog 31 #[.iface 21 (.int .i32 c)] w fun e w' => e = .returned (.tuple #[.int .i64 c, .nilIface]) ∧ w = w' := by
  have hmf : ∀ (fn : Fn) (first cap : Array Value) (w : World), (Instr.makeFunc fn first cap).run Tryz.prog w = .ok (.func fn first cap) w := fun _ _ _ _ => rfl
  have H := fun pf w => Lib.hid (toNumberE_int64_int32 c h0 h1 pf w)
  go_enter Tryz.func31, Tryz.ntmps31
  go_wp2_with (go_at_call 64; refine ((H _ _).out).mono ?_; rintro e w' ⟨rfl, rfl⟩)
  go_ret2
  exact ⟨rfl, rfl⟩


theorem doorI_int64_int32 (c : Int) (h0 : -2147483648 ≤ c) (h1 : c ≤ 2147483647) (w : World) :
    Calls Tryz.prog 17 #[anyOf 5 c 0 0 ⟨#[]⟩] w fun e w' => e = .returned (.tuple #[.int .i64 c, .bool true]) ∧ Below w.heap.size w w' := by
  have HV := fun w => Lib.hid (value_int32 c 0 0 ⟨#[]⟩ w (by omega) (by omega))
  have hval : (wrap32 c) = c := by simp [wrap32, IntKind.wrap, IntKind.bits, IntKind.signed]; omega
  rw [hval] at HV
  clear hval
  have HE := fun w => Lib.hid (toE_int64_int32 c h0 h1 w)
  unfold anyOf at HV ⊢
  go_enter Tryz.func17, Tryz.ntmps17
  go_wp2_with (first
    | (go_at_call 25; refine ((HV _).out).mono ?_; rintro e w1 ⟨rfl, hb0⟩; have hb1 : Below w.heap.size w w1 := ((Below.refl _ _).alloc (Nat.le_refl _) _).trans (hb0.mono (by simp)))
    | (go_at_call 31; refine ((HE _).out).mono ?_; rintro e w2 ⟨rfl, rfl⟩))
  go_quiet (fail)
  go_wp2
  go_ret2
  exact ⟨rfl, bdrew hb1 _⟩

theorem toNumber_int64_int64 (c : Int) (h0 : -9223372036854775808 ≤ c) (h1 : c ≤ 9223372036854775807) (w : World) :
    Calls Tryz.prog 89 #[.iface 2 (.int .i64 c)] w fun e w' => e = .returned (.tuple #[.int .i64 c, .bool true]) ∧ w = w' := by
  have z0 := Tryz.is_int64 (.int .i64 c)
  go_enter Tryz.func89, Tryz.ntmps89
  go_wp2_with (go_at_call 79; refine (indirect_any 2 _ (by decide) (by decide) _).mono ?_; rintro e w' ⟨rfl, rfl⟩)
  go_ret2
  exact ⟨rfl, rfl⟩

theorem toNumberE_int64_int64 (c : Int) (h0 : -9223372036854775808 ≤ c) (h1 : c ≤ 9223372036854775807) (pf : Value) (w : World) :
    Calls Tryz.prog 64 #[.iface 2 (.int .i64 c), pf] w fun e w' => e = .returned (.tuple #[.int .i64 c, .nilIface]) ∧ w = w' := by
  have H := fun w => Lib.hid (toNumber_int64_int64 c h0 h1 w)
  go_enter Tryz.func64, Tryz.ntmps64
  go_wp2_with (go_at_call 89; refine ((H _).out).mono ?_; rintro e w' ⟨rfl, rfl⟩)
  go_ret2
  exact ⟨rfl, rfl⟩

theorem toE_int64_int64 (c : Int) (h0 : -9223372036854775808 ≤ c) (h1 : c ≤ 9223372036854775807) (w : World) :
    Calls Tryz.prog 31 #[.iface 2 (.int .i64 c)] w fun e w' => e = .returned (.tuple #[.int .i64 c, .nilIface]) ∧ w = w' := by
  have hmf : ∀ (fn : Fn) (first cap : Array Value) (w : World), (Instr.makeFunc fn first cap).run Tryz.prog w = .ok (.func fn first cap) w := fun _ _ _ _ => rfl
  have H := fun pf w => Lib.hid (toNumberE_int64_int64 c h0 h1 pf w)
  go_enter Tryz.func31, Tryz.ntmps31
  go_wp2_with (go_at_call 64; refine ((H _ _).out).mono ?_; rintro e w' ⟨rfl, rfl⟩)
  go_ret2
  exact ⟨rfl, rfl⟩


theorem doorI_int64_int64 (c : Int) (h0 : -9223372036854775808 ≤ c) (h1 : c ≤ 9223372036854775807) (w : World) :
    Calls Tryz.prog 17 #[anyOf 6 c 0 0 ⟨#[]⟩] w fun e w' => e = .returned (.tuple #[.int .i64 c, .bool true]) ∧ Below w.heap.size w w' := by
  have HV := fun w => Lib.hid (value_int64 c 0 0 ⟨#[]⟩ w (by omega) (by omega))
  have HE := fun w => Lib.hid (toE_int64_int64 c h0 h1 w)
  unfold anyOf at HV ⊢
  go_enter Tryz.func17, Tryz.ntmps17
  go_wp2_with (first
    | (go_at_call 25; refine ((HV _).out).mono ?_; rintro e w1 ⟨rfl, hb0⟩; have hb1 : Below w.heap.size w w1 := ((Below.refl _ _).alloc (Nat.le_refl _) _).trans (hb0.mono (by simp)))
    | (go_at_call 31; refine ((HE _).out).mono ?_; rintro e w2 ⟨rfl, rfl⟩))
  go_quiet (fail)
  go_wp2
  go_ret2
  exact ⟨rfl, bdrew hb1 _⟩
end Go.Proofs.YtbdheiepiolfhaaGreatDoor.E
