/- cast's unsigned numbers of signed integers: toUnsignedNumber, toUnsignedNumberE, the forms with an error and the doors, over this seat's program. Written by gen_castneg.py. -/
import Derived.Test.YtbdheiepiolfhaaGreatDoorCastK
namespace Go.Proofs.YtbdheiepiolfhaaGreatDoor.E
open Go.RowKit
set_option linter.unusedVariables false
set_option linter.unusedSimpArgs false


theorem unN_uint_int (c : Int) (h0 : -9223372036854775808 ≤ c) (h1 : c < 0) (w : World) :
    Calls Tryz.prog 97 #[.iface 3 (.int .i64 c)] w fun e w' => e = .returned (.tuple #[.int .u64 0, .bool false, .bool false]) ∧ w = w' := by
  have z0 := Tryz.no_uint 3 (by decide) (.int .i64 c)
  have z1 := Tryz.is_int (.int .i64 c)
  have h2 : ¬ 0 ≤ c := by omega
  go_enter Tryz.func97, Tryz.ntmps97
  go_wp2_with (go_at_call 79; refine (indirect_any 3 _ (by decide) (by decide) _).mono ?_; rintro e w' ⟨rfl, rfl⟩)
  go_ret3
  exact ⟨rfl, rfl⟩

theorem unEN_uint_int (c : Int) (h0 : -9223372036854775808 ≤ c) (h1 : c < 0) (pf : Value) (w : World) :
    Calls Tryz.prog 76 #[.iface 3 (.int .i64 c), pf] w fun e w' => (∃ T q, e = .returned (.tuple #[.int .u64 0, .iface T q])) ∧ w = w' := by
  have H := fun w => Lib.hid (unN_uint_int c h0 h1 w)
  go_enter Tryz.func76, Tryz.ntmps76
  go_wp2_with (first
    | (go_at_call 97; refine ((H _).out).mono ?_; rintro e w' ⟨rfl, rfl⟩)
    | (go_at_call 79; refine (indirect_any 3 _ (by decide) (by decide) _).mono ?_; rintro e w' ⟨rfl, rfl⟩))
  go_ret2
  exact ⟨⟨_, _, rfl⟩, rfl⟩

theorem unToN_uint_int (c : Int) (h0 : -9223372036854775808 ≤ c) (h1 : c < 0) (w : World) :
    Calls Tryz.prog 37 #[.iface 3 (.int .i64 c)] w fun e w' => (∃ T q, e = .returned (.tuple #[.int .u64 0, .iface T q])) ∧ w = w' := by
  have hmf : ∀ (fn : Fn) (first cap : Array Value) (w : World), (Instr.makeFunc fn first cap).run Tryz.prog w = .ok (.func fn first cap) w := fun _ _ _ _ => rfl
  have H := fun pf w => Lib.hid (unEN_uint_int c h0 h1 pf w)
  go_enter Tryz.func37, Tryz.ntmps37
  go_wp2_with (go_at_call 76; refine ((H _ _).out).mono ?_; rintro e w' ⟨⟨T, q, rfl⟩, rfl⟩)
  go_ret2
  exact ⟨⟨_, _, rfl⟩, rfl⟩

theorem doorN_uint_int (c : Int) (h0 : -9223372036854775808 ≤ c) (h1 : c < 0) (w : World) :
    Calls Tryz.prog 23 #[anyOf 2 c 0 0 ⟨#[]⟩] w fun e w' => (e = .returned (.tuple #[.int .u64 0, .bool false])) ∧ Below w.heap.size w w' := by
  have HV := fun w => Lib.hid (value_int c 0 0 ⟨#[]⟩ w (by omega) (by omega))
  have HE := fun w => Lib.hid (unToN_uint_int c h0 h1 w)
  unfold anyOf at HV ⊢
  go_enter Tryz.func23, Tryz.ntmps23
  go_wp2_with (first
    | (go_at_call 25; refine ((HV _).out).mono ?_; rintro e w1 ⟨rfl, hb0⟩; have hb1 : Below w.heap.size w w1 := ((Below.refl _ _).alloc (Nat.le_refl _) _).trans (hb0.mono (by simp)))
    | (go_at_call 37; refine ((HE _).out).mono ?_; rintro e w2 ⟨⟨T, q, rfl⟩, rfl⟩))
  go_quiet (fail)
  go_wp2
  go_ret2
  exact ⟨rfl, bdrew hb1 _⟩

theorem unP_uint_int (c : Int) (h0 : 0 ≤ c) (h1 : c ≤ 9223372036854775807) (w : World) :
    Calls Tryz.prog 97 #[.iface 3 (.int .i64 c)] w fun e w' => (∃ v : Int, 0 ≤ v ∧ v ≤ 18446744073709551615 ∧ v = c ∧ e = .returned (.tuple #[.int .u64 v, .bool true, .bool true])) ∧ w = w' := by
  have z0 := Tryz.no_uint 3 (by decide) (.int .i64 c)
  have z1 := Tryz.is_int (.int .i64 c)
  have h2 : ¬ c < 0 := by omega
  go_enter Tryz.func97, Tryz.ntmps97
  go_wp2_with (go_at_call 79; refine (indirect_any 3 _ (by decide) (by decide) _).mono ?_; rintro e w' ⟨rfl, rfl⟩)
  go_ret3
  refine ⟨⟨_, ?_, ?_, ?_, rfl⟩, rfl⟩ <;> first | rfl | omega | (simp [wrap32, IntKind.wrap, IntKind.bits, IntKind.signed]; omega) | (simp [wrap32, IntKind.wrap, IntKind.bits, IntKind.signed])

theorem unEP_uint_int (c : Int) (h0 : 0 ≤ c) (h1 : c ≤ 9223372036854775807) (pf : Value) (w : World) :
    Calls Tryz.prog 76 #[.iface 3 (.int .i64 c), pf] w fun e w' => (∃ v : Int, 0 ≤ v ∧ v ≤ 18446744073709551615 ∧ v = c ∧ e = .returned (.tuple #[.int .u64 v, .nilIface])) ∧ w = w' := by
  have H := fun w => Lib.hid (unP_uint_int c h0 h1 w)
  go_enter Tryz.func76, Tryz.ntmps76
  go_wp2_with (go_at_call 97; refine ((H _).out).mono ?_; rintro e w' ⟨⟨v, v0, v1, hv, rfl⟩, rfl⟩; have HVV := Lib.hid hv; clear hv)
  go_ret2
  exact ⟨⟨v, v0, v1, HVV.out, rfl⟩, rfl⟩

theorem unToP_uint_int (c : Int) (h0 : 0 ≤ c) (h1 : c ≤ 9223372036854775807) (w : World) :
    Calls Tryz.prog 37 #[.iface 3 (.int .i64 c)] w fun e w' => (∃ v : Int, 0 ≤ v ∧ v ≤ 18446744073709551615 ∧ v = c ∧ e = .returned (.tuple #[.int .u64 v, .nilIface])) ∧ w = w' := by
  have hmf : ∀ (fn : Fn) (first cap : Array Value) (w : World), (Instr.makeFunc fn first cap).run Tryz.prog w = .ok (.func fn first cap) w := fun _ _ _ _ => rfl
  have H := fun pf w => Lib.hid (unEP_uint_int c h0 h1 pf w)
  go_enter Tryz.func37, Tryz.ntmps37
  go_wp2_with (go_at_call 76; refine ((H _ _).out).mono ?_; rintro e w' ⟨⟨v, v0, v1, hv, rfl⟩, rfl⟩; have HVV := Lib.hid hv; clear hv)
  go_ret2
  exact ⟨⟨v, v0, v1, HVV.out, rfl⟩, rfl⟩

theorem doorP_uint_int (c : Int) (h0 : 0 ≤ c) (h1 : c ≤ 9223372036854775807) (w : World) :
    Calls Tryz.prog 23 #[anyOf 2 c 0 0 ⟨#[]⟩] w fun e w' => (∃ v : Int, v = c ∧ e = .returned (.tuple #[.int .u64 v, .bool true])) ∧ Below w.heap.size w w' := by
  have HV := fun w => Lib.hid (value_int c 0 0 ⟨#[]⟩ w (by omega) (by omega))
  have HE := fun w => Lib.hid (unToP_uint_int c h0 h1 w)
  unfold anyOf at HV ⊢
  go_enter Tryz.func23, Tryz.ntmps23
  go_wp2_with (first
    | (go_at_call 25; refine ((HV _).out).mono ?_; rintro e w1 ⟨rfl, hb0⟩; have hb1 : Below w.heap.size w w1 := ((Below.refl _ _).alloc (Nat.le_refl _) _).trans (hb0.mono (by simp)))
    | (go_at_call 37; refine ((HE _).out).mono ?_; rintro e w2 ⟨⟨v, v0, v1, hv, rfl⟩, rfl⟩; have HVV := Lib.hid hv; clear hv))
  go_quiet (fail)
  go_wp2
  go_ret2
  exact ⟨⟨_, HVV.out, rfl⟩, bdrew hb1 _⟩

theorem unN_uint_int8 (c : Int) (h0 : -128 ≤ c) (h1 : c < 0) (w : World) :
    Calls Tryz.prog 97 #[.iface 42 (.int .i8 c)] w fun e w' => e = .returned (.tuple #[.int .u64 0, .bool false, .bool false]) ∧ w = w' := by
  have z0 := Tryz.no_uint 42 (by decide) (.int .i8 c)
  have z1 := Tryz.no_int 42 (by decide) (.int .i8 c)
  have z2 := Tryz.is_int8 (.int .i8 c)
  have h2 : ¬ 0 ≤ c := by omega
  go_enter Tryz.func97, Tryz.ntmps97
  go_wp2_with (go_at_call 79; refine (indirect_any 42 _ (by decide) (by decide) _).mono ?_; rintro e w' ⟨rfl, rfl⟩)
  go_ret3
  exact ⟨rfl, rfl⟩

theorem unEN_uint_int8 (c : Int) (h0 : -128 ≤ c) (h1 : c < 0) (pf : Value) (w : World) :
    Calls Tryz.prog 76 #[.iface 42 (.int .i8 c), pf] w fun e w' => (∃ T q, e = .returned (.tuple #[.int .u64 0, .iface T q])) ∧ w = w' := by
  have H := fun w => Lib.hid (unN_uint_int8 c h0 h1 w)
  go_enter Tryz.func76, Tryz.ntmps76
  go_wp2_with (first
    | (go_at_call 97; refine ((H _).out).mono ?_; rintro e w' ⟨rfl, rfl⟩)
    | (go_at_call 79; refine (indirect_any 42 _ (by decide) (by decide) _).mono ?_; rintro e w' ⟨rfl, rfl⟩))
  go_ret2
  exact ⟨⟨_, _, rfl⟩, rfl⟩

theorem unToN_uint_int8 (c : Int) (h0 : -128 ≤ c) (h1 : c < 0) (w : World) :
    Calls Tryz.prog 37 #[.iface 42 (.int .i8 c)] w fun e w' => (∃ T q, e = .returned (.tuple #[.int .u64 0, .iface T q])) ∧ w = w' := by
  have hmf : ∀ (fn : Fn) (first cap : Array Value) (w : World), (Instr.makeFunc fn first cap).run Tryz.prog w = .ok (.func fn first cap) w := fun _ _ _ _ => rfl
  have H := fun pf w => Lib.hid (unEN_uint_int8 c h0 h1 pf w)
  go_enter Tryz.func37, Tryz.ntmps37
  go_wp2_with (go_at_call 76; refine ((H _ _).out).mono ?_; rintro e w' ⟨⟨T, q, rfl⟩, rfl⟩)
  go_ret2
  exact ⟨⟨_, _, rfl⟩, rfl⟩

theorem doorN_uint_int8 (c : Int) (h0 : -128 ≤ c) (h1 : c < 0) (w : World) :
    Calls Tryz.prog 23 #[anyOf 3 c 0 0 ⟨#[]⟩] w fun e w' => (e = .returned (.tuple #[.int .u64 0, .bool false])) ∧ Below w.heap.size w w' := by
  have HV := fun w => Lib.hid (value_int8 c 0 0 ⟨#[]⟩ w (by omega) (by omega))
  have hval : (IntKind.i8.wrap c) = c := by simp [wrap32, IntKind.wrap, IntKind.bits, IntKind.signed]; omega
  rw [hval] at HV
  clear hval
  have HE := fun w => Lib.hid (unToN_uint_int8 c h0 h1 w)
  unfold anyOf at HV ⊢
  go_enter Tryz.func23, Tryz.ntmps23
  go_wp2_with (first
    | (go_at_call 25; refine ((HV _).out).mono ?_; rintro e w1 ⟨rfl, hb0⟩; have hb1 : Below w.heap.size w w1 := ((Below.refl _ _).alloc (Nat.le_refl _) _).trans (hb0.mono (by simp)))
    | (go_at_call 37; refine ((HE _).out).mono ?_; rintro e w2 ⟨⟨T, q, rfl⟩, rfl⟩))
  go_quiet (fail)
  go_wp2
  go_ret2
  exact ⟨rfl, bdrew hb1 _⟩

theorem unP_uint_int8 (c : Int) (h0 : 0 ≤ c) (h1 : c ≤ 127) (w : World) :
    Calls Tryz.prog 97 #[.iface 42 (.int .i8 c)] w fun e w' => (∃ v : Int, 0 ≤ v ∧ v ≤ 18446744073709551615 ∧ v = c ∧ e = .returned (.tuple #[.int .u64 v, .bool true, .bool true])) ∧ w = w' := by
  have z0 := Tryz.no_uint 42 (by decide) (.int .i8 c)
  have z1 := Tryz.no_int 42 (by decide) (.int .i8 c)
  have z2 := Tryz.is_int8 (.int .i8 c)
  have h2 : ¬ c < 0 := by omega
  go_enter Tryz.func97, Tryz.ntmps97
  go_wp2_with (go_at_call 79; refine (indirect_any 42 _ (by decide) (by decide) _).mono ?_; rintro e w' ⟨rfl, rfl⟩)
  go_ret3
  refine ⟨⟨_, ?_, ?_, ?_, rfl⟩, rfl⟩ <;> first | rfl | omega | (simp [wrap32, IntKind.wrap, IntKind.bits, IntKind.signed]; omega) | (simp [wrap32, IntKind.wrap, IntKind.bits, IntKind.signed])

theorem unEP_uint_int8 (c : Int) (h0 : 0 ≤ c) (h1 : c ≤ 127) (pf : Value) (w : World) :
    Calls Tryz.prog 76 #[.iface 42 (.int .i8 c), pf] w fun e w' => (∃ v : Int, 0 ≤ v ∧ v ≤ 18446744073709551615 ∧ v = c ∧ e = .returned (.tuple #[.int .u64 v, .nilIface])) ∧ w = w' := by
  have H := fun w => Lib.hid (unP_uint_int8 c h0 h1 w)
  go_enter Tryz.func76, Tryz.ntmps76
  go_wp2_with (go_at_call 97; refine ((H _).out).mono ?_; rintro e w' ⟨⟨v, v0, v1, hv, rfl⟩, rfl⟩; have HVV := Lib.hid hv; clear hv)
  go_ret2
  exact ⟨⟨v, v0, v1, HVV.out, rfl⟩, rfl⟩

theorem unToP_uint_int8 (c : Int) (h0 : 0 ≤ c) (h1 : c ≤ 127) (w : World) :
    Calls Tryz.prog 37 #[.iface 42 (.int .i8 c)] w fun e w' => (∃ v : Int, 0 ≤ v ∧ v ≤ 18446744073709551615 ∧ v = c ∧ e = .returned (.tuple #[.int .u64 v, .nilIface])) ∧ w = w' := by
  have hmf : ∀ (fn : Fn) (first cap : Array Value) (w : World), (Instr.makeFunc fn first cap).run Tryz.prog w = .ok (.func fn first cap) w := fun _ _ _ _ => rfl
  have H := fun pf w => Lib.hid (unEP_uint_int8 c h0 h1 pf w)
  go_enter Tryz.func37, Tryz.ntmps37
  go_wp2_with (go_at_call 76; refine ((H _ _).out).mono ?_; rintro e w' ⟨⟨v, v0, v1, hv, rfl⟩, rfl⟩; have HVV := Lib.hid hv; clear hv)
  go_ret2
  exact ⟨⟨v, v0, v1, HVV.out, rfl⟩, rfl⟩

theorem doorP_uint_int8 (c : Int) (h0 : 0 ≤ c) (h1 : c ≤ 127) (w : World) :
    Calls Tryz.prog 23 #[anyOf 3 c 0 0 ⟨#[]⟩] w fun e w' => (∃ v : Int, v = c ∧ e = .returned (.tuple #[.int .u64 v, .bool true])) ∧ Below w.heap.size w w' := by
  have HV := fun w => Lib.hid (value_int8 c 0 0 ⟨#[]⟩ w (by omega) (by omega))
  have hval : (IntKind.i8.wrap c) = c := by simp [wrap32, IntKind.wrap, IntKind.bits, IntKind.signed]; omega
  rw [hval] at HV
  clear hval
  have HE := fun w => Lib.hid (unToP_uint_int8 c h0 h1 w)
  unfold anyOf at HV ⊢
  go_enter Tryz.func23, Tryz.ntmps23
  go_wp2_with (first
    | (go_at_call 25; refine ((HV _).out).mono ?_; rintro e w1 ⟨rfl, hb0⟩; have hb1 : Below w.heap.size w w1 := ((Below.refl _ _).alloc (Nat.le_refl _) _).trans (hb0.mono (by simp)))
    | (go_at_call 37; refine ((HE _).out).mono ?_; rintro e w2 ⟨⟨v, v0, v1, hv, rfl⟩, rfl⟩; have HVV := Lib.hid hv; clear hv))
  go_quiet (fail)
  go_wp2
  go_ret2
  exact ⟨⟨_, HVV.out, rfl⟩, bdrew hb1 _⟩

theorem unN_uint_int16 (c : Int) (h0 : -32768 ≤ c) (h1 : c < 0) (w : World) :
    Calls Tryz.prog 97 #[.iface 43 (.int .i16 c)] w fun e w' => e = .returned (.tuple #[.int .u64 0, .bool false, .bool false]) ∧ w = w' := by
  have z0 := Tryz.no_uint 43 (by decide) (.int .i16 c)
  have z1 := Tryz.no_int 43 (by decide) (.int .i16 c)
  have z2 := Tryz.no_int8 43 (by decide) (.int .i16 c)
  have z3 := Tryz.is_int16 (.int .i16 c)
  have h2 : ¬ 0 ≤ c := by omega
  go_enter Tryz.func97, Tryz.ntmps97
  go_wp2_with (go_at_call 79; refine (indirect_any 43 _ (by decide) (by decide) _).mono ?_; rintro e w' ⟨rfl, rfl⟩)
  go_ret3
  exact ⟨rfl, rfl⟩

theorem unEN_uint_int16 (c : Int) (h0 : -32768 ≤ c) (h1 : c < 0) (pf : Value) (w : World) :
    Calls Tryz.prog 76 #[.iface 43 (.int .i16 c), pf] w fun e w' => (∃ T q, e = .returned (.tuple #[.int .u64 0, .iface T q])) ∧ w = w' := by
  have H := fun w => Lib.hid (unN_uint_int16 c h0 h1 w)
  go_enter Tryz.func76, Tryz.ntmps76
  go_wp2_with (first
    | (go_at_call 97; refine ((H _).out).mono ?_; rintro e w' ⟨rfl, rfl⟩)
    | (go_at_call 79; refine (indirect_any 43 _ (by decide) (by decide) _).mono ?_; rintro e w' ⟨rfl, rfl⟩))
  go_ret2
  exact ⟨⟨_, _, rfl⟩, rfl⟩

theorem unToN_uint_int16 (c : Int) (h0 : -32768 ≤ c) (h1 : c < 0) (w : World) :
    Calls Tryz.prog 37 #[.iface 43 (.int .i16 c)] w fun e w' => (∃ T q, e = .returned (.tuple #[.int .u64 0, .iface T q])) ∧ w = w' := by
  have hmf : ∀ (fn : Fn) (first cap : Array Value) (w : World), (Instr.makeFunc fn first cap).run Tryz.prog w = .ok (.func fn first cap) w := fun _ _ _ _ => rfl
  have H := fun pf w => Lib.hid (unEN_uint_int16 c h0 h1 pf w)
  go_enter Tryz.func37, Tryz.ntmps37
  go_wp2_with (go_at_call 76; refine ((H _ _).out).mono ?_; rintro e w' ⟨⟨T, q, rfl⟩, rfl⟩)
  go_ret2
  exact ⟨⟨_, _, rfl⟩, rfl⟩

theorem doorN_uint_int16 (c : Int) (h0 : -32768 ≤ c) (h1 : c < 0) (w : World) :
    Calls Tryz.prog 23 #[anyOf 4 c 0 0 ⟨#[]⟩] w fun e w' => (e = .returned (.tuple #[.int .u64 0, .bool false])) ∧ Below w.heap.size w w' := by
  have HV := fun w => Lib.hid (value_int16 c 0 0 ⟨#[]⟩ w (by omega) (by omega))
  have hval : (IntKind.i16.wrap c) = c := by simp [wrap32, IntKind.wrap, IntKind.bits, IntKind.signed]; omega
  rw [hval] at HV
  clear hval
  have HE := fun w => Lib.hid (unToN_uint_int16 c h0 h1 w)
  unfold anyOf at HV ⊢
  go_enter Tryz.func23, Tryz.ntmps23
  go_wp2_with (first
    | (go_at_call 25; refine ((HV _).out).mono ?_; rintro e w1 ⟨rfl, hb0⟩; have hb1 : Below w.heap.size w w1 := ((Below.refl _ _).alloc (Nat.le_refl _) _).trans (hb0.mono (by simp)))
    | (go_at_call 37; refine ((HE _).out).mono ?_; rintro e w2 ⟨⟨T, q, rfl⟩, rfl⟩))
  go_quiet (fail)
  go_wp2
  go_ret2
  exact ⟨rfl, bdrew hb1 _⟩

theorem unP_uint_int16 (c : Int) (h0 : 0 ≤ c) (h1 : c ≤ 32767) (w : World) :
    Calls Tryz.prog 97 #[.iface 43 (.int .i16 c)] w fun e w' => (∃ v : Int, 0 ≤ v ∧ v ≤ 18446744073709551615 ∧ v = c ∧ e = .returned (.tuple #[.int .u64 v, .bool true, .bool true])) ∧ w = w' := by
  have z0 := Tryz.no_uint 43 (by decide) (.int .i16 c)
  have z1 := Tryz.no_int 43 (by decide) (.int .i16 c)
  have z2 := Tryz.no_int8 43 (by decide) (.int .i16 c)
  have z3 := Tryz.is_int16 (.int .i16 c)
  have h2 : ¬ c < 0 := by omega
  go_enter Tryz.func97, Tryz.ntmps97
  go_wp2_with (go_at_call 79; refine (indirect_any 43 _ (by decide) (by decide) _).mono ?_; rintro e w' ⟨rfl, rfl⟩)
  go_ret3
  refine ⟨⟨_, ?_, ?_, ?_, rfl⟩, rfl⟩ <;> first | rfl | omega | (simp [wrap32, IntKind.wrap, IntKind.bits, IntKind.signed]; omega) | (simp [wrap32, IntKind.wrap, IntKind.bits, IntKind.signed])

theorem unEP_uint_int16 (c : Int) (h0 : 0 ≤ c) (h1 : c ≤ 32767) (pf : Value) (w : World) :
    Calls Tryz.prog 76 #[.iface 43 (.int .i16 c), pf] w fun e w' => (∃ v : Int, 0 ≤ v ∧ v ≤ 18446744073709551615 ∧ v = c ∧ e = .returned (.tuple #[.int .u64 v, .nilIface])) ∧ w = w' := by
  have H := fun w => Lib.hid (unP_uint_int16 c h0 h1 w)
  go_enter Tryz.func76, Tryz.ntmps76
  go_wp2_with (go_at_call 97; refine ((H _).out).mono ?_; rintro e w' ⟨⟨v, v0, v1, hv, rfl⟩, rfl⟩; have HVV := Lib.hid hv; clear hv)
  go_ret2
  exact ⟨⟨v, v0, v1, HVV.out, rfl⟩, rfl⟩

theorem unToP_uint_int16 (c : Int) (h0 : 0 ≤ c) (h1 : c ≤ 32767) (w : World) :
    Calls Tryz.prog 37 #[.iface 43 (.int .i16 c)] w fun e w' => (∃ v : Int, 0 ≤ v ∧ v ≤ 18446744073709551615 ∧ v = c ∧ e = .returned (.tuple #[.int .u64 v, .nilIface])) ∧ w = w' := by
  have hmf : ∀ (fn : Fn) (first cap : Array Value) (w : World), (Instr.makeFunc fn first cap).run Tryz.prog w = .ok (.func fn first cap) w := fun _ _ _ _ => rfl
  have H := fun pf w => Lib.hid (unEP_uint_int16 c h0 h1 pf w)
  go_enter Tryz.func37, Tryz.ntmps37
  go_wp2_with (go_at_call 76; refine ((H _ _).out).mono ?_; rintro e w' ⟨⟨v, v0, v1, hv, rfl⟩, rfl⟩; have HVV := Lib.hid hv; clear hv)
  go_ret2
  exact ⟨⟨v, v0, v1, HVV.out, rfl⟩, rfl⟩

theorem doorP_uint_int16 (c : Int) (h0 : 0 ≤ c) (h1 : c ≤ 32767) (w : World) :
    Calls Tryz.prog 23 #[anyOf 4 c 0 0 ⟨#[]⟩] w fun e w' => (∃ v : Int, v = c ∧ e = .returned (.tuple #[.int .u64 v, .bool true])) ∧ Below w.heap.size w w' := by
  have HV := fun w => Lib.hid (value_int16 c 0 0 ⟨#[]⟩ w (by omega) (by omega))
  have hval : (IntKind.i16.wrap c) = c := by simp [wrap32, IntKind.wrap, IntKind.bits, IntKind.signed]; omega
  rw [hval] at HV
  clear hval
  have HE := fun w => Lib.hid (unToP_uint_int16 c h0 h1 w)
  unfold anyOf at HV ⊢
  go_enter Tryz.func23, Tryz.ntmps23
  go_wp2_with (first
    | (go_at_call 25; refine ((HV _).out).mono ?_; rintro e w1 ⟨rfl, hb0⟩; have hb1 : Below w.heap.size w w1 := ((Below.refl _ _).alloc (Nat.le_refl _) _).trans (hb0.mono (by simp)))
    | (go_at_call 37; refine ((HE _).out).mono ?_; rintro e w2 ⟨⟨v, v0, v1, hv, rfl⟩, rfl⟩; have HVV := Lib.hid hv; clear hv))
  go_quiet (fail)
  go_wp2
  go_ret2
  exact ⟨⟨_, HVV.out, rfl⟩, bdrew hb1 _⟩

theorem unN_uint_int32 (c : Int) (h0 : -2147483648 ≤ c) (h1 : c < 0) (w : World) :
    Calls Tryz.prog 97 #[.iface 21 (.int .i32 c)] w fun e w' => e = .returned (.tuple #[.int .u64 0, .bool false, .bool false]) ∧ w = w' := by
  have z0 := Tryz.no_uint 21 (by decide) (.int .i32 c)
  have z1 := Tryz.no_int 21 (by decide) (.int .i32 c)
  have z2 := Tryz.no_int8 21 (by decide) (.int .i32 c)
  have z3 := Tryz.no_int16 21 (by decide) (.int .i32 c)
  have z4 := Tryz.is_int32 (.int .i32 c)
  have h2 : ¬ 0 ≤ c := by omega
  go_enter Tryz.func97, Tryz.ntmps97
  go_wp2_with (go_at_call 79; refine (indirect_any 21 _ (by decide) (by decide) _).mono ?_; rintro e w' ⟨rfl, rfl⟩)
  go_ret3
  exact ⟨rfl, rfl⟩

theorem unEN_uint_int32 (c : Int) (h0 : -2147483648 ≤ c) (h1 : c < 0) (pf : Value) (w : World) :
    Calls Tryz.prog 76 #[.iface 21 (.int .i32 c), pf] w fun e w' => (∃ T q, e = .returned (.tuple #[.int .u64 0, .iface T q])) ∧ w = w' := by
  have H := fun w => Lib.hid (unN_uint_int32 c h0 h1 w)
  go_enter Tryz.func76, Tryz.ntmps76
  go_wp2_with (first
    | (go_at_call 97; refine ((H _).out).mono ?_; rintro e w' ⟨rfl, rfl⟩)
    | (go_at_call 79; refine (indirect_any 21 _ (by decide) (by decide) _).mono ?_; rintro e w' ⟨rfl, rfl⟩))
  go_ret2
  exact ⟨⟨_, _, rfl⟩, rfl⟩

theorem unToN_uint_int32 (c : Int) (h0 : -2147483648 ≤ c) (h1 : c < 0) (w : World) :
    Calls Tryz.prog 37 #[.iface 21 (.int .i32 c)] w fun e w' => (∃ T q, e = .returned (.tuple #[.int .u64 0, .iface T q])) ∧ w = w' := by
  have hmf : ∀ (fn : Fn) (first cap : Array Value) (w : World), (Instr.makeFunc fn first cap).run Tryz.prog w = .ok (.func fn first cap) w := fun _ _ _ _ => rfl
  have H := fun pf w => Lib.hid (unEN_uint_int32 c h0 h1 pf w)
  go_enter Tryz.func37, Tryz.ntmps37
  go_wp2_with (go_at_call 76; refine ((H _ _).out).mono ?_; rintro e w' ⟨⟨T, q, rfl⟩, rfl⟩)
  go_ret2
  exact ⟨⟨_, _, rfl⟩, rfl⟩

theorem doorN_uint_int32 (c : Int) (h0 : -2147483648 ≤ c) (h1 : c < 0) (w : World) :
    Calls Tryz.prog 23 #[anyOf 5 c 0 0 ⟨#[]⟩] w fun e w' => (e = .returned (.tuple #[.int .u64 0, .bool false])) ∧ Below w.heap.size w w' := by
  have HV := fun w => Lib.hid (value_int32 c 0 0 ⟨#[]⟩ w (by omega) (by omega))
  have hval : (wrap32 c) = c := by simp [wrap32, IntKind.wrap, IntKind.bits, IntKind.signed]; omega
  rw [hval] at HV
  clear hval
  have HE := fun w => Lib.hid (unToN_uint_int32 c h0 h1 w)
  unfold anyOf at HV ⊢
  go_enter Tryz.func23, Tryz.ntmps23
  go_wp2_with (first
    | (go_at_call 25; refine ((HV _).out).mono ?_; rintro e w1 ⟨rfl, hb0⟩; have hb1 : Below w.heap.size w w1 := ((Below.refl _ _).alloc (Nat.le_refl _) _).trans (hb0.mono (by simp)))
    | (go_at_call 37; refine ((HE _).out).mono ?_; rintro e w2 ⟨⟨T, q, rfl⟩, rfl⟩))
  go_quiet (fail)
  go_wp2
  go_ret2
  exact ⟨rfl, bdrew hb1 _⟩

theorem unP_uint_int32 (c : Int) (h0 : 0 ≤ c) (h1 : c ≤ 2147483647) (w : World) :
    Calls Tryz.prog 97 #[.iface 21 (.int .i32 c)] w fun e w' => (∃ v : Int, 0 ≤ v ∧ v ≤ 18446744073709551615 ∧ v = c ∧ e = .returned (.tuple #[.int .u64 v, .bool true, .bool true])) ∧ w = w' := by
  have z0 := Tryz.no_uint 21 (by decide) (.int .i32 c)
  have z1 := Tryz.no_int 21 (by decide) (.int .i32 c)
  have z2 := Tryz.no_int8 21 (by decide) (.int .i32 c)
  have z3 := Tryz.no_int16 21 (by decide) (.int .i32 c)
  have z4 := Tryz.is_int32 (.int .i32 c)
  have h2 : ¬ c < 0 := by omega
  go_enter Tryz.func97, Tryz.ntmps97
  go_wp2_with (go_at_call 79; refine (indirect_any 21 _ (by decide) (by decide) _).mono ?_; rintro e w' ⟨rfl, rfl⟩)
  go_ret3
  refine ⟨⟨_, ?_, ?_, ?_, rfl⟩, rfl⟩ <;> first | rfl | omega | (simp [wrap32, IntKind.wrap, IntKind.bits, IntKind.signed]; omega) | (simp [wrap32, IntKind.wrap, IntKind.bits, IntKind.signed])

theorem unEP_uint_int32 (c : Int) (h0 : 0 ≤ c) (h1 : c ≤ 2147483647) (pf : Value) (w : World) :
    Calls Tryz.prog 76 #[.iface 21 (.int .i32 c), pf] w fun e w' => (∃ v : Int, 0 ≤ v ∧ v ≤ 18446744073709551615 ∧ v = c ∧ e = .returned (.tuple #[.int .u64 v, .nilIface])) ∧ w = w' := by
  have H := fun w => Lib.hid (unP_uint_int32 c h0 h1 w)
  go_enter Tryz.func76, Tryz.ntmps76
  go_wp2_with (go_at_call 97; refine ((H _).out).mono ?_; rintro e w' ⟨⟨v, v0, v1, hv, rfl⟩, rfl⟩; have HVV := Lib.hid hv; clear hv)
  go_ret2
  exact ⟨⟨v, v0, v1, HVV.out, rfl⟩, rfl⟩

theorem unToP_uint_int32 (c : Int) (h0 : 0 ≤ c) (h1 : c ≤ 2147483647) (w : World) :
    Calls Tryz.prog 37 #[.iface 21 (.int .i32 c)] w fun e w' => (∃ v : Int, 0 ≤ v ∧ v ≤ 18446744073709551615 ∧ v = c ∧ e = .returned (.tuple #[.int .u64 v, .nilIface])) ∧ w = w' := by
  have hmf : ∀ (fn : Fn) (first cap : Array Value) (w : World), (Instr.makeFunc fn first cap).run Tryz.prog w = .ok (.func fn first cap) w := fun _ _ _ _ => rfl
  have H := fun pf w => Lib.hid (unEP_uint_int32 c h0 h1 pf w)
  go_enter Tryz.func37, Tryz.ntmps37
  go_wp2_with (go_at_call 76; refine ((H _ _).out).mono ?_; rintro e w' ⟨⟨v, v0, v1, hv, rfl⟩, rfl⟩; have HVV := Lib.hid hv; clear hv)
  go_ret2
  exact ⟨⟨v, v0, v1, HVV.out, rfl⟩, rfl⟩

theorem doorP_uint_int32 (c : Int) (h0 : 0 ≤ c) (h1 : c ≤ 2147483647) (w : World) :
    Calls Tryz.prog 23 #[anyOf 5 c 0 0 ⟨#[]⟩] w fun e w' => (∃ v : Int, v = c ∧ e = .returned (.tuple #[.int .u64 v, .bool true])) ∧ Below w.heap.size w w' := by
  have HV := fun w => Lib.hid (value_int32 c 0 0 ⟨#[]⟩ w (by omega) (by omega))
  have hval : (wrap32 c) = c := by simp [wrap32, IntKind.wrap, IntKind.bits, IntKind.signed]; omega
  rw [hval] at HV
  clear hval
  have HE := fun w => Lib.hid (unToP_uint_int32 c h0 h1 w)
  unfold anyOf at HV ⊢
  go_enter Tryz.func23, Tryz.ntmps23
  go_wp2_with (first
    | (go_at_call 25; refine ((HV _).out).mono ?_; rintro e w1 ⟨rfl, hb0⟩; have hb1 : Below w.heap.size w w1 := ((Below.refl _ _).alloc (Nat.le_refl _) _).trans (hb0.mono (by simp)))
    | (go_at_call 37; refine ((HE _).out).mono ?_; rintro e w2 ⟨⟨v, v0, v1, hv, rfl⟩, rfl⟩; have HVV := Lib.hid hv; clear hv))
  go_quiet (fail)
  go_wp2
  go_ret2
  exact ⟨⟨_, HVV.out, rfl⟩, bdrew hb1 _⟩

theorem unN_uint_int64 (c : Int) (h0 : -9223372036854775808 ≤ c) (h1 : c < 0) (w : World) :
    Calls Tryz.prog 97 #[.iface 2 (.int .i64 c)] w fun e w' => e = .returned (.tuple #[.int .u64 0, .bool false, .bool false]) ∧ w = w' := by
  have z0 := Tryz.no_uint 2 (by decide) (.int .i64 c)
  have z1 := Tryz.no_int 2 (by decide) (.int .i64 c)
  have z2 := Tryz.no_int8 2 (by decide) (.int .i64 c)
  have z3 := Tryz.no_int16 2 (by decide) (.int .i64 c)
  have z4 := Tryz.no_int32 2 (by decide) (.int .i64 c)
  have z5 := Tryz.is_int64 (.int .i64 c)
  have h2 : ¬ 0 ≤ c := by omega
  go_enter Tryz.func97, Tryz.ntmps97
  go_wp2_with (go_at_call 79; refine (indirect_any 2 _ (by decide) (by decide) _).mono ?_; rintro e w' ⟨rfl, rfl⟩)
  go_ret3
  exact ⟨rfl, rfl⟩

theorem unEN_uint_int64 (c : Int) (h0 : -9223372036854775808 ≤ c) (h1 : c < 0) (pf : Value) (w : World) :
    Calls Tryz.prog 76 #[.iface 2 (.int .i64 c), pf] w fun e w' => (∃ T q, e = .returned (.tuple #[.int .u64 0, .iface T q])) ∧ w = w' := by
  have H := fun w => Lib.hid (unN_uint_int64 c h0 h1 w)
  go_enter Tryz.func76, Tryz.ntmps76
  go_wp2_with (first
    | (go_at_call 97; refine ((H _).out).mono ?_; rintro e w' ⟨rfl, rfl⟩)
    | (go_at_call 79; refine (indirect_any 2 _ (by decide) (by decide) _).mono ?_; rintro e w' ⟨rfl, rfl⟩))
  go_ret2
  exact ⟨⟨_, _, rfl⟩, rfl⟩

theorem unToN_uint_int64 (c : Int) (h0 : -9223372036854775808 ≤ c) (h1 : c < 0) (w : World) :
    Calls Tryz.prog 37 #[.iface 2 (.int .i64 c)] w fun e w' => (∃ T q, e = .returned (.tuple #[.int .u64 0, .iface T q])) ∧ w = w' := by
  have hmf : ∀ (fn : Fn) (first cap : Array Value) (w : World), (Instr.makeFunc fn first cap).run Tryz.prog w = .ok (.func fn first cap) w := fun _ _ _ _ => rfl
  have H := fun pf w => Lib.hid (unEN_uint_int64 c h0 h1 pf w)
  go_enter Tryz.func37, Tryz.ntmps37
  go_wp2_with (go_at_call 76; refine ((H _ _).out).mono ?_; rintro e w' ⟨⟨T, q, rfl⟩, rfl⟩)
  go_ret2
  exact ⟨⟨_, _, rfl⟩, rfl⟩

theorem doorN_uint_int64 (c : Int) (h0 : -9223372036854775808 ≤ c) (h1 : c < 0) (w : World) :
    Calls Tryz.prog 23 #[anyOf 6 c 0 0 ⟨#[]⟩] w fun e w' => (e = .returned (.tuple #[.int .u64 0, .bool false])) ∧ Below w.heap.size w w' := by
  have HV := fun w => Lib.hid (value_int64 c 0 0 ⟨#[]⟩ w (by omega) (by omega))
  have HE := fun w => Lib.hid (unToN_uint_int64 c h0 h1 w)
  unfold anyOf at HV ⊢
  go_enter Tryz.func23, Tryz.ntmps23
  go_wp2_with (first
    | (go_at_call 25; refine ((HV _).out).mono ?_; rintro e w1 ⟨rfl, hb0⟩; have hb1 : Below w.heap.size w w1 := ((Below.refl _ _).alloc (Nat.le_refl _) _).trans (hb0.mono (by simp)))
    | (go_at_call 37; refine ((HE _).out).mono ?_; rintro e w2 ⟨⟨T, q, rfl⟩, rfl⟩))
  go_quiet (fail)
  go_wp2
  go_ret2
  exact ⟨rfl, bdrew hb1 _⟩

theorem unP_uint_int64 (c : Int) (h0 : 0 ≤ c) (h1 : c ≤ 9223372036854775807) (w : World) :
    Calls Tryz.prog 97 #[.iface 2 (.int .i64 c)] w fun e w' => (∃ v : Int, 0 ≤ v ∧ v ≤ 18446744073709551615 ∧ v = c ∧ e = .returned (.tuple #[.int .u64 v, .bool true, .bool true])) ∧ w = w' := by
  have z0 := Tryz.no_uint 2 (by decide) (.int .i64 c)
  have z1 := Tryz.no_int 2 (by decide) (.int .i64 c)
  have z2 := Tryz.no_int8 2 (by decide) (.int .i64 c)
  have z3 := Tryz.no_int16 2 (by decide) (.int .i64 c)
  have z4 := Tryz.no_int32 2 (by decide) (.int .i64 c)
  have z5 := Tryz.is_int64 (.int .i64 c)
  have h2 : ¬ c < 0 := by omega
  go_enter Tryz.func97, Tryz.ntmps97
  go_wp2_with (go_at_call 79; refine (indirect_any 2 _ (by decide) (by decide) _).mono ?_; rintro e w' ⟨rfl, rfl⟩)
  go_ret3
  refine ⟨⟨_, ?_, ?_, ?_, rfl⟩, rfl⟩ <;> first | rfl | omega | (simp [wrap32, IntKind.wrap, IntKind.bits, IntKind.signed]; omega) | (simp [wrap32, IntKind.wrap, IntKind.bits, IntKind.signed])

theorem unEP_uint_int64 (c : Int) (h0 : 0 ≤ c) (h1 : c ≤ 9223372036854775807) (pf : Value) (w : World) :
    Calls Tryz.prog 76 #[.iface 2 (.int .i64 c), pf] w fun e w' => (∃ v : Int, 0 ≤ v ∧ v ≤ 18446744073709551615 ∧ v = c ∧ e = .returned (.tuple #[.int .u64 v, .nilIface])) ∧ w = w' := by
  have H := fun w => Lib.hid (unP_uint_int64 c h0 h1 w)
  go_enter Tryz.func76, Tryz.ntmps76
  go_wp2_with (go_at_call 97; refine ((H _).out).mono ?_; rintro e w' ⟨⟨v, v0, v1, hv, rfl⟩, rfl⟩; have HVV := Lib.hid hv; clear hv)
  go_ret2
  exact ⟨⟨v, v0, v1, HVV.out, rfl⟩, rfl⟩

theorem unToP_uint_int64 (c : Int) (h0 : 0 ≤ c) (h1 : c ≤ 9223372036854775807) (w : World) :
    Calls Tryz.prog 37 #[.iface 2 (.int .i64 c)] w fun e w' => (∃ v : Int, 0 ≤ v ∧ v ≤ 18446744073709551615 ∧ v = c ∧ e = .returned (.tuple #[.int .u64 v, .nilIface])) ∧ w = w' := by
  have hmf : ∀ (fn : Fn) (first cap : Array Value) (w : World), (Instr.makeFunc fn first cap).run Tryz.prog w = .ok (.func fn first cap) w := fun _ _ _ _ => rfl
  have H := fun pf w => Lib.hid (unEP_uint_int64 c h0 h1 pf w)
  go_enter Tryz.func37, Tryz.ntmps37
  go_wp2_with (go_at_call 76; refine ((H _ _).out).mono ?_; rintro e w' ⟨⟨v, v0, v1, hv, rfl⟩, rfl⟩; have HVV := Lib.hid hv; clear hv)
  go_ret2
  exact ⟨⟨v, v0, v1, HVV.out, rfl⟩, rfl⟩

theorem doorP_uint_int64 (c : Int) (h0 : 0 ≤ c) (h1 : c ≤ 9223372036854775807) (w : World) :
    Calls Tryz.prog 23 #[anyOf 6 c 0 0 ⟨#[]⟩] w fun e w' => (∃ v : Int, v = c ∧ e = .returned (.tuple #[.int .u64 v, .bool true])) ∧ Below w.heap.size w w' := by
  have HV := fun w => Lib.hid (value_int64 c 0 0 ⟨#[]⟩ w (by omega) (by omega))
  have HE := fun w => Lib.hid (unToP_uint_int64 c h0 h1 w)
  unfold anyOf at HV ⊢
  go_enter Tryz.func23, Tryz.ntmps23
  go_wp2_with (first
    | (go_at_call 25; refine ((HV _).out).mono ?_; rintro e w1 ⟨rfl, hb0⟩; have hb1 : Below w.heap.size w w1 := ((Below.refl _ _).alloc (Nat.le_refl _) _).trans (hb0.mono (by simp)))
    | (go_at_call 37; refine ((HE _).out).mono ?_; rintro e w2 ⟨⟨v, v0, v1, hv, rfl⟩, rfl⟩; have HVV := Lib.hid hv; clear hv))
  go_quiet (fail)
  go_wp2
  go_ret2
  exact ⟨⟨_, HVV.out, rfl⟩, bdrew hb1 _⟩

theorem unN_uint8_int (c : Int) (h0 : -9223372036854775808 ≤ c) (h1 : c < 0) (w : World) :
    Calls Tryz.prog 91 #[.iface 3 (.int .i64 c)] w fun e w' => e = .returned (.tuple #[.int .u8 0, .bool false, .bool false]) ∧ w = w' := by
  have z0 := Tryz.no_uint8 3 (by decide) (.int .i64 c)
  have z1 := Tryz.is_int (.int .i64 c)
  have h2 : ¬ 0 ≤ c := by omega
  go_enter Tryz.func91, Tryz.ntmps91
  go_wp2_with (go_at_call 79; refine (indirect_any 3 _ (by decide) (by decide) _).mono ?_; rintro e w' ⟨rfl, rfl⟩)
  go_ret3
  exact ⟨rfl, rfl⟩

theorem unEN_uint8_int (c : Int) (h0 : -9223372036854775808 ≤ c) (h1 : c < 0) (pf : Value) (w : World) :
    Calls Tryz.prog 68 #[.iface 3 (.int .i64 c), pf] w fun e w' => (∃ T q, e = .returned (.tuple #[.int .u8 0, .iface T q])) ∧ w = w' := by
  have H := fun w => Lib.hid (unN_uint8_int c h0 h1 w)
  go_enter Tryz.func68, Tryz.ntmps68
  go_wp2_with (first
    | (go_at_call 91; refine ((H _).out).mono ?_; rintro e w' ⟨rfl, rfl⟩)
    | (go_at_call 79; refine (indirect_any 3 _ (by decide) (by decide) _).mono ?_; rintro e w' ⟨rfl, rfl⟩))
  go_ret2
  exact ⟨⟨_, _, rfl⟩, rfl⟩

theorem unToN_uint8_int (c : Int) (h0 : -9223372036854775808 ≤ c) (h1 : c < 0) (w : World) :
    Calls Tryz.prog 33 #[.iface 3 (.int .i64 c)] w fun e w' => (∃ T q, e = .returned (.tuple #[.int .u8 0, .iface T q])) ∧ w = w' := by
  have hmf : ∀ (fn : Fn) (first cap : Array Value) (w : World), (Instr.makeFunc fn first cap).run Tryz.prog w = .ok (.func fn first cap) w := fun _ _ _ _ => rfl
  have H := fun pf w => Lib.hid (unEN_uint8_int c h0 h1 pf w)
  go_enter Tryz.func33, Tryz.ntmps33
  go_wp2_with (go_at_call 68; refine ((H _ _).out).mono ?_; rintro e w' ⟨⟨T, q, rfl⟩, rfl⟩)
  go_ret2
  exact ⟨⟨_, _, rfl⟩, rfl⟩

theorem doorN_uint8_int (c : Int) (h0 : -9223372036854775808 ≤ c) (h1 : c < 0) (w : World) :
    Calls Tryz.prog 19 #[anyOf 2 c 0 0 ⟨#[]⟩] w fun e w' => (e = .returned (.tuple #[.int .u64 0, .bool false])) ∧ Below w.heap.size w w' := by
  have HV := fun w => Lib.hid (value_int c 0 0 ⟨#[]⟩ w (by omega) (by omega))
  have HE := fun w => Lib.hid (unToN_uint8_int c h0 h1 w)
  unfold anyOf at HV ⊢
  go_enter Tryz.func19, Tryz.ntmps19
  go_wp2_with (first
    | (go_at_call 25; refine ((HV _).out).mono ?_; rintro e w1 ⟨rfl, hb0⟩; have hb1 : Below w.heap.size w w1 := ((Below.refl _ _).alloc (Nat.le_refl _) _).trans (hb0.mono (by simp)))
    | (go_at_call 33; refine ((HE _).out).mono ?_; rintro e w2 ⟨⟨T, q, rfl⟩, rfl⟩))
  go_quiet (fail)
  go_wp2
  go_ret2
  exact ⟨rfl, bdrew hb1 _⟩

theorem unP_uint8_int (c : Int) (h0 : 0 ≤ c) (h1 : c ≤ 9223372036854775807) (w : World) :
    Calls Tryz.prog 91 #[.iface 3 (.int .i64 c)] w fun e w' => (∃ v : Int, 0 ≤ v ∧ v ≤ 255 ∧ v = IntKind.u8.wrap c ∧ e = .returned (.tuple #[.int .u8 v, .bool true, .bool true])) ∧ w = w' := by
  have z0 := Tryz.no_uint8 3 (by decide) (.int .i64 c)
  have z1 := Tryz.is_int (.int .i64 c)
  have h2 : ¬ c < 0 := by omega
  go_enter Tryz.func91, Tryz.ntmps91
  go_wp2_with (go_at_call 79; refine (indirect_any 3 _ (by decide) (by decide) _).mono ?_; rintro e w' ⟨rfl, rfl⟩)
  go_ret3
  refine ⟨⟨_, ?_, ?_, ?_, rfl⟩, rfl⟩ <;> first | rfl | omega | (simp [wrap32, IntKind.wrap, IntKind.bits, IntKind.signed]; omega) | (simp [wrap32, IntKind.wrap, IntKind.bits, IntKind.signed])

theorem unEP_uint8_int (c : Int) (h0 : 0 ≤ c) (h1 : c ≤ 9223372036854775807) (pf : Value) (w : World) :
    Calls Tryz.prog 68 #[.iface 3 (.int .i64 c), pf] w fun e w' => (∃ v : Int, 0 ≤ v ∧ v ≤ 255 ∧ v = IntKind.u8.wrap c ∧ e = .returned (.tuple #[.int .u8 v, .nilIface])) ∧ w = w' := by
  have H := fun w => Lib.hid (unP_uint8_int c h0 h1 w)
  go_enter Tryz.func68, Tryz.ntmps68
  go_wp2_with (go_at_call 91; refine ((H _).out).mono ?_; rintro e w' ⟨⟨v, v0, v1, hv, rfl⟩, rfl⟩; have HVV := Lib.hid hv; clear hv)
  go_ret2
  exact ⟨⟨v, v0, v1, HVV.out, rfl⟩, rfl⟩

theorem unToP_uint8_int (c : Int) (h0 : 0 ≤ c) (h1 : c ≤ 9223372036854775807) (w : World) :
    Calls Tryz.prog 33 #[.iface 3 (.int .i64 c)] w fun e w' => (∃ v : Int, 0 ≤ v ∧ v ≤ 255 ∧ v = IntKind.u8.wrap c ∧ e = .returned (.tuple #[.int .u8 v, .nilIface])) ∧ w = w' := by
  have hmf : ∀ (fn : Fn) (first cap : Array Value) (w : World), (Instr.makeFunc fn first cap).run Tryz.prog w = .ok (.func fn first cap) w := fun _ _ _ _ => rfl
  have H := fun pf w => Lib.hid (unEP_uint8_int c h0 h1 pf w)
  go_enter Tryz.func33, Tryz.ntmps33
  go_wp2_with (go_at_call 68; refine ((H _ _).out).mono ?_; rintro e w' ⟨⟨v, v0, v1, hv, rfl⟩, rfl⟩; have HVV := Lib.hid hv; clear hv)
  go_ret2
  exact ⟨⟨v, v0, v1, HVV.out, rfl⟩, rfl⟩

theorem doorP_uint8_int (c : Int) (h0 : 0 ≤ c) (h1 : c ≤ 9223372036854775807) (w : World) :
    Calls Tryz.prog 19 #[anyOf 2 c 0 0 ⟨#[]⟩] w fun e w' => (∃ v : Int, v = IntKind.u8.wrap c ∧ e = .returned (.tuple #[.int .u64 v, .bool true])) ∧ Below w.heap.size w w' := by
  have HV := fun w => Lib.hid (value_int c 0 0 ⟨#[]⟩ w (by omega) (by omega))
  have HE := fun w => Lib.hid (unToP_uint8_int c h0 h1 w)
  unfold anyOf at HV ⊢
  go_enter Tryz.func19, Tryz.ntmps19
  go_wp2_with (first
    | (go_at_call 25; refine ((HV _).out).mono ?_; rintro e w1 ⟨rfl, hb0⟩; have hb1 : Below w.heap.size w w1 := ((Below.refl _ _).alloc (Nat.le_refl _) _).trans (hb0.mono (by simp)))
    | (go_at_call 33; refine ((HE _).out).mono ?_; rintro e w2 ⟨⟨v, v0, v1, hv, rfl⟩, rfl⟩; have HVV := Lib.hid hv; clear hv))
  go_quiet (fail)
  go_wp2
  go_ret2
  exact ⟨⟨_, HVV.out, rfl⟩, bdrew hb1 _⟩

theorem unN_uint8_int8 (c : Int) (h0 : -128 ≤ c) (h1 : c < 0) (w : World) :
    Calls Tryz.prog 91 #[.iface 42 (.int .i8 c)] w fun e w' => e = .returned (.tuple #[.int .u8 0, .bool false, .bool false]) ∧ w = w' := by
  have z0 := Tryz.no_uint8 42 (by decide) (.int .i8 c)
  have z1 := Tryz.no_int 42 (by decide) (.int .i8 c)
  have z2 := Tryz.is_int8 (.int .i8 c)
  have h2 : ¬ 0 ≤ c := by omega
  go_enter Tryz.func91, Tryz.ntmps91
  go_wp2_with (go_at_call 79; refine (indirect_any 42 _ (by decide) (by decide) _).mono ?_; rintro e w' ⟨rfl, rfl⟩)
  go_ret3
  exact ⟨rfl, rfl⟩

theorem unEN_uint8_int8 (c : Int) (h0 : -128 ≤ c) (h1 : c < 0) (pf : Value) (w : World) :
    Calls Tryz.prog 68 #[.iface 42 (.int .i8 c), pf] w fun e w' => (∃ T q, e = .returned (.tuple #[.int .u8 0, .iface T q])) ∧ w = w' := by
  have H := fun w => Lib.hid (unN_uint8_int8 c h0 h1 w)
  go_enter Tryz.func68, Tryz.ntmps68
  go_wp2_with (first
    | (go_at_call 91; refine ((H _).out).mono ?_; rintro e w' ⟨rfl, rfl⟩)
    | (go_at_call 79; refine (indirect_any 42 _ (by decide) (by decide) _).mono ?_; rintro e w' ⟨rfl, rfl⟩))
  go_ret2
  exact ⟨⟨_, _, rfl⟩, rfl⟩

theorem unToN_uint8_int8 (c : Int) (h0 : -128 ≤ c) (h1 : c < 0) (w : World) :
    Calls Tryz.prog 33 #[.iface 42 (.int .i8 c)] w fun e w' => (∃ T q, e = .returned (.tuple #[.int .u8 0, .iface T q])) ∧ w = w' := by
  have hmf : ∀ (fn : Fn) (first cap : Array Value) (w : World), (Instr.makeFunc fn first cap).run Tryz.prog w = .ok (.func fn first cap) w := fun _ _ _ _ => rfl
  have H := fun pf w => Lib.hid (unEN_uint8_int8 c h0 h1 pf w)
  go_enter Tryz.func33, Tryz.ntmps33
  go_wp2_with (go_at_call 68; refine ((H _ _).out).mono ?_; rintro e w' ⟨⟨T, q, rfl⟩, rfl⟩)
  go_ret2
  exact ⟨⟨_, _, rfl⟩, rfl⟩

theorem doorN_uint8_int8 (c : Int) (h0 : -128 ≤ c) (h1 : c < 0) (w : World) :
    Calls Tryz.prog 19 #[anyOf 3 c 0 0 ⟨#[]⟩] w fun e w' => (e = .returned (.tuple #[.int .u64 0, .bool false])) ∧ Below w.heap.size w w' := by
  have HV := fun w => Lib.hid (value_int8 c 0 0 ⟨#[]⟩ w (by omega) (by omega))
  have hval : (IntKind.i8.wrap c) = c := by simp [wrap32, IntKind.wrap, IntKind.bits, IntKind.signed]; omega
  rw [hval] at HV
  clear hval
  have HE := fun w => Lib.hid (unToN_uint8_int8 c h0 h1 w)
  unfold anyOf at HV ⊢
  go_enter Tryz.func19, Tryz.ntmps19
  go_wp2_with (first
    | (go_at_call 25; refine ((HV _).out).mono ?_; rintro e w1 ⟨rfl, hb0⟩; have hb1 : Below w.heap.size w w1 := ((Below.refl _ _).alloc (Nat.le_refl _) _).trans (hb0.mono (by simp)))
    | (go_at_call 33; refine ((HE _).out).mono ?_; rintro e w2 ⟨⟨T, q, rfl⟩, rfl⟩))
  go_quiet (fail)
  go_wp2
  go_ret2
  exact ⟨rfl, bdrew hb1 _⟩

theorem unP_uint8_int8 (c : Int) (h0 : 0 ≤ c) (h1 : c ≤ 127) (w : World) :
    Calls Tryz.prog 91 #[.iface 42 (.int .i8 c)] w fun e w' => (∃ v : Int, 0 ≤ v ∧ v ≤ 255 ∧ v = IntKind.u8.wrap c ∧ e = .returned (.tuple #[.int .u8 v, .bool true, .bool true])) ∧ w = w' := by
  have z0 := Tryz.no_uint8 42 (by decide) (.int .i8 c)
  have z1 := Tryz.no_int 42 (by decide) (.int .i8 c)
  have z2 := Tryz.is_int8 (.int .i8 c)
  have h2 : ¬ c < 0 := by omega
  go_enter Tryz.func91, Tryz.ntmps91
  go_wp2_with (go_at_call 79; refine (indirect_any 42 _ (by decide) (by decide) _).mono ?_; rintro e w' ⟨rfl, rfl⟩)
  go_ret3
  refine ⟨⟨_, ?_, ?_, ?_, rfl⟩, rfl⟩ <;> first | rfl | omega | (simp [wrap32, IntKind.wrap, IntKind.bits, IntKind.signed]; omega) | (simp [wrap32, IntKind.wrap, IntKind.bits, IntKind.signed])

theorem unEP_uint8_int8 (c : Int) (h0 : 0 ≤ c) (h1 : c ≤ 127) (pf : Value) (w : World) :
    Calls Tryz.prog 68 #[.iface 42 (.int .i8 c), pf] w fun e w' => (∃ v : Int, 0 ≤ v ∧ v ≤ 255 ∧ v = IntKind.u8.wrap c ∧ e = .returned (.tuple #[.int .u8 v, .nilIface])) ∧ w = w' := by
  have H := fun w => Lib.hid (unP_uint8_int8 c h0 h1 w)
  go_enter Tryz.func68, Tryz.ntmps68
  go_wp2_with (go_at_call 91; refine ((H _).out).mono ?_; rintro e w' ⟨⟨v, v0, v1, hv, rfl⟩, rfl⟩; have HVV := Lib.hid hv; clear hv)
  go_ret2
  exact ⟨⟨v, v0, v1, HVV.out, rfl⟩, rfl⟩

theorem unToP_uint8_int8 (c : Int) (h0 : 0 ≤ c) (h1 : c ≤ 127) (w : World) :
    Calls Tryz.prog 33 #[.iface 42 (.int .i8 c)] w fun e w' => (∃ v : Int, 0 ≤ v ∧ v ≤ 255 ∧ v = IntKind.u8.wrap c ∧ e = .returned (.tuple #[.int .u8 v, .nilIface])) ∧ w = w' := by
  have hmf : ∀ (fn : Fn) (first cap : Array Value) (w : World), (Instr.makeFunc fn first cap).run Tryz.prog w = .ok (.func fn first cap) w := fun _ _ _ _ => rfl
  have H := fun pf w => Lib.hid (unEP_uint8_int8 c h0 h1 pf w)
  go_enter Tryz.func33, Tryz.ntmps33
  go_wp2_with (go_at_call 68; refine ((H _ _).out).mono ?_; rintro e w' ⟨⟨v, v0, v1, hv, rfl⟩, rfl⟩; have HVV := Lib.hid hv; clear hv)
  go_ret2
  exact ⟨⟨v, v0, v1, HVV.out, rfl⟩, rfl⟩

theorem doorP_uint8_int8 (c : Int) (h0 : 0 ≤ c) (h1 : c ≤ 127) (w : World) :
    Calls Tryz.prog 19 #[anyOf 3 c 0 0 ⟨#[]⟩] w fun e w' => (∃ v : Int, v = IntKind.u8.wrap c ∧ e = .returned (.tuple #[.int .u64 v, .bool true])) ∧ Below w.heap.size w w' := by
  have HV := fun w => Lib.hid (value_int8 c 0 0 ⟨#[]⟩ w (by omega) (by omega))
  have hval : (IntKind.i8.wrap c) = c := by simp [wrap32, IntKind.wrap, IntKind.bits, IntKind.signed]; omega
  rw [hval] at HV
  clear hval
  have HE := fun w => Lib.hid (unToP_uint8_int8 c h0 h1 w)
  unfold anyOf at HV ⊢
  go_enter Tryz.func19, Tryz.ntmps19
  go_wp2_with (first
    | (go_at_call 25; refine ((HV _).out).mono ?_; rintro e w1 ⟨rfl, hb0⟩; have hb1 : Below w.heap.size w w1 := ((Below.refl _ _).alloc (Nat.le_refl _) _).trans (hb0.mono (by simp)))
    | (go_at_call 33; refine ((HE _).out).mono ?_; rintro e w2 ⟨⟨v, v0, v1, hv, rfl⟩, rfl⟩; have HVV := Lib.hid hv; clear hv))
  go_quiet (fail)
  go_wp2
  go_ret2
  exact ⟨⟨_, HVV.out, rfl⟩, bdrew hb1 _⟩

theorem unN_uint8_int16 (c : Int) (h0 : -32768 ≤ c) (h1 : c < 0) (w : World) :
    Calls Tryz.prog 91 #[.iface 43 (.int .i16 c)] w fun e w' => e = .returned (.tuple #[.int .u8 0, .bool false, .bool false]) ∧ w = w' := by
  have z0 := Tryz.no_uint8 43 (by decide) (.int .i16 c)
  have z1 := Tryz.no_int 43 (by decide) (.int .i16 c)
  have z2 := Tryz.no_int8 43 (by decide) (.int .i16 c)
  have z3 := Tryz.is_int16 (.int .i16 c)
  have h2 : ¬ 0 ≤ c := by omega
  go_enter Tryz.func91, Tryz.ntmps91
  go_wp2_with (go_at_call 79; refine (indirect_any 43 _ (by decide) (by decide) _).mono ?_; rintro e w' ⟨rfl, rfl⟩)
  go_ret3
  exact ⟨rfl, rfl⟩

theorem unEN_uint8_int16 (c : Int) (h0 : -32768 ≤ c) (h1 : c < 0) (pf : Value) (w : World) :
    Calls Tryz.prog 68 #[.iface 43 (.int .i16 c), pf] w fun e w' => (∃ T q, e = .returned (.tuple #[.int .u8 0, .iface T q])) ∧ w = w' := by
  have H := fun w => Lib.hid (unN_uint8_int16 c h0 h1 w)
  go_enter Tryz.func68, Tryz.ntmps68
  go_wp2_with (first
    | (go_at_call 91; refine ((H _).out).mono ?_; rintro e w' ⟨rfl, rfl⟩)
    | (go_at_call 79; refine (indirect_any 43 _ (by decide) (by decide) _).mono ?_; rintro e w' ⟨rfl, rfl⟩))
  go_ret2
  exact ⟨⟨_, _, rfl⟩, rfl⟩

theorem unToN_uint8_int16 (c : Int) (h0 : -32768 ≤ c) (h1 : c < 0) (w : World) :
    Calls Tryz.prog 33 #[.iface 43 (.int .i16 c)] w fun e w' => (∃ T q, e = .returned (.tuple #[.int .u8 0, .iface T q])) ∧ w = w' := by
  have hmf : ∀ (fn : Fn) (first cap : Array Value) (w : World), (Instr.makeFunc fn first cap).run Tryz.prog w = .ok (.func fn first cap) w := fun _ _ _ _ => rfl
  have H := fun pf w => Lib.hid (unEN_uint8_int16 c h0 h1 pf w)
  go_enter Tryz.func33, Tryz.ntmps33
  go_wp2_with (go_at_call 68; refine ((H _ _).out).mono ?_; rintro e w' ⟨⟨T, q, rfl⟩, rfl⟩)
  go_ret2
  exact ⟨⟨_, _, rfl⟩, rfl⟩

theorem doorN_uint8_int16 (c : Int) (h0 : -32768 ≤ c) (h1 : c < 0) (w : World) :
    Calls Tryz.prog 19 #[anyOf 4 c 0 0 ⟨#[]⟩] w fun e w' => (e = .returned (.tuple #[.int .u64 0, .bool false])) ∧ Below w.heap.size w w' := by
  have HV := fun w => Lib.hid (value_int16 c 0 0 ⟨#[]⟩ w (by omega) (by omega))
  have hval : (IntKind.i16.wrap c) = c := by simp [wrap32, IntKind.wrap, IntKind.bits, IntKind.signed]; omega
  rw [hval] at HV
  clear hval
  have HE := fun w => Lib.hid (unToN_uint8_int16 c h0 h1 w)
  unfold anyOf at HV ⊢
  go_enter Tryz.func19, Tryz.ntmps19
  go_wp2_with (first
    | (go_at_call 25; refine ((HV _).out).mono ?_; rintro e w1 ⟨rfl, hb0⟩; have hb1 : Below w.heap.size w w1 := ((Below.refl _ _).alloc (Nat.le_refl _) _).trans (hb0.mono (by simp)))
    | (go_at_call 33; refine ((HE _).out).mono ?_; rintro e w2 ⟨⟨T, q, rfl⟩, rfl⟩))
  go_quiet (fail)
  go_wp2
  go_ret2
  exact ⟨rfl, bdrew hb1 _⟩

theorem unP_uint8_int16 (c : Int) (h0 : 0 ≤ c) (h1 : c ≤ 32767) (w : World) :
    Calls Tryz.prog 91 #[.iface 43 (.int .i16 c)] w fun e w' => (∃ v : Int, 0 ≤ v ∧ v ≤ 255 ∧ v = IntKind.u8.wrap c ∧ e = .returned (.tuple #[.int .u8 v, .bool true, .bool true])) ∧ w = w' := by
  have z0 := Tryz.no_uint8 43 (by decide) (.int .i16 c)
  have z1 := Tryz.no_int 43 (by decide) (.int .i16 c)
  have z2 := Tryz.no_int8 43 (by decide) (.int .i16 c)
  have z3 := Tryz.is_int16 (.int .i16 c)
  have h2 : ¬ c < 0 := by omega
  go_enter Tryz.func91, Tryz.ntmps91
  go_wp2_with (go_at_call 79; refine (indirect_any 43 _ (by decide) (by decide) _).mono ?_; rintro e w' ⟨rfl, rfl⟩)
  go_ret3
  refine ⟨⟨_, ?_, ?_, ?_, rfl⟩, rfl⟩ <;> first | rfl | omega | (simp [wrap32, IntKind.wrap, IntKind.bits, IntKind.signed]; omega) | (simp [wrap32, IntKind.wrap, IntKind.bits, IntKind.signed])

theorem unEP_uint8_int16 (c : Int) (h0 : 0 ≤ c) (h1 : c ≤ 32767) (pf : Value) (w : World) :
    Calls Tryz.prog 68 #[.iface 43 (.int .i16 c), pf] w fun e w' => (∃ v : Int, 0 ≤ v ∧ v ≤ 255 ∧ v = IntKind.u8.wrap c ∧ e = .returned (.tuple #[.int .u8 v, .nilIface])) ∧ w = w' := by
  have H := fun w => Lib.hid (unP_uint8_int16 c h0 h1 w)
  go_enter Tryz.func68, Tryz.ntmps68
  go_wp2_with (go_at_call 91; refine ((H _).out).mono ?_; rintro e w' ⟨⟨v, v0, v1, hv, rfl⟩, rfl⟩; have HVV := Lib.hid hv; clear hv)
  go_ret2
  exact ⟨⟨v, v0, v1, HVV.out, rfl⟩, rfl⟩

theorem unToP_uint8_int16 (c : Int) (h0 : 0 ≤ c) (h1 : c ≤ 32767) (w : World) :
    Calls Tryz.prog 33 #[.iface 43 (.int .i16 c)] w fun e w' => (∃ v : Int, 0 ≤ v ∧ v ≤ 255 ∧ v = IntKind.u8.wrap c ∧ e = .returned (.tuple #[.int .u8 v, .nilIface])) ∧ w = w' := by
  have hmf : ∀ (fn : Fn) (first cap : Array Value) (w : World), (Instr.makeFunc fn first cap).run Tryz.prog w = .ok (.func fn first cap) w := fun _ _ _ _ => rfl
  have H := fun pf w => Lib.hid (unEP_uint8_int16 c h0 h1 pf w)
  go_enter Tryz.func33, Tryz.ntmps33
  go_wp2_with (go_at_call 68; refine ((H _ _).out).mono ?_; rintro e w' ⟨⟨v, v0, v1, hv, rfl⟩, rfl⟩; have HVV := Lib.hid hv; clear hv)
  go_ret2
  exact ⟨⟨v, v0, v1, HVV.out, rfl⟩, rfl⟩

theorem doorP_uint8_int16 (c : Int) (h0 : 0 ≤ c) (h1 : c ≤ 32767) (w : World) :
    Calls Tryz.prog 19 #[anyOf 4 c 0 0 ⟨#[]⟩] w fun e w' => (∃ v : Int, v = IntKind.u8.wrap c ∧ e = .returned (.tuple #[.int .u64 v, .bool true])) ∧ Below w.heap.size w w' := by
  have HV := fun w => Lib.hid (value_int16 c 0 0 ⟨#[]⟩ w (by omega) (by omega))
  have hval : (IntKind.i16.wrap c) = c := by simp [wrap32, IntKind.wrap, IntKind.bits, IntKind.signed]; omega
  rw [hval] at HV
  clear hval
  have HE := fun w => Lib.hid (unToP_uint8_int16 c h0 h1 w)
  unfold anyOf at HV ⊢
  go_enter Tryz.func19, Tryz.ntmps19
  go_wp2_with (first
    | (go_at_call 25; refine ((HV _).out).mono ?_; rintro e w1 ⟨rfl, hb0⟩; have hb1 : Below w.heap.size w w1 := ((Below.refl _ _).alloc (Nat.le_refl _) _).trans (hb0.mono (by simp)))
    | (go_at_call 33; refine ((HE _).out).mono ?_; rintro e w2 ⟨⟨v, v0, v1, hv, rfl⟩, rfl⟩; have HVV := Lib.hid hv; clear hv))
  go_quiet (fail)
  go_wp2
  go_ret2
  exact ⟨⟨_, HVV.out, rfl⟩, bdrew hb1 _⟩

theorem unN_uint8_int32 (c : Int) (h0 : -2147483648 ≤ c) (h1 : c < 0) (w : World) :
    Calls Tryz.prog 91 #[.iface 21 (.int .i32 c)] w fun e w' => e = .returned (.tuple #[.int .u8 0, .bool false, .bool false]) ∧ w = w' := by
  have z0 := Tryz.no_uint8 21 (by decide) (.int .i32 c)
  have z1 := Tryz.no_int 21 (by decide) (.int .i32 c)
  have z2 := Tryz.no_int8 21 (by decide) (.int .i32 c)
  have z3 := Tryz.no_int16 21 (by decide) (.int .i32 c)
  have z4 := Tryz.is_int32 (.int .i32 c)
  have h2 : ¬ 0 ≤ c := by omega
  go_enter Tryz.func91, Tryz.ntmps91
  go_wp2_with (go_at_call 79; refine (indirect_any 21 _ (by decide) (by decide) _).mono ?_; rintro e w' ⟨rfl, rfl⟩)
  go_ret3
  exact ⟨rfl, rfl⟩

theorem unEN_uint8_int32 (c : Int) (h0 : -2147483648 ≤ c) (h1 : c < 0) (pf : Value) (w : World) :
    Calls Tryz.prog 68 #[.iface 21 (.int .i32 c), pf] w fun e w' => (∃ T q, e = .returned (.tuple #[.int .u8 0, .iface T q])) ∧ w = w' := by
  have H := fun w => Lib.hid (unN_uint8_int32 c h0 h1 w)
  go_enter Tryz.func68, Tryz.ntmps68
  go_wp2_with (first
    | (go_at_call 91; refine ((H _).out).mono ?_; rintro e w' ⟨rfl, rfl⟩)
    | (go_at_call 79; refine (indirect_any 21 _ (by decide) (by decide) _).mono ?_; rintro e w' ⟨rfl, rfl⟩))
  go_ret2
  exact ⟨⟨_, _, rfl⟩, rfl⟩

theorem unToN_uint8_int32 (c : Int) (h0 : -2147483648 ≤ c) (h1 : c < 0) (w : World) :
    Calls Tryz.prog 33 #[.iface 21 (.int .i32 c)] w fun e w' => (∃ T q, e = .returned (.tuple #[.int .u8 0, .iface T q])) ∧ w = w' := by
  have hmf : ∀ (fn : Fn) (first cap : Array Value) (w : World), (Instr.makeFunc fn first cap).run Tryz.prog w = .ok (.func fn first cap) w := fun _ _ _ _ => rfl
  have H := fun pf w => Lib.hid (unEN_uint8_int32 c h0 h1 pf w)
  go_enter Tryz.func33, Tryz.ntmps33
  go_wp2_with (go_at_call 68; refine ((H _ _).out).mono ?_; rintro e w' ⟨⟨T, q, rfl⟩, rfl⟩)
  go_ret2
  exact ⟨⟨_, _, rfl⟩, rfl⟩

theorem doorN_uint8_int32 (c : Int) (h0 : -2147483648 ≤ c) (h1 : c < 0) (w : World) :
    Calls Tryz.prog 19 #[anyOf 5 c 0 0 ⟨#[]⟩] w fun e w' => (e = .returned (.tuple #[.int .u64 0, .bool false])) ∧ Below w.heap.size w w' := by
  have HV := fun w => Lib.hid (value_int32 c 0 0 ⟨#[]⟩ w (by omega) (by omega))
  have hval : (wrap32 c) = c := by simp [wrap32, IntKind.wrap, IntKind.bits, IntKind.signed]; omega
  rw [hval] at HV
  clear hval
  have HE := fun w => Lib.hid (unToN_uint8_int32 c h0 h1 w)
  unfold anyOf at HV ⊢
  go_enter Tryz.func19, Tryz.ntmps19
  go_wp2_with (first
    | (go_at_call 25; refine ((HV _).out).mono ?_; rintro e w1 ⟨rfl, hb0⟩; have hb1 : Below w.heap.size w w1 := ((Below.refl _ _).alloc (Nat.le_refl _) _).trans (hb0.mono (by simp)))
    | (go_at_call 33; refine ((HE _).out).mono ?_; rintro e w2 ⟨⟨T, q, rfl⟩, rfl⟩))
  go_quiet (fail)
  go_wp2
  go_ret2
  exact ⟨rfl, bdrew hb1 _⟩

theorem unP_uint8_int32 (c : Int) (h0 : 0 ≤ c) (h1 : c ≤ 2147483647) (w : World) :
    Calls Tryz.prog 91 #[.iface 21 (.int .i32 c)] w fun e w' => (∃ v : Int, 0 ≤ v ∧ v ≤ 255 ∧ v = IntKind.u8.wrap c ∧ e = .returned (.tuple #[.int .u8 v, .bool true, .bool true])) ∧ w = w' := by
  have z0 := Tryz.no_uint8 21 (by decide) (.int .i32 c)
  have z1 := Tryz.no_int 21 (by decide) (.int .i32 c)
  have z2 := Tryz.no_int8 21 (by decide) (.int .i32 c)
  have z3 := Tryz.no_int16 21 (by decide) (.int .i32 c)
  have z4 := Tryz.is_int32 (.int .i32 c)
  have h2 : ¬ c < 0 := by omega
  go_enter Tryz.func91, Tryz.ntmps91
  go_wp2_with (go_at_call 79; refine (indirect_any 21 _ (by decide) (by decide) _).mono ?_; rintro e w' ⟨rfl, rfl⟩)
  go_ret3
  refine ⟨⟨_, ?_, ?_, ?_, rfl⟩, rfl⟩ <;> first | rfl | omega | (simp [wrap32, IntKind.wrap, IntKind.bits, IntKind.signed]; omega) | (simp [wrap32, IntKind.wrap, IntKind.bits, IntKind.signed])

theorem unEP_uint8_int32 (c : Int) (h0 : 0 ≤ c) (h1 : c ≤ 2147483647) (pf : Value) (w : World) :
    Calls Tryz.prog 68 #[.iface 21 (.int .i32 c), pf] w fun e w' => (∃ v : Int, 0 ≤ v ∧ v ≤ 255 ∧ v = IntKind.u8.wrap c ∧ e = .returned (.tuple #[.int .u8 v, .nilIface])) ∧ w = w' := by
  have H := fun w => Lib.hid (unP_uint8_int32 c h0 h1 w)
  go_enter Tryz.func68, Tryz.ntmps68
  go_wp2_with (go_at_call 91; refine ((H _).out).mono ?_; rintro e w' ⟨⟨v, v0, v1, hv, rfl⟩, rfl⟩; have HVV := Lib.hid hv; clear hv)
  go_ret2
  exact ⟨⟨v, v0, v1, HVV.out, rfl⟩, rfl⟩

theorem unToP_uint8_int32 (c : Int) (h0 : 0 ≤ c) (h1 : c ≤ 2147483647) (w : World) :
    Calls Tryz.prog 33 #[.iface 21 (.int .i32 c)] w fun e w' => (∃ v : Int, 0 ≤ v ∧ v ≤ 255 ∧ v = IntKind.u8.wrap c ∧ e = .returned (.tuple #[.int .u8 v, .nilIface])) ∧ w = w' := by
  have hmf : ∀ (fn : Fn) (first cap : Array Value) (w : World), (Instr.makeFunc fn first cap).run Tryz.prog w = .ok (.func fn first cap) w := fun _ _ _ _ => rfl
  have H := fun pf w => Lib.hid (unEP_uint8_int32 c h0 h1 pf w)
  go_enter Tryz.func33, Tryz.ntmps33
  go_wp2_with (go_at_call 68; refine ((H _ _).out).mono ?_; rintro e w' ⟨⟨v, v0, v1, hv, rfl⟩, rfl⟩; have HVV := Lib.hid hv; clear hv)
  go_ret2
  exact ⟨⟨v, v0, v1, HVV.out, rfl⟩, rfl⟩

theorem doorP_uint8_int32 (c : Int) (h0 : 0 ≤ c) (h1 : c ≤ 2147483647) (w : World) :
    Calls Tryz.prog 19 #[anyOf 5 c 0 0 ⟨#[]⟩] w fun e w' => (∃ v : Int, v = IntKind.u8.wrap c ∧ e = .returned (.tuple #[.int .u64 v, .bool true])) ∧ Below w.heap.size w w' := by
  have HV := fun w => Lib.hid (value_int32 c 0 0 ⟨#[]⟩ w (by omega) (by omega))
  have hval : (wrap32 c) = c := by simp [wrap32, IntKind.wrap, IntKind.bits, IntKind.signed]; omega
  rw [hval] at HV
  clear hval
  have HE := fun w => Lib.hid (unToP_uint8_int32 c h0 h1 w)
  unfold anyOf at HV ⊢
  go_enter Tryz.func19, Tryz.ntmps19
  go_wp2_with (first
    | (go_at_call 25; refine ((HV _).out).mono ?_; rintro e w1 ⟨rfl, hb0⟩; have hb1 : Below w.heap.size w w1 := ((Below.refl _ _).alloc (Nat.le_refl _) _).trans (hb0.mono (by simp)))
    | (go_at_call 33; refine ((HE _).out).mono ?_; rintro e w2 ⟨⟨v, v0, v1, hv, rfl⟩, rfl⟩; have HVV := Lib.hid hv; clear hv))
  go_quiet (fail)
  go_wp2
  go_ret2
  exact ⟨⟨_, HVV.out, rfl⟩, bdrew hb1 _⟩

theorem unN_uint8_int64 (c : Int) (h0 : -9223372036854775808 ≤ c) (h1 : c < 0) (w : World) :
    Calls Tryz.prog 91 #[.iface 2 (.int .i64 c)] w fun e w' => e = .returned (.tuple #[.int .u8 0, .bool false, .bool false]) ∧ w = w' := by
  have z0 := Tryz.no_uint8 2 (by decide) (.int .i64 c)
  have z1 := Tryz.no_int 2 (by decide) (.int .i64 c)
  have z2 := Tryz.no_int8 2 (by decide) (.int .i64 c)
  have z3 := Tryz.no_int16 2 (by decide) (.int .i64 c)
  have z4 := Tryz.no_int32 2 (by decide) (.int .i64 c)
  have z5 := Tryz.is_int64 (.int .i64 c)
  have h2 : ¬ 0 ≤ c := by omega
  go_enter Tryz.func91, Tryz.ntmps91
  go_wp2_with (go_at_call 79; refine (indirect_any 2 _ (by decide) (by decide) _).mono ?_; rintro e w' ⟨rfl, rfl⟩)
  go_ret3
  exact ⟨rfl, rfl⟩

theorem unEN_uint8_int64 (c : Int) (h0 : -9223372036854775808 ≤ c) (h1 : c < 0) (pf : Value) (w : World) :
    Calls Tryz.prog 68 #[.iface 2 (.int .i64 c), pf] w fun e w' => (∃ T q, e = .returned (.tuple #[.int .u8 0, .iface T q])) ∧ w = w' := by
  have H := fun w => Lib.hid (unN_uint8_int64 c h0 h1 w)
  go_enter Tryz.func68, Tryz.ntmps68
  go_wp2_with (first
    | (go_at_call 91; refine ((H _).out).mono ?_; rintro e w' ⟨rfl, rfl⟩)
    | (go_at_call 79; refine (indirect_any 2 _ (by decide) (by decide) _).mono ?_; rintro e w' ⟨rfl, rfl⟩))
  go_ret2
  exact ⟨⟨_, _, rfl⟩, rfl⟩

theorem unToN_uint8_int64 (c : Int) (h0 : -9223372036854775808 ≤ c) (h1 : c < 0) (w : World) :
    Calls Tryz.prog 33 #[.iface 2 (.int .i64 c)] w fun e w' => (∃ T q, e = .returned (.tuple #[.int .u8 0, .iface T q])) ∧ w = w' := by
  have hmf : ∀ (fn : Fn) (first cap : Array Value) (w : World), (Instr.makeFunc fn first cap).run Tryz.prog w = .ok (.func fn first cap) w := fun _ _ _ _ => rfl
  have H := fun pf w => Lib.hid (unEN_uint8_int64 c h0 h1 pf w)
  go_enter Tryz.func33, Tryz.ntmps33
  go_wp2_with (go_at_call 68; refine ((H _ _).out).mono ?_; rintro e w' ⟨⟨T, q, rfl⟩, rfl⟩)
  go_ret2
  exact ⟨⟨_, _, rfl⟩, rfl⟩

theorem doorN_uint8_int64 (c : Int) (h0 : -9223372036854775808 ≤ c) (h1 : c < 0) (w : World) :
    Calls Tryz.prog 19 #[anyOf 6 c 0 0 ⟨#[]⟩] w fun e w' => (e = .returned (.tuple #[.int .u64 0, .bool false])) ∧ Below w.heap.size w w' := by
  have HV := fun w => Lib.hid (value_int64 c 0 0 ⟨#[]⟩ w (by omega) (by omega))
  have HE := fun w => Lib.hid (unToN_uint8_int64 c h0 h1 w)
  unfold anyOf at HV ⊢
  go_enter Tryz.func19, Tryz.ntmps19
  go_wp2_with (first
    | (go_at_call 25; refine ((HV _).out).mono ?_; rintro e w1 ⟨rfl, hb0⟩; have hb1 : Below w.heap.size w w1 := ((Below.refl _ _).alloc (Nat.le_refl _) _).trans (hb0.mono (by simp)))
    | (go_at_call 33; refine ((HE _).out).mono ?_; rintro e w2 ⟨⟨T, q, rfl⟩, rfl⟩))
  go_quiet (fail)
  go_wp2
  go_ret2
  exact ⟨rfl, bdrew hb1 _⟩

theorem unP_uint8_int64 (c : Int) (h0 : 0 ≤ c) (h1 : c ≤ 9223372036854775807) (w : World) :
    Calls Tryz.prog 91 #[.iface 2 (.int .i64 c)] w fun e w' => (∃ v : Int, 0 ≤ v ∧ v ≤ 255 ∧ v = IntKind.u8.wrap c ∧ e = .returned (.tuple #[.int .u8 v, .bool true, .bool true])) ∧ w = w' := by
  have z0 := Tryz.no_uint8 2 (by decide) (.int .i64 c)
  have z1 := Tryz.no_int 2 (by decide) (.int .i64 c)
  have z2 := Tryz.no_int8 2 (by decide) (.int .i64 c)
  have z3 := Tryz.no_int16 2 (by decide) (.int .i64 c)
  have z4 := Tryz.no_int32 2 (by decide) (.int .i64 c)
  have z5 := Tryz.is_int64 (.int .i64 c)
  have h2 : ¬ c < 0 := by omega
  go_enter Tryz.func91, Tryz.ntmps91
  go_wp2_with (go_at_call 79; refine (indirect_any 2 _ (by decide) (by decide) _).mono ?_; rintro e w' ⟨rfl, rfl⟩)
  go_ret3
  refine ⟨⟨_, ?_, ?_, ?_, rfl⟩, rfl⟩ <;> first | rfl | omega | (simp [wrap32, IntKind.wrap, IntKind.bits, IntKind.signed]; omega) | (simp [wrap32, IntKind.wrap, IntKind.bits, IntKind.signed])

theorem unEP_uint8_int64 (c : Int) (h0 : 0 ≤ c) (h1 : c ≤ 9223372036854775807) (pf : Value) (w : World) :
    Calls Tryz.prog 68 #[.iface 2 (.int .i64 c), pf] w fun e w' => (∃ v : Int, 0 ≤ v ∧ v ≤ 255 ∧ v = IntKind.u8.wrap c ∧ e = .returned (.tuple #[.int .u8 v, .nilIface])) ∧ w = w' := by
  have H := fun w => Lib.hid (unP_uint8_int64 c h0 h1 w)
  go_enter Tryz.func68, Tryz.ntmps68
  go_wp2_with (go_at_call 91; refine ((H _).out).mono ?_; rintro e w' ⟨⟨v, v0, v1, hv, rfl⟩, rfl⟩; have HVV := Lib.hid hv; clear hv)
  go_ret2
  exact ⟨⟨v, v0, v1, HVV.out, rfl⟩, rfl⟩

theorem unToP_uint8_int64 (c : Int) (h0 : 0 ≤ c) (h1 : c ≤ 9223372036854775807) (w : World) :
    Calls Tryz.prog 33 #[.iface 2 (.int .i64 c)] w fun e w' => (∃ v : Int, 0 ≤ v ∧ v ≤ 255 ∧ v = IntKind.u8.wrap c ∧ e = .returned (.tuple #[.int .u8 v, .nilIface])) ∧ w = w' := by
  have hmf : ∀ (fn : Fn) (first cap : Array Value) (w : World), (Instr.makeFunc fn first cap).run Tryz.prog w = .ok (.func fn first cap) w := fun _ _ _ _ => rfl
  have H := fun pf w => Lib.hid (unEP_uint8_int64 c h0 h1 pf w)
  go_enter Tryz.func33, Tryz.ntmps33
  go_wp2_with (go_at_call 68; refine ((H _ _).out).mono ?_; rintro e w' ⟨⟨v, v0, v1, hv, rfl⟩, rfl⟩; have HVV := Lib.hid hv; clear hv)
  go_ret2
  exact ⟨⟨v, v0, v1, HVV.out, rfl⟩, rfl⟩

theorem doorP_uint8_int64 (c : Int) (h0 : 0 ≤ c) (h1 : c ≤ 9223372036854775807) (w : World) :
    Calls Tryz.prog 19 #[anyOf 6 c 0 0 ⟨#[]⟩] w fun e w' => (∃ v : Int, v = IntKind.u8.wrap c ∧ e = .returned (.tuple #[.int .u64 v, .bool true])) ∧ Below w.heap.size w w' := by
  have HV := fun w => Lib.hid (value_int64 c 0 0 ⟨#[]⟩ w (by omega) (by omega))
  have HE := fun w => Lib.hid (unToP_uint8_int64 c h0 h1 w)
  unfold anyOf at HV ⊢
  go_enter Tryz.func19, Tryz.ntmps19
  go_wp2_with (first
    | (go_at_call 25; refine ((HV _).out).mono ?_; rintro e w1 ⟨rfl, hb0⟩; have hb1 : Below w.heap.size w w1 := ((Below.refl _ _).alloc (Nat.le_refl _) _).trans (hb0.mono (by simp)))
    | (go_at_call 33; refine ((HE _).out).mono ?_; rintro e w2 ⟨⟨v, v0, v1, hv, rfl⟩, rfl⟩; have HVV := Lib.hid hv; clear hv))
  go_quiet (fail)
  go_wp2
  go_ret2
  exact ⟨⟨_, HVV.out, rfl⟩, bdrew hb1 _⟩

theorem unN_uint16_int (c : Int) (h0 : -9223372036854775808 ≤ c) (h1 : c < 0) (w : World) :
    Calls Tryz.prog 94 #[.iface 3 (.int .i64 c)] w fun e w' => e = .returned (.tuple #[.int .u16 0, .bool false, .bool false]) ∧ w = w' := by
  have z0 := Tryz.no_uint16 3 (by decide) (.int .i64 c)
  have z1 := Tryz.is_int (.int .i64 c)
  have h2 : ¬ 0 ≤ c := by omega
  go_enter Tryz.func94, Tryz.ntmps94
  go_wp2_with (go_at_call 79; refine (indirect_any 3 _ (by decide) (by decide) _).mono ?_; rintro e w' ⟨rfl, rfl⟩)
  go_ret3
  exact ⟨rfl, rfl⟩

theorem unEN_uint16_int (c : Int) (h0 : -9223372036854775808 ≤ c) (h1 : c < 0) (pf : Value) (w : World) :
    Calls Tryz.prog 70 #[.iface 3 (.int .i64 c), pf] w fun e w' => (∃ T q, e = .returned (.tuple #[.int .u16 0, .iface T q])) ∧ w = w' := by
  have H := fun w => Lib.hid (unN_uint16_int c h0 h1 w)
  go_enter Tryz.func70, Tryz.ntmps70
  go_wp2_with (first
    | (go_at_call 94; refine ((H _).out).mono ?_; rintro e w' ⟨rfl, rfl⟩)
    | (go_at_call 79; refine (indirect_any 3 _ (by decide) (by decide) _).mono ?_; rintro e w' ⟨rfl, rfl⟩))
  go_ret2
  exact ⟨⟨_, _, rfl⟩, rfl⟩

theorem unToN_uint16_int (c : Int) (h0 : -9223372036854775808 ≤ c) (h1 : c < 0) (w : World) :
    Calls Tryz.prog 34 #[.iface 3 (.int .i64 c)] w fun e w' => (∃ T q, e = .returned (.tuple #[.int .u16 0, .iface T q])) ∧ w = w' := by
  have hmf : ∀ (fn : Fn) (first cap : Array Value) (w : World), (Instr.makeFunc fn first cap).run Tryz.prog w = .ok (.func fn first cap) w := fun _ _ _ _ => rfl
  have H := fun pf w => Lib.hid (unEN_uint16_int c h0 h1 pf w)
  go_enter Tryz.func34, Tryz.ntmps34
  go_wp2_with (go_at_call 70; refine ((H _ _).out).mono ?_; rintro e w' ⟨⟨T, q, rfl⟩, rfl⟩)
  go_ret2
  exact ⟨⟨_, _, rfl⟩, rfl⟩

theorem doorN_uint16_int (c : Int) (h0 : -9223372036854775808 ≤ c) (h1 : c < 0) (w : World) :
    Calls Tryz.prog 20 #[anyOf 2 c 0 0 ⟨#[]⟩] w fun e w' => (e = .returned (.tuple #[.int .u64 0, .bool false])) ∧ Below w.heap.size w w' := by
  have HV := fun w => Lib.hid (value_int c 0 0 ⟨#[]⟩ w (by omega) (by omega))
  have HE := fun w => Lib.hid (unToN_uint16_int c h0 h1 w)
  unfold anyOf at HV ⊢
  go_enter Tryz.func20, Tryz.ntmps20
  go_wp2_with (first
    | (go_at_call 25; refine ((HV _).out).mono ?_; rintro e w1 ⟨rfl, hb0⟩; have hb1 : Below w.heap.size w w1 := ((Below.refl _ _).alloc (Nat.le_refl _) _).trans (hb0.mono (by simp)))
    | (go_at_call 34; refine ((HE _).out).mono ?_; rintro e w2 ⟨⟨T, q, rfl⟩, rfl⟩))
  go_quiet (fail)
  go_wp2
  go_ret2
  exact ⟨rfl, bdrew hb1 _⟩

theorem unP_uint16_int (c : Int) (h0 : 0 ≤ c) (h1 : c ≤ 9223372036854775807) (w : World) :
    Calls Tryz.prog 94 #[.iface 3 (.int .i64 c)] w fun e w' => (∃ v : Int, 0 ≤ v ∧ v ≤ 65535 ∧ v = IntKind.u16.wrap c ∧ e = .returned (.tuple #[.int .u16 v, .bool true, .bool true])) ∧ w = w' := by
  have z0 := Tryz.no_uint16 3 (by decide) (.int .i64 c)
  have z1 := Tryz.is_int (.int .i64 c)
  have h2 : ¬ c < 0 := by omega
  go_enter Tryz.func94, Tryz.ntmps94
  go_wp2_with (go_at_call 79; refine (indirect_any 3 _ (by decide) (by decide) _).mono ?_; rintro e w' ⟨rfl, rfl⟩)
  go_ret3
  refine ⟨⟨_, ?_, ?_, ?_, rfl⟩, rfl⟩ <;> first | rfl | omega | (simp [wrap32, IntKind.wrap, IntKind.bits, IntKind.signed]; omega) | (simp [wrap32, IntKind.wrap, IntKind.bits, IntKind.signed])

theorem unEP_uint16_int (c : Int) (h0 : 0 ≤ c) (h1 : c ≤ 9223372036854775807) (pf : Value) (w : World) :
    Calls Tryz.prog 70 #[.iface 3 (.int .i64 c), pf] w fun e w' => (∃ v : Int, 0 ≤ v ∧ v ≤ 65535 ∧ v = IntKind.u16.wrap c ∧ e = .returned (.tuple #[.int .u16 v, .nilIface])) ∧ w = w' := by
  have H := fun w => Lib.hid (unP_uint16_int c h0 h1 w)
  go_enter Tryz.func70, Tryz.ntmps70
  go_wp2_with (go_at_call 94; refine ((H _).out).mono ?_; rintro e w' ⟨⟨v, v0, v1, hv, rfl⟩, rfl⟩; have HVV := Lib.hid hv; clear hv)
  go_ret2
  exact ⟨⟨v, v0, v1, HVV.out, rfl⟩, rfl⟩

theorem unToP_uint16_int (c : Int) (h0 : 0 ≤ c) (h1 : c ≤ 9223372036854775807) (w : World) :
    Calls Tryz.prog 34 #[.iface 3 (.int .i64 c)] w fun e w' => (∃ v : Int, 0 ≤ v ∧ v ≤ 65535 ∧ v = IntKind.u16.wrap c ∧ e = .returned (.tuple #[.int .u16 v, .nilIface])) ∧ w = w' := by
  have hmf : ∀ (fn : Fn) (first cap : Array Value) (w : World), (Instr.makeFunc fn first cap).run Tryz.prog w = .ok (.func fn first cap) w := fun _ _ _ _ => rfl
  have H := fun pf w => Lib.hid (unEP_uint16_int c h0 h1 pf w)
  go_enter Tryz.func34, Tryz.ntmps34
  go_wp2_with (go_at_call 70; refine ((H _ _).out).mono ?_; rintro e w' ⟨⟨v, v0, v1, hv, rfl⟩, rfl⟩; have HVV := Lib.hid hv; clear hv)
  go_ret2
  exact ⟨⟨v, v0, v1, HVV.out, rfl⟩, rfl⟩

theorem doorP_uint16_int (c : Int) (h0 : 0 ≤ c) (h1 : c ≤ 9223372036854775807) (w : World) :
    Calls Tryz.prog 20 #[anyOf 2 c 0 0 ⟨#[]⟩] w fun e w' => (∃ v : Int, v = IntKind.u16.wrap c ∧ e = .returned (.tuple #[.int .u64 v, .bool true])) ∧ Below w.heap.size w w' := by
  have HV := fun w => Lib.hid (value_int c 0 0 ⟨#[]⟩ w (by omega) (by omega))
  have HE := fun w => Lib.hid (unToP_uint16_int c h0 h1 w)
  unfold anyOf at HV ⊢
  go_enter Tryz.func20, Tryz.ntmps20
  go_wp2_with (first
    | (go_at_call 25; refine ((HV _).out).mono ?_; rintro e w1 ⟨rfl, hb0⟩; have hb1 : Below w.heap.size w w1 := ((Below.refl _ _).alloc (Nat.le_refl _) _).trans (hb0.mono (by simp)))
    | (go_at_call 34; refine ((HE _).out).mono ?_; rintro e w2 ⟨⟨v, v0, v1, hv, rfl⟩, rfl⟩; have HVV := Lib.hid hv; clear hv))
  go_quiet (fail)
  go_wp2
  go_ret2
  exact ⟨⟨_, HVV.out, rfl⟩, bdrew hb1 _⟩

theorem unN_uint16_int8 (c : Int) (h0 : -128 ≤ c) (h1 : c < 0) (w : World) :
    Calls Tryz.prog 94 #[.iface 42 (.int .i8 c)] w fun e w' => e = .returned (.tuple #[.int .u16 0, .bool false, .bool false]) ∧ w = w' := by
  have z0 := Tryz.no_uint16 42 (by decide) (.int .i8 c)
  have z1 := Tryz.no_int 42 (by decide) (.int .i8 c)
  have z2 := Tryz.is_int8 (.int .i8 c)
  have h2 : ¬ 0 ≤ c := by omega
  go_enter Tryz.func94, Tryz.ntmps94
  go_wp2_with (go_at_call 79; refine (indirect_any 42 _ (by decide) (by decide) _).mono ?_; rintro e w' ⟨rfl, rfl⟩)
  go_ret3
  exact ⟨rfl, rfl⟩

theorem unEN_uint16_int8 (c : Int) (h0 : -128 ≤ c) (h1 : c < 0) (pf : Value) (w : World) :
    Calls Tryz.prog 70 #[.iface 42 (.int .i8 c), pf] w fun e w' => (∃ T q, e = .returned (.tuple #[.int .u16 0, .iface T q])) ∧ w = w' := by
  have H := fun w => Lib.hid (unN_uint16_int8 c h0 h1 w)
  go_enter Tryz.func70, Tryz.ntmps70
  go_wp2_with (first
    | (go_at_call 94; refine ((H _).out).mono ?_; rintro e w' ⟨rfl, rfl⟩)
    | (go_at_call 79; refine (indirect_any 42 _ (by decide) (by decide) _).mono ?_; rintro e w' ⟨rfl, rfl⟩))
  go_ret2
  exact ⟨⟨_, _, rfl⟩, rfl⟩

theorem unToN_uint16_int8 (c : Int) (h0 : -128 ≤ c) (h1 : c < 0) (w : World) :
    Calls Tryz.prog 34 #[.iface 42 (.int .i8 c)] w fun e w' => (∃ T q, e = .returned (.tuple #[.int .u16 0, .iface T q])) ∧ w = w' := by
  have hmf : ∀ (fn : Fn) (first cap : Array Value) (w : World), (Instr.makeFunc fn first cap).run Tryz.prog w = .ok (.func fn first cap) w := fun _ _ _ _ => rfl
  have H := fun pf w => Lib.hid (unEN_uint16_int8 c h0 h1 pf w)
  go_enter Tryz.func34, Tryz.ntmps34
  go_wp2_with (go_at_call 70; refine ((H _ _).out).mono ?_; rintro e w' ⟨⟨T, q, rfl⟩, rfl⟩)
  go_ret2
  exact ⟨⟨_, _, rfl⟩, rfl⟩

theorem doorN_uint16_int8 (c : Int) (h0 : -128 ≤ c) (h1 : c < 0) (w : World) :
    Calls Tryz.prog 20 #[anyOf 3 c 0 0 ⟨#[]⟩] w fun e w' => (e = .returned (.tuple #[.int .u64 0, .bool false])) ∧ Below w.heap.size w w' := by
  have HV := fun w => Lib.hid (value_int8 c 0 0 ⟨#[]⟩ w (by omega) (by omega))
  have hval : (IntKind.i8.wrap c) = c := by simp [wrap32, IntKind.wrap, IntKind.bits, IntKind.signed]; omega
  rw [hval] at HV
  clear hval
  have HE := fun w => Lib.hid (unToN_uint16_int8 c h0 h1 w)
  unfold anyOf at HV ⊢
  go_enter Tryz.func20, Tryz.ntmps20
  go_wp2_with (first
    | (go_at_call 25; refine ((HV _).out).mono ?_; rintro e w1 ⟨rfl, hb0⟩; have hb1 : Below w.heap.size w w1 := ((Below.refl _ _).alloc (Nat.le_refl _) _).trans (hb0.mono (by simp)))
    | (go_at_call 34; refine ((HE _).out).mono ?_; rintro e w2 ⟨⟨T, q, rfl⟩, rfl⟩))
  go_quiet (fail)
  go_wp2
  go_ret2
  exact ⟨rfl, bdrew hb1 _⟩

theorem unP_uint16_int8 (c : Int) (h0 : 0 ≤ c) (h1 : c ≤ 127) (w : World) :
    Calls Tryz.prog 94 #[.iface 42 (.int .i8 c)] w fun e w' => (∃ v : Int, 0 ≤ v ∧ v ≤ 65535 ∧ v = IntKind.u16.wrap c ∧ e = .returned (.tuple #[.int .u16 v, .bool true, .bool true])) ∧ w = w' := by
  have z0 := Tryz.no_uint16 42 (by decide) (.int .i8 c)
  have z1 := Tryz.no_int 42 (by decide) (.int .i8 c)
  have z2 := Tryz.is_int8 (.int .i8 c)
  have h2 : ¬ c < 0 := by omega
  go_enter Tryz.func94, Tryz.ntmps94
  go_wp2_with (go_at_call 79; refine (indirect_any 42 _ (by decide) (by decide) _).mono ?_; rintro e w' ⟨rfl, rfl⟩)
  go_ret3
  refine ⟨⟨_, ?_, ?_, ?_, rfl⟩, rfl⟩ <;> first | rfl | omega | (simp [wrap32, IntKind.wrap, IntKind.bits, IntKind.signed]; omega) | (simp [wrap32, IntKind.wrap, IntKind.bits, IntKind.signed])

theorem unEP_uint16_int8 (c : Int) (h0 : 0 ≤ c) (h1 : c ≤ 127) (pf : Value) (w : World) :
    Calls Tryz.prog 70 #[.iface 42 (.int .i8 c), pf] w fun e w' => (∃ v : Int, 0 ≤ v ∧ v ≤ 65535 ∧ v = IntKind.u16.wrap c ∧ e = .returned (.tuple #[.int .u16 v, .nilIface])) ∧ w = w' := by
  have H := fun w => Lib.hid (unP_uint16_int8 c h0 h1 w)
  go_enter Tryz.func70, Tryz.ntmps70
  go_wp2_with (go_at_call 94; refine ((H _).out).mono ?_; rintro e w' ⟨⟨v, v0, v1, hv, rfl⟩, rfl⟩; have HVV := Lib.hid hv; clear hv)
  go_ret2
  exact ⟨⟨v, v0, v1, HVV.out, rfl⟩, rfl⟩

theorem unToP_uint16_int8 (c : Int) (h0 : 0 ≤ c) (h1 : c ≤ 127) (w : World) :
    Calls Tryz.prog 34 #[.iface 42 (.int .i8 c)] w fun e w' => (∃ v : Int, 0 ≤ v ∧ v ≤ 65535 ∧ v = IntKind.u16.wrap c ∧ e = .returned (.tuple #[.int .u16 v, .nilIface])) ∧ w = w' := by
  have hmf : ∀ (fn : Fn) (first cap : Array Value) (w : World), (Instr.makeFunc fn first cap).run Tryz.prog w = .ok (.func fn first cap) w := fun _ _ _ _ => rfl
  have H := fun pf w => Lib.hid (unEP_uint16_int8 c h0 h1 pf w)
  go_enter Tryz.func34, Tryz.ntmps34
  go_wp2_with (go_at_call 70; refine ((H _ _).out).mono ?_; rintro e w' ⟨⟨v, v0, v1, hv, rfl⟩, rfl⟩; have HVV := Lib.hid hv; clear hv)
  go_ret2
  exact ⟨⟨v, v0, v1, HVV.out, rfl⟩, rfl⟩

theorem doorP_uint16_int8 (c : Int) (h0 : 0 ≤ c) (h1 : c ≤ 127) (w : World) :
    Calls Tryz.prog 20 #[anyOf 3 c 0 0 ⟨#[]⟩] w fun e w' => (∃ v : Int, v = IntKind.u16.wrap c ∧ e = .returned (.tuple #[.int .u64 v, .bool true])) ∧ Below w.heap.size w w' := by
  have HV := fun w => Lib.hid (value_int8 c 0 0 ⟨#[]⟩ w (by omega) (by omega))
  have hval : (IntKind.i8.wrap c) = c := by simp [wrap32, IntKind.wrap, IntKind.bits, IntKind.signed]; omega
  rw [hval] at HV
  clear hval
  have HE := fun w => Lib.hid (unToP_uint16_int8 c h0 h1 w)
  unfold anyOf at HV ⊢
  go_enter Tryz.func20, Tryz.ntmps20
  go_wp2_with (first
    | (go_at_call 25; refine ((HV _).out).mono ?_; rintro e w1 ⟨rfl, hb0⟩; have hb1 : Below w.heap.size w w1 := ((Below.refl _ _).alloc (Nat.le_refl _) _).trans (hb0.mono (by simp)))
    | (go_at_call 34; refine ((HE _).out).mono ?_; rintro e w2 ⟨⟨v, v0, v1, hv, rfl⟩, rfl⟩; have HVV := Lib.hid hv; clear hv))
  go_quiet (fail)
  go_wp2
  go_ret2
  exact ⟨⟨_, HVV.out, rfl⟩, bdrew hb1 _⟩

theorem unN_uint16_int16 (c : Int) (h0 : -32768 ≤ c) (h1 : c < 0) (w : World) :
    Calls Tryz.prog 94 #[.iface 43 (.int .i16 c)] w fun e w' => e = .returned (.tuple #[.int .u16 0, .bool false, .bool false]) ∧ w = w' := by
  have z0 := Tryz.no_uint16 43 (by decide) (.int .i16 c)
  have z1 := Tryz.no_int 43 (by decide) (.int .i16 c)
  have z2 := Tryz.no_int8 43 (by decide) (.int .i16 c)
  have z3 := Tryz.is_int16 (.int .i16 c)
  have h2 : ¬ 0 ≤ c := by omega
  go_enter Tryz.func94, Tryz.ntmps94
  go_wp2_with (go_at_call 79; refine (indirect_any 43 _ (by decide) (by decide) _).mono ?_; rintro e w' ⟨rfl, rfl⟩)
  go_ret3
  exact ⟨rfl, rfl⟩

theorem unEN_uint16_int16 (c : Int) (h0 : -32768 ≤ c) (h1 : c < 0) (pf : Value) (w : World) :
    Calls Tryz.prog 70 #[.iface 43 (.int .i16 c), pf] w fun e w' => (∃ T q, e = .returned (.tuple #[.int .u16 0, .iface T q])) ∧ w = w' := by
  have H := fun w => Lib.hid (unN_uint16_int16 c h0 h1 w)
  go_enter Tryz.func70, Tryz.ntmps70
  go_wp2_with (first
    | (go_at_call 94; refine ((H _).out).mono ?_; rintro e w' ⟨rfl, rfl⟩)
    | (go_at_call 79; refine (indirect_any 43 _ (by decide) (by decide) _).mono ?_; rintro e w' ⟨rfl, rfl⟩))
  go_ret2
  exact ⟨⟨_, _, rfl⟩, rfl⟩

theorem unToN_uint16_int16 (c : Int) (h0 : -32768 ≤ c) (h1 : c < 0) (w : World) :
    Calls Tryz.prog 34 #[.iface 43 (.int .i16 c)] w fun e w' => (∃ T q, e = .returned (.tuple #[.int .u16 0, .iface T q])) ∧ w = w' := by
  have hmf : ∀ (fn : Fn) (first cap : Array Value) (w : World), (Instr.makeFunc fn first cap).run Tryz.prog w = .ok (.func fn first cap) w := fun _ _ _ _ => rfl
  have H := fun pf w => Lib.hid (unEN_uint16_int16 c h0 h1 pf w)
  go_enter Tryz.func34, Tryz.ntmps34
  go_wp2_with (go_at_call 70; refine ((H _ _).out).mono ?_; rintro e w' ⟨⟨T, q, rfl⟩, rfl⟩)
  go_ret2
  exact ⟨⟨_, _, rfl⟩, rfl⟩

theorem doorN_uint16_int16 (c : Int) (h0 : -32768 ≤ c) (h1 : c < 0) (w : World) :
    Calls Tryz.prog 20 #[anyOf 4 c 0 0 ⟨#[]⟩] w fun e w' => (e = .returned (.tuple #[.int .u64 0, .bool false])) ∧ Below w.heap.size w w' := by
  have HV := fun w => Lib.hid (value_int16 c 0 0 ⟨#[]⟩ w (by omega) (by omega))
  have hval : (IntKind.i16.wrap c) = c := by simp [wrap32, IntKind.wrap, IntKind.bits, IntKind.signed]; omega
  rw [hval] at HV
  clear hval
  have HE := fun w => Lib.hid (unToN_uint16_int16 c h0 h1 w)
  unfold anyOf at HV ⊢
  go_enter Tryz.func20, Tryz.ntmps20
  go_wp2_with (first
    | (go_at_call 25; refine ((HV _).out).mono ?_; rintro e w1 ⟨rfl, hb0⟩; have hb1 : Below w.heap.size w w1 := ((Below.refl _ _).alloc (Nat.le_refl _) _).trans (hb0.mono (by simp)))
    | (go_at_call 34; refine ((HE _).out).mono ?_; rintro e w2 ⟨⟨T, q, rfl⟩, rfl⟩))
  go_quiet (fail)
  go_wp2
  go_ret2
  exact ⟨rfl, bdrew hb1 _⟩

theorem unP_uint16_int16 (c : Int) (h0 : 0 ≤ c) (h1 : c ≤ 32767) (w : World) :
    Calls Tryz.prog 94 #[.iface 43 (.int .i16 c)] w fun e w' => (∃ v : Int, 0 ≤ v ∧ v ≤ 65535 ∧ v = IntKind.u16.wrap c ∧ e = .returned (.tuple #[.int .u16 v, .bool true, .bool true])) ∧ w = w' := by
  have z0 := Tryz.no_uint16 43 (by decide) (.int .i16 c)
  have z1 := Tryz.no_int 43 (by decide) (.int .i16 c)
  have z2 := Tryz.no_int8 43 (by decide) (.int .i16 c)
  have z3 := Tryz.is_int16 (.int .i16 c)
  have h2 : ¬ c < 0 := by omega
  go_enter Tryz.func94, Tryz.ntmps94
  go_wp2_with (go_at_call 79; refine (indirect_any 43 _ (by decide) (by decide) _).mono ?_; rintro e w' ⟨rfl, rfl⟩)
  go_ret3
  refine ⟨⟨_, ?_, ?_, ?_, rfl⟩, rfl⟩ <;> first | rfl | omega | (simp [wrap32, IntKind.wrap, IntKind.bits, IntKind.signed]; omega) | (simp [wrap32, IntKind.wrap, IntKind.bits, IntKind.signed])

theorem unEP_uint16_int16 (c : Int) (h0 : 0 ≤ c) (h1 : c ≤ 32767) (pf : Value) (w : World) :
    Calls Tryz.prog 70 #[.iface 43 (.int .i16 c), pf] w fun e w' => (∃ v : Int, 0 ≤ v ∧ v ≤ 65535 ∧ v = IntKind.u16.wrap c ∧ e = .returned (.tuple #[.int .u16 v, .nilIface])) ∧ w = w' := by
  have H := fun w => Lib.hid (unP_uint16_int16 c h0 h1 w)
  go_enter Tryz.func70, Tryz.ntmps70
  go_wp2_with (go_at_call 94; refine ((H _).out).mono ?_; rintro e w' ⟨⟨v, v0, v1, hv, rfl⟩, rfl⟩; have HVV := Lib.hid hv; clear hv)
  go_ret2
  exact ⟨⟨v, v0, v1, HVV.out, rfl⟩, rfl⟩

theorem unToP_uint16_int16 (c : Int) (h0 : 0 ≤ c) (h1 : c ≤ 32767) (w : World) :
    Calls Tryz.prog 34 #[.iface 43 (.int .i16 c)] w fun e w' => (∃ v : Int, 0 ≤ v ∧ v ≤ 65535 ∧ v = IntKind.u16.wrap c ∧ e = .returned (.tuple #[.int .u16 v, .nilIface])) ∧ w = w' := by
  have hmf : ∀ (fn : Fn) (first cap : Array Value) (w : World), (Instr.makeFunc fn first cap).run Tryz.prog w = .ok (.func fn first cap) w := fun _ _ _ _ => rfl
  have H := fun pf w => Lib.hid (unEP_uint16_int16 c h0 h1 pf w)
  go_enter Tryz.func34, Tryz.ntmps34
  go_wp2_with (go_at_call 70; refine ((H _ _).out).mono ?_; rintro e w' ⟨⟨v, v0, v1, hv, rfl⟩, rfl⟩; have HVV := Lib.hid hv; clear hv)
  go_ret2
  exact ⟨⟨v, v0, v1, HVV.out, rfl⟩, rfl⟩

theorem doorP_uint16_int16 (c : Int) (h0 : 0 ≤ c) (h1 : c ≤ 32767) (w : World) :
    Calls Tryz.prog 20 #[anyOf 4 c 0 0 ⟨#[]⟩] w fun e w' => (∃ v : Int, v = IntKind.u16.wrap c ∧ e = .returned (.tuple #[.int .u64 v, .bool true])) ∧ Below w.heap.size w w' := by
  have HV := fun w => Lib.hid (value_int16 c 0 0 ⟨#[]⟩ w (by omega) (by omega))
  have hval : (IntKind.i16.wrap c) = c := by simp [wrap32, IntKind.wrap, IntKind.bits, IntKind.signed]; omega
  rw [hval] at HV
  clear hval
  have HE := fun w => Lib.hid (unToP_uint16_int16 c h0 h1 w)
  unfold anyOf at HV ⊢
  go_enter Tryz.func20, Tryz.ntmps20
  go_wp2_with (first
    | (go_at_call 25; refine ((HV _).out).mono ?_; rintro e w1 ⟨rfl, hb0⟩; have hb1 : Below w.heap.size w w1 := ((Below.refl _ _).alloc (Nat.le_refl _) _).trans (hb0.mono (by simp)))
    | (go_at_call 34; refine ((HE _).out).mono ?_; rintro e w2 ⟨⟨v, v0, v1, hv, rfl⟩, rfl⟩; have HVV := Lib.hid hv; clear hv))
  go_quiet (fail)
  go_wp2
  go_ret2
  exact ⟨⟨_, HVV.out, rfl⟩, bdrew hb1 _⟩

theorem unN_uint16_int32 (c : Int) (h0 : -2147483648 ≤ c) (h1 : c < 0) (w : World) :
    Calls Tryz.prog 94 #[.iface 21 (.int .i32 c)] w fun e w' => e = .returned (.tuple #[.int .u16 0, .bool false, .bool false]) ∧ w = w' := by
  have z0 := Tryz.no_uint16 21 (by decide) (.int .i32 c)
  have z1 := Tryz.no_int 21 (by decide) (.int .i32 c)
  have z2 := Tryz.no_int8 21 (by decide) (.int .i32 c)
  have z3 := Tryz.no_int16 21 (by decide) (.int .i32 c)
  have z4 := Tryz.is_int32 (.int .i32 c)
  have h2 : ¬ 0 ≤ c := by omega
  go_enter Tryz.func94, Tryz.ntmps94
  go_wp2_with (go_at_call 79; refine (indirect_any 21 _ (by decide) (by decide) _).mono ?_; rintro e w' ⟨rfl, rfl⟩)
  go_ret3
  exact ⟨rfl, rfl⟩

theorem unEN_uint16_int32 (c : Int) (h0 : -2147483648 ≤ c) (h1 : c < 0) (pf : Value) (w : World) :
    Calls Tryz.prog 70 #[.iface 21 (.int .i32 c), pf] w fun e w' => (∃ T q, e = .returned (.tuple #[.int .u16 0, .iface T q])) ∧ w = w' := by
  have H := fun w => Lib.hid (unN_uint16_int32 c h0 h1 w)
  go_enter Tryz.func70, Tryz.ntmps70
  go_wp2_with (first
    | (go_at_call 94; refine ((H _).out).mono ?_; rintro e w' ⟨rfl, rfl⟩)
    | (go_at_call 79; refine (indirect_any 21 _ (by decide) (by decide) _).mono ?_; rintro e w' ⟨rfl, rfl⟩))
  go_ret2
  exact ⟨⟨_, _, rfl⟩, rfl⟩

theorem unToN_uint16_int32 (c : Int) (h0 : -2147483648 ≤ c) (h1 : c < 0) (w : World) :
    Calls Tryz.prog 34 #[.iface 21 (.int .i32 c)] w fun e w' => (∃ T q, e = .returned (.tuple #[.int .u16 0, .iface T q])) ∧ w = w' := by
  have hmf : ∀ (fn : Fn) (first cap : Array Value) (w : World), (Instr.makeFunc fn first cap).run Tryz.prog w = .ok (.func fn first cap) w := fun _ _ _ _ => rfl
  have H := fun pf w => Lib.hid (unEN_uint16_int32 c h0 h1 pf w)
  go_enter Tryz.func34, Tryz.ntmps34
  go_wp2_with (go_at_call 70; refine ((H _ _).out).mono ?_; rintro e w' ⟨⟨T, q, rfl⟩, rfl⟩)
  go_ret2
  exact ⟨⟨_, _, rfl⟩, rfl⟩

theorem doorN_uint16_int32 (c : Int) (h0 : -2147483648 ≤ c) (h1 : c < 0) (w : World) :
    Calls Tryz.prog 20 #[anyOf 5 c 0 0 ⟨#[]⟩] w fun e w' => (e = .returned (.tuple #[.int .u64 0, .bool false])) ∧ Below w.heap.size w w' := by
  have HV := fun w => Lib.hid (value_int32 c 0 0 ⟨#[]⟩ w (by omega) (by omega))
  have hval : (wrap32 c) = c := by simp [wrap32, IntKind.wrap, IntKind.bits, IntKind.signed]; omega
  rw [hval] at HV
  clear hval
  have HE := fun w => Lib.hid (unToN_uint16_int32 c h0 h1 w)
  unfold anyOf at HV ⊢
  go_enter Tryz.func20, Tryz.ntmps20
  go_wp2_with (first
    | (go_at_call 25; refine ((HV _).out).mono ?_; rintro e w1 ⟨rfl, hb0⟩; have hb1 : Below w.heap.size w w1 := ((Below.refl _ _).alloc (Nat.le_refl _) _).trans (hb0.mono (by simp)))
    | (go_at_call 34; refine ((HE _).out).mono ?_; rintro e w2 ⟨⟨T, q, rfl⟩, rfl⟩))
  go_quiet (fail)
  go_wp2
  go_ret2
  exact ⟨rfl, bdrew hb1 _⟩

theorem unP_uint16_int32 (c : Int) (h0 : 0 ≤ c) (h1 : c ≤ 2147483647) (w : World) :
    Calls Tryz.prog 94 #[.iface 21 (.int .i32 c)] w fun e w' => (∃ v : Int, 0 ≤ v ∧ v ≤ 65535 ∧ v = IntKind.u16.wrap c ∧ e = .returned (.tuple #[.int .u16 v, .bool true, .bool true])) ∧ w = w' := by
  have z0 := Tryz.no_uint16 21 (by decide) (.int .i32 c)
  have z1 := Tryz.no_int 21 (by decide) (.int .i32 c)
  have z2 := Tryz.no_int8 21 (by decide) (.int .i32 c)
  have z3 := Tryz.no_int16 21 (by decide) (.int .i32 c)
  have z4 := Tryz.is_int32 (.int .i32 c)
  have h2 : ¬ c < 0 := by omega
  go_enter Tryz.func94, Tryz.ntmps94
  go_wp2_with (go_at_call 79; refine (indirect_any 21 _ (by decide) (by decide) _).mono ?_; rintro e w' ⟨rfl, rfl⟩)
  go_ret3
  refine ⟨⟨_, ?_, ?_, ?_, rfl⟩, rfl⟩ <;> first | rfl | omega | (simp [wrap32, IntKind.wrap, IntKind.bits, IntKind.signed]; omega) | (simp [wrap32, IntKind.wrap, IntKind.bits, IntKind.signed])

theorem unEP_uint16_int32 (c : Int) (h0 : 0 ≤ c) (h1 : c ≤ 2147483647) (pf : Value) (w : World) :
    Calls Tryz.prog 70 #[.iface 21 (.int .i32 c), pf] w fun e w' => (∃ v : Int, 0 ≤ v ∧ v ≤ 65535 ∧ v = IntKind.u16.wrap c ∧ e = .returned (.tuple #[.int .u16 v, .nilIface])) ∧ w = w' := by
  have H := fun w => Lib.hid (unP_uint16_int32 c h0 h1 w)
  go_enter Tryz.func70, Tryz.ntmps70
  go_wp2_with (go_at_call 94; refine ((H _).out).mono ?_; rintro e w' ⟨⟨v, v0, v1, hv, rfl⟩, rfl⟩; have HVV := Lib.hid hv; clear hv)
  go_ret2
  exact ⟨⟨v, v0, v1, HVV.out, rfl⟩, rfl⟩

theorem unToP_uint16_int32 (c : Int) (h0 : 0 ≤ c) (h1 : c ≤ 2147483647) (w : World) :
    Calls Tryz.prog 34 #[.iface 21 (.int .i32 c)] w fun e w' => (∃ v : Int, 0 ≤ v ∧ v ≤ 65535 ∧ v = IntKind.u16.wrap c ∧ e = .returned (.tuple #[.int .u16 v, .nilIface])) ∧ w = w' := by
  have hmf : ∀ (fn : Fn) (first cap : Array Value) (w : World), (Instr.makeFunc fn first cap).run Tryz.prog w = .ok (.func fn first cap) w := fun _ _ _ _ => rfl
  have H := fun pf w => Lib.hid (unEP_uint16_int32 c h0 h1 pf w)
  go_enter Tryz.func34, Tryz.ntmps34
  go_wp2_with (go_at_call 70; refine ((H _ _).out).mono ?_; rintro e w' ⟨⟨v, v0, v1, hv, rfl⟩, rfl⟩; have HVV := Lib.hid hv; clear hv)
  go_ret2
  exact ⟨⟨v, v0, v1, HVV.out, rfl⟩, rfl⟩

theorem doorP_uint16_int32 (c : Int) (h0 : 0 ≤ c) (h1 : c ≤ 2147483647) (w : World) :
    Calls Tryz.prog 20 #[anyOf 5 c 0 0 ⟨#[]⟩] w fun e w' => (∃ v : Int, v = IntKind.u16.wrap c ∧ e = .returned (.tuple #[.int .u64 v, .bool true])) ∧ Below w.heap.size w w' := by
  have HV := fun w => Lib.hid (value_int32 c 0 0 ⟨#[]⟩ w (by omega) (by omega))
  have hval : (wrap32 c) = c := by simp [wrap32, IntKind.wrap, IntKind.bits, IntKind.signed]; omega
  rw [hval] at HV
  clear hval
  have HE := fun w => Lib.hid (unToP_uint16_int32 c h0 h1 w)
  unfold anyOf at HV ⊢
  go_enter Tryz.func20, Tryz.ntmps20
  go_wp2_with (first
    | (go_at_call 25; refine ((HV _).out).mono ?_; rintro e w1 ⟨rfl, hb0⟩; have hb1 : Below w.heap.size w w1 := ((Below.refl _ _).alloc (Nat.le_refl _) _).trans (hb0.mono (by simp)))
    | (go_at_call 34; refine ((HE _).out).mono ?_; rintro e w2 ⟨⟨v, v0, v1, hv, rfl⟩, rfl⟩; have HVV := Lib.hid hv; clear hv))
  go_quiet (fail)
  go_wp2
  go_ret2
  exact ⟨⟨_, HVV.out, rfl⟩, bdrew hb1 _⟩

theorem unN_uint16_int64 (c : Int) (h0 : -9223372036854775808 ≤ c) (h1 : c < 0) (w : World) :
    Calls Tryz.prog 94 #[.iface 2 (.int .i64 c)] w fun e w' => e = .returned (.tuple #[.int .u16 0, .bool false, .bool false]) ∧ w = w' := by
  have z0 := Tryz.no_uint16 2 (by decide) (.int .i64 c)
  have z1 := Tryz.no_int 2 (by decide) (.int .i64 c)
  have z2 := Tryz.no_int8 2 (by decide) (.int .i64 c)
  have z3 := Tryz.no_int16 2 (by decide) (.int .i64 c)
  have z4 := Tryz.no_int32 2 (by decide) (.int .i64 c)
  have z5 := Tryz.is_int64 (.int .i64 c)
  have h2 : ¬ 0 ≤ c := by omega
  go_enter Tryz.func94, Tryz.ntmps94
  go_wp2_with (go_at_call 79; refine (indirect_any 2 _ (by decide) (by decide) _).mono ?_; rintro e w' ⟨rfl, rfl⟩)
  go_ret3
  exact ⟨rfl, rfl⟩

theorem unEN_uint16_int64 (c : Int) (h0 : -9223372036854775808 ≤ c) (h1 : c < 0) (pf : Value) (w : World) :
    Calls Tryz.prog 70 #[.iface 2 (.int .i64 c), pf] w fun e w' => (∃ T q, e = .returned (.tuple #[.int .u16 0, .iface T q])) ∧ w = w' := by
  have H := fun w => Lib.hid (unN_uint16_int64 c h0 h1 w)
  go_enter Tryz.func70, Tryz.ntmps70
  go_wp2_with (first
    | (go_at_call 94; refine ((H _).out).mono ?_; rintro e w' ⟨rfl, rfl⟩)
    | (go_at_call 79; refine (indirect_any 2 _ (by decide) (by decide) _).mono ?_; rintro e w' ⟨rfl, rfl⟩))
  go_ret2
  exact ⟨⟨_, _, rfl⟩, rfl⟩

theorem unToN_uint16_int64 (c : Int) (h0 : -9223372036854775808 ≤ c) (h1 : c < 0) (w : World) :
    Calls Tryz.prog 34 #[.iface 2 (.int .i64 c)] w fun e w' => (∃ T q, e = .returned (.tuple #[.int .u16 0, .iface T q])) ∧ w = w' := by
  have hmf : ∀ (fn : Fn) (first cap : Array Value) (w : World), (Instr.makeFunc fn first cap).run Tryz.prog w = .ok (.func fn first cap) w := fun _ _ _ _ => rfl
  have H := fun pf w => Lib.hid (unEN_uint16_int64 c h0 h1 pf w)
  go_enter Tryz.func34, Tryz.ntmps34
  go_wp2_with (go_at_call 70; refine ((H _ _).out).mono ?_; rintro e w' ⟨⟨T, q, rfl⟩, rfl⟩)
  go_ret2
  exact ⟨⟨_, _, rfl⟩, rfl⟩

theorem doorN_uint16_int64 (c : Int) (h0 : -9223372036854775808 ≤ c) (h1 : c < 0) (w : World) :
    Calls Tryz.prog 20 #[anyOf 6 c 0 0 ⟨#[]⟩] w fun e w' => (e = .returned (.tuple #[.int .u64 0, .bool false])) ∧ Below w.heap.size w w' := by
  have HV := fun w => Lib.hid (value_int64 c 0 0 ⟨#[]⟩ w (by omega) (by omega))
  have HE := fun w => Lib.hid (unToN_uint16_int64 c h0 h1 w)
  unfold anyOf at HV ⊢
  go_enter Tryz.func20, Tryz.ntmps20
  go_wp2_with (first
    | (go_at_call 25; refine ((HV _).out).mono ?_; rintro e w1 ⟨rfl, hb0⟩; have hb1 : Below w.heap.size w w1 := ((Below.refl _ _).alloc (Nat.le_refl _) _).trans (hb0.mono (by simp)))
    | (go_at_call 34; refine ((HE _).out).mono ?_; rintro e w2 ⟨⟨T, q, rfl⟩, rfl⟩))
  go_quiet (fail)
  go_wp2
  go_ret2
  exact ⟨rfl, bdrew hb1 _⟩

theorem unP_uint16_int64 (c : Int) (h0 : 0 ≤ c) (h1 : c ≤ 9223372036854775807) (w : World) :
    Calls Tryz.prog 94 #[.iface 2 (.int .i64 c)] w fun e w' => (∃ v : Int, 0 ≤ v ∧ v ≤ 65535 ∧ v = IntKind.u16.wrap c ∧ e = .returned (.tuple #[.int .u16 v, .bool true, .bool true])) ∧ w = w' := by
  have z0 := Tryz.no_uint16 2 (by decide) (.int .i64 c)
  have z1 := Tryz.no_int 2 (by decide) (.int .i64 c)
  have z2 := Tryz.no_int8 2 (by decide) (.int .i64 c)
  have z3 := Tryz.no_int16 2 (by decide) (.int .i64 c)
  have z4 := Tryz.no_int32 2 (by decide) (.int .i64 c)
  have z5 := Tryz.is_int64 (.int .i64 c)
  have h2 : ¬ c < 0 := by omega
  go_enter Tryz.func94, Tryz.ntmps94
  go_wp2_with (go_at_call 79; refine (indirect_any 2 _ (by decide) (by decide) _).mono ?_; rintro e w' ⟨rfl, rfl⟩)
  go_ret3
  refine ⟨⟨_, ?_, ?_, ?_, rfl⟩, rfl⟩ <;> first | rfl | omega | (simp [wrap32, IntKind.wrap, IntKind.bits, IntKind.signed]; omega) | (simp [wrap32, IntKind.wrap, IntKind.bits, IntKind.signed])

theorem unEP_uint16_int64 (c : Int) (h0 : 0 ≤ c) (h1 : c ≤ 9223372036854775807) (pf : Value) (w : World) :
    Calls Tryz.prog 70 #[.iface 2 (.int .i64 c), pf] w fun e w' => (∃ v : Int, 0 ≤ v ∧ v ≤ 65535 ∧ v = IntKind.u16.wrap c ∧ e = .returned (.tuple #[.int .u16 v, .nilIface])) ∧ w = w' := by
  have H := fun w => Lib.hid (unP_uint16_int64 c h0 h1 w)
  go_enter Tryz.func70, Tryz.ntmps70
  go_wp2_with (go_at_call 94; refine ((H _).out).mono ?_; rintro e w' ⟨⟨v, v0, v1, hv, rfl⟩, rfl⟩; have HVV := Lib.hid hv; clear hv)
  go_ret2
  exact ⟨⟨v, v0, v1, HVV.out, rfl⟩, rfl⟩

theorem unToP_uint16_int64 (c : Int) (h0 : 0 ≤ c) (h1 : c ≤ 9223372036854775807) (w : World) :
    Calls Tryz.prog 34 #[.iface 2 (.int .i64 c)] w fun e w' => (∃ v : Int, 0 ≤ v ∧ v ≤ 65535 ∧ v = IntKind.u16.wrap c ∧ e = .returned (.tuple #[.int .u16 v, .nilIface])) ∧ w = w' := by
  have hmf : ∀ (fn : Fn) (first cap : Array Value) (w : World), (Instr.makeFunc fn first cap).run Tryz.prog w = .ok (.func fn first cap) w := fun _ _ _ _ => rfl
  have H := fun pf w => Lib.hid (unEP_uint16_int64 c h0 h1 pf w)
  go_enter Tryz.func34, Tryz.ntmps34
  go_wp2_with (go_at_call 70; refine ((H _ _).out).mono ?_; rintro e w' ⟨⟨v, v0, v1, hv, rfl⟩, rfl⟩; have HVV := Lib.hid hv; clear hv)
  go_ret2
  exact ⟨⟨v, v0, v1, HVV.out, rfl⟩, rfl⟩

theorem doorP_uint16_int64 (c : Int) (h0 : 0 ≤ c) (h1 : c ≤ 9223372036854775807) (w : World) :
    Calls Tryz.prog 20 #[anyOf 6 c 0 0 ⟨#[]⟩] w fun e w' => (∃ v : Int, v = IntKind.u16.wrap c ∧ e = .returned (.tuple #[.int .u64 v, .bool true])) ∧ Below w.heap.size w w' := by
  have HV := fun w => Lib.hid (value_int64 c 0 0 ⟨#[]⟩ w (by omega) (by omega))
  have HE := fun w => Lib.hid (unToP_uint16_int64 c h0 h1 w)
  unfold anyOf at HV ⊢
  go_enter Tryz.func20, Tryz.ntmps20
  go_wp2_with (first
    | (go_at_call 25; refine ((HV _).out).mono ?_; rintro e w1 ⟨rfl, hb0⟩; have hb1 : Below w.heap.size w w1 := ((Below.refl _ _).alloc (Nat.le_refl _) _).trans (hb0.mono (by simp)))
    | (go_at_call 34; refine ((HE _).out).mono ?_; rintro e w2 ⟨⟨v, v0, v1, hv, rfl⟩, rfl⟩; have HVV := Lib.hid hv; clear hv))
  go_quiet (fail)
  go_wp2
  go_ret2
  exact ⟨⟨_, HVV.out, rfl⟩, bdrew hb1 _⟩

theorem unN_uint32_int (c : Int) (h0 : -9223372036854775808 ≤ c) (h1 : c < 0) (w : World) :
    Calls Tryz.prog 95 #[.iface 3 (.int .i64 c)] w fun e w' => e = .returned (.tuple #[.int .u32 0, .bool false, .bool false]) ∧ w = w' := by
  have z0 := Tryz.no_uint32 3 (by decide) (.int .i64 c)
  have z1 := Tryz.is_int (.int .i64 c)
  have h2 : ¬ 0 ≤ c := by omega
  go_enter Tryz.func95, Tryz.ntmps95
  go_wp2_with (go_at_call 79; refine (indirect_any 3 _ (by decide) (by decide) _).mono ?_; rintro e w' ⟨rfl, rfl⟩)
  go_ret3
  exact ⟨rfl, rfl⟩

theorem unEN_uint32_int (c : Int) (h0 : -9223372036854775808 ≤ c) (h1 : c < 0) (pf : Value) (w : World) :
    Calls Tryz.prog 72 #[.iface 3 (.int .i64 c), pf] w fun e w' => (∃ T q, e = .returned (.tuple #[.int .u32 0, .iface T q])) ∧ w = w' := by
  have H := fun w => Lib.hid (unN_uint32_int c h0 h1 w)
  go_enter Tryz.func72, Tryz.ntmps72
  go_wp2_with (first
    | (go_at_call 95; refine ((H _).out).mono ?_; rintro e w' ⟨rfl, rfl⟩)
    | (go_at_call 79; refine (indirect_any 3 _ (by decide) (by decide) _).mono ?_; rintro e w' ⟨rfl, rfl⟩))
  go_ret2
  exact ⟨⟨_, _, rfl⟩, rfl⟩

theorem unToN_uint32_int (c : Int) (h0 : -9223372036854775808 ≤ c) (h1 : c < 0) (w : World) :
    Calls Tryz.prog 35 #[.iface 3 (.int .i64 c)] w fun e w' => (∃ T q, e = .returned (.tuple #[.int .u32 0, .iface T q])) ∧ w = w' := by
  have hmf : ∀ (fn : Fn) (first cap : Array Value) (w : World), (Instr.makeFunc fn first cap).run Tryz.prog w = .ok (.func fn first cap) w := fun _ _ _ _ => rfl
  have H := fun pf w => Lib.hid (unEN_uint32_int c h0 h1 pf w)
  go_enter Tryz.func35, Tryz.ntmps35
  go_wp2_with (go_at_call 72; refine ((H _ _).out).mono ?_; rintro e w' ⟨⟨T, q, rfl⟩, rfl⟩)
  go_ret2
  exact ⟨⟨_, _, rfl⟩, rfl⟩

theorem doorN_uint32_int (c : Int) (h0 : -9223372036854775808 ≤ c) (h1 : c < 0) (w : World) :
    Calls Tryz.prog 21 #[anyOf 2 c 0 0 ⟨#[]⟩] w fun e w' => (e = .returned (.tuple #[.int .u64 0, .bool false])) ∧ Below w.heap.size w w' := by
  have HV := fun w => Lib.hid (value_int c 0 0 ⟨#[]⟩ w (by omega) (by omega))
  have HE := fun w => Lib.hid (unToN_uint32_int c h0 h1 w)
  unfold anyOf at HV ⊢
  go_enter Tryz.func21, Tryz.ntmps21
  go_wp2_with (first
    | (go_at_call 25; refine ((HV _).out).mono ?_; rintro e w1 ⟨rfl, hb0⟩; have hb1 : Below w.heap.size w w1 := ((Below.refl _ _).alloc (Nat.le_refl _) _).trans (hb0.mono (by simp)))
    | (go_at_call 35; refine ((HE _).out).mono ?_; rintro e w2 ⟨⟨T, q, rfl⟩, rfl⟩))
  go_quiet (fail)
  go_wp2
  go_ret2
  exact ⟨rfl, bdrew hb1 _⟩

theorem unP_uint32_int (c : Int) (h0 : 0 ≤ c) (h1 : c ≤ 9223372036854775807) (w : World) :
    Calls Tryz.prog 95 #[.iface 3 (.int .i64 c)] w fun e w' => (∃ v : Int, 0 ≤ v ∧ v ≤ 4294967295 ∧ v = IntKind.u32.wrap c ∧ e = .returned (.tuple #[.int .u32 v, .bool true, .bool true])) ∧ w = w' := by
  have z0 := Tryz.no_uint32 3 (by decide) (.int .i64 c)
  have z1 := Tryz.is_int (.int .i64 c)
  have h2 : ¬ c < 0 := by omega
  go_enter Tryz.func95, Tryz.ntmps95
  go_wp2_with (go_at_call 79; refine (indirect_any 3 _ (by decide) (by decide) _).mono ?_; rintro e w' ⟨rfl, rfl⟩)
  go_ret3
  refine ⟨⟨_, ?_, ?_, ?_, rfl⟩, rfl⟩ <;> first | rfl | omega | (simp [wrap32, IntKind.wrap, IntKind.bits, IntKind.signed]; omega) | (simp [wrap32, IntKind.wrap, IntKind.bits, IntKind.signed])

theorem unEP_uint32_int (c : Int) (h0 : 0 ≤ c) (h1 : c ≤ 9223372036854775807) (pf : Value) (w : World) :
    Calls Tryz.prog 72 #[.iface 3 (.int .i64 c), pf] w fun e w' => (∃ v : Int, 0 ≤ v ∧ v ≤ 4294967295 ∧ v = IntKind.u32.wrap c ∧ e = .returned (.tuple #[.int .u32 v, .nilIface])) ∧ w = w' := by
  have H := fun w => Lib.hid (unP_uint32_int c h0 h1 w)
  go_enter Tryz.func72, Tryz.ntmps72
  go_wp2_with (go_at_call 95; refine ((H _).out).mono ?_; rintro e w' ⟨⟨v, v0, v1, hv, rfl⟩, rfl⟩; have HVV := Lib.hid hv; clear hv)
  go_ret2
  exact ⟨⟨v, v0, v1, HVV.out, rfl⟩, rfl⟩

theorem unToP_uint32_int (c : Int) (h0 : 0 ≤ c) (h1 : c ≤ 9223372036854775807) (w : World) :
    Calls Tryz.prog 35 #[.iface 3 (.int .i64 c)] w fun e w' => (∃ v : Int, 0 ≤ v ∧ v ≤ 4294967295 ∧ v = IntKind.u32.wrap c ∧ e = .returned (.tuple #[.int .u32 v, .nilIface])) ∧ w = w' := by
  have hmf : ∀ (fn : Fn) (first cap : Array Value) (w : World), (Instr.makeFunc fn first cap).run Tryz.prog w = .ok (.func fn first cap) w := fun _ _ _ _ => rfl
  have H := fun pf w => Lib.hid (unEP_uint32_int c h0 h1 pf w)
  go_enter Tryz.func35, Tryz.ntmps35
  go_wp2_with (go_at_call 72; refine ((H _ _).out).mono ?_; rintro e w' ⟨⟨v, v0, v1, hv, rfl⟩, rfl⟩; have HVV := Lib.hid hv; clear hv)
  go_ret2
  exact ⟨⟨v, v0, v1, HVV.out, rfl⟩, rfl⟩

theorem doorP_uint32_int (c : Int) (h0 : 0 ≤ c) (h1 : c ≤ 9223372036854775807) (w : World) :
    Calls Tryz.prog 21 #[anyOf 2 c 0 0 ⟨#[]⟩] w fun e w' => (∃ v : Int, v = IntKind.u32.wrap c ∧ e = .returned (.tuple #[.int .u64 v, .bool true])) ∧ Below w.heap.size w w' := by
  have HV := fun w => Lib.hid (value_int c 0 0 ⟨#[]⟩ w (by omega) (by omega))
  have HE := fun w => Lib.hid (unToP_uint32_int c h0 h1 w)
  unfold anyOf at HV ⊢
  go_enter Tryz.func21, Tryz.ntmps21
  go_wp2_with (first
    | (go_at_call 25; refine ((HV _).out).mono ?_; rintro e w1 ⟨rfl, hb0⟩; have hb1 : Below w.heap.size w w1 := ((Below.refl _ _).alloc (Nat.le_refl _) _).trans (hb0.mono (by simp)))
    | (go_at_call 35; refine ((HE _).out).mono ?_; rintro e w2 ⟨⟨v, v0, v1, hv, rfl⟩, rfl⟩; have HVV := Lib.hid hv; clear hv))
  go_quiet (fail)
  go_wp2
  go_ret2
  exact ⟨⟨_, HVV.out, rfl⟩, bdrew hb1 _⟩

theorem unN_uint32_int8 (c : Int) (h0 : -128 ≤ c) (h1 : c < 0) (w : World) :
    Calls Tryz.prog 95 #[.iface 42 (.int .i8 c)] w fun e w' => e = .returned (.tuple #[.int .u32 0, .bool false, .bool false]) ∧ w = w' := by
  have z0 := Tryz.no_uint32 42 (by decide) (.int .i8 c)
  have z1 := Tryz.no_int 42 (by decide) (.int .i8 c)
  have z2 := Tryz.is_int8 (.int .i8 c)
  have h2 : ¬ 0 ≤ c := by omega
  go_enter Tryz.func95, Tryz.ntmps95
  go_wp2_with (go_at_call 79; refine (indirect_any 42 _ (by decide) (by decide) _).mono ?_; rintro e w' ⟨rfl, rfl⟩)
  go_ret3
  exact ⟨rfl, rfl⟩

theorem unEN_uint32_int8 (c : Int) (h0 : -128 ≤ c) (h1 : c < 0) (pf : Value) (w : World) :
    Calls Tryz.prog 72 #[.iface 42 (.int .i8 c), pf] w fun e w' => (∃ T q, e = .returned (.tuple #[.int .u32 0, .iface T q])) ∧ w = w' := by
  have H := fun w => Lib.hid (unN_uint32_int8 c h0 h1 w)
  go_enter Tryz.func72, Tryz.ntmps72
  go_wp2_with (first
    | (go_at_call 95; refine ((H _).out).mono ?_; rintro e w' ⟨rfl, rfl⟩)
    | (go_at_call 79; refine (indirect_any 42 _ (by decide) (by decide) _).mono ?_; rintro e w' ⟨rfl, rfl⟩))
  go_ret2
  exact ⟨⟨_, _, rfl⟩, rfl⟩

theorem unToN_uint32_int8 (c : Int) (h0 : -128 ≤ c) (h1 : c < 0) (w : World) :
    Calls Tryz.prog 35 #[.iface 42 (.int .i8 c)] w fun e w' => (∃ T q, e = .returned (.tuple #[.int .u32 0, .iface T q])) ∧ w = w' := by
  have hmf : ∀ (fn : Fn) (first cap : Array Value) (w : World), (Instr.makeFunc fn first cap).run Tryz.prog w = .ok (.func fn first cap) w := fun _ _ _ _ => rfl
  have H := fun pf w => Lib.hid (unEN_uint32_int8 c h0 h1 pf w)
  go_enter Tryz.func35, Tryz.ntmps35
  go_wp2_with (go_at_call 72; refine ((H _ _).out).mono ?_; rintro e w' ⟨⟨T, q, rfl⟩, rfl⟩)
  go_ret2
  exact ⟨⟨_, _, rfl⟩, rfl⟩

theorem doorN_uint32_int8 (c : Int) (h0 : -128 ≤ c) (h1 : c < 0) (w : World) :
    Calls Tryz.prog 21 #[anyOf 3 c 0 0 ⟨#[]⟩] w fun e w' => (e = .returned (.tuple #[.int .u64 0, .bool false])) ∧ Below w.heap.size w w' := by
  have HV := fun w => Lib.hid (value_int8 c 0 0 ⟨#[]⟩ w (by omega) (by omega))
  have hval : (IntKind.i8.wrap c) = c := by simp [wrap32, IntKind.wrap, IntKind.bits, IntKind.signed]; omega
  rw [hval] at HV
  clear hval
  have HE := fun w => Lib.hid (unToN_uint32_int8 c h0 h1 w)
  unfold anyOf at HV ⊢
  go_enter Tryz.func21, Tryz.ntmps21
  go_wp2_with (first
    | (go_at_call 25; refine ((HV _).out).mono ?_; rintro e w1 ⟨rfl, hb0⟩; have hb1 : Below w.heap.size w w1 := ((Below.refl _ _).alloc (Nat.le_refl _) _).trans (hb0.mono (by simp)))
    | (go_at_call 35; refine ((HE _).out).mono ?_; rintro e w2 ⟨⟨T, q, rfl⟩, rfl⟩))
  go_quiet (fail)
  go_wp2
  go_ret2
  exact ⟨rfl, bdrew hb1 _⟩

theorem unP_uint32_int8 (c : Int) (h0 : 0 ≤ c) (h1 : c ≤ 127) (w : World) :
    Calls Tryz.prog 95 #[.iface 42 (.int .i8 c)] w fun e w' => (∃ v : Int, 0 ≤ v ∧ v ≤ 4294967295 ∧ v = IntKind.u32.wrap c ∧ e = .returned (.tuple #[.int .u32 v, .bool true, .bool true])) ∧ w = w' := by
  have z0 := Tryz.no_uint32 42 (by decide) (.int .i8 c)
  have z1 := Tryz.no_int 42 (by decide) (.int .i8 c)
  have z2 := Tryz.is_int8 (.int .i8 c)
  have h2 : ¬ c < 0 := by omega
  go_enter Tryz.func95, Tryz.ntmps95
  go_wp2_with (go_at_call 79; refine (indirect_any 42 _ (by decide) (by decide) _).mono ?_; rintro e w' ⟨rfl, rfl⟩)
  go_ret3
  refine ⟨⟨_, ?_, ?_, ?_, rfl⟩, rfl⟩ <;> first | rfl | omega | (simp [wrap32, IntKind.wrap, IntKind.bits, IntKind.signed]; omega) | (simp [wrap32, IntKind.wrap, IntKind.bits, IntKind.signed])

theorem unEP_uint32_int8 (c : Int) (h0 : 0 ≤ c) (h1 : c ≤ 127) (pf : Value) (w : World) :
    Calls Tryz.prog 72 #[.iface 42 (.int .i8 c), pf] w fun e w' => (∃ v : Int, 0 ≤ v ∧ v ≤ 4294967295 ∧ v = IntKind.u32.wrap c ∧ e = .returned (.tuple #[.int .u32 v, .nilIface])) ∧ w = w' := by
  have H := fun w => Lib.hid (unP_uint32_int8 c h0 h1 w)
  go_enter Tryz.func72, Tryz.ntmps72
  go_wp2_with (go_at_call 95; refine ((H _).out).mono ?_; rintro e w' ⟨⟨v, v0, v1, hv, rfl⟩, rfl⟩; have HVV := Lib.hid hv; clear hv)
  go_ret2
  exact ⟨⟨v, v0, v1, HVV.out, rfl⟩, rfl⟩

theorem unToP_uint32_int8 (c : Int) (h0 : 0 ≤ c) (h1 : c ≤ 127) (w : World) :
    Calls Tryz.prog 35 #[.iface 42 (.int .i8 c)] w fun e w' => (∃ v : Int, 0 ≤ v ∧ v ≤ 4294967295 ∧ v = IntKind.u32.wrap c ∧ e = .returned (.tuple #[.int .u32 v, .nilIface])) ∧ w = w' := by
  have hmf : ∀ (fn : Fn) (first cap : Array Value) (w : World), (Instr.makeFunc fn first cap).run Tryz.prog w = .ok (.func fn first cap) w := fun _ _ _ _ => rfl
  have H := fun pf w => Lib.hid (unEP_uint32_int8 c h0 h1 pf w)
  go_enter Tryz.func35, Tryz.ntmps35
  go_wp2_with (go_at_call 72; refine ((H _ _).out).mono ?_; rintro e w' ⟨⟨v, v0, v1, hv, rfl⟩, rfl⟩; have HVV := Lib.hid hv; clear hv)
  go_ret2
  exact ⟨⟨v, v0, v1, HVV.out, rfl⟩, rfl⟩

theorem doorP_uint32_int8 (c : Int) (h0 : 0 ≤ c) (h1 : c ≤ 127) (w : World) :
    Calls Tryz.prog 21 #[anyOf 3 c 0 0 ⟨#[]⟩] w fun e w' => (∃ v : Int, v = IntKind.u32.wrap c ∧ e = .returned (.tuple #[.int .u64 v, .bool true])) ∧ Below w.heap.size w w' := by
  have HV := fun w => Lib.hid (value_int8 c 0 0 ⟨#[]⟩ w (by omega) (by omega))
  have hval : (IntKind.i8.wrap c) = c := by simp [wrap32, IntKind.wrap, IntKind.bits, IntKind.signed]; omega
  rw [hval] at HV
  clear hval
  have HE := fun w => Lib.hid (unToP_uint32_int8 c h0 h1 w)
  unfold anyOf at HV ⊢
  go_enter Tryz.func21, Tryz.ntmps21
  go_wp2_with (first
    | (go_at_call 25; refine ((HV _).out).mono ?_; rintro e w1 ⟨rfl, hb0⟩; have hb1 : Below w.heap.size w w1 := ((Below.refl _ _).alloc (Nat.le_refl _) _).trans (hb0.mono (by simp)))
    | (go_at_call 35; refine ((HE _).out).mono ?_; rintro e w2 ⟨⟨v, v0, v1, hv, rfl⟩, rfl⟩; have HVV := Lib.hid hv; clear hv))
  go_quiet (fail)
  go_wp2
  go_ret2
  exact ⟨⟨_, HVV.out, rfl⟩, bdrew hb1 _⟩

theorem unN_uint32_int16 (c : Int) (h0 : -32768 ≤ c) (h1 : c < 0) (w : World) :
    Calls Tryz.prog 95 #[.iface 43 (.int .i16 c)] w fun e w' => e = .returned (.tuple #[.int .u32 0, .bool false, .bool false]) ∧ w = w' := by
  have z0 := Tryz.no_uint32 43 (by decide) (.int .i16 c)
  have z1 := Tryz.no_int 43 (by decide) (.int .i16 c)
  have z2 := Tryz.no_int8 43 (by decide) (.int .i16 c)
  have z3 := Tryz.is_int16 (.int .i16 c)
  have h2 : ¬ 0 ≤ c := by omega
  go_enter Tryz.func95, Tryz.ntmps95
  go_wp2_with (go_at_call 79; refine (indirect_any 43 _ (by decide) (by decide) _).mono ?_; rintro e w' ⟨rfl, rfl⟩)
  go_ret3
  exact ⟨rfl, rfl⟩

theorem unEN_uint32_int16 (c : Int) (h0 : -32768 ≤ c) (h1 : c < 0) (pf : Value) (w : World) :
    Calls Tryz.prog 72 #[.iface 43 (.int .i16 c), pf] w fun e w' => (∃ T q, e = .returned (.tuple #[.int .u32 0, .iface T q])) ∧ w = w' := by
  have H := fun w => Lib.hid (unN_uint32_int16 c h0 h1 w)
  go_enter Tryz.func72, Tryz.ntmps72
  go_wp2_with (first
    | (go_at_call 95; refine ((H _).out).mono ?_; rintro e w' ⟨rfl, rfl⟩)
    | (go_at_call 79; refine (indirect_any 43 _ (by decide) (by decide) _).mono ?_; rintro e w' ⟨rfl, rfl⟩))
  go_ret2
  exact ⟨⟨_, _, rfl⟩, rfl⟩

theorem unToN_uint32_int16 (c : Int) (h0 : -32768 ≤ c) (h1 : c < 0) (w : World) :
    Calls Tryz.prog 35 #[.iface 43 (.int .i16 c)] w fun e w' => (∃ T q, e = .returned (.tuple #[.int .u32 0, .iface T q])) ∧ w = w' := by
  have hmf : ∀ (fn : Fn) (first cap : Array Value) (w : World), (Instr.makeFunc fn first cap).run Tryz.prog w = .ok (.func fn first cap) w := fun _ _ _ _ => rfl
  have H := fun pf w => Lib.hid (unEN_uint32_int16 c h0 h1 pf w)
  go_enter Tryz.func35, Tryz.ntmps35
  go_wp2_with (go_at_call 72; refine ((H _ _).out).mono ?_; rintro e w' ⟨⟨T, q, rfl⟩, rfl⟩)
  go_ret2
  exact ⟨⟨_, _, rfl⟩, rfl⟩

theorem doorN_uint32_int16 (c : Int) (h0 : -32768 ≤ c) (h1 : c < 0) (w : World) :
    Calls Tryz.prog 21 #[anyOf 4 c 0 0 ⟨#[]⟩] w fun e w' => (e = .returned (.tuple #[.int .u64 0, .bool false])) ∧ Below w.heap.size w w' := by
  have HV := fun w => Lib.hid (value_int16 c 0 0 ⟨#[]⟩ w (by omega) (by omega))
  have hval : (IntKind.i16.wrap c) = c := by simp [wrap32, IntKind.wrap, IntKind.bits, IntKind.signed]; omega
  rw [hval] at HV
  clear hval
  have HE := fun w => Lib.hid (unToN_uint32_int16 c h0 h1 w)
  unfold anyOf at HV ⊢
  go_enter Tryz.func21, Tryz.ntmps21
  go_wp2_with (first
    | (go_at_call 25; refine ((HV _).out).mono ?_; rintro e w1 ⟨rfl, hb0⟩; have hb1 : Below w.heap.size w w1 := ((Below.refl _ _).alloc (Nat.le_refl _) _).trans (hb0.mono (by simp)))
    | (go_at_call 35; refine ((HE _).out).mono ?_; rintro e w2 ⟨⟨T, q, rfl⟩, rfl⟩))
  go_quiet (fail)
  go_wp2
  go_ret2
  exact ⟨rfl, bdrew hb1 _⟩

theorem unP_uint32_int16 (c : Int) (h0 : 0 ≤ c) (h1 : c ≤ 32767) (w : World) :
    Calls Tryz.prog 95 #[.iface 43 (.int .i16 c)] w fun e w' => (∃ v : Int, 0 ≤ v ∧ v ≤ 4294967295 ∧ v = IntKind.u32.wrap c ∧ e = .returned (.tuple #[.int .u32 v, .bool true, .bool true])) ∧ w = w' := by
  have z0 := Tryz.no_uint32 43 (by decide) (.int .i16 c)
  have z1 := Tryz.no_int 43 (by decide) (.int .i16 c)
  have z2 := Tryz.no_int8 43 (by decide) (.int .i16 c)
  have z3 := Tryz.is_int16 (.int .i16 c)
  have h2 : ¬ c < 0 := by omega
  go_enter Tryz.func95, Tryz.ntmps95
  go_wp2_with (go_at_call 79; refine (indirect_any 43 _ (by decide) (by decide) _).mono ?_; rintro e w' ⟨rfl, rfl⟩)
  go_ret3
  refine ⟨⟨_, ?_, ?_, ?_, rfl⟩, rfl⟩ <;> first | rfl | omega | (simp [wrap32, IntKind.wrap, IntKind.bits, IntKind.signed]; omega) | (simp [wrap32, IntKind.wrap, IntKind.bits, IntKind.signed])

theorem unEP_uint32_int16 (c : Int) (h0 : 0 ≤ c) (h1 : c ≤ 32767) (pf : Value) (w : World) :
    Calls Tryz.prog 72 #[.iface 43 (.int .i16 c), pf] w fun e w' => (∃ v : Int, 0 ≤ v ∧ v ≤ 4294967295 ∧ v = IntKind.u32.wrap c ∧ e = .returned (.tuple #[.int .u32 v, .nilIface])) ∧ w = w' := by
  have H := fun w => Lib.hid (unP_uint32_int16 c h0 h1 w)
  go_enter Tryz.func72, Tryz.ntmps72
  go_wp2_with (go_at_call 95; refine ((H _).out).mono ?_; rintro e w' ⟨⟨v, v0, v1, hv, rfl⟩, rfl⟩; have HVV := Lib.hid hv; clear hv)
  go_ret2
  exact ⟨⟨v, v0, v1, HVV.out, rfl⟩, rfl⟩

theorem unToP_uint32_int16 (c : Int) (h0 : 0 ≤ c) (h1 : c ≤ 32767) (w : World) :
    Calls Tryz.prog 35 #[.iface 43 (.int .i16 c)] w fun e w' => (∃ v : Int, 0 ≤ v ∧ v ≤ 4294967295 ∧ v = IntKind.u32.wrap c ∧ e = .returned (.tuple #[.int .u32 v, .nilIface])) ∧ w = w' := by
  have hmf : ∀ (fn : Fn) (first cap : Array Value) (w : World), (Instr.makeFunc fn first cap).run Tryz.prog w = .ok (.func fn first cap) w := fun _ _ _ _ => rfl
  have H := fun pf w => Lib.hid (unEP_uint32_int16 c h0 h1 pf w)
  go_enter Tryz.func35, Tryz.ntmps35
  go_wp2_with (go_at_call 72; refine ((H _ _).out).mono ?_; rintro e w' ⟨⟨v, v0, v1, hv, rfl⟩, rfl⟩; have HVV := Lib.hid hv; clear hv)
  go_ret2
  exact ⟨⟨v, v0, v1, HVV.out, rfl⟩, rfl⟩

theorem doorP_uint32_int16 (c : Int) (h0 : 0 ≤ c) (h1 : c ≤ 32767) (w : World) :
    Calls Tryz.prog 21 #[anyOf 4 c 0 0 ⟨#[]⟩] w fun e w' => (∃ v : Int, v = IntKind.u32.wrap c ∧ e = .returned (.tuple #[.int .u64 v, .bool true])) ∧ Below w.heap.size w w' := by
  have HV := fun w => Lib.hid (value_int16 c 0 0 ⟨#[]⟩ w (by omega) (by omega))
  have hval : (IntKind.i16.wrap c) = c := by simp [wrap32, IntKind.wrap, IntKind.bits, IntKind.signed]; omega
  rw [hval] at HV
  clear hval
  have HE := fun w => Lib.hid (unToP_uint32_int16 c h0 h1 w)
  unfold anyOf at HV ⊢
  go_enter Tryz.func21, Tryz.ntmps21
  go_wp2_with (first
    | (go_at_call 25; refine ((HV _).out).mono ?_; rintro e w1 ⟨rfl, hb0⟩; have hb1 : Below w.heap.size w w1 := ((Below.refl _ _).alloc (Nat.le_refl _) _).trans (hb0.mono (by simp)))
    | (go_at_call 35; refine ((HE _).out).mono ?_; rintro e w2 ⟨⟨v, v0, v1, hv, rfl⟩, rfl⟩; have HVV := Lib.hid hv; clear hv))
  go_quiet (fail)
  go_wp2
  go_ret2
  exact ⟨⟨_, HVV.out, rfl⟩, bdrew hb1 _⟩

theorem unN_uint32_int32 (c : Int) (h0 : -2147483648 ≤ c) (h1 : c < 0) (w : World) :
    Calls Tryz.prog 95 #[.iface 21 (.int .i32 c)] w fun e w' => e = .returned (.tuple #[.int .u32 0, .bool false, .bool false]) ∧ w = w' := by
  have z0 := Tryz.no_uint32 21 (by decide) (.int .i32 c)
  have z1 := Tryz.no_int 21 (by decide) (.int .i32 c)
  have z2 := Tryz.no_int8 21 (by decide) (.int .i32 c)
  have z3 := Tryz.no_int16 21 (by decide) (.int .i32 c)
  have z4 := Tryz.is_int32 (.int .i32 c)
  have h2 : ¬ 0 ≤ c := by omega
  go_enter Tryz.func95, Tryz.ntmps95
  go_wp2_with (go_at_call 79; refine (indirect_any 21 _ (by decide) (by decide) _).mono ?_; rintro e w' ⟨rfl, rfl⟩)
  go_ret3
  exact ⟨rfl, rfl⟩

theorem unEN_uint32_int32 (c : Int) (h0 : -2147483648 ≤ c) (h1 : c < 0) (pf : Value) (w : World) :
    Calls Tryz.prog 72 #[.iface 21 (.int .i32 c), pf] w fun e w' => (∃ T q, e = .returned (.tuple #[.int .u32 0, .iface T q])) ∧ w = w' := by
  have H := fun w => Lib.hid (unN_uint32_int32 c h0 h1 w)
  go_enter Tryz.func72, Tryz.ntmps72
  go_wp2_with (first
    | (go_at_call 95; refine ((H _).out).mono ?_; rintro e w' ⟨rfl, rfl⟩)
    | (go_at_call 79; refine (indirect_any 21 _ (by decide) (by decide) _).mono ?_; rintro e w' ⟨rfl, rfl⟩))
  go_ret2
  exact ⟨⟨_, _, rfl⟩, rfl⟩

theorem unToN_uint32_int32 (c : Int) (h0 : -2147483648 ≤ c) (h1 : c < 0) (w : World) :
    Calls Tryz.prog 35 #[.iface 21 (.int .i32 c)] w fun e w' => (∃ T q, e = .returned (.tuple #[.int .u32 0, .iface T q])) ∧ w = w' := by
  have hmf : ∀ (fn : Fn) (first cap : Array Value) (w : World), (Instr.makeFunc fn first cap).run Tryz.prog w = .ok (.func fn first cap) w := fun _ _ _ _ => rfl
  have H := fun pf w => Lib.hid (unEN_uint32_int32 c h0 h1 pf w)
  go_enter Tryz.func35, Tryz.ntmps35
  go_wp2_with (go_at_call 72; refine ((H _ _).out).mono ?_; rintro e w' ⟨⟨T, q, rfl⟩, rfl⟩)
  go_ret2
  exact ⟨⟨_, _, rfl⟩, rfl⟩

theorem doorN_uint32_int32 (c : Int) (h0 : -2147483648 ≤ c) (h1 : c < 0) (w : World) :
    Calls Tryz.prog 21 #[anyOf 5 c 0 0 ⟨#[]⟩] w fun e w' => (e = .returned (.tuple #[.int .u64 0, .bool false])) ∧ Below w.heap.size w w' := by
  have HV := fun w => Lib.hid (value_int32 c 0 0 ⟨#[]⟩ w (by omega) (by omega))
  have hval : (wrap32 c) = c := by simp [wrap32, IntKind.wrap, IntKind.bits, IntKind.signed]; omega
  rw [hval] at HV
  clear hval
  have HE := fun w => Lib.hid (unToN_uint32_int32 c h0 h1 w)
  unfold anyOf at HV ⊢
  go_enter Tryz.func21, Tryz.ntmps21
  go_wp2_with (first
    | (go_at_call 25; refine ((HV _).out).mono ?_; rintro e w1 ⟨rfl, hb0⟩; have hb1 : Below w.heap.size w w1 := ((Below.refl _ _).alloc (Nat.le_refl _) _).trans (hb0.mono (by simp)))
    | (go_at_call 35; refine ((HE _).out).mono ?_; rintro e w2 ⟨⟨T, q, rfl⟩, rfl⟩))
  go_quiet (fail)
  go_wp2
  go_ret2
  exact ⟨rfl, bdrew hb1 _⟩

theorem unP_uint32_int32 (c : Int) (h0 : 0 ≤ c) (h1 : c ≤ 2147483647) (w : World) :
    Calls Tryz.prog 95 #[.iface 21 (.int .i32 c)] w fun e w' => (∃ v : Int, 0 ≤ v ∧ v ≤ 4294967295 ∧ v = IntKind.u32.wrap c ∧ e = .returned (.tuple #[.int .u32 v, .bool true, .bool true])) ∧ w = w' := by
  have z0 := Tryz.no_uint32 21 (by decide) (.int .i32 c)
  have z1 := Tryz.no_int 21 (by decide) (.int .i32 c)
  have z2 := Tryz.no_int8 21 (by decide) (.int .i32 c)
  have z3 := Tryz.no_int16 21 (by decide) (.int .i32 c)
  have z4 := Tryz.is_int32 (.int .i32 c)
  have h2 : ¬ c < 0 := by omega
  go_enter Tryz.func95, Tryz.ntmps95
  go_wp2_with (go_at_call 79; refine (indirect_any 21 _ (by decide) (by decide) _).mono ?_; rintro e w' ⟨rfl, rfl⟩)
  go_ret3
  refine ⟨⟨_, ?_, ?_, ?_, rfl⟩, rfl⟩ <;> first | rfl | omega | (simp [wrap32, IntKind.wrap, IntKind.bits, IntKind.signed]; omega) | (simp [wrap32, IntKind.wrap, IntKind.bits, IntKind.signed])

theorem unEP_uint32_int32 (c : Int) (h0 : 0 ≤ c) (h1 : c ≤ 2147483647) (pf : Value) (w : World) :
    Calls Tryz.prog 72 #[.iface 21 (.int .i32 c), pf] w fun e w' => (∃ v : Int, 0 ≤ v ∧ v ≤ 4294967295 ∧ v = IntKind.u32.wrap c ∧ e = .returned (.tuple #[.int .u32 v, .nilIface])) ∧ w = w' := by
  have H := fun w => Lib.hid (unP_uint32_int32 c h0 h1 w)
  go_enter Tryz.func72, Tryz.ntmps72
  go_wp2_with (go_at_call 95; refine ((H _).out).mono ?_; rintro e w' ⟨⟨v, v0, v1, hv, rfl⟩, rfl⟩; have HVV := Lib.hid hv; clear hv)
  go_ret2
  exact ⟨⟨v, v0, v1, HVV.out, rfl⟩, rfl⟩

theorem unToP_uint32_int32 (c : Int) (h0 : 0 ≤ c) (h1 : c ≤ 2147483647) (w : World) :
    Calls Tryz.prog 35 #[.iface 21 (.int .i32 c)] w fun e w' => (∃ v : Int, 0 ≤ v ∧ v ≤ 4294967295 ∧ v = IntKind.u32.wrap c ∧ e = .returned (.tuple #[.int .u32 v, .nilIface])) ∧ w = w' := by
  have hmf : ∀ (fn : Fn) (first cap : Array Value) (w : World), (Instr.makeFunc fn first cap).run Tryz.prog w = .ok (.func fn first cap) w := fun _ _ _ _ => rfl
  have H := fun pf w => Lib.hid (unEP_uint32_int32 c h0 h1 pf w)
  go_enter Tryz.func35, Tryz.ntmps35
  go_wp2_with (go_at_call 72; refine ((H _ _).out).mono ?_; rintro e w' ⟨⟨v, v0, v1, hv, rfl⟩, rfl⟩; have HVV := Lib.hid hv; clear hv)
  go_ret2
  exact ⟨⟨v, v0, v1, HVV.out, rfl⟩, rfl⟩

theorem doorP_uint32_int32 (c : Int) (h0 : 0 ≤ c) (h1 : c ≤ 2147483647) (w : World) :
    Calls Tryz.prog 21 #[anyOf 5 c 0 0 ⟨#[]⟩] w fun e w' => (∃ v : Int, v = IntKind.u32.wrap c ∧ e = .returned (.tuple #[.int .u64 v, .bool true])) ∧ Below w.heap.size w w' := by
  have HV := fun w => Lib.hid (value_int32 c 0 0 ⟨#[]⟩ w (by omega) (by omega))
  have hval : (wrap32 c) = c := by simp [wrap32, IntKind.wrap, IntKind.bits, IntKind.signed]; omega
  rw [hval] at HV
  clear hval
  have HE := fun w => Lib.hid (unToP_uint32_int32 c h0 h1 w)
  unfold anyOf at HV ⊢
  go_enter Tryz.func21, Tryz.ntmps21
  go_wp2_with (first
    | (go_at_call 25; refine ((HV _).out).mono ?_; rintro e w1 ⟨rfl, hb0⟩; have hb1 : Below w.heap.size w w1 := ((Below.refl _ _).alloc (Nat.le_refl _) _).trans (hb0.mono (by simp)))
    | (go_at_call 35; refine ((HE _).out).mono ?_; rintro e w2 ⟨⟨v, v0, v1, hv, rfl⟩, rfl⟩; have HVV := Lib.hid hv; clear hv))
  go_quiet (fail)
  go_wp2
  go_ret2
  exact ⟨⟨_, HVV.out, rfl⟩, bdrew hb1 _⟩

theorem unN_uint32_int64 (c : Int) (h0 : -9223372036854775808 ≤ c) (h1 : c < 0) (w : World) :
    Calls Tryz.prog 95 #[.iface 2 (.int .i64 c)] w fun e w' => e = .returned (.tuple #[.int .u32 0, .bool false, .bool false]) ∧ w = w' := by
  have z0 := Tryz.no_uint32 2 (by decide) (.int .i64 c)
  have z1 := Tryz.no_int 2 (by decide) (.int .i64 c)
  have z2 := Tryz.no_int8 2 (by decide) (.int .i64 c)
  have z3 := Tryz.no_int16 2 (by decide) (.int .i64 c)
  have z4 := Tryz.no_int32 2 (by decide) (.int .i64 c)
  have z5 := Tryz.is_int64 (.int .i64 c)
  have h2 : ¬ 0 ≤ c := by omega
  go_enter Tryz.func95, Tryz.ntmps95
  go_wp2_with (go_at_call 79; refine (indirect_any 2 _ (by decide) (by decide) _).mono ?_; rintro e w' ⟨rfl, rfl⟩)
  go_ret3
  exact ⟨rfl, rfl⟩

theorem unEN_uint32_int64 (c : Int) (h0 : -9223372036854775808 ≤ c) (h1 : c < 0) (pf : Value) (w : World) :
    Calls Tryz.prog 72 #[.iface 2 (.int .i64 c), pf] w fun e w' => (∃ T q, e = .returned (.tuple #[.int .u32 0, .iface T q])) ∧ w = w' := by
  have H := fun w => Lib.hid (unN_uint32_int64 c h0 h1 w)
  go_enter Tryz.func72, Tryz.ntmps72
  go_wp2_with (first
    | (go_at_call 95; refine ((H _).out).mono ?_; rintro e w' ⟨rfl, rfl⟩)
    | (go_at_call 79; refine (indirect_any 2 _ (by decide) (by decide) _).mono ?_; rintro e w' ⟨rfl, rfl⟩))
  go_ret2
  exact ⟨⟨_, _, rfl⟩, rfl⟩

theorem unToN_uint32_int64 (c : Int) (h0 : -9223372036854775808 ≤ c) (h1 : c < 0) (w : World) :
    Calls Tryz.prog 35 #[.iface 2 (.int .i64 c)] w fun e w' => (∃ T q, e = .returned (.tuple #[.int .u32 0, .iface T q])) ∧ w = w' := by
  have hmf : ∀ (fn : Fn) (first cap : Array Value) (w : World), (Instr.makeFunc fn first cap).run Tryz.prog w = .ok (.func fn first cap) w := fun _ _ _ _ => rfl
  have H := fun pf w => Lib.hid (unEN_uint32_int64 c h0 h1 pf w)
  go_enter Tryz.func35, Tryz.ntmps35
  go_wp2_with (go_at_call 72; refine ((H _ _).out).mono ?_; rintro e w' ⟨⟨T, q, rfl⟩, rfl⟩)
  go_ret2
  exact ⟨⟨_, _, rfl⟩, rfl⟩

theorem doorN_uint32_int64 (c : Int) (h0 : -9223372036854775808 ≤ c) (h1 : c < 0) (w : World) :
    Calls Tryz.prog 21 #[anyOf 6 c 0 0 ⟨#[]⟩] w fun e w' => (e = .returned (.tuple #[.int .u64 0, .bool false])) ∧ Below w.heap.size w w' := by
  have HV := fun w => Lib.hid (value_int64 c 0 0 ⟨#[]⟩ w (by omega) (by omega))
  have HE := fun w => Lib.hid (unToN_uint32_int64 c h0 h1 w)
  unfold anyOf at HV ⊢
  go_enter Tryz.func21, Tryz.ntmps21
  go_wp2_with (first
    | (go_at_call 25; refine ((HV _).out).mono ?_; rintro e w1 ⟨rfl, hb0⟩; have hb1 : Below w.heap.size w w1 := ((Below.refl _ _).alloc (Nat.le_refl _) _).trans (hb0.mono (by simp)))
    | (go_at_call 35; refine ((HE _).out).mono ?_; rintro e w2 ⟨⟨T, q, rfl⟩, rfl⟩))
  go_quiet (fail)
  go_wp2
  go_ret2
  exact ⟨rfl, bdrew hb1 _⟩

theorem unP_uint32_int64 (c : Int) (h0 : 0 ≤ c) (h1 : c ≤ 9223372036854775807) (w : World) :
    Calls Tryz.prog 95 #[.iface 2 (.int .i64 c)] w fun e w' => (∃ v : Int, 0 ≤ v ∧ v ≤ 4294967295 ∧ v = IntKind.u32.wrap c ∧ e = .returned (.tuple #[.int .u32 v, .bool true, .bool true])) ∧ w = w' := by
  have z0 := Tryz.no_uint32 2 (by decide) (.int .i64 c)
  have z1 := Tryz.no_int 2 (by decide) (.int .i64 c)
  have z2 := Tryz.no_int8 2 (by decide) (.int .i64 c)
  have z3 := Tryz.no_int16 2 (by decide) (.int .i64 c)
  have z4 := Tryz.no_int32 2 (by decide) (.int .i64 c)
  have z5 := Tryz.is_int64 (.int .i64 c)
  have h2 : ¬ c < 0 := by omega
  go_enter Tryz.func95, Tryz.ntmps95
  go_wp2_with (go_at_call 79; refine (indirect_any 2 _ (by decide) (by decide) _).mono ?_; rintro e w' ⟨rfl, rfl⟩)
  go_ret3
  refine ⟨⟨_, ?_, ?_, ?_, rfl⟩, rfl⟩ <;> first | rfl | omega | (simp [wrap32, IntKind.wrap, IntKind.bits, IntKind.signed]; omega) | (simp [wrap32, IntKind.wrap, IntKind.bits, IntKind.signed])

theorem unEP_uint32_int64 (c : Int) (h0 : 0 ≤ c) (h1 : c ≤ 9223372036854775807) (pf : Value) (w : World) :
    Calls Tryz.prog 72 #[.iface 2 (.int .i64 c), pf] w fun e w' => (∃ v : Int, 0 ≤ v ∧ v ≤ 4294967295 ∧ v = IntKind.u32.wrap c ∧ e = .returned (.tuple #[.int .u32 v, .nilIface])) ∧ w = w' := by
  have H := fun w => Lib.hid (unP_uint32_int64 c h0 h1 w)
  go_enter Tryz.func72, Tryz.ntmps72
  go_wp2_with (go_at_call 95; refine ((H _).out).mono ?_; rintro e w' ⟨⟨v, v0, v1, hv, rfl⟩, rfl⟩; have HVV := Lib.hid hv; clear hv)
  go_ret2
  exact ⟨⟨v, v0, v1, HVV.out, rfl⟩, rfl⟩

theorem unToP_uint32_int64 (c : Int) (h0 : 0 ≤ c) (h1 : c ≤ 9223372036854775807) (w : World) :
    Calls Tryz.prog 35 #[.iface 2 (.int .i64 c)] w fun e w' => (∃ v : Int, 0 ≤ v ∧ v ≤ 4294967295 ∧ v = IntKind.u32.wrap c ∧ e = .returned (.tuple #[.int .u32 v, .nilIface])) ∧ w = w' := by
  have hmf : ∀ (fn : Fn) (first cap : Array Value) (w : World), (Instr.makeFunc fn first cap).run Tryz.prog w = .ok (.func fn first cap) w := fun _ _ _ _ => rfl
  have H := fun pf w => Lib.hid (unEP_uint32_int64 c h0 h1 pf w)
  go_enter Tryz.func35, Tryz.ntmps35
  go_wp2_with (go_at_call 72; refine ((H _ _).out).mono ?_; rintro e w' ⟨⟨v, v0, v1, hv, rfl⟩, rfl⟩; have HVV := Lib.hid hv; clear hv)
  go_ret2
  exact ⟨⟨v, v0, v1, HVV.out, rfl⟩, rfl⟩

theorem doorP_uint32_int64 (c : Int) (h0 : 0 ≤ c) (h1 : c ≤ 9223372036854775807) (w : World) :
    Calls Tryz.prog 21 #[anyOf 6 c 0 0 ⟨#[]⟩] w fun e w' => (∃ v : Int, v = IntKind.u32.wrap c ∧ e = .returned (.tuple #[.int .u64 v, .bool true])) ∧ Below w.heap.size w w' := by
  have HV := fun w => Lib.hid (value_int64 c 0 0 ⟨#[]⟩ w (by omega) (by omega))
  have HE := fun w => Lib.hid (unToP_uint32_int64 c h0 h1 w)
  unfold anyOf at HV ⊢
  go_enter Tryz.func21, Tryz.ntmps21
  go_wp2_with (first
    | (go_at_call 25; refine ((HV _).out).mono ?_; rintro e w1 ⟨rfl, hb0⟩; have hb1 : Below w.heap.size w w1 := ((Below.refl _ _).alloc (Nat.le_refl _) _).trans (hb0.mono (by simp)))
    | (go_at_call 35; refine ((HE _).out).mono ?_; rintro e w2 ⟨⟨v, v0, v1, hv, rfl⟩, rfl⟩; have HVV := Lib.hid hv; clear hv))
  go_quiet (fail)
  go_wp2
  go_ret2
  exact ⟨⟨_, HVV.out, rfl⟩, bdrew hb1 _⟩

theorem unN_uint64_int (c : Int) (h0 : -9223372036854775808 ≤ c) (h1 : c < 0) (w : World) :
    Calls Tryz.prog 96 #[.iface 3 (.int .i64 c)] w fun e w' => e = .returned (.tuple #[.int .u64 0, .bool false, .bool false]) ∧ w = w' := by
  have z0 := Tryz.no_uint64 3 (by decide) (.int .i64 c)
  have z1 := Tryz.is_int (.int .i64 c)
  have h2 : ¬ 0 ≤ c := by omega
  go_enter Tryz.func96, Tryz.ntmps96
  go_wp2_with (go_at_call 79; refine (indirect_any 3 _ (by decide) (by decide) _).mono ?_; rintro e w' ⟨rfl, rfl⟩)
  go_ret3
  exact ⟨rfl, rfl⟩

theorem unEN_uint64_int (c : Int) (h0 : -9223372036854775808 ≤ c) (h1 : c < 0) (pf : Value) (w : World) :
    Calls Tryz.prog 74 #[.iface 3 (.int .i64 c), pf] w fun e w' => (∃ T q, e = .returned (.tuple #[.int .u64 0, .iface T q])) ∧ w = w' := by
  have H := fun w => Lib.hid (unN_uint64_int c h0 h1 w)
  go_enter Tryz.func74, Tryz.ntmps74
  go_wp2_with (first
    | (go_at_call 96; refine ((H _).out).mono ?_; rintro e w' ⟨rfl, rfl⟩)
    | (go_at_call 79; refine (indirect_any 3 _ (by decide) (by decide) _).mono ?_; rintro e w' ⟨rfl, rfl⟩))
  go_ret2
  exact ⟨⟨_, _, rfl⟩, rfl⟩

theorem unToN_uint64_int (c : Int) (h0 : -9223372036854775808 ≤ c) (h1 : c < 0) (w : World) :
    Calls Tryz.prog 36 #[.iface 3 (.int .i64 c)] w fun e w' => (∃ T q, e = .returned (.tuple #[.int .u64 0, .iface T q])) ∧ w = w' := by
  have hmf : ∀ (fn : Fn) (first cap : Array Value) (w : World), (Instr.makeFunc fn first cap).run Tryz.prog w = .ok (.func fn first cap) w := fun _ _ _ _ => rfl
  have H := fun pf w => Lib.hid (unEN_uint64_int c h0 h1 pf w)
  go_enter Tryz.func36, Tryz.ntmps36
  go_wp2_with (go_at_call 74; refine ((H _ _).out).mono ?_; rintro e w' ⟨⟨T, q, rfl⟩, rfl⟩)
  go_ret2
  exact ⟨⟨_, _, rfl⟩, rfl⟩

theorem doorN_uint64_int (c : Int) (h0 : -9223372036854775808 ≤ c) (h1 : c < 0) (w : World) :
    Calls Tryz.prog 22 #[anyOf 2 c 0 0 ⟨#[]⟩] w fun e w' => (e = .returned (.tuple #[.int .u64 0, .bool false])) ∧ Below w.heap.size w w' := by
  have HV := fun w => Lib.hid (value_int c 0 0 ⟨#[]⟩ w (by omega) (by omega))
  have HE := fun w => Lib.hid (unToN_uint64_int c h0 h1 w)
  unfold anyOf at HV ⊢
  go_enter Tryz.func22, Tryz.ntmps22
  go_wp2_with (first
    | (go_at_call 25; refine ((HV _).out).mono ?_; rintro e w1 ⟨rfl, hb0⟩; have hb1 : Below w.heap.size w w1 := ((Below.refl _ _).alloc (Nat.le_refl _) _).trans (hb0.mono (by simp)))
    | (go_at_call 36; refine ((HE _).out).mono ?_; rintro e w2 ⟨⟨T, q, rfl⟩, rfl⟩))
  go_quiet (fail)
  go_wp2
  go_ret2
  exact ⟨rfl, bdrew hb1 _⟩

theorem unP_uint64_int (c : Int) (h0 : 0 ≤ c) (h1 : c ≤ 9223372036854775807) (w : World) :
    Calls Tryz.prog 96 #[.iface 3 (.int .i64 c)] w fun e w' => (∃ v : Int, 0 ≤ v ∧ v ≤ 18446744073709551615 ∧ v = c ∧ e = .returned (.tuple #[.int .u64 v, .bool true, .bool true])) ∧ w = w' := by
  have z0 := Tryz.no_uint64 3 (by decide) (.int .i64 c)
  have z1 := Tryz.is_int (.int .i64 c)
  have h2 : ¬ c < 0 := by omega
  go_enter Tryz.func96, Tryz.ntmps96
  go_wp2_with (go_at_call 79; refine (indirect_any 3 _ (by decide) (by decide) _).mono ?_; rintro e w' ⟨rfl, rfl⟩)
  go_ret3
  refine ⟨⟨_, ?_, ?_, ?_, rfl⟩, rfl⟩ <;> first | rfl | omega | (simp [wrap32, IntKind.wrap, IntKind.bits, IntKind.signed]; omega) | (simp [wrap32, IntKind.wrap, IntKind.bits, IntKind.signed])

theorem unEP_uint64_int (c : Int) (h0 : 0 ≤ c) (h1 : c ≤ 9223372036854775807) (pf : Value) (w : World) :
    Calls Tryz.prog 74 #[.iface 3 (.int .i64 c), pf] w fun e w' => (∃ v : Int, 0 ≤ v ∧ v ≤ 18446744073709551615 ∧ v = c ∧ e = .returned (.tuple #[.int .u64 v, .nilIface])) ∧ w = w' := by
  have H := fun w => Lib.hid (unP_uint64_int c h0 h1 w)
  go_enter Tryz.func74, Tryz.ntmps74
  go_wp2_with (go_at_call 96; refine ((H _).out).mono ?_; rintro e w' ⟨⟨v, v0, v1, hv, rfl⟩, rfl⟩; have HVV := Lib.hid hv; clear hv)
  go_ret2
  exact ⟨⟨v, v0, v1, HVV.out, rfl⟩, rfl⟩

theorem unToP_uint64_int (c : Int) (h0 : 0 ≤ c) (h1 : c ≤ 9223372036854775807) (w : World) :
    Calls Tryz.prog 36 #[.iface 3 (.int .i64 c)] w fun e w' => (∃ v : Int, 0 ≤ v ∧ v ≤ 18446744073709551615 ∧ v = c ∧ e = .returned (.tuple #[.int .u64 v, .nilIface])) ∧ w = w' := by
  have hmf : ∀ (fn : Fn) (first cap : Array Value) (w : World), (Instr.makeFunc fn first cap).run Tryz.prog w = .ok (.func fn first cap) w := fun _ _ _ _ => rfl
  have H := fun pf w => Lib.hid (unEP_uint64_int c h0 h1 pf w)
  go_enter Tryz.func36, Tryz.ntmps36
  go_wp2_with (go_at_call 74; refine ((H _ _).out).mono ?_; rintro e w' ⟨⟨v, v0, v1, hv, rfl⟩, rfl⟩; have HVV := Lib.hid hv; clear hv)
  go_ret2
  exact ⟨⟨v, v0, v1, HVV.out, rfl⟩, rfl⟩

theorem doorP_uint64_int (c : Int) (h0 : 0 ≤ c) (h1 : c ≤ 9223372036854775807) (w : World) :
    Calls Tryz.prog 22 #[anyOf 2 c 0 0 ⟨#[]⟩] w fun e w' => (∃ v : Int, v = c ∧ e = .returned (.tuple #[.int .u64 v, .bool true])) ∧ Below w.heap.size w w' := by
  have HV := fun w => Lib.hid (value_int c 0 0 ⟨#[]⟩ w (by omega) (by omega))
  have HE := fun w => Lib.hid (unToP_uint64_int c h0 h1 w)
  unfold anyOf at HV ⊢
  go_enter Tryz.func22, Tryz.ntmps22
  go_wp2_with (first
    | (go_at_call 25; refine ((HV _).out).mono ?_; rintro e w1 ⟨rfl, hb0⟩; have hb1 : Below w.heap.size w w1 := ((Below.refl _ _).alloc (Nat.le_refl _) _).trans (hb0.mono (by simp)))
    | (go_at_call 36; refine ((HE _).out).mono ?_; rintro e w2 ⟨⟨v, v0, v1, hv, rfl⟩, rfl⟩; have HVV := Lib.hid hv; clear hv))
  go_quiet (fail)
  go_wp2
  go_ret2
  exact ⟨⟨_, HVV.out, rfl⟩, bdrew hb1 _⟩

theorem unN_uint64_int8 (c : Int) (h0 : -128 ≤ c) (h1 : c < 0) (w : World) :
    Calls Tryz.prog 96 #[.iface 42 (.int .i8 c)] w fun e w' => e = .returned (.tuple #[.int .u64 0, .bool false, .bool false]) ∧ w = w' := by
  have z0 := Tryz.no_uint64 42 (by decide) (.int .i8 c)
  have z1 := Tryz.no_int 42 (by decide) (.int .i8 c)
  have z2 := Tryz.is_int8 (.int .i8 c)
  have h2 : ¬ 0 ≤ c := by omega
  go_enter Tryz.func96, Tryz.ntmps96
  go_wp2_with (go_at_call 79; refine (indirect_any 42 _ (by decide) (by decide) _).mono ?_; rintro e w' ⟨rfl, rfl⟩)
  go_ret3
  exact ⟨rfl, rfl⟩

theorem unEN_uint64_int8 (c : Int) (h0 : -128 ≤ c) (h1 : c < 0) (pf : Value) (w : World) :
    Calls Tryz.prog 74 #[.iface 42 (.int .i8 c), pf] w fun e w' => (∃ T q, e = .returned (.tuple #[.int .u64 0, .iface T q])) ∧ w = w' := by
  have H := fun w => Lib.hid (unN_uint64_int8 c h0 h1 w)
  go_enter Tryz.func74, Tryz.ntmps74
  go_wp2_with (first
    | (go_at_call 96; refine ((H _).out).mono ?_; rintro e w' ⟨rfl, rfl⟩)
    | (go_at_call 79; refine (indirect_any 42 _ (by decide) (by decide) _).mono ?_; rintro e w' ⟨rfl, rfl⟩))
  go_ret2
  exact ⟨⟨_, _, rfl⟩, rfl⟩

theorem unToN_uint64_int8 (c : Int) (h0 : -128 ≤ c) (h1 : c < 0) (w : World) :
    Calls Tryz.prog 36 #[.iface 42 (.int .i8 c)] w fun e w' => (∃ T q, e = .returned (.tuple #[.int .u64 0, .iface T q])) ∧ w = w' := by
  have hmf : ∀ (fn : Fn) (first cap : Array Value) (w : World), (Instr.makeFunc fn first cap).run Tryz.prog w = .ok (.func fn first cap) w := fun _ _ _ _ => rfl
  have H := fun pf w => Lib.hid (unEN_uint64_int8 c h0 h1 pf w)
  go_enter Tryz.func36, Tryz.ntmps36
  go_wp2_with (go_at_call 74; refine ((H _ _).out).mono ?_; rintro e w' ⟨⟨T, q, rfl⟩, rfl⟩)
  go_ret2
  exact ⟨⟨_, _, rfl⟩, rfl⟩

theorem doorN_uint64_int8 (c : Int) (h0 : -128 ≤ c) (h1 : c < 0) (w : World) :
    Calls Tryz.prog 22 #[anyOf 3 c 0 0 ⟨#[]⟩] w fun e w' => (e = .returned (.tuple #[.int .u64 0, .bool false])) ∧ Below w.heap.size w w' := by
  have HV := fun w => Lib.hid (value_int8 c 0 0 ⟨#[]⟩ w (by omega) (by omega))
  have hval : (IntKind.i8.wrap c) = c := by simp [wrap32, IntKind.wrap, IntKind.bits, IntKind.signed]; omega
  rw [hval] at HV
  clear hval
  have HE := fun w => Lib.hid (unToN_uint64_int8 c h0 h1 w)
  unfold anyOf at HV ⊢
  go_enter Tryz.func22, Tryz.ntmps22
  go_wp2_with (first
    | (go_at_call 25; refine ((HV _).out).mono ?_; rintro e w1 ⟨rfl, hb0⟩; have hb1 : Below w.heap.size w w1 := ((Below.refl _ _).alloc (Nat.le_refl _) _).trans (hb0.mono (by simp)))
    | (go_at_call 36; refine ((HE _).out).mono ?_; rintro e w2 ⟨⟨T, q, rfl⟩, rfl⟩))
  go_quiet (fail)
  go_wp2
  go_ret2
  exact ⟨rfl, bdrew hb1 _⟩

theorem unP_uint64_int8 (c : Int) (h0 : 0 ≤ c) (h1 : c ≤ 127) (w : World) :
    Calls Tryz.prog 96 #[.iface 42 (.int .i8 c)] w fun e w' => (∃ v : Int, 0 ≤ v ∧ v ≤ 18446744073709551615 ∧ v = c ∧ e = .returned (.tuple #[.int .u64 v, .bool true, .bool true])) ∧ w = w' := by
  have z0 := Tryz.no_uint64 42 (by decide) (.int .i8 c)
  have z1 := Tryz.no_int 42 (by decide) (.int .i8 c)
  have z2 := Tryz.is_int8 (.int .i8 c)
  have h2 : ¬ c < 0 := by omega
  go_enter Tryz.func96, Tryz.ntmps96
  go_wp2_with (go_at_call 79; refine (indirect_any 42 _ (by decide) (by decide) _).mono ?_; rintro e w' ⟨rfl, rfl⟩)
  go_ret3
  refine ⟨⟨_, ?_, ?_, ?_, rfl⟩, rfl⟩ <;> first | rfl | omega | (simp [wrap32, IntKind.wrap, IntKind.bits, IntKind.signed]; omega) | (simp [wrap32, IntKind.wrap, IntKind.bits, IntKind.signed])

theorem unEP_uint64_int8 (c : Int) (h0 : 0 ≤ c) (h1 : c ≤ 127) (pf : Value) (w : World) :
    Calls Tryz.prog 74 #[.iface 42 (.int .i8 c), pf] w fun e w' => (∃ v : Int, 0 ≤ v ∧ v ≤ 18446744073709551615 ∧ v = c ∧ e = .returned (.tuple #[.int .u64 v, .nilIface])) ∧ w = w' := by
  have H := fun w => Lib.hid (unP_uint64_int8 c h0 h1 w)
  go_enter Tryz.func74, Tryz.ntmps74
  go_wp2_with (go_at_call 96; refine ((H _).out).mono ?_; rintro e w' ⟨⟨v, v0, v1, hv, rfl⟩, rfl⟩; have HVV := Lib.hid hv; clear hv)
  go_ret2
  exact ⟨⟨v, v0, v1, HVV.out, rfl⟩, rfl⟩

theorem unToP_uint64_int8 (c : Int) (h0 : 0 ≤ c) (h1 : c ≤ 127) (w : World) :
    Calls Tryz.prog 36 #[.iface 42 (.int .i8 c)] w fun e w' => (∃ v : Int, 0 ≤ v ∧ v ≤ 18446744073709551615 ∧ v = c ∧ e = .returned (.tuple #[.int .u64 v, .nilIface])) ∧ w = w' := by
  have hmf : ∀ (fn : Fn) (first cap : Array Value) (w : World), (Instr.makeFunc fn first cap).run Tryz.prog w = .ok (.func fn first cap) w := fun _ _ _ _ => rfl
  have H := fun pf w => Lib.hid (unEP_uint64_int8 c h0 h1 pf w)
  go_enter Tryz.func36, Tryz.ntmps36
  go_wp2_with (go_at_call 74; refine ((H _ _).out).mono ?_; rintro e w' ⟨⟨v, v0, v1, hv, rfl⟩, rfl⟩; have HVV := Lib.hid hv; clear hv)
  go_ret2
  exact ⟨⟨v, v0, v1, HVV.out, rfl⟩, rfl⟩

theorem doorP_uint64_int8 (c : Int) (h0 : 0 ≤ c) (h1 : c ≤ 127) (w : World) :
    Calls Tryz.prog 22 #[anyOf 3 c 0 0 ⟨#[]⟩] w fun e w' => (∃ v : Int, v = c ∧ e = .returned (.tuple #[.int .u64 v, .bool true])) ∧ Below w.heap.size w w' := by
  have HV := fun w => Lib.hid (value_int8 c 0 0 ⟨#[]⟩ w (by omega) (by omega))
  have hval : (IntKind.i8.wrap c) = c := by simp [wrap32, IntKind.wrap, IntKind.bits, IntKind.signed]; omega
  rw [hval] at HV
  clear hval
  have HE := fun w => Lib.hid (unToP_uint64_int8 c h0 h1 w)
  unfold anyOf at HV ⊢
  go_enter Tryz.func22, Tryz.ntmps22
  go_wp2_with (first
    | (go_at_call 25; refine ((HV _).out).mono ?_; rintro e w1 ⟨rfl, hb0⟩; have hb1 : Below w.heap.size w w1 := ((Below.refl _ _).alloc (Nat.le_refl _) _).trans (hb0.mono (by simp)))
    | (go_at_call 36; refine ((HE _).out).mono ?_; rintro e w2 ⟨⟨v, v0, v1, hv, rfl⟩, rfl⟩; have HVV := Lib.hid hv; clear hv))
  go_quiet (fail)
  go_wp2
  go_ret2
  exact ⟨⟨_, HVV.out, rfl⟩, bdrew hb1 _⟩

theorem unN_uint64_int16 (c : Int) (h0 : -32768 ≤ c) (h1 : c < 0) (w : World) :
    Calls Tryz.prog 96 #[.iface 43 (.int .i16 c)] w fun e w' => e = .returned (.tuple #[.int .u64 0, .bool false, .bool false]) ∧ w = w' := by
  have z0 := Tryz.no_uint64 43 (by decide) (.int .i16 c)
  have z1 := Tryz.no_int 43 (by decide) (.int .i16 c)
  have z2 := Tryz.no_int8 43 (by decide) (.int .i16 c)
  have z3 := Tryz.is_int16 (.int .i16 c)
  have h2 : ¬ 0 ≤ c := by omega
  go_enter Tryz.func96, Tryz.ntmps96
  go_wp2_with (go_at_call 79; refine (indirect_any 43 _ (by decide) (by decide) _).mono ?_; rintro e w' ⟨rfl, rfl⟩)
  go_ret3
  exact ⟨rfl, rfl⟩

theorem unEN_uint64_int16 (c : Int) (h0 : -32768 ≤ c) (h1 : c < 0) (pf : Value) (w : World) :
    Calls Tryz.prog 74 #[.iface 43 (.int .i16 c), pf] w fun e w' => (∃ T q, e = .returned (.tuple #[.int .u64 0, .iface T q])) ∧ w = w' := by
  have H := fun w => Lib.hid (unN_uint64_int16 c h0 h1 w)
  go_enter Tryz.func74, Tryz.ntmps74
  go_wp2_with (first
    | (go_at_call 96; refine ((H _).out).mono ?_; rintro e w' ⟨rfl, rfl⟩)
    | (go_at_call 79; refine (indirect_any 43 _ (by decide) (by decide) _).mono ?_; rintro e w' ⟨rfl, rfl⟩))
  go_ret2
  exact ⟨⟨_, _, rfl⟩, rfl⟩

theorem unToN_uint64_int16 (c : Int) (h0 : -32768 ≤ c) (h1 : c < 0) (w : World) :
    Calls Tryz.prog 36 #[.iface 43 (.int .i16 c)] w fun e w' => (∃ T q, e = .returned (.tuple #[.int .u64 0, .iface T q])) ∧ w = w' := by
  have hmf : ∀ (fn : Fn) (first cap : Array Value) (w : World), (Instr.makeFunc fn first cap).run Tryz.prog w = .ok (.func fn first cap) w := fun _ _ _ _ => rfl
  have H := fun pf w => Lib.hid (unEN_uint64_int16 c h0 h1 pf w)
  go_enter Tryz.func36, Tryz.ntmps36
  go_wp2_with (go_at_call 74; refine ((H _ _).out).mono ?_; rintro e w' ⟨⟨T, q, rfl⟩, rfl⟩)
  go_ret2
  exact ⟨⟨_, _, rfl⟩, rfl⟩

theorem doorN_uint64_int16 (c : Int) (h0 : -32768 ≤ c) (h1 : c < 0) (w : World) :
    Calls Tryz.prog 22 #[anyOf 4 c 0 0 ⟨#[]⟩] w fun e w' => (e = .returned (.tuple #[.int .u64 0, .bool false])) ∧ Below w.heap.size w w' := by
  have HV := fun w => Lib.hid (value_int16 c 0 0 ⟨#[]⟩ w (by omega) (by omega))
  have hval : (IntKind.i16.wrap c) = c := by simp [wrap32, IntKind.wrap, IntKind.bits, IntKind.signed]; omega
  rw [hval] at HV
  clear hval
  have HE := fun w => Lib.hid (unToN_uint64_int16 c h0 h1 w)
  unfold anyOf at HV ⊢
  go_enter Tryz.func22, Tryz.ntmps22
  go_wp2_with (first
    | (go_at_call 25; refine ((HV _).out).mono ?_; rintro e w1 ⟨rfl, hb0⟩; have hb1 : Below w.heap.size w w1 := ((Below.refl _ _).alloc (Nat.le_refl _) _).trans (hb0.mono (by simp)))
    | (go_at_call 36; refine ((HE _).out).mono ?_; rintro e w2 ⟨⟨T, q, rfl⟩, rfl⟩))
  go_quiet (fail)
  go_wp2
  go_ret2
  exact ⟨rfl, bdrew hb1 _⟩

theorem unP_uint64_int16 (c : Int) (h0 : 0 ≤ c) (h1 : c ≤ 32767) (w : World) :
    Calls Tryz.prog 96 #[.iface 43 (.int .i16 c)] w fun e w' => (∃ v : Int, 0 ≤ v ∧ v ≤ 18446744073709551615 ∧ v = c ∧ e = .returned (.tuple #[.int .u64 v, .bool true, .bool true])) ∧ w = w' := by
  have z0 := Tryz.no_uint64 43 (by decide) (.int .i16 c)
  have z1 := Tryz.no_int 43 (by decide) (.int .i16 c)
  have z2 := Tryz.no_int8 43 (by decide) (.int .i16 c)
  have z3 := Tryz.is_int16 (.int .i16 c)
  have h2 : ¬ c < 0 := by omega
  go_enter Tryz.func96, Tryz.ntmps96
  go_wp2_with (go_at_call 79; refine (indirect_any 43 _ (by decide) (by decide) _).mono ?_; rintro e w' ⟨rfl, rfl⟩)
  go_ret3
  refine ⟨⟨_, ?_, ?_, ?_, rfl⟩, rfl⟩ <;> first | rfl | omega | (simp [wrap32, IntKind.wrap, IntKind.bits, IntKind.signed]; omega) | (simp [wrap32, IntKind.wrap, IntKind.bits, IntKind.signed])

theorem unEP_uint64_int16 (c : Int) (h0 : 0 ≤ c) (h1 : c ≤ 32767) (pf : Value) (w : World) :
    Calls Tryz.prog 74 #[.iface 43 (.int .i16 c), pf] w fun e w' => (∃ v : Int, 0 ≤ v ∧ v ≤ 18446744073709551615 ∧ v = c ∧ e = .returned (.tuple #[.int .u64 v, .nilIface])) ∧ w = w' := by
  have H := fun w => Lib.hid (unP_uint64_int16 c h0 h1 w)
  go_enter Tryz.func74, Tryz.ntmps74
  go_wp2_with (go_at_call 96; refine ((H _).out).mono ?_; rintro e w' ⟨⟨v, v0, v1, hv, rfl⟩, rfl⟩; have HVV := Lib.hid hv; clear hv)
  go_ret2
  exact ⟨⟨v, v0, v1, HVV.out, rfl⟩, rfl⟩

theorem unToP_uint64_int16 (c : Int) (h0 : 0 ≤ c) (h1 : c ≤ 32767) (w : World) :
    Calls Tryz.prog 36 #[.iface 43 (.int .i16 c)] w fun e w' => (∃ v : Int, 0 ≤ v ∧ v ≤ 18446744073709551615 ∧ v = c ∧ e = .returned (.tuple #[.int .u64 v, .nilIface])) ∧ w = w' := by
  have hmf : ∀ (fn : Fn) (first cap : Array Value) (w : World), (Instr.makeFunc fn first cap).run Tryz.prog w = .ok (.func fn first cap) w := fun _ _ _ _ => rfl
  have H := fun pf w => Lib.hid (unEP_uint64_int16 c h0 h1 pf w)
  go_enter Tryz.func36, Tryz.ntmps36
  go_wp2_with (go_at_call 74; refine ((H _ _).out).mono ?_; rintro e w' ⟨⟨v, v0, v1, hv, rfl⟩, rfl⟩; have HVV := Lib.hid hv; clear hv)
  go_ret2
  exact ⟨⟨v, v0, v1, HVV.out, rfl⟩, rfl⟩

theorem doorP_uint64_int16 (c : Int) (h0 : 0 ≤ c) (h1 : c ≤ 32767) (w : World) :
    Calls Tryz.prog 22 #[anyOf 4 c 0 0 ⟨#[]⟩] w fun e w' => (∃ v : Int, v = c ∧ e = .returned (.tuple #[.int .u64 v, .bool true])) ∧ Below w.heap.size w w' := by
  have HV := fun w => Lib.hid (value_int16 c 0 0 ⟨#[]⟩ w (by omega) (by omega))
  have hval : (IntKind.i16.wrap c) = c := by simp [wrap32, IntKind.wrap, IntKind.bits, IntKind.signed]; omega
  rw [hval] at HV
  clear hval
  have HE := fun w => Lib.hid (unToP_uint64_int16 c h0 h1 w)
  unfold anyOf at HV ⊢
  go_enter Tryz.func22, Tryz.ntmps22
  go_wp2_with (first
    | (go_at_call 25; refine ((HV _).out).mono ?_; rintro e w1 ⟨rfl, hb0⟩; have hb1 : Below w.heap.size w w1 := ((Below.refl _ _).alloc (Nat.le_refl _) _).trans (hb0.mono (by simp)))
    | (go_at_call 36; refine ((HE _).out).mono ?_; rintro e w2 ⟨⟨v, v0, v1, hv, rfl⟩, rfl⟩; have HVV := Lib.hid hv; clear hv))
  go_quiet (fail)
  go_wp2
  go_ret2
  exact ⟨⟨_, HVV.out, rfl⟩, bdrew hb1 _⟩

theorem unN_uint64_int32 (c : Int) (h0 : -2147483648 ≤ c) (h1 : c < 0) (w : World) :
    Calls Tryz.prog 96 #[.iface 21 (.int .i32 c)] w fun e w' => e = .returned (.tuple #[.int .u64 0, .bool false, .bool false]) ∧ w = w' := by
  have z0 := Tryz.no_uint64 21 (by decide) (.int .i32 c)
  have z1 := Tryz.no_int 21 (by decide) (.int .i32 c)
  have z2 := Tryz.no_int8 21 (by decide) (.int .i32 c)
  have z3 := Tryz.no_int16 21 (by decide) (.int .i32 c)
  have z4 := Tryz.is_int32 (.int .i32 c)
  have h2 : ¬ 0 ≤ c := by omega
  go_enter Tryz.func96, Tryz.ntmps96
  go_wp2_with (go_at_call 79; refine (indirect_any 21 _ (by decide) (by decide) _).mono ?_; rintro e w' ⟨rfl, rfl⟩)
  go_ret3
  exact ⟨rfl, rfl⟩

theorem unEN_uint64_int32 (c : Int) (h0 : -2147483648 ≤ c) (h1 : c < 0) (pf : Value) (w : World) :
    Calls Tryz.prog 74 #[.iface 21 (.int .i32 c), pf] w fun e w' => (∃ T q, e = .returned (.tuple #[.int .u64 0, .iface T q])) ∧ w = w' := by
  have H := fun w => Lib.hid (unN_uint64_int32 c h0 h1 w)
  go_enter Tryz.func74, Tryz.ntmps74
  go_wp2_with (first
    | (go_at_call 96; refine ((H _).out).mono ?_; rintro e w' ⟨rfl, rfl⟩)
    | (go_at_call 79; refine (indirect_any 21 _ (by decide) (by decide) _).mono ?_; rintro e w' ⟨rfl, rfl⟩))
  go_ret2
  exact ⟨⟨_, _, rfl⟩, rfl⟩

theorem unToN_uint64_int32 (c : Int) (h0 : -2147483648 ≤ c) (h1 : c < 0) (w : World) :
    Calls Tryz.prog 36 #[.iface 21 (.int .i32 c)] w fun e w' => (∃ T q, e = .returned (.tuple #[.int .u64 0, .iface T q])) ∧ w = w' := by
  have hmf : ∀ (fn : Fn) (first cap : Array Value) (w : World), (Instr.makeFunc fn first cap).run Tryz.prog w = .ok (.func fn first cap) w := fun _ _ _ _ => rfl
  have H := fun pf w => Lib.hid (unEN_uint64_int32 c h0 h1 pf w)
  go_enter Tryz.func36, Tryz.ntmps36
  go_wp2_with (go_at_call 74; refine ((H _ _).out).mono ?_; rintro e w' ⟨⟨T, q, rfl⟩, rfl⟩)
  go_ret2
  exact ⟨⟨_, _, rfl⟩, rfl⟩

theorem doorN_uint64_int32 (c : Int) (h0 : -2147483648 ≤ c) (h1 : c < 0) (w : World) :
    Calls Tryz.prog 22 #[anyOf 5 c 0 0 ⟨#[]⟩] w fun e w' => (e = .returned (.tuple #[.int .u64 0, .bool false])) ∧ Below w.heap.size w w' := by
  have HV := fun w => Lib.hid (value_int32 c 0 0 ⟨#[]⟩ w (by omega) (by omega))
  have hval : (wrap32 c) = c := by simp [wrap32, IntKind.wrap, IntKind.bits, IntKind.signed]; omega
  rw [hval] at HV
  clear hval
  have HE := fun w => Lib.hid (unToN_uint64_int32 c h0 h1 w)
  unfold anyOf at HV ⊢
  go_enter Tryz.func22, Tryz.ntmps22
  go_wp2_with (first
    | (go_at_call 25; refine ((HV _).out).mono ?_; rintro e w1 ⟨rfl, hb0⟩; have hb1 : Below w.heap.size w w1 := ((Below.refl _ _).alloc (Nat.le_refl _) _).trans (hb0.mono (by simp)))
    | (go_at_call 36; refine ((HE _).out).mono ?_; rintro e w2 ⟨⟨T, q, rfl⟩, rfl⟩))
  go_quiet (fail)
  go_wp2
  go_ret2
  exact ⟨rfl, bdrew hb1 _⟩

theorem unP_uint64_int32 (c : Int) (h0 : 0 ≤ c) (h1 : c ≤ 2147483647) (w : World) :
    Calls Tryz.prog 96 #[.iface 21 (.int .i32 c)] w fun e w' => (∃ v : Int, 0 ≤ v ∧ v ≤ 18446744073709551615 ∧ v = c ∧ e = .returned (.tuple #[.int .u64 v, .bool true, .bool true])) ∧ w = w' := by
  have z0 := Tryz.no_uint64 21 (by decide) (.int .i32 c)
  have z1 := Tryz.no_int 21 (by decide) (.int .i32 c)
  have z2 := Tryz.no_int8 21 (by decide) (.int .i32 c)
  have z3 := Tryz.no_int16 21 (by decide) (.int .i32 c)
  have z4 := Tryz.is_int32 (.int .i32 c)
  have h2 : ¬ c < 0 := by omega
  go_enter Tryz.func96, Tryz.ntmps96
  go_wp2_with (go_at_call 79; refine (indirect_any 21 _ (by decide) (by decide) _).mono ?_; rintro e w' ⟨rfl, rfl⟩)
  go_ret3
  refine ⟨⟨_, ?_, ?_, ?_, rfl⟩, rfl⟩ <;> first | rfl | omega | (simp [wrap32, IntKind.wrap, IntKind.bits, IntKind.signed]; omega) | (simp [wrap32, IntKind.wrap, IntKind.bits, IntKind.signed])

theorem unEP_uint64_int32 (c : Int) (h0 : 0 ≤ c) (h1 : c ≤ 2147483647) (pf : Value) (w : World) :
    Calls Tryz.prog 74 #[.iface 21 (.int .i32 c), pf] w fun e w' => (∃ v : Int, 0 ≤ v ∧ v ≤ 18446744073709551615 ∧ v = c ∧ e = .returned (.tuple #[.int .u64 v, .nilIface])) ∧ w = w' := by
  have H := fun w => Lib.hid (unP_uint64_int32 c h0 h1 w)
  go_enter Tryz.func74, Tryz.ntmps74
  go_wp2_with (go_at_call 96; refine ((H _).out).mono ?_; rintro e w' ⟨⟨v, v0, v1, hv, rfl⟩, rfl⟩; have HVV := Lib.hid hv; clear hv)
  go_ret2
  exact ⟨⟨v, v0, v1, HVV.out, rfl⟩, rfl⟩

theorem unToP_uint64_int32 (c : Int) (h0 : 0 ≤ c) (h1 : c ≤ 2147483647) (w : World) :
    Calls Tryz.prog 36 #[.iface 21 (.int .i32 c)] w fun e w' => (∃ v : Int, 0 ≤ v ∧ v ≤ 18446744073709551615 ∧ v = c ∧ e = .returned (.tuple #[.int .u64 v, .nilIface])) ∧ w = w' := by
  have hmf : ∀ (fn : Fn) (first cap : Array Value) (w : World), (Instr.makeFunc fn first cap).run Tryz.prog w = .ok (.func fn first cap) w := fun _ _ _ _ => rfl
  have H := fun pf w => Lib.hid (unEP_uint64_int32 c h0 h1 pf w)
  go_enter Tryz.func36, Tryz.ntmps36
  go_wp2_with (go_at_call 74; refine ((H _ _).out).mono ?_; rintro e w' ⟨⟨v, v0, v1, hv, rfl⟩, rfl⟩; have HVV := Lib.hid hv; clear hv)
  go_ret2
  exact ⟨⟨v, v0, v1, HVV.out, rfl⟩, rfl⟩

theorem doorP_uint64_int32 (c : Int) (h0 : 0 ≤ c) (h1 : c ≤ 2147483647) (w : World) :
    Calls Tryz.prog 22 #[anyOf 5 c 0 0 ⟨#[]⟩] w fun e w' => (∃ v : Int, v = c ∧ e = .returned (.tuple #[.int .u64 v, .bool true])) ∧ Below w.heap.size w w' := by
  have HV := fun w => Lib.hid (value_int32 c 0 0 ⟨#[]⟩ w (by omega) (by omega))
  have hval : (wrap32 c) = c := by simp [wrap32, IntKind.wrap, IntKind.bits, IntKind.signed]; omega
  rw [hval] at HV
  clear hval
  have HE := fun w => Lib.hid (unToP_uint64_int32 c h0 h1 w)
  unfold anyOf at HV ⊢
  go_enter Tryz.func22, Tryz.ntmps22
  go_wp2_with (first
    | (go_at_call 25; refine ((HV _).out).mono ?_; rintro e w1 ⟨rfl, hb0⟩; have hb1 : Below w.heap.size w w1 := ((Below.refl _ _).alloc (Nat.le_refl _) _).trans (hb0.mono (by simp)))
    | (go_at_call 36; refine ((HE _).out).mono ?_; rintro e w2 ⟨⟨v, v0, v1, hv, rfl⟩, rfl⟩; have HVV := Lib.hid hv; clear hv))
  go_quiet (fail)
  go_wp2
  go_ret2
  exact ⟨⟨_, HVV.out, rfl⟩, bdrew hb1 _⟩

theorem unN_uint64_int64 (c : Int) (h0 : -9223372036854775808 ≤ c) (h1 : c < 0) (w : World) :
    Calls Tryz.prog 96 #[.iface 2 (.int .i64 c)] w fun e w' => e = .returned (.tuple #[.int .u64 0, .bool false, .bool false]) ∧ w = w' := by
  have z0 := Tryz.no_uint64 2 (by decide) (.int .i64 c)
  have z1 := Tryz.no_int 2 (by decide) (.int .i64 c)
  have z2 := Tryz.no_int8 2 (by decide) (.int .i64 c)
  have z3 := Tryz.no_int16 2 (by decide) (.int .i64 c)
  have z4 := Tryz.no_int32 2 (by decide) (.int .i64 c)
  have z5 := Tryz.is_int64 (.int .i64 c)
  have h2 : ¬ 0 ≤ c := by omega
  go_enter Tryz.func96, Tryz.ntmps96
  go_wp2_with (go_at_call 79; refine (indirect_any 2 _ (by decide) (by decide) _).mono ?_; rintro e w' ⟨rfl, rfl⟩)
  go_ret3
  exact ⟨rfl, rfl⟩

theorem unEN_uint64_int64 (c : Int) (h0 : -9223372036854775808 ≤ c) (h1 : c < 0) (pf : Value) (w : World) :
    Calls Tryz.prog 74 #[.iface 2 (.int .i64 c), pf] w fun e w' => (∃ T q, e = .returned (.tuple #[.int .u64 0, .iface T q])) ∧ w = w' := by
  have H := fun w => Lib.hid (unN_uint64_int64 c h0 h1 w)
  go_enter Tryz.func74, Tryz.ntmps74
  go_wp2_with (first
    | (go_at_call 96; refine ((H _).out).mono ?_; rintro e w' ⟨rfl, rfl⟩)
    | (go_at_call 79; refine (indirect_any 2 _ (by decide) (by decide) _).mono ?_; rintro e w' ⟨rfl, rfl⟩))
  go_ret2
  exact ⟨⟨_, _, rfl⟩, rfl⟩

theorem unToN_uint64_int64 (c : Int) (h0 : -9223372036854775808 ≤ c) (h1 : c < 0) (w : World) :
    Calls Tryz.prog 36 #[.iface 2 (.int .i64 c)] w fun e w' => (∃ T q, e = .returned (.tuple #[.int .u64 0, .iface T q])) ∧ w = w' := by
  have hmf : ∀ (fn : Fn) (first cap : Array Value) (w : World), (Instr.makeFunc fn first cap).run Tryz.prog w = .ok (.func fn first cap) w := fun _ _ _ _ => rfl
  have H := fun pf w => Lib.hid (unEN_uint64_int64 c h0 h1 pf w)
  go_enter Tryz.func36, Tryz.ntmps36
  go_wp2_with (go_at_call 74; refine ((H _ _).out).mono ?_; rintro e w' ⟨⟨T, q, rfl⟩, rfl⟩)
  go_ret2
  exact ⟨⟨_, _, rfl⟩, rfl⟩

theorem doorN_uint64_int64 (c : Int) (h0 : -9223372036854775808 ≤ c) (h1 : c < 0) (w : World) :
    Calls Tryz.prog 22 #[anyOf 6 c 0 0 ⟨#[]⟩] w fun e w' => (e = .returned (.tuple #[.int .u64 0, .bool false])) ∧ Below w.heap.size w w' := by
  have HV := fun w => Lib.hid (value_int64 c 0 0 ⟨#[]⟩ w (by omega) (by omega))
  have HE := fun w => Lib.hid (unToN_uint64_int64 c h0 h1 w)
  unfold anyOf at HV ⊢
  go_enter Tryz.func22, Tryz.ntmps22
  go_wp2_with (first
    | (go_at_call 25; refine ((HV _).out).mono ?_; rintro e w1 ⟨rfl, hb0⟩; have hb1 : Below w.heap.size w w1 := ((Below.refl _ _).alloc (Nat.le_refl _) _).trans (hb0.mono (by simp)))
    | (go_at_call 36; refine ((HE _).out).mono ?_; rintro e w2 ⟨⟨T, q, rfl⟩, rfl⟩))
  go_quiet (fail)
  go_wp2
  go_ret2
  exact ⟨rfl, bdrew hb1 _⟩

theorem unP_uint64_int64 (c : Int) (h0 : 0 ≤ c) (h1 : c ≤ 9223372036854775807) (w : World) :
    Calls Tryz.prog 96 #[.iface 2 (.int .i64 c)] w fun e w' => (∃ v : Int, 0 ≤ v ∧ v ≤ 18446744073709551615 ∧ v = c ∧ e = .returned (.tuple #[.int .u64 v, .bool true, .bool true])) ∧ w = w' := by
  have z0 := Tryz.no_uint64 2 (by decide) (.int .i64 c)
  have z1 := Tryz.no_int 2 (by decide) (.int .i64 c)
  have z2 := Tryz.no_int8 2 (by decide) (.int .i64 c)
  have z3 := Tryz.no_int16 2 (by decide) (.int .i64 c)
  have z4 := Tryz.no_int32 2 (by decide) (.int .i64 c)
  have z5 := Tryz.is_int64 (.int .i64 c)
  have h2 : ¬ c < 0 := by omega
  go_enter Tryz.func96, Tryz.ntmps96
  go_wp2_with (go_at_call 79; refine (indirect_any 2 _ (by decide) (by decide) _).mono ?_; rintro e w' ⟨rfl, rfl⟩)
  go_ret3
  refine ⟨⟨_, ?_, ?_, ?_, rfl⟩, rfl⟩ <;> first | rfl | omega | (simp [wrap32, IntKind.wrap, IntKind.bits, IntKind.signed]; omega) | (simp [wrap32, IntKind.wrap, IntKind.bits, IntKind.signed])

theorem unEP_uint64_int64 (c : Int) (h0 : 0 ≤ c) (h1 : c ≤ 9223372036854775807) (pf : Value) (w : World) :
    Calls Tryz.prog 74 #[.iface 2 (.int .i64 c), pf] w fun e w' => (∃ v : Int, 0 ≤ v ∧ v ≤ 18446744073709551615 ∧ v = c ∧ e = .returned (.tuple #[.int .u64 v, .nilIface])) ∧ w = w' := by
  have H := fun w => Lib.hid (unP_uint64_int64 c h0 h1 w)
  go_enter Tryz.func74, Tryz.ntmps74
  go_wp2_with (go_at_call 96; refine ((H _).out).mono ?_; rintro e w' ⟨⟨v, v0, v1, hv, rfl⟩, rfl⟩; have HVV := Lib.hid hv; clear hv)
  go_ret2
  exact ⟨⟨v, v0, v1, HVV.out, rfl⟩, rfl⟩

theorem unToP_uint64_int64 (c : Int) (h0 : 0 ≤ c) (h1 : c ≤ 9223372036854775807) (w : World) :
    Calls Tryz.prog 36 #[.iface 2 (.int .i64 c)] w fun e w' => (∃ v : Int, 0 ≤ v ∧ v ≤ 18446744073709551615 ∧ v = c ∧ e = .returned (.tuple #[.int .u64 v, .nilIface])) ∧ w = w' := by
  have hmf : ∀ (fn : Fn) (first cap : Array Value) (w : World), (Instr.makeFunc fn first cap).run Tryz.prog w = .ok (.func fn first cap) w := fun _ _ _ _ => rfl
  have H := fun pf w => Lib.hid (unEP_uint64_int64 c h0 h1 pf w)
  go_enter Tryz.func36, Tryz.ntmps36
  go_wp2_with (go_at_call 74; refine ((H _ _).out).mono ?_; rintro e w' ⟨⟨v, v0, v1, hv, rfl⟩, rfl⟩; have HVV := Lib.hid hv; clear hv)
  go_ret2
  exact ⟨⟨v, v0, v1, HVV.out, rfl⟩, rfl⟩

theorem doorP_uint64_int64 (c : Int) (h0 : 0 ≤ c) (h1 : c ≤ 9223372036854775807) (w : World) :
    Calls Tryz.prog 22 #[anyOf 6 c 0 0 ⟨#[]⟩] w fun e w' => (∃ v : Int, v = c ∧ e = .returned (.tuple #[.int .u64 v, .bool true])) ∧ Below w.heap.size w w' := by
  have HV := fun w => Lib.hid (value_int64 c 0 0 ⟨#[]⟩ w (by omega) (by omega))
  have HE := fun w => Lib.hid (unToP_uint64_int64 c h0 h1 w)
  unfold anyOf at HV ⊢
  go_enter Tryz.func22, Tryz.ntmps22
  go_wp2_with (first
    | (go_at_call 25; refine ((HV _).out).mono ?_; rintro e w1 ⟨rfl, hb0⟩; have hb1 : Below w.heap.size w w1 := ((Below.refl _ _).alloc (Nat.le_refl _) _).trans (hb0.mono (by simp)))
    | (go_at_call 36; refine ((HE _).out).mono ?_; rintro e w2 ⟨⟨v, v0, v1, hv, rfl⟩, rfl⟩; have HVV := Lib.hid hv; clear hv))
  go_quiet (fail)
  go_wp2
  go_ret2
  exact ⟨⟨_, HVV.out, rfl⟩, bdrew hb1 _⟩
end Go.Proofs.YtbdheiepiolfhaaGreatDoor.E
