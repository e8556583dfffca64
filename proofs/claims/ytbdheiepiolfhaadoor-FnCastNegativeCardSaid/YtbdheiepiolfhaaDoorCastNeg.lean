/- cast's unsigned numbers of signed integers: toUnsignedNumber, toUnsignedNumberE, the forms with an error and the doors, over this seat's program. Written by gen_castneg.py. -/
import Derived.Test.YtbdheiepiolfhaaDoorCastSame
namespace Go.Proofs.YtbdheiepiolfhaaDoor.E
open Go.RowKit
set_option linter.unusedVariables false
set_option linter.unusedSimpArgs false


theorem unN_uint_int (c : Int) (h0 : -9223372036854775808 ≤ c) (h1 : c < 0) (w : World) :
    Calls Tryd.prog 129 #[.iface 3 (.int .i64 c)] w fun e w' => e = .returned (.tuple #[.int .u64 0, .bool false, .bool false]) ∧ w = w' := by
  have z0 := Tryd.no_uint 3 (by decide) (.int .i64 c)
  have z1 := Tryd.is_int (.int .i64 c)
  have h2 : ¬ 0 ≤ c := by omega
  go_enter Tryd.func129, Tryd.ntmps129
  go_wp2_with (go_at_call 49; refine (indirect_any 3 _ (by decide) (by decide) _).mono ?_; rintro e w' ⟨rfl, rfl⟩)
  go_ret3
  exact ⟨rfl, rfl⟩

theorem unEN_uint_int (c : Int) (h0 : -9223372036854775808 ≤ c) (h1 : c < 0) (pf : Value) (w : World) :
    Calls Tryd.prog 105 #[.iface 3 (.int .i64 c), pf] w fun e w' => (∃ T q, e = .returned (.tuple #[.int .u64 0, .iface T q])) ∧ w = w' := by
  have H := fun w => Lib.hid (unN_uint_int c h0 h1 w)
  go_enter Tryd.func105, Tryd.ntmps105
  go_wp2_with (first
    | (go_at_call 129; refine ((H _).out).mono ?_; rintro e w' ⟨rfl, rfl⟩)
    | (go_at_call 49; refine (indirect_any 3 _ (by decide) (by decide) _).mono ?_; rintro e w' ⟨rfl, rfl⟩))
  go_ret2
  exact ⟨⟨_, _, rfl⟩, rfl⟩

theorem unToN_uint_int (c : Int) (h0 : -9223372036854775808 ≤ c) (h1 : c < 0) (w : World) :
    Calls Tryd.prog 78 #[.iface 3 (.int .i64 c)] w fun e w' => (∃ T q, e = .returned (.tuple #[.int .u64 0, .iface T q])) ∧ w = w' := by
  have hmf : ∀ (fn : Fn) (first cap : Array Value) (w : World), (Instr.makeFunc fn first cap).run Tryd.prog w = .ok (.func fn first cap) w := fun _ _ _ _ => rfl
  have H := fun pf w => Lib.hid (unEN_uint_int c h0 h1 pf w)
  go_enter Tryd.func78, Tryd.ntmps78
  go_wp2_with (go_at_call 105; refine ((H _ _).out).mono ?_; rintro e w' ⟨⟨T, q, rfl⟩, rfl⟩)
  go_ret2
  exact ⟨⟨_, _, rfl⟩, rfl⟩

theorem doorN_uint_int (c : Int) (h0 : -9223372036854775808 ≤ c) (h1 : c < 0) (w : World) :
    Calls Tryd.prog 42 #[anyOf 2 c 0 0 ⟨#[]⟩] w fun e w' => (e = .returned (.tuple #[.int .u64 0, .bool false])) ∧ Below w.heap.size w w' := by
  have HV := fun w => Lib.hid (value_int c 0 0 ⟨#[]⟩ w (by omega) (by omega))
  have HE := fun w => Lib.hid (unToN_uint_int c h0 h1 w)
  unfold anyOf at HV ⊢
  go_enter Tryd.func42, Tryd.ntmps42
  go_wp2_with (first
    | (go_at_call 26; refine ((HV _).out).mono ?_; rintro e w1 ⟨rfl, hb0⟩; have hb1 : Below w.heap.size w w1 := ((Below.refl _ _).alloc (Nat.le_refl _) _).trans (hb0.mono (by simp)))
    | (go_at_call 78; refine ((HE _).out).mono ?_; rintro e w2 ⟨⟨T, q, rfl⟩, rfl⟩))
  go_quiet (fail)
  go_wp2
  go_ret2
  exact ⟨rfl, bdrew hb1 _⟩

theorem unP_uint_int (c : Int) (h0 : 0 ≤ c) (h1 : c ≤ 9223372036854775807) (w : World) :
    Calls Tryd.prog 129 #[.iface 3 (.int .i64 c)] w fun e w' => (∃ v : Int, 0 ≤ v ∧ v ≤ 18446744073709551615 ∧ e = .returned (.tuple #[.int .u64 v, .bool true, .bool true])) ∧ w = w' := by
  have z0 := Tryd.no_uint 3 (by decide) (.int .i64 c)
  have z1 := Tryd.is_int (.int .i64 c)
  have h2 : ¬ c < 0 := by omega
  go_enter Tryd.func129, Tryd.ntmps129
  go_wp2_with (go_at_call 49; refine (indirect_any 3 _ (by decide) (by decide) _).mono ?_; rintro e w' ⟨rfl, rfl⟩)
  go_ret3
  refine ⟨⟨_, ?_, ?_, rfl⟩, rfl⟩ <;> first | omega | (simp [wrap32, IntKind.wrap, IntKind.bits, IntKind.signed]; omega) | (simp [wrap32, IntKind.wrap, IntKind.bits, IntKind.signed])

theorem unEP_uint_int (c : Int) (h0 : 0 ≤ c) (h1 : c ≤ 9223372036854775807) (pf : Value) (w : World) :
    Calls Tryd.prog 105 #[.iface 3 (.int .i64 c), pf] w fun e w' => (∃ v : Int, 0 ≤ v ∧ v ≤ 18446744073709551615 ∧ e = .returned (.tuple #[.int .u64 v, .nilIface])) ∧ w = w' := by
  have H := fun w => Lib.hid (unP_uint_int c h0 h1 w)
  go_enter Tryd.func105, Tryd.ntmps105
  go_wp2_with (go_at_call 129; refine ((H _).out).mono ?_; rintro e w' ⟨⟨v, v0, v1, rfl⟩, rfl⟩)
  go_ret2
  exact ⟨⟨v, v0, v1, rfl⟩, rfl⟩

theorem unToP_uint_int (c : Int) (h0 : 0 ≤ c) (h1 : c ≤ 9223372036854775807) (w : World) :
    Calls Tryd.prog 78 #[.iface 3 (.int .i64 c)] w fun e w' => (∃ v : Int, 0 ≤ v ∧ v ≤ 18446744073709551615 ∧ e = .returned (.tuple #[.int .u64 v, .nilIface])) ∧ w = w' := by
  have hmf : ∀ (fn : Fn) (first cap : Array Value) (w : World), (Instr.makeFunc fn first cap).run Tryd.prog w = .ok (.func fn first cap) w := fun _ _ _ _ => rfl
  have H := fun pf w => Lib.hid (unEP_uint_int c h0 h1 pf w)
  go_enter Tryd.func78, Tryd.ntmps78
  go_wp2_with (go_at_call 105; refine ((H _ _).out).mono ?_; rintro e w' ⟨⟨v, v0, v1, rfl⟩, rfl⟩)
  go_ret2
  exact ⟨⟨v, v0, v1, rfl⟩, rfl⟩

theorem doorP_uint_int (c : Int) (h0 : 0 ≤ c) (h1 : c ≤ 9223372036854775807) (w : World) :
    Calls Tryd.prog 42 #[anyOf 2 c 0 0 ⟨#[]⟩] w fun e w' => (∃ v : Int, e = .returned (.tuple #[.int .u64 v, .bool true])) ∧ Below w.heap.size w w' := by
  have HV := fun w => Lib.hid (value_int c 0 0 ⟨#[]⟩ w (by omega) (by omega))
  have HE := fun w => Lib.hid (unToP_uint_int c h0 h1 w)
  unfold anyOf at HV ⊢
  go_enter Tryd.func42, Tryd.ntmps42
  go_wp2_with (first
    | (go_at_call 26; refine ((HV _).out).mono ?_; rintro e w1 ⟨rfl, hb0⟩; have hb1 : Below w.heap.size w w1 := ((Below.refl _ _).alloc (Nat.le_refl _) _).trans (hb0.mono (by simp)))
    | (go_at_call 78; refine ((HE _).out).mono ?_; rintro e w2 ⟨⟨v, v0, v1, rfl⟩, rfl⟩))
  go_quiet (fail)
  go_wp2
  go_ret2
  exact ⟨⟨_, rfl⟩, bdrew hb1 _⟩

theorem unN_uint_int8 (c : Int) (h0 : -128 ≤ c) (h1 : c < 0) (w : World) :
    Calls Tryd.prog 129 #[.iface 66 (.int .i8 c)] w fun e w' => e = .returned (.tuple #[.int .u64 0, .bool false, .bool false]) ∧ w = w' := by
  have z0 := Tryd.no_uint 66 (by decide) (.int .i8 c)
  have z1 := Tryd.no_int 66 (by decide) (.int .i8 c)
  have z2 := Tryd.is_int8 (.int .i8 c)
  have h2 : ¬ 0 ≤ c := by omega
  go_enter Tryd.func129, Tryd.ntmps129
  go_wp2_with (go_at_call 49; refine (indirect_any 66 _ (by decide) (by decide) _).mono ?_; rintro e w' ⟨rfl, rfl⟩)
  go_ret3
  exact ⟨rfl, rfl⟩

theorem unEN_uint_int8 (c : Int) (h0 : -128 ≤ c) (h1 : c < 0) (pf : Value) (w : World) :
    Calls Tryd.prog 105 #[.iface 66 (.int .i8 c), pf] w fun e w' => (∃ T q, e = .returned (.tuple #[.int .u64 0, .iface T q])) ∧ w = w' := by
  have H := fun w => Lib.hid (unN_uint_int8 c h0 h1 w)
  go_enter Tryd.func105, Tryd.ntmps105
  go_wp2_with (first
    | (go_at_call 129; refine ((H _).out).mono ?_; rintro e w' ⟨rfl, rfl⟩)
    | (go_at_call 49; refine (indirect_any 66 _ (by decide) (by decide) _).mono ?_; rintro e w' ⟨rfl, rfl⟩))
  go_ret2
  exact ⟨⟨_, _, rfl⟩, rfl⟩

theorem unToN_uint_int8 (c : Int) (h0 : -128 ≤ c) (h1 : c < 0) (w : World) :
    Calls Tryd.prog 78 #[.iface 66 (.int .i8 c)] w fun e w' => (∃ T q, e = .returned (.tuple #[.int .u64 0, .iface T q])) ∧ w = w' := by
  have hmf : ∀ (fn : Fn) (first cap : Array Value) (w : World), (Instr.makeFunc fn first cap).run Tryd.prog w = .ok (.func fn first cap) w := fun _ _ _ _ => rfl
  have H := fun pf w => Lib.hid (unEN_uint_int8 c h0 h1 pf w)
  go_enter Tryd.func78, Tryd.ntmps78
  go_wp2_with (go_at_call 105; refine ((H _ _).out).mono ?_; rintro e w' ⟨⟨T, q, rfl⟩, rfl⟩)
  go_ret2
  exact ⟨⟨_, _, rfl⟩, rfl⟩

theorem doorN_uint_int8 (c : Int) (h0 : -128 ≤ c) (h1 : c < 0) (w : World) :
    Calls Tryd.prog 42 #[anyOf 3 c 0 0 ⟨#[]⟩] w fun e w' => (e = .returned (.tuple #[.int .u64 0, .bool false])) ∧ Below w.heap.size w w' := by
  have HV := fun w => Lib.hid (value_int8 c 0 0 ⟨#[]⟩ w (by omega) (by omega))
  have hval : (IntKind.i8.wrap c) = c := by simp [wrap32, IntKind.wrap, IntKind.bits, IntKind.signed]; omega
  rw [hval] at HV
  clear hval
  have HE := fun w => Lib.hid (unToN_uint_int8 c h0 h1 w)
  unfold anyOf at HV ⊢
  go_enter Tryd.func42, Tryd.ntmps42
  go_wp2_with (first
    | (go_at_call 26; refine ((HV _).out).mono ?_; rintro e w1 ⟨rfl, hb0⟩; have hb1 : Below w.heap.size w w1 := ((Below.refl _ _).alloc (Nat.le_refl _) _).trans (hb0.mono (by simp)))
    | (go_at_call 78; refine ((HE _).out).mono ?_; rintro e w2 ⟨⟨T, q, rfl⟩, rfl⟩))
  go_quiet (fail)
  go_wp2
  go_ret2
  exact ⟨rfl, bdrew hb1 _⟩

theorem unP_uint_int8 (c : Int) (h0 : 0 ≤ c) (h1 : c ≤ 127) (w : World) :
    Calls Tryd.prog 129 #[.iface 66 (.int .i8 c)] w fun e w' => (∃ v : Int, 0 ≤ v ∧ v ≤ 18446744073709551615 ∧ e = .returned (.tuple #[.int .u64 v, .bool true, .bool true])) ∧ w = w' := by
  have z0 := Tryd.no_uint 66 (by decide) (.int .i8 c)
  have z1 := Tryd.no_int 66 (by decide) (.int .i8 c)
  have z2 := Tryd.is_int8 (.int .i8 c)
  have h2 : ¬ c < 0 := by omega
  go_enter Tryd.func129, Tryd.ntmps129
  go_wp2_with (go_at_call 49; refine (indirect_any 66 _ (by decide) (by decide) _).mono ?_; rintro e w' ⟨rfl, rfl⟩)
  go_ret3
  refine ⟨⟨_, ?_, ?_, rfl⟩, rfl⟩ <;> first | omega | (simp [wrap32, IntKind.wrap, IntKind.bits, IntKind.signed]; omega) | (simp [wrap32, IntKind.wrap, IntKind.bits, IntKind.signed])

theorem unEP_uint_int8 (c : Int) (h0 : 0 ≤ c) (h1 : c ≤ 127) (pf : Value) (w : World) :
    Calls Tryd.prog 105 #[.iface 66 (.int .i8 c), pf] w fun e w' => (∃ v : Int, 0 ≤ v ∧ v ≤ 18446744073709551615 ∧ e = .returned (.tuple #[.int .u64 v, .nilIface])) ∧ w = w' := by
  have H := fun w => Lib.hid (unP_uint_int8 c h0 h1 w)
  go_enter Tryd.func105, Tryd.ntmps105
  go_wp2_with (go_at_call 129; refine ((H _).out).mono ?_; rintro e w' ⟨⟨v, v0, v1, rfl⟩, rfl⟩)
  go_ret2
  exact ⟨⟨v, v0, v1, rfl⟩, rfl⟩

theorem unToP_uint_int8 (c : Int) (h0 : 0 ≤ c) (h1 : c ≤ 127) (w : World) :
    Calls Tryd.prog 78 #[.iface 66 (.int .i8 c)] w fun e w' => (∃ v : Int, 0 ≤ v ∧ v ≤ 18446744073709551615 ∧ e = .returned (.tuple #[.int .u64 v, .nilIface])) ∧ w = w' := by
  have hmf : ∀ (fn : Fn) (first cap : Array Value) (w : World), (Instr.makeFunc fn first cap).run Tryd.prog w = .ok (.func fn first cap) w := fun _ _ _ _ => rfl
  have H := fun pf w => Lib.hid (unEP_uint_int8 c h0 h1 pf w)
  go_enter Tryd.func78, Tryd.ntmps78
  go_wp2_with (go_at_call 105; refine ((H _ _).out).mono ?_; rintro e w' ⟨⟨v, v0, v1, rfl⟩, rfl⟩)
  go_ret2
  exact ⟨⟨v, v0, v1, rfl⟩, rfl⟩

theorem doorP_uint_int8 (c : Int) (h0 : 0 ≤ c) (h1 : c ≤ 127) (w : World) :
    Calls Tryd.prog 42 #[anyOf 3 c 0 0 ⟨#[]⟩] w fun e w' => (∃ v : Int, e = .returned (.tuple #[.int .u64 v, .bool true])) ∧ Below w.heap.size w w' := by
  have HV := fun w => Lib.hid (value_int8 c 0 0 ⟨#[]⟩ w (by omega) (by omega))
  have hval : (IntKind.i8.wrap c) = c := by simp [wrap32, IntKind.wrap, IntKind.bits, IntKind.signed]; omega
  rw [hval] at HV
  clear hval
  have HE := fun w => Lib.hid (unToP_uint_int8 c h0 h1 w)
  unfold anyOf at HV ⊢
  go_enter Tryd.func42, Tryd.ntmps42
  go_wp2_with (first
    | (go_at_call 26; refine ((HV _).out).mono ?_; rintro e w1 ⟨rfl, hb0⟩; have hb1 : Below w.heap.size w w1 := ((Below.refl _ _).alloc (Nat.le_refl _) _).trans (hb0.mono (by simp)))
    | (go_at_call 78; refine ((HE _).out).mono ?_; rintro e w2 ⟨⟨v, v0, v1, rfl⟩, rfl⟩))
  go_quiet (fail)
  go_wp2
  go_ret2
  exact ⟨⟨_, rfl⟩, bdrew hb1 _⟩

theorem unN_uint_int16 (c : Int) (h0 : -32768 ≤ c) (h1 : c < 0) (w : World) :
    Calls Tryd.prog 129 #[.iface 67 (.int .i16 c)] w fun e w' => e = .returned (.tuple #[.int .u64 0, .bool false, .bool false]) ∧ w = w' := by
  have z0 := Tryd.no_uint 67 (by decide) (.int .i16 c)
  have z1 := Tryd.no_int 67 (by decide) (.int .i16 c)
  have z2 := Tryd.no_int8 67 (by decide) (.int .i16 c)
  have z3 := Tryd.is_int16 (.int .i16 c)
  have h2 : ¬ 0 ≤ c := by omega
  go_enter Tryd.func129, Tryd.ntmps129
  go_wp2_with (go_at_call 49; refine (indirect_any 67 _ (by decide) (by decide) _).mono ?_; rintro e w' ⟨rfl, rfl⟩)
  go_ret3
  exact ⟨rfl, rfl⟩

theorem unEN_uint_int16 (c : Int) (h0 : -32768 ≤ c) (h1 : c < 0) (pf : Value) (w : World) :
    Calls Tryd.prog 105 #[.iface 67 (.int .i16 c), pf] w fun e w' => (∃ T q, e = .returned (.tuple #[.int .u64 0, .iface T q])) ∧ w = w' := by
  have H := fun w => Lib.hid (unN_uint_int16 c h0 h1 w)
  go_enter Tryd.func105, Tryd.ntmps105
  go_wp2_with (first
    | (go_at_call 129; refine ((H _).out).mono ?_; rintro e w' ⟨rfl, rfl⟩)
    | (go_at_call 49; refine (indirect_any 67 _ (by decide) (by decide) _).mono ?_; rintro e w' ⟨rfl, rfl⟩))
  go_ret2
  exact ⟨⟨_, _, rfl⟩, rfl⟩

theorem unToN_uint_int16 (c : Int) (h0 : -32768 ≤ c) (h1 : c < 0) (w : World) :
    Calls Tryd.prog 78 #[.iface 67 (.int .i16 c)] w fun e w' => (∃ T q, e = .returned (.tuple #[.int .u64 0, .iface T q])) ∧ w = w' := by
  have hmf : ∀ (fn : Fn) (first cap : Array Value) (w : World), (Instr.makeFunc fn first cap).run Tryd.prog w = .ok (.func fn first cap) w := fun _ _ _ _ => rfl
  have H := fun pf w => Lib.hid (unEN_uint_int16 c h0 h1 pf w)
  go_enter Tryd.func78, Tryd.ntmps78
  go_wp2_with (go_at_call 105; refine ((H _ _).out).mono ?_; rintro e w' ⟨⟨T, q, rfl⟩, rfl⟩)
  go_ret2
  exact ⟨⟨_, _, rfl⟩, rfl⟩

theorem doorN_uint_int16 (c : Int) (h0 : -32768 ≤ c) (h1 : c < 0) (w : World) :
    Calls Tryd.prog 42 #[anyOf 4 c 0 0 ⟨#[]⟩] w fun e w' => (e = .returned (.tuple #[.int .u64 0, .bool false])) ∧ Below w.heap.size w w' := by
  have HV := fun w => Lib.hid (value_int16 c 0 0 ⟨#[]⟩ w (by omega) (by omega))
  have hval : (IntKind.i16.wrap c) = c := by simp [wrap32, IntKind.wrap, IntKind.bits, IntKind.signed]; omega
  rw [hval] at HV
  clear hval
  have HE := fun w => Lib.hid (unToN_uint_int16 c h0 h1 w)
  unfold anyOf at HV ⊢
  go_enter Tryd.func42, Tryd.ntmps42
  go_wp2_with (first
    | (go_at_call 26; refine ((HV _).out).mono ?_; rintro e w1 ⟨rfl, hb0⟩; have hb1 : Below w.heap.size w w1 := ((Below.refl _ _).alloc (Nat.le_refl _) _).trans (hb0.mono (by simp)))
    | (go_at_call 78; refine ((HE _).out).mono ?_; rintro e w2 ⟨⟨T, q, rfl⟩, rfl⟩))
  go_quiet (fail)
  go_wp2
  go_ret2
  exact ⟨rfl, bdrew hb1 _⟩

theorem unP_uint_int16 (c : Int) (h0 : 0 ≤ c) (h1 : c ≤ 32767) (w : World) :
    Calls Tryd.prog 129 #[.iface 67 (.int .i16 c)] w fun e w' => (∃ v : Int, 0 ≤ v ∧ v ≤ 18446744073709551615 ∧ e = .returned (.tuple #[.int .u64 v, .bool true, .bool true])) ∧ w = w' := by
  have z0 := Tryd.no_uint 67 (by decide) (.int .i16 c)
  have z1 := Tryd.no_int 67 (by decide) (.int .i16 c)
  have z2 := Tryd.no_int8 67 (by decide) (.int .i16 c)
  have z3 := Tryd.is_int16 (.int .i16 c)
  have h2 : ¬ c < 0 := by omega
  go_enter Tryd.func129, Tryd.ntmps129
  go_wp2_with (go_at_call 49; refine (indirect_any 67 _ (by decide) (by decide) _).mono ?_; rintro e w' ⟨rfl, rfl⟩)
  go_ret3
  refine ⟨⟨_, ?_, ?_, rfl⟩, rfl⟩ <;> first | omega | (simp [wrap32, IntKind.wrap, IntKind.bits, IntKind.signed]; omega) | (simp [wrap32, IntKind.wrap, IntKind.bits, IntKind.signed])

theorem unEP_uint_int16 (c : Int) (h0 : 0 ≤ c) (h1 : c ≤ 32767) (pf : Value) (w : World) :
    Calls Tryd.prog 105 #[.iface 67 (.int .i16 c), pf] w fun e w' => (∃ v : Int, 0 ≤ v ∧ v ≤ 18446744073709551615 ∧ e = .returned (.tuple #[.int .u64 v, .nilIface])) ∧ w = w' := by
  have H := fun w => Lib.hid (unP_uint_int16 c h0 h1 w)
  go_enter Tryd.func105, Tryd.ntmps105
  go_wp2_with (go_at_call 129; refine ((H _).out).mono ?_; rintro e w' ⟨⟨v, v0, v1, rfl⟩, rfl⟩)
  go_ret2
  exact ⟨⟨v, v0, v1, rfl⟩, rfl⟩

theorem unToP_uint_int16 (c : Int) (h0 : 0 ≤ c) (h1 : c ≤ 32767) (w : World) :
    Calls Tryd.prog 78 #[.iface 67 (.int .i16 c)] w fun e w' => (∃ v : Int, 0 ≤ v ∧ v ≤ 18446744073709551615 ∧ e = .returned (.tuple #[.int .u64 v, .nilIface])) ∧ w = w' := by
  have hmf : ∀ (fn : Fn) (first cap : Array Value) (w : World), (Instr.makeFunc fn first cap).run Tryd.prog w = .ok (.func fn first cap) w := fun _ _ _ _ => rfl
  have H := fun pf w => Lib.hid (unEP_uint_int16 c h0 h1 pf w)
  go_enter Tryd.func78, Tryd.ntmps78
  go_wp2_with (go_at_call 105; refine ((H _ _).out).mono ?_; rintro e w' ⟨⟨v, v0, v1, rfl⟩, rfl⟩)
  go_ret2
  exact ⟨⟨v, v0, v1, rfl⟩, rfl⟩

theorem doorP_uint_int16 (c : Int) (h0 : 0 ≤ c) (h1 : c ≤ 32767) (w : World) :
    Calls Tryd.prog 42 #[anyOf 4 c 0 0 ⟨#[]⟩] w fun e w' => (∃ v : Int, e = .returned (.tuple #[.int .u64 v, .bool true])) ∧ Below w.heap.size w w' := by
  have HV := fun w => Lib.hid (value_int16 c 0 0 ⟨#[]⟩ w (by omega) (by omega))
  have hval : (IntKind.i16.wrap c) = c := by simp [wrap32, IntKind.wrap, IntKind.bits, IntKind.signed]; omega
  rw [hval] at HV
  clear hval
  have HE := fun w => Lib.hid (unToP_uint_int16 c h0 h1 w)
  unfold anyOf at HV ⊢
  go_enter Tryd.func42, Tryd.ntmps42
  go_wp2_with (first
    | (go_at_call 26; refine ((HV _).out).mono ?_; rintro e w1 ⟨rfl, hb0⟩; have hb1 : Below w.heap.size w w1 := ((Below.refl _ _).alloc (Nat.le_refl _) _).trans (hb0.mono (by simp)))
    | (go_at_call 78; refine ((HE _).out).mono ?_; rintro e w2 ⟨⟨v, v0, v1, rfl⟩, rfl⟩))
  go_quiet (fail)
  go_wp2
  go_ret2
  exact ⟨⟨_, rfl⟩, bdrew hb1 _⟩

theorem unN_uint_int32 (c : Int) (h0 : -2147483648 ≤ c) (h1 : c < 0) (w : World) :
    Calls Tryd.prog 129 #[.iface 21 (.int .i32 c)] w fun e w' => e = .returned (.tuple #[.int .u64 0, .bool false, .bool false]) ∧ w = w' := by
  have z0 := Tryd.no_uint 21 (by decide) (.int .i32 c)
  have z1 := Tryd.no_int 21 (by decide) (.int .i32 c)
  have z2 := Tryd.no_int8 21 (by decide) (.int .i32 c)
  have z3 := Tryd.no_int16 21 (by decide) (.int .i32 c)
  have z4 := Tryd.is_int32 (.int .i32 c)
  have h2 : ¬ 0 ≤ c := by omega
  go_enter Tryd.func129, Tryd.ntmps129
  go_wp2_with (go_at_call 49; refine (indirect_any 21 _ (by decide) (by decide) _).mono ?_; rintro e w' ⟨rfl, rfl⟩)
  go_ret3
  exact ⟨rfl, rfl⟩

theorem unEN_uint_int32 (c : Int) (h0 : -2147483648 ≤ c) (h1 : c < 0) (pf : Value) (w : World) :
    Calls Tryd.prog 105 #[.iface 21 (.int .i32 c), pf] w fun e w' => (∃ T q, e = .returned (.tuple #[.int .u64 0, .iface T q])) ∧ w = w' := by
  have H := fun w => Lib.hid (unN_uint_int32 c h0 h1 w)
  go_enter Tryd.func105, Tryd.ntmps105
  go_wp2_with (first
    | (go_at_call 129; refine ((H _).out).mono ?_; rintro e w' ⟨rfl, rfl⟩)
    | (go_at_call 49; refine (indirect_any 21 _ (by decide) (by decide) _).mono ?_; rintro e w' ⟨rfl, rfl⟩))
  go_ret2
  exact ⟨⟨_, _, rfl⟩, rfl⟩

theorem unToN_uint_int32 (c : Int) (h0 : -2147483648 ≤ c) (h1 : c < 0) (w : World) :
    Calls Tryd.prog 78 #[.iface 21 (.int .i32 c)] w fun e w' => (∃ T q, e = .returned (.tuple #[.int .u64 0, .iface T q])) ∧ w = w' := by
  have hmf : ∀ (fn : Fn) (first cap : Array Value) (w : World), (Instr.makeFunc fn first cap).run Tryd.prog w = .ok (.func fn first cap) w := fun _ _ _ _ => rfl
  have H := fun pf w => Lib.hid (unEN_uint_int32 c h0 h1 pf w)
  go_enter Tryd.func78, Tryd.ntmps78
  go_wp2_with (go_at_call 105; refine ((H _ _).out).mono ?_; rintro e w' ⟨⟨T, q, rfl⟩, rfl⟩)
  go_ret2
  exact ⟨⟨_, _, rfl⟩, rfl⟩

theorem doorN_uint_int32 (c : Int) (h0 : -2147483648 ≤ c) (h1 : c < 0) (w : World) :
    Calls Tryd.prog 42 #[anyOf 5 c 0 0 ⟨#[]⟩] w fun e w' => (e = .returned (.tuple #[.int .u64 0, .bool false])) ∧ Below w.heap.size w w' := by
  have HV := fun w => Lib.hid (value_int32 c 0 0 ⟨#[]⟩ w (by omega) (by omega))
  have hval : (wrap32 c) = c := by simp [wrap32, IntKind.wrap, IntKind.bits, IntKind.signed]; omega
  rw [hval] at HV
  clear hval
  have HE := fun w => Lib.hid (unToN_uint_int32 c h0 h1 w)
  unfold anyOf at HV ⊢
  go_enter Tryd.func42, Tryd.ntmps42
  go_wp2_with (first
    | (go_at_call 26; refine ((HV _).out).mono ?_; rintro e w1 ⟨rfl, hb0⟩; have hb1 : Below w.heap.size w w1 := ((Below.refl _ _).alloc (Nat.le_refl _) _).trans (hb0.mono (by simp)))
    | (go_at_call 78; refine ((HE _).out).mono ?_; rintro e w2 ⟨⟨T, q, rfl⟩, rfl⟩))
  go_quiet (fail)
  go_wp2
  go_ret2
  exact ⟨rfl, bdrew hb1 _⟩

theorem unP_uint_int32 (c : Int) (h0 : 0 ≤ c) (h1 : c ≤ 2147483647) (w : World) :
    Calls Tryd.prog 129 #[.iface 21 (.int .i32 c)] w fun e w' => (∃ v : Int, 0 ≤ v ∧ v ≤ 18446744073709551615 ∧ e = .returned (.tuple #[.int .u64 v, .bool true, .bool true])) ∧ w = w' := by
  have z0 := Tryd.no_uint 21 (by decide) (.int .i32 c)
  have z1 := Tryd.no_int 21 (by decide) (.int .i32 c)
  have z2 := Tryd.no_int8 21 (by decide) (.int .i32 c)
  have z3 := Tryd.no_int16 21 (by decide) (.int .i32 c)
  have z4 := Tryd.is_int32 (.int .i32 c)
  have h2 : ¬ c < 0 := by omega
  go_enter Tryd.func129, Tryd.ntmps129
  go_wp2_with (go_at_call 49; refine (indirect_any 21 _ (by decide) (by decide) _).mono ?_; rintro e w' ⟨rfl, rfl⟩)
  go_ret3
  refine ⟨⟨_, ?_, ?_, rfl⟩, rfl⟩ <;> first | omega | (simp [wrap32, IntKind.wrap, IntKind.bits, IntKind.signed]; omega) | (simp [wrap32, IntKind.wrap, IntKind.bits, IntKind.signed])

theorem unEP_uint_int32 (c : Int) (h0 : 0 ≤ c) (h1 : c ≤ 2147483647) (pf : Value) (w : World) :
    Calls Tryd.prog 105 #[.iface 21 (.int .i32 c), pf] w fun e w' => (∃ v : Int, 0 ≤ v ∧ v ≤ 18446744073709551615 ∧ e = .returned (.tuple #[.int .u64 v, .nilIface])) ∧ w = w' := by
  have H := fun w => Lib.hid (unP_uint_int32 c h0 h1 w)
  go_enter Tryd.func105, Tryd.ntmps105
  go_wp2_with (go_at_call 129; refine ((H _).out).mono ?_; rintro e w' ⟨⟨v, v0, v1, rfl⟩, rfl⟩)
  go_ret2
  exact ⟨⟨v, v0, v1, rfl⟩, rfl⟩

theorem unToP_uint_int32 (c : Int) (h0 : 0 ≤ c) (h1 : c ≤ 2147483647) (w : World) :
    Calls Tryd.prog 78 #[.iface 21 (.int .i32 c)] w fun e w' => (∃ v : Int, 0 ≤ v ∧ v ≤ 18446744073709551615 ∧ e = .returned (.tuple #[.int .u64 v, .nilIface])) ∧ w = w' := by
  have hmf : ∀ (fn : Fn) (first cap : Array Value) (w : World), (Instr.makeFunc fn first cap).run Tryd.prog w = .ok (.func fn first cap) w := fun _ _ _ _ => rfl
  have H := fun pf w => Lib.hid (unEP_uint_int32 c h0 h1 pf w)
  go_enter Tryd.func78, Tryd.ntmps78
  go_wp2_with (go_at_call 105; refine ((H _ _).out).mono ?_; rintro e w' ⟨⟨v, v0, v1, rfl⟩, rfl⟩)
  go_ret2
  exact ⟨⟨v, v0, v1, rfl⟩, rfl⟩

theorem doorP_uint_int32 (c : Int) (h0 : 0 ≤ c) (h1 : c ≤ 2147483647) (w : World) :
    Calls Tryd.prog 42 #[anyOf 5 c 0 0 ⟨#[]⟩] w fun e w' => (∃ v : Int, e = .returned (.tuple #[.int .u64 v, .bool true])) ∧ Below w.heap.size w w' := by
  have HV := fun w => Lib.hid (value_int32 c 0 0 ⟨#[]⟩ w (by omega) (by omega))
  have hval : (wrap32 c) = c := by simp [wrap32, IntKind.wrap, IntKind.bits, IntKind.signed]; omega
  rw [hval] at HV
  clear hval
  have HE := fun w => Lib.hid (unToP_uint_int32 c h0 h1 w)
  unfold anyOf at HV ⊢
  go_enter Tryd.func42, Tryd.ntmps42
  go_wp2_with (first
    | (go_at_call 26; refine ((HV _).out).mono ?_; rintro e w1 ⟨rfl, hb0⟩; have hb1 : Below w.heap.size w w1 := ((Below.refl _ _).alloc (Nat.le_refl _) _).trans (hb0.mono (by simp)))
    | (go_at_call 78; refine ((HE _).out).mono ?_; rintro e w2 ⟨⟨v, v0, v1, rfl⟩, rfl⟩))
  go_quiet (fail)
  go_wp2
  go_ret2
  exact ⟨⟨_, rfl⟩, bdrew hb1 _⟩

theorem unN_uint_int64 (c : Int) (h0 : -9223372036854775808 ≤ c) (h1 : c < 0) (w : World) :
    Calls Tryd.prog 129 #[.iface 2 (.int .i64 c)] w fun e w' => e = .returned (.tuple #[.int .u64 0, .bool false, .bool false]) ∧ w = w' := by
  have z0 := Tryd.no_uint 2 (by decide) (.int .i64 c)
  have z1 := Tryd.no_int 2 (by decide) (.int .i64 c)
  have z2 := Tryd.no_int8 2 (by decide) (.int .i64 c)
  have z3 := Tryd.no_int16 2 (by decide) (.int .i64 c)
  have z4 := Tryd.no_int32 2 (by decide) (.int .i64 c)
  have z5 := Tryd.is_int64 (.int .i64 c)
  have h2 : ¬ 0 ≤ c := by omega
  go_enter Tryd.func129, Tryd.ntmps129
  go_wp2_with (go_at_call 49; refine (indirect_any 2 _ (by decide) (by decide) _).mono ?_; rintro e w' ⟨rfl, rfl⟩)
  go_ret3
  exact ⟨rfl, rfl⟩

theorem unEN_uint_int64 (c : Int) (h0 : -9223372036854775808 ≤ c) (h1 : c < 0) (pf : Value) (w : World) :
    Calls Tryd.prog 105 #[.iface 2 (.int .i64 c), pf] w fun e w' => (∃ T q, e = .returned (.tuple #[.int .u64 0, .iface T q])) ∧ w = w' := by
  have H := fun w => Lib.hid (unN_uint_int64 c h0 h1 w)
  go_enter Tryd.func105, Tryd.ntmps105
  go_wp2_with (first
    | (go_at_call 129; refine ((H _).out).mono ?_; rintro e w' ⟨rfl, rfl⟩)
    | (go_at_call 49; refine (indirect_any 2 _ (by decide) (by decide) _).mono ?_; rintro e w' ⟨rfl, rfl⟩))
  go_ret2
  exact ⟨⟨_, _, rfl⟩, rfl⟩

theorem unToN_uint_int64 (c : Int) (h0 : -9223372036854775808 ≤ c) (h1 : c < 0) (w : World) :
    Calls Tryd.prog 78 #[.iface 2 (.int .i64 c)] w fun e w' => (∃ T q, e = .returned (.tuple #[.int .u64 0, .iface T q])) ∧ w = w' := by
  have hmf : ∀ (fn : Fn) (first cap : Array Value) (w : World), (Instr.makeFunc fn first cap).run Tryd.prog w = .ok (.func fn first cap) w := fun _ _ _ _ => rfl
  have H := fun pf w => Lib.hid (unEN_uint_int64 c h0 h1 pf w)
  go_enter Tryd.func78, Tryd.ntmps78
  go_wp2_with (go_at_call 105; refine ((H _ _).out).mono ?_; rintro e w' ⟨⟨T, q, rfl⟩, rfl⟩)
  go_ret2
  exact ⟨⟨_, _, rfl⟩, rfl⟩

theorem doorN_uint_int64 (c : Int) (h0 : -9223372036854775808 ≤ c) (h1 : c < 0) (w : World) :
    Calls Tryd.prog 42 #[anyOf 6 c 0 0 ⟨#[]⟩] w fun e w' => (e = .returned (.tuple #[.int .u64 0, .bool false])) ∧ Below w.heap.size w w' := by
  have HV := fun w => Lib.hid (value_int64 c 0 0 ⟨#[]⟩ w (by omega) (by omega))
  have HE := fun w => Lib.hid (unToN_uint_int64 c h0 h1 w)
  unfold anyOf at HV ⊢
  go_enter Tryd.func42, Tryd.ntmps42
  go_wp2_with (first
    | (go_at_call 26; refine ((HV _).out).mono ?_; rintro e w1 ⟨rfl, hb0⟩; have hb1 : Below w.heap.size w w1 := ((Below.refl _ _).alloc (Nat.le_refl _) _).trans (hb0.mono (by simp)))
    | (go_at_call 78; refine ((HE _).out).mono ?_; rintro e w2 ⟨⟨T, q, rfl⟩, rfl⟩))
  go_quiet (fail)
  go_wp2
  go_ret2
  exact ⟨rfl, bdrew hb1 _⟩

theorem unP_uint_int64 (c : Int) (h0 : 0 ≤ c) (h1 : c ≤ 9223372036854775807) (w : World) :
    Calls Tryd.prog 129 #[.iface 2 (.int .i64 c)] w fun e w' => (∃ v : Int, 0 ≤ v ∧ v ≤ 18446744073709551615 ∧ e = .returned (.tuple #[.int .u64 v, .bool true, .bool true])) ∧ w = w' := by
  have z0 := Tryd.no_uint 2 (by decide) (.int .i64 c)
  have z1 := Tryd.no_int 2 (by decide) (.int .i64 c)
  have z2 := Tryd.no_int8 2 (by decide) (.int .i64 c)
  have z3 := Tryd.no_int16 2 (by decide) (.int .i64 c)
  have z4 := Tryd.no_int32 2 (by decide) (.int .i64 c)
  have z5 := Tryd.is_int64 (.int .i64 c)
  have h2 : ¬ c < 0 := by omega
  go_enter Tryd.func129, Tryd.ntmps129
  go_wp2_with (go_at_call 49; refine (indirect_any 2 _ (by decide) (by decide) _).mono ?_; rintro e w' ⟨rfl, rfl⟩)
  go_ret3
  refine ⟨⟨_, ?_, ?_, rfl⟩, rfl⟩ <;> first | omega | (simp [wrap32, IntKind.wrap, IntKind.bits, IntKind.signed]; omega) | (simp [wrap32, IntKind.wrap, IntKind.bits, IntKind.signed])

theorem unEP_uint_int64 (c : Int) (h0 : 0 ≤ c) (h1 : c ≤ 9223372036854775807) (pf : Value) (w : World) :
    Calls Tryd.prog 105 #[.iface 2 (.int .i64 c), pf] w fun e w' => (∃ v : Int, 0 ≤ v ∧ v ≤ 18446744073709551615 ∧ e = .returned (.tuple #[.int .u64 v, .nilIface])) ∧ w = w' := by
  have H := fun w => Lib.hid (unP_uint_int64 c h0 h1 w)
  go_enter Tryd.func105, Tryd.ntmps105
  go_wp2_with (go_at_call 129; refine ((H _).out).mono ?_; rintro e w' ⟨⟨v, v0, v1, rfl⟩, rfl⟩)
  go_ret2
  exact ⟨⟨v, v0, v1, rfl⟩, rfl⟩

theorem unToP_uint_int64 (c : Int) (h0 : 0 ≤ c) (h1 : c ≤ 9223372036854775807) (w : World) :
    Calls Tryd.prog 78 #[.iface 2 (.int .i64 c)] w fun e w' => (∃ v : Int, 0 ≤ v ∧ v ≤ 18446744073709551615 ∧ e = .returned (.tuple #[.int .u64 v, .nilIface])) ∧ w = w' := by
  have hmf : ∀ (fn : Fn) (first cap : Array Value) (w : World), (Instr.makeFunc fn first cap).run Tryd.prog w = .ok (.func fn first cap) w := fun _ _ _ _ => rfl
  have H := fun pf w => Lib.hid (unEP_uint_int64 c h0 h1 pf w)
  go_enter Tryd.func78, Tryd.ntmps78
  go_wp2_with (go_at_call 105; refine ((H _ _).out).mono ?_; rintro e w' ⟨⟨v, v0, v1, rfl⟩, rfl⟩)
  go_ret2
  exact ⟨⟨v, v0, v1, rfl⟩, rfl⟩

theorem doorP_uint_int64 (c : Int) (h0 : 0 ≤ c) (h1 : c ≤ 9223372036854775807) (w : World) :
    Calls Tryd.prog 42 #[anyOf 6 c 0 0 ⟨#[]⟩] w fun e w' => (∃ v : Int, e = .returned (.tuple #[.int .u64 v, .bool true])) ∧ Below w.heap.size w w' := by
  have HV := fun w => Lib.hid (value_int64 c 0 0 ⟨#[]⟩ w (by omega) (by omega))
  have HE := fun w => Lib.hid (unToP_uint_int64 c h0 h1 w)
  unfold anyOf at HV ⊢
  go_enter Tryd.func42, Tryd.ntmps42
  go_wp2_with (first
    | (go_at_call 26; refine ((HV _).out).mono ?_; rintro e w1 ⟨rfl, hb0⟩; have hb1 : Below w.heap.size w w1 := ((Below.refl _ _).alloc (Nat.le_refl _) _).trans (hb0.mono (by simp)))
    | (go_at_call 78; refine ((HE _).out).mono ?_; rintro e w2 ⟨⟨v, v0, v1, rfl⟩, rfl⟩))
  go_quiet (fail)
  go_wp2
  go_ret2
  exact ⟨⟨_, rfl⟩, bdrew hb1 _⟩

theorem unN_uint8_int (c : Int) (h0 : -9223372036854775808 ≤ c) (h1 : c < 0) (w : World) :
    Calls Tryd.prog 123 #[.iface 3 (.int .i64 c)] w fun e w' => e = .returned (.tuple #[.int .u8 0, .bool false, .bool false]) ∧ w = w' := by
  have z0 := Tryd.no_uint8 3 (by decide) (.int .i64 c)
  have z1 := Tryd.is_int (.int .i64 c)
  have h2 : ¬ 0 ≤ c := by omega
  go_enter Tryd.func123, Tryd.ntmps123
  go_wp2_with (go_at_call 49; refine (indirect_any 3 _ (by decide) (by decide) _).mono ?_; rintro e w' ⟨rfl, rfl⟩)
  go_ret3
  exact ⟨rfl, rfl⟩

theorem unEN_uint8_int (c : Int) (h0 : -9223372036854775808 ≤ c) (h1 : c < 0) (pf : Value) (w : World) :
    Calls Tryd.prog 97 #[.iface 3 (.int .i64 c), pf] w fun e w' => (∃ T q, e = .returned (.tuple #[.int .u8 0, .iface T q])) ∧ w = w' := by
  have H := fun w => Lib.hid (unN_uint8_int c h0 h1 w)
  go_enter Tryd.func97, Tryd.ntmps97
  go_wp2_with (first
    | (go_at_call 123; refine ((H _).out).mono ?_; rintro e w' ⟨rfl, rfl⟩)
    | (go_at_call 49; refine (indirect_any 3 _ (by decide) (by decide) _).mono ?_; rintro e w' ⟨rfl, rfl⟩))
  go_ret2
  exact ⟨⟨_, _, rfl⟩, rfl⟩

theorem unToN_uint8_int (c : Int) (h0 : -9223372036854775808 ≤ c) (h1 : c < 0) (w : World) :
    Calls Tryd.prog 74 #[.iface 3 (.int .i64 c)] w fun e w' => (∃ T q, e = .returned (.tuple #[.int .u8 0, .iface T q])) ∧ w = w' := by
  have hmf : ∀ (fn : Fn) (first cap : Array Value) (w : World), (Instr.makeFunc fn first cap).run Tryd.prog w = .ok (.func fn first cap) w := fun _ _ _ _ => rfl
  have H := fun pf w => Lib.hid (unEN_uint8_int c h0 h1 pf w)
  go_enter Tryd.func74, Tryd.ntmps74
  go_wp2_with (go_at_call 97; refine ((H _ _).out).mono ?_; rintro e w' ⟨⟨T, q, rfl⟩, rfl⟩)
  go_ret2
  exact ⟨⟨_, _, rfl⟩, rfl⟩

theorem doorN_uint8_int (c : Int) (h0 : -9223372036854775808 ≤ c) (h1 : c < 0) (w : World) :
    Calls Tryd.prog 38 #[anyOf 2 c 0 0 ⟨#[]⟩] w fun e w' => (e = .returned (.tuple #[.int .u64 0, .bool false])) ∧ Below w.heap.size w w' := by
  have HV := fun w => Lib.hid (value_int c 0 0 ⟨#[]⟩ w (by omega) (by omega))
  have HE := fun w => Lib.hid (unToN_uint8_int c h0 h1 w)
  unfold anyOf at HV ⊢
  go_enter Tryd.func38, Tryd.ntmps38
  go_wp2_with (first
    | (go_at_call 26; refine ((HV _).out).mono ?_; rintro e w1 ⟨rfl, hb0⟩; have hb1 : Below w.heap.size w w1 := ((Below.refl _ _).alloc (Nat.le_refl _) _).trans (hb0.mono (by simp)))
    | (go_at_call 74; refine ((HE _).out).mono ?_; rintro e w2 ⟨⟨T, q, rfl⟩, rfl⟩))
  go_quiet (fail)
  go_wp2
  go_ret2
  exact ⟨rfl, bdrew hb1 _⟩

theorem unP_uint8_int (c : Int) (h0 : 0 ≤ c) (h1 : c ≤ 9223372036854775807) (w : World) :
    Calls Tryd.prog 123 #[.iface 3 (.int .i64 c)] w fun e w' => (∃ v : Int, 0 ≤ v ∧ v ≤ 255 ∧ e = .returned (.tuple #[.int .u8 v, .bool true, .bool true])) ∧ w = w' := by
  have z0 := Tryd.no_uint8 3 (by decide) (.int .i64 c)
  have z1 := Tryd.is_int (.int .i64 c)
  have h2 : ¬ c < 0 := by omega
  go_enter Tryd.func123, Tryd.ntmps123
  go_wp2_with (go_at_call 49; refine (indirect_any 3 _ (by decide) (by decide) _).mono ?_; rintro e w' ⟨rfl, rfl⟩)
  go_ret3
  refine ⟨⟨_, ?_, ?_, rfl⟩, rfl⟩ <;> first | omega | (simp [wrap32, IntKind.wrap, IntKind.bits, IntKind.signed]; omega) | (simp [wrap32, IntKind.wrap, IntKind.bits, IntKind.signed])

theorem unEP_uint8_int (c : Int) (h0 : 0 ≤ c) (h1 : c ≤ 9223372036854775807) (pf : Value) (w : World) :
    Calls Tryd.prog 97 #[.iface 3 (.int .i64 c), pf] w fun e w' => (∃ v : Int, 0 ≤ v ∧ v ≤ 255 ∧ e = .returned (.tuple #[.int .u8 v, .nilIface])) ∧ w = w' := by
  have H := fun w => Lib.hid (unP_uint8_int c h0 h1 w)
  go_enter Tryd.func97, Tryd.ntmps97
  go_wp2_with (go_at_call 123; refine ((H _).out).mono ?_; rintro e w' ⟨⟨v, v0, v1, rfl⟩, rfl⟩)
  go_ret2
  exact ⟨⟨v, v0, v1, rfl⟩, rfl⟩

theorem unToP_uint8_int (c : Int) (h0 : 0 ≤ c) (h1 : c ≤ 9223372036854775807) (w : World) :
    Calls Tryd.prog 74 #[.iface 3 (.int .i64 c)] w fun e w' => (∃ v : Int, 0 ≤ v ∧ v ≤ 255 ∧ e = .returned (.tuple #[.int .u8 v, .nilIface])) ∧ w = w' := by
  have hmf : ∀ (fn : Fn) (first cap : Array Value) (w : World), (Instr.makeFunc fn first cap).run Tryd.prog w = .ok (.func fn first cap) w := fun _ _ _ _ => rfl
  have H := fun pf w => Lib.hid (unEP_uint8_int c h0 h1 pf w)
  go_enter Tryd.func74, Tryd.ntmps74
  go_wp2_with (go_at_call 97; refine ((H _ _).out).mono ?_; rintro e w' ⟨⟨v, v0, v1, rfl⟩, rfl⟩)
  go_ret2
  exact ⟨⟨v, v0, v1, rfl⟩, rfl⟩

theorem doorP_uint8_int (c : Int) (h0 : 0 ≤ c) (h1 : c ≤ 9223372036854775807) (w : World) :
    Calls Tryd.prog 38 #[anyOf 2 c 0 0 ⟨#[]⟩] w fun e w' => (∃ v : Int, e = .returned (.tuple #[.int .u64 v, .bool true])) ∧ Below w.heap.size w w' := by
  have HV := fun w => Lib.hid (value_int c 0 0 ⟨#[]⟩ w (by omega) (by omega))
  have HE := fun w => Lib.hid (unToP_uint8_int c h0 h1 w)
  unfold anyOf at HV ⊢
  go_enter Tryd.func38, Tryd.ntmps38
  go_wp2_with (first
    | (go_at_call 26; refine ((HV _).out).mono ?_; rintro e w1 ⟨rfl, hb0⟩; have hb1 : Below w.heap.size w w1 := ((Below.refl _ _).alloc (Nat.le_refl _) _).trans (hb0.mono (by simp)))
    | (go_at_call 74; refine ((HE _).out).mono ?_; rintro e w2 ⟨⟨v, v0, v1, rfl⟩, rfl⟩))
  go_quiet (fail)
  go_wp2
  go_ret2
  exact ⟨⟨_, rfl⟩, bdrew hb1 _⟩

theorem unN_uint8_int8 (c : Int) (h0 : -128 ≤ c) (h1 : c < 0) (w : World) :
    Calls Tryd.prog 123 #[.iface 66 (.int .i8 c)] w fun e w' => e = .returned (.tuple #[.int .u8 0, .bool false, .bool false]) ∧ w = w' := by
  have z0 := Tryd.no_uint8 66 (by decide) (.int .i8 c)
  have z1 := Tryd.no_int 66 (by decide) (.int .i8 c)
  have z2 := Tryd.is_int8 (.int .i8 c)
  have h2 : ¬ 0 ≤ c := by omega
  go_enter Tryd.func123, Tryd.ntmps123
  go_wp2_with (go_at_call 49; refine (indirect_any 66 _ (by decide) (by decide) _).mono ?_; rintro e w' ⟨rfl, rfl⟩)
  go_ret3
  exact ⟨rfl, rfl⟩

theorem unEN_uint8_int8 (c : Int) (h0 : -128 ≤ c) (h1 : c < 0) (pf : Value) (w : World) :
    Calls Tryd.prog 97 #[.iface 66 (.int .i8 c), pf] w fun e w' => (∃ T q, e = .returned (.tuple #[.int .u8 0, .iface T q])) ∧ w = w' := by
  have H := fun w => Lib.hid (unN_uint8_int8 c h0 h1 w)
  go_enter Tryd.func97, Tryd.ntmps97
  go_wp2_with (first
    | (go_at_call 123; refine ((H _).out).mono ?_; rintro e w' ⟨rfl, rfl⟩)
    | (go_at_call 49; refine (indirect_any 66 _ (by decide) (by decide) _).mono ?_; rintro e w' ⟨rfl, rfl⟩))
  go_ret2
  exact ⟨⟨_, _, rfl⟩, rfl⟩

theorem unToN_uint8_int8 (c : Int) (h0 : -128 ≤ c) (h1 : c < 0) (w : World) :
    Calls Tryd.prog 74 #[.iface 66 (.int .i8 c)] w fun e w' => (∃ T q, e = .returned (.tuple #[.int .u8 0, .iface T q])) ∧ w = w' := by
  have hmf : ∀ (fn : Fn) (first cap : Array Value) (w : World), (Instr.makeFunc fn first cap).run Tryd.prog w = .ok (.func fn first cap) w := fun _ _ _ _ => rfl
  have H := fun pf w => Lib.hid (unEN_uint8_int8 c h0 h1 pf w)
  go_enter Tryd.func74, Tryd.ntmps74
  go_wp2_with (go_at_call 97; refine ((H _ _).out).mono ?_; rintro e w' ⟨⟨T, q, rfl⟩, rfl⟩)
  go_ret2
  exact ⟨⟨_, _, rfl⟩, rfl⟩

theorem doorN_uint8_int8 (c : Int) (h0 : -128 ≤ c) (h1 : c < 0) (w : World) :
    Calls Tryd.prog 38 #[anyOf 3 c 0 0 ⟨#[]⟩] w fun e w' => (e = .returned (.tuple #[.int .u64 0, .bool false])) ∧ Below w.heap.size w w' := by
  have HV := fun w => Lib.hid (value_int8 c 0 0 ⟨#[]⟩ w (by omega) (by omega))
  have hval : (IntKind.i8.wrap c) = c := by simp [wrap32, IntKind.wrap, IntKind.bits, IntKind.signed]; omega
  rw [hval] at HV
  clear hval
  have HE := fun w => Lib.hid (unToN_uint8_int8 c h0 h1 w)
  unfold anyOf at HV ⊢
  go_enter Tryd.func38, Tryd.ntmps38
  go_wp2_with (first
    | (go_at_call 26; refine ((HV _).out).mono ?_; rintro e w1 ⟨rfl, hb0⟩; have hb1 : Below w.heap.size w w1 := ((Below.refl _ _).alloc (Nat.le_refl _) _).trans (hb0.mono (by simp)))
    | (go_at_call 74; refine ((HE _).out).mono ?_; rintro e w2 ⟨⟨T, q, rfl⟩, rfl⟩))
  go_quiet (fail)
  go_wp2
  go_ret2
  exact ⟨rfl, bdrew hb1 _⟩

theorem unP_uint8_int8 (c : Int) (h0 : 0 ≤ c) (h1 : c ≤ 127) (w : World) :
    Calls Tryd.prog 123 #[.iface 66 (.int .i8 c)] w fun e w' => (∃ v : Int, 0 ≤ v ∧ v ≤ 255 ∧ e = .returned (.tuple #[.int .u8 v, .bool true, .bool true])) ∧ w = w' := by
  have z0 := Tryd.no_uint8 66 (by decide) (.int .i8 c)
  have z1 := Tryd.no_int 66 (by decide) (.int .i8 c)
  have z2 := Tryd.is_int8 (.int .i8 c)
  have h2 : ¬ c < 0 := by omega
  go_enter Tryd.func123, Tryd.ntmps123
  go_wp2_with (go_at_call 49; refine (indirect_any 66 _ (by decide) (by decide) _).mono ?_; rintro e w' ⟨rfl, rfl⟩)
  go_ret3
  refine ⟨⟨_, ?_, ?_, rfl⟩, rfl⟩ <;> first | omega | (simp [wrap32, IntKind.wrap, IntKind.bits, IntKind.signed]; omega) | (simp [wrap32, IntKind.wrap, IntKind.bits, IntKind.signed])

theorem unEP_uint8_int8 (c : Int) (h0 : 0 ≤ c) (h1 : c ≤ 127) (pf : Value) (w : World) :
    Calls Tryd.prog 97 #[.iface 66 (.int .i8 c), pf] w fun e w' => (∃ v : Int, 0 ≤ v ∧ v ≤ 255 ∧ e = .returned (.tuple #[.int .u8 v, .nilIface])) ∧ w = w' := by
  have H := fun w => Lib.hid (unP_uint8_int8 c h0 h1 w)
  go_enter Tryd.func97, Tryd.ntmps97
  go_wp2_with (go_at_call 123; refine ((H _).out).mono ?_; rintro e w' ⟨⟨v, v0, v1, rfl⟩, rfl⟩)
  go_ret2
  exact ⟨⟨v, v0, v1, rfl⟩, rfl⟩

theorem unToP_uint8_int8 (c : Int) (h0 : 0 ≤ c) (h1 : c ≤ 127) (w : World) :
    Calls Tryd.prog 74 #[.iface 66 (.int .i8 c)] w fun e w' => (∃ v : Int, 0 ≤ v ∧ v ≤ 255 ∧ e = .returned (.tuple #[.int .u8 v, .nilIface])) ∧ w = w' := by
  have hmf : ∀ (fn : Fn) (first cap : Array Value) (w : World), (Instr.makeFunc fn first cap).run Tryd.prog w = .ok (.func fn first cap) w := fun _ _ _ _ => rfl
  have H := fun pf w => Lib.hid (unEP_uint8_int8 c h0 h1 pf w)
  go_enter Tryd.func74, Tryd.ntmps74
  go_wp2_with (go_at_call 97; refine ((H _ _).out).mono ?_; rintro e w' ⟨⟨v, v0, v1, rfl⟩, rfl⟩)
  go_ret2
  exact ⟨⟨v, v0, v1, rfl⟩, rfl⟩

theorem doorP_uint8_int8 (c : Int) (h0 : 0 ≤ c) (h1 : c ≤ 127) (w : World) :
    Calls Tryd.prog 38 #[anyOf 3 c 0 0 ⟨#[]⟩] w fun e w' => (∃ v : Int, e = .returned (.tuple #[.int .u64 v, .bool true])) ∧ Below w.heap.size w w' := by
  have HV := fun w => Lib.hid (value_int8 c 0 0 ⟨#[]⟩ w (by omega) (by omega))
  have hval : (IntKind.i8.wrap c) = c := by simp [wrap32, IntKind.wrap, IntKind.bits, IntKind.signed]; omega
  rw [hval] at HV
  clear hval
  have HE := fun w => Lib.hid (unToP_uint8_int8 c h0 h1 w)
  unfold anyOf at HV ⊢
  go_enter Tryd.func38, Tryd.ntmps38
  go_wp2_with (first
    | (go_at_call 26; refine ((HV _).out).mono ?_; rintro e w1 ⟨rfl, hb0⟩; have hb1 : Below w.heap.size w w1 := ((Below.refl _ _).alloc (Nat.le_refl _) _).trans (hb0.mono (by simp)))
    | (go_at_call 74; refine ((HE _).out).mono ?_; rintro e w2 ⟨⟨v, v0, v1, rfl⟩, rfl⟩))
  go_quiet (fail)
  go_wp2
  go_ret2
  exact ⟨⟨_, rfl⟩, bdrew hb1 _⟩

theorem unN_uint8_int16 (c : Int) (h0 : -32768 ≤ c) (h1 : c < 0) (w : World) :
    Calls Tryd.prog 123 #[.iface 67 (.int .i16 c)] w fun e w' => e = .returned (.tuple #[.int .u8 0, .bool false, .bool false]) ∧ w = w' := by
  have z0 := Tryd.no_uint8 67 (by decide) (.int .i16 c)
  have z1 := Tryd.no_int 67 (by decide) (.int .i16 c)
  have z2 := Tryd.no_int8 67 (by decide) (.int .i16 c)
  have z3 := Tryd.is_int16 (.int .i16 c)
  have h2 : ¬ 0 ≤ c := by omega
  go_enter Tryd.func123, Tryd.ntmps123
  go_wp2_with (go_at_call 49; refine (indirect_any 67 _ (by decide) (by decide) _).mono ?_; rintro e w' ⟨rfl, rfl⟩)
  go_ret3
  exact ⟨rfl, rfl⟩

theorem unEN_uint8_int16 (c : Int) (h0 : -32768 ≤ c) (h1 : c < 0) (pf : Value) (w : World) :
    Calls Tryd.prog 97 #[.iface 67 (.int .i16 c), pf] w fun e w' => (∃ T q, e = .returned (.tuple #[.int .u8 0, .iface T q])) ∧ w = w' := by
  have H := fun w => Lib.hid (unN_uint8_int16 c h0 h1 w)
  go_enter Tryd.func97, Tryd.ntmps97
  go_wp2_with (first
    | (go_at_call 123; refine ((H _).out).mono ?_; rintro e w' ⟨rfl, rfl⟩)
    | (go_at_call 49; refine (indirect_any 67 _ (by decide) (by decide) _).mono ?_; rintro e w' ⟨rfl, rfl⟩))
  go_ret2
  exact ⟨⟨_, _, rfl⟩, rfl⟩

theorem unToN_uint8_int16 (c : Int) (h0 : -32768 ≤ c) (h1 : c < 0) (w : World) :
    Calls Tryd.prog 74 #[.iface 67 (.int .i16 c)] w fun e w' => (∃ T q, e = .returned (.tuple #[.int .u8 0, .iface T q])) ∧ w = w' := by
  have hmf : ∀ (fn : Fn) (first cap : Array Value) (w : World), (Instr.makeFunc fn first cap).run Tryd.prog w = .ok (.func fn first cap) w := fun _ _ _ _ => rfl
  have H := fun pf w => Lib.hid (unEN_uint8_int16 c h0 h1 pf w)
  go_enter Tryd.func74, Tryd.ntmps74
  go_wp2_with (go_at_call 97; refine ((H _ _).out).mono ?_; rintro e w' ⟨⟨T, q, rfl⟩, rfl⟩)
  go_ret2
  exact ⟨⟨_, _, rfl⟩, rfl⟩

theorem doorN_uint8_int16 (c : Int) (h0 : -32768 ≤ c) (h1 : c < 0) (w : World) :
    Calls Tryd.prog 38 #[anyOf 4 c 0 0 ⟨#[]⟩] w fun e w' => (e = .returned (.tuple #[.int .u64 0, .bool false])) ∧ Below w.heap.size w w' := by
  have HV := fun w => Lib.hid (value_int16 c 0 0 ⟨#[]⟩ w (by omega) (by omega))
  have hval : (IntKind.i16.wrap c) = c := by simp [wrap32, IntKind.wrap, IntKind.bits, IntKind.signed]; omega
  rw [hval] at HV
  clear hval
  have HE := fun w => Lib.hid (unToN_uint8_int16 c h0 h1 w)
  unfold anyOf at HV ⊢
  go_enter Tryd.func38, Tryd.ntmps38
  go_wp2_with (first
    | (go_at_call 26; refine ((HV _).out).mono ?_; rintro e w1 ⟨rfl, hb0⟩; have hb1 : Below w.heap.size w w1 := ((Below.refl _ _).alloc (Nat.le_refl _) _).trans (hb0.mono (by simp)))
    | (go_at_call 74; refine ((HE _).out).mono ?_; rintro e w2 ⟨⟨T, q, rfl⟩, rfl⟩))
  go_quiet (fail)
  go_wp2
  go_ret2
  exact ⟨rfl, bdrew hb1 _⟩

theorem unP_uint8_int16 (c : Int) (h0 : 0 ≤ c) (h1 : c ≤ 32767) (w : World) :
    Calls Tryd.prog 123 #[.iface 67 (.int .i16 c)] w fun e w' => (∃ v : Int, 0 ≤ v ∧ v ≤ 255 ∧ e = .returned (.tuple #[.int .u8 v, .bool true, .bool true])) ∧ w = w' := by
  have z0 := Tryd.no_uint8 67 (by decide) (.int .i16 c)
  have z1 := Tryd.no_int 67 (by decide) (.int .i16 c)
  have z2 := Tryd.no_int8 67 (by decide) (.int .i16 c)
  have z3 := Tryd.is_int16 (.int .i16 c)
  have h2 : ¬ c < 0 := by omega
  go_enter Tryd.func123, Tryd.ntmps123
  go_wp2_with (go_at_call 49; refine (indirect_any 67 _ (by decide) (by decide) _).mono ?_; rintro e w' ⟨rfl, rfl⟩)
  go_ret3
  refine ⟨⟨_, ?_, ?_, rfl⟩, rfl⟩ <;> first | omega | (simp [wrap32, IntKind.wrap, IntKind.bits, IntKind.signed]; omega) | (simp [wrap32, IntKind.wrap, IntKind.bits, IntKind.signed])

theorem unEP_uint8_int16 (c : Int) (h0 : 0 ≤ c) (h1 : c ≤ 32767) (pf : Value) (w : World) :
    Calls Tryd.prog 97 #[.iface 67 (.int .i16 c), pf] w fun e w' => (∃ v : Int, 0 ≤ v ∧ v ≤ 255 ∧ e = .returned (.tuple #[.int .u8 v, .nilIface])) ∧ w = w' := by
  have H := fun w => Lib.hid (unP_uint8_int16 c h0 h1 w)
  go_enter Tryd.func97, Tryd.ntmps97
  go_wp2_with (go_at_call 123; refine ((H _).out).mono ?_; rintro e w' ⟨⟨v, v0, v1, rfl⟩, rfl⟩)
  go_ret2
  exact ⟨⟨v, v0, v1, rfl⟩, rfl⟩

theorem unToP_uint8_int16 (c : Int) (h0 : 0 ≤ c) (h1 : c ≤ 32767) (w : World) :
    Calls Tryd.prog 74 #[.iface 67 (.int .i16 c)] w fun e w' => (∃ v : Int, 0 ≤ v ∧ v ≤ 255 ∧ e = .returned (.tuple #[.int .u8 v, .nilIface])) ∧ w = w' := by
  have hmf : ∀ (fn : Fn) (first cap : Array Value) (w : World), (Instr.makeFunc fn first cap).run Tryd.prog w = .ok (.func fn first cap) w := fun _ _ _ _ => rfl
  have H := fun pf w => Lib.hid (unEP_uint8_int16 c h0 h1 pf w)
  go_enter Tryd.func74, Tryd.ntmps74
  go_wp2_with (go_at_call 97; refine ((H _ _).out).mono ?_; rintro e w' ⟨⟨v, v0, v1, rfl⟩, rfl⟩)
  go_ret2
  exact ⟨⟨v, v0, v1, rfl⟩, rfl⟩

theorem doorP_uint8_int16 (c : Int) (h0 : 0 ≤ c) (h1 : c ≤ 32767) (w : World) :
    Calls Tryd.prog 38 #[anyOf 4 c 0 0 ⟨#[]⟩] w fun e w' => (∃ v : Int, e = .returned (.tuple #[.int .u64 v, .bool true])) ∧ Below w.heap.size w w' := by
  have HV := fun w => Lib.hid (value_int16 c 0 0 ⟨#[]⟩ w (by omega) (by omega))
  have hval : (IntKind.i16.wrap c) = c := by simp [wrap32, IntKind.wrap, IntKind.bits, IntKind.signed]; omega
  rw [hval] at HV
  clear hval
  have HE := fun w => Lib.hid (unToP_uint8_int16 c h0 h1 w)
  unfold anyOf at HV ⊢
  go_enter Tryd.func38, Tryd.ntmps38
  go_wp2_with (first
    | (go_at_call 26; refine ((HV _).out).mono ?_; rintro e w1 ⟨rfl, hb0⟩; have hb1 : Below w.heap.size w w1 := ((Below.refl _ _).alloc (Nat.le_refl _) _).trans (hb0.mono (by simp)))
    | (go_at_call 74; refine ((HE _).out).mono ?_; rintro e w2 ⟨⟨v, v0, v1, rfl⟩, rfl⟩))
  go_quiet (fail)
  go_wp2
  go_ret2
  exact ⟨⟨_, rfl⟩, bdrew hb1 _⟩

theorem unN_uint8_int32 (c : Int) (h0 : -2147483648 ≤ c) (h1 : c < 0) (w : World) :
    Calls Tryd.prog 123 #[.iface 21 (.int .i32 c)] w fun e w' => e = .returned (.tuple #[.int .u8 0, .bool false, .bool false]) ∧ w = w' := by
  have z0 := Tryd.no_uint8 21 (by decide) (.int .i32 c)
  have z1 := Tryd.no_int 21 (by decide) (.int .i32 c)
  have z2 := Tryd.no_int8 21 (by decide) (.int .i32 c)
  have z3 := Tryd.no_int16 21 (by decide) (.int .i32 c)
  have z4 := Tryd.is_int32 (.int .i32 c)
  have h2 : ¬ 0 ≤ c := by omega
  go_enter Tryd.func123, Tryd.ntmps123
  go_wp2_with (go_at_call 49; refine (indirect_any 21 _ (by decide) (by decide) _).mono ?_; rintro e w' ⟨rfl, rfl⟩)
  go_ret3
  exact ⟨rfl, rfl⟩

theorem unEN_uint8_int32 (c : Int) (h0 : -2147483648 ≤ c) (h1 : c < 0) (pf : Value) (w : World) :
    Calls Tryd.prog 97 #[.iface 21 (.int .i32 c), pf] w fun e w' => (∃ T q, e = .returned (.tuple #[.int .u8 0, .iface T q])) ∧ w = w' := by
  have H := fun w => Lib.hid (unN_uint8_int32 c h0 h1 w)
  go_enter Tryd.func97, Tryd.ntmps97
  go_wp2_with (first
    | (go_at_call 123; refine ((H _).out).mono ?_; rintro e w' ⟨rfl, rfl⟩)
    | (go_at_call 49; refine (indirect_any 21 _ (by decide) (by decide) _).mono ?_; rintro e w' ⟨rfl, rfl⟩))
  go_ret2
  exact ⟨⟨_, _, rfl⟩, rfl⟩

theorem unToN_uint8_int32 (c : Int) (h0 : -2147483648 ≤ c) (h1 : c < 0) (w : World) :
    Calls Tryd.prog 74 #[.iface 21 (.int .i32 c)] w fun e w' => (∃ T q, e = .returned (.tuple #[.int .u8 0, .iface T q])) ∧ w = w' := by
  have hmf : ∀ (fn : Fn) (first cap : Array Value) (w : World), (Instr.makeFunc fn first cap).run Tryd.prog w = .ok (.func fn first cap) w := fun _ _ _ _ => rfl
  have H := fun pf w => Lib.hid (unEN_uint8_int32 c h0 h1 pf w)
  go_enter Tryd.func74, Tryd.ntmps74
  go_wp2_with (go_at_call 97; refine ((H _ _).out).mono ?_; rintro e w' ⟨⟨T, q, rfl⟩, rfl⟩)
  go_ret2
  exact ⟨⟨_, _, rfl⟩, rfl⟩

theorem doorN_uint8_int32 (c : Int) (h0 : -2147483648 ≤ c) (h1 : c < 0) (w : World) :
    Calls Tryd.prog 38 #[anyOf 5 c 0 0 ⟨#[]⟩] w fun e w' => (e = .returned (.tuple #[.int .u64 0, .bool false])) ∧ Below w.heap.size w w' := by
  have HV := fun w => Lib.hid (value_int32 c 0 0 ⟨#[]⟩ w (by omega) (by omega))
  have hval : (wrap32 c) = c := by simp [wrap32, IntKind.wrap, IntKind.bits, IntKind.signed]; omega
  rw [hval] at HV
  clear hval
  have HE := fun w => Lib.hid (unToN_uint8_int32 c h0 h1 w)
  unfold anyOf at HV ⊢
  go_enter Tryd.func38, Tryd.ntmps38
  go_wp2_with (first
    | (go_at_call 26; refine ((HV _).out).mono ?_; rintro e w1 ⟨rfl, hb0⟩; have hb1 : Below w.heap.size w w1 := ((Below.refl _ _).alloc (Nat.le_refl _) _).trans (hb0.mono (by simp)))
    | (go_at_call 74; refine ((HE _).out).mono ?_; rintro e w2 ⟨⟨T, q, rfl⟩, rfl⟩))
  go_quiet (fail)
  go_wp2
  go_ret2
  exact ⟨rfl, bdrew hb1 _⟩

theorem unP_uint8_int32 (c : Int) (h0 : 0 ≤ c) (h1 : c ≤ 2147483647) (w : World) :
    Calls Tryd.prog 123 #[.iface 21 (.int .i32 c)] w fun e w' => (∃ v : Int, 0 ≤ v ∧ v ≤ 255 ∧ e = .returned (.tuple #[.int .u8 v, .bool true, .bool true])) ∧ w = w' := by
  have z0 := Tryd.no_uint8 21 (by decide) (.int .i32 c)
  have z1 := Tryd.no_int 21 (by decide) (.int .i32 c)
  have z2 := Tryd.no_int8 21 (by decide) (.int .i32 c)
  have z3 := Tryd.no_int16 21 (by decide) (.int .i32 c)
  have z4 := Tryd.is_int32 (.int .i32 c)
  have h2 : ¬ c < 0 := by omega
  go_enter Tryd.func123, Tryd.ntmps123
  go_wp2_with (go_at_call 49; refine (indirect_any 21 _ (by decide) (by decide) _).mono ?_; rintro e w' ⟨rfl, rfl⟩)
  go_ret3
  refine ⟨⟨_, ?_, ?_, rfl⟩, rfl⟩ <;> first | omega | (simp [wrap32, IntKind.wrap, IntKind.bits, IntKind.signed]; omega) | (simp [wrap32, IntKind.wrap, IntKind.bits, IntKind.signed])

theorem unEP_uint8_int32 (c : Int) (h0 : 0 ≤ c) (h1 : c ≤ 2147483647) (pf : Value) (w : World) :
    Calls Tryd.prog 97 #[.iface 21 (.int .i32 c), pf] w fun e w' => (∃ v : Int, 0 ≤ v ∧ v ≤ 255 ∧ e = .returned (.tuple #[.int .u8 v, .nilIface])) ∧ w = w' := by
  have H := fun w => Lib.hid (unP_uint8_int32 c h0 h1 w)
  go_enter Tryd.func97, Tryd.ntmps97
  go_wp2_with (go_at_call 123; refine ((H _).out).mono ?_; rintro e w' ⟨⟨v, v0, v1, rfl⟩, rfl⟩)
  go_ret2
  exact ⟨⟨v, v0, v1, rfl⟩, rfl⟩

theorem unToP_uint8_int32 (c : Int) (h0 : 0 ≤ c) (h1 : c ≤ 2147483647) (w : World) :
    Calls Tryd.prog 74 #[.iface 21 (.int .i32 c)] w fun e w' => (∃ v : Int, 0 ≤ v ∧ v ≤ 255 ∧ e = .returned (.tuple #[.int .u8 v, .nilIface])) ∧ w = w' := by
  have hmf : ∀ (fn : Fn) (first cap : Array Value) (w : World), (Instr.makeFunc fn first cap).run Tryd.prog w = .ok (.func fn first cap) w := fun _ _ _ _ => rfl
  have H := fun pf w => Lib.hid (unEP_uint8_int32 c h0 h1 pf w)
  go_enter Tryd.func74, Tryd.ntmps74
  go_wp2_with (go_at_call 97; refine ((H _ _).out).mono ?_; rintro e w' ⟨⟨v, v0, v1, rfl⟩, rfl⟩)
  go_ret2
  exact ⟨⟨v, v0, v1, rfl⟩, rfl⟩

theorem doorP_uint8_int32 (c : Int) (h0 : 0 ≤ c) (h1 : c ≤ 2147483647) (w : World) :
    Calls Tryd.prog 38 #[anyOf 5 c 0 0 ⟨#[]⟩] w fun e w' => (∃ v : Int, e = .returned (.tuple #[.int .u64 v, .bool true])) ∧ Below w.heap.size w w' := by
  have HV := fun w => Lib.hid (value_int32 c 0 0 ⟨#[]⟩ w (by omega) (by omega))
  have hval : (wrap32 c) = c := by simp [wrap32, IntKind.wrap, IntKind.bits, IntKind.signed]; omega
  rw [hval] at HV
  clear hval
  have HE := fun w => Lib.hid (unToP_uint8_int32 c h0 h1 w)
  unfold anyOf at HV ⊢
  go_enter Tryd.func38, Tryd.ntmps38
  go_wp2_with (first
    | (go_at_call 26; refine ((HV _).out).mono ?_; rintro e w1 ⟨rfl, hb0⟩; have hb1 : Below w.heap.size w w1 := ((Below.refl _ _).alloc (Nat.le_refl _) _).trans (hb0.mono (by simp)))
    | (go_at_call 74; refine ((HE _).out).mono ?_; rintro e w2 ⟨⟨v, v0, v1, rfl⟩, rfl⟩))
  go_quiet (fail)
  go_wp2
  go_ret2
  exact ⟨⟨_, rfl⟩, bdrew hb1 _⟩

theorem unN_uint8_int64 (c : Int) (h0 : -9223372036854775808 ≤ c) (h1 : c < 0) (w : World) :
    Calls Tryd.prog 123 #[.iface 2 (.int .i64 c)] w fun e w' => e = .returned (.tuple #[.int .u8 0, .bool false, .bool false]) ∧ w = w' := by
  have z0 := Tryd.no_uint8 2 (by decide) (.int .i64 c)
  have z1 := Tryd.no_int 2 (by decide) (.int .i64 c)
  have z2 := Tryd.no_int8 2 (by decide) (.int .i64 c)
  have z3 := Tryd.no_int16 2 (by decide) (.int .i64 c)
  have z4 := Tryd.no_int32 2 (by decide) (.int .i64 c)
  have z5 := Tryd.is_int64 (.int .i64 c)
  have h2 : ¬ 0 ≤ c := by omega
  go_enter Tryd.func123, Tryd.ntmps123
  go_wp2_with (go_at_call 49; refine (indirect_any 2 _ (by decide) (by decide) _).mono ?_; rintro e w' ⟨rfl, rfl⟩)
  go_ret3
  exact ⟨rfl, rfl⟩

theorem unEN_uint8_int64 (c : Int) (h0 : -9223372036854775808 ≤ c) (h1 : c < 0) (pf : Value) (w : World) :
    Calls Tryd.prog 97 #[.iface 2 (.int .i64 c), pf] w fun e w' => (∃ T q, e = .returned (.tuple #[.int .u8 0, .iface T q])) ∧ w = w' := by
  have H := fun w => Lib.hid (unN_uint8_int64 c h0 h1 w)
  go_enter Tryd.func97, Tryd.ntmps97
  go_wp2_with (first
    | (go_at_call 123; refine ((H _).out).mono ?_; rintro e w' ⟨rfl, rfl⟩)
    | (go_at_call 49; refine (indirect_any 2 _ (by decide) (by decide) _).mono ?_; rintro e w' ⟨rfl, rfl⟩))
  go_ret2
  exact ⟨⟨_, _, rfl⟩, rfl⟩

theorem unToN_uint8_int64 (c : Int) (h0 : -9223372036854775808 ≤ c) (h1 : c < 0) (w : World) :
    Calls Tryd.prog 74 #[.iface 2 (.int .i64 c)] w fun e w' => (∃ T q, e = .returned (.tuple #[.int .u8 0, .iface T q])) ∧ w = w' := by
  have hmf : ∀ (fn : Fn) (first cap : Array Value) (w : World), (Instr.makeFunc fn first cap).run Tryd.prog w = .ok (.func fn first cap) w := fun _ _ _ _ => rfl
  have H := fun pf w => Lib.hid (unEN_uint8_int64 c h0 h1 pf w)
  go_enter Tryd.func74, Tryd.ntmps74
  go_wp2_with (go_at_call 97; refine ((H _ _).out).mono ?_; rintro e w' ⟨⟨T, q, rfl⟩, rfl⟩)
  go_ret2
  exact ⟨⟨_, _, rfl⟩, rfl⟩

theorem doorN_uint8_int64 (c : Int) (h0 : -9223372036854775808 ≤ c) (h1 : c < 0) (w : World) :
    Calls Tryd.prog 38 #[anyOf 6 c 0 0 ⟨#[]⟩] w fun e w' => (e = .returned (.tuple #[.int .u64 0, .bool false])) ∧ Below w.heap.size w w' := by
  have HV := fun w => Lib.hid (value_int64 c 0 0 ⟨#[]⟩ w (by omega) (by omega))
  have HE := fun w => Lib.hid (unToN_uint8_int64 c h0 h1 w)
  unfold anyOf at HV ⊢
  go_enter Tryd.func38, Tryd.ntmps38
  go_wp2_with (first
    | (go_at_call 26; refine ((HV _).out).mono ?_; rintro e w1 ⟨rfl, hb0⟩; have hb1 : Below w.heap.size w w1 := ((Below.refl _ _).alloc (Nat.le_refl _) _).trans (hb0.mono (by simp)))
    | (go_at_call 74; refine ((HE _).out).mono ?_; rintro e w2 ⟨⟨T, q, rfl⟩, rfl⟩))
  go_quiet (fail)
  go_wp2
  go_ret2
  exact ⟨rfl, bdrew hb1 _⟩

theorem unP_uint8_int64 (c : Int) (h0 : 0 ≤ c) (h1 : c ≤ 9223372036854775807) (w : World) :
    Calls Tryd.prog 123 #[.iface 2 (.int .i64 c)] w fun e w' => (∃ v : Int, 0 ≤ v ∧ v ≤ 255 ∧ e = .returned (.tuple #[.int .u8 v, .bool true, .bool true])) ∧ w = w' := by
  have z0 := Tryd.no_uint8 2 (by decide) (.int .i64 c)
  have z1 := Tryd.no_int 2 (by decide) (.int .i64 c)
  have z2 := Tryd.no_int8 2 (by decide) (.int .i64 c)
  have z3 := Tryd.no_int16 2 (by decide) (.int .i64 c)
  have z4 := Tryd.no_int32 2 (by decide) (.int .i64 c)
  have z5 := Tryd.is_int64 (.int .i64 c)
  have h2 : ¬ c < 0 := by omega
  go_enter Tryd.func123, Tryd.ntmps123
  go_wp2_with (go_at_call 49; refine (indirect_any 2 _ (by decide) (by decide) _).mono ?_; rintro e w' ⟨rfl, rfl⟩)
  go_ret3
  refine ⟨⟨_, ?_, ?_, rfl⟩, rfl⟩ <;> first | omega | (simp [wrap32, IntKind.wrap, IntKind.bits, IntKind.signed]; omega) | (simp [wrap32, IntKind.wrap, IntKind.bits, IntKind.signed])

theorem unEP_uint8_int64 (c : Int) (h0 : 0 ≤ c) (h1 : c ≤ 9223372036854775807) (pf : Value) (w : World) :
    Calls Tryd.prog 97 #[.iface 2 (.int .i64 c), pf] w fun e w' => (∃ v : Int, 0 ≤ v ∧ v ≤ 255 ∧ e = .returned (.tuple #[.int .u8 v, .nilIface])) ∧ w = w' := by
  have H := fun w => Lib.hid (unP_uint8_int64 c h0 h1 w)
  go_enter Tryd.func97, Tryd.ntmps97
  go_wp2_with (go_at_call 123; refine ((H _).out).mono ?_; rintro e w' ⟨⟨v, v0, v1, rfl⟩, rfl⟩)
  go_ret2
  exact ⟨⟨v, v0, v1, rfl⟩, rfl⟩

theorem unToP_uint8_int64 (c : Int) (h0 : 0 ≤ c) (h1 : c ≤ 9223372036854775807) (w : World) :
    Calls Tryd.prog 74 #[.iface 2 (.int .i64 c)] w fun e w' => (∃ v : Int, 0 ≤ v ∧ v ≤ 255 ∧ e = .returned (.tuple #[.int .u8 v, .nilIface])) ∧ w = w' := by
  have hmf : ∀ (fn : Fn) (first cap : Array Value) (w : World), (Instr.makeFunc fn first cap).run Tryd.prog w = .ok (.func fn first cap) w := fun _ _ _ _ => rfl
  have H := fun pf w => Lib.hid (unEP_uint8_int64 c h0 h1 pf w)
  go_enter Tryd.func74, Tryd.ntmps74
  go_wp2_with (go_at_call 97; refine ((H _ _).out).mono ?_; rintro e w' ⟨⟨v, v0, v1, rfl⟩, rfl⟩)
  go_ret2
  exact ⟨⟨v, v0, v1, rfl⟩, rfl⟩

theorem doorP_uint8_int64 (c : Int) (h0 : 0 ≤ c) (h1 : c ≤ 9223372036854775807) (w : World) :
    Calls Tryd.prog 38 #[anyOf 6 c 0 0 ⟨#[]⟩] w fun e w' => (∃ v : Int, e = .returned (.tuple #[.int .u64 v, .bool true])) ∧ Below w.heap.size w w' := by
  have HV := fun w => Lib.hid (value_int64 c 0 0 ⟨#[]⟩ w (by omega) (by omega))
  have HE := fun w => Lib.hid (unToP_uint8_int64 c h0 h1 w)
  unfold anyOf at HV ⊢
  go_enter Tryd.func38, Tryd.ntmps38
  go_wp2_with (first
    | (go_at_call 26; refine ((HV _).out).mono ?_; rintro e w1 ⟨rfl, hb0⟩; have hb1 : Below w.heap.size w w1 := ((Below.refl _ _).alloc (Nat.le_refl _) _).trans (hb0.mono (by simp)))
    | (go_at_call 74; refine ((HE _).out).mono ?_; rintro e w2 ⟨⟨v, v0, v1, rfl⟩, rfl⟩))
  go_quiet (fail)
  go_wp2
  go_ret2
  exact ⟨⟨_, rfl⟩, bdrew hb1 _⟩

theorem unN_uint16_int (c : Int) (h0 : -9223372036854775808 ≤ c) (h1 : c < 0) (w : World) :
    Calls Tryd.prog 126 #[.iface 3 (.int .i64 c)] w fun e w' => e = .returned (.tuple #[.int .u16 0, .bool false, .bool false]) ∧ w = w' := by
  have z0 := Tryd.no_uint16 3 (by decide) (.int .i64 c)
  have z1 := Tryd.is_int (.int .i64 c)
  have h2 : ¬ 0 ≤ c := by omega
  go_enter Tryd.func126, Tryd.ntmps126
  go_wp2_with (go_at_call 49; refine (indirect_any 3 _ (by decide) (by decide) _).mono ?_; rintro e w' ⟨rfl, rfl⟩)
  go_ret3
  exact ⟨rfl, rfl⟩

theorem unEN_uint16_int (c : Int) (h0 : -9223372036854775808 ≤ c) (h1 : c < 0) (pf : Value) (w : World) :
    Calls Tryd.prog 99 #[.iface 3 (.int .i64 c), pf] w fun e w' => (∃ T q, e = .returned (.tuple #[.int .u16 0, .iface T q])) ∧ w = w' := by
  have H := fun w => Lib.hid (unN_uint16_int c h0 h1 w)
  go_enter Tryd.func99, Tryd.ntmps99
  go_wp2_with (first
    | (go_at_call 126; refine ((H _).out).mono ?_; rintro e w' ⟨rfl, rfl⟩)
    | (go_at_call 49; refine (indirect_any 3 _ (by decide) (by decide) _).mono ?_; rintro e w' ⟨rfl, rfl⟩))
  go_ret2
  exact ⟨⟨_, _, rfl⟩, rfl⟩

theorem unToN_uint16_int (c : Int) (h0 : -9223372036854775808 ≤ c) (h1 : c < 0) (w : World) :
    Calls Tryd.prog 75 #[.iface 3 (.int .i64 c)] w fun e w' => (∃ T q, e = .returned (.tuple #[.int .u16 0, .iface T q])) ∧ w = w' := by
  have hmf : ∀ (fn : Fn) (first cap : Array Value) (w : World), (Instr.makeFunc fn first cap).run Tryd.prog w = .ok (.func fn first cap) w := fun _ _ _ _ => rfl
  have H := fun pf w => Lib.hid (unEN_uint16_int c h0 h1 pf w)
  go_enter Tryd.func75, Tryd.ntmps75
  go_wp2_with (go_at_call 99; refine ((H _ _).out).mono ?_; rintro e w' ⟨⟨T, q, rfl⟩, rfl⟩)
  go_ret2
  exact ⟨⟨_, _, rfl⟩, rfl⟩

theorem doorN_uint16_int (c : Int) (h0 : -9223372036854775808 ≤ c) (h1 : c < 0) (w : World) :
    Calls Tryd.prog 39 #[anyOf 2 c 0 0 ⟨#[]⟩] w fun e w' => (e = .returned (.tuple #[.int .u64 0, .bool false])) ∧ Below w.heap.size w w' := by
  have HV := fun w => Lib.hid (value_int c 0 0 ⟨#[]⟩ w (by omega) (by omega))
  have HE := fun w => Lib.hid (unToN_uint16_int c h0 h1 w)
  unfold anyOf at HV ⊢
  go_enter Tryd.func39, Tryd.ntmps39
  go_wp2_with (first
    | (go_at_call 26; refine ((HV _).out).mono ?_; rintro e w1 ⟨rfl, hb0⟩; have hb1 : Below w.heap.size w w1 := ((Below.refl _ _).alloc (Nat.le_refl _) _).trans (hb0.mono (by simp)))
    | (go_at_call 75; refine ((HE _).out).mono ?_; rintro e w2 ⟨⟨T, q, rfl⟩, rfl⟩))
  go_quiet (fail)
  go_wp2
  go_ret2
  exact ⟨rfl, bdrew hb1 _⟩

theorem unP_uint16_int (c : Int) (h0 : 0 ≤ c) (h1 : c ≤ 9223372036854775807) (w : World) :
    Calls Tryd.prog 126 #[.iface 3 (.int .i64 c)] w fun e w' => (∃ v : Int, 0 ≤ v ∧ v ≤ 65535 ∧ e = .returned (.tuple #[.int .u16 v, .bool true, .bool true])) ∧ w = w' := by
  have z0 := Tryd.no_uint16 3 (by decide) (.int .i64 c)
  have z1 := Tryd.is_int (.int .i64 c)
  have h2 : ¬ c < 0 := by omega
  go_enter Tryd.func126, Tryd.ntmps126
  go_wp2_with (go_at_call 49; refine (indirect_any 3 _ (by decide) (by decide) _).mono ?_; rintro e w' ⟨rfl, rfl⟩)
  go_ret3
  refine ⟨⟨_, ?_, ?_, rfl⟩, rfl⟩ <;> first | omega | (simp [wrap32, IntKind.wrap, IntKind.bits, IntKind.signed]; omega) | (simp [wrap32, IntKind.wrap, IntKind.bits, IntKind.signed])

theorem unEP_uint16_int (c : Int) (h0 : 0 ≤ c) (h1 : c ≤ 9223372036854775807) (pf : Value) (w : World) :
    Calls Tryd.prog 99 #[.iface 3 (.int .i64 c), pf] w fun e w' => (∃ v : Int, 0 ≤ v ∧ v ≤ 65535 ∧ e = .returned (.tuple #[.int .u16 v, .nilIface])) ∧ w = w' := by
  have H := fun w => Lib.hid (unP_uint16_int c h0 h1 w)
  go_enter Tryd.func99, Tryd.ntmps99
  go_wp2_with (go_at_call 126; refine ((H _).out).mono ?_; rintro e w' ⟨⟨v, v0, v1, rfl⟩, rfl⟩)
  go_ret2
  exact ⟨⟨v, v0, v1, rfl⟩, rfl⟩

theorem unToP_uint16_int (c : Int) (h0 : 0 ≤ c) (h1 : c ≤ 9223372036854775807) (w : World) :
    Calls Tryd.prog 75 #[.iface 3 (.int .i64 c)] w fun e w' => (∃ v : Int, 0 ≤ v ∧ v ≤ 65535 ∧ e = .returned (.tuple #[.int .u16 v, .nilIface])) ∧ w = w' := by
  have hmf : ∀ (fn : Fn) (first cap : Array Value) (w : World), (Instr.makeFunc fn first cap).run Tryd.prog w = .ok (.func fn first cap) w := fun _ _ _ _ => rfl
  have H := fun pf w => Lib.hid (unEP_uint16_int c h0 h1 pf w)
  go_enter Tryd.func75, Tryd.ntmps75
  go_wp2_with (go_at_call 99; refine ((H _ _).out).mono ?_; rintro e w' ⟨⟨v, v0, v1, rfl⟩, rfl⟩)
  go_ret2
  exact ⟨⟨v, v0, v1, rfl⟩, rfl⟩

theorem doorP_uint16_int (c : Int) (h0 : 0 ≤ c) (h1 : c ≤ 9223372036854775807) (w : World) :
    Calls Tryd.prog 39 #[anyOf 2 c 0 0 ⟨#[]⟩] w fun e w' => (∃ v : Int, e = .returned (.tuple #[.int .u64 v, .bool true])) ∧ Below w.heap.size w w' := by
  have HV := fun w => Lib.hid (value_int c 0 0 ⟨#[]⟩ w (by omega) (by omega))
  have HE := fun w => Lib.hid (unToP_uint16_int c h0 h1 w)
  unfold anyOf at HV ⊢
  go_enter Tryd.func39, Tryd.ntmps39
  go_wp2_with (first
    | (go_at_call 26; refine ((HV _).out).mono ?_; rintro e w1 ⟨rfl, hb0⟩; have hb1 : Below w.heap.size w w1 := ((Below.refl _ _).alloc (Nat.le_refl _) _).trans (hb0.mono (by simp)))
    | (go_at_call 75; refine ((HE _).out).mono ?_; rintro e w2 ⟨⟨v, v0, v1, rfl⟩, rfl⟩))
  go_quiet (fail)
  go_wp2
  go_ret2
  exact ⟨⟨_, rfl⟩, bdrew hb1 _⟩

theorem unN_uint16_int8 (c : Int) (h0 : -128 ≤ c) (h1 : c < 0) (w : World) :
    Calls Tryd.prog 126 #[.iface 66 (.int .i8 c)] w fun e w' => e = .returned (.tuple #[.int .u16 0, .bool false, .bool false]) ∧ w = w' := by
  have z0 := Tryd.no_uint16 66 (by decide) (.int .i8 c)
  have z1 := Tryd.no_int 66 (by decide) (.int .i8 c)
  have z2 := Tryd.is_int8 (.int .i8 c)
  have h2 : ¬ 0 ≤ c := by omega
  go_enter Tryd.func126, Tryd.ntmps126
  go_wp2_with (go_at_call 49; refine (indirect_any 66 _ (by decide) (by decide) _).mono ?_; rintro e w' ⟨rfl, rfl⟩)
  go_ret3
  exact ⟨rfl, rfl⟩

theorem unEN_uint16_int8 (c : Int) (h0 : -128 ≤ c) (h1 : c < 0) (pf : Value) (w : World) :
    Calls Tryd.prog 99 #[.iface 66 (.int .i8 c), pf] w fun e w' => (∃ T q, e = .returned (.tuple #[.int .u16 0, .iface T q])) ∧ w = w' := by
  have H := fun w => Lib.hid (unN_uint16_int8 c h0 h1 w)
  go_enter Tryd.func99, Tryd.ntmps99
  go_wp2_with (first
    | (go_at_call 126; refine ((H _).out).mono ?_; rintro e w' ⟨rfl, rfl⟩)
    | (go_at_call 49; refine (indirect_any 66 _ (by decide) (by decide) _).mono ?_; rintro e w' ⟨rfl, rfl⟩))
  go_ret2
  exact ⟨⟨_, _, rfl⟩, rfl⟩

theorem unToN_uint16_int8 (c : Int) (h0 : -128 ≤ c) (h1 : c < 0) (w : World) :
    Calls Tryd.prog 75 #[.iface 66 (.int .i8 c)] w fun e w' => (∃ T q, e = .returned (.tuple #[.int .u16 0, .iface T q])) ∧ w = w' := by
  have hmf : ∀ (fn : Fn) (first cap : Array Value) (w : World), (Instr.makeFunc fn first cap).run Tryd.prog w = .ok (.func fn first cap) w := fun _ _ _ _ => rfl
  have H := fun pf w => Lib.hid (unEN_uint16_int8 c h0 h1 pf w)
  go_enter Tryd.func75, Tryd.ntmps75
  go_wp2_with (go_at_call 99; refine ((H _ _).out).mono ?_; rintro e w' ⟨⟨T, q, rfl⟩, rfl⟩)
  go_ret2
  exact ⟨⟨_, _, rfl⟩, rfl⟩

theorem doorN_uint16_int8 (c : Int) (h0 : -128 ≤ c) (h1 : c < 0) (w : World) :
    Calls Tryd.prog 39 #[anyOf 3 c 0 0 ⟨#[]⟩] w fun e w' => (e = .returned (.tuple #[.int .u64 0, .bool false])) ∧ Below w.heap.size w w' := by
  have HV := fun w => Lib.hid (value_int8 c 0 0 ⟨#[]⟩ w (by omega) (by omega))
  have hval : (IntKind.i8.wrap c) = c := by simp [wrap32, IntKind.wrap, IntKind.bits, IntKind.signed]; omega
  rw [hval] at HV
  clear hval
  have HE := fun w => Lib.hid (unToN_uint16_int8 c h0 h1 w)
  unfold anyOf at HV ⊢
  go_enter Tryd.func39, Tryd.ntmps39
  go_wp2_with (first
    | (go_at_call 26; refine ((HV _).out).mono ?_; rintro e w1 ⟨rfl, hb0⟩; have hb1 : Below w.heap.size w w1 := ((Below.refl _ _).alloc (Nat.le_refl _) _).trans (hb0.mono (by simp)))
    | (go_at_call 75; refine ((HE _).out).mono ?_; rintro e w2 ⟨⟨T, q, rfl⟩, rfl⟩))
  go_quiet (fail)
  go_wp2
  go_ret2
  exact ⟨rfl, bdrew hb1 _⟩

theorem unP_uint16_int8 (c : Int) (h0 : 0 ≤ c) (h1 : c ≤ 127) (w : World) :
    Calls Tryd.prog 126 #[.iface 66 (.int .i8 c)] w fun e w' => (∃ v : Int, 0 ≤ v ∧ v ≤ 65535 ∧ e = .returned (.tuple #[.int .u16 v, .bool true, .bool true])) ∧ w = w' := by
  have z0 := Tryd.no_uint16 66 (by decide) (.int .i8 c)
  have z1 := Tryd.no_int 66 (by decide) (.int .i8 c)
  have z2 := Tryd.is_int8 (.int .i8 c)
  have h2 : ¬ c < 0 := by omega
  go_enter Tryd.func126, Tryd.ntmps126
  go_wp2_with (go_at_call 49; refine (indirect_any 66 _ (by decide) (by decide) _).mono ?_; rintro e w' ⟨rfl, rfl⟩)
  go_ret3
  refine ⟨⟨_, ?_, ?_, rfl⟩, rfl⟩ <;> first | omega | (simp [wrap32, IntKind.wrap, IntKind.bits, IntKind.signed]; omega) | (simp [wrap32, IntKind.wrap, IntKind.bits, IntKind.signed])

theorem unEP_uint16_int8 (c : Int) (h0 : 0 ≤ c) (h1 : c ≤ 127) (pf : Value) (w : World) :
    Calls Tryd.prog 99 #[.iface 66 (.int .i8 c), pf] w fun e w' => (∃ v : Int, 0 ≤ v ∧ v ≤ 65535 ∧ e = .returned (.tuple #[.int .u16 v, .nilIface])) ∧ w = w' := by
  have H := fun w => Lib.hid (unP_uint16_int8 c h0 h1 w)
  go_enter Tryd.func99, Tryd.ntmps99
  go_wp2_with (go_at_call 126; refine ((H _).out).mono ?_; rintro e w' ⟨⟨v, v0, v1, rfl⟩, rfl⟩)
  go_ret2
  exact ⟨⟨v, v0, v1, rfl⟩, rfl⟩

theorem unToP_uint16_int8 (c : Int) (h0 : 0 ≤ c) (h1 : c ≤ 127) (w : World) :
    Calls Tryd.prog 75 #[.iface 66 (.int .i8 c)] w fun e w' => (∃ v : Int, 0 ≤ v ∧ v ≤ 65535 ∧ e = .returned (.tuple #[.int .u16 v, .nilIface])) ∧ w = w' := by
  have hmf : ∀ (fn : Fn) (first cap : Array Value) (w : World), (Instr.makeFunc fn first cap).run Tryd.prog w = .ok (.func fn first cap) w := fun _ _ _ _ => rfl
  have H := fun pf w => Lib.hid (unEP_uint16_int8 c h0 h1 pf w)
  go_enter Tryd.func75, Tryd.ntmps75
  go_wp2_with (go_at_call 99; refine ((H _ _).out).mono ?_; rintro e w' ⟨⟨v, v0, v1, rfl⟩, rfl⟩)
  go_ret2
  exact ⟨⟨v, v0, v1, rfl⟩, rfl⟩

theorem doorP_uint16_int8 (c : Int) (h0 : 0 ≤ c) (h1 : c ≤ 127) (w : World) :
    Calls Tryd.prog 39 #[anyOf 3 c 0 0 ⟨#[]⟩] w fun e w' => (∃ v : Int, e = .returned (.tuple #[.int .u64 v, .bool true])) ∧ Below w.heap.size w w' := by
  have HV := fun w => Lib.hid (value_int8 c 0 0 ⟨#[]⟩ w (by omega) (by omega))
  have hval : (IntKind.i8.wrap c) = c := by simp [wrap32, IntKind.wrap, IntKind.bits, IntKind.signed]; omega
  rw [hval] at HV
  clear hval
  have HE := fun w => Lib.hid (unToP_uint16_int8 c h0 h1 w)
  unfold anyOf at HV ⊢
  go_enter Tryd.func39, Tryd.ntmps39
  go_wp2_with (first
    | (go_at_call 26; refine ((HV _).out).mono ?_; rintro e w1 ⟨rfl, hb0⟩; have hb1 : Below w.heap.size w w1 := ((Below.refl _ _).alloc (Nat.le_refl _) _).trans (hb0.mono (by simp)))
    | (go_at_call 75; refine ((HE _).out).mono ?_; rintro e w2 ⟨⟨v, v0, v1, rfl⟩, rfl⟩))
  go_quiet (fail)
  go_wp2
  go_ret2
  exact ⟨⟨_, rfl⟩, bdrew hb1 _⟩

theorem unN_uint16_int16 (c : Int) (h0 : -32768 ≤ c) (h1 : c < 0) (w : World) :
    Calls Tryd.prog 126 #[.iface 67 (.int .i16 c)] w fun e w' => e = .returned (.tuple #[.int .u16 0, .bool false, .bool false]) ∧ w = w' := by
  have z0 := Tryd.no_uint16 67 (by decide) (.int .i16 c)
  have z1 := Tryd.no_int 67 (by decide) (.int .i16 c)
  have z2 := Tryd.no_int8 67 (by decide) (.int .i16 c)
  have z3 := Tryd.is_int16 (.int .i16 c)
  have h2 : ¬ 0 ≤ c := by omega
  go_enter Tryd.func126, Tryd.ntmps126
  go_wp2_with (go_at_call 49; refine (indirect_any 67 _ (by decide) (by decide) _).mono ?_; rintro e w' ⟨rfl, rfl⟩)
  go_ret3
  exact ⟨rfl, rfl⟩

theorem unEN_uint16_int16 (c : Int) (h0 : -32768 ≤ c) (h1 : c < 0) (pf : Value) (w : World) :
    Calls Tryd.prog 99 #[.iface 67 (.int .i16 c), pf] w fun e w' => (∃ T q, e = .returned (.tuple #[.int .u16 0, .iface T q])) ∧ w = w' := by
  have H := fun w => Lib.hid (unN_uint16_int16 c h0 h1 w)
  go_enter Tryd.func99, Tryd.ntmps99
  go_wp2_with (first
    | (go_at_call 126; refine ((H _).out).mono ?_; rintro e w' ⟨rfl, rfl⟩)
    | (go_at_call 49; refine (indirect_any 67 _ (by decide) (by decide) _).mono ?_; rintro e w' ⟨rfl, rfl⟩))
  go_ret2
  exact ⟨⟨_, _, rfl⟩, rfl⟩

theorem unToN_uint16_int16 (c : Int) (h0 : -32768 ≤ c) (h1 : c < 0) (w : World) :
    Calls Tryd.prog 75 #[.iface 67 (.int .i16 c)] w fun e w' => (∃ T q, e = .returned (.tuple #[.int .u16 0, .iface T q])) ∧ w = w' := by
  have hmf : ∀ (fn : Fn) (first cap : Array Value) (w : World), (Instr.makeFunc fn first cap).run Tryd.prog w = .ok (.func fn first cap) w := fun _ _ _ _ => rfl
  have H := fun pf w => Lib.hid (unEN_uint16_int16 c h0 h1 pf w)
  go_enter Tryd.func75, Tryd.ntmps75
  go_wp2_with (go_at_call 99; refine ((H _ _).out).mono ?_; rintro e w' ⟨⟨T, q, rfl⟩, rfl⟩)
  go_ret2
  exact ⟨⟨_, _, rfl⟩, rfl⟩

theorem doorN_uint16_int16 (c : Int) (h0 : -32768 ≤ c) (h1 : c < 0) (w : World) :
    Calls Tryd.prog 39 #[anyOf 4 c 0 0 ⟨#[]⟩] w fun e w' => (e = .returned (.tuple #[.int .u64 0, .bool false])) ∧ Below w.heap.size w w' := by
  have HV := fun w => Lib.hid (value_int16 c 0 0 ⟨#[]⟩ w (by omega) (by omega))
  have hval : (IntKind.i16.wrap c) = c := by simp [wrap32, IntKind.wrap, IntKind.bits, IntKind.signed]; omega
  rw [hval] at HV
  clear hval
  have HE := fun w => Lib.hid (unToN_uint16_int16 c h0 h1 w)
  unfold anyOf at HV ⊢
  go_enter Tryd.func39, Tryd.ntmps39
  go_wp2_with (first
    | (go_at_call 26; refine ((HV _).out).mono ?_; rintro e w1 ⟨rfl, hb0⟩; have hb1 : Below w.heap.size w w1 := ((Below.refl _ _).alloc (Nat.le_refl _) _).trans (hb0.mono (by simp)))
    | (go_at_call 75; refine ((HE _).out).mono ?_; rintro e w2 ⟨⟨T, q, rfl⟩, rfl⟩))
  go_quiet (fail)
  go_wp2
  go_ret2
  exact ⟨rfl, bdrew hb1 _⟩

theorem unP_uint16_int16 (c : Int) (h0 : 0 ≤ c) (h1 : c ≤ 32767) (w : World) :
    Calls Tryd.prog 126 #[.iface 67 (.int .i16 c)] w fun e w' => (∃ v : Int, 0 ≤ v ∧ v ≤ 65535 ∧ e = .returned (.tuple #[.int .u16 v, .bool true, .bool true])) ∧ w = w' := by
  have z0 := Tryd.no_uint16 67 (by decide) (.int .i16 c)
  have z1 := Tryd.no_int 67 (by decide) (.int .i16 c)
  have z2 := Tryd.no_int8 67 (by decide) (.int .i16 c)
  have z3 := Tryd.is_int16 (.int .i16 c)
  have h2 : ¬ c < 0 := by omega
  go_enter Tryd.func126, Tryd.ntmps126
  go_wp2_with (go_at_call 49; refine (indirect_any 67 _ (by decide) (by decide) _).mono ?_; rintro e w' ⟨rfl, rfl⟩)
  go_ret3
  refine ⟨⟨_, ?_, ?_, rfl⟩, rfl⟩ <;> first | omega | (simp [wrap32, IntKind.wrap, IntKind.bits, IntKind.signed]; omega) | (simp [wrap32, IntKind.wrap, IntKind.bits, IntKind.signed])

theorem unEP_uint16_int16 (c : Int) (h0 : 0 ≤ c) (h1 : c ≤ 32767) (pf : Value) (w : World) :
    Calls Tryd.prog 99 #[.iface 67 (.int .i16 c), pf] w fun e w' => (∃ v : Int, 0 ≤ v ∧ v ≤ 65535 ∧ e = .returned (.tuple #[.int .u16 v, .nilIface])) ∧ w = w' := by
  have H := fun w => Lib.hid (unP_uint16_int16 c h0 h1 w)
  go_enter Tryd.func99, Tryd.ntmps99
  go_wp2_with (go_at_call 126; refine ((H _).out).mono ?_; rintro e w' ⟨⟨v, v0, v1, rfl⟩, rfl⟩)
  go_ret2
  exact ⟨⟨v, v0, v1, rfl⟩, rfl⟩

theorem unToP_uint16_int16 (c : Int) (h0 : 0 ≤ c) (h1 : c ≤ 32767) (w : World) :
    Calls Tryd.prog 75 #[.iface 67 (.int .i16 c)] w fun e w' => (∃ v : Int, 0 ≤ v ∧ v ≤ 65535 ∧ e = .returned (.tuple #[.int .u16 v, .nilIface])) ∧ w = w' := by
  have hmf : ∀ (fn : Fn) (first cap : Array Value) (w : World), (Instr.makeFunc fn first cap).run Tryd.prog w = .ok (.func fn first cap) w := fun _ _ _ _ => rfl
  have H := fun pf w => Lib.hid (unEP_uint16_int16 c h0 h1 pf w)
  go_enter Tryd.func75, Tryd.ntmps75
  go_wp2_with (go_at_call 99; refine ((H _ _).out).mono ?_; rintro e w' ⟨⟨v, v0, v1, rfl⟩, rfl⟩)
  go_ret2
  exact ⟨⟨v, v0, v1, rfl⟩, rfl⟩

theorem doorP_uint16_int16 (c : Int) (h0 : 0 ≤ c) (h1 : c ≤ 32767) (w : World) :
    Calls Tryd.prog 39 #[anyOf 4 c 0 0 ⟨#[]⟩] w fun e w' => (∃ v : Int, e = .returned (.tuple #[.int .u64 v, .bool true])) ∧ Below w.heap.size w w' := by
  have HV := fun w => Lib.hid (value_int16 c 0 0 ⟨#[]⟩ w (by omega) (by omega))
  have hval : (IntKind.i16.wrap c) = c := by simp [wrap32, IntKind.wrap, IntKind.bits, IntKind.signed]; omega
  rw [hval] at HV
  clear hval
  have HE := fun w => Lib.hid (unToP_uint16_int16 c h0 h1 w)
  unfold anyOf at HV ⊢
  go_enter Tryd.func39, Tryd.ntmps39
  go_wp2_with (first
    | (go_at_call 26; refine ((HV _).out).mono ?_; rintro e w1 ⟨rfl, hb0⟩; have hb1 : Below w.heap.size w w1 := ((Below.refl _ _).alloc (Nat.le_refl _) _).trans (hb0.mono (by simp)))
    | (go_at_call 75; refine ((HE _).out).mono ?_; rintro e w2 ⟨⟨v, v0, v1, rfl⟩, rfl⟩))
  go_quiet (fail)
  go_wp2
  go_ret2
  exact ⟨⟨_, rfl⟩, bdrew hb1 _⟩

theorem unN_uint16_int32 (c : Int) (h0 : -2147483648 ≤ c) (h1 : c < 0) (w : World) :
    Calls Tryd.prog 126 #[.iface 21 (.int .i32 c)] w fun e w' => e = .returned (.tuple #[.int .u16 0, .bool false, .bool false]) ∧ w = w' := by
  have z0 := Tryd.no_uint16 21 (by decide) (.int .i32 c)
  have z1 := Tryd.no_int 21 (by decide) (.int .i32 c)
  have z2 := Tryd.no_int8 21 (by decide) (.int .i32 c)
  have z3 := Tryd.no_int16 21 (by decide) (.int .i32 c)
  have z4 := Tryd.is_int32 (.int .i32 c)
  have h2 : ¬ 0 ≤ c := by omega
  go_enter Tryd.func126, Tryd.ntmps126
  go_wp2_with (go_at_call 49; refine (indirect_any 21 _ (by decide) (by decide) _).mono ?_; rintro e w' ⟨rfl, rfl⟩)
  go_ret3
  exact ⟨rfl, rfl⟩

theorem unEN_uint16_int32 (c : Int) (h0 : -2147483648 ≤ c) (h1 : c < 0) (pf : Value) (w : World) :
    Calls Tryd.prog 99 #[.iface 21 (.int .i32 c), pf] w fun e w' => (∃ T q, e = .returned (.tuple #[.int .u16 0, .iface T q])) ∧ w = w' := by
  have H := fun w => Lib.hid (unN_uint16_int32 c h0 h1 w)
  go_enter Tryd.func99, Tryd.ntmps99
  go_wp2_with (first
    | (go_at_call 126; refine ((H _).out).mono ?_; rintro e w' ⟨rfl, rfl⟩)
    | (go_at_call 49; refine (indirect_any 21 _ (by decide) (by decide) _).mono ?_; rintro e w' ⟨rfl, rfl⟩))
  go_ret2
  exact ⟨⟨_, _, rfl⟩, rfl⟩

theorem unToN_uint16_int32 (c : Int) (h0 : -2147483648 ≤ c) (h1 : c < 0) (w : World) :
    Calls Tryd.prog 75 #[.iface 21 (.int .i32 c)] w fun e w' => (∃ T q, e = .returned (.tuple #[.int .u16 0, .iface T q])) ∧ w = w' := by
  have hmf : ∀ (fn : Fn) (first cap : Array Value) (w : World), (Instr.makeFunc fn first cap).run Tryd.prog w = .ok (.func fn first cap) w := fun _ _ _ _ => rfl
  have H := fun pf w => Lib.hid (unEN_uint16_int32 c h0 h1 pf w)
  go_enter Tryd.func75, Tryd.ntmps75
  go_wp2_with (go_at_call 99; refine ((H _ _).out).mono ?_; rintro e w' ⟨⟨T, q, rfl⟩, rfl⟩)
  go_ret2
  exact ⟨⟨_, _, rfl⟩, rfl⟩

theorem doorN_uint16_int32 (c : Int) (h0 : -2147483648 ≤ c) (h1 : c < 0) (w : World) :
    Calls Tryd.prog 39 #[anyOf 5 c 0 0 ⟨#[]⟩] w fun e w' => (e = .returned (.tuple #[.int .u64 0, .bool false])) ∧ Below w.heap.size w w' := by
  have HV := fun w => Lib.hid (value_int32 c 0 0 ⟨#[]⟩ w (by omega) (by omega))
  have hval : (wrap32 c) = c := by simp [wrap32, IntKind.wrap, IntKind.bits, IntKind.signed]; omega
  rw [hval] at HV
  clear hval
  have HE := fun w => Lib.hid (unToN_uint16_int32 c h0 h1 w)
  unfold anyOf at HV ⊢
  go_enter Tryd.func39, Tryd.ntmps39
  go_wp2_with (first
    | (go_at_call 26; refine ((HV _).out).mono ?_; rintro e w1 ⟨rfl, hb0⟩; have hb1 : Below w.heap.size w w1 := ((Below.refl _ _).alloc (Nat.le_refl _) _).trans (hb0.mono (by simp)))
    | (go_at_call 75; refine ((HE _).out).mono ?_; rintro e w2 ⟨⟨T, q, rfl⟩, rfl⟩))
  go_quiet (fail)
  go_wp2
  go_ret2
  exact ⟨rfl, bdrew hb1 _⟩

theorem unP_uint16_int32 (c : Int) (h0 : 0 ≤ c) (h1 : c ≤ 2147483647) (w : World) :
    Calls Tryd.prog 126 #[.iface 21 (.int .i32 c)] w fun e w' => (∃ v : Int, 0 ≤ v ∧ v ≤ 65535 ∧ e = .returned (.tuple #[.int .u16 v, .bool true, .bool true])) ∧ w = w' := by
  have z0 := Tryd.no_uint16 21 (by decide) (.int .i32 c)
  have z1 := Tryd.no_int 21 (by decide) (.int .i32 c)
  have z2 := Tryd.no_int8 21 (by decide) (.int .i32 c)
  have z3 := Tryd.no_int16 21 (by decide) (.int .i32 c)
  have z4 := Tryd.is_int32 (.int .i32 c)
  have h2 : ¬ c < 0 := by omega
  go_enter Tryd.func126, Tryd.ntmps126
  go_wp2_with (go_at_call 49; refine (indirect_any 21 _ (by decide) (by decide) _).mono ?_; rintro e w' ⟨rfl, rfl⟩)
  go_ret3
  refine ⟨⟨_, ?_, ?_, rfl⟩, rfl⟩ <;> first | omega | (simp [wrap32, IntKind.wrap, IntKind.bits, IntKind.signed]; omega) | (simp [wrap32, IntKind.wrap, IntKind.bits, IntKind.signed])

theorem unEP_uint16_int32 (c : Int) (h0 : 0 ≤ c) (h1 : c ≤ 2147483647) (pf : Value) (w : World) :
    Calls Tryd.prog 99 #[.iface 21 (.int .i32 c), pf] w fun e w' => (∃ v : Int, 0 ≤ v ∧ v ≤ 65535 ∧ e = .returned (.tuple #[.int .u16 v, .nilIface])) ∧ w = w' := by
  have H := fun w => Lib.hid (unP_uint16_int32 c h0 h1 w)
  go_enter Tryd.func99, Tryd.ntmps99
  go_wp2_with (go_at_call 126; refine ((H _).out).mono ?_; rintro e w' ⟨⟨v, v0, v1, rfl⟩, rfl⟩)
  go_ret2
  exact ⟨⟨v, v0, v1, rfl⟩, rfl⟩

theorem unToP_uint16_int32 (c : Int) (h0 : 0 ≤ c) (h1 : c ≤ 2147483647) (w : World) :
    Calls Tryd.prog 75 #[.iface 21 (.int .i32 c)] w fun e w' => (∃ v : Int, 0 ≤ v ∧ v ≤ 65535 ∧ e = .returned (.tuple #[.int .u16 v, .nilIface])) ∧ w = w' := by
  have hmf : ∀ (fn : Fn) (first cap : Array Value) (w : World), (Instr.makeFunc fn first cap).run Tryd.prog w = .ok (.func fn first cap) w := fun _ _ _ _ => rfl
  have H := fun pf w => Lib.hid (unEP_uint16_int32 c h0 h1 pf w)
  go_enter Tryd.func75, Tryd.ntmps75
  go_wp2_with (go_at_call 99; refine ((H _ _).out).mono ?_; rintro e w' ⟨⟨v, v0, v1, rfl⟩, rfl⟩)
  go_ret2
  exact ⟨⟨v, v0, v1, rfl⟩, rfl⟩

theorem doorP_uint16_int32 (c : Int) (h0 : 0 ≤ c) (h1 : c ≤ 2147483647) (w : World) :
    Calls Tryd.prog 39 #[anyOf 5 c 0 0 ⟨#[]⟩] w fun e w' => (∃ v : Int, e = .returned (.tuple #[.int .u64 v, .bool true])) ∧ Below w.heap.size w w' := by
  have HV := fun w => Lib.hid (value_int32 c 0 0 ⟨#[]⟩ w (by omega) (by omega))
  have hval : (wrap32 c) = c := by simp [wrap32, IntKind.wrap, IntKind.bits, IntKind.signed]; omega
  rw [hval] at HV
  clear hval
  have HE := fun w => Lib.hid (unToP_uint16_int32 c h0 h1 w)
  unfold anyOf at HV ⊢
  go_enter Tryd.func39, Tryd.ntmps39
  go_wp2_with (first
    | (go_at_call 26; refine ((HV _).out).mono ?_; rintro e w1 ⟨rfl, hb0⟩; have hb1 : Below w.heap.size w w1 := ((Below.refl _ _).alloc (Nat.le_refl _) _).trans (hb0.mono (by simp)))
    | (go_at_call 75; refine ((HE _).out).mono ?_; rintro e w2 ⟨⟨v, v0, v1, rfl⟩, rfl⟩))
  go_quiet (fail)
  go_wp2
  go_ret2
  exact ⟨⟨_, rfl⟩, bdrew hb1 _⟩

theorem unN_uint16_int64 (c : Int) (h0 : -9223372036854775808 ≤ c) (h1 : c < 0) (w : World) :
    Calls Tryd.prog 126 #[.iface 2 (.int .i64 c)] w fun e w' => e = .returned (.tuple #[.int .u16 0, .bool false, .bool false]) ∧ w = w' := by
  have z0 := Tryd.no_uint16 2 (by decide) (.int .i64 c)
  have z1 := Tryd.no_int 2 (by decide) (.int .i64 c)
  have z2 := Tryd.no_int8 2 (by decide) (.int .i64 c)
  have z3 := Tryd.no_int16 2 (by decide) (.int .i64 c)
  have z4 := Tryd.no_int32 2 (by decide) (.int .i64 c)
  have z5 := Tryd.is_int64 (.int .i64 c)
  have h2 : ¬ 0 ≤ c := by omega
  go_enter Tryd.func126, Tryd.ntmps126
  go_wp2_with (go_at_call 49; refine (indirect_any 2 _ (by decide) (by decide) _).mono ?_; rintro e w' ⟨rfl, rfl⟩)
  go_ret3
  exact ⟨rfl, rfl⟩

theorem unEN_uint16_int64 (c : Int) (h0 : -9223372036854775808 ≤ c) (h1 : c < 0) (pf : Value) (w : World) :
    Calls Tryd.prog 99 #[.iface 2 (.int .i64 c), pf] w fun e w' => (∃ T q, e = .returned (.tuple #[.int .u16 0, .iface T q])) ∧ w = w' := by
  have H := fun w => Lib.hid (unN_uint16_int64 c h0 h1 w)
  go_enter Tryd.func99, Tryd.ntmps99
  go_wp2_with (first
    | (go_at_call 126; refine ((H _).out).mono ?_; rintro e w' ⟨rfl, rfl⟩)
    | (go_at_call 49; refine (indirect_any 2 _ (by decide) (by decide) _).mono ?_; rintro e w' ⟨rfl, rfl⟩))
  go_ret2
  exact ⟨⟨_, _, rfl⟩, rfl⟩

theorem unToN_uint16_int64 (c : Int) (h0 : -9223372036854775808 ≤ c) (h1 : c < 0) (w : World) :
    Calls Tryd.prog 75 #[.iface 2 (.int .i64 c)] w fun e w' => (∃ T q, e = .returned (.tuple #[.int .u16 0, .iface T q])) ∧ w = w' := by
  have hmf : ∀ (fn : Fn) (first cap : Array Value) (w : World), (Instr.makeFunc fn first cap).run Tryd.prog w = .ok (.func fn first cap) w := fun _ _ _ _ => rfl
  have H := fun pf w => Lib.hid (unEN_uint16_int64 c h0 h1 pf w)
  go_enter Tryd.func75, Tryd.ntmps75
  go_wp2_with (go_at_call 99; refine ((H _ _).out).mono ?_; rintro e w' ⟨⟨T, q, rfl⟩, rfl⟩)
  go_ret2
  exact ⟨⟨_, _, rfl⟩, rfl⟩

theorem doorN_uint16_int64 (c : Int) (h0 : -9223372036854775808 ≤ c) (h1 : c < 0) (w : World) :
    Calls Tryd.prog 39 #[anyOf 6 c 0 0 ⟨#[]⟩] w fun e w' => (e = .returned (.tuple #[.int .u64 0, .bool false])) ∧ Below w.heap.size w w' := by
  have HV := fun w => Lib.hid (value_int64 c 0 0 ⟨#[]⟩ w (by omega) (by omega))
  have HE := fun w => Lib.hid (unToN_uint16_int64 c h0 h1 w)
  unfold anyOf at HV ⊢
  go_enter Tryd.func39, Tryd.ntmps39
  go_wp2_with (first
    | (go_at_call 26; refine ((HV _).out).mono ?_; rintro e w1 ⟨rfl, hb0⟩; have hb1 : Below w.heap.size w w1 := ((Below.refl _ _).alloc (Nat.le_refl _) _).trans (hb0.mono (by simp)))
    | (go_at_call 75; refine ((HE _).out).mono ?_; rintro e w2 ⟨⟨T, q, rfl⟩, rfl⟩))
  go_quiet (fail)
  go_wp2
  go_ret2
  exact ⟨rfl, bdrew hb1 _⟩

theorem unP_uint16_int64 (c : Int) (h0 : 0 ≤ c) (h1 : c ≤ 9223372036854775807) (w : World) :
    Calls Tryd.prog 126 #[.iface 2 (.int .i64 c)] w fun e w' => (∃ v : Int, 0 ≤ v ∧ v ≤ 65535 ∧ e = .returned (.tuple #[.int .u16 v, .bool true, .bool true])) ∧ w = w' := by
  have z0 := Tryd.no_uint16 2 (by decide) (.int .i64 c)
  have z1 := Tryd.no_int 2 (by decide) (.int .i64 c)
  have z2 := Tryd.no_int8 2 (by decide) (.int .i64 c)
  have z3 := Tryd.no_int16 2 (by decide) (.int .i64 c)
  have z4 := Tryd.no_int32 2 (by decide) (.int .i64 c)
  have z5 := Tryd.is_int64 (.int .i64 c)
  have h2 : ¬ c < 0 := by omega
  go_enter Tryd.func126, Tryd.ntmps126
  go_wp2_with (go_at_call 49; refine (indirect_any 2 _ (by decide) (by decide) _).mono ?_; rintro e w' ⟨rfl, rfl⟩)
  go_ret3
  refine ⟨⟨_, ?_, ?_, rfl⟩, rfl⟩ <;> first | omega | (simp [wrap32, IntKind.wrap, IntKind.bits, IntKind.signed]; omega) | (simp [wrap32, IntKind.wrap, IntKind.bits, IntKind.signed])

theorem unEP_uint16_int64 (c : Int) (h0 : 0 ≤ c) (h1 : c ≤ 9223372036854775807) (pf : Value) (w : World) :
    Calls Tryd.prog 99 #[.iface 2 (.int .i64 c), pf] w fun e w' => (∃ v : Int, 0 ≤ v ∧ v ≤ 65535 ∧ e = .returned (.tuple #[.int .u16 v, .nilIface])) ∧ w = w' := by
  have H := fun w => Lib.hid (unP_uint16_int64 c h0 h1 w)
  go_enter Tryd.func99, Tryd.ntmps99
  go_wp2_with (go_at_call 126; refine ((H _).out).mono ?_; rintro e w' ⟨⟨v, v0, v1, rfl⟩, rfl⟩)
  go_ret2
  exact ⟨⟨v, v0, v1, rfl⟩, rfl⟩

theorem unToP_uint16_int64 (c : Int) (h0 : 0 ≤ c) (h1 : c ≤ 9223372036854775807) (w : World) :
    Calls Tryd.prog 75 #[.iface 2 (.int .i64 c)] w fun e w' => (∃ v : Int, 0 ≤ v ∧ v ≤ 65535 ∧ e = .returned (.tuple #[.int .u16 v, .nilIface])) ∧ w = w' := by
  have hmf : ∀ (fn : Fn) (first cap : Array Value) (w : World), (Instr.makeFunc fn first cap).run Tryd.prog w = .ok (.func fn first cap) w := fun _ _ _ _ => rfl
  have H := fun pf w => Lib.hid (unEP_uint16_int64 c h0 h1 pf w)
  go_enter Tryd.func75, Tryd.ntmps75
  go_wp2_with (go_at_call 99; refine ((H _ _).out).mono ?_; rintro e w' ⟨⟨v, v0, v1, rfl⟩, rfl⟩)
  go_ret2
  exact ⟨⟨v, v0, v1, rfl⟩, rfl⟩

theorem doorP_uint16_int64 (c : Int) (h0 : 0 ≤ c) (h1 : c ≤ 9223372036854775807) (w : World) :
    Calls Tryd.prog 39 #[anyOf 6 c 0 0 ⟨#[]⟩] w fun e w' => (∃ v : Int, e = .returned (.tuple #[.int .u64 v, .bool true])) ∧ Below w.heap.size w w' := by
  have HV := fun w => Lib.hid (value_int64 c 0 0 ⟨#[]⟩ w (by omega) (by omega))
  have HE := fun w => Lib.hid (unToP_uint16_int64 c h0 h1 w)
  unfold anyOf at HV ⊢
  go_enter Tryd.func39, Tryd.ntmps39
  go_wp2_with (first
    | (go_at_call 26; refine ((HV _).out).mono ?_; rintro e w1 ⟨rfl, hb0⟩; have hb1 : Below w.heap.size w w1 := ((Below.refl _ _).alloc (Nat.le_refl _) _).trans (hb0.mono (by simp)))
    | (go_at_call 75; refine ((HE _).out).mono ?_; rintro e w2 ⟨⟨v, v0, v1, rfl⟩, rfl⟩))
  go_quiet (fail)
  go_wp2
  go_ret2
  exact ⟨⟨_, rfl⟩, bdrew hb1 _⟩

theorem unN_uint32_int (c : Int) (h0 : -9223372036854775808 ≤ c) (h1 : c < 0) (w : World) :
    Calls Tryd.prog 127 #[.iface 3 (.int .i64 c)] w fun e w' => e = .returned (.tuple #[.int .u32 0, .bool false, .bool false]) ∧ w = w' := by
  have z0 := Tryd.no_uint32 3 (by decide) (.int .i64 c)
  have z1 := Tryd.is_int (.int .i64 c)
  have h2 : ¬ 0 ≤ c := by omega
  go_enter Tryd.func127, Tryd.ntmps127
  go_wp2_with (go_at_call 49; refine (indirect_any 3 _ (by decide) (by decide) _).mono ?_; rintro e w' ⟨rfl, rfl⟩)
  go_ret3
  exact ⟨rfl, rfl⟩

theorem unEN_uint32_int (c : Int) (h0 : -9223372036854775808 ≤ c) (h1 : c < 0) (pf : Value) (w : World) :
    Calls Tryd.prog 101 #[.iface 3 (.int .i64 c), pf] w fun e w' => (∃ T q, e = .returned (.tuple #[.int .u32 0, .iface T q])) ∧ w = w' := by
  have H := fun w => Lib.hid (unN_uint32_int c h0 h1 w)
  go_enter Tryd.func101, Tryd.ntmps101
  go_wp2_with (first
    | (go_at_call 127; refine ((H _).out).mono ?_; rintro e w' ⟨rfl, rfl⟩)
    | (go_at_call 49; refine (indirect_any 3 _ (by decide) (by decide) _).mono ?_; rintro e w' ⟨rfl, rfl⟩))
  go_ret2
  exact ⟨⟨_, _, rfl⟩, rfl⟩

theorem unToN_uint32_int (c : Int) (h0 : -9223372036854775808 ≤ c) (h1 : c < 0) (w : World) :
    Calls Tryd.prog 76 #[.iface 3 (.int .i64 c)] w fun e w' => (∃ T q, e = .returned (.tuple #[.int .u32 0, .iface T q])) ∧ w = w' := by
  have hmf : ∀ (fn : Fn) (first cap : Array Value) (w : World), (Instr.makeFunc fn first cap).run Tryd.prog w = .ok (.func fn first cap) w := fun _ _ _ _ => rfl
  have H := fun pf w => Lib.hid (unEN_uint32_int c h0 h1 pf w)
  go_enter Tryd.func76, Tryd.ntmps76
  go_wp2_with (go_at_call 101; refine ((H _ _).out).mono ?_; rintro e w' ⟨⟨T, q, rfl⟩, rfl⟩)
  go_ret2
  exact ⟨⟨_, _, rfl⟩, rfl⟩

theorem doorN_uint32_int (c : Int) (h0 : -9223372036854775808 ≤ c) (h1 : c < 0) (w : World) :
    Calls Tryd.prog 40 #[anyOf 2 c 0 0 ⟨#[]⟩] w fun e w' => (e = .returned (.tuple #[.int .u64 0, .bool false])) ∧ Below w.heap.size w w' := by
  have HV := fun w => Lib.hid (value_int c 0 0 ⟨#[]⟩ w (by omega) (by omega))
  have HE := fun w => Lib.hid (unToN_uint32_int c h0 h1 w)
  unfold anyOf at HV ⊢
  go_enter Tryd.func40, Tryd.ntmps40
  go_wp2_with (first
    | (go_at_call 26; refine ((HV _).out).mono ?_; rintro e w1 ⟨rfl, hb0⟩; have hb1 : Below w.heap.size w w1 := ((Below.refl _ _).alloc (Nat.le_refl _) _).trans (hb0.mono (by simp)))
    | (go_at_call 76; refine ((HE _).out).mono ?_; rintro e w2 ⟨⟨T, q, rfl⟩, rfl⟩))
  go_quiet (fail)
  go_wp2
  go_ret2
  exact ⟨rfl, bdrew hb1 _⟩

theorem unP_uint32_int (c : Int) (h0 : 0 ≤ c) (h1 : c ≤ 9223372036854775807) (w : World) :
    Calls Tryd.prog 127 #[.iface 3 (.int .i64 c)] w fun e w' => (∃ v : Int, 0 ≤ v ∧ v ≤ 4294967295 ∧ e = .returned (.tuple #[.int .u32 v, .bool true, .bool true])) ∧ w = w' := by
  have z0 := Tryd.no_uint32 3 (by decide) (.int .i64 c)
  have z1 := Tryd.is_int (.int .i64 c)
  have h2 : ¬ c < 0 := by omega
  go_enter Tryd.func127, Tryd.ntmps127
  go_wp2_with (go_at_call 49; refine (indirect_any 3 _ (by decide) (by decide) _).mono ?_; rintro e w' ⟨rfl, rfl⟩)
  go_ret3
  refine ⟨⟨_, ?_, ?_, rfl⟩, rfl⟩ <;> first | omega | (simp [wrap32, IntKind.wrap, IntKind.bits, IntKind.signed]; omega) | (simp [wrap32, IntKind.wrap, IntKind.bits, IntKind.signed])

theorem unEP_uint32_int (c : Int) (h0 : 0 ≤ c) (h1 : c ≤ 9223372036854775807) (pf : Value) (w : World) :
    Calls Tryd.prog 101 #[.iface 3 (.int .i64 c), pf] w fun e w' => (∃ v : Int, 0 ≤ v ∧ v ≤ 4294967295 ∧ e = .returned (.tuple #[.int .u32 v, .nilIface])) ∧ w = w' := by
  have H := fun w => Lib.hid (unP_uint32_int c h0 h1 w)
  go_enter Tryd.func101, Tryd.ntmps101
  go_wp2_with (go_at_call 127; refine ((H _).out).mono ?_; rintro e w' ⟨⟨v, v0, v1, rfl⟩, rfl⟩)
  go_ret2
  exact ⟨⟨v, v0, v1, rfl⟩, rfl⟩

theorem unToP_uint32_int (c : Int) (h0 : 0 ≤ c) (h1 : c ≤ 9223372036854775807) (w : World) :
    Calls Tryd.prog 76 #[.iface 3 (.int .i64 c)] w fun e w' => (∃ v : Int, 0 ≤ v ∧ v ≤ 4294967295 ∧ e = .returned (.tuple #[.int .u32 v, .nilIface])) ∧ w = w' := by
  have hmf : ∀ (fn : Fn) (first cap : Array Value) (w : World), (Instr.makeFunc fn first cap).run Tryd.prog w = .ok (.func fn first cap) w := fun _ _ _ _ => rfl
  have H := fun pf w => Lib.hid (unEP_uint32_int c h0 h1 pf w)
  go_enter Tryd.func76, Tryd.ntmps76
  go_wp2_with (go_at_call 101; refine ((H _ _).out).mono ?_; rintro e w' ⟨⟨v, v0, v1, rfl⟩, rfl⟩)
  go_ret2
  exact ⟨⟨v, v0, v1, rfl⟩, rfl⟩

theorem doorP_uint32_int (c : Int) (h0 : 0 ≤ c) (h1 : c ≤ 9223372036854775807) (w : World) :
    Calls Tryd.prog 40 #[anyOf 2 c 0 0 ⟨#[]⟩] w fun e w' => (∃ v : Int, e = .returned (.tuple #[.int .u64 v, .bool true])) ∧ Below w.heap.size w w' := by
  have HV := fun w => Lib.hid (value_int c 0 0 ⟨#[]⟩ w (by omega) (by omega))
  have HE := fun w => Lib.hid (unToP_uint32_int c h0 h1 w)
  unfold anyOf at HV ⊢
  go_enter Tryd.func40, Tryd.ntmps40
  go_wp2_with (first
    | (go_at_call 26; refine ((HV _).out).mono ?_; rintro e w1 ⟨rfl, hb0⟩; have hb1 : Below w.heap.size w w1 := ((Below.refl _ _).alloc (Nat.le_refl _) _).trans (hb0.mono (by simp)))
    | (go_at_call 76; refine ((HE _).out).mono ?_; rintro e w2 ⟨⟨v, v0, v1, rfl⟩, rfl⟩))
  go_quiet (fail)
  go_wp2
  go_ret2
  exact ⟨⟨_, rfl⟩, bdrew hb1 _⟩

theorem unN_uint32_int8 (c : Int) (h0 : -128 ≤ c) (h1 : c < 0) (w : World) :
    Calls Tryd.prog 127 #[.iface 66 (.int .i8 c)] w fun e w' => e = .returned (.tuple #[.int .u32 0, .bool false, .bool false]) ∧ w = w' := by
  have z0 := Tryd.no_uint32 66 (by decide) (.int .i8 c)
  have z1 := Tryd.no_int 66 (by decide) (.int .i8 c)
  have z2 := Tryd.is_int8 (.int .i8 c)
  have h2 : ¬ 0 ≤ c := by omega
  go_enter Tryd.func127, Tryd.ntmps127
  go_wp2_with (go_at_call 49; refine (indirect_any 66 _ (by decide) (by decide) _).mono ?_; rintro e w' ⟨rfl, rfl⟩)
  go_ret3
  exact ⟨rfl, rfl⟩

theorem unEN_uint32_int8 (c : Int) (h0 : -128 ≤ c) (h1 : c < 0) (pf : Value) (w : World) :
    Calls Tryd.prog 101 #[.iface 66 (.int .i8 c), pf] w fun e w' => (∃ T q, e = .returned (.tuple #[.int .u32 0, .iface T q])) ∧ w = w' := by
  have H := fun w => Lib.hid (unN_uint32_int8 c h0 h1 w)
  go_enter Tryd.func101, Tryd.ntmps101
  go_wp2_with (first
    | (go_at_call 127; refine ((H _).out).mono ?_; rintro e w' ⟨rfl, rfl⟩)
    | (go_at_call 49; refine (indirect_any 66 _ (by decide) (by decide) _).mono ?_; rintro e w' ⟨rfl, rfl⟩))
  go_ret2
  exact ⟨⟨_, _, rfl⟩, rfl⟩

theorem unToN_uint32_int8 (c : Int) (h0 : -128 ≤ c) (h1 : c < 0) (w : World) :
    Calls Tryd.prog 76 #[.iface 66 (.int .i8 c)] w fun e w' => (∃ T q, e = .returned (.tuple #[.int .u32 0, .iface T q])) ∧ w = w' := by
  have hmf : ∀ (fn : Fn) (first cap : Array Value) (w : World), (Instr.makeFunc fn first cap).run Tryd.prog w = .ok (.func fn first cap) w := fun _ _ _ _ => rfl
  have H := fun pf w => Lib.hid (unEN_uint32_int8 c h0 h1 pf w)
  go_enter Tryd.func76, Tryd.ntmps76
  go_wp2_with (go_at_call 101; refine ((H _ _).out).mono ?_; rintro e w' ⟨⟨T, q, rfl⟩, rfl⟩)
  go_ret2
  exact ⟨⟨_, _, rfl⟩, rfl⟩

theorem doorN_uint32_int8 (c : Int) (h0 : -128 ≤ c) (h1 : c < 0) (w : World) :
    Calls Tryd.prog 40 #[anyOf 3 c 0 0 ⟨#[]⟩] w fun e w' => (e = .returned (.tuple #[.int .u64 0, .bool false])) ∧ Below w.heap.size w w' := by
  have HV := fun w => Lib.hid (value_int8 c 0 0 ⟨#[]⟩ w (by omega) (by omega))
  have hval : (IntKind.i8.wrap c) = c := by simp [wrap32, IntKind.wrap, IntKind.bits, IntKind.signed]; omega
  rw [hval] at HV
  clear hval
  have HE := fun w => Lib.hid (unToN_uint32_int8 c h0 h1 w)
  unfold anyOf at HV ⊢
  go_enter Tryd.func40, Tryd.ntmps40
  go_wp2_with (first
    | (go_at_call 26; refine ((HV _).out).mono ?_; rintro e w1 ⟨rfl, hb0⟩; have hb1 : Below w.heap.size w w1 := ((Below.refl _ _).alloc (Nat.le_refl _) _).trans (hb0.mono (by simp)))
    | (go_at_call 76; refine ((HE _).out).mono ?_; rintro e w2 ⟨⟨T, q, rfl⟩, rfl⟩))
  go_quiet (fail)
  go_wp2
  go_ret2
  exact ⟨rfl, bdrew hb1 _⟩

theorem unP_uint32_int8 (c : Int) (h0 : 0 ≤ c) (h1 : c ≤ 127) (w : World) :
    Calls Tryd.prog 127 #[.iface 66 (.int .i8 c)] w fun e w' => (∃ v : Int, 0 ≤ v ∧ v ≤ 4294967295 ∧ e = .returned (.tuple #[.int .u32 v, .bool true, .bool true])) ∧ w = w' := by
  have z0 := Tryd.no_uint32 66 (by decide) (.int .i8 c)
  have z1 := Tryd.no_int 66 (by decide) (.int .i8 c)
  have z2 := Tryd.is_int8 (.int .i8 c)
  have h2 : ¬ c < 0 := by omega
  go_enter Tryd.func127, Tryd.ntmps127
  go_wp2_with (go_at_call 49; refine (indirect_any 66 _ (by decide) (by decide) _).mono ?_; rintro e w' ⟨rfl, rfl⟩)
  go_ret3
  refine ⟨⟨_, ?_, ?_, rfl⟩, rfl⟩ <;> first | omega | (simp [wrap32, IntKind.wrap, IntKind.bits, IntKind.signed]; omega) | (simp [wrap32, IntKind.wrap, IntKind.bits, IntKind.signed])

theorem unEP_uint32_int8 (c : Int) (h0 : 0 ≤ c) (h1 : c ≤ 127) (pf : Value) (w : World) :
    Calls Tryd.prog 101 #[.iface 66 (.int .i8 c), pf] w fun e w' => (∃ v : Int, 0 ≤ v ∧ v ≤ 4294967295 ∧ e = .returned (.tuple #[.int .u32 v, .nilIface])) ∧ w = w' := by
  have H := fun w => Lib.hid (unP_uint32_int8 c h0 h1 w)
  go_enter Tryd.func101, Tryd.ntmps101
  go_wp2_with (go_at_call 127; refine ((H _).out).mono ?_; rintro e w' ⟨⟨v, v0, v1, rfl⟩, rfl⟩)
  go_ret2
  exact ⟨⟨v, v0, v1, rfl⟩, rfl⟩

theorem unToP_uint32_int8 (c : Int) (h0 : 0 ≤ c) (h1 : c ≤ 127) (w : World) :
    Calls Tryd.prog 76 #[.iface 66 (.int .i8 c)] w fun e w' => (∃ v : Int, 0 ≤ v ∧ v ≤ 4294967295 ∧ e = .returned (.tuple #[.int .u32 v, .nilIface])) ∧ w = w' := by
  have hmf : ∀ (fn : Fn) (first cap : Array Value) (w : World), (Instr.makeFunc fn first cap).run Tryd.prog w = .ok (.func fn first cap) w := fun _ _ _ _ => rfl
  have H := fun pf w => Lib.hid (unEP_uint32_int8 c h0 h1 pf w)
  go_enter Tryd.func76, Tryd.ntmps76
  go_wp2_with (go_at_call 101; refine ((H _ _).out).mono ?_; rintro e w' ⟨⟨v, v0, v1, rfl⟩, rfl⟩)
  go_ret2
  exact ⟨⟨v, v0, v1, rfl⟩, rfl⟩

theorem doorP_uint32_int8 (c : Int) (h0 : 0 ≤ c) (h1 : c ≤ 127) (w : World) :
    Calls Tryd.prog 40 #[anyOf 3 c 0 0 ⟨#[]⟩] w fun e w' => (∃ v : Int, e = .returned (.tuple #[.int .u64 v, .bool true])) ∧ Below w.heap.size w w' := by
  have HV := fun w => Lib.hid (value_int8 c 0 0 ⟨#[]⟩ w (by omega) (by omega))
  have hval : (IntKind.i8.wrap c) = c := by simp [wrap32, IntKind.wrap, IntKind.bits, IntKind.signed]; omega
  rw [hval] at HV
  clear hval
  have HE := fun w => Lib.hid (unToP_uint32_int8 c h0 h1 w)
  unfold anyOf at HV ⊢
  go_enter Tryd.func40, Tryd.ntmps40
  go_wp2_with (first
    | (go_at_call 26; refine ((HV _).out).mono ?_; rintro e w1 ⟨rfl, hb0⟩; have hb1 : Below w.heap.size w w1 := ((Below.refl _ _).alloc (Nat.le_refl _) _).trans (hb0.mono (by simp)))
    | (go_at_call 76; refine ((HE _).out).mono ?_; rintro e w2 ⟨⟨v, v0, v1, rfl⟩, rfl⟩))
  go_quiet (fail)
  go_wp2
  go_ret2
  exact ⟨⟨_, rfl⟩, bdrew hb1 _⟩

theorem unN_uint32_int16 (c : Int) (h0 : -32768 ≤ c) (h1 : c < 0) (w : World) :
    Calls Tryd.prog 127 #[.iface 67 (.int .i16 c)] w fun e w' => e = .returned (.tuple #[.int .u32 0, .bool false, .bool false]) ∧ w = w' := by
  have z0 := Tryd.no_uint32 67 (by decide) (.int .i16 c)
  have z1 := Tryd.no_int 67 (by decide) (.int .i16 c)
  have z2 := Tryd.no_int8 67 (by decide) (.int .i16 c)
  have z3 := Tryd.is_int16 (.int .i16 c)
  have h2 : ¬ 0 ≤ c := by omega
  go_enter Tryd.func127, Tryd.ntmps127
  go_wp2_with (go_at_call 49; refine (indirect_any 67 _ (by decide) (by decide) _).mono ?_; rintro e w' ⟨rfl, rfl⟩)
  go_ret3
  exact ⟨rfl, rfl⟩

theorem unEN_uint32_int16 (c : Int) (h0 : -32768 ≤ c) (h1 : c < 0) (pf : Value) (w : World) :
    Calls Tryd.prog 101 #[.iface 67 (.int .i16 c), pf] w fun e w' => (∃ T q, e = .returned (.tuple #[.int .u32 0, .iface T q])) ∧ w = w' := by
  have H := fun w => Lib.hid (unN_uint32_int16 c h0 h1 w)
  go_enter Tryd.func101, Tryd.ntmps101
  go_wp2_with (first
    | (go_at_call 127; refine ((H _).out).mono ?_; rintro e w' ⟨rfl, rfl⟩)
    | (go_at_call 49; refine (indirect_any 67 _ (by decide) (by decide) _).mono ?_; rintro e w' ⟨rfl, rfl⟩))
  go_ret2
  exact ⟨⟨_, _, rfl⟩, rfl⟩

theorem unToN_uint32_int16 (c : Int) (h0 : -32768 ≤ c) (h1 : c < 0) (w : World) :
    Calls Tryd.prog 76 #[.iface 67 (.int .i16 c)] w fun e w' => (∃ T q, e = .returned (.tuple #[.int .u32 0, .iface T q])) ∧ w = w' := by
  have hmf : ∀ (fn : Fn) (first cap : Array Value) (w : World), (Instr.makeFunc fn first cap).run Tryd.prog w = .ok (.func fn first cap) w := fun _ _ _ _ => rfl
  have H := fun pf w => Lib.hid (unEN_uint32_int16 c h0 h1 pf w)
  go_enter Tryd.func76, Tryd.ntmps76
  go_wp2_with (go_at_call 101; refine ((H _ _).out).mono ?_; rintro e w' ⟨⟨T, q, rfl⟩, rfl⟩)
  go_ret2
  exact ⟨⟨_, _, rfl⟩, rfl⟩

theorem doorN_uint32_int16 (c : Int) (h0 : -32768 ≤ c) (h1 : c < 0) (w : World) :
    Calls Tryd.prog 40 #[anyOf 4 c 0 0 ⟨#[]⟩] w fun e w' => (e = .returned (.tuple #[.int .u64 0, .bool false])) ∧ Below w.heap.size w w' := by
  have HV := fun w => Lib.hid (value_int16 c 0 0 ⟨#[]⟩ w (by omega) (by omega))
  have hval : (IntKind.i16.wrap c) = c := by simp [wrap32, IntKind.wrap, IntKind.bits, IntKind.signed]; omega
  rw [hval] at HV
  clear hval
  have HE := fun w => Lib.hid (unToN_uint32_int16 c h0 h1 w)
  unfold anyOf at HV ⊢
  go_enter Tryd.func40, Tryd.ntmps40
  go_wp2_with (first
    | (go_at_call 26; refine ((HV _).out).mono ?_; rintro e w1 ⟨rfl, hb0⟩; have hb1 : Below w.heap.size w w1 := ((Below.refl _ _).alloc (Nat.le_refl _) _).trans (hb0.mono (by simp)))
    | (go_at_call 76; refine ((HE _).out).mono ?_; rintro e w2 ⟨⟨T, q, rfl⟩, rfl⟩))
  go_quiet (fail)
  go_wp2
  go_ret2
  exact ⟨rfl, bdrew hb1 _⟩

theorem unP_uint32_int16 (c : Int) (h0 : 0 ≤ c) (h1 : c ≤ 32767) (w : World) :
    Calls Tryd.prog 127 #[.iface 67 (.int .i16 c)] w fun e w' => (∃ v : Int, 0 ≤ v ∧ v ≤ 4294967295 ∧ e = .returned (.tuple #[.int .u32 v, .bool true, .bool true])) ∧ w = w' := by
  have z0 := Tryd.no_uint32 67 (by decide) (.int .i16 c)
  have z1 := Tryd.no_int 67 (by decide) (.int .i16 c)
  have z2 := Tryd.no_int8 67 (by decide) (.int .i16 c)
  have z3 := Tryd.is_int16 (.int .i16 c)
  have h2 : ¬ c < 0 := by omega
  go_enter Tryd.func127, Tryd.ntmps127
  go_wp2_with (go_at_call 49; refine (indirect_any 67 _ (by decide) (by decide) _).mono ?_; rintro e w' ⟨rfl, rfl⟩)
  go_ret3
  refine ⟨⟨_, ?_, ?_, rfl⟩, rfl⟩ <;> first | omega | (simp [wrap32, IntKind.wrap, IntKind.bits, IntKind.signed]; omega) | (simp [wrap32, IntKind.wrap, IntKind.bits, IntKind.signed])

theorem unEP_uint32_int16 (c : Int) (h0 : 0 ≤ c) (h1 : c ≤ 32767) (pf : Value) (w : World) :
    Calls Tryd.prog 101 #[.iface 67 (.int .i16 c), pf] w fun e w' => (∃ v : Int, 0 ≤ v ∧ v ≤ 4294967295 ∧ e = .returned (.tuple #[.int .u32 v, .nilIface])) ∧ w = w' := by
  have H := fun w => Lib.hid (unP_uint32_int16 c h0 h1 w)
  go_enter Tryd.func101, Tryd.ntmps101
  go_wp2_with (go_at_call 127; refine ((H _).out).mono ?_; rintro e w' ⟨⟨v, v0, v1, rfl⟩, rfl⟩)
  go_ret2
  exact ⟨⟨v, v0, v1, rfl⟩, rfl⟩

theorem unToP_uint32_int16 (c : Int) (h0 : 0 ≤ c) (h1 : c ≤ 32767) (w : World) :
    Calls Tryd.prog 76 #[.iface 67 (.int .i16 c)] w fun e w' => (∃ v : Int, 0 ≤ v ∧ v ≤ 4294967295 ∧ e = .returned (.tuple #[.int .u32 v, .nilIface])) ∧ w = w' := by
  have hmf : ∀ (fn : Fn) (first cap : Array Value) (w : World), (Instr.makeFunc fn first cap).run Tryd.prog w = .ok (.func fn first cap) w := fun _ _ _ _ => rfl
  have H := fun pf w => Lib.hid (unEP_uint32_int16 c h0 h1 pf w)
  go_enter Tryd.func76, Tryd.ntmps76
  go_wp2_with (go_at_call 101; refine ((H _ _).out).mono ?_; rintro e w' ⟨⟨v, v0, v1, rfl⟩, rfl⟩)
  go_ret2
  exact ⟨⟨v, v0, v1, rfl⟩, rfl⟩

theorem doorP_uint32_int16 (c : Int) (h0 : 0 ≤ c) (h1 : c ≤ 32767) (w : World) :
    Calls Tryd.prog 40 #[anyOf 4 c 0 0 ⟨#[]⟩] w fun e w' => (∃ v : Int, e = .returned (.tuple #[.int .u64 v, .bool true])) ∧ Below w.heap.size w w' := by
  have HV := fun w => Lib.hid (value_int16 c 0 0 ⟨#[]⟩ w (by omega) (by omega))
  have hval : (IntKind.i16.wrap c) = c := by simp [wrap32, IntKind.wrap, IntKind.bits, IntKind.signed]; omega
  rw [hval] at HV
  clear hval
  have HE := fun w => Lib.hid (unToP_uint32_int16 c h0 h1 w)
  unfold anyOf at HV ⊢
  go_enter Tryd.func40, Tryd.ntmps40
  go_wp2_with (first
    | (go_at_call 26; refine ((HV _).out).mono ?_; rintro e w1 ⟨rfl, hb0⟩; have hb1 : Below w.heap.size w w1 := ((Below.refl _ _).alloc (Nat.le_refl _) _).trans (hb0.mono (by simp)))
    | (go_at_call 76; refine ((HE _).out).mono ?_; rintro e w2 ⟨⟨v, v0, v1, rfl⟩, rfl⟩))
  go_quiet (fail)
  go_wp2
  go_ret2
  exact ⟨⟨_, rfl⟩, bdrew hb1 _⟩

theorem unN_uint32_int32 (c : Int) (h0 : -2147483648 ≤ c) (h1 : c < 0) (w : World) :
    Calls Tryd.prog 127 #[.iface 21 (.int .i32 c)] w fun e w' => e = .returned (.tuple #[.int .u32 0, .bool false, .bool false]) ∧ w = w' := by
  have z0 := Tryd.no_uint32 21 (by decide) (.int .i32 c)
  have z1 := Tryd.no_int 21 (by decide) (.int .i32 c)
  have z2 := Tryd.no_int8 21 (by decide) (.int .i32 c)
  have z3 := Tryd.no_int16 21 (by decide) (.int .i32 c)
  have z4 := Tryd.is_int32 (.int .i32 c)
  have h2 : ¬ 0 ≤ c := by omega
  go_enter Tryd.func127, Tryd.ntmps127
  go_wp2_with (go_at_call 49; refine (indirect_any 21 _ (by decide) (by decide) _).mono ?_; rintro e w' ⟨rfl, rfl⟩)
  go_ret3
  exact ⟨rfl, rfl⟩

theorem unEN_uint32_int32 (c : Int) (h0 : -2147483648 ≤ c) (h1 : c < 0) (pf : Value) (w : World) :
    Calls Tryd.prog 101 #[.iface 21 (.int .i32 c), pf] w fun e w' => (∃ T q, e = .returned (.tuple #[.int .u32 0, .iface T q])) ∧ w = w' := by
  have H := fun w => Lib.hid (unN_uint32_int32 c h0 h1 w)
  go_enter Tryd.func101, Tryd.ntmps101
  go_wp2_with (first
    | (go_at_call 127; refine ((H _).out).mono ?_; rintro e w' ⟨rfl, rfl⟩)
    | (go_at_call 49; refine (indirect_any 21 _ (by decide) (by decide) _).mono ?_; rintro e w' ⟨rfl, rfl⟩))
  go_ret2
  exact ⟨⟨_, _, rfl⟩, rfl⟩

theorem unToN_uint32_int32 (c : Int) (h0 : -2147483648 ≤ c) (h1 : c < 0) (w : World) :
    Calls Tryd.prog 76 #[.iface 21 (.int .i32 c)] w fun e w' => (∃ T q, e = .returned (.tuple #[.int .u32 0, .iface T q])) ∧ w = w' := by
  have hmf : ∀ (fn : Fn) (first cap : Array Value) (w : World), (Instr.makeFunc fn first cap).run Tryd.prog w = .ok (.func fn first cap) w := fun _ _ _ _ => rfl
  have H := fun pf w => Lib.hid (unEN_uint32_int32 c h0 h1 pf w)
  go_enter Tryd.func76, Tryd.ntmps76
  go_wp2_with (go_at_call 101; refine ((H _ _).out).mono ?_; rintro e w' ⟨⟨T, q, rfl⟩, rfl⟩)
  go_ret2
  exact ⟨⟨_, _, rfl⟩, rfl⟩

theorem doorN_uint32_int32 (c : Int) (h0 : -2147483648 ≤ c) (h1 : c < 0) (w : World) :
    Calls Tryd.prog 40 #[anyOf 5 c 0 0 ⟨#[]⟩] w fun e w' => (e = .returned (.tuple #[.int .u64 0, .bool false])) ∧ Below w.heap.size w w' := by
  have HV := fun w => Lib.hid (value_int32 c 0 0 ⟨#[]⟩ w (by omega) (by omega))
  have hval : (wrap32 c) = c := by simp [wrap32, IntKind.wrap, IntKind.bits, IntKind.signed]; omega
  rw [hval] at HV
  clear hval
  have HE := fun w => Lib.hid (unToN_uint32_int32 c h0 h1 w)
  unfold anyOf at HV ⊢
  go_enter Tryd.func40, Tryd.ntmps40
  go_wp2_with (first
    | (go_at_call 26; refine ((HV _).out).mono ?_; rintro e w1 ⟨rfl, hb0⟩; have hb1 : Below w.heap.size w w1 := ((Below.refl _ _).alloc (Nat.le_refl _) _).trans (hb0.mono (by simp)))
    | (go_at_call 76; refine ((HE _).out).mono ?_; rintro e w2 ⟨⟨T, q, rfl⟩, rfl⟩))
  go_quiet (fail)
  go_wp2
  go_ret2
  exact ⟨rfl, bdrew hb1 _⟩

theorem unP_uint32_int32 (c : Int) (h0 : 0 ≤ c) (h1 : c ≤ 2147483647) (w : World) :
    Calls Tryd.prog 127 #[.iface 21 (.int .i32 c)] w fun e w' => (∃ v : Int, 0 ≤ v ∧ v ≤ 4294967295 ∧ e = .returned (.tuple #[.int .u32 v, .bool true, .bool true])) ∧ w = w' := by
  have z0 := Tryd.no_uint32 21 (by decide) (.int .i32 c)
  have z1 := Tryd.no_int 21 (by decide) (.int .i32 c)
  have z2 := Tryd.no_int8 21 (by decide) (.int .i32 c)
  have z3 := Tryd.no_int16 21 (by decide) (.int .i32 c)
  have z4 := Tryd.is_int32 (.int .i32 c)
  have h2 : ¬ c < 0 := by omega
  go_enter Tryd.func127, Tryd.ntmps127
  go_wp2_with (go_at_call 49; refine (indirect_any 21 _ (by decide) (by decide) _).mono ?_; rintro e w' ⟨rfl, rfl⟩)
  go_ret3
  refine ⟨⟨_, ?_, ?_, rfl⟩, rfl⟩ <;> first | omega | (simp [wrap32, IntKind.wrap, IntKind.bits, IntKind.signed]; omega) | (simp [wrap32, IntKind.wrap, IntKind.bits, IntKind.signed])

theorem unEP_uint32_int32 (c : Int) (h0 : 0 ≤ c) (h1 : c ≤ 2147483647) (pf : Value) (w : World) :
    Calls Tryd.prog 101 #[.iface 21 (.int .i32 c), pf] w fun e w' => (∃ v : Int, 0 ≤ v ∧ v ≤ 4294967295 ∧ e = .returned (.tuple #[.int .u32 v, .nilIface])) ∧ w = w' := by
  have H := fun w => Lib.hid (unP_uint32_int32 c h0 h1 w)
  go_enter Tryd.func101, Tryd.ntmps101
  go_wp2_with (go_at_call 127; refine ((H _).out).mono ?_; rintro e w' ⟨⟨v, v0, v1, rfl⟩, rfl⟩)
  go_ret2
  exact ⟨⟨v, v0, v1, rfl⟩, rfl⟩

theorem unToP_uint32_int32 (c : Int) (h0 : 0 ≤ c) (h1 : c ≤ 2147483647) (w : World) :
    Calls Tryd.prog 76 #[.iface 21 (.int .i32 c)] w fun e w' => (∃ v : Int, 0 ≤ v ∧ v ≤ 4294967295 ∧ e = .returned (.tuple #[.int .u32 v, .nilIface])) ∧ w = w' := by
  have hmf : ∀ (fn : Fn) (first cap : Array Value) (w : World), (Instr.makeFunc fn first cap).run Tryd.prog w = .ok (.func fn first cap) w := fun _ _ _ _ => rfl
  have H := fun pf w => Lib.hid (unEP_uint32_int32 c h0 h1 pf w)
  go_enter Tryd.func76, Tryd.ntmps76
  go_wp2_with (go_at_call 101; refine ((H _ _).out).mono ?_; rintro e w' ⟨⟨v, v0, v1, rfl⟩, rfl⟩)
  go_ret2
  exact ⟨⟨v, v0, v1, rfl⟩, rfl⟩

theorem doorP_uint32_int32 (c : Int) (h0 : 0 ≤ c) (h1 : c ≤ 2147483647) (w : World) :
    Calls Tryd.prog 40 #[anyOf 5 c 0 0 ⟨#[]⟩] w fun e w' => (∃ v : Int, e = .returned (.tuple #[.int .u64 v, .bool true])) ∧ Below w.heap.size w w' := by
  have HV := fun w => Lib.hid (value_int32 c 0 0 ⟨#[]⟩ w (by omega) (by omega))
  have hval : (wrap32 c) = c := by simp [wrap32, IntKind.wrap, IntKind.bits, IntKind.signed]; omega
  rw [hval] at HV
  clear hval
  have HE := fun w => Lib.hid (unToP_uint32_int32 c h0 h1 w)
  unfold anyOf at HV ⊢
  go_enter Tryd.func40, Tryd.ntmps40
  go_wp2_with (first
    | (go_at_call 26; refine ((HV _).out).mono ?_; rintro e w1 ⟨rfl, hb0⟩; have hb1 : Below w.heap.size w w1 := ((Below.refl _ _).alloc (Nat.le_refl _) _).trans (hb0.mono (by simp)))
    | (go_at_call 76; refine ((HE _).out).mono ?_; rintro e w2 ⟨⟨v, v0, v1, rfl⟩, rfl⟩))
  go_quiet (fail)
  go_wp2
  go_ret2
  exact ⟨⟨_, rfl⟩, bdrew hb1 _⟩

theorem unN_uint32_int64 (c : Int) (h0 : -9223372036854775808 ≤ c) (h1 : c < 0) (w : World) :
    Calls Tryd.prog 127 #[.iface 2 (.int .i64 c)] w fun e w' => e = .returned (.tuple #[.int .u32 0, .bool false, .bool false]) ∧ w = w' := by
  have z0 := Tryd.no_uint32 2 (by decide) (.int .i64 c)
  have z1 := Tryd.no_int 2 (by decide) (.int .i64 c)
  have z2 := Tryd.no_int8 2 (by decide) (.int .i64 c)
  have z3 := Tryd.no_int16 2 (by decide) (.int .i64 c)
  have z4 := Tryd.no_int32 2 (by decide) (.int .i64 c)
  have z5 := Tryd.is_int64 (.int .i64 c)
  have h2 : ¬ 0 ≤ c := by omega
  go_enter Tryd.func127, Tryd.ntmps127
  go_wp2_with (go_at_call 49; refine (indirect_any 2 _ (by decide) (by decide) _).mono ?_; rintro e w' ⟨rfl, rfl⟩)
  go_ret3
  exact ⟨rfl, rfl⟩

theorem unEN_uint32_int64 (c : Int) (h0 : -9223372036854775808 ≤ c) (h1 : c < 0) (pf : Value) (w : World) :
    Calls Tryd.prog 101 #[.iface 2 (.int .i64 c), pf] w fun e w' => (∃ T q, e = .returned (.tuple #[.int .u32 0, .iface T q])) ∧ w = w' := by
  have H := fun w => Lib.hid (unN_uint32_int64 c h0 h1 w)
  go_enter Tryd.func101, Tryd.ntmps101
  go_wp2_with (first
    | (go_at_call 127; refine ((H _).out).mono ?_; rintro e w' ⟨rfl, rfl⟩)
    | (go_at_call 49; refine (indirect_any 2 _ (by decide) (by decide) _).mono ?_; rintro e w' ⟨rfl, rfl⟩))
  go_ret2
  exact ⟨⟨_, _, rfl⟩, rfl⟩

theorem unToN_uint32_int64 (c : Int) (h0 : -9223372036854775808 ≤ c) (h1 : c < 0) (w : World) :
    Calls Tryd.prog 76 #[.iface 2 (.int .i64 c)] w fun e w' => (∃ T q, e = .returned (.tuple #[.int .u32 0, .iface T q])) ∧ w = w' := by
  have hmf : ∀ (fn : Fn) (first cap : Array Value) (w : World), (Instr.makeFunc fn first cap).run Tryd.prog w = .ok (.func fn first cap) w := fun _ _ _ _ => rfl
  have H := fun pf w => Lib.hid (unEN_uint32_int64 c h0 h1 pf w)
  go_enter Tryd.func76, Tryd.ntmps76
  go_wp2_with (go_at_call 101; refine ((H _ _).out).mono ?_; rintro e w' ⟨⟨T, q, rfl⟩, rfl⟩)
  go_ret2
  exact ⟨⟨_, _, rfl⟩, rfl⟩

theorem doorN_uint32_int64 (c : Int) (h0 : -9223372036854775808 ≤ c) (h1 : c < 0) (w : World) :
    Calls Tryd.prog 40 #[anyOf 6 c 0 0 ⟨#[]⟩] w fun e w' => (e = .returned (.tuple #[.int .u64 0, .bool false])) ∧ Below w.heap.size w w' := by
  have HV := fun w => Lib.hid (value_int64 c 0 0 ⟨#[]⟩ w (by omega) (by omega))
  have HE := fun w => Lib.hid (unToN_uint32_int64 c h0 h1 w)
  unfold anyOf at HV ⊢
  go_enter Tryd.func40, Tryd.ntmps40
  go_wp2_with (first
    | (go_at_call 26; refine ((HV _).out).mono ?_; rintro e w1 ⟨rfl, hb0⟩; have hb1 : Below w.heap.size w w1 := ((Below.refl _ _).alloc (Nat.le_refl _) _).trans (hb0.mono (by simp)))
    | (go_at_call 76; refine ((HE _).out).mono ?_; rintro e w2 ⟨⟨T, q, rfl⟩, rfl⟩))
  go_quiet (fail)
  go_wp2
  go_ret2
  exact ⟨rfl, bdrew hb1 _⟩

theorem unP_uint32_int64 (c : Int) (h0 : 0 ≤ c) (h1 : c ≤ 9223372036854775807) (w : World) :
    Calls Tryd.prog 127 #[.iface 2 (.int .i64 c)] w fun e w' => (∃ v : Int, 0 ≤ v ∧ v ≤ 4294967295 ∧ e = .returned (.tuple #[.int .u32 v, .bool true, .bool true])) ∧ w = w' := by
  have z0 := Tryd.no_uint32 2 (by decide) (.int .i64 c)
  have z1 := Tryd.no_int 2 (by decide) (.int .i64 c)
  have z2 := Tryd.no_int8 2 (by decide) (.int .i64 c)
  have z3 := Tryd.no_int16 2 (by decide) (.int .i64 c)
  have z4 := Tryd.no_int32 2 (by decide) (.int .i64 c)
  have z5 := Tryd.is_int64 (.int .i64 c)
  have h2 : ¬ c < 0 := by omega
  go_enter Tryd.func127, Tryd.ntmps127
  go_wp2_with (go_at_call 49; refine (indirect_any 2 _ (by decide) (by decide) _).mono ?_; rintro e w' ⟨rfl, rfl⟩)
  go_ret3
  refine ⟨⟨_, ?_, ?_, rfl⟩, rfl⟩ <;> first | omega | (simp [wrap32, IntKind.wrap, IntKind.bits, IntKind.signed]; omega) | (simp [wrap32, IntKind.wrap, IntKind.bits, IntKind.signed])

theorem unEP_uint32_int64 (c : Int) (h0 : 0 ≤ c) (h1 : c ≤ 9223372036854775807) (pf : Value) (w : World) :
    Calls Tryd.prog 101 #[.iface 2 (.int .i64 c), pf] w fun e w' => (∃ v : Int, 0 ≤ v ∧ v ≤ 4294967295 ∧ e = .returned (.tuple #[.int .u32 v, .nilIface])) ∧ w = w' := by
  have H := fun w => Lib.hid (unP_uint32_int64 c h0 h1 w)
  go_enter Tryd.func101, Tryd.ntmps101
  go_wp2_with (go_at_call 127; refine ((H _).out).mono ?_; rintro e w' ⟨⟨v, v0, v1, rfl⟩, rfl⟩)
  go_ret2
  exact ⟨⟨v, v0, v1, rfl⟩, rfl⟩

theorem unToP_uint32_int64 (c : Int) (h0 : 0 ≤ c) (h1 : c ≤ 9223372036854775807) (w : World) :
    Calls Tryd.prog 76 #[.iface 2 (.int .i64 c)] w fun e w' => (∃ v : Int, 0 ≤ v ∧ v ≤ 4294967295 ∧ e = .returned (.tuple #[.int .u32 v, .nilIface])) ∧ w = w' := by
  have hmf : ∀ (fn : Fn) (first cap : Array Value) (w : World), (Instr.makeFunc fn first cap).run Tryd.prog w = .ok (.func fn first cap) w := fun _ _ _ _ => rfl
  have H := fun pf w => Lib.hid (unEP_uint32_int64 c h0 h1 pf w)
  go_enter Tryd.func76, Tryd.ntmps76
  go_wp2_with (go_at_call 101; refine ((H _ _).out).mono ?_; rintro e w' ⟨⟨v, v0, v1, rfl⟩, rfl⟩)
  go_ret2
  exact ⟨⟨v, v0, v1, rfl⟩, rfl⟩

theorem doorP_uint32_int64 (c : Int) (h0 : 0 ≤ c) (h1 : c ≤ 9223372036854775807) (w : World) :
    Calls Tryd.prog 40 #[anyOf 6 c 0 0 ⟨#[]⟩] w fun e w' => (∃ v : Int, e = .returned (.tuple #[.int .u64 v, .bool true])) ∧ Below w.heap.size w w' := by
  have HV := fun w => Lib.hid (value_int64 c 0 0 ⟨#[]⟩ w (by omega) (by omega))
  have HE := fun w => Lib.hid (unToP_uint32_int64 c h0 h1 w)
  unfold anyOf at HV ⊢
  go_enter Tryd.func40, Tryd.ntmps40
  go_wp2_with (first
    | (go_at_call 26; refine ((HV _).out).mono ?_; rintro e w1 ⟨rfl, hb0⟩; have hb1 : Below w.heap.size w w1 := ((Below.refl _ _).alloc (Nat.le_refl _) _).trans (hb0.mono (by simp)))
    | (go_at_call 76; refine ((HE _).out).mono ?_; rintro e w2 ⟨⟨v, v0, v1, rfl⟩, rfl⟩))
  go_quiet (fail)
  go_wp2
  go_ret2
  exact ⟨⟨_, rfl⟩, bdrew hb1 _⟩

theorem unN_uint64_int (c : Int) (h0 : -9223372036854775808 ≤ c) (h1 : c < 0) (w : World) :
    Calls Tryd.prog 128 #[.iface 3 (.int .i64 c)] w fun e w' => e = .returned (.tuple #[.int .u64 0, .bool false, .bool false]) ∧ w = w' := by
  have z0 := Tryd.no_uint64 3 (by decide) (.int .i64 c)
  have z1 := Tryd.is_int (.int .i64 c)
  have h2 : ¬ 0 ≤ c := by omega
  go_enter Tryd.func128, Tryd.ntmps128
  go_wp2_with (go_at_call 49; refine (indirect_any 3 _ (by decide) (by decide) _).mono ?_; rintro e w' ⟨rfl, rfl⟩)
  go_ret3
  exact ⟨rfl, rfl⟩

theorem unEN_uint64_int (c : Int) (h0 : -9223372036854775808 ≤ c) (h1 : c < 0) (pf : Value) (w : World) :
    Calls Tryd.prog 103 #[.iface 3 (.int .i64 c), pf] w fun e w' => (∃ T q, e = .returned (.tuple #[.int .u64 0, .iface T q])) ∧ w = w' := by
  have H := fun w => Lib.hid (unN_uint64_int c h0 h1 w)
  go_enter Tryd.func103, Tryd.ntmps103
  go_wp2_with (first
    | (go_at_call 128; refine ((H _).out).mono ?_; rintro e w' ⟨rfl, rfl⟩)
    | (go_at_call 49; refine (indirect_any 3 _ (by decide) (by decide) _).mono ?_; rintro e w' ⟨rfl, rfl⟩))
  go_ret2
  exact ⟨⟨_, _, rfl⟩, rfl⟩

theorem unToN_uint64_int (c : Int) (h0 : -9223372036854775808 ≤ c) (h1 : c < 0) (w : World) :
    Calls Tryd.prog 77 #[.iface 3 (.int .i64 c)] w fun e w' => (∃ T q, e = .returned (.tuple #[.int .u64 0, .iface T q])) ∧ w = w' := by
  have hmf : ∀ (fn : Fn) (first cap : Array Value) (w : World), (Instr.makeFunc fn first cap).run Tryd.prog w = .ok (.func fn first cap) w := fun _ _ _ _ => rfl
  have H := fun pf w => Lib.hid (unEN_uint64_int c h0 h1 pf w)
  go_enter Tryd.func77, Tryd.ntmps77
  go_wp2_with (go_at_call 103; refine ((H _ _).out).mono ?_; rintro e w' ⟨⟨T, q, rfl⟩, rfl⟩)
  go_ret2
  exact ⟨⟨_, _, rfl⟩, rfl⟩

theorem doorN_uint64_int (c : Int) (h0 : -9223372036854775808 ≤ c) (h1 : c < 0) (w : World) :
    Calls Tryd.prog 41 #[anyOf 2 c 0 0 ⟨#[]⟩] w fun e w' => (e = .returned (.tuple #[.int .u64 0, .bool false])) ∧ Below w.heap.size w w' := by
  have HV := fun w => Lib.hid (value_int c 0 0 ⟨#[]⟩ w (by omega) (by omega))
  have HE := fun w => Lib.hid (unToN_uint64_int c h0 h1 w)
  unfold anyOf at HV ⊢
  go_enter Tryd.func41, Tryd.ntmps41
  go_wp2_with (first
    | (go_at_call 26; refine ((HV _).out).mono ?_; rintro e w1 ⟨rfl, hb0⟩; have hb1 : Below w.heap.size w w1 := ((Below.refl _ _).alloc (Nat.le_refl _) _).trans (hb0.mono (by simp)))
    | (go_at_call 77; refine ((HE _).out).mono ?_; rintro e w2 ⟨⟨T, q, rfl⟩, rfl⟩))
  go_quiet (fail)
  go_wp2
  go_ret2
  exact ⟨rfl, bdrew hb1 _⟩

theorem unP_uint64_int (c : Int) (h0 : 0 ≤ c) (h1 : c ≤ 9223372036854775807) (w : World) :
    Calls Tryd.prog 128 #[.iface 3 (.int .i64 c)] w fun e w' => (∃ v : Int, 0 ≤ v ∧ v ≤ 18446744073709551615 ∧ e = .returned (.tuple #[.int .u64 v, .bool true, .bool true])) ∧ w = w' := by
  have z0 := Tryd.no_uint64 3 (by decide) (.int .i64 c)
  have z1 := Tryd.is_int (.int .i64 c)
  have h2 : ¬ c < 0 := by omega
  go_enter Tryd.func128, Tryd.ntmps128
  go_wp2_with (go_at_call 49; refine (indirect_any 3 _ (by decide) (by decide) _).mono ?_; rintro e w' ⟨rfl, rfl⟩)
  go_ret3
  refine ⟨⟨_, ?_, ?_, rfl⟩, rfl⟩ <;> first | omega | (simp [wrap32, IntKind.wrap, IntKind.bits, IntKind.signed]; omega) | (simp [wrap32, IntKind.wrap, IntKind.bits, IntKind.signed])

theorem unEP_uint64_int (c : Int) (h0 : 0 ≤ c) (h1 : c ≤ 9223372036854775807) (pf : Value) (w : World) :
    Calls Tryd.prog 103 #[.iface 3 (.int .i64 c), pf] w fun e w' => (∃ v : Int, 0 ≤ v ∧ v ≤ 18446744073709551615 ∧ e = .returned (.tuple #[.int .u64 v, .nilIface])) ∧ w = w' := by
  have H := fun w => Lib.hid (unP_uint64_int c h0 h1 w)
  go_enter Tryd.func103, Tryd.ntmps103
  go_wp2_with (go_at_call 128; refine ((H _).out).mono ?_; rintro e w' ⟨⟨v, v0, v1, rfl⟩, rfl⟩)
  go_ret2
  exact ⟨⟨v, v0, v1, rfl⟩, rfl⟩

theorem unToP_uint64_int (c : Int) (h0 : 0 ≤ c) (h1 : c ≤ 9223372036854775807) (w : World) :
    Calls Tryd.prog 77 #[.iface 3 (.int .i64 c)] w fun e w' => (∃ v : Int, 0 ≤ v ∧ v ≤ 18446744073709551615 ∧ e = .returned (.tuple #[.int .u64 v, .nilIface])) ∧ w = w' := by
  have hmf : ∀ (fn : Fn) (first cap : Array Value) (w : World), (Instr.makeFunc fn first cap).run Tryd.prog w = .ok (.func fn first cap) w := fun _ _ _ _ => rfl
  have H := fun pf w => Lib.hid (unEP_uint64_int c h0 h1 pf w)
  go_enter Tryd.func77, Tryd.ntmps77
  go_wp2_with (go_at_call 103; refine ((H _ _).out).mono ?_; rintro e w' ⟨⟨v, v0, v1, rfl⟩, rfl⟩)
  go_ret2
  exact ⟨⟨v, v0, v1, rfl⟩, rfl⟩

theorem doorP_uint64_int (c : Int) (h0 : 0 ≤ c) (h1 : c ≤ 9223372036854775807) (w : World) :
    Calls Tryd.prog 41 #[anyOf 2 c 0 0 ⟨#[]⟩] w fun e w' => (∃ v : Int, e = .returned (.tuple #[.int .u64 v, .bool true])) ∧ Below w.heap.size w w' := by
  have HV := fun w => Lib.hid (value_int c 0 0 ⟨#[]⟩ w (by omega) (by omega))
  have HE := fun w => Lib.hid (unToP_uint64_int c h0 h1 w)
  unfold anyOf at HV ⊢
  go_enter Tryd.func41, Tryd.ntmps41
  go_wp2_with (first
    | (go_at_call 26; refine ((HV _).out).mono ?_; rintro e w1 ⟨rfl, hb0⟩; have hb1 : Below w.heap.size w w1 := ((Below.refl _ _).alloc (Nat.le_refl _) _).trans (hb0.mono (by simp)))
    | (go_at_call 77; refine ((HE _).out).mono ?_; rintro e w2 ⟨⟨v, v0, v1, rfl⟩, rfl⟩))
  go_quiet (fail)
  go_wp2
  go_ret2
  exact ⟨⟨_, rfl⟩, bdrew hb1 _⟩

theorem unN_uint64_int8 (c : Int) (h0 : -128 ≤ c) (h1 : c < 0) (w : World) :
    Calls Tryd.prog 128 #[.iface 66 (.int .i8 c)] w fun e w' => e = .returned (.tuple #[.int .u64 0, .bool false, .bool false]) ∧ w = w' := by
  have z0 := Tryd.no_uint64 66 (by decide) (.int .i8 c)
  have z1 := Tryd.no_int 66 (by decide) (.int .i8 c)
  have z2 := Tryd.is_int8 (.int .i8 c)
  have h2 : ¬ 0 ≤ c := by omega
  go_enter Tryd.func128, Tryd.ntmps128
  go_wp2_with (go_at_call 49; refine (indirect_any 66 _ (by decide) (by decide) _).mono ?_; rintro e w' ⟨rfl, rfl⟩)
  go_ret3
  exact ⟨rfl, rfl⟩

theorem unEN_uint64_int8 (c : Int) (h0 : -128 ≤ c) (h1 : c < 0) (pf : Value) (w : World) :
    Calls Tryd.prog 103 #[.iface 66 (.int .i8 c), pf] w fun e w' => (∃ T q, e = .returned (.tuple #[.int .u64 0, .iface T q])) ∧ w = w' := by
  have H := fun w => Lib.hid (unN_uint64_int8 c h0 h1 w)
  go_enter Tryd.func103, Tryd.ntmps103
  go_wp2_with (first
    | (go_at_call 128; refine ((H _).out).mono ?_; rintro e w' ⟨rfl, rfl⟩)
    | (go_at_call 49; refine (indirect_any 66 _ (by decide) (by decide) _).mono ?_; rintro e w' ⟨rfl, rfl⟩))
  go_ret2
  exact ⟨⟨_, _, rfl⟩, rfl⟩

theorem unToN_uint64_int8 (c : Int) (h0 : -128 ≤ c) (h1 : c < 0) (w : World) :
    Calls Tryd.prog 77 #[.iface 66 (.int .i8 c)] w fun e w' => (∃ T q, e = .returned (.tuple #[.int .u64 0, .iface T q])) ∧ w = w' := by
  have hmf : ∀ (fn : Fn) (first cap : Array Value) (w : World), (Instr.makeFunc fn first cap).run Tryd.prog w = .ok (.func fn first cap) w := fun _ _ _ _ => rfl
  have H := fun pf w => Lib.hid (unEN_uint64_int8 c h0 h1 pf w)
  go_enter Tryd.func77, Tryd.ntmps77
  go_wp2_with (go_at_call 103; refine ((H _ _).out).mono ?_; rintro e w' ⟨⟨T, q, rfl⟩, rfl⟩)
  go_ret2
  exact ⟨⟨_, _, rfl⟩, rfl⟩

theorem doorN_uint64_int8 (c : Int) (h0 : -128 ≤ c) (h1 : c < 0) (w : World) :
    Calls Tryd.prog 41 #[anyOf 3 c 0 0 ⟨#[]⟩] w fun e w' => (e = .returned (.tuple #[.int .u64 0, .bool false])) ∧ Below w.heap.size w w' := by
  have HV := fun w => Lib.hid (value_int8 c 0 0 ⟨#[]⟩ w (by omega) (by omega))
  have hval : (IntKind.i8.wrap c) = c := by simp [wrap32, IntKind.wrap, IntKind.bits, IntKind.signed]; omega
  rw [hval] at HV
  clear hval
  have HE := fun w => Lib.hid (unToN_uint64_int8 c h0 h1 w)
  unfold anyOf at HV ⊢
  go_enter Tryd.func41, Tryd.ntmps41
  go_wp2_with (first
    | (go_at_call 26; refine ((HV _).out).mono ?_; rintro e w1 ⟨rfl, hb0⟩; have hb1 : Below w.heap.size w w1 := ((Below.refl _ _).alloc (Nat.le_refl _) _).trans (hb0.mono (by simp)))
    | (go_at_call 77; refine ((HE _).out).mono ?_; rintro e w2 ⟨⟨T, q, rfl⟩, rfl⟩))
  go_quiet (fail)
  go_wp2
  go_ret2
  exact ⟨rfl, bdrew hb1 _⟩

theorem unP_uint64_int8 (c : Int) (h0 : 0 ≤ c) (h1 : c ≤ 127) (w : World) :
    Calls Tryd.prog 128 #[.iface 66 (.int .i8 c)] w fun e w' => (∃ v : Int, 0 ≤ v ∧ v ≤ 18446744073709551615 ∧ e = .returned (.tuple #[.int .u64 v, .bool true, .bool true])) ∧ w = w' := by
  have z0 := Tryd.no_uint64 66 (by decide) (.int .i8 c)
  have z1 := Tryd.no_int 66 (by decide) (.int .i8 c)
  have z2 := Tryd.is_int8 (.int .i8 c)
  have h2 : ¬ c < 0 := by omega
  go_enter Tryd.func128, Tryd.ntmps128
  go_wp2_with (go_at_call 49; refine (indirect_any 66 _ (by decide) (by decide) _).mono ?_; rintro e w' ⟨rfl, rfl⟩)
  go_ret3
  refine ⟨⟨_, ?_, ?_, rfl⟩, rfl⟩ <;> first | omega | (simp [wrap32, IntKind.wrap, IntKind.bits, IntKind.signed]; omega) | (simp [wrap32, IntKind.wrap, IntKind.bits, IntKind.signed])

theorem unEP_uint64_int8 (c : Int) (h0 : 0 ≤ c) (h1 : c ≤ 127) (pf : Value) (w : World) :
    Calls Tryd.prog 103 #[.iface 66 (.int .i8 c), pf] w fun e w' => (∃ v : Int, 0 ≤ v ∧ v ≤ 18446744073709551615 ∧ e = .returned (.tuple #[.int .u64 v, .nilIface])) ∧ w = w' := by
  have H := fun w => Lib.hid (unP_uint64_int8 c h0 h1 w)
  go_enter Tryd.func103, Tryd.ntmps103
  go_wp2_with (go_at_call 128; refine ((H _).out).mono ?_; rintro e w' ⟨⟨v, v0, v1, rfl⟩, rfl⟩)
  go_ret2
  exact ⟨⟨v, v0, v1, rfl⟩, rfl⟩

theorem unToP_uint64_int8 (c : Int) (h0 : 0 ≤ c) (h1 : c ≤ 127) (w : World) :
    Calls Tryd.prog 77 #[.iface 66 (.int .i8 c)] w fun e w' => (∃ v : Int, 0 ≤ v ∧ v ≤ 18446744073709551615 ∧ e = .returned (.tuple #[.int .u64 v, .nilIface])) ∧ w = w' := by
  have hmf : ∀ (fn : Fn) (first cap : Array Value) (w : World), (Instr.makeFunc fn first cap).run Tryd.prog w = .ok (.func fn first cap) w := fun _ _ _ _ => rfl
  have H := fun pf w => Lib.hid (unEP_uint64_int8 c h0 h1 pf w)
  go_enter Tryd.func77, Tryd.ntmps77
  go_wp2_with (go_at_call 103; refine ((H _ _).out).mono ?_; rintro e w' ⟨⟨v, v0, v1, rfl⟩, rfl⟩)
  go_ret2
  exact ⟨⟨v, v0, v1, rfl⟩, rfl⟩

theorem doorP_uint64_int8 (c : Int) (h0 : 0 ≤ c) (h1 : c ≤ 127) (w : World) :
    Calls Tryd.prog 41 #[anyOf 3 c 0 0 ⟨#[]⟩] w fun e w' => (∃ v : Int, e = .returned (.tuple #[.int .u64 v, .bool true])) ∧ Below w.heap.size w w' := by
  have HV := fun w => Lib.hid (value_int8 c 0 0 ⟨#[]⟩ w (by omega) (by omega))
  have hval : (IntKind.i8.wrap c) = c := by simp [wrap32, IntKind.wrap, IntKind.bits, IntKind.signed]; omega
  rw [hval] at HV
  clear hval
  have HE := fun w => Lib.hid (unToP_uint64_int8 c h0 h1 w)
  unfold anyOf at HV ⊢
  go_enter Tryd.func41, Tryd.ntmps41
  go_wp2_with (first
    | (go_at_call 26; refine ((HV _).out).mono ?_; rintro e w1 ⟨rfl, hb0⟩; have hb1 : Below w.heap.size w w1 := ((Below.refl _ _).alloc (Nat.le_refl _) _).trans (hb0.mono (by simp)))
    | (go_at_call 77; refine ((HE _).out).mono ?_; rintro e w2 ⟨⟨v, v0, v1, rfl⟩, rfl⟩))
  go_quiet (fail)
  go_wp2
  go_ret2
  exact ⟨⟨_, rfl⟩, bdrew hb1 _⟩

theorem unN_uint64_int16 (c : Int) (h0 : -32768 ≤ c) (h1 : c < 0) (w : World) :
    Calls Tryd.prog 128 #[.iface 67 (.int .i16 c)] w fun e w' => e = .returned (.tuple #[.int .u64 0, .bool false, .bool false]) ∧ w = w' := by
  have z0 := Tryd.no_uint64 67 (by decide) (.int .i16 c)
  have z1 := Tryd.no_int 67 (by decide) (.int .i16 c)
  have z2 := Tryd.no_int8 67 (by decide) (.int .i16 c)
  have z3 := Tryd.is_int16 (.int .i16 c)
  have h2 : ¬ 0 ≤ c := by omega
  go_enter Tryd.func128, Tryd.ntmps128
  go_wp2_with (go_at_call 49; refine (indirect_any 67 _ (by decide) (by decide) _).mono ?_; rintro e w' ⟨rfl, rfl⟩)
  go_ret3
  exact ⟨rfl, rfl⟩

theorem unEN_uint64_int16 (c : Int) (h0 : -32768 ≤ c) (h1 : c < 0) (pf : Value) (w : World) :
    Calls Tryd.prog 103 #[.iface 67 (.int .i16 c), pf] w fun e w' => (∃ T q, e = .returned (.tuple #[.int .u64 0, .iface T q])) ∧ w = w' := by
  have H := fun w => Lib.hid (unN_uint64_int16 c h0 h1 w)
  go_enter Tryd.func103, Tryd.ntmps103
  go_wp2_with (first
    | (go_at_call 128; refine ((H _).out).mono ?_; rintro e w' ⟨rfl, rfl⟩)
    | (go_at_call 49; refine (indirect_any 67 _ (by decide) (by decide) _).mono ?_; rintro e w' ⟨rfl, rfl⟩))
  go_ret2
  exact ⟨⟨_, _, rfl⟩, rfl⟩

theorem unToN_uint64_int16 (c : Int) (h0 : -32768 ≤ c) (h1 : c < 0) (w : World) :
    Calls Tryd.prog 77 #[.iface 67 (.int .i16 c)] w fun e w' => (∃ T q, e = .returned (.tuple #[.int .u64 0, .iface T q])) ∧ w = w' := by
  have hmf : ∀ (fn : Fn) (first cap : Array Value) (w : World), (Instr.makeFunc fn first cap).run Tryd.prog w = .ok (.func fn first cap) w := fun _ _ _ _ => rfl
  have H := fun pf w => Lib.hid (unEN_uint64_int16 c h0 h1 pf w)
  go_enter Tryd.func77, Tryd.ntmps77
  go_wp2_with (go_at_call 103; refine ((H _ _).out).mono ?_; rintro e w' ⟨⟨T, q, rfl⟩, rfl⟩)
  go_ret2
  exact ⟨⟨_, _, rfl⟩, rfl⟩

theorem doorN_uint64_int16 (c : Int) (h0 : -32768 ≤ c) (h1 : c < 0) (w : World) :
    Calls Tryd.prog 41 #[anyOf 4 c 0 0 ⟨#[]⟩] w fun e w' => (e = .returned (.tuple #[.int .u64 0, .bool false])) ∧ Below w.heap.size w w' := by
  have HV := fun w => Lib.hid (value_int16 c 0 0 ⟨#[]⟩ w (by omega) (by omega))
  have hval : (IntKind.i16.wrap c) = c := by simp [wrap32, IntKind.wrap, IntKind.bits, IntKind.signed]; omega
  rw [hval] at HV
  clear hval
  have HE := fun w => Lib.hid (unToN_uint64_int16 c h0 h1 w)
  unfold anyOf at HV ⊢
  go_enter Tryd.func41, Tryd.ntmps41
  go_wp2_with (first
    | (go_at_call 26; refine ((HV _).out).mono ?_; rintro e w1 ⟨rfl, hb0⟩; have hb1 : Below w.heap.size w w1 := ((Below.refl _ _).alloc (Nat.le_refl _) _).trans (hb0.mono (by simp)))
    | (go_at_call 77; refine ((HE _).out).mono ?_; rintro e w2 ⟨⟨T, q, rfl⟩, rfl⟩))
  go_quiet (fail)
  go_wp2
  go_ret2
  exact ⟨rfl, bdrew hb1 _⟩

theorem unP_uint64_int16 (c : Int) (h0 : 0 ≤ c) (h1 : c ≤ 32767) (w : World) :
    Calls Tryd.prog 128 #[.iface 67 (.int .i16 c)] w fun e w' => (∃ v : Int, 0 ≤ v ∧ v ≤ 18446744073709551615 ∧ e = .returned (.tuple #[.int .u64 v, .bool true, .bool true])) ∧ w = w' := by
  have z0 := Tryd.no_uint64 67 (by decide) (.int .i16 c)
  have z1 := Tryd.no_int 67 (by decide) (.int .i16 c)
  have z2 := Tryd.no_int8 67 (by decide) (.int .i16 c)
  have z3 := Tryd.is_int16 (.int .i16 c)
  have h2 : ¬ c < 0 := by omega
  go_enter Tryd.func128, Tryd.ntmps128
  go_wp2_with (go_at_call 49; refine (indirect_any 67 _ (by decide) (by decide) _).mono ?_; rintro e w' ⟨rfl, rfl⟩)
  go_ret3
  refine ⟨⟨_, ?_, ?_, rfl⟩, rfl⟩ <;> first | omega | (simp [wrap32, IntKind.wrap, IntKind.bits, IntKind.signed]; omega) | (simp [wrap32, IntKind.wrap, IntKind.bits, IntKind.signed])

theorem unEP_uint64_int16 (c : Int) (h0 : 0 ≤ c) (h1 : c ≤ 32767) (pf : Value) (w : World) :
    Calls Tryd.prog 103 #[.iface 67 (.int .i16 c), pf] w fun e w' => (∃ v : Int, 0 ≤ v ∧ v ≤ 18446744073709551615 ∧ e = .returned (.tuple #[.int .u64 v, .nilIface])) ∧ w = w' := by
  have H := fun w => Lib.hid (unP_uint64_int16 c h0 h1 w)
  go_enter Tryd.func103, Tryd.ntmps103
  go_wp2_with (go_at_call 128; refine ((H _).out).mono ?_; rintro e w' ⟨⟨v, v0, v1, rfl⟩, rfl⟩)
  go_ret2
  exact ⟨⟨v, v0, v1, rfl⟩, rfl⟩

theorem unToP_uint64_int16 (c : Int) (h0 : 0 ≤ c) (h1 : c ≤ 32767) (w : World) :
    Calls Tryd.prog 77 #[.iface 67 (.int .i16 c)] w fun e w' => (∃ v : Int, 0 ≤ v ∧ v ≤ 18446744073709551615 ∧ e = .returned (.tuple #[.int .u64 v, .nilIface])) ∧ w = w' := by
  have hmf : ∀ (fn : Fn) (first cap : Array Value) (w : World), (Instr.makeFunc fn first cap).run Tryd.prog w = .ok (.func fn first cap) w := fun _ _ _ _ => rfl
  have H := fun pf w => Lib.hid (unEP_uint64_int16 c h0 h1 pf w)
  go_enter Tryd.func77, Tryd.ntmps77
  go_wp2_with (go_at_call 103; refine ((H _ _).out).mono ?_; rintro e w' ⟨⟨v, v0, v1, rfl⟩, rfl⟩)
  go_ret2
  exact ⟨⟨v, v0, v1, rfl⟩, rfl⟩

theorem doorP_uint64_int16 (c : Int) (h0 : 0 ≤ c) (h1 : c ≤ 32767) (w : World) :
    Calls Tryd.prog 41 #[anyOf 4 c 0 0 ⟨#[]⟩] w fun e w' => (∃ v : Int, e = .returned (.tuple #[.int .u64 v, .bool true])) ∧ Below w.heap.size w w' := by
  have HV := fun w => Lib.hid (value_int16 c 0 0 ⟨#[]⟩ w (by omega) (by omega))
  have hval : (IntKind.i16.wrap c) = c := by simp [wrap32, IntKind.wrap, IntKind.bits, IntKind.signed]; omega
  rw [hval] at HV
  clear hval
  have HE := fun w => Lib.hid (unToP_uint64_int16 c h0 h1 w)
  unfold anyOf at HV ⊢
  go_enter Tryd.func41, Tryd.ntmps41
  go_wp2_with (first
    | (go_at_call 26; refine ((HV _).out).mono ?_; rintro e w1 ⟨rfl, hb0⟩; have hb1 : Below w.heap.size w w1 := ((Below.refl _ _).alloc (Nat.le_refl _) _).trans (hb0.mono (by simp)))
    | (go_at_call 77; refine ((HE _).out).mono ?_; rintro e w2 ⟨⟨v, v0, v1, rfl⟩, rfl⟩))
  go_quiet (fail)
  go_wp2
  go_ret2
  exact ⟨⟨_, rfl⟩, bdrew hb1 _⟩

theorem unN_uint64_int32 (c : Int) (h0 : -2147483648 ≤ c) (h1 : c < 0) (w : World) :
    Calls Tryd.prog 128 #[.iface 21 (.int .i32 c)] w fun e w' => e = .returned (.tuple #[.int .u64 0, .bool false, .bool false]) ∧ w = w' := by
  have z0 := Tryd.no_uint64 21 (by decide) (.int .i32 c)
  have z1 := Tryd.no_int 21 (by decide) (.int .i32 c)
  have z2 := Tryd.no_int8 21 (by decide) (.int .i32 c)
  have z3 := Tryd.no_int16 21 (by decide) (.int .i32 c)
  have z4 := Tryd.is_int32 (.int .i32 c)
  have h2 : ¬ 0 ≤ c := by omega
  go_enter Tryd.func128, Tryd.ntmps128
  go_wp2_with (go_at_call 49; refine (indirect_any 21 _ (by decide) (by decide) _).mono ?_; rintro e w' ⟨rfl, rfl⟩)
  go_ret3
  exact ⟨rfl, rfl⟩

theorem unEN_uint64_int32 (c : Int) (h0 : -2147483648 ≤ c) (h1 : c < 0) (pf : Value) (w : World) :
    Calls Tryd.prog 103 #[.iface 21 (.int .i32 c), pf] w fun e w' => (∃ T q, e = .returned (.tuple #[.int .u64 0, .iface T q])) ∧ w = w' := by
  have H := fun w => Lib.hid (unN_uint64_int32 c h0 h1 w)
  go_enter Tryd.func103, Tryd.ntmps103
  go_wp2_with (first
    | (go_at_call 128; refine ((H _).out).mono ?_; rintro e w' ⟨rfl, rfl⟩)
    | (go_at_call 49; refine (indirect_any 21 _ (by decide) (by decide) _).mono ?_; rintro e w' ⟨rfl, rfl⟩))
  go_ret2
  exact ⟨⟨_, _, rfl⟩, rfl⟩

theorem unToN_uint64_int32 (c : Int) (h0 : -2147483648 ≤ c) (h1 : c < 0) (w : World) :
    Calls Tryd.prog 77 #[.iface 21 (.int .i32 c)] w fun e w' => (∃ T q, e = .returned (.tuple #[.int .u64 0, .iface T q])) ∧ w = w' := by
  have hmf : ∀ (fn : Fn) (first cap : Array Value) (w : World), (Instr.makeFunc fn first cap).run Tryd.prog w = .ok (.func fn first cap) w := fun _ _ _ _ => rfl
  have H := fun pf w => Lib.hid (unEN_uint64_int32 c h0 h1 pf w)
  go_enter Tryd.func77, Tryd.ntmps77
  go_wp2_with (go_at_call 103; refine ((H _ _).out).mono ?_; rintro e w' ⟨⟨T, q, rfl⟩, rfl⟩)
  go_ret2
  exact ⟨⟨_, _, rfl⟩, rfl⟩

theorem doorN_uint64_int32 (c : Int) (h0 : -2147483648 ≤ c) (h1 : c < 0) (w : World) :
    Calls Tryd.prog 41 #[anyOf 5 c 0 0 ⟨#[]⟩] w fun e w' => (e = .returned (.tuple #[.int .u64 0, .bool false])) ∧ Below w.heap.size w w' := by
  have HV := fun w => Lib.hid (value_int32 c 0 0 ⟨#[]⟩ w (by omega) (by omega))
  have hval : (wrap32 c) = c := by simp [wrap32, IntKind.wrap, IntKind.bits, IntKind.signed]; omega
  rw [hval] at HV
  clear hval
  have HE := fun w => Lib.hid (unToN_uint64_int32 c h0 h1 w)
  unfold anyOf at HV ⊢
  go_enter Tryd.func41, Tryd.ntmps41
  go_wp2_with (first
    | (go_at_call 26; refine ((HV _).out).mono ?_; rintro e w1 ⟨rfl, hb0⟩; have hb1 : Below w.heap.size w w1 := ((Below.refl _ _).alloc (Nat.le_refl _) _).trans (hb0.mono (by simp)))
    | (go_at_call 77; refine ((HE _).out).mono ?_; rintro e w2 ⟨⟨T, q, rfl⟩, rfl⟩))
  go_quiet (fail)
  go_wp2
  go_ret2
  exact ⟨rfl, bdrew hb1 _⟩

theorem unP_uint64_int32 (c : Int) (h0 : 0 ≤ c) (h1 : c ≤ 2147483647) (w : World) :
    Calls Tryd.prog 128 #[.iface 21 (.int .i32 c)] w fun e w' => (∃ v : Int, 0 ≤ v ∧ v ≤ 18446744073709551615 ∧ e = .returned (.tuple #[.int .u64 v, .bool true, .bool true])) ∧ w = w' := by
  have z0 := Tryd.no_uint64 21 (by decide) (.int .i32 c)
  have z1 := Tryd.no_int 21 (by decide) (.int .i32 c)
  have z2 := Tryd.no_int8 21 (by decide) (.int .i32 c)
  have z3 := Tryd.no_int16 21 (by decide) (.int .i32 c)
  have z4 := Tryd.is_int32 (.int .i32 c)
  have h2 : ¬ c < 0 := by omega
  go_enter Tryd.func128, Tryd.ntmps128
  go_wp2_with (go_at_call 49; refine (indirect_any 21 _ (by decide) (by decide) _).mono ?_; rintro e w' ⟨rfl, rfl⟩)
  go_ret3
  refine ⟨⟨_, ?_, ?_, rfl⟩, rfl⟩ <;> first | omega | (simp [wrap32, IntKind.wrap, IntKind.bits, IntKind.signed]; omega) | (simp [wrap32, IntKind.wrap, IntKind.bits, IntKind.signed])

theorem unEP_uint64_int32 (c : Int) (h0 : 0 ≤ c) (h1 : c ≤ 2147483647) (pf : Value) (w : World) :
    Calls Tryd.prog 103 #[.iface 21 (.int .i32 c), pf] w fun e w' => (∃ v : Int, 0 ≤ v ∧ v ≤ 18446744073709551615 ∧ e = .returned (.tuple #[.int .u64 v, .nilIface])) ∧ w = w' := by
  have H := fun w => Lib.hid (unP_uint64_int32 c h0 h1 w)
  go_enter Tryd.func103, Tryd.ntmps103
  go_wp2_with (go_at_call 128; refine ((H _).out).mono ?_; rintro e w' ⟨⟨v, v0, v1, rfl⟩, rfl⟩)
  go_ret2
  exact ⟨⟨v, v0, v1, rfl⟩, rfl⟩

theorem unToP_uint64_int32 (c : Int) (h0 : 0 ≤ c) (h1 : c ≤ 2147483647) (w : World) :
    Calls Tryd.prog 77 #[.iface 21 (.int .i32 c)] w fun e w' => (∃ v : Int, 0 ≤ v ∧ v ≤ 18446744073709551615 ∧ e = .returned (.tuple #[.int .u64 v, .nilIface])) ∧ w = w' := by
  have hmf : ∀ (fn : Fn) (first cap : Array Value) (w : World), (Instr.makeFunc fn first cap).run Tryd.prog w = .ok (.func fn first cap) w := fun _ _ _ _ => rfl
  have H := fun pf w => Lib.hid (unEP_uint64_int32 c h0 h1 pf w)
  go_enter Tryd.func77, Tryd.ntmps77
  go_wp2_with (go_at_call 103; refine ((H _ _).out).mono ?_; rintro e w' ⟨⟨v, v0, v1, rfl⟩, rfl⟩)
  go_ret2
  exact ⟨⟨v, v0, v1, rfl⟩, rfl⟩

theorem doorP_uint64_int32 (c : Int) (h0 : 0 ≤ c) (h1 : c ≤ 2147483647) (w : World) :
    Calls Tryd.prog 41 #[anyOf 5 c 0 0 ⟨#[]⟩] w fun e w' => (∃ v : Int, e = .returned (.tuple #[.int .u64 v, .bool true])) ∧ Below w.heap.size w w' := by
  have HV := fun w => Lib.hid (value_int32 c 0 0 ⟨#[]⟩ w (by omega) (by omega))
  have hval : (wrap32 c) = c := by simp [wrap32, IntKind.wrap, IntKind.bits, IntKind.signed]; omega
  rw [hval] at HV
  clear hval
  have HE := fun w => Lib.hid (unToP_uint64_int32 c h0 h1 w)
  unfold anyOf at HV ⊢
  go_enter Tryd.func41, Tryd.ntmps41
  go_wp2_with (first
    | (go_at_call 26; refine ((HV _).out).mono ?_; rintro e w1 ⟨rfl, hb0⟩; have hb1 : Below w.heap.size w w1 := ((Below.refl _ _).alloc (Nat.le_refl _) _).trans (hb0.mono (by simp)))
    | (go_at_call 77; refine ((HE _).out).mono ?_; rintro e w2 ⟨⟨v, v0, v1, rfl⟩, rfl⟩))
  go_quiet (fail)
  go_wp2
  go_ret2
  exact ⟨⟨_, rfl⟩, bdrew hb1 _⟩

theorem unN_uint64_int64 (c : Int) (h0 : -9223372036854775808 ≤ c) (h1 : c < 0) (w : World) :
    Calls Tryd.prog 128 #[.iface 2 (.int .i64 c)] w fun e w' => e = .returned (.tuple #[.int .u64 0, .bool false, .bool false]) ∧ w = w' := by
  have z0 := Tryd.no_uint64 2 (by decide) (.int .i64 c)
  have z1 := Tryd.no_int 2 (by decide) (.int .i64 c)
  have z2 := Tryd.no_int8 2 (by decide) (.int .i64 c)
  have z3 := Tryd.no_int16 2 (by decide) (.int .i64 c)
  have z4 := Tryd.no_int32 2 (by decide) (.int .i64 c)
  have z5 := Tryd.is_int64 (.int .i64 c)
  have h2 : ¬ 0 ≤ c := by omega
  go_enter Tryd.func128, Tryd.ntmps128
  go_wp2_with (go_at_call 49; refine (indirect_any 2 _ (by decide) (by decide) _).mono ?_; rintro e w' ⟨rfl, rfl⟩)
  go_ret3
  exact ⟨rfl, rfl⟩

theorem unEN_uint64_int64 (c : Int) (h0 : -9223372036854775808 ≤ c) (h1 : c < 0) (pf : Value) (w : World) :
    Calls Tryd.prog 103 #[.iface 2 (.int .i64 c), pf] w fun e w' => (∃ T q, e = .returned (.tuple #[.int .u64 0, .iface T q])) ∧ w = w' := by
  have H := fun w => Lib.hid (unN_uint64_int64 c h0 h1 w)
  go_enter Tryd.func103, Tryd.ntmps103
  go_wp2_with (first
    | (go_at_call 128; refine ((H _).out).mono ?_; rintro e w' ⟨rfl, rfl⟩)
    | (go_at_call 49; refine (indirect_any 2 _ (by decide) (by decide) _).mono ?_; rintro e w' ⟨rfl, rfl⟩))
  go_ret2
  exact ⟨⟨_, _, rfl⟩, rfl⟩

theorem unToN_uint64_int64 (c : Int) (h0 : -9223372036854775808 ≤ c) (h1 : c < 0) (w : World) :
    Calls Tryd.prog 77 #[.iface 2 (.int .i64 c)] w fun e w' => (∃ T q, e = .returned (.tuple #[.int .u64 0, .iface T q])) ∧ w = w' := by
  have hmf : ∀ (fn : Fn) (first cap : Array Value) (w : World), (Instr.makeFunc fn first cap).run Tryd.prog w = .ok (.func fn first cap) w := fun _ _ _ _ => rfl
  have H := fun pf w => Lib.hid (unEN_uint64_int64 c h0 h1 pf w)
  go_enter Tryd.func77, Tryd.ntmps77
  go_wp2_with (go_at_call 103; refine ((H _ _).out).mono ?_; rintro e w' ⟨⟨T, q, rfl⟩, rfl⟩)
  go_ret2
  exact ⟨⟨_, _, rfl⟩, rfl⟩

theorem doorN_uint64_int64 (c : Int) (h0 : -9223372036854775808 ≤ c) (h1 : c < 0) (w : World) :
    Calls Tryd.prog 41 #[anyOf 6 c 0 0 ⟨#[]⟩] w fun e w' => (e = .returned (.tuple #[.int .u64 0, .bool false])) ∧ Below w.heap.size w w' := by
  have HV := fun w => Lib.hid (value_int64 c 0 0 ⟨#[]⟩ w (by omega) (by omega))
  have HE := fun w => Lib.hid (unToN_uint64_int64 c h0 h1 w)
  unfold anyOf at HV ⊢
  go_enter Tryd.func41, Tryd.ntmps41
  go_wp2_with (first
    | (go_at_call 26; refine ((HV _).out).mono ?_; rintro e w1 ⟨rfl, hb0⟩; have hb1 : Below w.heap.size w w1 := ((Below.refl _ _).alloc (Nat.le_refl _) _).trans (hb0.mono (by simp)))
    | (go_at_call 77; refine ((HE _).out).mono ?_; rintro e w2 ⟨⟨T, q, rfl⟩, rfl⟩))
  go_quiet (fail)
  go_wp2
  go_ret2
  exact ⟨rfl, bdrew hb1 _⟩

theorem unP_uint64_int64 (c : Int) (h0 : 0 ≤ c) (h1 : c ≤ 9223372036854775807) (w : World) :
    Calls Tryd.prog 128 #[.iface 2 (.int .i64 c)] w fun e w' => (∃ v : Int, 0 ≤ v ∧ v ≤ 18446744073709551615 ∧ e = .returned (.tuple #[.int .u64 v, .bool true, .bool true])) ∧ w = w' := by
  have z0 := Tryd.no_uint64 2 (by decide) (.int .i64 c)
  have z1 := Tryd.no_int 2 (by decide) (.int .i64 c)
  have z2 := Tryd.no_int8 2 (by decide) (.int .i64 c)
  have z3 := Tryd.no_int16 2 (by decide) (.int .i64 c)
  have z4 := Tryd.no_int32 2 (by decide) (.int .i64 c)
  have z5 := Tryd.is_int64 (.int .i64 c)
  have h2 : ¬ c < 0 := by omega
  go_enter Tryd.func128, Tryd.ntmps128
  go_wp2_with (go_at_call 49; refine (indirect_any 2 _ (by decide) (by decide) _).mono ?_; rintro e w' ⟨rfl, rfl⟩)
  go_ret3
  refine ⟨⟨_, ?_, ?_, rfl⟩, rfl⟩ <;> first | omega | (simp [wrap32, IntKind.wrap, IntKind.bits, IntKind.signed]; omega) | (simp [wrap32, IntKind.wrap, IntKind.bits, IntKind.signed])

theorem unEP_uint64_int64 (c : Int) (h0 : 0 ≤ c) (h1 : c ≤ 9223372036854775807) (pf : Value) (w : World) :
    Calls Tryd.prog 103 #[.iface 2 (.int .i64 c), pf] w fun e w' => (∃ v : Int, 0 ≤ v ∧ v ≤ 18446744073709551615 ∧ e = .returned (.tuple #[.int .u64 v, .nilIface])) ∧ w = w' := by
  have H := fun w => Lib.hid (unP_uint64_int64 c h0 h1 w)
  go_enter Tryd.func103, Tryd.ntmps103
  go_wp2_with (go_at_call 128; refine ((H _).out).mono ?_; rintro e w' ⟨⟨v, v0, v1, rfl⟩, rfl⟩)
  go_ret2
  exact ⟨⟨v, v0, v1, rfl⟩, rfl⟩

theorem unToP_uint64_int64 (c : Int) (h0 : 0 ≤ c) (h1 : c ≤ 9223372036854775807) (w : World) :
    Calls Tryd.prog 77 #[.iface 2 (.int .i64 c)] w fun e w' => (∃ v : Int, 0 ≤ v ∧ v ≤ 18446744073709551615 ∧ e = .returned (.tuple #[.int .u64 v, .nilIface])) ∧ w = w' := by
  have hmf : ∀ (fn : Fn) (first cap : Array Value) (w : World), (Instr.makeFunc fn first cap).run Tryd.prog w = .ok (.func fn first cap) w := fun _ _ _ _ => rfl
  have H := fun pf w => Lib.hid (unEP_uint64_int64 c h0 h1 pf w)
  go_enter Tryd.func77, Tryd.ntmps77
  go_wp2_with (go_at_call 103; refine ((H _ _).out).mono ?_; rintro e w' ⟨⟨v, v0, v1, rfl⟩, rfl⟩)
  go_ret2
  exact ⟨⟨v, v0, v1, rfl⟩, rfl⟩

theorem doorP_uint64_int64 (c : Int) (h0 : 0 ≤ c) (h1 : c ≤ 9223372036854775807) (w : World) :
    Calls Tryd.prog 41 #[anyOf 6 c 0 0 ⟨#[]⟩] w fun e w' => (∃ v : Int, e = .returned (.tuple #[.int .u64 v, .bool true])) ∧ Below w.heap.size w w' := by
  have HV := fun w => Lib.hid (value_int64 c 0 0 ⟨#[]⟩ w (by omega) (by omega))
  have HE := fun w => Lib.hid (unToP_uint64_int64 c h0 h1 w)
  unfold anyOf at HV ⊢
  go_enter Tryd.func41, Tryd.ntmps41
  go_wp2_with (first
    | (go_at_call 26; refine ((HV _).out).mono ?_; rintro e w1 ⟨rfl, hb0⟩; have hb1 : Below w.heap.size w w1 := ((Below.refl _ _).alloc (Nat.le_refl _) _).trans (hb0.mono (by simp)))
    | (go_at_call 77; refine ((HE _).out).mono ?_; rintro e w2 ⟨⟨v, v0, v1, rfl⟩, rfl⟩))
  go_quiet (fail)
  go_wp2
  go_ret2
  exact ⟨⟨_, rfl⟩, bdrew hb1 _⟩
end Go.Proofs.YtbdheiepiolfhaaDoor.E
