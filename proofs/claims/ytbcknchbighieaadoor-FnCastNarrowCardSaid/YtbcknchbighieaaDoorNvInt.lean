/- cast's numbers of int, at each plain kind. Written by gen_nar.py. -/
import Derived.Test.YtbcknchbighieaaDoorNvK
namespace Go.Proofs.YtbcknchbighieaaDoor.E
open Go.RowKit Go.Proofs
set_option linter.unusedVariables false
set_option linter.unusedSimpArgs false

set_option maxRecDepth 100000 in
theorem toNumber_int_nil (w : World) :
    Calls Tryd.prog 61 #[.nilIface] w fun e w' => e = .returned (.tuple #[.int .i64 0, .bool true]) ∧ w = w' := by
  have z0 := Tryd.nil_int
  have z1 := Tryd.nil_int8
  have z2 := Tryd.nil_int16
  have z3 := Tryd.nil_int32
  have z4 := Tryd.nil_int64
  have z5 := Tryd.nil_uint
  have z6 := Tryd.nil_uint8
  have z7 := Tryd.nil_uint16
  have z8 := Tryd.nil_uint32
  have z9 := Tryd.nil_uint64
  have z10 := Tryd.nil_float32
  have z11 := Tryd.nil_float64
  have z12 := Tryd.nil_bool
  go_enter Tryd.func61, Tryd.ntmps61
  go_wp2_with (go_at_call 41; refine (indirect_nil _).mono ?_; rintro e w' ⟨rfl, rfl⟩)
  go_ret2
  exact ⟨rfl, rfl⟩
set_option maxRecDepth 100000 in
theorem toE_int_nil (w : World) :
    Calls Tryd.prog 39 #[.nilIface] w fun e w' => e = .returned (.tuple #[.int .i64 0, .nilIface]) ∧ w = w' := by
  have hmf : ∀ (fn : Fn) (first cap : Array Value) (w : World), (Instr.makeFunc fn first cap).run Tryd.prog w = .ok (.func fn first cap) w := fun _ _ _ _ => rfl
  have H := fun w => Lib.hid (toNumber_int_nil  w)
  have HE : ∀ (pf : Value) (w : World), Calls Tryd.prog 52 #[.nilIface, pf] w fun e w' => e = .returned (.tuple #[.int .i64 0, .nilIface]) ∧ w = w' := by
    intro pf w
    go_enter Tryd.func52, Tryd.ntmps52
    go_wp2_with (go_at_call 61; refine ((H _).out).mono ?_; rintro e w' ⟨rfl, rfl⟩)
    go_ret2
    exact ⟨rfl, rfl⟩
  have HE := fun pf w => Lib.hid (HE pf w)
  clear H
  go_enter Tryd.func39, Tryd.ntmps39
  go_wp2_with (go_at_call 52; refine ((HE _ _).out).mono ?_; rintro e w' ⟨rfl, rfl⟩)
  go_ret2
  exact ⟨rfl, rfl⟩

set_option maxRecDepth 100000 in
theorem impl_int_nil (n u : Int) (f : Nat) (s : ByteArray) (w : World) :
    Calls Tryd.prog 17 #[anyOf 0 n u f s] w fun e w' => e = .returned (.tuple #[.int .i64 0, .bool true]) ∧ Below w.heap.size w w' := by
  have HV := fun w => Lib.hid (value_nil n u f s w)
  have HE := fun w => Lib.hid (toE_int_nil w)
  unfold anyOf at HV ⊢
  go_enter Tryd.func17, Tryd.ntmps17
  go_wp2_with (first
    | (go_at_call 13; refine ((HV _).out).mono ?_; rintro e w1 ⟨rfl, hb0⟩; have hb1 : Below w.heap.size w w1 := ((Below.refl _ _).alloc (Nat.le_refl _) _).trans (hb0.mono (by simp)))
    | (go_at_call 39; refine ((HE _).out).mono ?_; rintro e w2 ⟨rfl, rfl⟩))
  go_quiet (fail)
  go_wp2
  go_ret2
  exact ⟨rfl, bdrew hb1 _⟩

set_option maxRecDepth 100000 in
theorem toNumber_int_bool_true (w : World) :
    Calls Tryd.prog 61 #[(.iface 4 (.bool true))] w fun e w' => e = .returned (.tuple #[.int .i64 1, .bool true]) ∧ w = w' := by
  have z0 := Tryd.no_int 4 (by decide) (.bool true)
  have z1 := Tryd.no_int8 4 (by decide) (.bool true)
  have z2 := Tryd.no_int16 4 (by decide) (.bool true)
  have z3 := Tryd.no_int32 4 (by decide) (.bool true)
  have z4 := Tryd.no_int64 4 (by decide) (.bool true)
  have z5 := Tryd.no_uint 4 (by decide) (.bool true)
  have z6 := Tryd.no_uint8 4 (by decide) (.bool true)
  have z7 := Tryd.no_uint16 4 (by decide) (.bool true)
  have z8 := Tryd.no_uint32 4 (by decide) (.bool true)
  have z9 := Tryd.no_uint64 4 (by decide) (.bool true)
  have z10 := Tryd.no_float32 4 (by decide) (.bool true)
  have z11 := Tryd.no_float64 4 (by decide) (.bool true)
  have z12 := Tryd.is_bool (.bool true)
  go_enter Tryd.func61, Tryd.ntmps61
  go_wp2_with (go_at_call 41; refine (indirect_any 4 _ (by decide) (by decide) _).mono ?_; rintro e w' ⟨rfl, rfl⟩)
  go_ret2
  exact ⟨rfl, rfl⟩
set_option maxRecDepth 100000 in
theorem toE_int_bool_true (w : World) :
    Calls Tryd.prog 39 #[(.iface 4 (.bool true))] w fun e w' => e = .returned (.tuple #[.int .i64 1, .nilIface]) ∧ w = w' := by
  have hmf : ∀ (fn : Fn) (first cap : Array Value) (w : World), (Instr.makeFunc fn first cap).run Tryd.prog w = .ok (.func fn first cap) w := fun _ _ _ _ => rfl
  have H := fun w => Lib.hid (toNumber_int_bool_true w)
  have HE : ∀ (pf : Value) (w : World), Calls Tryd.prog 52 #[(.iface 4 (.bool true)), pf] w fun e w' => e = .returned (.tuple #[.int .i64 1, .nilIface]) ∧ w = w' := by
    intro pf w
    go_enter Tryd.func52, Tryd.ntmps52
    go_wp2_with (go_at_call 61; refine ((H _).out).mono ?_; rintro e w' ⟨rfl, rfl⟩)
    go_ret2
    exact ⟨rfl, rfl⟩
  have HE := fun pf w => Lib.hid (HE pf w)
  clear H
  go_enter Tryd.func39, Tryd.ntmps39
  go_wp2_with (go_at_call 52; refine ((HE _ _).out).mono ?_; rintro e w' ⟨rfl, rfl⟩)
  go_ret2
  exact ⟨rfl, rfl⟩

set_option maxRecDepth 100000 in
theorem impl_int_bool_true (n u : Int) (f : Nat) (s : ByteArray) (w : World) (hb : (n != 0) = true) :
    Calls Tryd.prog 17 #[anyOf 1 n u f s] w fun e w' => e = .returned (.tuple #[.int .i64 1, .bool true]) ∧ Below w.heap.size w w' := by
  have HV := fun w => Lib.hid (value_bool n u f s w)
  have HE := fun w => Lib.hid (toE_int_bool_true w)
  rw [hb] at HV
  unfold anyOf at HV ⊢
  go_enter Tryd.func17, Tryd.ntmps17
  go_wp2_with (first
    | (go_at_call 13; refine ((HV _).out).mono ?_; rintro e w1 ⟨rfl, hb0⟩; have hb1 : Below w.heap.size w w1 := ((Below.refl _ _).alloc (Nat.le_refl _) _).trans (hb0.mono (by simp)))
    | (go_at_call 39; refine ((HE _).out).mono ?_; rintro e w2 ⟨rfl, rfl⟩))
  go_quiet (fail)
  go_wp2
  go_ret2
  exact ⟨rfl, bdrew hb1 _⟩

set_option maxRecDepth 100000 in
theorem toNumber_int_bool_false (w : World) :
    Calls Tryd.prog 61 #[(.iface 4 (.bool false))] w fun e w' => e = .returned (.tuple #[.int .i64 0, .bool true]) ∧ w = w' := by
  have z0 := Tryd.no_int 4 (by decide) (.bool false)
  have z1 := Tryd.no_int8 4 (by decide) (.bool false)
  have z2 := Tryd.no_int16 4 (by decide) (.bool false)
  have z3 := Tryd.no_int32 4 (by decide) (.bool false)
  have z4 := Tryd.no_int64 4 (by decide) (.bool false)
  have z5 := Tryd.no_uint 4 (by decide) (.bool false)
  have z6 := Tryd.no_uint8 4 (by decide) (.bool false)
  have z7 := Tryd.no_uint16 4 (by decide) (.bool false)
  have z8 := Tryd.no_uint32 4 (by decide) (.bool false)
  have z9 := Tryd.no_uint64 4 (by decide) (.bool false)
  have z10 := Tryd.no_float32 4 (by decide) (.bool false)
  have z11 := Tryd.no_float64 4 (by decide) (.bool false)
  have z12 := Tryd.is_bool (.bool false)
  go_enter Tryd.func61, Tryd.ntmps61
  go_wp2_with (go_at_call 41; refine (indirect_any 4 _ (by decide) (by decide) _).mono ?_; rintro e w' ⟨rfl, rfl⟩)
  go_ret2
  exact ⟨rfl, rfl⟩
set_option maxRecDepth 100000 in
theorem toE_int_bool_false (w : World) :
    Calls Tryd.prog 39 #[(.iface 4 (.bool false))] w fun e w' => e = .returned (.tuple #[.int .i64 0, .nilIface]) ∧ w = w' := by
  have hmf : ∀ (fn : Fn) (first cap : Array Value) (w : World), (Instr.makeFunc fn first cap).run Tryd.prog w = .ok (.func fn first cap) w := fun _ _ _ _ => rfl
  have H := fun w => Lib.hid (toNumber_int_bool_false w)
  have HE : ∀ (pf : Value) (w : World), Calls Tryd.prog 52 #[(.iface 4 (.bool false)), pf] w fun e w' => e = .returned (.tuple #[.int .i64 0, .nilIface]) ∧ w = w' := by
    intro pf w
    go_enter Tryd.func52, Tryd.ntmps52
    go_wp2_with (go_at_call 61; refine ((H _).out).mono ?_; rintro e w' ⟨rfl, rfl⟩)
    go_ret2
    exact ⟨rfl, rfl⟩
  have HE := fun pf w => Lib.hid (HE pf w)
  clear H
  go_enter Tryd.func39, Tryd.ntmps39
  go_wp2_with (go_at_call 52; refine ((HE _ _).out).mono ?_; rintro e w' ⟨rfl, rfl⟩)
  go_ret2
  exact ⟨rfl, rfl⟩

set_option maxRecDepth 100000 in
theorem impl_int_bool_false (n u : Int) (f : Nat) (s : ByteArray) (w : World) (hb : (n != 0) = false) :
    Calls Tryd.prog 17 #[anyOf 1 n u f s] w fun e w' => e = .returned (.tuple #[.int .i64 0, .bool true]) ∧ Below w.heap.size w w' := by
  have HV := fun w => Lib.hid (value_bool n u f s w)
  have HE := fun w => Lib.hid (toE_int_bool_false w)
  rw [hb] at HV
  unfold anyOf at HV ⊢
  go_enter Tryd.func17, Tryd.ntmps17
  go_wp2_with (first
    | (go_at_call 13; refine ((HV _).out).mono ?_; rintro e w1 ⟨rfl, hb0⟩; have hb1 : Below w.heap.size w w1 := ((Below.refl _ _).alloc (Nat.le_refl _) _).trans (hb0.mono (by simp)))
    | (go_at_call 39; refine ((HE _).out).mono ?_; rintro e w2 ⟨rfl, rfl⟩))
  go_quiet (fail)
  go_wp2
  go_ret2
  exact ⟨rfl, bdrew hb1 _⟩

theorem toNumber_int_int (c : Int) (h0 : -9223372036854775808 ≤ c) (h1 : c ≤ 9223372036854775807) (w : World) :
    Calls Tryd.prog 61 #[.iface 3 (.int .i64 c)] w fun e w' => e = .returned (.tuple #[.int .i64 c, .bool true]) ∧ w = w' := by
  have z0 := Tryd.is_int (.int .i64 c)
  go_enter Tryd.func61, Tryd.ntmps61
  go_wp2_with (go_at_call 41; refine (indirect_any 3 _ (by decide) (by decide) _).mono ?_; rintro e w' ⟨rfl, rfl⟩)
  go_ret2
  exact ⟨rfl, rfl⟩

theorem toNumberE_int_int (c : Int) (h0 : -9223372036854775808 ≤ c) (h1 : c ≤ 9223372036854775807) (pf : Value) (w : World) :
    Calls Tryd.prog 52 #[.iface 3 (.int .i64 c), pf] w fun e w' => e = .returned (.tuple #[.int .i64 c, .nilIface]) ∧ w = w' := by
  have H := fun w => Lib.hid (toNumber_int_int c h0 h1 w)
  go_enter Tryd.func52, Tryd.ntmps52
  go_wp2_with (go_at_call 61; refine ((H _).out).mono ?_; rintro e w' ⟨rfl, rfl⟩)
  go_ret2
  exact ⟨rfl, rfl⟩

theorem toE_int_int (c : Int) (h0 : -9223372036854775808 ≤ c) (h1 : c ≤ 9223372036854775807) (w : World) :
    Calls Tryd.prog 39 #[.iface 3 (.int .i64 c)] w fun e w' => e = .returned (.tuple #[.int .i64 c, .nilIface]) ∧ w = w' := by
  have hmf : ∀ (fn : Fn) (first cap : Array Value) (w : World), (Instr.makeFunc fn first cap).run Tryd.prog w = .ok (.func fn first cap) w := fun _ _ _ _ => rfl
  have H := fun pf w => Lib.hid (toNumberE_int_int c h0 h1 pf w)
  go_enter Tryd.func39, Tryd.ntmps39
  go_wp2_with (go_at_call 52; refine ((H _ _).out).mono ?_; rintro e w' ⟨rfl, rfl⟩)
  go_ret2
  exact ⟨rfl, rfl⟩

theorem impl_int_int (n u : Int) (f : Nat) (s : ByteArray) (w : World) (hn : -9223372036854775808 ≤ n ∧ n ≤ 9223372036854775807) (hu : 0 ≤ u ∧ u ≤ 18446744073709551615) :
    Calls Tryd.prog 17 #[anyOf 2 n u f s] w fun e w' => e = .returned (.tuple #[.int .i64 n, .bool true]) ∧ Below w.heap.size w w' := by
  have HV := fun w => Lib.hid (value_int n u f s w hn hu)
  have b0 : -9223372036854775808 ≤ n := by omega
  have b1 : n ≤ 9223372036854775807 := by omega
  have HE := fun w => Lib.hid (toE_int_int n b0 b1 w)
  clear hn hu
  unfold anyOf at HV ⊢
  
  go_enter Tryd.func17, Tryd.ntmps17
  go_wp2_with (first
    | (go_at_call 13; refine ((HV _).out).mono ?_; rintro e w1 ⟨rfl, hb0⟩; have hb1 : Below w.heap.size w w1 := ((Below.refl _ _).alloc (Nat.le_refl _) _).trans (hb0.mono (by simp)))
    | (go_at_call 39; refine ((HE _).out).mono ?_; rintro e w2 ⟨rfl, rfl⟩))
  go_quiet (fail)
  go_wp2
  go_ret2
  exact ⟨rfl, bdrew hb1 _⟩

theorem toNumber_int_int8 (c : Int) (h0 : -128 ≤ c) (h1 : c ≤ 127) (w : World) :
    Calls Tryd.prog 61 #[.iface 44 (.int .i8 c)] w fun e w' => e = .returned (.tuple #[.int .i64 c, .bool true]) ∧ w = w' := by
  have z0 := Tryd.no_int 44 (by decide) (.int .i8 c)
  have z1 := Tryd.is_int8 (.int .i8 c)
  go_enter Tryd.func61, Tryd.ntmps61
  go_wp2_with (go_at_call 41; refine (indirect_any 44 _ (by decide) (by decide) _).mono ?_; rintro e w' ⟨rfl, rfl⟩)
  go_ret2
  exact ⟨rfl, rfl⟩

theorem toNumberE_int_int8 (c : Int) (h0 : -128 ≤ c) (h1 : c ≤ 127) (pf : Value) (w : World) :
    Calls Tryd.prog 52 #[.iface 44 (.int .i8 c), pf] w fun e w' => e = .returned (.tuple #[.int .i64 c, .nilIface]) ∧ w = w' := by
  have H := fun w => Lib.hid (toNumber_int_int8 c h0 h1 w)
  go_enter Tryd.func52, Tryd.ntmps52
  go_wp2_with (go_at_call 61; refine ((H _).out).mono ?_; rintro e w' ⟨rfl, rfl⟩)
  go_ret2
  exact ⟨rfl, rfl⟩

theorem toE_int_int8 (c : Int) (h0 : -128 ≤ c) (h1 : c ≤ 127) (w : World) :
    Calls Tryd.prog 39 #[.iface 44 (.int .i8 c)] w fun e w' => e = .returned (.tuple #[.int .i64 c, .nilIface]) ∧ w = w' := by
  have hmf : ∀ (fn : Fn) (first cap : Array Value) (w : World), (Instr.makeFunc fn first cap).run Tryd.prog w = .ok (.func fn first cap) w := fun _ _ _ _ => rfl
  have H := fun pf w => Lib.hid (toNumberE_int_int8 c h0 h1 pf w)
  go_enter Tryd.func39, Tryd.ntmps39
  go_wp2_with (go_at_call 52; refine ((H _ _).out).mono ?_; rintro e w' ⟨rfl, rfl⟩)
  go_ret2
  exact ⟨rfl, rfl⟩

theorem impl_int_int8 (n u : Int) (f : Nat) (s : ByteArray) (w : World) (hn : -9223372036854775808 ≤ n ∧ n ≤ 9223372036854775807) (hu : 0 ≤ u ∧ u ≤ 18446744073709551615) :
    Calls Tryd.prog 17 #[anyOf 3 n u f s] w fun e w' => e = .returned (.tuple #[.int .i64 (IntKind.i8.wrap n), .bool true]) ∧ Below w.heap.size w w' := by
  have HV := fun w => Lib.hid (value_int8 n u f s w hn hu)
  have b0 : -128 ≤ (IntKind.i8.wrap n) := by simp [wrap32, IntKind.wrap, IntKind.bits, IntKind.signed]; omega
  have b1 : (IntKind.i8.wrap n) ≤ 127 := by simp [wrap32, IntKind.wrap, IntKind.bits, IntKind.signed]; omega
  have HE := fun w => Lib.hid (toE_int_int8 (IntKind.i8.wrap n) b0 b1 w)
  clear hn hu
  unfold anyOf at HV ⊢
  generalize IntKind.i8.wrap n = c at HV HE b0 b1 ⊢
  go_enter Tryd.func17, Tryd.ntmps17
  go_wp2_with (first
    | (go_at_call 13; refine ((HV _).out).mono ?_; rintro e w1 ⟨rfl, hb0⟩; have hb1 : Below w.heap.size w w1 := ((Below.refl _ _).alloc (Nat.le_refl _) _).trans (hb0.mono (by simp)))
    | (go_at_call 39; refine ((HE _).out).mono ?_; rintro e w2 ⟨rfl, rfl⟩))
  go_quiet (fail)
  go_wp2
  go_ret2
  exact ⟨rfl, bdrew hb1 _⟩

theorem toNumber_int_int16 (c : Int) (h0 : -32768 ≤ c) (h1 : c ≤ 32767) (w : World) :
    Calls Tryd.prog 61 #[.iface 45 (.int .i16 c)] w fun e w' => e = .returned (.tuple #[.int .i64 c, .bool true]) ∧ w = w' := by
  have z0 := Tryd.no_int 45 (by decide) (.int .i16 c)
  have z1 := Tryd.no_int8 45 (by decide) (.int .i16 c)
  have z2 := Tryd.is_int16 (.int .i16 c)
  go_enter Tryd.func61, Tryd.ntmps61
  go_wp2_with (go_at_call 41; refine (indirect_any 45 _ (by decide) (by decide) _).mono ?_; rintro e w' ⟨rfl, rfl⟩)
  go_ret2
  exact ⟨rfl, rfl⟩

theorem toNumberE_int_int16 (c : Int) (h0 : -32768 ≤ c) (h1 : c ≤ 32767) (pf : Value) (w : World) :
    Calls Tryd.prog 52 #[.iface 45 (.int .i16 c), pf] w fun e w' => e = .returned (.tuple #[.int .i64 c, .nilIface]) ∧ w = w' := by
  have H := fun w => Lib.hid (toNumber_int_int16 c h0 h1 w)
  go_enter Tryd.func52, Tryd.ntmps52
  go_wp2_with (go_at_call 61; refine ((H _).out).mono ?_; rintro e w' ⟨rfl, rfl⟩)
  go_ret2
  exact ⟨rfl, rfl⟩

theorem toE_int_int16 (c : Int) (h0 : -32768 ≤ c) (h1 : c ≤ 32767) (w : World) :
    Calls Tryd.prog 39 #[.iface 45 (.int .i16 c)] w fun e w' => e = .returned (.tuple #[.int .i64 c, .nilIface]) ∧ w = w' := by
  have hmf : ∀ (fn : Fn) (first cap : Array Value) (w : World), (Instr.makeFunc fn first cap).run Tryd.prog w = .ok (.func fn first cap) w := fun _ _ _ _ => rfl
  have H := fun pf w => Lib.hid (toNumberE_int_int16 c h0 h1 pf w)
  go_enter Tryd.func39, Tryd.ntmps39
  go_wp2_with (go_at_call 52; refine ((H _ _).out).mono ?_; rintro e w' ⟨rfl, rfl⟩)
  go_ret2
  exact ⟨rfl, rfl⟩

theorem impl_int_int16 (n u : Int) (f : Nat) (s : ByteArray) (w : World) (hn : -9223372036854775808 ≤ n ∧ n ≤ 9223372036854775807) (hu : 0 ≤ u ∧ u ≤ 18446744073709551615) :
    Calls Tryd.prog 17 #[anyOf 4 n u f s] w fun e w' => e = .returned (.tuple #[.int .i64 (IntKind.i16.wrap n), .bool true]) ∧ Below w.heap.size w w' := by
  have HV := fun w => Lib.hid (value_int16 n u f s w hn hu)
  have b0 : -32768 ≤ (IntKind.i16.wrap n) := by simp [wrap32, IntKind.wrap, IntKind.bits, IntKind.signed]; omega
  have b1 : (IntKind.i16.wrap n) ≤ 32767 := by simp [wrap32, IntKind.wrap, IntKind.bits, IntKind.signed]; omega
  have HE := fun w => Lib.hid (toE_int_int16 (IntKind.i16.wrap n) b0 b1 w)
  clear hn hu
  unfold anyOf at HV ⊢
  generalize IntKind.i16.wrap n = c at HV HE b0 b1 ⊢
  go_enter Tryd.func17, Tryd.ntmps17
  go_wp2_with (first
    | (go_at_call 13; refine ((HV _).out).mono ?_; rintro e w1 ⟨rfl, hb0⟩; have hb1 : Below w.heap.size w w1 := ((Below.refl _ _).alloc (Nat.le_refl _) _).trans (hb0.mono (by simp)))
    | (go_at_call 39; refine ((HE _).out).mono ?_; rintro e w2 ⟨rfl, rfl⟩))
  go_quiet (fail)
  go_wp2
  go_ret2
  exact ⟨rfl, bdrew hb1 _⟩

theorem toNumber_int_int32 (c : Int) (h0 : -2147483648 ≤ c) (h1 : c ≤ 2147483647) (w : World) :
    Calls Tryd.prog 61 #[.iface 21 (.int .i32 c)] w fun e w' => e = .returned (.tuple #[.int .i64 c, .bool true]) ∧ w = w' := by
  have z0 := Tryd.no_int 21 (by decide) (.int .i32 c)
  have z1 := Tryd.no_int8 21 (by decide) (.int .i32 c)
  have z2 := Tryd.no_int16 21 (by decide) (.int .i32 c)
  have z3 := Tryd.is_int32 (.int .i32 c)
  go_enter Tryd.func61, Tryd.ntmps61
  go_wp2_with (go_at_call 41; refine (indirect_any 21 _ (by decide) (by decide) _).mono ?_; rintro e w' ⟨rfl, rfl⟩)
  go_ret2
  exact ⟨rfl, rfl⟩

theorem toNumberE_int_int32 (c : Int) (h0 : -2147483648 ≤ c) (h1 : c ≤ 2147483647) (pf : Value) (w : World) :
    Calls Tryd.prog 52 #[.iface 21 (.int .i32 c), pf] w fun e w' => e = .returned (.tuple #[.int .i64 c, .nilIface]) ∧ w = w' := by
  have H := fun w => Lib.hid (toNumber_int_int32 c h0 h1 w)
  go_enter Tryd.func52, Tryd.ntmps52
  go_wp2_with (go_at_call 61; refine ((H _).out).mono ?_; rintro e w' ⟨rfl, rfl⟩)
  go_ret2
  exact ⟨rfl, rfl⟩

theorem toE_int_int32 (c : Int) (h0 : -2147483648 ≤ c) (h1 : c ≤ 2147483647) (w : World) :
    Calls Tryd.prog 39 #[.iface 21 (.int .i32 c)] w fun e w' => e = .returned (.tuple #[.int .i64 c, .nilIface]) ∧ w = w' := by
  have hmf : ∀ (fn : Fn) (first cap : Array Value) (w : World), (Instr.makeFunc fn first cap).run Tryd.prog w = .ok (.func fn first cap) w := fun _ _ _ _ => rfl
  have H := fun pf w => Lib.hid (toNumberE_int_int32 c h0 h1 pf w)
  go_enter Tryd.func39, Tryd.ntmps39
  go_wp2_with (go_at_call 52; refine ((H _ _).out).mono ?_; rintro e w' ⟨rfl, rfl⟩)
  go_ret2
  exact ⟨rfl, rfl⟩

theorem impl_int_int32 (n u : Int) (f : Nat) (s : ByteArray) (w : World) (hn : -9223372036854775808 ≤ n ∧ n ≤ 9223372036854775807) (hu : 0 ≤ u ∧ u ≤ 18446744073709551615) :
    Calls Tryd.prog 17 #[anyOf 5 n u f s] w fun e w' => e = .returned (.tuple #[.int .i64 (wrap32 n), .bool true]) ∧ Below w.heap.size w w' := by
  have HV := fun w => Lib.hid (value_int32 n u f s w hn hu)
  have b0 : -2147483648 ≤ (wrap32 n) := by simp [wrap32, IntKind.wrap, IntKind.bits, IntKind.signed]; omega
  have b1 : (wrap32 n) ≤ 2147483647 := by simp [wrap32, IntKind.wrap, IntKind.bits, IntKind.signed]; omega
  have HE := fun w => Lib.hid (toE_int_int32 (wrap32 n) b0 b1 w)
  clear hn hu
  unfold anyOf at HV ⊢
  generalize wrap32 n = c at HV HE b0 b1 ⊢
  go_enter Tryd.func17, Tryd.ntmps17
  go_wp2_with (first
    | (go_at_call 13; refine ((HV _).out).mono ?_; rintro e w1 ⟨rfl, hb0⟩; have hb1 : Below w.heap.size w w1 := ((Below.refl _ _).alloc (Nat.le_refl _) _).trans (hb0.mono (by simp)))
    | (go_at_call 39; refine ((HE _).out).mono ?_; rintro e w2 ⟨rfl, rfl⟩))
  go_quiet (fail)
  go_wp2
  go_ret2
  exact ⟨rfl, bdrew hb1 _⟩

theorem toNumber_int_int64 (c : Int) (h0 : -9223372036854775808 ≤ c) (h1 : c ≤ 9223372036854775807) (w : World) :
    Calls Tryd.prog 61 #[.iface 2 (.int .i64 c)] w fun e w' => e = .returned (.tuple #[.int .i64 c, .bool true]) ∧ w = w' := by
  have z0 := Tryd.no_int 2 (by decide) (.int .i64 c)
  have z1 := Tryd.no_int8 2 (by decide) (.int .i64 c)
  have z2 := Tryd.no_int16 2 (by decide) (.int .i64 c)
  have z3 := Tryd.no_int32 2 (by decide) (.int .i64 c)
  have z4 := Tryd.is_int64 (.int .i64 c)
  go_enter Tryd.func61, Tryd.ntmps61
  go_wp2_with (go_at_call 41; refine (indirect_any 2 _ (by decide) (by decide) _).mono ?_; rintro e w' ⟨rfl, rfl⟩)
  go_ret2
  exact ⟨rfl, rfl⟩

theorem toNumberE_int_int64 (c : Int) (h0 : -9223372036854775808 ≤ c) (h1 : c ≤ 9223372036854775807) (pf : Value) (w : World) :
    Calls Tryd.prog 52 #[.iface 2 (.int .i64 c), pf] w fun e w' => e = .returned (.tuple #[.int .i64 c, .nilIface]) ∧ w = w' := by
  have H := fun w => Lib.hid (toNumber_int_int64 c h0 h1 w)
  go_enter Tryd.func52, Tryd.ntmps52
  go_wp2_with (go_at_call 61; refine ((H _).out).mono ?_; rintro e w' ⟨rfl, rfl⟩)
  go_ret2
  exact ⟨rfl, rfl⟩

theorem toE_int_int64 (c : Int) (h0 : -9223372036854775808 ≤ c) (h1 : c ≤ 9223372036854775807) (w : World) :
    Calls Tryd.prog 39 #[.iface 2 (.int .i64 c)] w fun e w' => e = .returned (.tuple #[.int .i64 c, .nilIface]) ∧ w = w' := by
  have hmf : ∀ (fn : Fn) (first cap : Array Value) (w : World), (Instr.makeFunc fn first cap).run Tryd.prog w = .ok (.func fn first cap) w := fun _ _ _ _ => rfl
  have H := fun pf w => Lib.hid (toNumberE_int_int64 c h0 h1 pf w)
  go_enter Tryd.func39, Tryd.ntmps39
  go_wp2_with (go_at_call 52; refine ((H _ _).out).mono ?_; rintro e w' ⟨rfl, rfl⟩)
  go_ret2
  exact ⟨rfl, rfl⟩

theorem impl_int_int64 (n u : Int) (f : Nat) (s : ByteArray) (w : World) (hn : -9223372036854775808 ≤ n ∧ n ≤ 9223372036854775807) (hu : 0 ≤ u ∧ u ≤ 18446744073709551615) :
    Calls Tryd.prog 17 #[anyOf 6 n u f s] w fun e w' => e = .returned (.tuple #[.int .i64 n, .bool true]) ∧ Below w.heap.size w w' := by
  have HV := fun w => Lib.hid (value_int64 n u f s w hn hu)
  have b0 : -9223372036854775808 ≤ n := by omega
  have b1 : n ≤ 9223372036854775807 := by omega
  have HE := fun w => Lib.hid (toE_int_int64 n b0 b1 w)
  clear hn hu
  unfold anyOf at HV ⊢
  
  go_enter Tryd.func17, Tryd.ntmps17
  go_wp2_with (first
    | (go_at_call 13; refine ((HV _).out).mono ?_; rintro e w1 ⟨rfl, hb0⟩; have hb1 : Below w.heap.size w w1 := ((Below.refl _ _).alloc (Nat.le_refl _) _).trans (hb0.mono (by simp)))
    | (go_at_call 39; refine ((HE _).out).mono ?_; rintro e w2 ⟨rfl, rfl⟩))
  go_quiet (fail)
  go_wp2
  go_ret2
  exact ⟨rfl, bdrew hb1 _⟩

theorem toNumber_int_uint (c : Int) (h0 : 0 ≤ c) (h1 : c ≤ 18446744073709551615) (w : World) :
    Calls Tryd.prog 61 #[.iface 38 (.int .u64 c)] w fun e w' => e = .returned (.tuple #[.int .i64 (wrap64 c), .bool true]) ∧ w = w' := by
  have z0 := Tryd.no_int 38 (by decide) (.int .u64 c)
  have z1 := Tryd.no_int8 38 (by decide) (.int .u64 c)
  have z2 := Tryd.no_int16 38 (by decide) (.int .u64 c)
  have z3 := Tryd.no_int32 38 (by decide) (.int .u64 c)
  have z4 := Tryd.no_int64 38 (by decide) (.int .u64 c)
  have z5 := Tryd.is_uint (.int .u64 c)
  go_enter Tryd.func61, Tryd.ntmps61
  go_wp2_with (go_at_call 41; refine (indirect_any 38 _ (by decide) (by decide) _).mono ?_; rintro e w' ⟨rfl, rfl⟩)
  go_ret2
  exact ⟨rfl, rfl⟩

theorem toNumberE_int_uint (c : Int) (h0 : 0 ≤ c) (h1 : c ≤ 18446744073709551615) (pf : Value) (w : World) :
    Calls Tryd.prog 52 #[.iface 38 (.int .u64 c), pf] w fun e w' => e = .returned (.tuple #[.int .i64 (wrap64 c), .nilIface]) ∧ w = w' := by
  have H := fun w => Lib.hid (toNumber_int_uint c h0 h1 w)
  go_enter Tryd.func52, Tryd.ntmps52
  go_wp2_with (go_at_call 61; refine ((H _).out).mono ?_; rintro e w' ⟨rfl, rfl⟩)
  go_ret2
  exact ⟨rfl, rfl⟩

theorem toE_int_uint (c : Int) (h0 : 0 ≤ c) (h1 : c ≤ 18446744073709551615) (w : World) :
    Calls Tryd.prog 39 #[.iface 38 (.int .u64 c)] w fun e w' => e = .returned (.tuple #[.int .i64 (wrap64 c), .nilIface]) ∧ w = w' := by
  have hmf : ∀ (fn : Fn) (first cap : Array Value) (w : World), (Instr.makeFunc fn first cap).run Tryd.prog w = .ok (.func fn first cap) w := fun _ _ _ _ => rfl
  have H := fun pf w => Lib.hid (toNumberE_int_uint c h0 h1 pf w)
  go_enter Tryd.func39, Tryd.ntmps39
  go_wp2_with (go_at_call 52; refine ((H _ _).out).mono ?_; rintro e w' ⟨rfl, rfl⟩)
  go_ret2
  exact ⟨rfl, rfl⟩

theorem impl_int_uint (n u : Int) (f : Nat) (s : ByteArray) (w : World) (hn : -9223372036854775808 ≤ n ∧ n ≤ 9223372036854775807) (hu : 0 ≤ u ∧ u ≤ 18446744073709551615) :
    Calls Tryd.prog 17 #[anyOf 7 n u f s] w fun e w' => e = .returned (.tuple #[.int .i64 (wrap64 u), .bool true]) ∧ Below w.heap.size w w' := by
  have HV := fun w => Lib.hid (value_uint n u f s w hn hu)
  have b0 : 0 ≤ u := by omega
  have b1 : u ≤ 18446744073709551615 := by omega
  have HE := fun w => Lib.hid (toE_int_uint u b0 b1 w)
  clear hn hu
  unfold anyOf at HV ⊢
  
  have e0 : -9223372036854775808 ≤ (wrap64 u) := by simp [wrap32, wrap64, IntKind.wrap, IntKind.bits, IntKind.signed]; omega
  have e1 : (wrap64 u) ≤ 9223372036854775807 := by simp [wrap32, wrap64, IntKind.wrap, IntKind.bits, IntKind.signed]; omega
  generalize (wrap64 u) = d at HE e0 e1 ⊢
  go_enter Tryd.func17, Tryd.ntmps17
  go_wp2_with (first
    | (go_at_call 13; refine ((HV _).out).mono ?_; rintro e w1 ⟨rfl, hb0⟩; have hb1 : Below w.heap.size w w1 := ((Below.refl _ _).alloc (Nat.le_refl _) _).trans (hb0.mono (by simp)))
    | (go_at_call 39; refine ((HE _).out).mono ?_; rintro e w2 ⟨rfl, rfl⟩))
  go_quiet (fail)
  go_wp2
  go_ret2
  exact ⟨rfl, bdrew hb1 _⟩

theorem toNumber_int_uint8 (c : Int) (h0 : 0 ≤ c) (h1 : c ≤ 255) (w : World) :
    Calls Tryd.prog 61 #[.iface 5 (.int .u8 c)] w fun e w' => e = .returned (.tuple #[.int .i64 c, .bool true]) ∧ w = w' := by
  have z0 := Tryd.no_int 5 (by decide) (.int .u8 c)
  have z1 := Tryd.no_int8 5 (by decide) (.int .u8 c)
  have z2 := Tryd.no_int16 5 (by decide) (.int .u8 c)
  have z3 := Tryd.no_int32 5 (by decide) (.int .u8 c)
  have z4 := Tryd.no_int64 5 (by decide) (.int .u8 c)
  have z5 := Tryd.no_uint 5 (by decide) (.int .u8 c)
  have z6 := Tryd.is_uint8 (.int .u8 c)
  go_enter Tryd.func61, Tryd.ntmps61
  go_wp2_with (go_at_call 41; refine (indirect_any 5 _ (by decide) (by decide) _).mono ?_; rintro e w' ⟨rfl, rfl⟩)
  go_ret2
  exact ⟨rfl, rfl⟩

theorem toNumberE_int_uint8 (c : Int) (h0 : 0 ≤ c) (h1 : c ≤ 255) (pf : Value) (w : World) :
    Calls Tryd.prog 52 #[.iface 5 (.int .u8 c), pf] w fun e w' => e = .returned (.tuple #[.int .i64 c, .nilIface]) ∧ w = w' := by
  have H := fun w => Lib.hid (toNumber_int_uint8 c h0 h1 w)
  go_enter Tryd.func52, Tryd.ntmps52
  go_wp2_with (go_at_call 61; refine ((H _).out).mono ?_; rintro e w' ⟨rfl, rfl⟩)
  go_ret2
  exact ⟨rfl, rfl⟩

theorem toE_int_uint8 (c : Int) (h0 : 0 ≤ c) (h1 : c ≤ 255) (w : World) :
    Calls Tryd.prog 39 #[.iface 5 (.int .u8 c)] w fun e w' => e = .returned (.tuple #[.int .i64 c, .nilIface]) ∧ w = w' := by
  have hmf : ∀ (fn : Fn) (first cap : Array Value) (w : World), (Instr.makeFunc fn first cap).run Tryd.prog w = .ok (.func fn first cap) w := fun _ _ _ _ => rfl
  have H := fun pf w => Lib.hid (toNumberE_int_uint8 c h0 h1 pf w)
  go_enter Tryd.func39, Tryd.ntmps39
  go_wp2_with (go_at_call 52; refine ((H _ _).out).mono ?_; rintro e w' ⟨rfl, rfl⟩)
  go_ret2
  exact ⟨rfl, rfl⟩

theorem impl_int_uint8 (n u : Int) (f : Nat) (s : ByteArray) (w : World) (hn : -9223372036854775808 ≤ n ∧ n ≤ 9223372036854775807) (hu : 0 ≤ u ∧ u ≤ 18446744073709551615) :
    Calls Tryd.prog 17 #[anyOf 8 n u f s] w fun e w' => e = .returned (.tuple #[.int .i64 (IntKind.u8.wrap u), .bool true]) ∧ Below w.heap.size w w' := by
  have HV := fun w => Lib.hid (value_uint8 n u f s w hn hu)
  have b0 : 0 ≤ (IntKind.u8.wrap u) := by simp [wrap32, IntKind.wrap, IntKind.bits, IntKind.signed]; omega
  have b1 : (IntKind.u8.wrap u) ≤ 255 := by simp [wrap32, IntKind.wrap, IntKind.bits, IntKind.signed]; omega
  have HE := fun w => Lib.hid (toE_int_uint8 (IntKind.u8.wrap u) b0 b1 w)
  clear hn hu
  unfold anyOf at HV ⊢
  generalize IntKind.u8.wrap u = c at HV HE b0 b1 ⊢
  go_enter Tryd.func17, Tryd.ntmps17
  go_wp2_with (first
    | (go_at_call 13; refine ((HV _).out).mono ?_; rintro e w1 ⟨rfl, hb0⟩; have hb1 : Below w.heap.size w w1 := ((Below.refl _ _).alloc (Nat.le_refl _) _).trans (hb0.mono (by simp)))
    | (go_at_call 39; refine ((HE _).out).mono ?_; rintro e w2 ⟨rfl, rfl⟩))
  go_quiet (fail)
  go_wp2
  go_ret2
  exact ⟨rfl, bdrew hb1 _⟩

theorem toNumber_int_uint16 (c : Int) (h0 : 0 ≤ c) (h1 : c ≤ 65535) (w : World) :
    Calls Tryd.prog 61 #[.iface 48 (.int .u16 c)] w fun e w' => e = .returned (.tuple #[.int .i64 c, .bool true]) ∧ w = w' := by
  have z0 := Tryd.no_int 48 (by decide) (.int .u16 c)
  have z1 := Tryd.no_int8 48 (by decide) (.int .u16 c)
  have z2 := Tryd.no_int16 48 (by decide) (.int .u16 c)
  have z3 := Tryd.no_int32 48 (by decide) (.int .u16 c)
  have z4 := Tryd.no_int64 48 (by decide) (.int .u16 c)
  have z5 := Tryd.no_uint 48 (by decide) (.int .u16 c)
  have z6 := Tryd.no_uint8 48 (by decide) (.int .u16 c)
  have z7 := Tryd.is_uint16 (.int .u16 c)
  go_enter Tryd.func61, Tryd.ntmps61
  go_wp2_with (go_at_call 41; refine (indirect_any 48 _ (by decide) (by decide) _).mono ?_; rintro e w' ⟨rfl, rfl⟩)
  go_ret2
  exact ⟨rfl, rfl⟩

theorem toNumberE_int_uint16 (c : Int) (h0 : 0 ≤ c) (h1 : c ≤ 65535) (pf : Value) (w : World) :
    Calls Tryd.prog 52 #[.iface 48 (.int .u16 c), pf] w fun e w' => e = .returned (.tuple #[.int .i64 c, .nilIface]) ∧ w = w' := by
  have H := fun w => Lib.hid (toNumber_int_uint16 c h0 h1 w)
  go_enter Tryd.func52, Tryd.ntmps52
  go_wp2_with (go_at_call 61; refine ((H _).out).mono ?_; rintro e w' ⟨rfl, rfl⟩)
  go_ret2
  exact ⟨rfl, rfl⟩

theorem toE_int_uint16 (c : Int) (h0 : 0 ≤ c) (h1 : c ≤ 65535) (w : World) :
    Calls Tryd.prog 39 #[.iface 48 (.int .u16 c)] w fun e w' => e = .returned (.tuple #[.int .i64 c, .nilIface]) ∧ w = w' := by
  have hmf : ∀ (fn : Fn) (first cap : Array Value) (w : World), (Instr.makeFunc fn first cap).run Tryd.prog w = .ok (.func fn first cap) w := fun _ _ _ _ => rfl
  have H := fun pf w => Lib.hid (toNumberE_int_uint16 c h0 h1 pf w)
  go_enter Tryd.func39, Tryd.ntmps39
  go_wp2_with (go_at_call 52; refine ((H _ _).out).mono ?_; rintro e w' ⟨rfl, rfl⟩)
  go_ret2
  exact ⟨rfl, rfl⟩

theorem impl_int_uint16 (n u : Int) (f : Nat) (s : ByteArray) (w : World) (hn : -9223372036854775808 ≤ n ∧ n ≤ 9223372036854775807) (hu : 0 ≤ u ∧ u ≤ 18446744073709551615) :
    Calls Tryd.prog 17 #[anyOf 9 n u f s] w fun e w' => e = .returned (.tuple #[.int .i64 (IntKind.u16.wrap u), .bool true]) ∧ Below w.heap.size w w' := by
  have HV := fun w => Lib.hid (value_uint16 n u f s w hn hu)
  have b0 : 0 ≤ (IntKind.u16.wrap u) := by simp [wrap32, IntKind.wrap, IntKind.bits, IntKind.signed]; omega
  have b1 : (IntKind.u16.wrap u) ≤ 65535 := by simp [wrap32, IntKind.wrap, IntKind.bits, IntKind.signed]; omega
  have HE := fun w => Lib.hid (toE_int_uint16 (IntKind.u16.wrap u) b0 b1 w)
  clear hn hu
  unfold anyOf at HV ⊢
  generalize IntKind.u16.wrap u = c at HV HE b0 b1 ⊢
  go_enter Tryd.func17, Tryd.ntmps17
  go_wp2_with (first
    | (go_at_call 13; refine ((HV _).out).mono ?_; rintro e w1 ⟨rfl, hb0⟩; have hb1 : Below w.heap.size w w1 := ((Below.refl _ _).alloc (Nat.le_refl _) _).trans (hb0.mono (by simp)))
    | (go_at_call 39; refine ((HE _).out).mono ?_; rintro e w2 ⟨rfl, rfl⟩))
  go_quiet (fail)
  go_wp2
  go_ret2
  exact ⟨rfl, bdrew hb1 _⟩

theorem toNumber_int_uint32 (c : Int) (h0 : 0 ≤ c) (h1 : c ≤ 4294967295) (w : World) :
    Calls Tryd.prog 61 #[.iface 49 (.int .u32 c)] w fun e w' => e = .returned (.tuple #[.int .i64 c, .bool true]) ∧ w = w' := by
  have z0 := Tryd.no_int 49 (by decide) (.int .u32 c)
  have z1 := Tryd.no_int8 49 (by decide) (.int .u32 c)
  have z2 := Tryd.no_int16 49 (by decide) (.int .u32 c)
  have z3 := Tryd.no_int32 49 (by decide) (.int .u32 c)
  have z4 := Tryd.no_int64 49 (by decide) (.int .u32 c)
  have z5 := Tryd.no_uint 49 (by decide) (.int .u32 c)
  have z6 := Tryd.no_uint8 49 (by decide) (.int .u32 c)
  have z7 := Tryd.no_uint16 49 (by decide) (.int .u32 c)
  have z8 := Tryd.is_uint32 (.int .u32 c)
  go_enter Tryd.func61, Tryd.ntmps61
  go_wp2_with (go_at_call 41; refine (indirect_any 49 _ (by decide) (by decide) _).mono ?_; rintro e w' ⟨rfl, rfl⟩)
  go_ret2
  exact ⟨rfl, rfl⟩

theorem toNumberE_int_uint32 (c : Int) (h0 : 0 ≤ c) (h1 : c ≤ 4294967295) (pf : Value) (w : World) :
    Calls Tryd.prog 52 #[.iface 49 (.int .u32 c), pf] w fun e w' => e = .returned (.tuple #[.int .i64 c, .nilIface]) ∧ w = w' := by
  have H := fun w => Lib.hid (toNumber_int_uint32 c h0 h1 w)
  go_enter Tryd.func52, Tryd.ntmps52
  go_wp2_with (go_at_call 61; refine ((H _).out).mono ?_; rintro e w' ⟨rfl, rfl⟩)
  go_ret2
  exact ⟨rfl, rfl⟩

theorem toE_int_uint32 (c : Int) (h0 : 0 ≤ c) (h1 : c ≤ 4294967295) (w : World) :
    Calls Tryd.prog 39 #[.iface 49 (.int .u32 c)] w fun e w' => e = .returned (.tuple #[.int .i64 c, .nilIface]) ∧ w = w' := by
  have hmf : ∀ (fn : Fn) (first cap : Array Value) (w : World), (Instr.makeFunc fn first cap).run Tryd.prog w = .ok (.func fn first cap) w := fun _ _ _ _ => rfl
  have H := fun pf w => Lib.hid (toNumberE_int_uint32 c h0 h1 pf w)
  go_enter Tryd.func39, Tryd.ntmps39
  go_wp2_with (go_at_call 52; refine ((H _ _).out).mono ?_; rintro e w' ⟨rfl, rfl⟩)
  go_ret2
  exact ⟨rfl, rfl⟩

theorem impl_int_uint32 (n u : Int) (f : Nat) (s : ByteArray) (w : World) (hn : -9223372036854775808 ≤ n ∧ n ≤ 9223372036854775807) (hu : 0 ≤ u ∧ u ≤ 18446744073709551615) :
    Calls Tryd.prog 17 #[anyOf 10 n u f s] w fun e w' => e = .returned (.tuple #[.int .i64 (IntKind.u32.wrap u), .bool true]) ∧ Below w.heap.size w w' := by
  have HV := fun w => Lib.hid (value_uint32 n u f s w hn hu)
  have b0 : 0 ≤ (IntKind.u32.wrap u) := by simp [wrap32, IntKind.wrap, IntKind.bits, IntKind.signed]; omega
  have b1 : (IntKind.u32.wrap u) ≤ 4294967295 := by simp [wrap32, IntKind.wrap, IntKind.bits, IntKind.signed]; omega
  have HE := fun w => Lib.hid (toE_int_uint32 (IntKind.u32.wrap u) b0 b1 w)
  clear hn hu
  unfold anyOf at HV ⊢
  generalize IntKind.u32.wrap u = c at HV HE b0 b1 ⊢
  go_enter Tryd.func17, Tryd.ntmps17
  go_wp2_with (first
    | (go_at_call 13; refine ((HV _).out).mono ?_; rintro e w1 ⟨rfl, hb0⟩; have hb1 : Below w.heap.size w w1 := ((Below.refl _ _).alloc (Nat.le_refl _) _).trans (hb0.mono (by simp)))
    | (go_at_call 39; refine ((HE _).out).mono ?_; rintro e w2 ⟨rfl, rfl⟩))
  go_quiet (fail)
  go_wp2
  go_ret2
  exact ⟨rfl, bdrew hb1 _⟩

theorem toNumber_int_uint64 (c : Int) (h0 : 0 ≤ c) (h1 : c ≤ 18446744073709551615) (w : World) :
    Calls Tryd.prog 61 #[.iface 22 (.int .u64 c)] w fun e w' => e = .returned (.tuple #[.int .i64 (wrap64 c), .bool true]) ∧ w = w' := by
  have z0 := Tryd.no_int 22 (by decide) (.int .u64 c)
  have z1 := Tryd.no_int8 22 (by decide) (.int .u64 c)
  have z2 := Tryd.no_int16 22 (by decide) (.int .u64 c)
  have z3 := Tryd.no_int32 22 (by decide) (.int .u64 c)
  have z4 := Tryd.no_int64 22 (by decide) (.int .u64 c)
  have z5 := Tryd.no_uint 22 (by decide) (.int .u64 c)
  have z6 := Tryd.no_uint8 22 (by decide) (.int .u64 c)
  have z7 := Tryd.no_uint16 22 (by decide) (.int .u64 c)
  have z8 := Tryd.no_uint32 22 (by decide) (.int .u64 c)
  have z9 := Tryd.is_uint64 (.int .u64 c)
  go_enter Tryd.func61, Tryd.ntmps61
  go_wp2_with (go_at_call 41; refine (indirect_any 22 _ (by decide) (by decide) _).mono ?_; rintro e w' ⟨rfl, rfl⟩)
  go_ret2
  exact ⟨rfl, rfl⟩

theorem toNumberE_int_uint64 (c : Int) (h0 : 0 ≤ c) (h1 : c ≤ 18446744073709551615) (pf : Value) (w : World) :
    Calls Tryd.prog 52 #[.iface 22 (.int .u64 c), pf] w fun e w' => e = .returned (.tuple #[.int .i64 (wrap64 c), .nilIface]) ∧ w = w' := by
  have H := fun w => Lib.hid (toNumber_int_uint64 c h0 h1 w)
  go_enter Tryd.func52, Tryd.ntmps52
  go_wp2_with (go_at_call 61; refine ((H _).out).mono ?_; rintro e w' ⟨rfl, rfl⟩)
  go_ret2
  exact ⟨rfl, rfl⟩

theorem toE_int_uint64 (c : Int) (h0 : 0 ≤ c) (h1 : c ≤ 18446744073709551615) (w : World) :
    Calls Tryd.prog 39 #[.iface 22 (.int .u64 c)] w fun e w' => e = .returned (.tuple #[.int .i64 (wrap64 c), .nilIface]) ∧ w = w' := by
  have hmf : ∀ (fn : Fn) (first cap : Array Value) (w : World), (Instr.makeFunc fn first cap).run Tryd.prog w = .ok (.func fn first cap) w := fun _ _ _ _ => rfl
  have H := fun pf w => Lib.hid (toNumberE_int_uint64 c h0 h1 pf w)
  go_enter Tryd.func39, Tryd.ntmps39
  go_wp2_with (go_at_call 52; refine ((H _ _).out).mono ?_; rintro e w' ⟨rfl, rfl⟩)
  go_ret2
  exact ⟨rfl, rfl⟩

theorem impl_int_uint64 (n u : Int) (f : Nat) (s : ByteArray) (w : World) (hn : -9223372036854775808 ≤ n ∧ n ≤ 9223372036854775807) (hu : 0 ≤ u ∧ u ≤ 18446744073709551615) :
    Calls Tryd.prog 17 #[anyOf 11 n u f s] w fun e w' => e = .returned (.tuple #[.int .i64 (wrap64 u), .bool true]) ∧ Below w.heap.size w w' := by
  have HV := fun w => Lib.hid (value_uint64 n u f s w hn hu)
  have b0 : 0 ≤ u := by omega
  have b1 : u ≤ 18446744073709551615 := by omega
  have HE := fun w => Lib.hid (toE_int_uint64 u b0 b1 w)
  clear hn hu
  unfold anyOf at HV ⊢
  
  have e0 : -9223372036854775808 ≤ (wrap64 u) := by simp [wrap32, wrap64, IntKind.wrap, IntKind.bits, IntKind.signed]; omega
  have e1 : (wrap64 u) ≤ 9223372036854775807 := by simp [wrap32, wrap64, IntKind.wrap, IntKind.bits, IntKind.signed]; omega
  generalize (wrap64 u) = d at HE e0 e1 ⊢
  go_enter Tryd.func17, Tryd.ntmps17
  go_wp2_with (first
    | (go_at_call 13; refine ((HV _).out).mono ?_; rintro e w1 ⟨rfl, hb0⟩; have hb1 : Below w.heap.size w w1 := ((Below.refl _ _).alloc (Nat.le_refl _) _).trans (hb0.mono (by simp)))
    | (go_at_call 39; refine ((HE _).out).mono ?_; rintro e w2 ⟨rfl, rfl⟩))
  go_quiet (fail)
  go_wp2
  go_ret2
  exact ⟨rfl, bdrew hb1 _⟩

set_option maxRecDepth 100000 in
theorem toNumber_int_float32 {r : Nat} {z : Int} (hz : floatToIntVal .f32 r .i64 = some z) (w : World) :
    Calls Tryd.prog 61 #[(.iface 50 (.float .f32 r))] w fun e w' => e = .returned (.tuple #[.int .i64 z, .bool true]) ∧ w = w' := by
  have z0 := Tryd.no_int 50 (by decide) (.float .f32 r)
  have z1 := Tryd.no_int8 50 (by decide) (.float .f32 r)
  have z2 := Tryd.no_int16 50 (by decide) (.float .f32 r)
  have z3 := Tryd.no_int32 50 (by decide) (.float .f32 r)
  have z4 := Tryd.no_int64 50 (by decide) (.float .f32 r)
  have z5 := Tryd.no_uint 50 (by decide) (.float .f32 r)
  have z6 := Tryd.no_uint8 50 (by decide) (.float .f32 r)
  have z7 := Tryd.no_uint16 50 (by decide) (.float .f32 r)
  have z8 := Tryd.no_uint32 50 (by decide) (.float .f32 r)
  have z9 := Tryd.no_uint64 50 (by decide) (.float .f32 r)
  have z10 := Tryd.is_float32 (.float .f32 r)
  have hc : ∀ w, (convert 50 3 (.float .f32 r)).run Tryd.prog w = .ok (.int .i64 z) w := fun w => run_convert_float_int w _ _ .f32 .i64 r z (by rw [Tryd.underlying50]; rfl) Tryd.underlying3 hz
  clear hz
  go_enter Tryd.func61, Tryd.ntmps61
  go_wp2_with (go_at_call 41; refine (indirect_any 50 _ (by decide) (by decide) _).mono ?_; rintro e w' ⟨rfl, rfl⟩)
  go_ret2
  exact ⟨rfl, rfl⟩
set_option maxRecDepth 100000 in
theorem toE_int_float32 {r : Nat} {z : Int} (hz : floatToIntVal .f32 r .i64 = some z) (w : World) :
    Calls Tryd.prog 39 #[(.iface 50 (.float .f32 r))] w fun e w' => e = .returned (.tuple #[.int .i64 z, .nilIface]) ∧ w = w' := by
  have hmf : ∀ (fn : Fn) (first cap : Array Value) (w : World), (Instr.makeFunc fn first cap).run Tryd.prog w = .ok (.func fn first cap) w := fun _ _ _ _ => rfl
  have H := fun w => Lib.hid (toNumber_int_float32 hz w)
  have HE : ∀ (pf : Value) (w : World), Calls Tryd.prog 52 #[(.iface 50 (.float .f32 r)), pf] w fun e w' => e = .returned (.tuple #[.int .i64 z, .nilIface]) ∧ w = w' := by
    intro pf w
    go_enter Tryd.func52, Tryd.ntmps52
    go_wp2_with (go_at_call 61; refine ((H _).out).mono ?_; rintro e w' ⟨rfl, rfl⟩)
    go_ret2
    exact ⟨rfl, rfl⟩
  have HE := fun pf w => Lib.hid (HE pf w)
  clear H
  go_enter Tryd.func39, Tryd.ntmps39
  go_wp2_with (go_at_call 52; refine ((HE _ _).out).mono ?_; rintro e w' ⟨rfl, rfl⟩)
  go_ret2
  exact ⟨rfl, rfl⟩

set_option maxRecDepth 100000 in
theorem impl_int_float32 (n u : Int) (f : Nat) (s : ByteArray) (w : World) {r : Nat} {z : Int} (hr : floatToFloatBits .f64 f .f32 = some r) (hz : floatToIntVal .f32 r .i64 = some z) (h0 : -128 ≤ z) (h1 : z ≤ 127) :
    Calls Tryd.prog 17 #[anyOf 12 n u f s] w fun e w' => e = .returned (.tuple #[.int .i64 z, .bool true]) ∧ Below w.heap.size w w' := by
  have HV := fun w => Lib.hid (value_float32 n u f s w hr)
  have HE := fun w => Lib.hid (toE_int_float32 hz w)
  clear hz hr
  unfold anyOf at HV ⊢
  go_enter Tryd.func17, Tryd.ntmps17
  go_wp2_with (first
    | (go_at_call 13; refine ((HV _).out).mono ?_; rintro e w1 ⟨rfl, hb0⟩; have hb1 : Below w.heap.size w w1 := ((Below.refl _ _).alloc (Nat.le_refl _) _).trans (hb0.mono (by simp)))
    | (go_at_call 39; refine ((HE _).out).mono ?_; rintro e w2 ⟨rfl, rfl⟩))
  go_quiet (fail)
  go_wp2
  go_ret2
  exact ⟨rfl, bdrew hb1 _⟩

set_option maxRecDepth 100000 in
theorem toNumber_int_float64 {r : Nat} {z : Int} (hz : floatToIntVal .f64 r .i64 = some z) (w : World) :
    Calls Tryd.prog 61 #[(.iface 23 (.float .f64 r))] w fun e w' => e = .returned (.tuple #[.int .i64 z, .bool true]) ∧ w = w' := by
  have z0 := Tryd.no_int 23 (by decide) (.float .f64 r)
  have z1 := Tryd.no_int8 23 (by decide) (.float .f64 r)
  have z2 := Tryd.no_int16 23 (by decide) (.float .f64 r)
  have z3 := Tryd.no_int32 23 (by decide) (.float .f64 r)
  have z4 := Tryd.no_int64 23 (by decide) (.float .f64 r)
  have z5 := Tryd.no_uint 23 (by decide) (.float .f64 r)
  have z6 := Tryd.no_uint8 23 (by decide) (.float .f64 r)
  have z7 := Tryd.no_uint16 23 (by decide) (.float .f64 r)
  have z8 := Tryd.no_uint32 23 (by decide) (.float .f64 r)
  have z9 := Tryd.no_uint64 23 (by decide) (.float .f64 r)
  have z10 := Tryd.no_float32 23 (by decide) (.float .f64 r)
  have z11 := Tryd.is_float64 (.float .f64 r)
  have hc : ∀ w, (convert 23 3 (.float .f64 r)).run Tryd.prog w = .ok (.int .i64 z) w := fun w => run_convert_float_int w _ _ .f64 .i64 r z (by rw [Tryd.underlying23]; rfl) Tryd.underlying3 hz
  clear hz
  go_enter Tryd.func61, Tryd.ntmps61
  go_wp2_with (go_at_call 41; refine (indirect_any 23 _ (by decide) (by decide) _).mono ?_; rintro e w' ⟨rfl, rfl⟩)
  go_ret2
  exact ⟨rfl, rfl⟩
set_option maxRecDepth 100000 in
theorem toE_int_float64 {r : Nat} {z : Int} (hz : floatToIntVal .f64 r .i64 = some z) (w : World) :
    Calls Tryd.prog 39 #[(.iface 23 (.float .f64 r))] w fun e w' => e = .returned (.tuple #[.int .i64 z, .nilIface]) ∧ w = w' := by
  have hmf : ∀ (fn : Fn) (first cap : Array Value) (w : World), (Instr.makeFunc fn first cap).run Tryd.prog w = .ok (.func fn first cap) w := fun _ _ _ _ => rfl
  have H := fun w => Lib.hid (toNumber_int_float64 hz w)
  have HE : ∀ (pf : Value) (w : World), Calls Tryd.prog 52 #[(.iface 23 (.float .f64 r)), pf] w fun e w' => e = .returned (.tuple #[.int .i64 z, .nilIface]) ∧ w = w' := by
    intro pf w
    go_enter Tryd.func52, Tryd.ntmps52
    go_wp2_with (go_at_call 61; refine ((H _).out).mono ?_; rintro e w' ⟨rfl, rfl⟩)
    go_ret2
    exact ⟨rfl, rfl⟩
  have HE := fun pf w => Lib.hid (HE pf w)
  clear H
  go_enter Tryd.func39, Tryd.ntmps39
  go_wp2_with (go_at_call 52; refine ((HE _ _).out).mono ?_; rintro e w' ⟨rfl, rfl⟩)
  go_ret2
  exact ⟨rfl, rfl⟩

set_option maxRecDepth 100000 in
theorem impl_int_float64 (n u : Int) (f : Nat) (s : ByteArray) (w : World) {z : Int} (hn : -9223372036854775808 ≤ n ∧ n ≤ 9223372036854775807) (hu : 0 ≤ u ∧ u ≤ 18446744073709551615) (hz : floatToIntVal .f64 f .i64 = some z) (h0 : -128 ≤ z) (h1 : z ≤ 127) :
    Calls Tryd.prog 17 #[anyOf 13 n u f s] w fun e w' => e = .returned (.tuple #[.int .i64 z, .bool true]) ∧ Below w.heap.size w w' := by
  have HV := fun w => Lib.hid (value_float64 n u f s w (show -9223372036854775808 ≤ n ∧ n ≤ 9223372036854775807 from hn) hu)
  have HE := fun w => Lib.hid (toE_int_float64 hz w)
  clear hz hn hu
  unfold anyOf at HV ⊢
  go_enter Tryd.func17, Tryd.ntmps17
  go_wp2_with (first
    | (go_at_call 13; refine ((HV _).out).mono ?_; rintro e w1 ⟨rfl, hb0⟩; have hb1 : Below w.heap.size w w1 := ((Below.refl _ _).alloc (Nat.le_refl _) _).trans (hb0.mono (by simp)))
    | (go_at_call 39; refine ((HE _).out).mono ?_; rintro e w2 ⟨rfl, rfl⟩))
  go_quiet (fail)
  go_wp2
  go_ret2
  exact ⟨rfl, bdrew hb1 _⟩
end Go.Proofs.YtbcknchbighieaaDoor.E
