/- cast's numbers: toNumber, toNumberE, the forms with an error and the doors, each at a source kind, over this seat's program. Written by gen_castnum.py. -/
import Derived.Test.YtbdheiepiolfhaaDoorCastK
namespace Go.Proofs.YtbdheiepiolfhaaDoor.E
open Go.RowKit
set_option linter.unusedVariables false
set_option linter.unusedSimpArgs false

theorem toNumber_int_int (c : Int) (h0 : -9223372036854775808 ≤ c) (h1 : c ≤ 9223372036854775807) (w : World) :
    Calls Tryd.prog 118 #[.iface 3 (.int .i64 c)] w fun e w' => e = .returned (.tuple #[.int .i64 c, .bool true]) ∧ w = w' := by
  have z0 := Tryd.is_int (.int .i64 c)
  go_enter Tryd.func118, Tryd.ntmps118
  go_wp2_with (go_at_call 49; refine (indirect_any 3 _ (by decide) (by decide) _).mono ?_; rintro e w' ⟨rfl, rfl⟩)
  go_ret2
  exact ⟨rfl, rfl⟩

theorem toNumberE_int_int (c : Int) (h0 : -9223372036854775808 ≤ c) (h1 : c ≤ 9223372036854775807) (pf : Value) (w : World) :
    Calls Tryd.prog 92 #[.iface 3 (.int .i64 c), pf] w fun e w' => e = .returned (.tuple #[.int .i64 c, .nilIface]) ∧ w = w' := by
  have H := fun w => Lib.hid (toNumber_int_int c h0 h1 w)
  go_enter Tryd.func92, Tryd.ntmps92
  go_wp2_with (go_at_call 118; refine ((H _).out).mono ?_; rintro e w' ⟨rfl, rfl⟩)
  go_ret2
  exact ⟨rfl, rfl⟩

theorem toE_int_int (c : Int) (h0 : -9223372036854775808 ≤ c) (h1 : c ≤ 9223372036854775807) (w : World) :
    Calls Tryd.prog 71 #[.iface 3 (.int .i64 c)] w fun e w' => e = .returned (.tuple #[.int .i64 c, .nilIface]) ∧ w = w' := by
  have hmf : ∀ (fn : Fn) (first cap : Array Value) (w : World), (Instr.makeFunc fn first cap).run Tryd.prog w = .ok (.func fn first cap) w := fun _ _ _ _ => rfl
  have H := fun pf w => Lib.hid (toNumberE_int_int c h0 h1 pf w)
  go_enter Tryd.func71, Tryd.ntmps71
  go_wp2_with (go_at_call 92; refine ((H _ _).out).mono ?_; rintro e w' ⟨rfl, rfl⟩)
  go_ret2
  exact ⟨rfl, rfl⟩

theorem impl_int_int (n u : Int) (f : Nat) (s : ByteArray) (w : World) (hn : -9223372036854775808 ≤ n ∧ n ≤ 9223372036854775807) (hu : 0 ≤ u ∧ u ≤ 18446744073709551615) :
    Calls Tryd.prog 35 #[anyOf 2 n u f s] w fun e w' => e = .returned (.tuple #[.int .i64 n, .bool true]) ∧ Below w.heap.size w w' := by
  have HV := fun w => Lib.hid (value_int n u f s w hn hu)
  have b0 : -9223372036854775808 ≤ n := by omega
  have b1 : n ≤ 9223372036854775807 := by omega
  have HE := fun w => Lib.hid (toE_int_int n b0 b1 w)
  clear hn hu
  unfold anyOf at HV ⊢
  
  go_enter Tryd.func35, Tryd.ntmps35
  go_wp2_with (first
    | (go_at_call 26; refine ((HV _).out).mono ?_; rintro e w1 ⟨rfl, hb0⟩; have hb1 : Below w.heap.size w w1 := ((Below.refl _ _).alloc (Nat.le_refl _) _).trans (hb0.mono (by simp)))
    | (go_at_call 71; refine ((HE _).out).mono ?_; rintro e w2 ⟨rfl, rfl⟩))
  go_quiet (fail)
  go_wp2
  go_ret2
  exact ⟨rfl, bdrew hb1 _⟩

theorem toNumber_int8_int8 (c : Int) (h0 : -128 ≤ c) (h1 : c ≤ 127) (w : World) :
    Calls Tryd.prog 115 #[.iface 66 (.int .i8 c)] w fun e w' => e = .returned (.tuple #[.int .i8 c, .bool true]) ∧ w = w' := by
  have z0 := Tryd.is_int8 (.int .i8 c)
  go_enter Tryd.func115, Tryd.ntmps115
  go_wp2_with (go_at_call 49; refine (indirect_any 66 _ (by decide) (by decide) _).mono ?_; rintro e w' ⟨rfl, rfl⟩)
  go_ret2
  exact ⟨rfl, rfl⟩

theorem toNumberE_int8_int8 (c : Int) (h0 : -128 ≤ c) (h1 : c ≤ 127) (pf : Value) (w : World) :
    Calls Tryd.prog 86 #[.iface 66 (.int .i8 c), pf] w fun e w' => e = .returned (.tuple #[.int .i8 c, .nilIface]) ∧ w = w' := by
  have H := fun w => Lib.hid (toNumber_int8_int8 c h0 h1 w)
  go_enter Tryd.func86, Tryd.ntmps86
  go_wp2_with (go_at_call 115; refine ((H _).out).mono ?_; rintro e w' ⟨rfl, rfl⟩)
  go_ret2
  exact ⟨rfl, rfl⟩

theorem toE_int8_int8 (c : Int) (h0 : -128 ≤ c) (h1 : c ≤ 127) (w : World) :
    Calls Tryd.prog 68 #[.iface 66 (.int .i8 c)] w fun e w' => e = .returned (.tuple #[.int .i8 c, .nilIface]) ∧ w = w' := by
  have hmf : ∀ (fn : Fn) (first cap : Array Value) (w : World), (Instr.makeFunc fn first cap).run Tryd.prog w = .ok (.func fn first cap) w := fun _ _ _ _ => rfl
  have H := fun pf w => Lib.hid (toNumberE_int8_int8 c h0 h1 pf w)
  go_enter Tryd.func68, Tryd.ntmps68
  go_wp2_with (go_at_call 86; refine ((H _ _).out).mono ?_; rintro e w' ⟨rfl, rfl⟩)
  go_ret2
  exact ⟨rfl, rfl⟩

theorem impl_int8_int8 (n u : Int) (f : Nat) (s : ByteArray) (w : World) (hn : -9223372036854775808 ≤ n ∧ n ≤ 9223372036854775807) (hu : 0 ≤ u ∧ u ≤ 18446744073709551615) :
    Calls Tryd.prog 32 #[anyOf 3 n u f s] w fun e w' => e = .returned (.tuple #[.int .i64 (IntKind.i8.wrap n), .bool true]) ∧ Below w.heap.size w w' := by
  have HV := fun w => Lib.hid (value_int8 n u f s w hn hu)
  have b0 : -128 ≤ (IntKind.i8.wrap n) := by simp [wrap32, IntKind.wrap, IntKind.bits, IntKind.signed]; omega
  have b1 : (IntKind.i8.wrap n) ≤ 127 := by simp [wrap32, IntKind.wrap, IntKind.bits, IntKind.signed]; omega
  have HE := fun w => Lib.hid (toE_int8_int8 (IntKind.i8.wrap n) b0 b1 w)
  clear hn hu
  unfold anyOf at HV ⊢
  generalize IntKind.i8.wrap n = c at HV HE b0 b1 ⊢
  go_enter Tryd.func32, Tryd.ntmps32
  go_wp2_with (first
    | (go_at_call 26; refine ((HV _).out).mono ?_; rintro e w1 ⟨rfl, hb0⟩; have hb1 : Below w.heap.size w w1 := ((Below.refl _ _).alloc (Nat.le_refl _) _).trans (hb0.mono (by simp)))
    | (go_at_call 68; refine ((HE _).out).mono ?_; rintro e w2 ⟨rfl, rfl⟩))
  go_quiet (fail)
  go_wp2
  go_ret2
  exact ⟨rfl, bdrew hb1 _⟩

theorem toNumber_int16_int16 (c : Int) (h0 : -32768 ≤ c) (h1 : c ≤ 32767) (w : World) :
    Calls Tryd.prog 116 #[.iface 67 (.int .i16 c)] w fun e w' => e = .returned (.tuple #[.int .i16 c, .bool true]) ∧ w = w' := by
  have z0 := Tryd.is_int16 (.int .i16 c)
  go_enter Tryd.func116, Tryd.ntmps116
  go_wp2_with (go_at_call 49; refine (indirect_any 67 _ (by decide) (by decide) _).mono ?_; rintro e w' ⟨rfl, rfl⟩)
  go_ret2
  exact ⟨rfl, rfl⟩

theorem toNumberE_int16_int16 (c : Int) (h0 : -32768 ≤ c) (h1 : c ≤ 32767) (pf : Value) (w : World) :
    Calls Tryd.prog 88 #[.iface 67 (.int .i16 c), pf] w fun e w' => e = .returned (.tuple #[.int .i16 c, .nilIface]) ∧ w = w' := by
  have H := fun w => Lib.hid (toNumber_int16_int16 c h0 h1 w)
  go_enter Tryd.func88, Tryd.ntmps88
  go_wp2_with (go_at_call 116; refine ((H _).out).mono ?_; rintro e w' ⟨rfl, rfl⟩)
  go_ret2
  exact ⟨rfl, rfl⟩

theorem toE_int16_int16 (c : Int) (h0 : -32768 ≤ c) (h1 : c ≤ 32767) (w : World) :
    Calls Tryd.prog 69 #[.iface 67 (.int .i16 c)] w fun e w' => e = .returned (.tuple #[.int .i16 c, .nilIface]) ∧ w = w' := by
  have hmf : ∀ (fn : Fn) (first cap : Array Value) (w : World), (Instr.makeFunc fn first cap).run Tryd.prog w = .ok (.func fn first cap) w := fun _ _ _ _ => rfl
  have H := fun pf w => Lib.hid (toNumberE_int16_int16 c h0 h1 pf w)
  go_enter Tryd.func69, Tryd.ntmps69
  go_wp2_with (go_at_call 88; refine ((H _ _).out).mono ?_; rintro e w' ⟨rfl, rfl⟩)
  go_ret2
  exact ⟨rfl, rfl⟩

theorem impl_int16_int16 (n u : Int) (f : Nat) (s : ByteArray) (w : World) (hn : -9223372036854775808 ≤ n ∧ n ≤ 9223372036854775807) (hu : 0 ≤ u ∧ u ≤ 18446744073709551615) :
    Calls Tryd.prog 33 #[anyOf 4 n u f s] w fun e w' => e = .returned (.tuple #[.int .i64 (IntKind.i16.wrap n), .bool true]) ∧ Below w.heap.size w w' := by
  have HV := fun w => Lib.hid (value_int16 n u f s w hn hu)
  have b0 : -32768 ≤ (IntKind.i16.wrap n) := by simp [wrap32, IntKind.wrap, IntKind.bits, IntKind.signed]; omega
  have b1 : (IntKind.i16.wrap n) ≤ 32767 := by simp [wrap32, IntKind.wrap, IntKind.bits, IntKind.signed]; omega
  have HE := fun w => Lib.hid (toE_int16_int16 (IntKind.i16.wrap n) b0 b1 w)
  clear hn hu
  unfold anyOf at HV ⊢
  generalize IntKind.i16.wrap n = c at HV HE b0 b1 ⊢
  go_enter Tryd.func33, Tryd.ntmps33
  go_wp2_with (first
    | (go_at_call 26; refine ((HV _).out).mono ?_; rintro e w1 ⟨rfl, hb0⟩; have hb1 : Below w.heap.size w w1 := ((Below.refl _ _).alloc (Nat.le_refl _) _).trans (hb0.mono (by simp)))
    | (go_at_call 69; refine ((HE _).out).mono ?_; rintro e w2 ⟨rfl, rfl⟩))
  go_quiet (fail)
  go_wp2
  go_ret2
  exact ⟨rfl, bdrew hb1 _⟩

theorem toNumber_int32_int32 (c : Int) (h0 : -2147483648 ≤ c) (h1 : c ≤ 2147483647) (w : World) :
    Calls Tryd.prog 117 #[.iface 21 (.int .i32 c)] w fun e w' => e = .returned (.tuple #[.int .i32 c, .bool true]) ∧ w = w' := by
  have z0 := Tryd.is_int32 (.int .i32 c)
  go_enter Tryd.func117, Tryd.ntmps117
  go_wp2_with (go_at_call 49; refine (indirect_any 21 _ (by decide) (by decide) _).mono ?_; rintro e w' ⟨rfl, rfl⟩)
  go_ret2
  exact ⟨rfl, rfl⟩

theorem toNumberE_int32_int32 (c : Int) (h0 : -2147483648 ≤ c) (h1 : c ≤ 2147483647) (pf : Value) (w : World) :
    Calls Tryd.prog 90 #[.iface 21 (.int .i32 c), pf] w fun e w' => e = .returned (.tuple #[.int .i32 c, .nilIface]) ∧ w = w' := by
  have H := fun w => Lib.hid (toNumber_int32_int32 c h0 h1 w)
  go_enter Tryd.func90, Tryd.ntmps90
  go_wp2_with (go_at_call 117; refine ((H _).out).mono ?_; rintro e w' ⟨rfl, rfl⟩)
  go_ret2
  exact ⟨rfl, rfl⟩

theorem toE_int32_int32 (c : Int) (h0 : -2147483648 ≤ c) (h1 : c ≤ 2147483647) (w : World) :
    Calls Tryd.prog 70 #[.iface 21 (.int .i32 c)] w fun e w' => e = .returned (.tuple #[.int .i32 c, .nilIface]) ∧ w = w' := by
  have hmf : ∀ (fn : Fn) (first cap : Array Value) (w : World), (Instr.makeFunc fn first cap).run Tryd.prog w = .ok (.func fn first cap) w := fun _ _ _ _ => rfl
  have H := fun pf w => Lib.hid (toNumberE_int32_int32 c h0 h1 pf w)
  go_enter Tryd.func70, Tryd.ntmps70
  go_wp2_with (go_at_call 90; refine ((H _ _).out).mono ?_; rintro e w' ⟨rfl, rfl⟩)
  go_ret2
  exact ⟨rfl, rfl⟩

theorem impl_int32_int32 (n u : Int) (f : Nat) (s : ByteArray) (w : World) (hn : -9223372036854775808 ≤ n ∧ n ≤ 9223372036854775807) (hu : 0 ≤ u ∧ u ≤ 18446744073709551615) :
    Calls Tryd.prog 34 #[anyOf 5 n u f s] w fun e w' => e = .returned (.tuple #[.int .i64 (wrap32 n), .bool true]) ∧ Below w.heap.size w w' := by
  have HV := fun w => Lib.hid (value_int32 n u f s w hn hu)
  have b0 : -2147483648 ≤ (wrap32 n) := by simp [wrap32, IntKind.wrap, IntKind.bits, IntKind.signed]; omega
  have b1 : (wrap32 n) ≤ 2147483647 := by simp [wrap32, IntKind.wrap, IntKind.bits, IntKind.signed]; omega
  have HE := fun w => Lib.hid (toE_int32_int32 (wrap32 n) b0 b1 w)
  clear hn hu
  unfold anyOf at HV ⊢
  generalize wrap32 n = c at HV HE b0 b1 ⊢
  go_enter Tryd.func34, Tryd.ntmps34
  go_wp2_with (first
    | (go_at_call 26; refine ((HV _).out).mono ?_; rintro e w1 ⟨rfl, hb0⟩; have hb1 : Below w.heap.size w w1 := ((Below.refl _ _).alloc (Nat.le_refl _) _).trans (hb0.mono (by simp)))
    | (go_at_call 70; refine ((HE _).out).mono ?_; rintro e w2 ⟨rfl, rfl⟩))
  go_quiet (fail)
  go_wp2
  go_ret2
  exact ⟨rfl, bdrew hb1 _⟩

theorem toNumber_int64_int64 (c : Int) (h0 : -9223372036854775808 ≤ c) (h1 : c ≤ 9223372036854775807) (w : World) :
    Calls Tryd.prog 94 #[.iface 2 (.int .i64 c)] w fun e w' => e = .returned (.tuple #[.int .i64 c, .bool true]) ∧ w = w' := by
  have z0 := Tryd.is_int64 (.int .i64 c)
  go_enter Tryd.func94, Tryd.ntmps94
  go_wp2_with (go_at_call 49; refine (indirect_any 2 _ (by decide) (by decide) _).mono ?_; rintro e w' ⟨rfl, rfl⟩)
  go_ret2
  exact ⟨rfl, rfl⟩

theorem toNumberE_int64_int64 (c : Int) (h0 : -9223372036854775808 ≤ c) (h1 : c ≤ 9223372036854775807) (pf : Value) (w : World) :
    Calls Tryd.prog 72 #[.iface 2 (.int .i64 c), pf] w fun e w' => e = .returned (.tuple #[.int .i64 c, .nilIface]) ∧ w = w' := by
  have H := fun w => Lib.hid (toNumber_int64_int64 c h0 h1 w)
  go_enter Tryd.func72, Tryd.ntmps72
  go_wp2_with (go_at_call 94; refine ((H _).out).mono ?_; rintro e w' ⟨rfl, rfl⟩)
  go_ret2
  exact ⟨rfl, rfl⟩

theorem toE_int64_int64 (c : Int) (h0 : -9223372036854775808 ≤ c) (h1 : c ≤ 9223372036854775807) (w : World) :
    Calls Tryd.prog 37 #[.iface 2 (.int .i64 c)] w fun e w' => e = .returned (.tuple #[.int .i64 c, .nilIface]) ∧ w = w' := by
  have hmf : ∀ (fn : Fn) (first cap : Array Value) (w : World), (Instr.makeFunc fn first cap).run Tryd.prog w = .ok (.func fn first cap) w := fun _ _ _ _ => rfl
  have H := fun pf w => Lib.hid (toNumberE_int64_int64 c h0 h1 pf w)
  go_enter Tryd.func37, Tryd.ntmps37
  go_wp2_with (go_at_call 72; refine ((H _ _).out).mono ?_; rintro e w' ⟨rfl, rfl⟩)
  go_ret2
  exact ⟨rfl, rfl⟩

theorem impl_int64_int64 (n u : Int) (f : Nat) (s : ByteArray) (w : World) (hn : -9223372036854775808 ≤ n ∧ n ≤ 9223372036854775807) (hu : 0 ≤ u ∧ u ≤ 18446744073709551615) :
    Calls Tryd.prog 19 #[anyOf 6 n u f s] w fun e w' => e = .returned (.tuple #[.int .i64 n, .bool true]) ∧ Below w.heap.size w w' := by
  have HV := fun w => Lib.hid (value_int64 n u f s w hn hu)
  have b0 : -9223372036854775808 ≤ n := by omega
  have b1 : n ≤ 9223372036854775807 := by omega
  have HE := fun w => Lib.hid (toE_int64_int64 n b0 b1 w)
  clear hn hu
  unfold anyOf at HV ⊢
  
  go_enter Tryd.func19, Tryd.ntmps19
  go_wp2_with (first
    | (go_at_call 26; refine ((HV _).out).mono ?_; rintro e w1 ⟨rfl, hb0⟩; have hb1 : Below w.heap.size w w1 := ((Below.refl _ _).alloc (Nat.le_refl _) _).trans (hb0.mono (by simp)))
    | (go_at_call 37; refine ((HE _).out).mono ?_; rintro e w2 ⟨rfl, rfl⟩))
  go_quiet (fail)
  go_wp2
  go_ret2
  exact ⟨rfl, bdrew hb1 _⟩
end Go.Proofs.YtbdheiepiolfhaaDoor.E
