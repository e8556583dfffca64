/- The walk of laws.FnCastIntFloat, over this seat's program. Written by gen_castfloat.py. -/
import Derived.Test.YtcelhnnnaakkeaaDoorCastK
import Derived.Laws.FloatBits
namespace Go.Proofs.YtcelhnnnaakkeaaDoor.E
open Go.RowKit
set_option linter.unusedVariables false
set_option linter.unusedSimpArgs false

/-- A datum that is no NaN is as great as itself. -/
theorem order_self (d : Ieee.Datum) (h : d.isNaN = false) : d.order d = some .eq := by
  cases d with
  | number s m e => simp [Ieee.Datum.order]
  | infinity s => cases s <;> rfl
  | nan s t => cases h
theorem read_word (f : Ieee.Format) (neg : Bool) (r : Nat) (h : r ≤ f.infRung) : (f.read (f.word neg r)).isNaN = false := by
  have hs : r < f.signWeight := Nat.lt_of_le_of_lt h f.infRung_lt
  have hm : f.word neg r % f.signWeight = r := by
    unfold Ieee.Format.word
    split
    · rw [Nat.add_mod_left, Nat.mod_eq_of_lt hs]
    · exact Nat.mod_eq_of_lt hs
  unfold Ieee.Format.read
  simp only [hm]
  split
  · rfl
  · split
    · rfl
    · split
      · rfl
      · omega
theorem nearest_is (f : Ieee.Format) (neg : Bool) (mag : Nat) (place : Int) : (f.read (f.nearest neg mag place)).isNaN = false := by
  unfold Ieee.Format.nearest
  dsimp only
  split
  · exact read_word f neg 0 (Nat.zero_le _)
  · exact read_word f neg _ (Nat.min_le_right ..)
theorem order_int (k : FloatKind) (n : Int) : k.format.order (k.nearest n) (floatOfInt k n) = some .eq := by
  show k.format.order (k.nearest n) (k.nearest n) = some .eq
  unfold Ieee.Format.order
  exact order_self _ (by first | exact nearest_is _ _ _ _ | (unfold FloatKind.nearest FloatKind.encode; exact nearest_is _ _ _ _))
/-- An integer's float is itself. -/
theorem floatEq_int (k : FloatKind) (n : Int) : Op.floatEq k (k.nearest n) (k.nearest n) = true := by
  unfold Op.floatEq Ieee.Format.order
  rw [order_self _ (by first | exact nearest_is _ _ _ _ | (unfold FloatKind.nearest FloatKind.encode; exact nearest_is _ _ _ _))]
  rfl

theorem toNumber_f64_int (c : Int) (w : World) :
    Calls Tryd.prog 84 #[.iface 3 (.int .i64 c)] w fun e w' => e = .returned (.tuple #[.float .f64 (FloatKind.f64.nearest c), .bool true]) ∧ w = w' := by
  have z0 := Tryd.no_float64 3 (by decide) (.int .i64 c)
  have z1 := Tryd.is_int (.int .i64 c)
  go_enter Tryd.func84, Tryd.ntmps84
  go_wp2_with (go_at_call 41; refine (indirect_any 3 _ (by decide) (by decide) _).mono ?_; rintro e w' ⟨rfl, rfl⟩)
  go_ret2
  exact ⟨rfl, rfl⟩

theorem toNumberE_f64_int (c : Int) (pf : Value) (w : World) :
    Calls Tryd.prog 66 #[.iface 3 (.int .i64 c), pf] w fun e w' => e = .returned (.tuple #[.float .f64 (FloatKind.f64.nearest c), .nilIface]) ∧ w = w' := by
  have H := fun w => Lib.hid (toNumber_f64_int c w)
  go_enter Tryd.func66, Tryd.ntmps66
  go_wp2_with (go_at_call 84; refine ((H _).out).mono ?_; rintro e w' ⟨rfl, rfl⟩)
  go_ret2
  exact ⟨rfl, rfl⟩

theorem toE_f64_int (c : Int) (w : World) :
    Calls Tryd.prog 35 #[.iface 3 (.int .i64 c)] w fun e w' => e = .returned (.tuple #[.float .f64 (FloatKind.f64.nearest c), .nilIface]) ∧ w = w' := by
  have hmf : ∀ (fn : Fn) (first cap : Array Value) (w : World), (Instr.makeFunc fn first cap).run Tryd.prog w = .ok (.func fn first cap) w := fun _ _ _ _ => rfl
  have H := fun pf w => Lib.hid (toNumberE_f64_int c pf w)
  go_enter Tryd.func35, Tryd.ntmps35
  go_wp2_with (go_at_call 66; refine ((H _ _).out).mono ?_; rintro e w' ⟨rfl, rfl⟩)
  go_ret2
  exact ⟨rfl, rfl⟩

theorem impl_f64_int (n u : Int) (f : Nat) (s : ByteArray) (w : World) (hn : -9223372036854775808 ≤ n ∧ n ≤ 9223372036854775807) (hu : 0 ≤ u ∧ u ≤ 18446744073709551615) :
    Calls Tryd.prog 20 #[anyOf 2 n u f s] w fun e w' => e = .returned (.tuple #[.float .f64 (FloatKind.f64.nearest n), .bool true]) ∧ Below w.heap.size w w' := by
  have HV := fun w => Lib.hid (value_int n u f s w hn hu)
  have HE := fun w => Lib.hid (toE_f64_int n w)
  clear hn hu
  unfold anyOf at HV ⊢
  generalize FloatKind.f64.nearest n = F at HE ⊢
  
  go_enter Tryd.func20, Tryd.ntmps20
  go_wp2_with (first
    | (go_at_call 23; refine ((HV _).out).mono ?_; rintro e w1 ⟨rfl, hb0⟩; have hb1 : Below w.heap.size w w1 := ((Below.refl _ _).alloc (Nat.le_refl _) _).trans (hb0.mono (by simp)))
    | (go_at_call 35; refine ((HE _).out).mono ?_; rintro e w2 ⟨rfl, rfl⟩))
  go_quiet (fail)
  go_wp2
  go_ret2
  exact ⟨rfl, bdrew hb1 _⟩

theorem toNumber_f64_int8 (c : Int) (w : World) :
    Calls Tryd.prog 84 #[.iface 65 (.int .i8 c)] w fun e w' => e = .returned (.tuple #[.float .f64 (FloatKind.f64.nearest c), .bool true]) ∧ w = w' := by
  have z0 := Tryd.no_float64 65 (by decide) (.int .i8 c)
  have z1 := Tryd.no_int 65 (by decide) (.int .i8 c)
  have z2 := Tryd.is_int8 (.int .i8 c)
  go_enter Tryd.func84, Tryd.ntmps84
  go_wp2_with (go_at_call 41; refine (indirect_any 65 _ (by decide) (by decide) _).mono ?_; rintro e w' ⟨rfl, rfl⟩)
  go_ret2
  exact ⟨rfl, rfl⟩

theorem toNumberE_f64_int8 (c : Int) (pf : Value) (w : World) :
    Calls Tryd.prog 66 #[.iface 65 (.int .i8 c), pf] w fun e w' => e = .returned (.tuple #[.float .f64 (FloatKind.f64.nearest c), .nilIface]) ∧ w = w' := by
  have H := fun w => Lib.hid (toNumber_f64_int8 c w)
  go_enter Tryd.func66, Tryd.ntmps66
  go_wp2_with (go_at_call 84; refine ((H _).out).mono ?_; rintro e w' ⟨rfl, rfl⟩)
  go_ret2
  exact ⟨rfl, rfl⟩

theorem toE_f64_int8 (c : Int) (w : World) :
    Calls Tryd.prog 35 #[.iface 65 (.int .i8 c)] w fun e w' => e = .returned (.tuple #[.float .f64 (FloatKind.f64.nearest c), .nilIface]) ∧ w = w' := by
  have hmf : ∀ (fn : Fn) (first cap : Array Value) (w : World), (Instr.makeFunc fn first cap).run Tryd.prog w = .ok (.func fn first cap) w := fun _ _ _ _ => rfl
  have H := fun pf w => Lib.hid (toNumberE_f64_int8 c pf w)
  go_enter Tryd.func35, Tryd.ntmps35
  go_wp2_with (go_at_call 66; refine ((H _ _).out).mono ?_; rintro e w' ⟨rfl, rfl⟩)
  go_ret2
  exact ⟨rfl, rfl⟩

theorem impl_f64_int8 (n u : Int) (f : Nat) (s : ByteArray) (w : World) (hn : -9223372036854775808 ≤ n ∧ n ≤ 9223372036854775807) (hu : 0 ≤ u ∧ u ≤ 18446744073709551615) :
    Calls Tryd.prog 20 #[anyOf 3 n u f s] w fun e w' => e = .returned (.tuple #[.float .f64 (FloatKind.f64.nearest (IntKind.i8.wrap n)), .bool true]) ∧ Below w.heap.size w w' := by
  have HV := fun w => Lib.hid (value_int8 n u f s w hn hu)
  have HE := fun w => Lib.hid (toE_f64_int8 (IntKind.i8.wrap n) w)
  clear hn hu
  unfold anyOf at HV ⊢
  generalize FloatKind.f64.nearest (IntKind.i8.wrap n) = F at HE ⊢
  generalize IntKind.i8.wrap n = c at HV HE
  go_enter Tryd.func20, Tryd.ntmps20
  go_wp2_with (first
    | (go_at_call 23; refine ((HV _).out).mono ?_; rintro e w1 ⟨rfl, hb0⟩; have hb1 : Below w.heap.size w w1 := ((Below.refl _ _).alloc (Nat.le_refl _) _).trans (hb0.mono (by simp)))
    | (go_at_call 35; refine ((HE _).out).mono ?_; rintro e w2 ⟨rfl, rfl⟩))
  go_quiet (fail)
  go_wp2
  go_ret2
  exact ⟨rfl, bdrew hb1 _⟩

theorem toNumber_f64_int16 (c : Int) (w : World) :
    Calls Tryd.prog 84 #[.iface 66 (.int .i16 c)] w fun e w' => e = .returned (.tuple #[.float .f64 (FloatKind.f64.nearest c), .bool true]) ∧ w = w' := by
  have z0 := Tryd.no_float64 66 (by decide) (.int .i16 c)
  have z1 := Tryd.no_int 66 (by decide) (.int .i16 c)
  have z2 := Tryd.no_int8 66 (by decide) (.int .i16 c)
  have z3 := Tryd.is_int16 (.int .i16 c)
  go_enter Tryd.func84, Tryd.ntmps84
  go_wp2_with (go_at_call 41; refine (indirect_any 66 _ (by decide) (by decide) _).mono ?_; rintro e w' ⟨rfl, rfl⟩)
  go_ret2
  exact ⟨rfl, rfl⟩

theorem toNumberE_f64_int16 (c : Int) (pf : Value) (w : World) :
    Calls Tryd.prog 66 #[.iface 66 (.int .i16 c), pf] w fun e w' => e = .returned (.tuple #[.float .f64 (FloatKind.f64.nearest c), .nilIface]) ∧ w = w' := by
  have H := fun w => Lib.hid (toNumber_f64_int16 c w)
  go_enter Tryd.func66, Tryd.ntmps66
  go_wp2_with (go_at_call 84; refine ((H _).out).mono ?_; rintro e w' ⟨rfl, rfl⟩)
  go_ret2
  exact ⟨rfl, rfl⟩

theorem toE_f64_int16 (c : Int) (w : World) :
    Calls Tryd.prog 35 #[.iface 66 (.int .i16 c)] w fun e w' => e = .returned (.tuple #[.float .f64 (FloatKind.f64.nearest c), .nilIface]) ∧ w = w' := by
  have hmf : ∀ (fn : Fn) (first cap : Array Value) (w : World), (Instr.makeFunc fn first cap).run Tryd.prog w = .ok (.func fn first cap) w := fun _ _ _ _ => rfl
  have H := fun pf w => Lib.hid (toNumberE_f64_int16 c pf w)
  go_enter Tryd.func35, Tryd.ntmps35
  go_wp2_with (go_at_call 66; refine ((H _ _).out).mono ?_; rintro e w' ⟨rfl, rfl⟩)
  go_ret2
  exact ⟨rfl, rfl⟩

theorem impl_f64_int16 (n u : Int) (f : Nat) (s : ByteArray) (w : World) (hn : -9223372036854775808 ≤ n ∧ n ≤ 9223372036854775807) (hu : 0 ≤ u ∧ u ≤ 18446744073709551615) :
    Calls Tryd.prog 20 #[anyOf 4 n u f s] w fun e w' => e = .returned (.tuple #[.float .f64 (FloatKind.f64.nearest (IntKind.i16.wrap n)), .bool true]) ∧ Below w.heap.size w w' := by
  have HV := fun w => Lib.hid (value_int16 n u f s w hn hu)
  have HE := fun w => Lib.hid (toE_f64_int16 (IntKind.i16.wrap n) w)
  clear hn hu
  unfold anyOf at HV ⊢
  generalize FloatKind.f64.nearest (IntKind.i16.wrap n) = F at HE ⊢
  generalize IntKind.i16.wrap n = c at HV HE
  go_enter Tryd.func20, Tryd.ntmps20
  go_wp2_with (first
    | (go_at_call 23; refine ((HV _).out).mono ?_; rintro e w1 ⟨rfl, hb0⟩; have hb1 : Below w.heap.size w w1 := ((Below.refl _ _).alloc (Nat.le_refl _) _).trans (hb0.mono (by simp)))
    | (go_at_call 35; refine ((HE _).out).mono ?_; rintro e w2 ⟨rfl, rfl⟩))
  go_quiet (fail)
  go_wp2
  go_ret2
  exact ⟨rfl, bdrew hb1 _⟩

theorem toNumber_f64_int32 (c : Int) (w : World) :
    Calls Tryd.prog 84 #[.iface 21 (.int .i32 c)] w fun e w' => e = .returned (.tuple #[.float .f64 (FloatKind.f64.nearest c), .bool true]) ∧ w = w' := by
  have z0 := Tryd.no_float64 21 (by decide) (.int .i32 c)
  have z1 := Tryd.no_int 21 (by decide) (.int .i32 c)
  have z2 := Tryd.no_int8 21 (by decide) (.int .i32 c)
  have z3 := Tryd.no_int16 21 (by decide) (.int .i32 c)
  have z4 := Tryd.is_int32 (.int .i32 c)
  go_enter Tryd.func84, Tryd.ntmps84
  go_wp2_with (go_at_call 41; refine (indirect_any 21 _ (by decide) (by decide) _).mono ?_; rintro e w' ⟨rfl, rfl⟩)
  go_ret2
  exact ⟨rfl, rfl⟩

theorem toNumberE_f64_int32 (c : Int) (pf : Value) (w : World) :
    Calls Tryd.prog 66 #[.iface 21 (.int .i32 c), pf] w fun e w' => e = .returned (.tuple #[.float .f64 (FloatKind.f64.nearest c), .nilIface]) ∧ w = w' := by
  have H := fun w => Lib.hid (toNumber_f64_int32 c w)
  go_enter Tryd.func66, Tryd.ntmps66
  go_wp2_with (go_at_call 84; refine ((H _).out).mono ?_; rintro e w' ⟨rfl, rfl⟩)
  go_ret2
  exact ⟨rfl, rfl⟩

theorem toE_f64_int32 (c : Int) (w : World) :
    Calls Tryd.prog 35 #[.iface 21 (.int .i32 c)] w fun e w' => e = .returned (.tuple #[.float .f64 (FloatKind.f64.nearest c), .nilIface]) ∧ w = w' := by
  have hmf : ∀ (fn : Fn) (first cap : Array Value) (w : World), (Instr.makeFunc fn first cap).run Tryd.prog w = .ok (.func fn first cap) w := fun _ _ _ _ => rfl
  have H := fun pf w => Lib.hid (toNumberE_f64_int32 c pf w)
  go_enter Tryd.func35, Tryd.ntmps35
  go_wp2_with (go_at_call 66; refine ((H _ _).out).mono ?_; rintro e w' ⟨rfl, rfl⟩)
  go_ret2
  exact ⟨rfl, rfl⟩

theorem impl_f64_int32 (n u : Int) (f : Nat) (s : ByteArray) (w : World) (hn : -9223372036854775808 ≤ n ∧ n ≤ 9223372036854775807) (hu : 0 ≤ u ∧ u ≤ 18446744073709551615) :
    Calls Tryd.prog 20 #[anyOf 5 n u f s] w fun e w' => e = .returned (.tuple #[.float .f64 (FloatKind.f64.nearest (wrap32 n)), .bool true]) ∧ Below w.heap.size w w' := by
  have HV := fun w => Lib.hid (value_int32 n u f s w hn hu)
  have HE := fun w => Lib.hid (toE_f64_int32 (wrap32 n) w)
  clear hn hu
  unfold anyOf at HV ⊢
  generalize FloatKind.f64.nearest (wrap32 n) = F at HE ⊢
  generalize wrap32 n = c at HV HE
  go_enter Tryd.func20, Tryd.ntmps20
  go_wp2_with (first
    | (go_at_call 23; refine ((HV _).out).mono ?_; rintro e w1 ⟨rfl, hb0⟩; have hb1 : Below w.heap.size w w1 := ((Below.refl _ _).alloc (Nat.le_refl _) _).trans (hb0.mono (by simp)))
    | (go_at_call 35; refine ((HE _).out).mono ?_; rintro e w2 ⟨rfl, rfl⟩))
  go_quiet (fail)
  go_wp2
  go_ret2
  exact ⟨rfl, bdrew hb1 _⟩

theorem toNumber_f64_int64 (c : Int) (w : World) :
    Calls Tryd.prog 84 #[.iface 2 (.int .i64 c)] w fun e w' => e = .returned (.tuple #[.float .f64 (FloatKind.f64.nearest c), .bool true]) ∧ w = w' := by
  have z0 := Tryd.no_float64 2 (by decide) (.int .i64 c)
  have z1 := Tryd.no_int 2 (by decide) (.int .i64 c)
  have z2 := Tryd.no_int8 2 (by decide) (.int .i64 c)
  have z3 := Tryd.no_int16 2 (by decide) (.int .i64 c)
  have z4 := Tryd.no_int32 2 (by decide) (.int .i64 c)
  have z5 := Tryd.is_int64 (.int .i64 c)
  go_enter Tryd.func84, Tryd.ntmps84
  go_wp2_with (go_at_call 41; refine (indirect_any 2 _ (by decide) (by decide) _).mono ?_; rintro e w' ⟨rfl, rfl⟩)
  go_ret2
  exact ⟨rfl, rfl⟩

theorem toNumberE_f64_int64 (c : Int) (pf : Value) (w : World) :
    Calls Tryd.prog 66 #[.iface 2 (.int .i64 c), pf] w fun e w' => e = .returned (.tuple #[.float .f64 (FloatKind.f64.nearest c), .nilIface]) ∧ w = w' := by
  have H := fun w => Lib.hid (toNumber_f64_int64 c w)
  go_enter Tryd.func66, Tryd.ntmps66
  go_wp2_with (go_at_call 84; refine ((H _).out).mono ?_; rintro e w' ⟨rfl, rfl⟩)
  go_ret2
  exact ⟨rfl, rfl⟩

theorem toE_f64_int64 (c : Int) (w : World) :
    Calls Tryd.prog 35 #[.iface 2 (.int .i64 c)] w fun e w' => e = .returned (.tuple #[.float .f64 (FloatKind.f64.nearest c), .nilIface]) ∧ w = w' := by
  have hmf : ∀ (fn : Fn) (first cap : Array Value) (w : World), (Instr.makeFunc fn first cap).run Tryd.prog w = .ok (.func fn first cap) w := fun _ _ _ _ => rfl
  have H := fun pf w => Lib.hid (toNumberE_f64_int64 c pf w)
  go_enter Tryd.func35, Tryd.ntmps35
  go_wp2_with (go_at_call 66; refine ((H _ _).out).mono ?_; rintro e w' ⟨rfl, rfl⟩)
  go_ret2
  exact ⟨rfl, rfl⟩

theorem impl_f64_int64 (n u : Int) (f : Nat) (s : ByteArray) (w : World) (hn : -9223372036854775808 ≤ n ∧ n ≤ 9223372036854775807) (hu : 0 ≤ u ∧ u ≤ 18446744073709551615) :
    Calls Tryd.prog 20 #[anyOf 6 n u f s] w fun e w' => e = .returned (.tuple #[.float .f64 (FloatKind.f64.nearest n), .bool true]) ∧ Below w.heap.size w w' := by
  have HV := fun w => Lib.hid (value_int64 n u f s w hn hu)
  have HE := fun w => Lib.hid (toE_f64_int64 n w)
  clear hn hu
  unfold anyOf at HV ⊢
  generalize FloatKind.f64.nearest n = F at HE ⊢
  
  go_enter Tryd.func20, Tryd.ntmps20
  go_wp2_with (first
    | (go_at_call 23; refine ((HV _).out).mono ?_; rintro e w1 ⟨rfl, hb0⟩; have hb1 : Below w.heap.size w w1 := ((Below.refl _ _).alloc (Nat.le_refl _) _).trans (hb0.mono (by simp)))
    | (go_at_call 35; refine ((HE _).out).mono ?_; rintro e w2 ⟨rfl, rfl⟩))
  go_quiet (fail)
  go_wp2
  go_ret2
  exact ⟨rfl, bdrew hb1 _⟩

theorem toNumber_f64_uint (c : Int) (w : World) :
    Calls Tryd.prog 84 #[.iface 62 (.int .u64 c)] w fun e w' => e = .returned (.tuple #[.float .f64 (FloatKind.f64.nearest c), .bool true]) ∧ w = w' := by
  have z0 := Tryd.no_float64 62 (by decide) (.int .u64 c)
  have z1 := Tryd.no_int 62 (by decide) (.int .u64 c)
  have z2 := Tryd.no_int8 62 (by decide) (.int .u64 c)
  have z3 := Tryd.no_int16 62 (by decide) (.int .u64 c)
  have z4 := Tryd.no_int32 62 (by decide) (.int .u64 c)
  have z5 := Tryd.no_int64 62 (by decide) (.int .u64 c)
  have z6 := Tryd.is_uint (.int .u64 c)
  go_enter Tryd.func84, Tryd.ntmps84
  go_wp2_with (go_at_call 41; refine (indirect_any 62 _ (by decide) (by decide) _).mono ?_; rintro e w' ⟨rfl, rfl⟩)
  go_ret2
  exact ⟨rfl, rfl⟩

theorem toNumberE_f64_uint (c : Int) (pf : Value) (w : World) :
    Calls Tryd.prog 66 #[.iface 62 (.int .u64 c), pf] w fun e w' => e = .returned (.tuple #[.float .f64 (FloatKind.f64.nearest c), .nilIface]) ∧ w = w' := by
  have H := fun w => Lib.hid (toNumber_f64_uint c w)
  go_enter Tryd.func66, Tryd.ntmps66
  go_wp2_with (go_at_call 84; refine ((H _).out).mono ?_; rintro e w' ⟨rfl, rfl⟩)
  go_ret2
  exact ⟨rfl, rfl⟩

theorem toE_f64_uint (c : Int) (w : World) :
    Calls Tryd.prog 35 #[.iface 62 (.int .u64 c)] w fun e w' => e = .returned (.tuple #[.float .f64 (FloatKind.f64.nearest c), .nilIface]) ∧ w = w' := by
  have hmf : ∀ (fn : Fn) (first cap : Array Value) (w : World), (Instr.makeFunc fn first cap).run Tryd.prog w = .ok (.func fn first cap) w := fun _ _ _ _ => rfl
  have H := fun pf w => Lib.hid (toNumberE_f64_uint c pf w)
  go_enter Tryd.func35, Tryd.ntmps35
  go_wp2_with (go_at_call 66; refine ((H _ _).out).mono ?_; rintro e w' ⟨rfl, rfl⟩)
  go_ret2
  exact ⟨rfl, rfl⟩

theorem impl_f64_uint (n u : Int) (f : Nat) (s : ByteArray) (w : World) (hn : -9223372036854775808 ≤ n ∧ n ≤ 9223372036854775807) (hu : 0 ≤ u ∧ u ≤ 18446744073709551615) :
    Calls Tryd.prog 20 #[anyOf 7 n u f s] w fun e w' => e = .returned (.tuple #[.float .f64 (FloatKind.f64.nearest u), .bool true]) ∧ Below w.heap.size w w' := by
  have HV := fun w => Lib.hid (value_uint n u f s w hn hu)
  have HE := fun w => Lib.hid (toE_f64_uint u w)
  clear hn hu
  unfold anyOf at HV ⊢
  generalize FloatKind.f64.nearest u = F at HE ⊢
  
  go_enter Tryd.func20, Tryd.ntmps20
  go_wp2_with (first
    | (go_at_call 23; refine ((HV _).out).mono ?_; rintro e w1 ⟨rfl, hb0⟩; have hb1 : Below w.heap.size w w1 := ((Below.refl _ _).alloc (Nat.le_refl _) _).trans (hb0.mono (by simp)))
    | (go_at_call 35; refine ((HE _).out).mono ?_; rintro e w2 ⟨rfl, rfl⟩))
  go_quiet (fail)
  go_wp2
  go_ret2
  exact ⟨rfl, bdrew hb1 _⟩

theorem toNumber_f64_uint8 (c : Int) (w : World) :
    Calls Tryd.prog 84 #[.iface 5 (.int .u8 c)] w fun e w' => e = .returned (.tuple #[.float .f64 (FloatKind.f64.nearest c), .bool true]) ∧ w = w' := by
  have z0 := Tryd.no_float64 5 (by decide) (.int .u8 c)
  have z1 := Tryd.no_int 5 (by decide) (.int .u8 c)
  have z2 := Tryd.no_int8 5 (by decide) (.int .u8 c)
  have z3 := Tryd.no_int16 5 (by decide) (.int .u8 c)
  have z4 := Tryd.no_int32 5 (by decide) (.int .u8 c)
  have z5 := Tryd.no_int64 5 (by decide) (.int .u8 c)
  have z6 := Tryd.no_uint 5 (by decide) (.int .u8 c)
  have z7 := Tryd.is_uint8 (.int .u8 c)
  go_enter Tryd.func84, Tryd.ntmps84
  go_wp2_with (go_at_call 41; refine (indirect_any 5 _ (by decide) (by decide) _).mono ?_; rintro e w' ⟨rfl, rfl⟩)
  go_ret2
  exact ⟨rfl, rfl⟩

theorem toNumberE_f64_uint8 (c : Int) (pf : Value) (w : World) :
    Calls Tryd.prog 66 #[.iface 5 (.int .u8 c), pf] w fun e w' => e = .returned (.tuple #[.float .f64 (FloatKind.f64.nearest c), .nilIface]) ∧ w = w' := by
  have H := fun w => Lib.hid (toNumber_f64_uint8 c w)
  go_enter Tryd.func66, Tryd.ntmps66
  go_wp2_with (go_at_call 84; refine ((H _).out).mono ?_; rintro e w' ⟨rfl, rfl⟩)
  go_ret2
  exact ⟨rfl, rfl⟩

theorem toE_f64_uint8 (c : Int) (w : World) :
    Calls Tryd.prog 35 #[.iface 5 (.int .u8 c)] w fun e w' => e = .returned (.tuple #[.float .f64 (FloatKind.f64.nearest c), .nilIface]) ∧ w = w' := by
  have hmf : ∀ (fn : Fn) (first cap : Array Value) (w : World), (Instr.makeFunc fn first cap).run Tryd.prog w = .ok (.func fn first cap) w := fun _ _ _ _ => rfl
  have H := fun pf w => Lib.hid (toNumberE_f64_uint8 c pf w)
  go_enter Tryd.func35, Tryd.ntmps35
  go_wp2_with (go_at_call 66; refine ((H _ _).out).mono ?_; rintro e w' ⟨rfl, rfl⟩)
  go_ret2
  exact ⟨rfl, rfl⟩

theorem impl_f64_uint8 (n u : Int) (f : Nat) (s : ByteArray) (w : World) (hn : -9223372036854775808 ≤ n ∧ n ≤ 9223372036854775807) (hu : 0 ≤ u ∧ u ≤ 18446744073709551615) :
    Calls Tryd.prog 20 #[anyOf 8 n u f s] w fun e w' => e = .returned (.tuple #[.float .f64 (FloatKind.f64.nearest (IntKind.u8.wrap u)), .bool true]) ∧ Below w.heap.size w w' := by
  have HV := fun w => Lib.hid (value_uint8 n u f s w hn hu)
  have HE := fun w => Lib.hid (toE_f64_uint8 (IntKind.u8.wrap u) w)
  clear hn hu
  unfold anyOf at HV ⊢
  generalize FloatKind.f64.nearest (IntKind.u8.wrap u) = F at HE ⊢
  generalize IntKind.u8.wrap u = c at HV HE
  go_enter Tryd.func20, Tryd.ntmps20
  go_wp2_with (first
    | (go_at_call 23; refine ((HV _).out).mono ?_; rintro e w1 ⟨rfl, hb0⟩; have hb1 : Below w.heap.size w w1 := ((Below.refl _ _).alloc (Nat.le_refl _) _).trans (hb0.mono (by simp)))
    | (go_at_call 35; refine ((HE _).out).mono ?_; rintro e w2 ⟨rfl, rfl⟩))
  go_quiet (fail)
  go_wp2
  go_ret2
  exact ⟨rfl, bdrew hb1 _⟩

theorem toNumber_f64_uint16 (c : Int) (w : World) :
    Calls Tryd.prog 84 #[.iface 69 (.int .u16 c)] w fun e w' => e = .returned (.tuple #[.float .f64 (FloatKind.f64.nearest c), .bool true]) ∧ w = w' := by
  have z0 := Tryd.no_float64 69 (by decide) (.int .u16 c)
  have z1 := Tryd.no_int 69 (by decide) (.int .u16 c)
  have z2 := Tryd.no_int8 69 (by decide) (.int .u16 c)
  have z3 := Tryd.no_int16 69 (by decide) (.int .u16 c)
  have z4 := Tryd.no_int32 69 (by decide) (.int .u16 c)
  have z5 := Tryd.no_int64 69 (by decide) (.int .u16 c)
  have z6 := Tryd.no_uint 69 (by decide) (.int .u16 c)
  have z7 := Tryd.no_uint8 69 (by decide) (.int .u16 c)
  have z8 := Tryd.is_uint16 (.int .u16 c)
  go_enter Tryd.func84, Tryd.ntmps84
  go_wp2_with (go_at_call 41; refine (indirect_any 69 _ (by decide) (by decide) _).mono ?_; rintro e w' ⟨rfl, rfl⟩)
  go_ret2
  exact ⟨rfl, rfl⟩

theorem toNumberE_f64_uint16 (c : Int) (pf : Value) (w : World) :
    Calls Tryd.prog 66 #[.iface 69 (.int .u16 c), pf] w fun e w' => e = .returned (.tuple #[.float .f64 (FloatKind.f64.nearest c), .nilIface]) ∧ w = w' := by
  have H := fun w => Lib.hid (toNumber_f64_uint16 c w)
  go_enter Tryd.func66, Tryd.ntmps66
  go_wp2_with (go_at_call 84; refine ((H _).out).mono ?_; rintro e w' ⟨rfl, rfl⟩)
  go_ret2
  exact ⟨rfl, rfl⟩

theorem toE_f64_uint16 (c : Int) (w : World) :
    Calls Tryd.prog 35 #[.iface 69 (.int .u16 c)] w fun e w' => e = .returned (.tuple #[.float .f64 (FloatKind.f64.nearest c), .nilIface]) ∧ w = w' := by
  have hmf : ∀ (fn : Fn) (first cap : Array Value) (w : World), (Instr.makeFunc fn first cap).run Tryd.prog w = .ok (.func fn first cap) w := fun _ _ _ _ => rfl
  have H := fun pf w => Lib.hid (toNumberE_f64_uint16 c pf w)
  go_enter Tryd.func35, Tryd.ntmps35
  go_wp2_with (go_at_call 66; refine ((H _ _).out).mono ?_; rintro e w' ⟨rfl, rfl⟩)
  go_ret2
  exact ⟨rfl, rfl⟩

theorem impl_f64_uint16 (n u : Int) (f : Nat) (s : ByteArray) (w : World) (hn : -9223372036854775808 ≤ n ∧ n ≤ 9223372036854775807) (hu : 0 ≤ u ∧ u ≤ 18446744073709551615) :
    Calls Tryd.prog 20 #[anyOf 9 n u f s] w fun e w' => e = .returned (.tuple #[.float .f64 (FloatKind.f64.nearest (IntKind.u16.wrap u)), .bool true]) ∧ Below w.heap.size w w' := by
  have HV := fun w => Lib.hid (value_uint16 n u f s w hn hu)
  have HE := fun w => Lib.hid (toE_f64_uint16 (IntKind.u16.wrap u) w)
  clear hn hu
  unfold anyOf at HV ⊢
  generalize FloatKind.f64.nearest (IntKind.u16.wrap u) = F at HE ⊢
  generalize IntKind.u16.wrap u = c at HV HE
  go_enter Tryd.func20, Tryd.ntmps20
  go_wp2_with (first
    | (go_at_call 23; refine ((HV _).out).mono ?_; rintro e w1 ⟨rfl, hb0⟩; have hb1 : Below w.heap.size w w1 := ((Below.refl _ _).alloc (Nat.le_refl _) _).trans (hb0.mono (by simp)))
    | (go_at_call 35; refine ((HE _).out).mono ?_; rintro e w2 ⟨rfl, rfl⟩))
  go_quiet (fail)
  go_wp2
  go_ret2
  exact ⟨rfl, bdrew hb1 _⟩

theorem toNumber_f64_uint32 (c : Int) (w : World) :
    Calls Tryd.prog 84 #[.iface 70 (.int .u32 c)] w fun e w' => e = .returned (.tuple #[.float .f64 (FloatKind.f64.nearest c), .bool true]) ∧ w = w' := by
  have z0 := Tryd.no_float64 70 (by decide) (.int .u32 c)
  have z1 := Tryd.no_int 70 (by decide) (.int .u32 c)
  have z2 := Tryd.no_int8 70 (by decide) (.int .u32 c)
  have z3 := Tryd.no_int16 70 (by decide) (.int .u32 c)
  have z4 := Tryd.no_int32 70 (by decide) (.int .u32 c)
  have z5 := Tryd.no_int64 70 (by decide) (.int .u32 c)
  have z6 := Tryd.no_uint 70 (by decide) (.int .u32 c)
  have z7 := Tryd.no_uint8 70 (by decide) (.int .u32 c)
  have z8 := Tryd.no_uint16 70 (by decide) (.int .u32 c)
  have z9 := Tryd.is_uint32 (.int .u32 c)
  go_enter Tryd.func84, Tryd.ntmps84
  go_wp2_with (go_at_call 41; refine (indirect_any 70 _ (by decide) (by decide) _).mono ?_; rintro e w' ⟨rfl, rfl⟩)
  go_ret2
  exact ⟨rfl, rfl⟩

theorem toNumberE_f64_uint32 (c : Int) (pf : Value) (w : World) :
    Calls Tryd.prog 66 #[.iface 70 (.int .u32 c), pf] w fun e w' => e = .returned (.tuple #[.float .f64 (FloatKind.f64.nearest c), .nilIface]) ∧ w = w' := by
  have H := fun w => Lib.hid (toNumber_f64_uint32 c w)
  go_enter Tryd.func66, Tryd.ntmps66
  go_wp2_with (go_at_call 84; refine ((H _).out).mono ?_; rintro e w' ⟨rfl, rfl⟩)
  go_ret2
  exact ⟨rfl, rfl⟩

theorem toE_f64_uint32 (c : Int) (w : World) :
    Calls Tryd.prog 35 #[.iface 70 (.int .u32 c)] w fun e w' => e = .returned (.tuple #[.float .f64 (FloatKind.f64.nearest c), .nilIface]) ∧ w = w' := by
  have hmf : ∀ (fn : Fn) (first cap : Array Value) (w : World), (Instr.makeFunc fn first cap).run Tryd.prog w = .ok (.func fn first cap) w := fun _ _ _ _ => rfl
  have H := fun pf w => Lib.hid (toNumberE_f64_uint32 c pf w)
  go_enter Tryd.func35, Tryd.ntmps35
  go_wp2_with (go_at_call 66; refine ((H _ _).out).mono ?_; rintro e w' ⟨rfl, rfl⟩)
  go_ret2
  exact ⟨rfl, rfl⟩

theorem impl_f64_uint32 (n u : Int) (f : Nat) (s : ByteArray) (w : World) (hn : -9223372036854775808 ≤ n ∧ n ≤ 9223372036854775807) (hu : 0 ≤ u ∧ u ≤ 18446744073709551615) :
    Calls Tryd.prog 20 #[anyOf 10 n u f s] w fun e w' => e = .returned (.tuple #[.float .f64 (FloatKind.f64.nearest (IntKind.u32.wrap u)), .bool true]) ∧ Below w.heap.size w w' := by
  have HV := fun w => Lib.hid (value_uint32 n u f s w hn hu)
  have HE := fun w => Lib.hid (toE_f64_uint32 (IntKind.u32.wrap u) w)
  clear hn hu
  unfold anyOf at HV ⊢
  generalize FloatKind.f64.nearest (IntKind.u32.wrap u) = F at HE ⊢
  generalize IntKind.u32.wrap u = c at HV HE
  go_enter Tryd.func20, Tryd.ntmps20
  go_wp2_with (first
    | (go_at_call 23; refine ((HV _).out).mono ?_; rintro e w1 ⟨rfl, hb0⟩; have hb1 : Below w.heap.size w w1 := ((Below.refl _ _).alloc (Nat.le_refl _) _).trans (hb0.mono (by simp)))
    | (go_at_call 35; refine ((HE _).out).mono ?_; rintro e w2 ⟨rfl, rfl⟩))
  go_quiet (fail)
  go_wp2
  go_ret2
  exact ⟨rfl, bdrew hb1 _⟩

theorem toNumber_f64_uint64 (c : Int) (w : World) :
    Calls Tryd.prog 84 #[.iface 22 (.int .u64 c)] w fun e w' => e = .returned (.tuple #[.float .f64 (FloatKind.f64.nearest c), .bool true]) ∧ w = w' := by
  have z0 := Tryd.no_float64 22 (by decide) (.int .u64 c)
  have z1 := Tryd.no_int 22 (by decide) (.int .u64 c)
  have z2 := Tryd.no_int8 22 (by decide) (.int .u64 c)
  have z3 := Tryd.no_int16 22 (by decide) (.int .u64 c)
  have z4 := Tryd.no_int32 22 (by decide) (.int .u64 c)
  have z5 := Tryd.no_int64 22 (by decide) (.int .u64 c)
  have z6 := Tryd.no_uint 22 (by decide) (.int .u64 c)
  have z7 := Tryd.no_uint8 22 (by decide) (.int .u64 c)
  have z8 := Tryd.no_uint16 22 (by decide) (.int .u64 c)
  have z9 := Tryd.no_uint32 22 (by decide) (.int .u64 c)
  have z10 := Tryd.is_uint64 (.int .u64 c)
  go_enter Tryd.func84, Tryd.ntmps84
  go_wp2_with (go_at_call 41; refine (indirect_any 22 _ (by decide) (by decide) _).mono ?_; rintro e w' ⟨rfl, rfl⟩)
  go_ret2
  exact ⟨rfl, rfl⟩

theorem toNumberE_f64_uint64 (c : Int) (pf : Value) (w : World) :
    Calls Tryd.prog 66 #[.iface 22 (.int .u64 c), pf] w fun e w' => e = .returned (.tuple #[.float .f64 (FloatKind.f64.nearest c), .nilIface]) ∧ w = w' := by
  have H := fun w => Lib.hid (toNumber_f64_uint64 c w)
  go_enter Tryd.func66, Tryd.ntmps66
  go_wp2_with (go_at_call 84; refine ((H _).out).mono ?_; rintro e w' ⟨rfl, rfl⟩)
  go_ret2
  exact ⟨rfl, rfl⟩

theorem toE_f64_uint64 (c : Int) (w : World) :
    Calls Tryd.prog 35 #[.iface 22 (.int .u64 c)] w fun e w' => e = .returned (.tuple #[.float .f64 (FloatKind.f64.nearest c), .nilIface]) ∧ w = w' := by
  have hmf : ∀ (fn : Fn) (first cap : Array Value) (w : World), (Instr.makeFunc fn first cap).run Tryd.prog w = .ok (.func fn first cap) w := fun _ _ _ _ => rfl
  have H := fun pf w => Lib.hid (toNumberE_f64_uint64 c pf w)
  go_enter Tryd.func35, Tryd.ntmps35
  go_wp2_with (go_at_call 66; refine ((H _ _).out).mono ?_; rintro e w' ⟨rfl, rfl⟩)
  go_ret2
  exact ⟨rfl, rfl⟩

theorem impl_f64_uint64 (n u : Int) (f : Nat) (s : ByteArray) (w : World) (hn : -9223372036854775808 ≤ n ∧ n ≤ 9223372036854775807) (hu : 0 ≤ u ∧ u ≤ 18446744073709551615) :
    Calls Tryd.prog 20 #[anyOf 11 n u f s] w fun e w' => e = .returned (.tuple #[.float .f64 (FloatKind.f64.nearest u), .bool true]) ∧ Below w.heap.size w w' := by
  have HV := fun w => Lib.hid (value_uint64 n u f s w hn hu)
  have HE := fun w => Lib.hid (toE_f64_uint64 u w)
  clear hn hu
  unfold anyOf at HV ⊢
  generalize FloatKind.f64.nearest u = F at HE ⊢
  
  go_enter Tryd.func20, Tryd.ntmps20
  go_wp2_with (first
    | (go_at_call 23; refine ((HV _).out).mono ?_; rintro e w1 ⟨rfl, hb0⟩; have hb1 : Below w.heap.size w w1 := ((Below.refl _ _).alloc (Nat.le_refl _) _).trans (hb0.mono (by simp)))
    | (go_at_call 35; refine ((HE _).out).mono ?_; rintro e w2 ⟨rfl, rfl⟩))
  go_quiet (fail)
  go_wp2
  go_ret2
  exact ⟨rfl, bdrew hb1 _⟩

set_option maxRecDepth 100000 in
theorem f64I_any (a n u : Int) (ha : 2 ≤ a ∧ a ≤ 6) (w : World) (hn : -9223372036854775808 ≤ n ∧ n ≤ 9223372036854775807) (hu : 0 ≤ u ∧ u ≤ 18446744073709551615) :
    Calls Tryd.prog 20 #[anyOf a n u 0 ⟨#[]⟩] w fun e w' => e = .returned (.tuple #[.float .f64 (FloatKind.f64.nearest (cutI a n)), .bool true]) ∧ Below w.heap.size w w' := by
  have h : a = 2 ∨ a = 3 ∨ a = 4 ∨ a = 5 ∨ a = 6 := by omega
  rcases h with rfl | rfl | rfl | rfl | rfl
  · exact impl_f64_int n u 0 ⟨#[]⟩ w hn hu
  · exact impl_f64_int8 n u 0 ⟨#[]⟩ w hn hu
  · exact impl_f64_int16 n u 0 ⟨#[]⟩ w hn hu
  · exact impl_f64_int32 n u 0 ⟨#[]⟩ w hn hu
  · exact impl_f64_int64 n u 0 ⟨#[]⟩ w hn hu

set_option maxRecDepth 100000 in
theorem f64U_any (a n u : Int) (ha : 7 ≤ a ∧ a ≤ 11) (w : World) (hn : -9223372036854775808 ≤ n ∧ n ≤ 9223372036854775807) (hu : 0 ≤ u ∧ u ≤ 18446744073709551615) :
    Calls Tryd.prog 20 #[anyOf a n u 0 ⟨#[]⟩] w fun e w' => e = .returned (.tuple #[.float .f64 (FloatKind.f64.nearest (cutU a u)), .bool true]) ∧ Below w.heap.size w w' := by
  have h : a = 7 ∨ a = 8 ∨ a = 9 ∨ a = 10 ∨ a = 11 := by omega
  rcases h with rfl | rfl | rfl | rfl | rfl
  · exact impl_f64_uint n u 0 ⟨#[]⟩ w hn hu
  · exact impl_f64_uint8 n u 0 ⟨#[]⟩ w hn hu
  · exact impl_f64_uint16 n u 0 ⟨#[]⟩ w hn hu
  · exact impl_f64_uint32 n u 0 ⟨#[]⟩ w hn hu
  · exact impl_f64_uint64 n u 0 ⟨#[]⟩ w hn hu

set_option maxRecDepth 100000 in
set_option maxHeartbeats 3200000 in
theorem fnCastIntFloat_any (k n u : Int) (w : World) (hn : -9223372036854775808 ≤ n ∧ n ≤ 9223372036854775807) (hu : 0 ≤ u ∧ u ≤ 18446744073709551615) :
    Calls Tryd.prog 6 #[.int .i64 k, .int .i64 n, .int .u64 u] w fun e w' => e = .returned (.bool true) ∧ Below w.heap.size w w' := by
  have HK := fun w => Lib.hid (castKindInt_any k w)
  have HU := fun w => Lib.hid (castKindUint_any k w)
  obtain ⟨r0, r1⟩ := kindI_range k
  obtain ⟨q0, q1⟩ := kindU_range k
  generalize kindI k = a at HK r0 r1
  generalize kindU k = b at HU q0 q1
  have HF := fun w => Lib.hid (f64I_any a n 0 ⟨r0, r1⟩ w hn (by omega))
  have HG := fun w => Lib.hid (f64U_any b 0 u ⟨q0, q1⟩ w (by omega) hu)
  have HC := fun w => Lib.hid (castCutInt_any a n w ⟨r0, r1⟩ hn)
  have HD := fun w => Lib.hid (castCutUint_any b u w ⟨q0, q1⟩ hu)
  have e1 := order_int .f64 (cutI a n)
  have e2 := order_int .f64 (cutU b u)
  have HB := Lib.hid (Below.refl w.heap.size w)
  clear hn hu
  unfold anyOf at HF HG
  generalize cutI a n = c at HF HC e1
  generalize cutU b u = d at HG HD e2
  have hst := fun (x : Addr) (m : Mode) (y : Nat) (W : World) => run_store Tryd.prog W x (.float .f64 y) m rfl
  go_enter Tryd.func6, Tryd.ntmps6
  go_wp2_with (first
    | ((with_reducible go_at_call 14); refine ((HK _).out).mono ?_; rintro e w1 ⟨rfl, rfl⟩)
    | ((with_reducible go_at_call 19); refine ((HU _).out).mono ?_; rintro e w1 ⟨rfl, rfl⟩)
    | ((with_reducible go_at_call 17); refine ((HC _).out).mono ?_; rintro e w2 ⟨rfl, rfl⟩)
    | ((with_reducible go_at_call 21); refine ((HD _).out).mono ?_; rintro e w2 ⟨rfl, rfl⟩)
    | ((with_reducible go_at_call 20); first | (with_reducible refine (HF _).out.mono ?_; rintro e w' ⟨rfl, hb⟩; have HB := Lib.hid ((by first | exact below_step HB.out hb | exact below_step HB.out (below_new hb))); clear hb) | (with_reducible refine (HG _).out.mono ?_; rintro e w' ⟨rfl, hb⟩; have HB := Lib.hid ((by first | exact below_step HB.out hb | exact below_step HB.out (below_new hb))); clear hb)))
  go_ret
  exact ⟨by first | rfl | simp [e1, e2], HB.out⟩
end Go.Proofs.YtcelhnnnaakkeaaDoor.E
