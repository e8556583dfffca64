/- What impl.value, cast.ToBoolE and impl.ToBool do of each plain kind, over this seat's program. Written by gen_castbool.py. -/
import Derived.Test.YtjfgebgkdpomiaaDoorKit
import Derived.WalkLawsBesides
import Derived.WalkSpells
namespace Go.Proofs.YtjfgebgkdpomiaaDoor.E
open Go.RowKit
set_option linter.unusedVariables false
set_option linter.unusedSimpArgs false

/-- An assertion to a concrete type: another type, or that. -/
theorem assert_no {P : Program} {A xT T : TypeId} {d : TypeDesc} {v z : Value} (hu : P.underlying A = some d) (hd : ∀ m, d ≠ .interface m) (hz : (P.info? A).map (·.zero) = some (some z)) (hne : T ≠ A) (w : World) :
    (Instr.typeAssert (.iface T v) xT A true).run P w = .ok (.tuple #[z, .bool false]) w := by
  obtain ⟨i, hi, hz'⟩ := Option.map_eq_some_iff.1 hz
  cases d with
  | interface m => exact absurd rfl (hd m)
  | _ => simp [Instr.typeAssert, run_underlying hu, zeroValue, typeInfo, hi, hz', hne]
theorem assert_yes {P : Program} {A xT : TypeId} {d : TypeDesc} {v : Value} (hu : P.underlying A = some d) (hd : ∀ m, d ≠ .interface m) (w : World) :
    (Instr.typeAssert (.iface A v) xT A true).run P w = .ok (.tuple #[v, .bool true]) w := by
  cases d with
  | interface m => exact absurd rfl (hd m)
  | _ => simp [Instr.typeAssert, run_underlying hu]

theorem Tryd.no_pint (T : TypeId) (h : T ≠ 98) (v : Value) (w : World) : (Instr.typeAssert (.iface T v) 20 98 true).run Tryd.prog w = .ok (.tuple #[.pointer none, .bool false]) w := assert_no Tryd.underlying98 (by intro m h; cases h) (by kernel_rfl) h w
theorem Tryd.no_pstring (T : TypeId) (h : T ≠ 156) (v : Value) (w : World) : (Instr.typeAssert (.iface T v) 20 156 true).run Tryd.prog w = .ok (.tuple #[.pointer none, .bool false]) w := assert_no Tryd.underlying156 (by intro m h; cases h) (by kernel_rfl) h w
theorem Tryd.no_bool (T : TypeId) (h : T ≠ 4) (v : Value) (w : World) : (Instr.typeAssert (.iface T v) 20 4 true).run Tryd.prog w = .ok (.tuple #[.bool false, .bool false]) w := assert_no Tryd.underlying4 (by intro m h; cases h) (by kernel_rfl) h w
theorem Tryd.is_bool (v : Value) (w : World) : (Instr.typeAssert (.iface 4 v) 20 4 true).run Tryd.prog w = .ok (.tuple #[v, .bool true]) w := assert_yes Tryd.underlying4 (by intro m h; cases h) w
theorem Tryd.no_int (T : TypeId) (h : T ≠ 3) (v : Value) (w : World) : (Instr.typeAssert (.iface T v) 20 3 true).run Tryd.prog w = .ok (.tuple #[.int .i64 0, .bool false]) w := assert_no Tryd.underlying3 (by intro m h; cases h) (by kernel_rfl) h w
theorem Tryd.is_int (v : Value) (w : World) : (Instr.typeAssert (.iface 3 v) 20 3 true).run Tryd.prog w = .ok (.tuple #[v, .bool true]) w := assert_yes Tryd.underlying3 (by intro m h; cases h) w
theorem Tryd.no_int8 (T : TypeId) (h : T ≠ 103) (v : Value) (w : World) : (Instr.typeAssert (.iface T v) 20 103 true).run Tryd.prog w = .ok (.tuple #[.int .i8 0, .bool false]) w := assert_no Tryd.underlying103 (by intro m h; cases h) (by kernel_rfl) h w
theorem Tryd.is_int8 (v : Value) (w : World) : (Instr.typeAssert (.iface 103 v) 20 103 true).run Tryd.prog w = .ok (.tuple #[v, .bool true]) w := assert_yes Tryd.underlying103 (by intro m h; cases h) w
theorem Tryd.no_int16 (T : TypeId) (h : T ≠ 107) (v : Value) (w : World) : (Instr.typeAssert (.iface T v) 20 107 true).run Tryd.prog w = .ok (.tuple #[.int .i16 0, .bool false]) w := assert_no Tryd.underlying107 (by intro m h; cases h) (by kernel_rfl) h w
theorem Tryd.is_int16 (v : Value) (w : World) : (Instr.typeAssert (.iface 107 v) 20 107 true).run Tryd.prog w = .ok (.tuple #[v, .bool true]) w := assert_yes Tryd.underlying107 (by intro m h; cases h) w
theorem Tryd.no_int32 (T : TypeId) (h : T ≠ 21) (v : Value) (w : World) : (Instr.typeAssert (.iface T v) 20 21 true).run Tryd.prog w = .ok (.tuple #[.int .i32 0, .bool false]) w := assert_no Tryd.underlying21 (by intro m h; cases h) (by kernel_rfl) h w
theorem Tryd.is_int32 (v : Value) (w : World) : (Instr.typeAssert (.iface 21 v) 20 21 true).run Tryd.prog w = .ok (.tuple #[v, .bool true]) w := assert_yes Tryd.underlying21 (by intro m h; cases h) w
theorem Tryd.no_int64 (T : TypeId) (h : T ≠ 2) (v : Value) (w : World) : (Instr.typeAssert (.iface T v) 20 2 true).run Tryd.prog w = .ok (.tuple #[.int .i64 0, .bool false]) w := assert_no Tryd.underlying2 (by intro m h; cases h) (by kernel_rfl) h w
theorem Tryd.is_int64 (v : Value) (w : World) : (Instr.typeAssert (.iface 2 v) 20 2 true).run Tryd.prog w = .ok (.tuple #[v, .bool true]) w := assert_yes Tryd.underlying2 (by intro m h; cases h) w
theorem Tryd.no_uint (T : TypeId) (h : T ≠ 77) (v : Value) (w : World) : (Instr.typeAssert (.iface T v) 20 77 true).run Tryd.prog w = .ok (.tuple #[.int .u64 0, .bool false]) w := assert_no Tryd.underlying77 (by intro m h; cases h) (by kernel_rfl) h w
theorem Tryd.is_uint (v : Value) (w : World) : (Instr.typeAssert (.iface 77 v) 20 77 true).run Tryd.prog w = .ok (.tuple #[v, .bool true]) w := assert_yes Tryd.underlying77 (by intro m h; cases h) w
theorem Tryd.no_uint8 (T : TypeId) (h : T ≠ 5) (v : Value) (w : World) : (Instr.typeAssert (.iface T v) 20 5 true).run Tryd.prog w = .ok (.tuple #[.int .u8 0, .bool false]) w := assert_no Tryd.underlying5 (by intro m h; cases h) (by kernel_rfl) h w
theorem Tryd.is_uint8 (v : Value) (w : World) : (Instr.typeAssert (.iface 5 v) 20 5 true).run Tryd.prog w = .ok (.tuple #[v, .bool true]) w := assert_yes Tryd.underlying5 (by intro m h; cases h) w
theorem Tryd.no_uint16 (T : TypeId) (h : T ≠ 130) (v : Value) (w : World) : (Instr.typeAssert (.iface T v) 20 130 true).run Tryd.prog w = .ok (.tuple #[.int .u16 0, .bool false]) w := assert_no Tryd.underlying130 (by intro m h; cases h) (by kernel_rfl) h w
theorem Tryd.is_uint16 (v : Value) (w : World) : (Instr.typeAssert (.iface 130 v) 20 130 true).run Tryd.prog w = .ok (.tuple #[v, .bool true]) w := assert_yes Tryd.underlying130 (by intro m h; cases h) w
theorem Tryd.no_uint32 (T : TypeId) (h : T ≠ 131) (v : Value) (w : World) : (Instr.typeAssert (.iface T v) 20 131 true).run Tryd.prog w = .ok (.tuple #[.int .u32 0, .bool false]) w := assert_no Tryd.underlying131 (by intro m h; cases h) (by kernel_rfl) h w
theorem Tryd.is_uint32 (v : Value) (w : World) : (Instr.typeAssert (.iface 131 v) 20 131 true).run Tryd.prog w = .ok (.tuple #[v, .bool true]) w := assert_yes Tryd.underlying131 (by intro m h; cases h) w
theorem Tryd.no_uint64 (T : TypeId) (h : T ≠ 22) (v : Value) (w : World) : (Instr.typeAssert (.iface T v) 20 22 true).run Tryd.prog w = .ok (.tuple #[.int .u64 0, .bool false]) w := assert_no Tryd.underlying22 (by intro m h; cases h) (by kernel_rfl) h w
theorem Tryd.is_uint64 (v : Value) (w : World) : (Instr.typeAssert (.iface 22 v) 20 22 true).run Tryd.prog w = .ok (.tuple #[v, .bool true]) w := assert_yes Tryd.underlying22 (by intro m h; cases h) w
theorem Tryd.no_float32 (T : TypeId) (h : T ≠ 132) (v : Value) (w : World) : (Instr.typeAssert (.iface T v) 20 132 true).run Tryd.prog w = .ok (.tuple #[.float .f32 0, .bool false]) w := assert_no Tryd.underlying132 (by intro m h; cases h) (by kernel_rfl) h w
theorem Tryd.is_float32 (v : Value) (w : World) : (Instr.typeAssert (.iface 132 v) 20 132 true).run Tryd.prog w = .ok (.tuple #[v, .bool true]) w := assert_yes Tryd.underlying132 (by intro m h; cases h) w
theorem Tryd.no_float64 (T : TypeId) (h : T ≠ 23) (v : Value) (w : World) : (Instr.typeAssert (.iface T v) 20 23 true).run Tryd.prog w = .ok (.tuple #[.float .f64 0, .bool false]) w := assert_no Tryd.underlying23 (by intro m h; cases h) (by kernel_rfl) h w
theorem Tryd.is_float64 (v : Value) (w : World) : (Instr.typeAssert (.iface 23 v) 20 23 true).run Tryd.prog w = .ok (.tuple #[v, .bool true]) w := assert_yes Tryd.underlying23 (by intro m h; cases h) w
theorem Tryd.no_timeDuration (T : TypeId) (h : T ≠ 133) (v : Value) (w : World) : (Instr.typeAssert (.iface T v) 20 133 true).run Tryd.prog w = .ok (.tuple #[.int .i64 0, .bool false]) w := assert_no Tryd.underlying133 (by intro m h; cases h) (by kernel_rfl) h w
theorem Tryd.is_timeDuration (v : Value) (w : World) : (Instr.typeAssert (.iface 133 v) 20 133 true).run Tryd.prog w = .ok (.tuple #[v, .bool true]) w := assert_yes Tryd.underlying133 (by intro m h; cases h) w
theorem Tryd.no_string (T : TypeId) (h : T ≠ 9) (v : Value) (w : World) : (Instr.typeAssert (.iface T v) 20 9 true).run Tryd.prog w = .ok (.tuple #[.string ⟨#[]⟩, .bool false]) w := assert_no Tryd.underlying9 (by intro m h; cases h) (by kernel_rfl) h w
theorem Tryd.is_string (v : Value) (w : World) : (Instr.typeAssert (.iface 9 v) 20 9 true).run Tryd.prog w = .ok (.tuple #[v, .bool true]) w := assert_yes Tryd.underlying9 (by intro m h; cases h) w

theorem indirect_any (T : TypeId) (v : Value) (h1 : T ≠ 98) (h2 : T ≠ 156) (w : World) : Calls Tryd.prog 77 #[.iface T v] w fun e w' => e = .returned (.tuple #[.iface T v, .bool false]) ∧ w = w' := by
  have t1 := Tryd.no_pint T h1 v
  have t2 := Tryd.no_pstring T h2 v
  go_enter Tryd.func77, Tryd.ntmps77
  go_wp2
  go_ret2
  exact ⟨rfl, rfl⟩

/-- An impl.Any of a plain kind. -/
def anyOf (k n u : Int) (f : Nat) (s : ByteArray) : Value := .agg #[.int .i64 k, .int .i64 n, .int .u64 u, .float .f64 f, .string s, .slice none 0 0, .slice none 0 0]

theorem value_int (n u : Int) (f : Nat) (s : ByteArray) (w : World) (hn : -9223372036854775808 ≤ n ∧ n ≤ 9223372036854775807) (hu : 0 ≤ u ∧ u ≤ 18446744073709551615) :
    Calls Tryd.prog 36 #[anyOf 2 n u f s] w fun e w' => e = .returned (.iface 3 (.int .i64 n)) ∧ Below w.heap.size w w' := by
  unfold anyOf
  clear hn hu
  go_enter Tryd.func36, Tryd.ntmps36
  go_wp2
  go_ret
  exact ⟨rfl, (Below.refl _ _).alloc (Nat.le_refl _) _⟩

theorem value_int8 (n u : Int) (f : Nat) (s : ByteArray) (w : World) (hn : -9223372036854775808 ≤ n ∧ n ≤ 9223372036854775807) (hu : 0 ≤ u ∧ u ≤ 18446744073709551615) :
    Calls Tryd.prog 36 #[anyOf 3 n u f s] w fun e w' => e = .returned (.iface 103 (.int .i8 (IntKind.i8.wrap n))) ∧ Below w.heap.size w w' := by
  unfold anyOf
  clear hn hu
  go_enter Tryd.func36, Tryd.ntmps36
  go_wp2
  go_ret
  exact ⟨rfl, (Below.refl _ _).alloc (Nat.le_refl _) _⟩

theorem value_int16 (n u : Int) (f : Nat) (s : ByteArray) (w : World) (hn : -9223372036854775808 ≤ n ∧ n ≤ 9223372036854775807) (hu : 0 ≤ u ∧ u ≤ 18446744073709551615) :
    Calls Tryd.prog 36 #[anyOf 4 n u f s] w fun e w' => e = .returned (.iface 107 (.int .i16 (IntKind.i16.wrap n))) ∧ Below w.heap.size w w' := by
  unfold anyOf
  clear hn hu
  go_enter Tryd.func36, Tryd.ntmps36
  go_wp2
  go_ret
  exact ⟨rfl, (Below.refl _ _).alloc (Nat.le_refl _) _⟩

theorem value_int32 (n u : Int) (f : Nat) (s : ByteArray) (w : World) (hn : -9223372036854775808 ≤ n ∧ n ≤ 9223372036854775807) (hu : 0 ≤ u ∧ u ≤ 18446744073709551615) :
    Calls Tryd.prog 36 #[anyOf 5 n u f s] w fun e w' => e = .returned (.iface 21 (.int .i32 (wrap32 n))) ∧ Below w.heap.size w w' := by
  unfold anyOf
  clear hn hu
  go_enter Tryd.func36, Tryd.ntmps36
  go_wp2
  go_ret
  exact ⟨rfl, (Below.refl _ _).alloc (Nat.le_refl _) _⟩

theorem value_int64 (n u : Int) (f : Nat) (s : ByteArray) (w : World) (hn : -9223372036854775808 ≤ n ∧ n ≤ 9223372036854775807) (hu : 0 ≤ u ∧ u ≤ 18446744073709551615) :
    Calls Tryd.prog 36 #[anyOf 6 n u f s] w fun e w' => e = .returned (.iface 2 (.int .i64 n)) ∧ Below w.heap.size w w' := by
  unfold anyOf
  clear hn hu
  go_enter Tryd.func36, Tryd.ntmps36
  go_wp2
  go_ret
  exact ⟨rfl, (Below.refl _ _).alloc (Nat.le_refl _) _⟩

theorem value_uint (n u : Int) (f : Nat) (s : ByteArray) (w : World) (hn : -9223372036854775808 ≤ n ∧ n ≤ 9223372036854775807) (hu : 0 ≤ u ∧ u ≤ 18446744073709551615) :
    Calls Tryd.prog 36 #[anyOf 7 n u f s] w fun e w' => e = .returned (.iface 77 (.int .u64 u)) ∧ Below w.heap.size w w' := by
  unfold anyOf
  clear hn hu
  go_enter Tryd.func36, Tryd.ntmps36
  go_wp2
  go_ret
  exact ⟨rfl, (Below.refl _ _).alloc (Nat.le_refl _) _⟩

theorem value_uint8 (n u : Int) (f : Nat) (s : ByteArray) (w : World) (hn : -9223372036854775808 ≤ n ∧ n ≤ 9223372036854775807) (hu : 0 ≤ u ∧ u ≤ 18446744073709551615) :
    Calls Tryd.prog 36 #[anyOf 8 n u f s] w fun e w' => e = .returned (.iface 5 (.int .u8 (IntKind.u8.wrap u))) ∧ Below w.heap.size w w' := by
  unfold anyOf
  clear hn hu
  go_enter Tryd.func36, Tryd.ntmps36
  go_wp2
  go_ret
  exact ⟨rfl, (Below.refl _ _).alloc (Nat.le_refl _) _⟩

theorem value_uint16 (n u : Int) (f : Nat) (s : ByteArray) (w : World) (hn : -9223372036854775808 ≤ n ∧ n ≤ 9223372036854775807) (hu : 0 ≤ u ∧ u ≤ 18446744073709551615) :
    Calls Tryd.prog 36 #[anyOf 9 n u f s] w fun e w' => e = .returned (.iface 130 (.int .u16 (IntKind.u16.wrap u))) ∧ Below w.heap.size w w' := by
  unfold anyOf
  clear hn hu
  go_enter Tryd.func36, Tryd.ntmps36
  go_wp2
  go_ret
  exact ⟨rfl, (Below.refl _ _).alloc (Nat.le_refl _) _⟩

theorem value_uint32 (n u : Int) (f : Nat) (s : ByteArray) (w : World) (hn : -9223372036854775808 ≤ n ∧ n ≤ 9223372036854775807) (hu : 0 ≤ u ∧ u ≤ 18446744073709551615) :
    Calls Tryd.prog 36 #[anyOf 10 n u f s] w fun e w' => e = .returned (.iface 131 (.int .u32 (IntKind.u32.wrap u))) ∧ Below w.heap.size w w' := by
  unfold anyOf
  clear hn hu
  go_enter Tryd.func36, Tryd.ntmps36
  go_wp2
  go_ret
  exact ⟨rfl, (Below.refl _ _).alloc (Nat.le_refl _) _⟩

theorem value_uint64 (n u : Int) (f : Nat) (s : ByteArray) (w : World) (hn : -9223372036854775808 ≤ n ∧ n ≤ 9223372036854775807) (hu : 0 ≤ u ∧ u ≤ 18446744073709551615) :
    Calls Tryd.prog 36 #[anyOf 11 n u f s] w fun e w' => e = .returned (.iface 22 (.int .u64 u)) ∧ Below w.heap.size w w' := by
  unfold anyOf
  clear hn hu
  go_enter Tryd.func36, Tryd.ntmps36
  go_wp2
  go_ret
  exact ⟨rfl, (Below.refl _ _).alloc (Nat.le_refl _) _⟩

theorem value_float64 (n u : Int) (f : Nat) (s : ByteArray) (w : World) (hn : -9223372036854775808 ≤ n ∧ n ≤ 9223372036854775807) (hu : 0 ≤ u ∧ u ≤ 18446744073709551615) :
    Calls Tryd.prog 36 #[anyOf 13 n u f s] w fun e w' => e = .returned (.iface 23 (.float .f64 f)) ∧ Below w.heap.size w w' := by
  unfold anyOf
  clear hn hu
  go_enter Tryd.func36, Tryd.ntmps36
  go_wp2
  go_ret
  exact ⟨rfl, (Below.refl _ _).alloc (Nat.le_refl _) _⟩

theorem value_string (n u : Int) (f : Nat) (s : ByteArray) (w : World) (hn : -9223372036854775808 ≤ n ∧ n ≤ 9223372036854775807) (hu : 0 ≤ u ∧ u ≤ 18446744073709551615) :
    Calls Tryd.prog 36 #[anyOf 14 n u f s] w fun e w' => e = .returned (.iface 9 (.string s)) ∧ Below w.heap.size w w' := by
  unfold anyOf
  clear hn hu
  go_enter Tryd.func36, Tryd.ntmps36
  go_wp2
  go_ret
  exact ⟨rfl, (Below.refl _ _).alloc (Nat.le_refl _) _⟩

theorem toBoolE_int (c : Int) (w : World) :
    Calls Tryd.prog 35 #[.iface 3 (.int .i64 c)] w fun e w' => e = .returned (.tuple #[.bool (!(c == 0)), .nilIface]) ∧ w = w' := by
  have hi := indirect_any 3 (.int .i64 c) (by decide) (by decide)
  have n_bool := Tryd.no_bool 3 (by decide) (.int .i64 c)
  have y := Tryd.is_int (.int .i64 c)
  go_enter Tryd.func35, Tryd.ntmps35
  go_wp2_with (go_at_call 77; refine (hi _).mono ?_; rintro e w' ⟨rfl, rfl⟩)
  go_ret2
  exact ⟨rfl, rfl⟩

theorem toBoolE_int8 (c : Int) (w : World) :
    Calls Tryd.prog 35 #[.iface 103 (.int .i8 c)] w fun e w' => e = .returned (.tuple #[.bool (!(c == 0)), .nilIface]) ∧ w = w' := by
  have hi := indirect_any 103 (.int .i8 c) (by decide) (by decide)
  have n_bool := Tryd.no_bool 103 (by decide) (.int .i8 c)
  have n_int := Tryd.no_int 103 (by decide) (.int .i8 c)
  have y := Tryd.is_int8 (.int .i8 c)
  go_enter Tryd.func35, Tryd.ntmps35
  go_wp2_with (go_at_call 77; refine (hi _).mono ?_; rintro e w' ⟨rfl, rfl⟩)
  go_ret2
  exact ⟨rfl, rfl⟩

theorem toBoolE_int16 (c : Int) (w : World) :
    Calls Tryd.prog 35 #[.iface 107 (.int .i16 c)] w fun e w' => e = .returned (.tuple #[.bool (!(c == 0)), .nilIface]) ∧ w = w' := by
  have hi := indirect_any 107 (.int .i16 c) (by decide) (by decide)
  have n_bool := Tryd.no_bool 107 (by decide) (.int .i16 c)
  have n_int := Tryd.no_int 107 (by decide) (.int .i16 c)
  have n_int8 := Tryd.no_int8 107 (by decide) (.int .i16 c)
  have y := Tryd.is_int16 (.int .i16 c)
  go_enter Tryd.func35, Tryd.ntmps35
  go_wp2_with (go_at_call 77; refine (hi _).mono ?_; rintro e w' ⟨rfl, rfl⟩)
  go_ret2
  exact ⟨rfl, rfl⟩

theorem toBoolE_int32 (c : Int) (w : World) :
    Calls Tryd.prog 35 #[.iface 21 (.int .i32 c)] w fun e w' => e = .returned (.tuple #[.bool (!(c == 0)), .nilIface]) ∧ w = w' := by
  have hi := indirect_any 21 (.int .i32 c) (by decide) (by decide)
  have n_bool := Tryd.no_bool 21 (by decide) (.int .i32 c)
  have n_int := Tryd.no_int 21 (by decide) (.int .i32 c)
  have n_int8 := Tryd.no_int8 21 (by decide) (.int .i32 c)
  have n_int16 := Tryd.no_int16 21 (by decide) (.int .i32 c)
  have y := Tryd.is_int32 (.int .i32 c)
  go_enter Tryd.func35, Tryd.ntmps35
  go_wp2_with (go_at_call 77; refine (hi _).mono ?_; rintro e w' ⟨rfl, rfl⟩)
  go_ret2
  exact ⟨rfl, rfl⟩

theorem toBoolE_int64 (c : Int) (w : World) :
    Calls Tryd.prog 35 #[.iface 2 (.int .i64 c)] w fun e w' => e = .returned (.tuple #[.bool (!(c == 0)), .nilIface]) ∧ w = w' := by
  have hi := indirect_any 2 (.int .i64 c) (by decide) (by decide)
  have n_bool := Tryd.no_bool 2 (by decide) (.int .i64 c)
  have n_int := Tryd.no_int 2 (by decide) (.int .i64 c)
  have n_int8 := Tryd.no_int8 2 (by decide) (.int .i64 c)
  have n_int16 := Tryd.no_int16 2 (by decide) (.int .i64 c)
  have n_int32 := Tryd.no_int32 2 (by decide) (.int .i64 c)
  have y := Tryd.is_int64 (.int .i64 c)
  go_enter Tryd.func35, Tryd.ntmps35
  go_wp2_with (go_at_call 77; refine (hi _).mono ?_; rintro e w' ⟨rfl, rfl⟩)
  go_ret2
  exact ⟨rfl, rfl⟩

theorem toBoolE_uint (c : Int) (w : World) :
    Calls Tryd.prog 35 #[.iface 77 (.int .u64 c)] w fun e w' => e = .returned (.tuple #[.bool (!(c == 0)), .nilIface]) ∧ w = w' := by
  have hi := indirect_any 77 (.int .u64 c) (by decide) (by decide)
  have n_bool := Tryd.no_bool 77 (by decide) (.int .u64 c)
  have n_int := Tryd.no_int 77 (by decide) (.int .u64 c)
  have n_int8 := Tryd.no_int8 77 (by decide) (.int .u64 c)
  have n_int16 := Tryd.no_int16 77 (by decide) (.int .u64 c)
  have n_int32 := Tryd.no_int32 77 (by decide) (.int .u64 c)
  have n_int64 := Tryd.no_int64 77 (by decide) (.int .u64 c)
  have y := Tryd.is_uint (.int .u64 c)
  go_enter Tryd.func35, Tryd.ntmps35
  go_wp2_with (go_at_call 77; refine (hi _).mono ?_; rintro e w' ⟨rfl, rfl⟩)
  go_ret2
  exact ⟨rfl, rfl⟩

theorem toBoolE_uint8 (c : Int) (w : World) :
    Calls Tryd.prog 35 #[.iface 5 (.int .u8 c)] w fun e w' => e = .returned (.tuple #[.bool (!(c == 0)), .nilIface]) ∧ w = w' := by
  have hi := indirect_any 5 (.int .u8 c) (by decide) (by decide)
  have n_bool := Tryd.no_bool 5 (by decide) (.int .u8 c)
  have n_int := Tryd.no_int 5 (by decide) (.int .u8 c)
  have n_int8 := Tryd.no_int8 5 (by decide) (.int .u8 c)
  have n_int16 := Tryd.no_int16 5 (by decide) (.int .u8 c)
  have n_int32 := Tryd.no_int32 5 (by decide) (.int .u8 c)
  have n_int64 := Tryd.no_int64 5 (by decide) (.int .u8 c)
  have n_uint := Tryd.no_uint 5 (by decide) (.int .u8 c)
  have y := Tryd.is_uint8 (.int .u8 c)
  go_enter Tryd.func35, Tryd.ntmps35
  go_wp2_with (go_at_call 77; refine (hi _).mono ?_; rintro e w' ⟨rfl, rfl⟩)
  go_ret2
  exact ⟨rfl, rfl⟩

theorem toBoolE_uint16 (c : Int) (w : World) :
    Calls Tryd.prog 35 #[.iface 130 (.int .u16 c)] w fun e w' => e = .returned (.tuple #[.bool (!(c == 0)), .nilIface]) ∧ w = w' := by
  have hi := indirect_any 130 (.int .u16 c) (by decide) (by decide)
  have n_bool := Tryd.no_bool 130 (by decide) (.int .u16 c)
  have n_int := Tryd.no_int 130 (by decide) (.int .u16 c)
  have n_int8 := Tryd.no_int8 130 (by decide) (.int .u16 c)
  have n_int16 := Tryd.no_int16 130 (by decide) (.int .u16 c)
  have n_int32 := Tryd.no_int32 130 (by decide) (.int .u16 c)
  have n_int64 := Tryd.no_int64 130 (by decide) (.int .u16 c)
  have n_uint := Tryd.no_uint 130 (by decide) (.int .u16 c)
  have n_uint8 := Tryd.no_uint8 130 (by decide) (.int .u16 c)
  have y := Tryd.is_uint16 (.int .u16 c)
  go_enter Tryd.func35, Tryd.ntmps35
  go_wp2_with (go_at_call 77; refine (hi _).mono ?_; rintro e w' ⟨rfl, rfl⟩)
  go_ret2
  exact ⟨rfl, rfl⟩

theorem toBoolE_uint32 (c : Int) (w : World) :
    Calls Tryd.prog 35 #[.iface 131 (.int .u32 c)] w fun e w' => e = .returned (.tuple #[.bool (!(c == 0)), .nilIface]) ∧ w = w' := by
  have hi := indirect_any 131 (.int .u32 c) (by decide) (by decide)
  have n_bool := Tryd.no_bool 131 (by decide) (.int .u32 c)
  have n_int := Tryd.no_int 131 (by decide) (.int .u32 c)
  have n_int8 := Tryd.no_int8 131 (by decide) (.int .u32 c)
  have n_int16 := Tryd.no_int16 131 (by decide) (.int .u32 c)
  have n_int32 := Tryd.no_int32 131 (by decide) (.int .u32 c)
  have n_int64 := Tryd.no_int64 131 (by decide) (.int .u32 c)
  have n_uint := Tryd.no_uint 131 (by decide) (.int .u32 c)
  have n_uint8 := Tryd.no_uint8 131 (by decide) (.int .u32 c)
  have n_uint16 := Tryd.no_uint16 131 (by decide) (.int .u32 c)
  have y := Tryd.is_uint32 (.int .u32 c)
  go_enter Tryd.func35, Tryd.ntmps35
  go_wp2_with (go_at_call 77; refine (hi _).mono ?_; rintro e w' ⟨rfl, rfl⟩)
  go_ret2
  exact ⟨rfl, rfl⟩

theorem toBoolE_uint64 (c : Int) (w : World) :
    Calls Tryd.prog 35 #[.iface 22 (.int .u64 c)] w fun e w' => e = .returned (.tuple #[.bool (!(c == 0)), .nilIface]) ∧ w = w' := by
  have hi := indirect_any 22 (.int .u64 c) (by decide) (by decide)
  have n_bool := Tryd.no_bool 22 (by decide) (.int .u64 c)
  have n_int := Tryd.no_int 22 (by decide) (.int .u64 c)
  have n_int8 := Tryd.no_int8 22 (by decide) (.int .u64 c)
  have n_int16 := Tryd.no_int16 22 (by decide) (.int .u64 c)
  have n_int32 := Tryd.no_int32 22 (by decide) (.int .u64 c)
  have n_int64 := Tryd.no_int64 22 (by decide) (.int .u64 c)
  have n_uint := Tryd.no_uint 22 (by decide) (.int .u64 c)
  have n_uint8 := Tryd.no_uint8 22 (by decide) (.int .u64 c)
  have n_uint16 := Tryd.no_uint16 22 (by decide) (.int .u64 c)
  have n_uint32 := Tryd.no_uint32 22 (by decide) (.int .u64 c)
  have y := Tryd.is_uint64 (.int .u64 c)
  go_enter Tryd.func35, Tryd.ntmps35
  go_wp2_with (go_at_call 77; refine (hi _).mono ?_; rintro e w' ⟨rfl, rfl⟩)
  go_ret2
  exact ⟨rfl, rfl⟩

theorem toBoolE_float64 (f : Nat) (w : World) :
    Calls Tryd.prog 35 #[.iface 23 (.float .f64 f)] w fun e w' => e = .returned (.tuple #[.bool (FloatKind.f64.format.order f 0 != some Ordering.eq), .nilIface]) ∧ w = w' := by
  have hi := indirect_any 23 (.float .f64 f) (by decide) (by decide)
  have n_bool := Tryd.no_bool 23 (by decide) (.float .f64 f)
  have n_int := Tryd.no_int 23 (by decide) (.float .f64 f)
  have n_int8 := Tryd.no_int8 23 (by decide) (.float .f64 f)
  have n_int16 := Tryd.no_int16 23 (by decide) (.float .f64 f)
  have n_int32 := Tryd.no_int32 23 (by decide) (.float .f64 f)
  have n_int64 := Tryd.no_int64 23 (by decide) (.float .f64 f)
  have n_uint := Tryd.no_uint 23 (by decide) (.float .f64 f)
  have n_uint8 := Tryd.no_uint8 23 (by decide) (.float .f64 f)
  have n_uint16 := Tryd.no_uint16 23 (by decide) (.float .f64 f)
  have n_uint32 := Tryd.no_uint32 23 (by decide) (.float .f64 f)
  have n_uint64 := Tryd.no_uint64 23 (by decide) (.float .f64 f)
  have n_float32 := Tryd.no_float32 23 (by decide) (.float .f64 f)
  have y := Tryd.is_float64 (.float .f64 f)
  go_enter Tryd.func35, Tryd.ntmps35
  go_wp2_with (go_at_call 77; refine (hi _).mono ?_; rintro e w' ⟨rfl, rfl⟩)
  go_ret2
  exact ⟨rfl, rfl⟩

/-- What a number is, cut to a kind. -/
def cutI (a n : Int) : Int := if a = 3 then IntKind.i8.wrap n else if a = 4 then IntKind.i16.wrap n else if a = 5 then wrap32 n else n
def cutU (b u : Int) : Int := if b = 8 then IntKind.u8.wrap u else if b = 9 then IntKind.u16.wrap u else if b = 10 then IntKind.u32.wrap u else u
def nz (c : Int) : Bool := c != 0
def fnz (f : Nat) : Bool := FloatKind.f64.format.order f 0 != some Ordering.eq

theorem toBool_int (n u : Int) (f : Nat) (s : ByteArray) (w : World) (hn : -9223372036854775808 ≤ n ∧ n ≤ 9223372036854775807) (hu : 0 ≤ u ∧ u ≤ 18446744073709551615) :
    Calls Tryd.prog 11 #[anyOf 2 n u f s] w fun e w' => e = .returned (.tuple #[.bool (nz n), .bool true]) ∧ Below w.heap.size w w' := by
  have h1 := Lib.hid (fun W => value_int n u f s W hn hu)
  have h2 := Lib.hid (fun W => toBoolE_int n W)
  clear hn hu
  unfold anyOf at h1
  unfold anyOf
  go_enter Tryd.func11, Tryd.ntmps11
  go_wp2_with (first
    | (go_at_call 36; refine (h1.out _).mono ?_; rintro e w1 ⟨rfl, hb⟩)
    | (go_at_call 35; refine (h2.out _).mono ?_; rintro e w2 ⟨rfl, rfl⟩))
  go_quiet (fail)
  go_wp2
  go_ret2
  exact ⟨rfl, bdrew (((Below.refl _ _).alloc (Nat.le_refl _) _).trans (hb.mono (by simp))) _⟩

theorem toBool_int8 (n u : Int) (f : Nat) (s : ByteArray) (w : World) (hn : -9223372036854775808 ≤ n ∧ n ≤ 9223372036854775807) (hu : 0 ≤ u ∧ u ≤ 18446744073709551615) :
    Calls Tryd.prog 11 #[anyOf 3 n u f s] w fun e w' => e = .returned (.tuple #[.bool (nz (IntKind.i8.wrap n)), .bool true]) ∧ Below w.heap.size w w' := by
  have h1 := Lib.hid (fun W => value_int8 n u f s W hn hu)
  have h2 := Lib.hid (fun W => toBoolE_int8 (IntKind.i8.wrap n) W)
  clear hn hu
  unfold anyOf at h1
  unfold anyOf
  go_enter Tryd.func11, Tryd.ntmps11
  go_wp2_with (first
    | (go_at_call 36; refine (h1.out _).mono ?_; rintro e w1 ⟨rfl, hb⟩)
    | (go_at_call 35; refine (h2.out _).mono ?_; rintro e w2 ⟨rfl, rfl⟩))
  go_quiet (fail)
  go_wp2
  go_ret2
  exact ⟨rfl, bdrew (((Below.refl _ _).alloc (Nat.le_refl _) _).trans (hb.mono (by simp))) _⟩

theorem toBool_int16 (n u : Int) (f : Nat) (s : ByteArray) (w : World) (hn : -9223372036854775808 ≤ n ∧ n ≤ 9223372036854775807) (hu : 0 ≤ u ∧ u ≤ 18446744073709551615) :
    Calls Tryd.prog 11 #[anyOf 4 n u f s] w fun e w' => e = .returned (.tuple #[.bool (nz (IntKind.i16.wrap n)), .bool true]) ∧ Below w.heap.size w w' := by
  have h1 := Lib.hid (fun W => value_int16 n u f s W hn hu)
  have h2 := Lib.hid (fun W => toBoolE_int16 (IntKind.i16.wrap n) W)
  clear hn hu
  unfold anyOf at h1
  unfold anyOf
  go_enter Tryd.func11, Tryd.ntmps11
  go_wp2_with (first
    | (go_at_call 36; refine (h1.out _).mono ?_; rintro e w1 ⟨rfl, hb⟩)
    | (go_at_call 35; refine (h2.out _).mono ?_; rintro e w2 ⟨rfl, rfl⟩))
  go_quiet (fail)
  go_wp2
  go_ret2
  exact ⟨rfl, bdrew (((Below.refl _ _).alloc (Nat.le_refl _) _).trans (hb.mono (by simp))) _⟩

theorem toBool_int32 (n u : Int) (f : Nat) (s : ByteArray) (w : World) (hn : -9223372036854775808 ≤ n ∧ n ≤ 9223372036854775807) (hu : 0 ≤ u ∧ u ≤ 18446744073709551615) :
    Calls Tryd.prog 11 #[anyOf 5 n u f s] w fun e w' => e = .returned (.tuple #[.bool (nz (wrap32 n)), .bool true]) ∧ Below w.heap.size w w' := by
  have h1 := Lib.hid (fun W => value_int32 n u f s W hn hu)
  have h2 := Lib.hid (fun W => toBoolE_int32 (wrap32 n) W)
  clear hn hu
  unfold anyOf at h1
  unfold anyOf
  go_enter Tryd.func11, Tryd.ntmps11
  go_wp2_with (first
    | (go_at_call 36; refine (h1.out _).mono ?_; rintro e w1 ⟨rfl, hb⟩)
    | (go_at_call 35; refine (h2.out _).mono ?_; rintro e w2 ⟨rfl, rfl⟩))
  go_quiet (fail)
  go_wp2
  go_ret2
  exact ⟨rfl, bdrew (((Below.refl _ _).alloc (Nat.le_refl _) _).trans (hb.mono (by simp))) _⟩

theorem toBool_int64 (n u : Int) (f : Nat) (s : ByteArray) (w : World) (hn : -9223372036854775808 ≤ n ∧ n ≤ 9223372036854775807) (hu : 0 ≤ u ∧ u ≤ 18446744073709551615) :
    Calls Tryd.prog 11 #[anyOf 6 n u f s] w fun e w' => e = .returned (.tuple #[.bool (nz n), .bool true]) ∧ Below w.heap.size w w' := by
  have h1 := Lib.hid (fun W => value_int64 n u f s W hn hu)
  have h2 := Lib.hid (fun W => toBoolE_int64 n W)
  clear hn hu
  unfold anyOf at h1
  unfold anyOf
  go_enter Tryd.func11, Tryd.ntmps11
  go_wp2_with (first
    | (go_at_call 36; refine (h1.out _).mono ?_; rintro e w1 ⟨rfl, hb⟩)
    | (go_at_call 35; refine (h2.out _).mono ?_; rintro e w2 ⟨rfl, rfl⟩))
  go_quiet (fail)
  go_wp2
  go_ret2
  exact ⟨rfl, bdrew (((Below.refl _ _).alloc (Nat.le_refl _) _).trans (hb.mono (by simp))) _⟩

theorem toBool_uint (n u : Int) (f : Nat) (s : ByteArray) (w : World) (hn : -9223372036854775808 ≤ n ∧ n ≤ 9223372036854775807) (hu : 0 ≤ u ∧ u ≤ 18446744073709551615) :
    Calls Tryd.prog 11 #[anyOf 7 n u f s] w fun e w' => e = .returned (.tuple #[.bool (nz u), .bool true]) ∧ Below w.heap.size w w' := by
  have h1 := Lib.hid (fun W => value_uint n u f s W hn hu)
  have h2 := Lib.hid (fun W => toBoolE_uint u W)
  clear hn hu
  unfold anyOf at h1
  unfold anyOf
  go_enter Tryd.func11, Tryd.ntmps11
  go_wp2_with (first
    | (go_at_call 36; refine (h1.out _).mono ?_; rintro e w1 ⟨rfl, hb⟩)
    | (go_at_call 35; refine (h2.out _).mono ?_; rintro e w2 ⟨rfl, rfl⟩))
  go_quiet (fail)
  go_wp2
  go_ret2
  exact ⟨rfl, bdrew (((Below.refl _ _).alloc (Nat.le_refl _) _).trans (hb.mono (by simp))) _⟩

theorem toBool_uint8 (n u : Int) (f : Nat) (s : ByteArray) (w : World) (hn : -9223372036854775808 ≤ n ∧ n ≤ 9223372036854775807) (hu : 0 ≤ u ∧ u ≤ 18446744073709551615) :
    Calls Tryd.prog 11 #[anyOf 8 n u f s] w fun e w' => e = .returned (.tuple #[.bool (nz (IntKind.u8.wrap u)), .bool true]) ∧ Below w.heap.size w w' := by
  have h1 := Lib.hid (fun W => value_uint8 n u f s W hn hu)
  have h2 := Lib.hid (fun W => toBoolE_uint8 (IntKind.u8.wrap u) W)
  clear hn hu
  unfold anyOf at h1
  unfold anyOf
  go_enter Tryd.func11, Tryd.ntmps11
  go_wp2_with (first
    | (go_at_call 36; refine (h1.out _).mono ?_; rintro e w1 ⟨rfl, hb⟩)
    | (go_at_call 35; refine (h2.out _).mono ?_; rintro e w2 ⟨rfl, rfl⟩))
  go_quiet (fail)
  go_wp2
  go_ret2
  exact ⟨rfl, bdrew (((Below.refl _ _).alloc (Nat.le_refl _) _).trans (hb.mono (by simp))) _⟩

theorem toBool_uint16 (n u : Int) (f : Nat) (s : ByteArray) (w : World) (hn : -9223372036854775808 ≤ n ∧ n ≤ 9223372036854775807) (hu : 0 ≤ u ∧ u ≤ 18446744073709551615) :
    Calls Tryd.prog 11 #[anyOf 9 n u f s] w fun e w' => e = .returned (.tuple #[.bool (nz (IntKind.u16.wrap u)), .bool true]) ∧ Below w.heap.size w w' := by
  have h1 := Lib.hid (fun W => value_uint16 n u f s W hn hu)
  have h2 := Lib.hid (fun W => toBoolE_uint16 (IntKind.u16.wrap u) W)
  clear hn hu
  unfold anyOf at h1
  unfold anyOf
  go_enter Tryd.func11, Tryd.ntmps11
  go_wp2_with (first
    | (go_at_call 36; refine (h1.out _).mono ?_; rintro e w1 ⟨rfl, hb⟩)
    | (go_at_call 35; refine (h2.out _).mono ?_; rintro e w2 ⟨rfl, rfl⟩))
  go_quiet (fail)
  go_wp2
  go_ret2
  exact ⟨rfl, bdrew (((Below.refl _ _).alloc (Nat.le_refl _) _).trans (hb.mono (by simp))) _⟩

theorem toBool_uint32 (n u : Int) (f : Nat) (s : ByteArray) (w : World) (hn : -9223372036854775808 ≤ n ∧ n ≤ 9223372036854775807) (hu : 0 ≤ u ∧ u ≤ 18446744073709551615) :
    Calls Tryd.prog 11 #[anyOf 10 n u f s] w fun e w' => e = .returned (.tuple #[.bool (nz (IntKind.u32.wrap u)), .bool true]) ∧ Below w.heap.size w w' := by
  have h1 := Lib.hid (fun W => value_uint32 n u f s W hn hu)
  have h2 := Lib.hid (fun W => toBoolE_uint32 (IntKind.u32.wrap u) W)
  clear hn hu
  unfold anyOf at h1
  unfold anyOf
  go_enter Tryd.func11, Tryd.ntmps11
  go_wp2_with (first
    | (go_at_call 36; refine (h1.out _).mono ?_; rintro e w1 ⟨rfl, hb⟩)
    | (go_at_call 35; refine (h2.out _).mono ?_; rintro e w2 ⟨rfl, rfl⟩))
  go_quiet (fail)
  go_wp2
  go_ret2
  exact ⟨rfl, bdrew (((Below.refl _ _).alloc (Nat.le_refl _) _).trans (hb.mono (by simp))) _⟩

theorem toBool_uint64 (n u : Int) (f : Nat) (s : ByteArray) (w : World) (hn : -9223372036854775808 ≤ n ∧ n ≤ 9223372036854775807) (hu : 0 ≤ u ∧ u ≤ 18446744073709551615) :
    Calls Tryd.prog 11 #[anyOf 11 n u f s] w fun e w' => e = .returned (.tuple #[.bool (nz u), .bool true]) ∧ Below w.heap.size w w' := by
  have h1 := Lib.hid (fun W => value_uint64 n u f s W hn hu)
  have h2 := Lib.hid (fun W => toBoolE_uint64 u W)
  clear hn hu
  unfold anyOf at h1
  unfold anyOf
  go_enter Tryd.func11, Tryd.ntmps11
  go_wp2_with (first
    | (go_at_call 36; refine (h1.out _).mono ?_; rintro e w1 ⟨rfl, hb⟩)
    | (go_at_call 35; refine (h2.out _).mono ?_; rintro e w2 ⟨rfl, rfl⟩))
  go_quiet (fail)
  go_wp2
  go_ret2
  exact ⟨rfl, bdrew (((Below.refl _ _).alloc (Nat.le_refl _) _).trans (hb.mono (by simp))) _⟩

theorem toBool_float64 (n u : Int) (f : Nat) (s : ByteArray) (w : World) (hn : -9223372036854775808 ≤ n ∧ n ≤ 9223372036854775807) (hu : 0 ≤ u ∧ u ≤ 18446744073709551615) :
    Calls Tryd.prog 11 #[anyOf 13 n u f s] w fun e w' => e = .returned (.tuple #[.bool (fnz f), .bool true]) ∧ Below w.heap.size w w' := by
  have h1 := Lib.hid (fun W => value_float64 n u f s W hn hu)
  have h2 := Lib.hid (fun W => toBoolE_float64 f W)
  clear hn hu
  unfold anyOf at h1
  unfold anyOf
  go_enter Tryd.func11, Tryd.ntmps11
  go_wp2_with (first
    | (go_at_call 36; refine (h1.out _).mono ?_; rintro e w1 ⟨rfl, hb⟩)
    | (go_at_call 35; refine (h2.out _).mono ?_; rintro e w2 ⟨rfl, rfl⟩))
  go_quiet (fail)
  go_wp2
  go_ret2
  exact ⟨rfl, bdrew (((Below.refl _ _).alloc (Nat.le_refl _) _).trans (hb.mono (by simp))) _⟩

theorem toBoolI (a n u : Int) (f : Nat) (s : ByteArray) (w : World) (ha : 2 ≤ a ∧ a ≤ 6) (hn : -9223372036854775808 ≤ n ∧ n ≤ 9223372036854775807) (hu : 0 ≤ u ∧ u ≤ 18446744073709551615) :
    Calls Tryd.prog 11 #[anyOf a n u f s] w fun e w' => e = .returned (.tuple #[.bool (nz (cutI a n)), .bool true]) ∧ Below w.heap.size w w' := by
  have h : a = 2 ∨ a = 3 ∨ a = 4 ∨ a = 5 ∨ a = 6 := by omega
  rcases h with rfl | rfl | rfl | rfl | rfl
  · exact toBool_int n u f s w hn hu
  · exact toBool_int8 n u f s w hn hu
  · exact toBool_int16 n u f s w hn hu
  · exact toBool_int32 n u f s w hn hu
  · exact toBool_int64 n u f s w hn hu

theorem toBoolU (b n u : Int) (f : Nat) (s : ByteArray) (w : World) (hb : 7 ≤ b ∧ b ≤ 11) (hn : -9223372036854775808 ≤ n ∧ n ≤ 9223372036854775807) (hu : 0 ≤ u ∧ u ≤ 18446744073709551615) :
    Calls Tryd.prog 11 #[anyOf b n u f s] w fun e w' => e = .returned (.tuple #[.bool (nz (cutU b u)), .bool true]) ∧ Below w.heap.size w w' := by
  have h : b = 7 ∨ b = 8 ∨ b = 9 ∨ b = 10 ∨ b = 11 := by omega
  rcases h with rfl | rfl | rfl | rfl | rfl
  · exact toBool_uint n u f s w hn hu
  · exact toBool_uint8 n u f s w hn hu
  · exact toBool_uint16 n u f s w hn hu
  · exact toBool_uint32 n u f s w hn hu
  · exact toBool_uint64 n u f s w hn hu

end Go.Proofs.YtjfgebgkdpomiaaDoor.E
