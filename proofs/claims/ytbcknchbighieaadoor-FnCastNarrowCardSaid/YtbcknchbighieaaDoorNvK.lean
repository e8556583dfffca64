/- What impl.value does of each plain kind, and the cuts, for laws.FnCastNarrow, over this seat's program. Written by gen_nar.py. -/
import Derived.Test.YtbcknchbighieaaDoorKit
import Derived.WalkLawsBesides
import Derived.WalkSpells
import Derived.Laws.FloatArith
namespace Go.Proofs.YtbcknchbighieaaDoor.E
open Go.RowKit
set_option linter.unusedVariables false
set_option linter.unusedSimpArgs false

/-- An assertion to a concrete type: another type, or that. -/
theorem assert_no {P : Program} {A xT T : TypeId} {d : TypeDesc} {v z : Value} (hu : P.underlying A = some d) (hd : ∀ m, d ≠ .interface m) (hz : (P.info? A).map (·.zero) = some (some z)) (hne : T ≠ A) (w : World) :
    (Instr.typeAssert (.iface T v) xT A true).run P w = .ok (.tuple #[z, .bool false]) w := by
  obtain ⟨i, hi, hz'⟩ := Option.map_eq_some_iff.1 hz
  cases d with
  | interface m => exact absurd rfl (hd m)
  | _ => simp [Instr.typeAssert, run_underlying hu, zeroValue, typeInfo, hi, hz', hne]
theorem assert_yes {P : Program} {A xT : TypeId} {d : TypeDesc} {v : Value} (hu : P.underlying A = some d) (hd : ∀ m, d ≠ .interface m) (w : World) :
    (Instr.typeAssert (.iface A v) xT A true).run P w = .ok (.tuple #[v, .bool true]) w := by
  cases d with
  | interface m => exact absurd rfl (hd m)
  | _ => simp [Instr.typeAssert, run_underlying hu]

theorem Tryd.no_pint (T : TypeId) (h : T ≠ 73) (v : Value) (w : World) : (Instr.typeAssert (.iface T v) 20 73 true).run Tryd.prog w = .ok (.tuple #[.pointer none, .bool false]) w := assert_no Tryd.underlying73 (by intro m h; cases h) (by kernel_rfl) h w
theorem Tryd.no_pstring (T : TypeId) (h : T ≠ 74) (v : Value) (w : World) : (Instr.typeAssert (.iface T v) 20 74 true).run Tryd.prog w = .ok (.tuple #[.pointer none, .bool false]) w := assert_no Tryd.underlying74 (by intro m h; cases h) (by kernel_rfl) h w
theorem Tryd.no_bool (T : TypeId) (h : T ≠ 4) (v : Value) (w : World) : (Instr.typeAssert (.iface T v) 20 4 true).run Tryd.prog w = .ok (.tuple #[.bool false, .bool false]) w := assert_no Tryd.underlying4 (by intro m h; cases h) (by kernel_rfl) h w
theorem Tryd.is_bool (v : Value) (w : World) : (Instr.typeAssert (.iface 4 v) 20 4 true).run Tryd.prog w = .ok (.tuple #[v, .bool true]) w := assert_yes Tryd.underlying4 (by intro m h; cases h) w
theorem Tryd.no_int (T : TypeId) (h : T ≠ 3) (v : Value) (w : World) : (Instr.typeAssert (.iface T v) 20 3 true).run Tryd.prog w = .ok (.tuple #[.int .i64 0, .bool false]) w := assert_no Tryd.underlying3 (by intro m h; cases h) (by kernel_rfl) h w
theorem Tryd.is_int (v : Value) (w : World) : (Instr.typeAssert (.iface 3 v) 20 3 true).run Tryd.prog w = .ok (.tuple #[v, .bool true]) w := assert_yes Tryd.underlying3 (by intro m h; cases h) w
theorem Tryd.no_int8 (T : TypeId) (h : T ≠ 44) (v : Value) (w : World) : (Instr.typeAssert (.iface T v) 20 44 true).run Tryd.prog w = .ok (.tuple #[.int .i8 0, .bool false]) w := assert_no Tryd.underlying44 (by intro m h; cases h) (by kernel_rfl) h w
theorem Tryd.is_int8 (v : Value) (w : World) : (Instr.typeAssert (.iface 44 v) 20 44 true).run Tryd.prog w = .ok (.tuple #[v, .bool true]) w := assert_yes Tryd.underlying44 (by intro m h; cases h) w
theorem Tryd.no_int16 (T : TypeId) (h : T ≠ 45) (v : Value) (w : World) : (Instr.typeAssert (.iface T v) 20 45 true).run Tryd.prog w = .ok (.tuple #[.int .i16 0, .bool false]) w := assert_no Tryd.underlying45 (by intro m h; cases h) (by kernel_rfl) h w
theorem Tryd.is_int16 (v : Value) (w : World) : (Instr.typeAssert (.iface 45 v) 20 45 true).run Tryd.prog w = .ok (.tuple #[v, .bool true]) w := assert_yes Tryd.underlying45 (by intro m h; cases h) w
theorem Tryd.no_int32 (T : TypeId) (h : T ≠ 21) (v : Value) (w : World) : (Instr.typeAssert (.iface T v) 20 21 true).run Tryd.prog w = .ok (.tuple #[.int .i32 0, .bool false]) w := assert_no Tryd.underlying21 (by intro m h; cases h) (by kernel_rfl) h w
theorem Tryd.is_int32 (v : Value) (w : World) : (Instr.typeAssert (.iface 21 v) 20 21 true).run Tryd.prog w = .ok (.tuple #[v, .bool true]) w := assert_yes Tryd.underlying21 (by intro m h; cases h) w
theorem Tryd.no_int64 (T : TypeId) (h : T ≠ 2) (v : Value) (w : World) : (Instr.typeAssert (.iface T v) 20 2 true).run Tryd.prog w = .ok (.tuple #[.int .i64 0, .bool false]) w := assert_no Tryd.underlying2 (by intro m h; cases h) (by kernel_rfl) h w
theorem Tryd.is_int64 (v : Value) (w : World) : (Instr.typeAssert (.iface 2 v) 20 2 true).run Tryd.prog w = .ok (.tuple #[v, .bool true]) w := assert_yes Tryd.underlying2 (by intro m h; cases h) w
theorem Tryd.no_uint (T : TypeId) (h : T ≠ 38) (v : Value) (w : World) : (Instr.typeAssert (.iface T v) 20 38 true).run Tryd.prog w = .ok (.tuple #[.int .u64 0, .bool false]) w := assert_no Tryd.underlying38 (by intro m h; cases h) (by kernel_rfl) h w
theorem Tryd.is_uint (v : Value) (w : World) : (Instr.typeAssert (.iface 38 v) 20 38 true).run Tryd.prog w = .ok (.tuple #[v, .bool true]) w := assert_yes Tryd.underlying38 (by intro m h; cases h) w
theorem Tryd.no_uint8 (T : TypeId) (h : T ≠ 5) (v : Value) (w : World) : (Instr.typeAssert (.iface T v) 20 5 true).run Tryd.prog w = .ok (.tuple #[.int .u8 0, .bool false]) w := assert_no Tryd.underlying5 (by intro m h; cases h) (by kernel_rfl) h w
theorem Tryd.is_uint8 (v : Value) (w : World) : (Instr.typeAssert (.iface 5 v) 20 5 true).run Tryd.prog w = .ok (.tuple #[v, .bool true]) w := assert_yes Tryd.underlying5 (by intro m h; cases h) w
theorem Tryd.no_uint16 (T : TypeId) (h : T ≠ 48) (v : Value) (w : World) : (Instr.typeAssert (.iface T v) 20 48 true).run Tryd.prog w = .ok (.tuple #[.int .u16 0, .bool false]) w := assert_no Tryd.underlying48 (by intro m h; cases h) (by kernel_rfl) h w
theorem Tryd.is_uint16 (v : Value) (w : World) : (Instr.typeAssert (.iface 48 v) 20 48 true).run Tryd.prog w = .ok (.tuple #[v, .bool true]) w := assert_yes Tryd.underlying48 (by intro m h; cases h) w
theorem Tryd.no_uint32 (T : TypeId) (h : T ≠ 49) (v : Value) (w : World) : (Instr.typeAssert (.iface T v) 20 49 true).run Tryd.prog w = .ok (.tuple #[.int .u32 0, .bool false]) w := assert_no Tryd.underlying49 (by intro m h; cases h) (by kernel_rfl) h w
theorem Tryd.is_uint32 (v : Value) (w : World) : (Instr.typeAssert (.iface 49 v) 20 49 true).run Tryd.prog w = .ok (.tuple #[v, .bool true]) w := assert_yes Tryd.underlying49 (by intro m h; cases h) w
theorem Tryd.no_uint64 (T : TypeId) (h : T ≠ 22) (v : Value) (w : World) : (Instr.typeAssert (.iface T v) 20 22 true).run Tryd.prog w = .ok (.tuple #[.int .u64 0, .bool false]) w := assert_no Tryd.underlying22 (by intro m h; cases h) (by kernel_rfl) h w
theorem Tryd.is_uint64 (v : Value) (w : World) : (Instr.typeAssert (.iface 22 v) 20 22 true).run Tryd.prog w = .ok (.tuple #[v, .bool true]) w := assert_yes Tryd.underlying22 (by intro m h; cases h) w
theorem Tryd.no_float32 (T : TypeId) (h : T ≠ 50) (v : Value) (w : World) : (Instr.typeAssert (.iface T v) 20 50 true).run Tryd.prog w = .ok (.tuple #[.float .f32 0, .bool false]) w := assert_no Tryd.underlying50 (by intro m h; cases h) (by kernel_rfl) h w
theorem Tryd.is_float32 (v : Value) (w : World) : (Instr.typeAssert (.iface 50 v) 20 50 true).run Tryd.prog w = .ok (.tuple #[v, .bool true]) w := assert_yes Tryd.underlying50 (by intro m h; cases h) w
theorem Tryd.no_float64 (T : TypeId) (h : T ≠ 23) (v : Value) (w : World) : (Instr.typeAssert (.iface T v) 20 23 true).run Tryd.prog w = .ok (.tuple #[.float .f64 0, .bool false]) w := assert_no Tryd.underlying23 (by intro m h; cases h) (by kernel_rfl) h w
theorem Tryd.is_float64 (v : Value) (w : World) : (Instr.typeAssert (.iface 23 v) 20 23 true).run Tryd.prog w = .ok (.tuple #[v, .bool true]) w := assert_yes Tryd.underlying23 (by intro m h; cases h) w
theorem Tryd.no_string (T : TypeId) (h : T ≠ 9) (v : Value) (w : World) : (Instr.typeAssert (.iface T v) 20 9 true).run Tryd.prog w = .ok (.tuple #[.string ⟨#[]⟩, .bool false]) w := assert_no Tryd.underlying9 (by intro m h; cases h) (by kernel_rfl) h w
theorem Tryd.is_string (v : Value) (w : World) : (Instr.typeAssert (.iface 9 v) 20 9 true).run Tryd.prog w = .ok (.tuple #[v, .bool true]) w := assert_yes Tryd.underlying9 (by intro m h; cases h) w

theorem indirect_any (T : TypeId) (v : Value) (h1 : T ≠ 73) (h2 : T ≠ 74) (w : World) : Calls Tryd.prog 41 #[.iface T v] w fun e w' => e = .returned (.tuple #[.iface T v, .bool false]) ∧ w = w' := by
  have t1 := Tryd.no_pint T h1 v
  have t2 := Tryd.no_pstring T h2 v
  go_enter Tryd.func41, Tryd.ntmps41
  go_wp2
  go_ret2
  exact ⟨rfl, rfl⟩

/-- An impl.Any of a plain kind. -/
def anyOf (k n u : Int) (f : Nat) (s : ByteArray) : Value := .agg #[.int .i64 k, .int .i64 n, .int .u64 u, .float .f64 f, .string s, .slice none 0 0, .slice none 0 0]

theorem value_int (n u : Int) (f : Nat) (s : ByteArray) (w : World) (hn : -9223372036854775808 ≤ n ∧ n ≤ 9223372036854775807) (hu : 0 ≤ u ∧ u ≤ 18446744073709551615) :
    Calls Tryd.prog 13 #[anyOf 2 n u f s] w fun e w' => e = .returned (.iface 3 (.int .i64 n)) ∧ Below w.heap.size w w' := by
  unfold anyOf
  clear hn hu
  go_enter Tryd.func13, Tryd.ntmps13
  go_wp2
  go_ret
  exact ⟨rfl, (Below.refl _ _).alloc (Nat.le_refl _) _⟩

theorem value_int8 (n u : Int) (f : Nat) (s : ByteArray) (w : World) (hn : -9223372036854775808 ≤ n ∧ n ≤ 9223372036854775807) (hu : 0 ≤ u ∧ u ≤ 18446744073709551615) :
    Calls Tryd.prog 13 #[anyOf 3 n u f s] w fun e w' => e = .returned (.iface 44 (.int .i8 (IntKind.i8.wrap n))) ∧ Below w.heap.size w w' := by
  unfold anyOf
  clear hn hu
  go_enter Tryd.func13, Tryd.ntmps13
  go_wp2
  go_ret
  exact ⟨rfl, (Below.refl _ _).alloc (Nat.le_refl _) _⟩

theorem value_int16 (n u : Int) (f : Nat) (s : ByteArray) (w : World) (hn : -9223372036854775808 ≤ n ∧ n ≤ 9223372036854775807) (hu : 0 ≤ u ∧ u ≤ 18446744073709551615) :
    Calls Tryd.prog 13 #[anyOf 4 n u f s] w fun e w' => e = .returned (.iface 45 (.int .i16 (IntKind.i16.wrap n))) ∧ Below w.heap.size w w' := by
  unfold anyOf
  clear hn hu
  go_enter Tryd.func13, Tryd.ntmps13
  go_wp2
  go_ret
  exact ⟨rfl, (Below.refl _ _).alloc (Nat.le_refl _) _⟩

theorem value_int32 (n u : Int) (f : Nat) (s : ByteArray) (w : World) (hn : -9223372036854775808 ≤ n ∧ n ≤ 9223372036854775807) (hu : 0 ≤ u ∧ u ≤ 18446744073709551615) :
    Calls Tryd.prog 13 #[anyOf 5 n u f s] w fun e w' => e = .returned (.iface 21 (.int .i32 (wrap32 n))) ∧ Below w.heap.size w w' := by
  unfold anyOf
  clear hn hu
  go_enter Tryd.func13, Tryd.ntmps13
  go_wp2
  go_ret
  exact ⟨rfl, (Below.refl _ _).alloc (Nat.le_refl _) _⟩

theorem value_int64 (n u : Int) (f : Nat) (s : ByteArray) (w : World) (hn : -9223372036854775808 ≤ n ∧ n ≤ 9223372036854775807) (hu : 0 ≤ u ∧ u ≤ 18446744073709551615) :
    Calls Tryd.prog 13 #[anyOf 6 n u f s] w fun e w' => e = .returned (.iface 2 (.int .i64 n)) ∧ Below w.heap.size w w' := by
  unfold anyOf
  clear hn hu
  go_enter Tryd.func13, Tryd.ntmps13
  go_wp2
  go_ret
  exact ⟨rfl, (Below.refl _ _).alloc (Nat.le_refl _) _⟩

theorem value_uint (n u : Int) (f : Nat) (s : ByteArray) (w : World) (hn : -9223372036854775808 ≤ n ∧ n ≤ 9223372036854775807) (hu : 0 ≤ u ∧ u ≤ 18446744073709551615) :
    Calls Tryd.prog 13 #[anyOf 7 n u f s] w fun e w' => e = .returned (.iface 38 (.int .u64 u)) ∧ Below w.heap.size w w' := by
  unfold anyOf
  clear hn hu
  go_enter Tryd.func13, Tryd.ntmps13
  go_wp2
  go_ret
  exact ⟨rfl, (Below.refl _ _).alloc (Nat.le_refl _) _⟩

theorem value_uint8 (n u : Int) (f : Nat) (s : ByteArray) (w : World) (hn : -9223372036854775808 ≤ n ∧ n ≤ 9223372036854775807) (hu : 0 ≤ u ∧ u ≤ 18446744073709551615) :
    Calls Tryd.prog 13 #[anyOf 8 n u f s] w fun e w' => e = .returned (.iface 5 (.int .u8 (IntKind.u8.wrap u))) ∧ Below w.heap.size w w' := by
  unfold anyOf
  clear hn hu
  go_enter Tryd.func13, Tryd.ntmps13
  go_wp2
  go_ret
  exact ⟨rfl, (Below.refl _ _).alloc (Nat.le_refl _) _⟩

theorem value_uint16 (n u : Int) (f : Nat) (s : ByteArray) (w : World) (hn : -9223372036854775808 ≤ n ∧ n ≤ 9223372036854775807) (hu : 0 ≤ u ∧ u ≤ 18446744073709551615) :
    Calls Tryd.prog 13 #[anyOf 9 n u f s] w fun e w' => e = .returned (.iface 48 (.int .u16 (IntKind.u16.wrap u))) ∧ Below w.heap.size w w' := by
  unfold anyOf
  clear hn hu
  go_enter Tryd.func13, Tryd.ntmps13
  go_wp2
  go_ret
  exact ⟨rfl, (Below.refl _ _).alloc (Nat.le_refl _) _⟩

theorem value_uint32 (n u : Int) (f : Nat) (s : ByteArray) (w : World) (hn : -9223372036854775808 ≤ n ∧ n ≤ 9223372036854775807) (hu : 0 ≤ u ∧ u ≤ 18446744073709551615) :
    Calls Tryd.prog 13 #[anyOf 10 n u f s] w fun e w' => e = .returned (.iface 49 (.int .u32 (IntKind.u32.wrap u))) ∧ Below w.heap.size w w' := by
  unfold anyOf
  clear hn hu
  go_enter Tryd.func13, Tryd.ntmps13
  go_wp2
  go_ret
  exact ⟨rfl, (Below.refl _ _).alloc (Nat.le_refl _) _⟩

theorem value_uint64 (n u : Int) (f : Nat) (s : ByteArray) (w : World) (hn : -9223372036854775808 ≤ n ∧ n ≤ 9223372036854775807) (hu : 0 ≤ u ∧ u ≤ 18446744073709551615) :
    Calls Tryd.prog 13 #[anyOf 11 n u f s] w fun e w' => e = .returned (.iface 22 (.int .u64 u)) ∧ Below w.heap.size w w' := by
  unfold anyOf
  clear hn hu
  go_enter Tryd.func13, Tryd.ntmps13
  go_wp2
  go_ret
  exact ⟨rfl, (Below.refl _ _).alloc (Nat.le_refl _) _⟩

theorem value_float64 (n u : Int) (f : Nat) (s : ByteArray) (w : World) (hn : -9223372036854775808 ≤ n ∧ n ≤ 9223372036854775807) (hu : 0 ≤ u ∧ u ≤ 18446744073709551615) :
    Calls Tryd.prog 13 #[anyOf 13 n u f s] w fun e w' => e = .returned (.iface 23 (.float .f64 f)) ∧ Below w.heap.size w w' := by
  unfold anyOf
  clear hn hu
  go_enter Tryd.func13, Tryd.ntmps13
  go_wp2
  go_ret
  exact ⟨rfl, (Below.refl _ _).alloc (Nat.le_refl _) _⟩

theorem value_string (n u : Int) (f : Nat) (s : ByteArray) (w : World) (hn : -9223372036854775808 ≤ n ∧ n ≤ 9223372036854775807) (hu : 0 ≤ u ∧ u ≤ 18446744073709551615) :
    Calls Tryd.prog 13 #[anyOf 14 n u f s] w fun e w' => e = .returned (.iface 9 (.string s)) ∧ Below w.heap.size w w' := by
  unfold anyOf
  clear hn hu
  go_enter Tryd.func13, Tryd.ntmps13
  go_wp2
  go_ret
  exact ⟨rfl, (Below.refl _ _).alloc (Nat.le_refl _) _⟩


def cutI (a n : Int) : Int := if a = 3 then IntKind.i8.wrap n else if a = 4 then IntKind.i16.wrap n else if a = 5 then wrap32 n else n
def cutU (b u : Int) : Int := if b = 8 then IntKind.u8.wrap u else if b = 9 then IntKind.u16.wrap u else if b = 10 then IntKind.u32.wrap u else u
def nz (c : Int) : Bool := c != 0
/-- One block was laid ahead. -/
theorem below_new {w w1 : World} {o : Obj} (h : Below (w.alloc o).heap.size (w.alloc o) w1) : Below w.heap.size w w1 := ((Below.refl _ _).alloc (Nat.le_refl _) _).trans (h.mono (by simp))

def kindI (k : Int) : Int := 2 + k % 18446744073709551616 % 5
def kindU (k : Int) : Int := 7 + k % 18446744073709551616 % 5
theorem kindI_range (k : Int) : 2 ≤ kindI k ∧ kindI k ≤ 6 := by unfold kindI; omega
theorem kindU_range (k : Int) : 7 ≤ kindU k ∧ kindU k ≤ 11 := by unfold kindU; omega

theorem ret_num {k : IntKind} {a b : Int} (h : a = b) : Ending.returned (.int k a) = .returned (.int k b) := by rw [h]
theorem u64_tmod (k : Int) : (IntKind.u64.wrap k).tmod 5 = k % 18446744073709551616 % 5 := by
  have e : IntKind.u64.wrap k = k % 18446744073709551616 := by simp [IntKind.wrap, IntKind.bits, IntKind.signed]
  rw [e, Int.tmod_eq_emod_of_nonneg (by omega)]
theorem kindI_eq (k : Int) : wrap64 (2 + wrap64 ((IntKind.u64.wrap k).tmod 5)) = kindI k := by
  rw [u64_tmod]; unfold kindI wrap64; omega
theorem kindU_eq (k : Int) : wrap64 (7 + wrap64 ((IntKind.u64.wrap k).tmod 5)) = kindU k := by
  rw [u64_tmod]; unfold kindU wrap64; omega

theorem castKindInt_any (k : Int) (w : World) : Calls Tryd.prog 6 #[.int .i64 k] w fun e w' => e = .returned (.int .i64 (kindI k)) ∧ w = w' := by
  go_enter Tryd.func6, Tryd.ntmps6
  go_wp2
  go_ret
  exact ⟨ret_num (kindI_eq k), rfl⟩

theorem castCutInt_any (a n : Int) (w : World) (ha : 2 ≤ a ∧ a ≤ 6) (hn : -9223372036854775808 ≤ n ∧ n ≤ 9223372036854775807) :
    Calls Tryd.prog 9 #[.int .i64 a, .int .i64 n] w fun e w' => e = .returned (.int .i64 (cutI a n)) ∧ w = w' := by
  have h : a = 2 ∨ a = 3 ∨ a = 4 ∨ a = 5 ∨ a = 6 := by omega
  clear hn ha
  rcases h with rfl | rfl | rfl | rfl | rfl
  all_goals
    go_enter Tryd.func9, Tryd.ntmps9
    go_wp2
    go_ret
    exact ⟨ret_num (by simp [cutI, IntKind.wrap, IntKind.bits, IntKind.signed, wrap64, wrap32]; try omega), rfl⟩

theorem Tryd.no_Weekday (T : TypeId) (h : T ≠ 107) (v : Value) (w : World) : (Instr.typeAssert (.iface T v) 20 107 true).run Tryd.prog w = .ok (.tuple #[.int .i64 0, .bool false]) w := assert_no Tryd.underlying107 (by intro m h; cases h) (by kernel_rfl) h w
theorem Tryd.no_Month (T : TypeId) (h : T ≠ 108) (v : Value) (w : World) : (Instr.typeAssert (.iface T v) 20 108 true).run Tryd.prog w = .ok (.tuple #[.int .i64 0, .bool false]) w := assert_no Tryd.underlying108 (by intro m h; cases h) (by kernel_rfl) h w
/-- An assertion of nothing. -/
theorem assert_nil {P : Program} {A xT : TypeId} {d : TypeDesc} {z : Value} (hu : P.underlying A = some d) (hd : ∀ m, d ≠ .interface m) (hz : (P.info? A).map (·.zero) = some (some z)) (w : World) :
    (Instr.typeAssert .nilIface xT A true).run P w = .ok (.tuple #[z, .bool false]) w := by
  obtain ⟨i, hi, hz'⟩ := Option.map_eq_some_iff.1 hz
  cases d with
  | interface m => exact absurd rfl (hd m)
  | _ => simp [Instr.typeAssert, run_underlying hu, zeroValue, typeInfo, hi, hz']
theorem Tryd.nil_pint (w : World) : (Instr.typeAssert .nilIface 20 73 true).run Tryd.prog w = .ok (.tuple #[.pointer none, .bool false]) w := assert_nil Tryd.underlying73 (by intro m h; cases h) (by kernel_rfl) w
theorem Tryd.nil_pstring (w : World) : (Instr.typeAssert .nilIface 20 74 true).run Tryd.prog w = .ok (.tuple #[.pointer none, .bool false]) w := assert_nil Tryd.underlying74 (by intro m h; cases h) (by kernel_rfl) w
theorem Tryd.nil_int (w : World) : (Instr.typeAssert .nilIface 20 3 true).run Tryd.prog w = .ok (.tuple #[.int .i64 0, .bool false]) w := assert_nil Tryd.underlying3 (by intro m h; cases h) (by kernel_rfl) w
theorem Tryd.nil_int8 (w : World) : (Instr.typeAssert .nilIface 20 44 true).run Tryd.prog w = .ok (.tuple #[.int .i8 0, .bool false]) w := assert_nil Tryd.underlying44 (by intro m h; cases h) (by kernel_rfl) w
theorem Tryd.nil_int16 (w : World) : (Instr.typeAssert .nilIface 20 45 true).run Tryd.prog w = .ok (.tuple #[.int .i16 0, .bool false]) w := assert_nil Tryd.underlying45 (by intro m h; cases h) (by kernel_rfl) w
theorem Tryd.nil_int32 (w : World) : (Instr.typeAssert .nilIface 20 21 true).run Tryd.prog w = .ok (.tuple #[.int .i32 0, .bool false]) w := assert_nil Tryd.underlying21 (by intro m h; cases h) (by kernel_rfl) w
theorem Tryd.nil_int64 (w : World) : (Instr.typeAssert .nilIface 20 2 true).run Tryd.prog w = .ok (.tuple #[.int .i64 0, .bool false]) w := assert_nil Tryd.underlying2 (by intro m h; cases h) (by kernel_rfl) w
theorem Tryd.nil_uint (w : World) : (Instr.typeAssert .nilIface 20 38 true).run Tryd.prog w = .ok (.tuple #[.int .u64 0, .bool false]) w := assert_nil Tryd.underlying38 (by intro m h; cases h) (by kernel_rfl) w
theorem Tryd.nil_uint8 (w : World) : (Instr.typeAssert .nilIface 20 5 true).run Tryd.prog w = .ok (.tuple #[.int .u8 0, .bool false]) w := assert_nil Tryd.underlying5 (by intro m h; cases h) (by kernel_rfl) w
theorem Tryd.nil_uint16 (w : World) : (Instr.typeAssert .nilIface 20 48 true).run Tryd.prog w = .ok (.tuple #[.int .u16 0, .bool false]) w := assert_nil Tryd.underlying48 (by intro m h; cases h) (by kernel_rfl) w
theorem Tryd.nil_uint32 (w : World) : (Instr.typeAssert .nilIface 20 49 true).run Tryd.prog w = .ok (.tuple #[.int .u32 0, .bool false]) w := assert_nil Tryd.underlying49 (by intro m h; cases h) (by kernel_rfl) w
theorem Tryd.nil_uint64 (w : World) : (Instr.typeAssert .nilIface 20 22 true).run Tryd.prog w = .ok (.tuple #[.int .u64 0, .bool false]) w := assert_nil Tryd.underlying22 (by intro m h; cases h) (by kernel_rfl) w
theorem Tryd.nil_float32 (w : World) : (Instr.typeAssert .nilIface 20 50 true).run Tryd.prog w = .ok (.tuple #[.float .f32 0, .bool false]) w := assert_nil Tryd.underlying50 (by intro m h; cases h) (by kernel_rfl) w
theorem Tryd.nil_float64 (w : World) : (Instr.typeAssert .nilIface 20 23 true).run Tryd.prog w = .ok (.tuple #[.float .f64 0, .bool false]) w := assert_nil Tryd.underlying23 (by intro m h; cases h) (by kernel_rfl) w
theorem Tryd.nil_bool (w : World) : (Instr.typeAssert .nilIface 20 4 true).run Tryd.prog w = .ok (.tuple #[.bool false, .bool false]) w := assert_nil Tryd.underlying4 (by intro m h; cases h) (by kernel_rfl) w

theorem indirect_nil (w : World) : Calls Tryd.prog 41 #[.nilIface] w fun e w' => e = .returned (.tuple #[.nilIface, .bool false]) ∧ w = w' := by
  have t1 := Tryd.nil_pint
  have t2 := Tryd.nil_pstring
  go_enter Tryd.func41, Tryd.ntmps41
  go_wp2
  go_ret2
  exact ⟨rfl, rfl⟩

set_option maxRecDepth 100000 in
theorem value_nil (n u : Int) (f : Nat) (s : ByteArray) (w : World) :
    Calls Tryd.prog 13 #[anyOf 0 n u f s] w fun e w' => e = .returned .nilIface ∧ Below w.heap.size w w' := by
  unfold anyOf
  go_enter Tryd.func13, Tryd.ntmps13
  go_wp2
  go_ret
  exact ⟨rfl, (Below.refl _ _).alloc (Nat.le_refl _) _⟩

set_option maxRecDepth 100000 in
theorem value_bool (n u : Int) (f : Nat) (s : ByteArray) (w : World) :
    Calls Tryd.prog 13 #[anyOf 1 n u f s] w fun e w' => e = .returned (.iface 4 (.bool (n != 0))) ∧ Below w.heap.size w w' := by
  unfold anyOf
  go_enter Tryd.func13, Tryd.ntmps13
  go_wp2
  go_ret
  exact ⟨rfl, (Below.refl _ _).alloc (Nat.le_refl _) _⟩

set_option maxRecDepth 100000 in
theorem value_float32 (n u : Int) (f : Nat) (s : ByteArray) (w : World) {r : Nat} (hr : floatToFloatBits .f64 f .f32 = some r) :
    Calls Tryd.prog 13 #[anyOf 12 n u f s] w fun e w' => e = .returned (.iface 50 (.float .f32 r)) ∧ Below w.heap.size w w' := by
  unfold anyOf
  have hc : ∀ w, (convert 23 50 (.float .f64 f)).run Tryd.prog w = .ok (.float .f32 r) w := fun w => run_convert_float_float w _ _ .f64 .f32 f r (by rw [Tryd.underlying23]; rfl) Tryd.underlying50 hr
  clear hr
  go_enter Tryd.func13, Tryd.ntmps13
  go_wp2
  go_ret
  exact ⟨rfl, (Below.refl _ _).alloc (Nat.le_refl _) _⟩
end Go.Proofs.YtbcknchbighieaaDoor.E
