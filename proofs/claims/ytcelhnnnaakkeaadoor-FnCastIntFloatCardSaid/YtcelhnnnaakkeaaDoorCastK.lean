/- What impl.value does of each plain kind, and the cuts, over this seat's program. Written by gen_castk.py. -/
import Derived.Test.YtcelhnnnaakkeaaDoorKit
import Derived.WalkLawsBesides
import Derived.WalkSpells
namespace Go.Proofs.YtcelhnnnaakkeaaDoor.E
open Go.RowKit
set_option linter.unusedVariables false
set_option linter.unusedSimpArgs false

/-- An assertion to a concrete type: another type, or that. -/
theorem assert_no {P : Program} {A xT T : TypeId} {d : TypeDesc} {v z : Value} (hu : P.underlying A = some d) (hd : ∀ m, d ≠ .interface m) (hz : (P.info? A).map (·.zero) = some (some z)) (hne : T ≠ A) (w : World) :
    (Instr.typeAssert (.iface T v) xT A true).run P w = .ok (.tuple #[z, .bool false]) w := by
  obtain ⟨i, hi, hz'⟩ := Option.map_eq_some_iff.1 hz
  cases d with
  | interface m => exact absurd rfl (hd m)
  | _ => simp [Instr.typeAssert, run_underlying hu, zeroValue, typeInfo, hi, hz', hne]
theorem assert_yes {P : Program} {A xT : TypeId} {d : TypeDesc} {v : Value} (hu : P.underlying A = some d) (hd : ∀ m, d ≠ .interface m) (w : World) :
    (Instr.typeAssert (.iface A v) xT A true).run P w = .ok (.tuple #[v, .bool true]) w := by
  cases d with
  | interface m => exact absurd rfl (hd m)
  | _ => simp [Instr.typeAssert, run_underlying hu]

theorem Tryd.no_pint (T : TypeId) (h : T ≠ 102) (v : Value) (w : World) : (Instr.typeAssert (.iface T v) 20 102 true).run Tryd.prog w = .ok (.tuple #[.pointer none, .bool false]) w := assert_no Tryd.underlying102 (by intro m h; cases h) (by kernel_rfl) h w
theorem Tryd.no_pstring (T : TypeId) (h : T ≠ 103) (v : Value) (w : World) : (Instr.typeAssert (.iface T v) 20 103 true).run Tryd.prog w = .ok (.tuple #[.pointer none, .bool false]) w := assert_no Tryd.underlying103 (by intro m h; cases h) (by kernel_rfl) h w
theorem Tryd.no_bool (T : TypeId) (h : T ≠ 4) (v : Value) (w : World) : (Instr.typeAssert (.iface T v) 20 4 true).run Tryd.prog w = .ok (.tuple #[.bool false, .bool false]) w := assert_no Tryd.underlying4 (by intro m h; cases h) (by kernel_rfl) h w
theorem Tryd.is_bool (v : Value) (w : World) : (Instr.typeAssert (.iface 4 v) 20 4 true).run Tryd.prog w = .ok (.tuple #[v, .bool true]) w := assert_yes Tryd.underlying4 (by intro m h; cases h) w
theorem Tryd.no_int (T : TypeId) (h : T ≠ 3) (v : Value) (w : World) : (Instr.typeAssert (.iface T v) 20 3 true).run Tryd.prog w = .ok (.tuple #[.int .i64 0, .bool false]) w := assert_no Tryd.underlying3 (by intro m h; cases h) (by kernel_rfl) h w
theorem Tryd.is_int (v : Value) (w : World) : (Instr.typeAssert (.iface 3 v) 20 3 true).run Tryd.prog w = .ok (.tuple #[v, .bool true]) w := assert_yes Tryd.underlying3 (by intro m h; cases h) w
theorem Tryd.no_int8 (T : TypeId) (h : T ≠ 65) (v : Value) (w : World) : (Instr.typeAssert (.iface T v) 20 65 true).run Tryd.prog w = .ok (.tuple #[.int .i8 0, .bool false]) w := assert_no Tryd.underlying65 (by intro m h; cases h) (by kernel_rfl) h w
theorem Tryd.is_int8 (v : Value) (w : World) : (Instr.typeAssert (.iface 65 v) 20 65 true).run Tryd.prog w = .ok (.tuple #[v, .bool true]) w := assert_yes Tryd.underlying65 (by intro m h; cases h) w
theorem Tryd.no_int16 (T : TypeId) (h : T ≠ 66) (v : Value) (w : World) : (Instr.typeAssert (.iface T v) 20 66 true).run Tryd.prog w = .ok (.tuple #[.int .i16 0, .bool false]) w := assert_no Tryd.underlying66 (by intro m h; cases h) (by kernel_rfl) h w
theorem Tryd.is_int16 (v : Value) (w : World) : (Instr.typeAssert (.iface 66 v) 20 66 true).run Tryd.prog w = .ok (.tuple #[v, .bool true]) w := assert_yes Tryd.underlying66 (by intro m h; cases h) w
theorem Tryd.no_int32 (T : TypeId) (h : T ≠ 21) (v : Value) (w : World) : (Instr.typeAssert (.iface T v) 20 21 true).run Tryd.prog w = .ok (.tuple #[.int .i32 0, .bool false]) w := assert_no Tryd.underlying21 (by intro m h; cases h) (by kernel_rfl) h w
theorem Tryd.is_int32 (v : Value) (w : World) : (Instr.typeAssert (.iface 21 v) 20 21 true).run Tryd.prog w = .ok (.tuple #[v, .bool true]) w := assert_yes Tryd.underlying21 (by intro m h; cases h) w
theorem Tryd.no_int64 (T : TypeId) (h : T ≠ 2) (v : Value) (w : World) : (Instr.typeAssert (.iface T v) 20 2 true).run Tryd.prog w = .ok (.tuple #[.int .i64 0, .bool false]) w := assert_no Tryd.underlying2 (by intro m h; cases h) (by kernel_rfl) h w
theorem Tryd.is_int64 (v : Value) (w : World) : (Instr.typeAssert (.iface 2 v) 20 2 true).run Tryd.prog w = .ok (.tuple #[v, .bool true]) w := assert_yes Tryd.underlying2 (by intro m h; cases h) w
theorem Tryd.no_uint (T : TypeId) (h : T ≠ 62) (v : Value) (w : World) : (Instr.typeAssert (.iface T v) 20 62 true).run Tryd.prog w = .ok (.tuple #[.int .u64 0, .bool false]) w := assert_no Tryd.underlying62 (by intro m h; cases h) (by kernel_rfl) h w
theorem Tryd.is_uint (v : Value) (w : World) : (Instr.typeAssert (.iface 62 v) 20 62 true).run Tryd.prog w = .ok (.tuple #[v, .bool true]) w := assert_yes Tryd.underlying62 (by intro m h; cases h) w
theorem Tryd.no_uint8 (T : TypeId) (h : T ≠ 5) (v : Value) (w : World) : (Instr.typeAssert (.iface T v) 20 5 true).run Tryd.prog w = .ok (.tuple #[.int .u8 0, .bool false]) w := assert_no Tryd.underlying5 (by intro m h; cases h) (by kernel_rfl) h w
theorem Tryd.is_uint8 (v : Value) (w : World) : (Instr.typeAssert (.iface 5 v) 20 5 true).run Tryd.prog w = .ok (.tuple #[v, .bool true]) w := assert_yes Tryd.underlying5 (by intro m h; cases h) w
theorem Tryd.no_uint16 (T : TypeId) (h : T ≠ 69) (v : Value) (w : World) : (Instr.typeAssert (.iface T v) 20 69 true).run Tryd.prog w = .ok (.tuple #[.int .u16 0, .bool false]) w := assert_no Tryd.underlying69 (by intro m h; cases h) (by kernel_rfl) h w
theorem Tryd.is_uint16 (v : Value) (w : World) : (Instr.typeAssert (.iface 69 v) 20 69 true).run Tryd.prog w = .ok (.tuple #[v, .bool true]) w := assert_yes Tryd.underlying69 (by intro m h; cases h) w
theorem Tryd.no_uint32 (T : TypeId) (h : T ≠ 70) (v : Value) (w : World) : (Instr.typeAssert (.iface T v) 20 70 true).run Tryd.prog w = .ok (.tuple #[.int .u32 0, .bool false]) w := assert_no Tryd.underlying70 (by intro m h; cases h) (by kernel_rfl) h w
theorem Tryd.is_uint32 (v : Value) (w : World) : (Instr.typeAssert (.iface 70 v) 20 70 true).run Tryd.prog w = .ok (.tuple #[v, .bool true]) w := assert_yes Tryd.underlying70 (by intro m h; cases h) w
theorem Tryd.no_uint64 (T : TypeId) (h : T ≠ 22) (v : Value) (w : World) : (Instr.typeAssert (.iface T v) 20 22 true).run Tryd.prog w = .ok (.tuple #[.int .u64 0, .bool false]) w := assert_no Tryd.underlying22 (by intro m h; cases h) (by kernel_rfl) h w
theorem Tryd.is_uint64 (v : Value) (w : World) : (Instr.typeAssert (.iface 22 v) 20 22 true).run Tryd.prog w = .ok (.tuple #[v, .bool true]) w := assert_yes Tryd.underlying22 (by intro m h; cases h) w
theorem Tryd.no_float32 (T : TypeId) (h : T ≠ 73) (v : Value) (w : World) : (Instr.typeAssert (.iface T v) 20 73 true).run Tryd.prog w = .ok (.tuple #[.float .f32 0, .bool false]) w := assert_no Tryd.underlying73 (by intro m h; cases h) (by kernel_rfl) h w
theorem Tryd.is_float32 (v : Value) (w : World) : (Instr.typeAssert (.iface 73 v) 20 73 true).run Tryd.prog w = .ok (.tuple #[v, .bool true]) w := assert_yes Tryd.underlying73 (by intro m h; cases h) w
theorem Tryd.no_float64 (T : TypeId) (h : T ≠ 23) (v : Value) (w : World) : (Instr.typeAssert (.iface T v) 20 23 true).run Tryd.prog w = .ok (.tuple #[.float .f64 0, .bool false]) w := assert_no Tryd.underlying23 (by intro m h; cases h) (by kernel_rfl) h w
theorem Tryd.is_float64 (v : Value) (w : World) : (Instr.typeAssert (.iface 23 v) 20 23 true).run Tryd.prog w = .ok (.tuple #[v, .bool true]) w := assert_yes Tryd.underlying23 (by intro m h; cases h) w
theorem Tryd.no_string (T : TypeId) (h : T ≠ 9) (v : Value) (w : World) : (Instr.typeAssert (.iface T v) 20 9 true).run Tryd.prog w = .ok (.tuple #[.string ⟨#[]⟩, .bool false]) w := assert_no Tryd.underlying9 (by intro m h; cases h) (by kernel_rfl) h w
theorem Tryd.is_string (v : Value) (w : World) : (Instr.typeAssert (.iface 9 v) 20 9 true).run Tryd.prog w = .ok (.tuple #[v, .bool true]) w := assert_yes Tryd.underlying9 (by intro m h; cases h) w

theorem indirect_any (T : TypeId) (v : Value) (h1 : T ≠ 102) (h2 : T ≠ 103) (w : World) : Calls Tryd.prog 41 #[.iface T v] w fun e w' => e = .returned (.tuple #[.iface T v, .bool false]) ∧ w = w' := by
  have t1 := Tryd.no_pint T h1 v
  have t2 := Tryd.no_pstring T h2 v
  go_enter Tryd.func41, Tryd.ntmps41
  go_wp2
  go_ret2
  exact ⟨rfl, rfl⟩

/-- An impl.Any of a plain kind. -/
def anyOf (k n u : Int) (f : Nat) (s : ByteArray) : Value := .agg #[.int .i64 k, .int .i64 n, .int .u64 u, .float .f64 f, .string s, .slice none 0 0, .slice none 0 0]

theorem value_int (n u : Int) (f : Nat) (s : ByteArray) (w : World) (hn : -9223372036854775808 ≤ n ∧ n ≤ 9223372036854775807) (hu : 0 ≤ u ∧ u ≤ 18446744073709551615) :
    Calls Tryd.prog 23 #[anyOf 2 n u f s] w fun e w' => e = .returned (.iface 3 (.int .i64 n)) ∧ Below w.heap.size w w' := by
  unfold anyOf
  clear hn hu
  go_enter Tryd.func23, Tryd.ntmps23
  go_wp2
  go_ret
  exact ⟨rfl, (Below.refl _ _).alloc (Nat.le_refl _) _⟩

theorem value_int8 (n u : Int) (f : Nat) (s : ByteArray) (w : World) (hn : -9223372036854775808 ≤ n ∧ n ≤ 9223372036854775807) (hu : 0 ≤ u ∧ u ≤ 18446744073709551615) :
    Calls Tryd.prog 23 #[anyOf 3 n u f s] w fun e w' => e = .returned (.iface 65 (.int .i8 (IntKind.i8.wrap n))) ∧ Below w.heap.size w w' := by
  unfold anyOf
  clear hn hu
  go_enter Tryd.func23, Tryd.ntmps23
  go_wp2
  go_ret
  exact ⟨rfl, (Below.refl _ _).alloc (Nat.le_refl _) _⟩

theorem value_int16 (n u : Int) (f : Nat) (s : ByteArray) (w : World) (hn : -9223372036854775808 ≤ n ∧ n ≤ 9223372036854775807) (hu : 0 ≤ u ∧ u ≤ 18446744073709551615) :
    Calls Tryd.prog 23 #[anyOf 4 n u f s] w fun e w' => e = .returned (.iface 66 (.int .i16 (IntKind.i16.wrap n))) ∧ Below w.heap.size w w' := by
  unfold anyOf
  clear hn hu
  go_enter Tryd.func23, Tryd.ntmps23
  go_wp2
  go_ret
  exact ⟨rfl, (Below.refl _ _).alloc (Nat.le_refl _) _⟩

theorem value_int32 (n u : Int) (f : Nat) (s : ByteArray) (w : World) (hn : -9223372036854775808 ≤ n ∧ n ≤ 9223372036854775807) (hu : 0 ≤ u ∧ u ≤ 18446744073709551615) :
    Calls Tryd.prog 23 #[anyOf 5 n u f s] w fun e w' => e = .returned (.iface 21 (.int .i32 (wrap32 n))) ∧ Below w.heap.size w w' := by
  unfold anyOf
  clear hn hu
  go_enter Tryd.func23, Tryd.ntmps23
  go_wp2
  go_ret
  exact ⟨rfl, (Below.refl _ _).alloc (Nat.le_refl _) _⟩

theorem value_int64 (n u : Int) (f : Nat) (s : ByteArray) (w : World) (hn : -9223372036854775808 ≤ n ∧ n ≤ 9223372036854775807) (hu : 0 ≤ u ∧ u ≤ 18446744073709551615) :
    Calls Tryd.prog 23 #[anyOf 6 n u f s] w fun e w' => e = .returned (.iface 2 (.int .i64 n)) ∧ Below w.heap.size w w' := by
  unfold anyOf
  clear hn hu
  go_enter Tryd.func23, Tryd.ntmps23
  go_wp2
  go_ret
  exact ⟨rfl, (Below.refl _ _).alloc (Nat.le_refl _) _⟩

theorem value_uint (n u : Int) (f : Nat) (s : ByteArray) (w : World) (hn : -9223372036854775808 ≤ n ∧ n ≤ 9223372036854775807) (hu : 0 ≤ u ∧ u ≤ 18446744073709551615) :
    Calls Tryd.prog 23 #[anyOf 7 n u f s] w fun e w' => e = .returned (.iface 62 (.int .u64 u)) ∧ Below w.heap.size w w' := by
  unfold anyOf
  clear hn hu
  go_enter Tryd.func23, Tryd.ntmps23
  go_wp2
  go_ret
  exact ⟨rfl, (Below.refl _ _).alloc (Nat.le_refl _) _⟩

theorem value_uint8 (n u : Int) (f : Nat) (s : ByteArray) (w : World) (hn : -9223372036854775808 ≤ n ∧ n ≤ 9223372036854775807) (hu : 0 ≤ u ∧ u ≤ 18446744073709551615) :
    Calls Tryd.prog 23 #[anyOf 8 n u f s] w fun e w' => e = .returned (.iface 5 (.int .u8 (IntKind.u8.wrap u))) ∧ Below w.heap.size w w' := by
  unfold anyOf
  clear hn hu
  go_enter Tryd.func23, Tryd.ntmps23
  go_wp2
  go_ret
  exact ⟨rfl, (Below.refl _ _).alloc (Nat.le_refl _) _⟩

theorem value_uint16 (n u : Int) (f : Nat) (s : ByteArray) (w : World) (hn : -9223372036854775808 ≤ n ∧ n ≤ 9223372036854775807) (hu : 0 ≤ u ∧ u ≤ 18446744073709551615) :
    Calls Tryd.prog 23 #[anyOf 9 n u f s] w fun e w' => e = .returned (.iface 69 (.int .u16 (IntKind.u16.wrap u))) ∧ Below w.heap.size w w' := by
  unfold anyOf
  clear hn hu
  go_enter Tryd.func23, Tryd.ntmps23
  go_wp2
  go_ret
  exact ⟨rfl, (Below.refl _ _).alloc (Nat.le_refl _) _⟩

theorem value_uint32 (n u : Int) (f : Nat) (s : ByteArray) (w : World) (hn : -9223372036854775808 ≤ n ∧ n ≤ 9223372036854775807) (hu : 0 ≤ u ∧ u ≤ 18446744073709551615) :
    Calls Tryd.prog 23 #[anyOf 10 n u f s] w fun e w' => e = .returned (.iface 70 (.int .u32 (IntKind.u32.wrap u))) ∧ Below w.heap.size w w' := by
  unfold anyOf
  clear hn hu
  go_enter Tryd.func23, Tryd.ntmps23
  go_wp2
  go_ret
  exact ⟨rfl, (Below.refl _ _).alloc (Nat.le_refl _) _⟩

theorem value_uint64 (n u : Int) (f : Nat) (s : ByteArray) (w : World) (hn : -9223372036854775808 ≤ n ∧ n ≤ 9223372036854775807) (hu : 0 ≤ u ∧ u ≤ 18446744073709551615) :
    Calls Tryd.prog 23 #[anyOf 11 n u f s] w fun e w' => e = .returned (.iface 22 (.int .u64 u)) ∧ Below w.heap.size w w' := by
  unfold anyOf
  clear hn hu
  go_enter Tryd.func23, Tryd.ntmps23
  go_wp2
  go_ret
  exact ⟨rfl, (Below.refl _ _).alloc (Nat.le_refl _) _⟩

theorem value_float64 (n u : Int) (f : Nat) (s : ByteArray) (w : World) (hn : -9223372036854775808 ≤ n ∧ n ≤ 9223372036854775807) (hu : 0 ≤ u ∧ u ≤ 18446744073709551615) :
    Calls Tryd.prog 23 #[anyOf 13 n u f s] w fun e w' => e = .returned (.iface 23 (.float .f64 f)) ∧ Below w.heap.size w w' := by
  unfold anyOf
  clear hn hu
  go_enter Tryd.func23, Tryd.ntmps23
  go_wp2
  go_ret
  exact ⟨rfl, (Below.refl _ _).alloc (Nat.le_refl _) _⟩

theorem value_string (n u : Int) (f : Nat) (s : ByteArray) (w : World) (hn : -9223372036854775808 ≤ n ∧ n ≤ 9223372036854775807) (hu : 0 ≤ u ∧ u ≤ 18446744073709551615) :
    Calls Tryd.prog 23 #[anyOf 14 n u f s] w fun e w' => e = .returned (.iface 9 (.string s)) ∧ Below w.heap.size w w' := by
  unfold anyOf
  clear hn hu
  go_enter Tryd.func23, Tryd.ntmps23
  go_wp2
  go_ret
  exact ⟨rfl, (Below.refl _ _).alloc (Nat.le_refl _) _⟩


def cutI (a n : Int) : Int := if a = 3 then IntKind.i8.wrap n else if a = 4 then IntKind.i16.wrap n else if a = 5 then wrap32 n else n
def cutU (b u : Int) : Int := if b = 8 then IntKind.u8.wrap u else if b = 9 then IntKind.u16.wrap u else if b = 10 then IntKind.u32.wrap u else u
def nz (c : Int) : Bool := c != 0
/-- One block was laid ahead. -/
theorem below_new {w w1 : World} {o : Obj} (h : Below (w.alloc o).heap.size (w.alloc o) w1) : Below w.heap.size w w1 := ((Below.refl _ _).alloc (Nat.le_refl _) _).trans (h.mono (by simp))

def kindI (k : Int) : Int := 2 + k % 18446744073709551616 % 5
def kindU (k : Int) : Int := 7 + k % 18446744073709551616 % 5
theorem kindI_range (k : Int) : 2 ≤ kindI k ∧ kindI k ≤ 6 := by unfold kindI; omega
theorem kindU_range (k : Int) : 7 ≤ kindU k ∧ kindU k ≤ 11 := by unfold kindU; omega

theorem ret_num {k : IntKind} {a b : Int} (h : a = b) : Ending.returned (.int k a) = .returned (.int k b) := by rw [h]
theorem u64_tmod (k : Int) : (IntKind.u64.wrap k).tmod 5 = k % 18446744073709551616 % 5 := by
  have e : IntKind.u64.wrap k = k % 18446744073709551616 := by simp [IntKind.wrap, IntKind.bits, IntKind.signed]
  rw [e, Int.tmod_eq_emod_of_nonneg (by omega)]
theorem kindI_eq (k : Int) : wrap64 (2 + wrap64 ((IntKind.u64.wrap k).tmod 5)) = kindI k := by
  rw [u64_tmod]; unfold kindI wrap64; omega
theorem kindU_eq (k : Int) : wrap64 (7 + wrap64 ((IntKind.u64.wrap k).tmod 5)) = kindU k := by
  rw [u64_tmod]; unfold kindU wrap64; omega

theorem castKindInt_any (k : Int) (w : World) : Calls Tryd.prog 14 #[.int .i64 k] w fun e w' => e = .returned (.int .i64 (kindI k)) ∧ w = w' := by
  go_enter Tryd.func14, Tryd.ntmps14
  go_wp2
  go_ret
  exact ⟨ret_num (kindI_eq k), rfl⟩

theorem castKindUint_any (k : Int) (w : World) : Calls Tryd.prog 19 #[.int .i64 k] w fun e w' => e = .returned (.int .i64 (kindU k)) ∧ w = w' := by
  go_enter Tryd.func19, Tryd.ntmps19
  go_wp2
  go_ret
  exact ⟨ret_num (kindU_eq k), rfl⟩

theorem castCutInt_any (a n : Int) (w : World) (ha : 2 ≤ a ∧ a ≤ 6) (hn : -9223372036854775808 ≤ n ∧ n ≤ 9223372036854775807) :
    Calls Tryd.prog 17 #[.int .i64 a, .int .i64 n] w fun e w' => e = .returned (.int .i64 (cutI a n)) ∧ w = w' := by
  have h : a = 2 ∨ a = 3 ∨ a = 4 ∨ a = 5 ∨ a = 6 := by omega
  clear hn ha
  rcases h with rfl | rfl | rfl | rfl | rfl
  all_goals
    go_enter Tryd.func17, Tryd.ntmps17
    go_wp2
    go_ret
    exact ⟨ret_num (by simp [cutI, IntKind.wrap, IntKind.bits, IntKind.signed, wrap64, wrap32]; try omega), rfl⟩

theorem castCutUint_any (b u : Int) (w : World) (hb : 7 ≤ b ∧ b ≤ 11) (hu : 0 ≤ u ∧ u ≤ 18446744073709551615) :
    Calls Tryd.prog 21 #[.int .i64 b, .int .u64 u] w fun e w' => e = .returned (.int .u64 (cutU b u)) ∧ w = w' := by
  have h : b = 7 ∨ b = 8 ∨ b = 9 ∨ b = 10 ∨ b = 11 := by omega
  clear hb hu
  rcases h with rfl | rfl | rfl | rfl | rfl
  all_goals
    go_enter Tryd.func21, Tryd.ntmps21
    go_wp2
    go_ret
    exact ⟨ret_num (by simp [cutU, IntKind.wrap, IntKind.bits, IntKind.signed]; try omega), rfl⟩
end Go.Proofs.YtcelhnnnaakkeaaDoor.E
