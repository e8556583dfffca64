/- What an int's door says of every plain kind but a text: the number, cut to its width. Written by gen_narn.py. -/
import Derived.Test.YtbcknchbighieaaDoorNvInt
import Derived.Test.YtbcknchbighieaaDoorNvInt8
import Derived.Test.YtbcknchbighieaaDoorNvInt16
import Derived.Test.YtbcknchbighieaaDoorNvInt32
import Derived.Test.YtbcknchbighieaaDoorNvInt64
import Derived.Test.YtbcknchbighieaaDoorNvF
import Derived.Test.YtbcknchbighieaaDoorNvW
namespace Go.Proofs.YtbcknchbighieaaDoor.E
open Go.RowKit Go.Proofs
set_option linter.unusedVariables false
set_option linter.unusedSimpArgs false
/-- A float that is near enough: its float32, and what both are as integers. -/
structure FOK (f r : Nat) (z12 z13 : Int) : Prop where
  c : floatToFloatBits .f64 f .f32 = some r
  i12 : ∀ k : IntKind, k.min ≤ -127 → 127 ≤ k.max → floatToIntVal .f32 r k = some z12
  l12 : -128 ≤ z12
  u12 : z12 ≤ 127
  i13 : ∀ k : IntKind, k.min ≤ -127 → 127 ≤ k.max → floatToIntVal .f64 f k = some z13
  l13 : -128 ≤ z13
  u13 : z13 ≤ 127
theorem fok_of {f : Nat} {s : Bool} {m : Nat} {i : Int} (hr : Ieee.double.read f = .number s m i) (h : LtAt 127 m i) : ∃ r z12 z13, FOK f r z12 z13 := by
  obtain ⟨s', m', i', hr2, h2⟩ := single_near (s := s) h
  obtain ⟨z13, e13, a13, b13⟩ := toInt_le (s := s) (Nat.le_of_lt h)
  obtain ⟨z12, e12, a12, b12⟩ := toInt_le (s := s') h2
  have hd : FloatKind.f64.decode f = .number s m i := hr
  have he : FloatKind.f32.encode (.number s m i) = Ieee.single.nearest s m i := rfl
  have hd2 : FloatKind.f32.decode (FloatKind.f32.encode (.number s m i)) = .number s' m' i' := hr2
  refine ⟨FloatKind.f32.encode (.number s m i), z12, z13, ?_, ?_, by omega, by omega, ?_, by omega, by omega⟩
  · unfold floatToFloatBits
    rw [if_neg (by decide), hd]
    simp only [hd2]
    rfl
  · intro k h1 h2
    unfold floatToIntVal
    rw [hd2, e12]
    exact if_pos ⟨by omega, by omega⟩
  · intro k h1 h2
    unfold floatToIntVal
    rw [hd, e13]
    exact if_pos ⟨by omega, by omega⟩
theorem nearF_ok (f : Nat) : ∃ r z12 z13, FOK (nearF f) r z12 z13 := by
  unfold nearF
  by_cases h : ((FloatKind.f64.format.order f 13862009284302209024 == some Ordering.gt) && (FloatKind.f64.format.order f 4638637247447433216 == some Ordering.lt)) = true
  · rw [if_pos h]
    simp only [Bool.and_eq_true, beq_iff_eq] at h
    obtain ⟨s, m, i, h1, h2⟩ := near_read h.1 h.2
    exact fok_of h1 h2
  · rw [if_neg h]
    have h0 : Ieee.double.read 0 = .number false 0 (-1074) := by decide +kernel
    exact fok_of h0 (by unfold LtAt; rw [Nat.zero_mul]; exact Nat.mul_pos (by decide) (Nat.two_pow_pos _))
/-- The number of a plain kind. -/
def numV (k n u z12 z13 : Int) : Int := if k = 0 then 0 else if k = 1 then (if n = 0 then 0 else 1) else if k ≤ 6 then cutI k n else if k ≤ 11 then cutU k u else if k = 12 then z12 else z13
theorem ret2 {a b : Int} (h : a = b) : Ending.returned (.tuple #[.int .i64 a, .bool true]) = .returned (.tuple #[.int .i64 b, .bool true]) := by rw [h]

theorem num_int (kx n u : Int) (f r : Nat) (z12 z13 : Int) (t : ByteArray) (hk : 0 ≤ kx ∧ kx ≤ 13) (w : World) (hn : -9223372036854775808 ≤ n ∧ n ≤ 9223372036854775807) (hu : 0 ≤ u ∧ u ≤ 18446744073709551615) (F : FOK f r z12 z13) :
    Calls Tryd.prog 17 #[anyOf kx n u f t] w fun e w' => e = .returned (.tuple #[.int .i64 (IntKind.i64.wrap (numV kx n u z12 z13)), .bool true]) ∧ Below w.heap.size w w' := by
  have h : kx = 0 ∨ kx = 1 ∨ kx = 2 ∨ kx = 3 ∨ kx = 4 ∨ kx = 5 ∨ kx = 6 ∨ kx = 7 ∨ kx = 8 ∨ kx = 9 ∨ kx = 10 ∨ kx = 11 ∨ kx = 12 ∨ kx = 13 := by omega
  have l12 := F.l12
  have u12 := F.u12
  have l13 := F.l13
  have u13 := F.u13
  rcases h with rfl | rfl | rfl | rfl | rfl | rfl | rfl | rfl | rfl | rfl | rfl | rfl | rfl | rfl
  · exact (impl_int_nil n u f t w ).mono fun e w' ⟨he, hb⟩ => ⟨he.trans (ret2 (by simp [numV, cutI, cutU, wrap32, wrap64, IntKind.wrap, IntKind.bits, IntKind.signed]; try omega)), hb⟩
  · cases hb0 : (n != 0)
    · have h0 : n = 0 := by simpa using hb0
      exact (impl_int_bool_false n u f t w hb0).mono fun e w' ⟨he, hb⟩ => ⟨he.trans (ret2 (by simp [numV, cutI, cutU, wrap32, wrap64, IntKind.wrap, IntKind.bits, IntKind.signed]; try simp [h0]; try omega)), hb⟩
    · have h0 : n ≠ 0 := by simpa using hb0
      exact (impl_int_bool_true n u f t w hb0).mono fun e w' ⟨he, hb⟩ => ⟨he.trans (ret2 (by simp [numV, cutI, cutU, wrap32, wrap64, IntKind.wrap, IntKind.bits, IntKind.signed]; try simp [h0]; try omega)), hb⟩
  · exact (impl_int_int n u f t w hn hu).mono fun e w' ⟨he, hb⟩ => ⟨he.trans (ret2 (by simp [numV, cutI, cutU, wrap32, wrap64, IntKind.wrap, IntKind.bits, IntKind.signed]; try omega)), hb⟩
  · exact (impl_int_int8 n u f t w hn hu).mono fun e w' ⟨he, hb⟩ => ⟨he.trans (ret2 (by simp [numV, cutI, cutU, wrap32, wrap64, IntKind.wrap, IntKind.bits, IntKind.signed]; try omega)), hb⟩
  · exact (impl_int_int16 n u f t w hn hu).mono fun e w' ⟨he, hb⟩ => ⟨he.trans (ret2 (by simp [numV, cutI, cutU, wrap32, wrap64, IntKind.wrap, IntKind.bits, IntKind.signed]; try omega)), hb⟩
  · exact (impl_int_int32 n u f t w hn hu).mono fun e w' ⟨he, hb⟩ => ⟨he.trans (ret2 (by simp [numV, cutI, cutU, wrap32, wrap64, IntKind.wrap, IntKind.bits, IntKind.signed]; try omega)), hb⟩
  · exact (impl_int_int64 n u f t w hn hu).mono fun e w' ⟨he, hb⟩ => ⟨he.trans (ret2 (by simp [numV, cutI, cutU, wrap32, wrap64, IntKind.wrap, IntKind.bits, IntKind.signed]; try omega)), hb⟩
  · exact (impl_int_uint n u f t w hn hu).mono fun e w' ⟨he, hb⟩ => ⟨he.trans (ret2 (by simp [numV, cutI, cutU, wrap32, wrap64, IntKind.wrap, IntKind.bits, IntKind.signed]; try omega)), hb⟩
  · exact (impl_int_uint8 n u f t w hn hu).mono fun e w' ⟨he, hb⟩ => ⟨he.trans (ret2 (by simp [numV, cutI, cutU, wrap32, wrap64, IntKind.wrap, IntKind.bits, IntKind.signed]; try omega)), hb⟩
  · exact (impl_int_uint16 n u f t w hn hu).mono fun e w' ⟨he, hb⟩ => ⟨he.trans (ret2 (by simp [numV, cutI, cutU, wrap32, wrap64, IntKind.wrap, IntKind.bits, IntKind.signed]; try omega)), hb⟩
  · exact (impl_int_uint32 n u f t w hn hu).mono fun e w' ⟨he, hb⟩ => ⟨he.trans (ret2 (by simp [numV, cutI, cutU, wrap32, wrap64, IntKind.wrap, IntKind.bits, IntKind.signed]; try omega)), hb⟩
  · exact (impl_int_uint64 n u f t w hn hu).mono fun e w' ⟨he, hb⟩ => ⟨he.trans (ret2 (by simp [numV, cutI, cutU, wrap32, wrap64, IntKind.wrap, IntKind.bits, IntKind.signed]; try omega)), hb⟩
  · exact (impl_int_float32 n u f t w F.c (F.i12 _ (by decide) (by decide)) F.l12 F.u12).mono fun e w' ⟨he, hb⟩ => ⟨he.trans (ret2 (by simp [numV, cutI, cutU, wrap32, wrap64, IntKind.wrap, IntKind.bits, IntKind.signed]; try omega)), hb⟩
  · exact (impl_int_float64 n u f t w hn hu (F.i13 _ (by decide) (by decide)) F.l13 F.u13).mono fun e w' ⟨he, hb⟩ => ⟨he.trans (ret2 (by simp [numV, cutI, cutU, wrap32, wrap64, IntKind.wrap, IntKind.bits, IntKind.signed]; try omega)), hb⟩

theorem num_int8 (kx n u : Int) (f r : Nat) (z12 z13 : Int) (t : ByteArray) (hk : 0 ≤ kx ∧ kx ≤ 13) (w : World) (hn : -9223372036854775808 ≤ n ∧ n ≤ 9223372036854775807) (hu : 0 ≤ u ∧ u ≤ 18446744073709551615) (F : FOK f r z12 z13) :
    Calls Tryd.prog 14 #[anyOf kx n u f t] w fun e w' => e = .returned (.tuple #[.int .i64 (IntKind.i8.wrap (numV kx n u z12 z13)), .bool true]) ∧ Below w.heap.size w w' := by
  have h : kx = 0 ∨ kx = 1 ∨ kx = 2 ∨ kx = 3 ∨ kx = 4 ∨ kx = 5 ∨ kx = 6 ∨ kx = 7 ∨ kx = 8 ∨ kx = 9 ∨ kx = 10 ∨ kx = 11 ∨ kx = 12 ∨ kx = 13 := by omega
  have l12 := F.l12
  have u12 := F.u12
  have l13 := F.l13
  have u13 := F.u13
  rcases h with rfl | rfl | rfl | rfl | rfl | rfl | rfl | rfl | rfl | rfl | rfl | rfl | rfl | rfl
  · exact (impl_int8_nil n u f t w ).mono fun e w' ⟨he, hb⟩ => ⟨he.trans (ret2 (by simp [numV, cutI, cutU, wrap32, wrap64, IntKind.wrap, IntKind.bits, IntKind.signed]; try omega)), hb⟩
  · cases hb0 : (n != 0)
    · have h0 : n = 0 := by simpa using hb0
      exact (impl_int8_bool_false n u f t w hb0).mono fun e w' ⟨he, hb⟩ => ⟨he.trans (ret2 (by simp [numV, cutI, cutU, wrap32, wrap64, IntKind.wrap, IntKind.bits, IntKind.signed]; try simp [h0]; try omega)), hb⟩
    · have h0 : n ≠ 0 := by simpa using hb0
      exact (impl_int8_bool_true n u f t w hb0).mono fun e w' ⟨he, hb⟩ => ⟨he.trans (ret2 (by simp [numV, cutI, cutU, wrap32, wrap64, IntKind.wrap, IntKind.bits, IntKind.signed]; try simp [h0]; try omega)), hb⟩
  · exact (impl_int8_int n u f t w hn hu).mono fun e w' ⟨he, hb⟩ => ⟨he.trans (ret2 (by simp [numV, cutI, cutU, wrap32, wrap64, IntKind.wrap, IntKind.bits, IntKind.signed]; try omega)), hb⟩
  · exact (impl_int8_int8 n u f t w hn hu).mono fun e w' ⟨he, hb⟩ => ⟨he.trans (ret2 (by simp [numV, cutI, cutU, wrap32, wrap64, IntKind.wrap, IntKind.bits, IntKind.signed]; try omega)), hb⟩
  · exact (impl_int8_int16 n u f t w hn hu).mono fun e w' ⟨he, hb⟩ => ⟨he.trans (ret2 (by simp [numV, cutI, cutU, wrap32, wrap64, IntKind.wrap, IntKind.bits, IntKind.signed]; try omega)), hb⟩
  · exact (impl_int8_int32 n u f t w hn hu).mono fun e w' ⟨he, hb⟩ => ⟨he.trans (ret2 (by simp [numV, cutI, cutU, wrap32, wrap64, IntKind.wrap, IntKind.bits, IntKind.signed]; try omega)), hb⟩
  · exact (impl_int8_int64 n u f t w hn hu).mono fun e w' ⟨he, hb⟩ => ⟨he.trans (ret2 (by simp [numV, cutI, cutU, wrap32, wrap64, IntKind.wrap, IntKind.bits, IntKind.signed]; try omega)), hb⟩
  · exact (impl_int8_uint n u f t w hn hu).mono fun e w' ⟨he, hb⟩ => ⟨he.trans (ret2 (by simp [numV, cutI, cutU, wrap32, wrap64, IntKind.wrap, IntKind.bits, IntKind.signed]; try omega)), hb⟩
  · exact (impl_int8_uint8 n u f t w hn hu).mono fun e w' ⟨he, hb⟩ => ⟨he.trans (ret2 (by simp [numV, cutI, cutU, wrap32, wrap64, IntKind.wrap, IntKind.bits, IntKind.signed]; try omega)), hb⟩
  · exact (impl_int8_uint16 n u f t w hn hu).mono fun e w' ⟨he, hb⟩ => ⟨he.trans (ret2 (by simp [numV, cutI, cutU, wrap32, wrap64, IntKind.wrap, IntKind.bits, IntKind.signed]; try omega)), hb⟩
  · exact (impl_int8_uint32 n u f t w hn hu).mono fun e w' ⟨he, hb⟩ => ⟨he.trans (ret2 (by simp [numV, cutI, cutU, wrap32, wrap64, IntKind.wrap, IntKind.bits, IntKind.signed]; try omega)), hb⟩
  · exact (impl_int8_uint64 n u f t w hn hu).mono fun e w' ⟨he, hb⟩ => ⟨he.trans (ret2 (by simp [numV, cutI, cutU, wrap32, wrap64, IntKind.wrap, IntKind.bits, IntKind.signed]; try omega)), hb⟩
  · exact (impl_int8_float32 n u f t w F.c (F.i12 _ (by decide) (by decide)) F.l12 F.u12).mono fun e w' ⟨he, hb⟩ => ⟨he.trans (ret2 (by simp [numV, cutI, cutU, wrap32, wrap64, IntKind.wrap, IntKind.bits, IntKind.signed]; try omega)), hb⟩
  · exact (impl_int8_float64 n u f t w hn hu (F.i13 _ (by decide) (by decide)) F.l13 F.u13).mono fun e w' ⟨he, hb⟩ => ⟨he.trans (ret2 (by simp [numV, cutI, cutU, wrap32, wrap64, IntKind.wrap, IntKind.bits, IntKind.signed]; try omega)), hb⟩

theorem num_int16 (kx n u : Int) (f r : Nat) (z12 z13 : Int) (t : ByteArray) (hk : 0 ≤ kx ∧ kx ≤ 13) (w : World) (hn : -9223372036854775808 ≤ n ∧ n ≤ 9223372036854775807) (hu : 0 ≤ u ∧ u ≤ 18446744073709551615) (F : FOK f r z12 z13) :
    Calls Tryd.prog 15 #[anyOf kx n u f t] w fun e w' => e = .returned (.tuple #[.int .i64 (IntKind.i16.wrap (numV kx n u z12 z13)), .bool true]) ∧ Below w.heap.size w w' := by
  have h : kx = 0 ∨ kx = 1 ∨ kx = 2 ∨ kx = 3 ∨ kx = 4 ∨ kx = 5 ∨ kx = 6 ∨ kx = 7 ∨ kx = 8 ∨ kx = 9 ∨ kx = 10 ∨ kx = 11 ∨ kx = 12 ∨ kx = 13 := by omega
  have l12 := F.l12
  have u12 := F.u12
  have l13 := F.l13
  have u13 := F.u13
  rcases h with rfl | rfl | rfl | rfl | rfl | rfl | rfl | rfl | rfl | rfl | rfl | rfl | rfl | rfl
  · exact (impl_int16_nil n u f t w ).mono fun e w' ⟨he, hb⟩ => ⟨he.trans (ret2 (by simp [numV, cutI, cutU, wrap32, wrap64, IntKind.wrap, IntKind.bits, IntKind.signed]; try omega)), hb⟩
  · cases hb0 : (n != 0)
    · have h0 : n = 0 := by simpa using hb0
      exact (impl_int16_bool_false n u f t w hb0).mono fun e w' ⟨he, hb⟩ => ⟨he.trans (ret2 (by simp [numV, cutI, cutU, wrap32, wrap64, IntKind.wrap, IntKind.bits, IntKind.signed]; try simp [h0]; try omega)), hb⟩
    · have h0 : n ≠ 0 := by simpa using hb0
      exact (impl_int16_bool_true n u f t w hb0).mono fun e w' ⟨he, hb⟩ => ⟨he.trans (ret2 (by simp [numV, cutI, cutU, wrap32, wrap64, IntKind.wrap, IntKind.bits, IntKind.signed]; try simp [h0]; try omega)), hb⟩
  · exact (impl_int16_int n u f t w hn hu).mono fun e w' ⟨he, hb⟩ => ⟨he.trans (ret2 (by simp [numV, cutI, cutU, wrap32, wrap64, IntKind.wrap, IntKind.bits, IntKind.signed]; try omega)), hb⟩
  · exact (impl_int16_int8 n u f t w hn hu).mono fun e w' ⟨he, hb⟩ => ⟨he.trans (ret2 (by simp [numV, cutI, cutU, wrap32, wrap64, IntKind.wrap, IntKind.bits, IntKind.signed]; try omega)), hb⟩
  · exact (impl_int16_int16 n u f t w hn hu).mono fun e w' ⟨he, hb⟩ => ⟨he.trans (ret2 (by simp [numV, cutI, cutU, wrap32, wrap64, IntKind.wrap, IntKind.bits, IntKind.signed]; try omega)), hb⟩
  · exact (impl_int16_int32 n u f t w hn hu).mono fun e w' ⟨he, hb⟩ => ⟨he.trans (ret2 (by simp [numV, cutI, cutU, wrap32, wrap64, IntKind.wrap, IntKind.bits, IntKind.signed]; try omega)), hb⟩
  · exact (impl_int16_int64 n u f t w hn hu).mono fun e w' ⟨he, hb⟩ => ⟨he.trans (ret2 (by simp [numV, cutI, cutU, wrap32, wrap64, IntKind.wrap, IntKind.bits, IntKind.signed]; try omega)), hb⟩
  · exact (impl_int16_uint n u f t w hn hu).mono fun e w' ⟨he, hb⟩ => ⟨he.trans (ret2 (by simp [numV, cutI, cutU, wrap32, wrap64, IntKind.wrap, IntKind.bits, IntKind.signed]; try omega)), hb⟩
  · exact (impl_int16_uint8 n u f t w hn hu).mono fun e w' ⟨he, hb⟩ => ⟨he.trans (ret2 (by simp [numV, cutI, cutU, wrap32, wrap64, IntKind.wrap, IntKind.bits, IntKind.signed]; try omega)), hb⟩
  · exact (impl_int16_uint16 n u f t w hn hu).mono fun e w' ⟨he, hb⟩ => ⟨he.trans (ret2 (by simp [numV, cutI, cutU, wrap32, wrap64, IntKind.wrap, IntKind.bits, IntKind.signed]; try omega)), hb⟩
  · exact (impl_int16_uint32 n u f t w hn hu).mono fun e w' ⟨he, hb⟩ => ⟨he.trans (ret2 (by simp [numV, cutI, cutU, wrap32, wrap64, IntKind.wrap, IntKind.bits, IntKind.signed]; try omega)), hb⟩
  · exact (impl_int16_uint64 n u f t w hn hu).mono fun e w' ⟨he, hb⟩ => ⟨he.trans (ret2 (by simp [numV, cutI, cutU, wrap32, wrap64, IntKind.wrap, IntKind.bits, IntKind.signed]; try omega)), hb⟩
  · exact (impl_int16_float32 n u f t w F.c (F.i12 _ (by decide) (by decide)) F.l12 F.u12).mono fun e w' ⟨he, hb⟩ => ⟨he.trans (ret2 (by simp [numV, cutI, cutU, wrap32, wrap64, IntKind.wrap, IntKind.bits, IntKind.signed]; try omega)), hb⟩
  · exact (impl_int16_float64 n u f t w hn hu (F.i13 _ (by decide) (by decide)) F.l13 F.u13).mono fun e w' ⟨he, hb⟩ => ⟨he.trans (ret2 (by simp [numV, cutI, cutU, wrap32, wrap64, IntKind.wrap, IntKind.bits, IntKind.signed]; try omega)), hb⟩

theorem num_int32 (kx n u : Int) (f r : Nat) (z12 z13 : Int) (t : ByteArray) (hk : 0 ≤ kx ∧ kx ≤ 13) (w : World) (hn : -9223372036854775808 ≤ n ∧ n ≤ 9223372036854775807) (hu : 0 ≤ u ∧ u ≤ 18446744073709551615) (F : FOK f r z12 z13) :
    Calls Tryd.prog 16 #[anyOf kx n u f t] w fun e w' => e = .returned (.tuple #[.int .i64 (IntKind.i32.wrap (numV kx n u z12 z13)), .bool true]) ∧ Below w.heap.size w w' := by
  have h : kx = 0 ∨ kx = 1 ∨ kx = 2 ∨ kx = 3 ∨ kx = 4 ∨ kx = 5 ∨ kx = 6 ∨ kx = 7 ∨ kx = 8 ∨ kx = 9 ∨ kx = 10 ∨ kx = 11 ∨ kx = 12 ∨ kx = 13 := by omega
  have l12 := F.l12
  have u12 := F.u12
  have l13 := F.l13
  have u13 := F.u13
  rcases h with rfl | rfl | rfl | rfl | rfl | rfl | rfl | rfl | rfl | rfl | rfl | rfl | rfl | rfl
  · exact (impl_int32_nil n u f t w ).mono fun e w' ⟨he, hb⟩ => ⟨he.trans (ret2 (by simp [numV, cutI, cutU, wrap32, wrap64, IntKind.wrap, IntKind.bits, IntKind.signed]; try omega)), hb⟩
  · cases hb0 : (n != 0)
    · have h0 : n = 0 := by simpa using hb0
      exact (impl_int32_bool_false n u f t w hb0).mono fun e w' ⟨he, hb⟩ => ⟨he.trans (ret2 (by simp [numV, cutI, cutU, wrap32, wrap64, IntKind.wrap, IntKind.bits, IntKind.signed]; try simp [h0]; try omega)), hb⟩
    · have h0 : n ≠ 0 := by simpa using hb0
      exact (impl_int32_bool_true n u f t w hb0).mono fun e w' ⟨he, hb⟩ => ⟨he.trans (ret2 (by simp [numV, cutI, cutU, wrap32, wrap64, IntKind.wrap, IntKind.bits, IntKind.signed]; try simp [h0]; try omega)), hb⟩
  · exact (impl_int32_int n u f t w hn hu).mono fun e w' ⟨he, hb⟩ => ⟨he.trans (ret2 (by simp [numV, cutI, cutU, wrap32, wrap64, IntKind.wrap, IntKind.bits, IntKind.signed]; try omega)), hb⟩
  · exact (impl_int32_int8 n u f t w hn hu).mono fun e w' ⟨he, hb⟩ => ⟨he.trans (ret2 (by simp [numV, cutI, cutU, wrap32, wrap64, IntKind.wrap, IntKind.bits, IntKind.signed]; try omega)), hb⟩
  · exact (impl_int32_int16 n u f t w hn hu).mono fun e w' ⟨he, hb⟩ => ⟨he.trans (ret2 (by simp [numV, cutI, cutU, wrap32, wrap64, IntKind.wrap, IntKind.bits, IntKind.signed]; try omega)), hb⟩
  · exact (impl_int32_int32 n u f t w hn hu).mono fun e w' ⟨he, hb⟩ => ⟨he.trans (ret2 (by simp [numV, cutI, cutU, wrap32, wrap64, IntKind.wrap, IntKind.bits, IntKind.signed]; try omega)), hb⟩
  · exact (impl_int32_int64 n u f t w hn hu).mono fun e w' ⟨he, hb⟩ => ⟨he.trans (ret2 (by simp [numV, cutI, cutU, wrap32, wrap64, IntKind.wrap, IntKind.bits, IntKind.signed]; try omega)), hb⟩
  · exact (impl_int32_uint n u f t w hn hu).mono fun e w' ⟨he, hb⟩ => ⟨he.trans (ret2 (by simp [numV, cutI, cutU, wrap32, wrap64, IntKind.wrap, IntKind.bits, IntKind.signed]; try omega)), hb⟩
  · exact (impl_int32_uint8 n u f t w hn hu).mono fun e w' ⟨he, hb⟩ => ⟨he.trans (ret2 (by simp [numV, cutI, cutU, wrap32, wrap64, IntKind.wrap, IntKind.bits, IntKind.signed]; try omega)), hb⟩
  · exact (impl_int32_uint16 n u f t w hn hu).mono fun e w' ⟨he, hb⟩ => ⟨he.trans (ret2 (by simp [numV, cutI, cutU, wrap32, wrap64, IntKind.wrap, IntKind.bits, IntKind.signed]; try omega)), hb⟩
  · exact (impl_int32_uint32 n u f t w hn hu).mono fun e w' ⟨he, hb⟩ => ⟨he.trans (ret2 (by simp [numV, cutI, cutU, wrap32, wrap64, IntKind.wrap, IntKind.bits, IntKind.signed]; try omega)), hb⟩
  · exact (impl_int32_uint64 n u f t w hn hu).mono fun e w' ⟨he, hb⟩ => ⟨he.trans (ret2 (by simp [numV, cutI, cutU, wrap32, wrap64, IntKind.wrap, IntKind.bits, IntKind.signed]; try omega)), hb⟩
  · exact (impl_int32_float32 n u f t w F.c (F.i12 _ (by decide) (by decide)) F.l12 F.u12).mono fun e w' ⟨he, hb⟩ => ⟨he.trans (ret2 (by simp [numV, cutI, cutU, wrap32, wrap64, IntKind.wrap, IntKind.bits, IntKind.signed]; try omega)), hb⟩
  · exact (impl_int32_float64 n u f t w hn hu (F.i13 _ (by decide) (by decide)) F.l13 F.u13).mono fun e w' ⟨he, hb⟩ => ⟨he.trans (ret2 (by simp [numV, cutI, cutU, wrap32, wrap64, IntKind.wrap, IntKind.bits, IntKind.signed]; try omega)), hb⟩

theorem num_int64 (kx n u : Int) (f r : Nat) (z12 z13 : Int) (t : ByteArray) (hk : 0 ≤ kx ∧ kx ≤ 13) (w : World) (hn : -9223372036854775808 ≤ n ∧ n ≤ 9223372036854775807) (hu : 0 ≤ u ∧ u ≤ 18446744073709551615) (F : FOK f r z12 z13) :
    Calls Tryd.prog 7 #[anyOf kx n u f t] w fun e w' => e = .returned (.tuple #[.int .i64 (IntKind.i64.wrap (numV kx n u z12 z13)), .bool true]) ∧ Below w.heap.size w w' := by
  have h : kx = 0 ∨ kx = 1 ∨ kx = 2 ∨ kx = 3 ∨ kx = 4 ∨ kx = 5 ∨ kx = 6 ∨ kx = 7 ∨ kx = 8 ∨ kx = 9 ∨ kx = 10 ∨ kx = 11 ∨ kx = 12 ∨ kx = 13 := by omega
  have l12 := F.l12
  have u12 := F.u12
  have l13 := F.l13
  have u13 := F.u13
  rcases h with rfl | rfl | rfl | rfl | rfl | rfl | rfl | rfl | rfl | rfl | rfl | rfl | rfl | rfl
  · exact (impl_int64_nil n u f t w ).mono fun e w' ⟨he, hb⟩ => ⟨he.trans (ret2 (by simp [numV, cutI, cutU, wrap32, wrap64, IntKind.wrap, IntKind.bits, IntKind.signed]; try omega)), hb⟩
  · cases hb0 : (n != 0)
    · have h0 : n = 0 := by simpa using hb0
      exact (impl_int64_bool_false n u f t w hb0).mono fun e w' ⟨he, hb⟩ => ⟨he.trans (ret2 (by simp [numV, cutI, cutU, wrap32, wrap64, IntKind.wrap, IntKind.bits, IntKind.signed]; try simp [h0]; try omega)), hb⟩
    · have h0 : n ≠ 0 := by simpa using hb0
      exact (impl_int64_bool_true n u f t w hb0).mono fun e w' ⟨he, hb⟩ => ⟨he.trans (ret2 (by simp [numV, cutI, cutU, wrap32, wrap64, IntKind.wrap, IntKind.bits, IntKind.signed]; try simp [h0]; try omega)), hb⟩
  · exact (impl_int64_int n u f t w hn hu).mono fun e w' ⟨he, hb⟩ => ⟨he.trans (ret2 (by simp [numV, cutI, cutU, wrap32, wrap64, IntKind.wrap, IntKind.bits, IntKind.signed]; try omega)), hb⟩
  · exact (impl_int64_int8 n u f t w hn hu).mono fun e w' ⟨he, hb⟩ => ⟨he.trans (ret2 (by simp [numV, cutI, cutU, wrap32, wrap64, IntKind.wrap, IntKind.bits, IntKind.signed]; try omega)), hb⟩
  · exact (impl_int64_int16 n u f t w hn hu).mono fun e w' ⟨he, hb⟩ => ⟨he.trans (ret2 (by simp [numV, cutI, cutU, wrap32, wrap64, IntKind.wrap, IntKind.bits, IntKind.signed]; try omega)), hb⟩
  · exact (impl_int64_int32 n u f t w hn hu).mono fun e w' ⟨he, hb⟩ => ⟨he.trans (ret2 (by simp [numV, cutI, cutU, wrap32, wrap64, IntKind.wrap, IntKind.bits, IntKind.signed]; try omega)), hb⟩
  · exact (impl_int64_int64 n u f t w hn hu).mono fun e w' ⟨he, hb⟩ => ⟨he.trans (ret2 (by simp [numV, cutI, cutU, wrap32, wrap64, IntKind.wrap, IntKind.bits, IntKind.signed]; try omega)), hb⟩
  · exact (impl_int64_uint n u f t w hn hu).mono fun e w' ⟨he, hb⟩ => ⟨he.trans (ret2 (by simp [numV, cutI, cutU, wrap32, wrap64, IntKind.wrap, IntKind.bits, IntKind.signed]; try omega)), hb⟩
  · exact (impl_int64_uint8 n u f t w hn hu).mono fun e w' ⟨he, hb⟩ => ⟨he.trans (ret2 (by simp [numV, cutI, cutU, wrap32, wrap64, IntKind.wrap, IntKind.bits, IntKind.signed]; try omega)), hb⟩
  · exact (impl_int64_uint16 n u f t w hn hu).mono fun e w' ⟨he, hb⟩ => ⟨he.trans (ret2 (by simp [numV, cutI, cutU, wrap32, wrap64, IntKind.wrap, IntKind.bits, IntKind.signed]; try omega)), hb⟩
  · exact (impl_int64_uint32 n u f t w hn hu).mono fun e w' ⟨he, hb⟩ => ⟨he.trans (ret2 (by simp [numV, cutI, cutU, wrap32, wrap64, IntKind.wrap, IntKind.bits, IntKind.signed]; try omega)), hb⟩
  · exact (impl_int64_uint64 n u f t w hn hu).mono fun e w' ⟨he, hb⟩ => ⟨he.trans (ret2 (by simp [numV, cutI, cutU, wrap32, wrap64, IntKind.wrap, IntKind.bits, IntKind.signed]; try omega)), hb⟩
  · exact (impl_int64_float32 n u f t w F.c (F.i12 _ (by decide) (by decide)) F.l12 F.u12).mono fun e w' ⟨he, hb⟩ => ⟨he.trans (ret2 (by simp [numV, cutI, cutU, wrap32, wrap64, IntKind.wrap, IntKind.bits, IntKind.signed]; try omega)), hb⟩
  · exact (impl_int64_float64 n u f t w hn hu (F.i13 _ (by decide) (by decide)) F.l13 F.u13).mono fun e w' ⟨he, hb⟩ => ⟨he.trans (ret2 (by simp [numV, cutI, cutU, wrap32, wrap64, IntKind.wrap, IntKind.bits, IntKind.signed]; try omega)), hb⟩
end Go.Proofs.YtbcknchbighieaaDoor.E
