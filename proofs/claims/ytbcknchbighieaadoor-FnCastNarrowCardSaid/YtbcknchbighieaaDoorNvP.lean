/- cast's integers of a text: something is returned, whatever the text is. Written by gen_narp.py. -/
import Derived.Test.YtbcknchbighieaaDoorNvS
import Derived.Test.YtbcknchbighieaaDoorIntZ
namespace Go.Proofs.YtbcknchbighieaaDoor.E
open Go.RowKit Go.Proofs
set_option linter.unusedVariables false
set_option linter.unusedSimpArgs false

set_option maxRecDepth 100000 in
set_option maxHeartbeats 1600000 in
theorem trimDecimal_any (s : ByteArray) (hs : s.size ≤ 400) (w : World) :
    Calls Tryd.prog 45 #[.string s] w fun e w' => (∃ t : ByteArray, t.size ≤ 401 ∧ e = .returned (.string t)) ∧ w = w' := by
  have HC := fun W => Lib.hid (zzContains_any s hs W)
  have HN := fun W => Lib.hid (zzNumber_any s hs W)
  go_enter Tryd.func45, Tryd.ntmps45
  go_wp2_with (first
    | ((with_reducible go_at_call 56); refine (HC _).out.mono ?_; rintro e w1 ⟨⟨b, rfl⟩, rfl⟩)
    | ((with_reducible go_at_call 57); refine (HN _).out.mono ?_; rintro e w1 ⟨⟨t, b2, ht, rfl⟩, rfl⟩))
  all_goals
    go_ret
    exact ⟨⟨_, by first | omega | (rw [ByteArray.size_append]; have : (⟨#[48]⟩ : ByteArray).size = 1 := rfl; omega) | (show 1 ≤ 401; decide), rfl⟩, rfl⟩
def GotB (w : World) (e : Ending) (w' : World) : Prop := ∃ (v : Int) (E : Value), e = .returned (.tuple #[.int .i64 v, E]) ∧ (E = .bool true ∨ E = .bool false) ∧ Below w.heap.size w w'
theorem gotB {w w' : World} {e : Ending} {v : Int} {E : Value} (h : e = .returned (.tuple #[.int .i64 v, E])) (hE : E = .bool true ∨ E = .bool false) (hb : Below w.heap.size w w') : GotB w e w' := ⟨v, E, h, hE, hb⟩
theorem errors_new (s : ByteArray) (w : World) :
    Calls Tryd.prog 42 #[.string s] w fun e w' => (∃ (T : TypeId) (q : Value), e = .returned (.iface T q)) ∧ Below w.heap.size w w' := by
  go_enter Tryd.func42, Tryd.ntmps42
  go_wp2
  go_ret
  exact ⟨⟨_, _, rfl⟩, (Below.refl _ _).alloc (Nat.le_refl _) _⟩

def Got_int (w : World) (e : Ending) (w' : World) : Prop := ∃ (v : Int) (E : Value), e = .returned (.tuple #[.int .i64 v, E]) ∧ (E = .nilIface ∨ ∃ T q, E = .iface T q) ∧ Below w.heap.size w w'
theorem got_int {w w' : World} {e : Ending} {v : Int} {E : Value} (h : e = .returned (.tuple #[.int .i64 v, E])) (hE : E = .nilIface ∨ ∃ T q, E = .iface T q) (hb : Below w.heap.size w w') : Got_int w e w' := ⟨v, E, h, hE, hb⟩
set_option maxRecDepth 100000 in
set_option maxHeartbeats 1600000 in
theorem parseInt_int (s : ByteArray) (hs : s.size ≤ 400) (w : World) (he1 : ErrCell 0 w) (he2 : ErrCell 1 w) :
    Calls Tryd.prog 53 #[.string s] w (Got_int w) := by
  have HT := fun W => Lib.hid (trimDecimal_any s hs W)
  have E1 := Lib.hid he1
  have E2 := Lib.hid he2
  clear he1 he2
  go_enter Tryd.func53, Tryd.ntmps53
  go_wp2_with (first
    | ((with_reducible go_at_call 45); refine (HT _).out.mono ?_; rintro e w1 ⟨⟨t, ht, rfl⟩, rfl⟩)
    | ((with_reducible go_at_call 44); refine (parseInt0 t (by omega) w E1.out E2.out).mono ?_; rintro e w1 ⟨E, rfl, ⟨_, rfl⟩ | ⟨_, T, q, rfl⟩, hb1⟩))
  all_goals
    go_ret2
    first | exact got_int rfl (.inl rfl) hb1 | exact got_int rfl (.inr ⟨_, _, rfl⟩) hb1

set_option maxRecDepth 100000 in
theorem toNumber_int_string (s : ByteArray) (w : World) :
    Calls Tryd.prog 61 #[.iface 9 (.string s)] w fun e w' => e = .returned (.tuple #[.int .i64 0, .bool false]) ∧ w = w' := by
  have z0 := Tryd.no_int 9 (by decide) (.string s)
  have z1 := Tryd.no_int8 9 (by decide) (.string s)
  have z2 := Tryd.no_int16 9 (by decide) (.string s)
  have z3 := Tryd.no_int32 9 (by decide) (.string s)
  have z4 := Tryd.no_int64 9 (by decide) (.string s)
  have z5 := Tryd.no_uint 9 (by decide) (.string s)
  have z6 := Tryd.no_uint8 9 (by decide) (.string s)
  have z7 := Tryd.no_uint16 9 (by decide) (.string s)
  have z8 := Tryd.no_uint32 9 (by decide) (.string s)
  have z9 := Tryd.no_uint64 9 (by decide) (.string s)
  have z10 := Tryd.no_float32 9 (by decide) (.string s)
  have z11 := Tryd.no_float64 9 (by decide) (.string s)
  have z12 := Tryd.no_bool 9 (by decide) (.string s)
  have z13 := Tryd.no_Weekday 9 (by decide) (.string s)
  have z14 := Tryd.no_Month 9 (by decide) (.string s)
  go_enter Tryd.func61, Tryd.ntmps61
  go_wp2_with (go_at_call 41; refine (indirect_any 9 _ (by decide) (by decide) _).mono ?_; rintro e w' ⟨rfl, rfl⟩)
  go_ret2
  exact ⟨rfl, rfl⟩
set_option maxRecDepth 100000 in
set_option maxHeartbeats 1600000 in
theorem toNumberE_int_string (s : ByteArray) (hs : s.size ≤ 400) (w : World) (he1 : ErrCell 0 w) (he2 : ErrCell 1 w) :
    Calls Tryd.prog 52 #[.iface 9 (.string s), .func (.func 53) #[] #[]] w (Got_int w) := by
  have HN := fun w => Lib.hid (toNumber_int_string s w)
  have HP := Lib.hid (parseInt_int s hs w he1 he2)
  have HB := Lib.hid (Below.refl w.heap.size w)
  have z0 := Tryd.is_string (.string s)
  clear he1 he2
  go_enter Tryd.func52, Tryd.ntmps52
  go_wp2_with (first
    | ((with_reducible go_at_call 61); refine (HN _).out.mono ?_; rintro e w1 ⟨rfl, rfl⟩)
    | ((with_reducible go_at_call 41); refine (indirect_any 9 _ (by decide) (by decide) _).mono ?_; rintro e w' ⟨rfl, rfl⟩)
    | ((with_reducible go_at_call 53); refine HP.out.mono ?_; rintro e w1 ⟨v, E, rfl, rfl | ⟨T, q, rfl⟩, hb1⟩ <;> have HB := Lib.hid hb1 <;> clear hb1)
    | ((with_reducible go_at_call 42); refine (errors_new _ _).mono ?_; rintro e w2 ⟨⟨T2, q2, rfl⟩, hb2⟩; have HB := Lib.hid (below_step HB.out hb2); clear hb2))
  all_goals
    go_ret2
    first | exact got_int rfl (.inl rfl) HB.out | exact got_int rfl (.inr ⟨_, _, rfl⟩) HB.out
set_option maxRecDepth 100000 in
set_option maxHeartbeats 1600000 in
theorem toE_int_string (s : ByteArray) (hs : s.size ≤ 400) (w : World) (he1 : ErrCell 0 w) (he2 : ErrCell 1 w) :
    Calls Tryd.prog 39 #[.iface 9 (.string s)] w (Got_int w) := by
  have hmf : ∀ (fn : Fn) (first cap : Array Value) (w : World), (Instr.makeFunc fn first cap).run Tryd.prog w = .ok (.func fn first cap) w := fun _ _ _ _ => rfl
  have HE := Lib.hid (toNumberE_int_string s hs w he1 he2)
  clear he1 he2
  go_enter Tryd.func39, Tryd.ntmps39
  go_wp2_with ((with_reducible go_at_call 52); refine HE.out.mono ?_; rintro e w1 ⟨v, E, rfl, hE, hb1⟩)
  go_ret2
  exact got_int rfl hE hb1
set_option maxRecDepth 100000 in
set_option maxHeartbeats 1600000 in
theorem impl_int_string (n u : Int) (f : Nat) (s : ByteArray) (hs : s.size ≤ 400) (w : World) (hn : -9223372036854775808 ≤ n ∧ n ≤ 9223372036854775807) (hu : 0 ≤ u ∧ u ≤ 18446744073709551615) (he1 : ErrCell 0 w) (he2 : ErrCell 1 w) :
    Calls Tryd.prog 17 #[anyOf 14 n u f s] w (GotB w) := by
  have HV := fun w => Lib.hid (value_string n u f s w hn hu)
  have HE := fun w he1 he2 => Lib.hid (toE_int_string s hs w he1 he2)
  have E1 := Lib.hid he1
  have E2 := Lib.hid he2
  clear hn hu he1 he2
  unfold anyOf at HV ⊢
  go_enter Tryd.func17, Tryd.ntmps17
  go_wp2_with (first
    | ((with_reducible go_at_call 13); refine ((HV _).out).mono ?_; rintro e w1 ⟨rfl, hb0⟩; have hb1 : Below w.heap.size w w1 := ((Below.refl _ _).alloc (Nat.le_refl _) _).trans (hb0.mono (by simp)))
    | ((with_reducible go_at_call 39); refine ((HE _ (E1.out.below hb1) (E2.out.below hb1)).out).mono ?_; rintro e w2 ⟨v, E, rfl, rfl | ⟨T, q, rfl⟩, hb2⟩ <;> have hb3 := below_step hb1 hb2))
  all_goals
    go_quiet (fail)
    go_wp2
    go_ret2
    first | exact gotB rfl (.inl rfl) (bdrew hb3 _) | exact gotB rfl (.inr rfl) (bdrew hb3 _)

def Got_int8 (w : World) (e : Ending) (w' : World) : Prop := ∃ (v : Int) (E : Value), e = .returned (.tuple #[.int .i8 v, E]) ∧ (E = .nilIface ∨ ∃ T q, E = .iface T q) ∧ Below w.heap.size w w'
theorem got_int8 {w w' : World} {e : Ending} {v : Int} {E : Value} (h : e = .returned (.tuple #[.int .i8 v, E])) (hE : E = .nilIface ∨ ∃ T q, E = .iface T q) (hb : Below w.heap.size w w') : Got_int8 w e w' := ⟨v, E, h, hE, hb⟩
set_option maxRecDepth 100000 in
set_option maxHeartbeats 1600000 in
theorem parseInt_int8 (s : ByteArray) (hs : s.size ≤ 400) (w : World) (he1 : ErrCell 0 w) (he2 : ErrCell 1 w) :
    Calls Tryd.prog 47 #[.string s] w (Got_int8 w) := by
  have HT := fun W => Lib.hid (trimDecimal_any s hs W)
  have E1 := Lib.hid he1
  have E2 := Lib.hid he2
  clear he1 he2
  go_enter Tryd.func47, Tryd.ntmps47
  go_wp2_with (first
    | ((with_reducible go_at_call 45); refine (HT _).out.mono ?_; rintro e w1 ⟨⟨t, ht, rfl⟩, rfl⟩)
    | ((with_reducible go_at_call 44); refine (parseInt0 t (by omega) w E1.out E2.out).mono ?_; rintro e w1 ⟨E, rfl, ⟨_, rfl⟩ | ⟨_, T, q, rfl⟩, hb1⟩))
  all_goals
    go_ret2
    first | exact got_int8 rfl (.inl rfl) hb1 | exact got_int8 rfl (.inr ⟨_, _, rfl⟩) hb1

set_option maxRecDepth 100000 in
theorem toNumber_int8_string (s : ByteArray) (w : World) :
    Calls Tryd.prog 58 #[.iface 9 (.string s)] w fun e w' => e = .returned (.tuple #[.int .i8 0, .bool false]) ∧ w = w' := by
  have z0 := Tryd.no_int8 9 (by decide) (.string s)
  have z1 := Tryd.no_int 9 (by decide) (.string s)
  have z2 := Tryd.no_int16 9 (by decide) (.string s)
  have z3 := Tryd.no_int32 9 (by decide) (.string s)
  have z4 := Tryd.no_int64 9 (by decide) (.string s)
  have z5 := Tryd.no_uint 9 (by decide) (.string s)
  have z6 := Tryd.no_uint8 9 (by decide) (.string s)
  have z7 := Tryd.no_uint16 9 (by decide) (.string s)
  have z8 := Tryd.no_uint32 9 (by decide) (.string s)
  have z9 := Tryd.no_uint64 9 (by decide) (.string s)
  have z10 := Tryd.no_float32 9 (by decide) (.string s)
  have z11 := Tryd.no_float64 9 (by decide) (.string s)
  have z12 := Tryd.no_bool 9 (by decide) (.string s)
  have z13 := Tryd.no_Weekday 9 (by decide) (.string s)
  have z14 := Tryd.no_Month 9 (by decide) (.string s)
  go_enter Tryd.func58, Tryd.ntmps58
  go_wp2_with (go_at_call 41; refine (indirect_any 9 _ (by decide) (by decide) _).mono ?_; rintro e w' ⟨rfl, rfl⟩)
  go_ret2
  exact ⟨rfl, rfl⟩
set_option maxRecDepth 100000 in
set_option maxHeartbeats 1600000 in
theorem toNumberE_int8_string (s : ByteArray) (hs : s.size ≤ 400) (w : World) (he1 : ErrCell 0 w) (he2 : ErrCell 1 w) :
    Calls Tryd.prog 46 #[.iface 9 (.string s), .func (.func 47) #[] #[]] w (Got_int8 w) := by
  have HN := fun w => Lib.hid (toNumber_int8_string s w)
  have HP := Lib.hid (parseInt_int8 s hs w he1 he2)
  have HB := Lib.hid (Below.refl w.heap.size w)
  have z0 := Tryd.is_string (.string s)
  clear he1 he2
  go_enter Tryd.func46, Tryd.ntmps46
  go_wp2_with (first
    | ((with_reducible go_at_call 58); refine (HN _).out.mono ?_; rintro e w1 ⟨rfl, rfl⟩)
    | ((with_reducible go_at_call 41); refine (indirect_any 9 _ (by decide) (by decide) _).mono ?_; rintro e w' ⟨rfl, rfl⟩)
    | ((with_reducible go_at_call 47); refine HP.out.mono ?_; rintro e w1 ⟨v, E, rfl, rfl | ⟨T, q, rfl⟩, hb1⟩ <;> have HB := Lib.hid hb1 <;> clear hb1)
    | ((with_reducible go_at_call 42); refine (errors_new _ _).mono ?_; rintro e w2 ⟨⟨T2, q2, rfl⟩, hb2⟩; have HB := Lib.hid (below_step HB.out hb2); clear hb2))
  all_goals
    go_ret2
    first | exact got_int8 rfl (.inl rfl) HB.out | exact got_int8 rfl (.inr ⟨_, _, rfl⟩) HB.out
set_option maxRecDepth 100000 in
set_option maxHeartbeats 1600000 in
theorem toE_int8_string (s : ByteArray) (hs : s.size ≤ 400) (w : World) (he1 : ErrCell 0 w) (he2 : ErrCell 1 w) :
    Calls Tryd.prog 36 #[.iface 9 (.string s)] w (Got_int8 w) := by
  have hmf : ∀ (fn : Fn) (first cap : Array Value) (w : World), (Instr.makeFunc fn first cap).run Tryd.prog w = .ok (.func fn first cap) w := fun _ _ _ _ => rfl
  have HE := Lib.hid (toNumberE_int8_string s hs w he1 he2)
  clear he1 he2
  go_enter Tryd.func36, Tryd.ntmps36
  go_wp2_with ((with_reducible go_at_call 46); refine HE.out.mono ?_; rintro e w1 ⟨v, E, rfl, hE, hb1⟩)
  go_ret2
  exact got_int8 rfl hE hb1
set_option maxRecDepth 100000 in
set_option maxHeartbeats 1600000 in
theorem impl_int8_string (n u : Int) (f : Nat) (s : ByteArray) (hs : s.size ≤ 400) (w : World) (hn : -9223372036854775808 ≤ n ∧ n ≤ 9223372036854775807) (hu : 0 ≤ u ∧ u ≤ 18446744073709551615) (he1 : ErrCell 0 w) (he2 : ErrCell 1 w) :
    Calls Tryd.prog 14 #[anyOf 14 n u f s] w (GotB w) := by
  have HV := fun w => Lib.hid (value_string n u f s w hn hu)
  have HE := fun w he1 he2 => Lib.hid (toE_int8_string s hs w he1 he2)
  have E1 := Lib.hid he1
  have E2 := Lib.hid he2
  clear hn hu he1 he2
  unfold anyOf at HV ⊢
  go_enter Tryd.func14, Tryd.ntmps14
  go_wp2_with (first
    | ((with_reducible go_at_call 13); refine ((HV _).out).mono ?_; rintro e w1 ⟨rfl, hb0⟩; have hb1 : Below w.heap.size w w1 := ((Below.refl _ _).alloc (Nat.le_refl _) _).trans (hb0.mono (by simp)))
    | ((with_reducible go_at_call 36); refine ((HE _ (E1.out.below hb1) (E2.out.below hb1)).out).mono ?_; rintro e w2 ⟨v, E, rfl, rfl | ⟨T, q, rfl⟩, hb2⟩ <;> have hb3 := below_step hb1 hb2))
  all_goals
    go_quiet (fail)
    go_wp2
    go_ret2
    first | exact gotB rfl (.inl rfl) (bdrew hb3 _) | exact gotB rfl (.inr rfl) (bdrew hb3 _)

def Got_int16 (w : World) (e : Ending) (w' : World) : Prop := ∃ (v : Int) (E : Value), e = .returned (.tuple #[.int .i16 v, E]) ∧ (E = .nilIface ∨ ∃ T q, E = .iface T q) ∧ Below w.heap.size w w'
theorem got_int16 {w w' : World} {e : Ending} {v : Int} {E : Value} (h : e = .returned (.tuple #[.int .i16 v, E])) (hE : E = .nilIface ∨ ∃ T q, E = .iface T q) (hb : Below w.heap.size w w') : Got_int16 w e w' := ⟨v, E, h, hE, hb⟩
set_option maxRecDepth 100000 in
set_option maxHeartbeats 1600000 in
theorem parseInt_int16 (s : ByteArray) (hs : s.size ≤ 400) (w : World) (he1 : ErrCell 0 w) (he2 : ErrCell 1 w) :
    Calls Tryd.prog 49 #[.string s] w (Got_int16 w) := by
  have HT := fun W => Lib.hid (trimDecimal_any s hs W)
  have E1 := Lib.hid he1
  have E2 := Lib.hid he2
  clear he1 he2
  go_enter Tryd.func49, Tryd.ntmps49
  go_wp2_with (first
    | ((with_reducible go_at_call 45); refine (HT _).out.mono ?_; rintro e w1 ⟨⟨t, ht, rfl⟩, rfl⟩)
    | ((with_reducible go_at_call 44); refine (parseInt0 t (by omega) w E1.out E2.out).mono ?_; rintro e w1 ⟨E, rfl, ⟨_, rfl⟩ | ⟨_, T, q, rfl⟩, hb1⟩))
  all_goals
    go_ret2
    first | exact got_int16 rfl (.inl rfl) hb1 | exact got_int16 rfl (.inr ⟨_, _, rfl⟩) hb1

set_option maxRecDepth 100000 in
theorem toNumber_int16_string (s : ByteArray) (w : World) :
    Calls Tryd.prog 59 #[.iface 9 (.string s)] w fun e w' => e = .returned (.tuple #[.int .i16 0, .bool false]) ∧ w = w' := by
  have z0 := Tryd.no_int16 9 (by decide) (.string s)
  have z1 := Tryd.no_int 9 (by decide) (.string s)
  have z2 := Tryd.no_int8 9 (by decide) (.string s)
  have z3 := Tryd.no_int32 9 (by decide) (.string s)
  have z4 := Tryd.no_int64 9 (by decide) (.string s)
  have z5 := Tryd.no_uint 9 (by decide) (.string s)
  have z6 := Tryd.no_uint8 9 (by decide) (.string s)
  have z7 := Tryd.no_uint16 9 (by decide) (.string s)
  have z8 := Tryd.no_uint32 9 (by decide) (.string s)
  have z9 := Tryd.no_uint64 9 (by decide) (.string s)
  have z10 := Tryd.no_float32 9 (by decide) (.string s)
  have z11 := Tryd.no_float64 9 (by decide) (.string s)
  have z12 := Tryd.no_bool 9 (by decide) (.string s)
  have z13 := Tryd.no_Weekday 9 (by decide) (.string s)
  have z14 := Tryd.no_Month 9 (by decide) (.string s)
  go_enter Tryd.func59, Tryd.ntmps59
  go_wp2_with (go_at_call 41; refine (indirect_any 9 _ (by decide) (by decide) _).mono ?_; rintro e w' ⟨rfl, rfl⟩)
  go_ret2
  exact ⟨rfl, rfl⟩
set_option maxRecDepth 100000 in
set_option maxHeartbeats 1600000 in
theorem toNumberE_int16_string (s : ByteArray) (hs : s.size ≤ 400) (w : World) (he1 : ErrCell 0 w) (he2 : ErrCell 1 w) :
    Calls Tryd.prog 48 #[.iface 9 (.string s), .func (.func 49) #[] #[]] w (Got_int16 w) := by
  have HN := fun w => Lib.hid (toNumber_int16_string s w)
  have HP := Lib.hid (parseInt_int16 s hs w he1 he2)
  have HB := Lib.hid (Below.refl w.heap.size w)
  have z0 := Tryd.is_string (.string s)
  clear he1 he2
  go_enter Tryd.func48, Tryd.ntmps48
  go_wp2_with (first
    | ((with_reducible go_at_call 59); refine (HN _).out.mono ?_; rintro e w1 ⟨rfl, rfl⟩)
    | ((with_reducible go_at_call 41); refine (indirect_any 9 _ (by decide) (by decide) _).mono ?_; rintro e w' ⟨rfl, rfl⟩)
    | ((with_reducible go_at_call 49); refine HP.out.mono ?_; rintro e w1 ⟨v, E, rfl, rfl | ⟨T, q, rfl⟩, hb1⟩ <;> have HB := Lib.hid hb1 <;> clear hb1)
    | ((with_reducible go_at_call 42); refine (errors_new _ _).mono ?_; rintro e w2 ⟨⟨T2, q2, rfl⟩, hb2⟩; have HB := Lib.hid (below_step HB.out hb2); clear hb2))
  all_goals
    go_ret2
    first | exact got_int16 rfl (.inl rfl) HB.out | exact got_int16 rfl (.inr ⟨_, _, rfl⟩) HB.out
set_option maxRecDepth 100000 in
set_option maxHeartbeats 1600000 in
theorem toE_int16_string (s : ByteArray) (hs : s.size ≤ 400) (w : World) (he1 : ErrCell 0 w) (he2 : ErrCell 1 w) :
    Calls Tryd.prog 37 #[.iface 9 (.string s)] w (Got_int16 w) := by
  have hmf : ∀ (fn : Fn) (first cap : Array Value) (w : World), (Instr.makeFunc fn first cap).run Tryd.prog w = .ok (.func fn first cap) w := fun _ _ _ _ => rfl
  have HE := Lib.hid (toNumberE_int16_string s hs w he1 he2)
  clear he1 he2
  go_enter Tryd.func37, Tryd.ntmps37
  go_wp2_with ((with_reducible go_at_call 48); refine HE.out.mono ?_; rintro e w1 ⟨v, E, rfl, hE, hb1⟩)
  go_ret2
  exact got_int16 rfl hE hb1
set_option maxRecDepth 100000 in
set_option maxHeartbeats 1600000 in
theorem impl_int16_string (n u : Int) (f : Nat) (s : ByteArray) (hs : s.size ≤ 400) (w : World) (hn : -9223372036854775808 ≤ n ∧ n ≤ 9223372036854775807) (hu : 0 ≤ u ∧ u ≤ 18446744073709551615) (he1 : ErrCell 0 w) (he2 : ErrCell 1 w) :
    Calls Tryd.prog 15 #[anyOf 14 n u f s] w (GotB w) := by
  have HV := fun w => Lib.hid (value_string n u f s w hn hu)
  have HE := fun w he1 he2 => Lib.hid (toE_int16_string s hs w he1 he2)
  have E1 := Lib.hid he1
  have E2 := Lib.hid he2
  clear hn hu he1 he2
  unfold anyOf at HV ⊢
  go_enter Tryd.func15, Tryd.ntmps15
  go_wp2_with (first
    | ((with_reducible go_at_call 13); refine ((HV _).out).mono ?_; rintro e w1 ⟨rfl, hb0⟩; have hb1 : Below w.heap.size w w1 := ((Below.refl _ _).alloc (Nat.le_refl _) _).trans (hb0.mono (by simp)))
    | ((with_reducible go_at_call 37); refine ((HE _ (E1.out.below hb1) (E2.out.below hb1)).out).mono ?_; rintro e w2 ⟨v, E, rfl, rfl | ⟨T, q, rfl⟩, hb2⟩ <;> have hb3 := below_step hb1 hb2))
  all_goals
    go_quiet (fail)
    go_wp2
    go_ret2
    first | exact gotB rfl (.inl rfl) (bdrew hb3 _) | exact gotB rfl (.inr rfl) (bdrew hb3 _)

def Got_int32 (w : World) (e : Ending) (w' : World) : Prop := ∃ (v : Int) (E : Value), e = .returned (.tuple #[.int .i32 v, E]) ∧ (E = .nilIface ∨ ∃ T q, E = .iface T q) ∧ Below w.heap.size w w'
theorem got_int32 {w w' : World} {e : Ending} {v : Int} {E : Value} (h : e = .returned (.tuple #[.int .i32 v, E])) (hE : E = .nilIface ∨ ∃ T q, E = .iface T q) (hb : Below w.heap.size w w') : Got_int32 w e w' := ⟨v, E, h, hE, hb⟩
set_option maxRecDepth 100000 in
set_option maxHeartbeats 1600000 in
theorem parseInt_int32 (s : ByteArray) (hs : s.size ≤ 400) (w : World) (he1 : ErrCell 0 w) (he2 : ErrCell 1 w) :
    Calls Tryd.prog 51 #[.string s] w (Got_int32 w) := by
  have HT := fun W => Lib.hid (trimDecimal_any s hs W)
  have E1 := Lib.hid he1
  have E2 := Lib.hid he2
  clear he1 he2
  go_enter Tryd.func51, Tryd.ntmps51
  go_wp2_with (first
    | ((with_reducible go_at_call 45); refine (HT _).out.mono ?_; rintro e w1 ⟨⟨t, ht, rfl⟩, rfl⟩)
    | ((with_reducible go_at_call 44); refine (parseInt0 t (by omega) w E1.out E2.out).mono ?_; rintro e w1 ⟨E, rfl, ⟨_, rfl⟩ | ⟨_, T, q, rfl⟩, hb1⟩))
  all_goals
    go_ret2
    first | exact got_int32 rfl (.inl rfl) hb1 | exact got_int32 rfl (.inr ⟨_, _, rfl⟩) hb1

set_option maxRecDepth 100000 in
theorem toNumber_int32_string (s : ByteArray) (w : World) :
    Calls Tryd.prog 60 #[.iface 9 (.string s)] w fun e w' => e = .returned (.tuple #[.int .i32 0, .bool false]) ∧ w = w' := by
  have z0 := Tryd.no_int32 9 (by decide) (.string s)
  have z1 := Tryd.no_int 9 (by decide) (.string s)
  have z2 := Tryd.no_int8 9 (by decide) (.string s)
  have z3 := Tryd.no_int16 9 (by decide) (.string s)
  have z4 := Tryd.no_int64 9 (by decide) (.string s)
  have z5 := Tryd.no_uint 9 (by decide) (.string s)
  have z6 := Tryd.no_uint8 9 (by decide) (.string s)
  have z7 := Tryd.no_uint16 9 (by decide) (.string s)
  have z8 := Tryd.no_uint32 9 (by decide) (.string s)
  have z9 := Tryd.no_uint64 9 (by decide) (.string s)
  have z10 := Tryd.no_float32 9 (by decide) (.string s)
  have z11 := Tryd.no_float64 9 (by decide) (.string s)
  have z12 := Tryd.no_bool 9 (by decide) (.string s)
  have z13 := Tryd.no_Weekday 9 (by decide) (.string s)
  have z14 := Tryd.no_Month 9 (by decide) (.string s)
  go_enter Tryd.func60, Tryd.ntmps60
  go_wp2_with (go_at_call 41; refine (indirect_any 9 _ (by decide) (by decide) _).mono ?_; rintro e w' ⟨rfl, rfl⟩)
  go_ret2
  exact ⟨rfl, rfl⟩
set_option maxRecDepth 100000 in
set_option maxHeartbeats 1600000 in
theorem toNumberE_int32_string (s : ByteArray) (hs : s.size ≤ 400) (w : World) (he1 : ErrCell 0 w) (he2 : ErrCell 1 w) :
    Calls Tryd.prog 50 #[.iface 9 (.string s), .func (.func 51) #[] #[]] w (Got_int32 w) := by
  have HN := fun w => Lib.hid (toNumber_int32_string s w)
  have HP := Lib.hid (parseInt_int32 s hs w he1 he2)
  have HB := Lib.hid (Below.refl w.heap.size w)
  have z0 := Tryd.is_string (.string s)
  clear he1 he2
  go_enter Tryd.func50, Tryd.ntmps50
  go_wp2_with (first
    | ((with_reducible go_at_call 60); refine (HN _).out.mono ?_; rintro e w1 ⟨rfl, rfl⟩)
    | ((with_reducible go_at_call 41); refine (indirect_any 9 _ (by decide) (by decide) _).mono ?_; rintro e w' ⟨rfl, rfl⟩)
    | ((with_reducible go_at_call 51); refine HP.out.mono ?_; rintro e w1 ⟨v, E, rfl, rfl | ⟨T, q, rfl⟩, hb1⟩ <;> have HB := Lib.hid hb1 <;> clear hb1)
    | ((with_reducible go_at_call 42); refine (errors_new _ _).mono ?_; rintro e w2 ⟨⟨T2, q2, rfl⟩, hb2⟩; have HB := Lib.hid (below_step HB.out hb2); clear hb2))
  all_goals
    go_ret2
    first | exact got_int32 rfl (.inl rfl) HB.out | exact got_int32 rfl (.inr ⟨_, _, rfl⟩) HB.out
set_option maxRecDepth 100000 in
set_option maxHeartbeats 1600000 in
theorem toE_int32_string (s : ByteArray) (hs : s.size ≤ 400) (w : World) (he1 : ErrCell 0 w) (he2 : ErrCell 1 w) :
    Calls Tryd.prog 38 #[.iface 9 (.string s)] w (Got_int32 w) := by
  have hmf : ∀ (fn : Fn) (first cap : Array Value) (w : World), (Instr.makeFunc fn first cap).run Tryd.prog w = .ok (.func fn first cap) w := fun _ _ _ _ => rfl
  have HE := Lib.hid (toNumberE_int32_string s hs w he1 he2)
  clear he1 he2
  go_enter Tryd.func38, Tryd.ntmps38
  go_wp2_with ((with_reducible go_at_call 50); refine HE.out.mono ?_; rintro e w1 ⟨v, E, rfl, hE, hb1⟩)
  go_ret2
  exact got_int32 rfl hE hb1
set_option maxRecDepth 100000 in
set_option maxHeartbeats 1600000 in
theorem impl_int32_string (n u : Int) (f : Nat) (s : ByteArray) (hs : s.size ≤ 400) (w : World) (hn : -9223372036854775808 ≤ n ∧ n ≤ 9223372036854775807) (hu : 0 ≤ u ∧ u ≤ 18446744073709551615) (he1 : ErrCell 0 w) (he2 : ErrCell 1 w) :
    Calls Tryd.prog 16 #[anyOf 14 n u f s] w (GotB w) := by
  have HV := fun w => Lib.hid (value_string n u f s w hn hu)
  have HE := fun w he1 he2 => Lib.hid (toE_int32_string s hs w he1 he2)
  have E1 := Lib.hid he1
  have E2 := Lib.hid he2
  clear hn hu he1 he2
  unfold anyOf at HV ⊢
  go_enter Tryd.func16, Tryd.ntmps16
  go_wp2_with (first
    | ((with_reducible go_at_call 13); refine ((HV _).out).mono ?_; rintro e w1 ⟨rfl, hb0⟩; have hb1 : Below w.heap.size w w1 := ((Below.refl _ _).alloc (Nat.le_refl _) _).trans (hb0.mono (by simp)))
    | ((with_reducible go_at_call 38); refine ((HE _ (E1.out.below hb1) (E2.out.below hb1)).out).mono ?_; rintro e w2 ⟨v, E, rfl, rfl | ⟨T, q, rfl⟩, hb2⟩ <;> have hb3 := below_step hb1 hb2))
  all_goals
    go_quiet (fail)
    go_wp2
    go_ret2
    first | exact gotB rfl (.inl rfl) (bdrew hb3 _) | exact gotB rfl (.inr rfl) (bdrew hb3 _)

def Got_int64 (w : World) (e : Ending) (w' : World) : Prop := ∃ (v : Int) (E : Value), e = .returned (.tuple #[.int .i64 v, E]) ∧ (E = .nilIface ∨ ∃ T q, E = .iface T q) ∧ Below w.heap.size w w'
theorem got_int64 {w w' : World} {e : Ending} {v : Int} {E : Value} (h : e = .returned (.tuple #[.int .i64 v, E])) (hE : E = .nilIface ∨ ∃ T q, E = .iface T q) (hb : Below w.heap.size w w') : Got_int64 w e w' := ⟨v, E, h, hE, hb⟩
set_option maxRecDepth 100000 in
set_option maxHeartbeats 1600000 in
theorem parseInt_int64 (s : ByteArray) (hs : s.size ≤ 400) (w : World) (he1 : ErrCell 0 w) (he2 : ErrCell 1 w) :
    Calls Tryd.prog 19 #[.string s] w (Got_int64 w) := by
  have HT := fun W => Lib.hid (trimDecimal_any s hs W)
  have E1 := Lib.hid he1
  have E2 := Lib.hid he2
  clear he1 he2
  go_enter Tryd.func19, Tryd.ntmps19
  go_wp2_with (first
    | ((with_reducible go_at_call 45); refine (HT _).out.mono ?_; rintro e w1 ⟨⟨t, ht, rfl⟩, rfl⟩)
    | ((with_reducible go_at_call 44); refine (parseInt0 t (by omega) w E1.out E2.out).mono ?_; rintro e w1 ⟨E, rfl, ⟨_, rfl⟩ | ⟨_, T, q, rfl⟩, hb1⟩))
  all_goals
    go_ret2
    first | exact got_int64 rfl (.inl rfl) hb1 | exact got_int64 rfl (.inr ⟨_, _, rfl⟩) hb1

set_option maxRecDepth 100000 in
theorem toNumber_int64_string (s : ByteArray) (w : World) :
    Calls Tryd.prog 40 #[.iface 9 (.string s)] w fun e w' => e = .returned (.tuple #[.int .i64 0, .bool false]) ∧ w = w' := by
  have z0 := Tryd.no_int64 9 (by decide) (.string s)
  have z1 := Tryd.no_int 9 (by decide) (.string s)
  have z2 := Tryd.no_int8 9 (by decide) (.string s)
  have z3 := Tryd.no_int16 9 (by decide) (.string s)
  have z4 := Tryd.no_int32 9 (by decide) (.string s)
  have z5 := Tryd.no_uint 9 (by decide) (.string s)
  have z6 := Tryd.no_uint8 9 (by decide) (.string s)
  have z7 := Tryd.no_uint16 9 (by decide) (.string s)
  have z8 := Tryd.no_uint32 9 (by decide) (.string s)
  have z9 := Tryd.no_uint64 9 (by decide) (.string s)
  have z10 := Tryd.no_float32 9 (by decide) (.string s)
  have z11 := Tryd.no_float64 9 (by decide) (.string s)
  have z12 := Tryd.no_bool 9 (by decide) (.string s)
  have z13 := Tryd.no_Weekday 9 (by decide) (.string s)
  have z14 := Tryd.no_Month 9 (by decide) (.string s)
  go_enter Tryd.func40, Tryd.ntmps40
  go_wp2_with (go_at_call 41; refine (indirect_any 9 _ (by decide) (by decide) _).mono ?_; rintro e w' ⟨rfl, rfl⟩)
  go_ret2
  exact ⟨rfl, rfl⟩
set_option maxRecDepth 100000 in
set_option maxHeartbeats 1600000 in
theorem toNumberE_int64_string (s : ByteArray) (hs : s.size ≤ 400) (w : World) (he1 : ErrCell 0 w) (he2 : ErrCell 1 w) :
    Calls Tryd.prog 18 #[.iface 9 (.string s), .func (.func 19) #[] #[]] w (Got_int64 w) := by
  have HN := fun w => Lib.hid (toNumber_int64_string s w)
  have HP := Lib.hid (parseInt_int64 s hs w he1 he2)
  have HB := Lib.hid (Below.refl w.heap.size w)
  have z0 := Tryd.is_string (.string s)
  clear he1 he2
  go_enter Tryd.func18, Tryd.ntmps18
  go_wp2_with (first
    | ((with_reducible go_at_call 40); refine (HN _).out.mono ?_; rintro e w1 ⟨rfl, rfl⟩)
    | ((with_reducible go_at_call 41); refine (indirect_any 9 _ (by decide) (by decide) _).mono ?_; rintro e w' ⟨rfl, rfl⟩)
    | ((with_reducible go_at_call 19); refine HP.out.mono ?_; rintro e w1 ⟨v, E, rfl, rfl | ⟨T, q, rfl⟩, hb1⟩ <;> have HB := Lib.hid hb1 <;> clear hb1)
    | ((with_reducible go_at_call 42); refine (errors_new _ _).mono ?_; rintro e w2 ⟨⟨T2, q2, rfl⟩, hb2⟩; have HB := Lib.hid (below_step HB.out hb2); clear hb2))
  all_goals
    go_ret2
    first | exact got_int64 rfl (.inl rfl) HB.out | exact got_int64 rfl (.inr ⟨_, _, rfl⟩) HB.out
set_option maxRecDepth 100000 in
set_option maxHeartbeats 1600000 in
theorem toE_int64_string (s : ByteArray) (hs : s.size ≤ 400) (w : World) (he1 : ErrCell 0 w) (he2 : ErrCell 1 w) :
    Calls Tryd.prog 12 #[.iface 9 (.string s)] w (Got_int64 w) := by
  have hmf : ∀ (fn : Fn) (first cap : Array Value) (w : World), (Instr.makeFunc fn first cap).run Tryd.prog w = .ok (.func fn first cap) w := fun _ _ _ _ => rfl
  have HE := Lib.hid (toNumberE_int64_string s hs w he1 he2)
  clear he1 he2
  go_enter Tryd.func12, Tryd.ntmps12
  go_wp2_with ((with_reducible go_at_call 18); refine HE.out.mono ?_; rintro e w1 ⟨v, E, rfl, hE, hb1⟩)
  go_ret2
  exact got_int64 rfl hE hb1
set_option maxRecDepth 100000 in
set_option maxHeartbeats 1600000 in
theorem impl_int64_string (n u : Int) (f : Nat) (s : ByteArray) (hs : s.size ≤ 400) (w : World) (hn : -9223372036854775808 ≤ n ∧ n ≤ 9223372036854775807) (hu : 0 ≤ u ∧ u ≤ 18446744073709551615) (he1 : ErrCell 0 w) (he2 : ErrCell 1 w) :
    Calls Tryd.prog 7 #[anyOf 14 n u f s] w (GotB w) := by
  have HV := fun w => Lib.hid (value_string n u f s w hn hu)
  have HE := fun w he1 he2 => Lib.hid (toE_int64_string s hs w he1 he2)
  have E1 := Lib.hid he1
  have E2 := Lib.hid he2
  clear hn hu he1 he2
  unfold anyOf at HV ⊢
  go_enter Tryd.func7, Tryd.ntmps7
  go_wp2_with (first
    | ((with_reducible go_at_call 13); refine ((HV _).out).mono ?_; rintro e w1 ⟨rfl, hb0⟩; have hb1 : Below w.heap.size w w1 := ((Below.refl _ _).alloc (Nat.le_refl _) _).trans (hb0.mono (by simp)))
    | ((with_reducible go_at_call 12); refine ((HE _ (E1.out.below hb1) (E2.out.below hb1)).out).mono ?_; rintro e w2 ⟨v, E, rfl, rfl | ⟨T, q, rfl⟩, hb2⟩ <;> have hb3 := below_step hb1 hb2))
  all_goals
    go_quiet (fail)
    go_wp2
    go_ret2
    first | exact gotB rfl (.inl rfl) (bdrew hb3 _) | exact gotB rfl (.inr rfl) (bdrew hb3 _)
end Go.Proofs.YtbcknchbighieaaDoor.E
