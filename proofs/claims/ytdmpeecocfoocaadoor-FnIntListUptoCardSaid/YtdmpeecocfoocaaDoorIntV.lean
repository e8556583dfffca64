/- strconv.ParseInt at base 0, over this seat's program. Printed by a small program. -/
import Derived.Test.YtdmpeecocfoocaaDoorIparse
import Derived.Lib.AppendIntMem
namespace Go.Proofs.YtdmpeecocfoocaaDoor.E
open Go.RowKit Go.Proofs
open Go.Lib (NumEnd)
set_option linter.unusedVariables false
set_option linter.unusedSimpArgs false

/-- The number that strconv.ParseInt gives, and whether there is an error. -/
def gotV : NumEnd Int × Int → Int
  | (.ok v, _) => v
  | (Go.Lib.NumEnd.syntax, _) => 0
  | (.range, c) => c
def badV : NumEnd Int × Int → Bool
  | (.ok _, _) => false
  | (Go.Lib.NumEnd.syntax, _) => true
  | (.range, _) => true
def IntGot (p : NumEnd Int × Int) (w : World) (e : Ending) (w' : World) : Prop :=
  ∃ E : Value, e = .returned (.tuple #[.int .i64 (gotV p), E]) ∧ ((badV p = false ∧ E = .nilIface) ∨ (badV p = true ∧ ∃ T q, E = .iface T q)) ∧ Below w.heap.size w w'

theorem plusE_in {M C : Nat} {l : List UInt8} (hC : 0 < C) : -(C : Int) ≤ gotV (plusE C (puV M l)) ∧ gotV (plusE C (puV M l)) < C := by
  generalize puV M l = r
  rcases r with u | _ | _
  · simp only [plusE]; split <;> simp only [gotV] <;> omega
  · simp only [plusE, gotV]; omega
  · simp only [plusE, gotV]; omega
theorem minusE_in {M C : Nat} {l : List UInt8} (hC : 0 < C) : -(C : Int) ≤ gotV (minusE C (puV M l)) ∧ gotV (minusE C (puV M l)) < C := by
  generalize puV M l = r
  rcases r with u | _ | _
  · simp only [minusE]; split <;> simp only [gotV] <;> omega
  · simp only [minusE, gotV]; omega
  · simp only [minusE, gotV]; omega
theorem piE_in {M C : Nat} (hC : 0 < C) (l : List UInt8) : -(C : Int) ≤ gotV (piE M C l) ∧ gotV (piE M C l) < C := by
  cases l with
  | nil => simp only [piE, gotV]; omega
  | cons c r =>
    simp only [piE]
    split
    · exact plusE_in hC
    · split
      · exact minusE_in hC
      · exact plusE_in hC

set_option maxHeartbeats 1600000 in
set_option maxRecDepth 100000 in
theorem parseInt8 (t : ByteArray) (hmax : t.size ≤ 281474976710656) (w : World) (he1 : ErrCell 0 w) (he2 : ErrCell 1 w) :
    Calls Tryd.prog 86 #[.string t, .int .i64 0, .int .i64 8] w fun e w' => IntGot (piE 255 128 t.data.toList) w e w' := by
  have H0 : Calls Tryd.prog 107 #[.string t, .int .i64 0, .int .i64 8] w fun e w' => e = .returned (intTup 162 (piE 255 128 t.data.toList)) ∧ Below w.heap.size w w' := by
    by_cases hne : 0 < t.size
    · exact pi8 t hne (by omega) w
    · have ht : t = ⟨#[]⟩ := ByteArray.ext (Array.eq_empty_of_size_eq_zero (by show t.size = 0; omega))
      subst ht
      exact (Tryd.internal_strconv_ParseInt_empty 0 8 w).mono fun e w' ⟨he, hw⟩ => ⟨he, by rw [hw]; exact Below.refl _ _⟩
  generalize piE 255 128 t.data.toList = v at H0
  have E1 := Lib.hid he1
  have E2 := Lib.hid he2
  clear he1 he2
  unfold IntGot
  rcases v with ⟨v | _ | _, c⟩
  · simp only [intTup] at H0
    have H := Lib.hid H0
    clear H0
    go_enter Tryd.func86, Tryd.ntmps86
    go_wp2_with (go_at_call 107; refine (H.out).mono ?_; rintro e w1 ⟨rfl, hb1⟩)
    go_ret2
    exact ⟨.nilIface, rfl, .inl ⟨rfl, rfl⟩, hb1⟩
  · simp only [intTup] at H0
    have H := Lib.hid H0
    clear H0
    go_enter Tryd.func86, Tryd.ntmps86
    go_wp2_with (first
      | (go_at_call 107; refine (H.out).mono ?_; rintro e w1 ⟨rfl, hb1⟩)
      | (go_at_call 108; obtain ⟨ev, hv, hev⟩ := E1.out.below hb1; refine (Tryd.strconv_toError_syntax _ t 0 8 ev _ hmax hv hev).mono ?_; rintro e w2 ⟨N, rfl, _, _, hb2⟩))
    go_ret2
    exact ⟨_, rfl, .inr ⟨rfl, _, _, rfl⟩, below_step hb1 hb2⟩
  · simp only [intTup] at H0
    have H := Lib.hid H0
    clear H0
    go_enter Tryd.func86, Tryd.ntmps86
    go_wp2_with (first
      | (go_at_call 107; refine (H.out).mono ?_; rintro e w1 ⟨rfl, hb1⟩)
      | (go_at_call 108; obtain ⟨ev, hv, hev⟩ := E2.out.below hb1; refine (Tryd.strconv_toError_range _ t 0 8 ev _ hmax hv hev).mono ?_; rintro e w2 ⟨N, rfl, _, _, hb2⟩))
    go_ret2
    exact ⟨_, rfl, .inr ⟨rfl, _, _, rfl⟩, below_step hb1 hb2⟩

set_option maxHeartbeats 1600000 in
set_option maxRecDepth 100000 in
theorem parseInt16 (t : ByteArray) (hmax : t.size ≤ 281474976710656) (w : World) (he1 : ErrCell 0 w) (he2 : ErrCell 1 w) :
    Calls Tryd.prog 86 #[.string t, .int .i64 0, .int .i64 16] w fun e w' => IntGot (piE 65535 32768 t.data.toList) w e w' := by
  have H0 : Calls Tryd.prog 107 #[.string t, .int .i64 0, .int .i64 16] w fun e w' => e = .returned (intTup 162 (piE 65535 32768 t.data.toList)) ∧ Below w.heap.size w w' := by
    by_cases hne : 0 < t.size
    · exact pi16 t hne (by omega) w
    · have ht : t = ⟨#[]⟩ := ByteArray.ext (Array.eq_empty_of_size_eq_zero (by show t.size = 0; omega))
      subst ht
      exact (Tryd.internal_strconv_ParseInt_empty 0 16 w).mono fun e w' ⟨he, hw⟩ => ⟨he, by rw [hw]; exact Below.refl _ _⟩
  generalize piE 65535 32768 t.data.toList = v at H0
  have E1 := Lib.hid he1
  have E2 := Lib.hid he2
  clear he1 he2
  unfold IntGot
  rcases v with ⟨v | _ | _, c⟩
  · simp only [intTup] at H0
    have H := Lib.hid H0
    clear H0
    go_enter Tryd.func86, Tryd.ntmps86
    go_wp2_with (go_at_call 107; refine (H.out).mono ?_; rintro e w1 ⟨rfl, hb1⟩)
    go_ret2
    exact ⟨.nilIface, rfl, .inl ⟨rfl, rfl⟩, hb1⟩
  · simp only [intTup] at H0
    have H := Lib.hid H0
    clear H0
    go_enter Tryd.func86, Tryd.ntmps86
    go_wp2_with (first
      | (go_at_call 107; refine (H.out).mono ?_; rintro e w1 ⟨rfl, hb1⟩)
      | (go_at_call 108; obtain ⟨ev, hv, hev⟩ := E1.out.below hb1; refine (Tryd.strconv_toError_syntax _ t 0 16 ev _ hmax hv hev).mono ?_; rintro e w2 ⟨N, rfl, _, _, hb2⟩))
    go_ret2
    exact ⟨_, rfl, .inr ⟨rfl, _, _, rfl⟩, below_step hb1 hb2⟩
  · simp only [intTup] at H0
    have H := Lib.hid H0
    clear H0
    go_enter Tryd.func86, Tryd.ntmps86
    go_wp2_with (first
      | (go_at_call 107; refine (H.out).mono ?_; rintro e w1 ⟨rfl, hb1⟩)
      | (go_at_call 108; obtain ⟨ev, hv, hev⟩ := E2.out.below hb1; refine (Tryd.strconv_toError_range _ t 0 16 ev _ hmax hv hev).mono ?_; rintro e w2 ⟨N, rfl, _, _, hb2⟩))
    go_ret2
    exact ⟨_, rfl, .inr ⟨rfl, _, _, rfl⟩, below_step hb1 hb2⟩

set_option maxHeartbeats 1600000 in
set_option maxRecDepth 100000 in
theorem parseInt32 (t : ByteArray) (hmax : t.size ≤ 281474976710656) (w : World) (he1 : ErrCell 0 w) (he2 : ErrCell 1 w) :
    Calls Tryd.prog 86 #[.string t, .int .i64 0, .int .i64 32] w fun e w' => IntGot (piE 4294967295 2147483648 t.data.toList) w e w' := by
  have H0 : Calls Tryd.prog 107 #[.string t, .int .i64 0, .int .i64 32] w fun e w' => e = .returned (intTup 162 (piE 4294967295 2147483648 t.data.toList)) ∧ Below w.heap.size w w' := by
    by_cases hne : 0 < t.size
    · exact pi32 t hne (by omega) w
    · have ht : t = ⟨#[]⟩ := ByteArray.ext (Array.eq_empty_of_size_eq_zero (by show t.size = 0; omega))
      subst ht
      exact (Tryd.internal_strconv_ParseInt_empty 0 32 w).mono fun e w' ⟨he, hw⟩ => ⟨he, by rw [hw]; exact Below.refl _ _⟩
  generalize piE 4294967295 2147483648 t.data.toList = v at H0
  have E1 := Lib.hid he1
  have E2 := Lib.hid he2
  clear he1 he2
  unfold IntGot
  rcases v with ⟨v | _ | _, c⟩
  · simp only [intTup] at H0
    have H := Lib.hid H0
    clear H0
    go_enter Tryd.func86, Tryd.ntmps86
    go_wp2_with (go_at_call 107; refine (H.out).mono ?_; rintro e w1 ⟨rfl, hb1⟩)
    go_ret2
    exact ⟨.nilIface, rfl, .inl ⟨rfl, rfl⟩, hb1⟩
  · simp only [intTup] at H0
    have H := Lib.hid H0
    clear H0
    go_enter Tryd.func86, Tryd.ntmps86
    go_wp2_with (first
      | (go_at_call 107; refine (H.out).mono ?_; rintro e w1 ⟨rfl, hb1⟩)
      | (go_at_call 108; obtain ⟨ev, hv, hev⟩ := E1.out.below hb1; refine (Tryd.strconv_toError_syntax _ t 0 32 ev _ hmax hv hev).mono ?_; rintro e w2 ⟨N, rfl, _, _, hb2⟩))
    go_ret2
    exact ⟨_, rfl, .inr ⟨rfl, _, _, rfl⟩, below_step hb1 hb2⟩
  · simp only [intTup] at H0
    have H := Lib.hid H0
    clear H0
    go_enter Tryd.func86, Tryd.ntmps86
    go_wp2_with (first
      | (go_at_call 107; refine (H.out).mono ?_; rintro e w1 ⟨rfl, hb1⟩)
      | (go_at_call 108; obtain ⟨ev, hv, hev⟩ := E2.out.below hb1; refine (Tryd.strconv_toError_range _ t 0 32 ev _ hmax hv hev).mono ?_; rintro e w2 ⟨N, rfl, _, _, hb2⟩))
    go_ret2
    exact ⟨_, rfl, .inr ⟨rfl, _, _, rfl⟩, below_step hb1 hb2⟩

set_option maxHeartbeats 1600000 in
set_option maxRecDepth 100000 in
theorem parseInt64 (t : ByteArray) (hmax : t.size ≤ 281474976710656) (w : World) (he1 : ErrCell 0 w) (he2 : ErrCell 1 w) :
    Calls Tryd.prog 86 #[.string t, .int .i64 0, .int .i64 64] w fun e w' => IntGot (piE 18446744073709551615 9223372036854775808 t.data.toList) w e w' := by
  have H0 : Calls Tryd.prog 107 #[.string t, .int .i64 0, .int .i64 64] w fun e w' => e = .returned (intTup 162 (piE 18446744073709551615 9223372036854775808 t.data.toList)) ∧ Below w.heap.size w w' := by
    by_cases hne : 0 < t.size
    · exact pi64 t hne (by omega) w
    · have ht : t = ⟨#[]⟩ := ByteArray.ext (Array.eq_empty_of_size_eq_zero (by show t.size = 0; omega))
      subst ht
      exact (Tryd.internal_strconv_ParseInt_empty 0 64 w).mono fun e w' ⟨he, hw⟩ => ⟨he, by rw [hw]; exact Below.refl _ _⟩
  generalize piE 18446744073709551615 9223372036854775808 t.data.toList = v at H0
  have E1 := Lib.hid he1
  have E2 := Lib.hid he2
  clear he1 he2
  unfold IntGot
  rcases v with ⟨v | _ | _, c⟩
  · simp only [intTup] at H0
    have H := Lib.hid H0
    clear H0
    go_enter Tryd.func86, Tryd.ntmps86
    go_wp2_with (go_at_call 107; refine (H.out).mono ?_; rintro e w1 ⟨rfl, hb1⟩)
    go_ret2
    exact ⟨.nilIface, rfl, .inl ⟨rfl, rfl⟩, hb1⟩
  · simp only [intTup] at H0
    have H := Lib.hid H0
    clear H0
    go_enter Tryd.func86, Tryd.ntmps86
    go_wp2_with (first
      | (go_at_call 107; refine (H.out).mono ?_; rintro e w1 ⟨rfl, hb1⟩)
      | (go_at_call 108; obtain ⟨ev, hv, hev⟩ := E1.out.below hb1; refine (Tryd.strconv_toError_syntax _ t 0 64 ev _ hmax hv hev).mono ?_; rintro e w2 ⟨N, rfl, _, _, hb2⟩))
    go_ret2
    exact ⟨_, rfl, .inr ⟨rfl, _, _, rfl⟩, below_step hb1 hb2⟩
  · simp only [intTup] at H0
    have H := Lib.hid H0
    clear H0
    go_enter Tryd.func86, Tryd.ntmps86
    go_wp2_with (first
      | (go_at_call 107; refine (H.out).mono ?_; rintro e w1 ⟨rfl, hb1⟩)
      | (go_at_call 108; obtain ⟨ev, hv, hev⟩ := E2.out.below hb1; refine (Tryd.strconv_toError_range _ t 0 64 ev _ hmax hv hev).mono ?_; rintro e w2 ⟨N, rfl, _, _, hb2⟩))
    go_ret2
    exact ⟨_, rfl, .inr ⟨rfl, _, _, rfl⟩, below_step hb1 hb2⟩

end Go.Proofs.YtdmpeecocfoocaaDoor.E

namespace Go.Proofs.YtdmpeecocfoocaaDoor.E
open Go.RowKit Go.Proofs
open Go.Lib (NumEnd)
set_option linter.unusedVariables false
set_option linter.unusedSimpArgs false

/-- What an integer says. -/
def said (n : Int) : ByteArray := ⟨(Lib.itoa n).toArray⟩
/-- The table that Itoa reads. -/
abbrev Pow (w : World) : Prop := Lib.TabIs Tryd.prog w "internal/strconv.uint64pow10" .u64 Lib.pow10Tab

theorem new_int (a : Addr) (b u : Int) (w : World) (hc : w.cell? a = some (.int .i64 u)) (hf : w.frozen? a = false) :
    Calls Tryd.prog 88 #[.int .i64 b, .pointer (some a)] w fun e w' => e = .returned (.pointer (some a)) ∧ w' = w.setCell a (.int .i64 b) := by
  go_enter Tryd.func88, Tryd.ntmps88
  go_wp2
  go_ret
  exact ⟨rfl, rfl⟩

theorem zz_int (a : Addr) (b u : Int) (w : World) (hc : w.cell? a = some (.int .i64 u)) (hf : w.frozen? a = false) :
    Calls Tryd.prog 38 #[.int .i64 b, .pointer (some a)] w fun e w' => e = .returned (.pointer (some a)) ∧ w' = w.setCell a (.int .i64 b) := by
  go_enter Tryd.func38, Tryd.ntmps38
  go_wp2_with (go_at_call 88; refine (new_int a b u _ hc hf).mono ?_; rintro e w' ⟨rfl, rfl⟩)
  go_ret
  exact ⟨rfl, rfl⟩

set_option maxRecDepth 100000 in
theorem string_int (a : Addr) (n : Int) (h0 : -9223372036854775808 ≤ n) (h1 : n ≤ 9223372036854775807) (w : World) (hc : w.cell? a = some (.int .i64 n)) (ht : Pow w) :
    Calls Tryd.prog 40 #[.pointer (some a)] w fun e w' => e = .returned (.string (said n)) ∧ Below w.heap.size w w' := by
  have HT := Lib.hid ht
  clear ht
  go_enter Tryd.func40, Tryd.ntmps40
  go_wp2_with (go_at_call 89; refine (Tryd.strconv_Itoa n (by omega) (by omega) _ HT.out).mono ?_; rintro e w1 ⟨rfl, kk, os, hg⟩)
  go_ret
  exact ⟨rfl, Lib.below_grow _ _ (Nat.le_refl _) _ _⟩

set_option maxRecDepth 100000 in
theorem set_int (a : Addr) (s : ByteArray) (u : Int) (w : World) (hc : w.cell? a = some (.int .i64 u)) (hf : w.frozen? a = false) (hs : s.size ≤ 281474976710656) (he1 : ErrCell 0 w) (he2 : ErrCell 1 w) :
    Calls Tryd.prog 39 #[.pointer (some a), .string s] w fun e w' => ∃ E w1, e = .returned E ∧ ((badV (piE 18446744073709551615 9223372036854775808 s.data.toList) = false ∧ E = .nilIface) ∨ (badV (piE 18446744073709551615 9223372036854775808 s.data.toList) = true ∧ ∃ t q, E = .iface t q)) ∧ Below w.heap.size w w1 ∧ w' = w1.setCell a (.int .i64 (gotV (piE 18446744073709551615 9223372036854775808 s.data.toList))) := by
  have H := Lib.hid (parseInt64 s hs w he1 he2)
  have hi := piE_in (M := 18446744073709551615) (C := 9223372036854775808) (by omega) s.data.toList
  clear he1 he2
  generalize piE 18446744073709551615 9223372036854775808 s.data.toList = p at H hi ⊢
  unfold IntGot at H
  generalize gotV p = V at H hi ⊢
  generalize badV p = B at H ⊢
  obtain ⟨hi1, hi2⟩ := hi
  have i1 : -9223372036854775808 ≤ V := by omega
  have i2 : V ≤ 9223372036854775807 := by omega
  clear hi1 hi2
  go_enter Tryd.func39, Tryd.ntmps39
  go_wp2_with (go_at_call 86; refine (H.out).mono ?_; rintro e w1 ⟨E, rfl, hE, hb⟩; have HE := Lib.hid hE; clear hE; have hc1 := cell_kept hb hc; have hf1 := frozen_kept hb hc hf)
  go_ret
  exact ⟨_, w1, rfl, HE.out, hb, by first | rfl | (congr 2; go_num)⟩

theorem new_int8 (a : Addr) (b u : Int) (w : World) (hc : w.cell? a = some (.int .i8 u)) (hf : w.frozen? a = false) :
    Calls Tryd.prog 90 #[.int .i8 b, .pointer (some a)] w fun e w' => e = .returned (.pointer (some a)) ∧ w' = w.setCell a (.int .i8 b) := by
  go_enter Tryd.func90, Tryd.ntmps90
  go_wp2
  go_ret
  exact ⟨rfl, rfl⟩

theorem zz_int8 (a : Addr) (b u : Int) (w : World) (hc : w.cell? a = some (.int .i8 u)) (hf : w.frozen? a = false) :
    Calls Tryd.prog 41 #[.int .i8 b, .pointer (some a)] w fun e w' => e = .returned (.pointer (some a)) ∧ w' = w.setCell a (.int .i8 b) := by
  go_enter Tryd.func41, Tryd.ntmps41
  go_wp2_with (go_at_call 90; refine (new_int8 a b u _ hc hf).mono ?_; rintro e w' ⟨rfl, rfl⟩)
  go_ret
  exact ⟨rfl, rfl⟩

set_option maxRecDepth 100000 in
theorem string_int8 (a : Addr) (n : Int) (h0 : -128 ≤ n) (h1 : n ≤ 127) (w : World) (hc : w.cell? a = some (.int .i8 n)) (ht : Pow w) :
    Calls Tryd.prog 43 #[.pointer (some a)] w fun e w' => e = .returned (.string (said n)) ∧ Below w.heap.size w w' := by
  have HT := Lib.hid ht
  clear ht
  go_enter Tryd.func43, Tryd.ntmps43
  go_wp2_with (go_at_call 91; refine (Tryd.strconv_FormatInt_10 n (by omega) (by omega) _ HT.out).mono ?_; rintro e w1 ⟨rfl, kk, os, hg⟩)
  go_ret
  exact ⟨rfl, Lib.below_grow _ _ (Nat.le_refl _) _ _⟩

set_option maxRecDepth 100000 in
theorem set_int8 (a : Addr) (s : ByteArray) (u : Int) (w : World) (hc : w.cell? a = some (.int .i8 u)) (hf : w.frozen? a = false) (hs : s.size ≤ 281474976710656) (he1 : ErrCell 0 w) (he2 : ErrCell 1 w) :
    Calls Tryd.prog 42 #[.pointer (some a), .string s] w fun e w' => ∃ E w1, e = .returned E ∧ ((badV (piE 255 128 s.data.toList) = false ∧ E = .nilIface) ∨ (badV (piE 255 128 s.data.toList) = true ∧ ∃ t q, E = .iface t q)) ∧ Below w.heap.size w w1 ∧ w' = w1.setCell a (.int .i8 (gotV (piE 255 128 s.data.toList))) := by
  have H := Lib.hid (parseInt8 s hs w he1 he2)
  have hi := piE_in (M := 255) (C := 128) (by omega) s.data.toList
  clear he1 he2
  generalize piE 255 128 s.data.toList = p at H hi ⊢
  unfold IntGot at H
  generalize gotV p = V at H hi ⊢
  generalize badV p = B at H ⊢
  obtain ⟨hi1, hi2⟩ := hi
  have i1 : -128 ≤ V := by omega
  have i2 : V ≤ 127 := by omega
  clear hi1 hi2
  go_enter Tryd.func42, Tryd.ntmps42
  go_wp2_with (go_at_call 86; refine (H.out).mono ?_; rintro e w1 ⟨E, rfl, hE, hb⟩; have HE := Lib.hid hE; clear hE; have hc1 := cell_kept hb hc; have hf1 := frozen_kept hb hc hf)
  go_ret
  exact ⟨_, w1, rfl, HE.out, hb, by first | rfl | (congr 2; go_num)⟩

theorem new_int16 (a : Addr) (b u : Int) (w : World) (hc : w.cell? a = some (.int .i16 u)) (hf : w.frozen? a = false) :
    Calls Tryd.prog 92 #[.int .i16 b, .pointer (some a)] w fun e w' => e = .returned (.pointer (some a)) ∧ w' = w.setCell a (.int .i16 b) := by
  go_enter Tryd.func92, Tryd.ntmps92
  go_wp2
  go_ret
  exact ⟨rfl, rfl⟩

theorem zz_int16 (a : Addr) (b u : Int) (w : World) (hc : w.cell? a = some (.int .i16 u)) (hf : w.frozen? a = false) :
    Calls Tryd.prog 44 #[.int .i16 b, .pointer (some a)] w fun e w' => e = .returned (.pointer (some a)) ∧ w' = w.setCell a (.int .i16 b) := by
  go_enter Tryd.func44, Tryd.ntmps44
  go_wp2_with (go_at_call 92; refine (new_int16 a b u _ hc hf).mono ?_; rintro e w' ⟨rfl, rfl⟩)
  go_ret
  exact ⟨rfl, rfl⟩

set_option maxRecDepth 100000 in
theorem string_int16 (a : Addr) (n : Int) (h0 : -32768 ≤ n) (h1 : n ≤ 32767) (w : World) (hc : w.cell? a = some (.int .i16 n)) (ht : Pow w) :
    Calls Tryd.prog 46 #[.pointer (some a)] w fun e w' => e = .returned (.string (said n)) ∧ Below w.heap.size w w' := by
  have HT := Lib.hid ht
  clear ht
  go_enter Tryd.func46, Tryd.ntmps46
  go_wp2_with (go_at_call 91; refine (Tryd.strconv_FormatInt_10 n (by omega) (by omega) _ HT.out).mono ?_; rintro e w1 ⟨rfl, kk, os, hg⟩)
  go_ret
  exact ⟨rfl, Lib.below_grow _ _ (Nat.le_refl _) _ _⟩

set_option maxRecDepth 100000 in
theorem set_int16 (a : Addr) (s : ByteArray) (u : Int) (w : World) (hc : w.cell? a = some (.int .i16 u)) (hf : w.frozen? a = false) (hs : s.size ≤ 281474976710656) (he1 : ErrCell 0 w) (he2 : ErrCell 1 w) :
    Calls Tryd.prog 45 #[.pointer (some a), .string s] w fun e w' => ∃ E w1, e = .returned E ∧ ((badV (piE 65535 32768 s.data.toList) = false ∧ E = .nilIface) ∨ (badV (piE 65535 32768 s.data.toList) = true ∧ ∃ t q, E = .iface t q)) ∧ Below w.heap.size w w1 ∧ w' = w1.setCell a (.int .i16 (gotV (piE 65535 32768 s.data.toList))) := by
  have H := Lib.hid (parseInt16 s hs w he1 he2)
  have hi := piE_in (M := 65535) (C := 32768) (by omega) s.data.toList
  clear he1 he2
  generalize piE 65535 32768 s.data.toList = p at H hi ⊢
  unfold IntGot at H
  generalize gotV p = V at H hi ⊢
  generalize badV p = B at H ⊢
  obtain ⟨hi1, hi2⟩ := hi
  have i1 : -32768 ≤ V := by omega
  have i2 : V ≤ 32767 := by omega
  clear hi1 hi2
  go_enter Tryd.func45, Tryd.ntmps45
  go_wp2_with (go_at_call 86; refine (H.out).mono ?_; rintro e w1 ⟨E, rfl, hE, hb⟩; have HE := Lib.hid hE; clear hE; have hc1 := cell_kept hb hc; have hf1 := frozen_kept hb hc hf)
  go_ret
  exact ⟨_, w1, rfl, HE.out, hb, by first | rfl | (congr 2; go_num)⟩

theorem new_int32 (a : Addr) (b u : Int) (w : World) (hc : w.cell? a = some (.int .i32 u)) (hf : w.frozen? a = false) :
    Calls Tryd.prog 93 #[.int .i32 b, .pointer (some a)] w fun e w' => e = .returned (.pointer (some a)) ∧ w' = w.setCell a (.int .i32 b) := by
  go_enter Tryd.func93, Tryd.ntmps93
  go_wp2
  go_ret
  exact ⟨rfl, rfl⟩

theorem zz_int32 (a : Addr) (b u : Int) (w : World) (hc : w.cell? a = some (.int .i32 u)) (hf : w.frozen? a = false) :
    Calls Tryd.prog 47 #[.int .i32 b, .pointer (some a)] w fun e w' => e = .returned (.pointer (some a)) ∧ w' = w.setCell a (.int .i32 b) := by
  go_enter Tryd.func47, Tryd.ntmps47
  go_wp2_with (go_at_call 93; refine (new_int32 a b u _ hc hf).mono ?_; rintro e w' ⟨rfl, rfl⟩)
  go_ret
  exact ⟨rfl, rfl⟩

set_option maxRecDepth 100000 in
theorem string_int32 (a : Addr) (n : Int) (h0 : -2147483648 ≤ n) (h1 : n ≤ 2147483647) (w : World) (hc : w.cell? a = some (.int .i32 n)) (ht : Pow w) :
    Calls Tryd.prog 49 #[.pointer (some a)] w fun e w' => e = .returned (.string (said n)) ∧ Below w.heap.size w w' := by
  have HT := Lib.hid ht
  clear ht
  go_enter Tryd.func49, Tryd.ntmps49
  go_wp2_with (go_at_call 91; refine (Tryd.strconv_FormatInt_10 n (by omega) (by omega) _ HT.out).mono ?_; rintro e w1 ⟨rfl, kk, os, hg⟩)
  go_ret
  exact ⟨rfl, Lib.below_grow _ _ (Nat.le_refl _) _ _⟩

set_option maxRecDepth 100000 in
theorem set_int32 (a : Addr) (s : ByteArray) (u : Int) (w : World) (hc : w.cell? a = some (.int .i32 u)) (hf : w.frozen? a = false) (hs : s.size ≤ 281474976710656) (he1 : ErrCell 0 w) (he2 : ErrCell 1 w) :
    Calls Tryd.prog 48 #[.pointer (some a), .string s] w fun e w' => ∃ E w1, e = .returned E ∧ ((badV (piE 4294967295 2147483648 s.data.toList) = false ∧ E = .nilIface) ∨ (badV (piE 4294967295 2147483648 s.data.toList) = true ∧ ∃ t q, E = .iface t q)) ∧ Below w.heap.size w w1 ∧ w' = w1.setCell a (.int .i32 (gotV (piE 4294967295 2147483648 s.data.toList))) := by
  have H := Lib.hid (parseInt32 s hs w he1 he2)
  have hi := piE_in (M := 4294967295) (C := 2147483648) (by omega) s.data.toList
  clear he1 he2
  generalize piE 4294967295 2147483648 s.data.toList = p at H hi ⊢
  unfold IntGot at H
  generalize gotV p = V at H hi ⊢
  generalize badV p = B at H ⊢
  obtain ⟨hi1, hi2⟩ := hi
  have i1 : -2147483648 ≤ V := by omega
  have i2 : V ≤ 2147483647 := by omega
  clear hi1 hi2
  go_enter Tryd.func48, Tryd.ntmps48
  go_wp2_with (go_at_call 86; refine (H.out).mono ?_; rintro e w1 ⟨E, rfl, hE, hb⟩; have HE := Lib.hid hE; clear hE; have hc1 := cell_kept hb hc; have hf1 := frozen_kept hb hc hf)
  go_ret
  exact ⟨_, w1, rfl, HE.out, hb, by first | rfl | (congr 2; go_num)⟩

theorem new_int64 (a : Addr) (b u : Int) (w : World) (hc : w.cell? a = some (.int .i64 u)) (hf : w.frozen? a = false) :
    Calls Tryd.prog 94 #[.int .i64 b, .pointer (some a)] w fun e w' => e = .returned (.pointer (some a)) ∧ w' = w.setCell a (.int .i64 b) := by
  go_enter Tryd.func94, Tryd.ntmps94
  go_wp2
  go_ret
  exact ⟨rfl, rfl⟩

theorem zz_int64 (a : Addr) (b u : Int) (w : World) (hc : w.cell? a = some (.int .i64 u)) (hf : w.frozen? a = false) :
    Calls Tryd.prog 50 #[.int .i64 b, .pointer (some a)] w fun e w' => e = .returned (.pointer (some a)) ∧ w' = w.setCell a (.int .i64 b) := by
  go_enter Tryd.func50, Tryd.ntmps50
  go_wp2_with (go_at_call 94; refine (new_int64 a b u _ hc hf).mono ?_; rintro e w' ⟨rfl, rfl⟩)
  go_ret
  exact ⟨rfl, rfl⟩

set_option maxRecDepth 100000 in
theorem string_int64 (a : Addr) (n : Int) (h0 : -9223372036854775808 ≤ n) (h1 : n ≤ 9223372036854775807) (w : World) (hc : w.cell? a = some (.int .i64 n)) (ht : Pow w) :
    Calls Tryd.prog 52 #[.pointer (some a)] w fun e w' => e = .returned (.string (said n)) ∧ Below w.heap.size w w' := by
  have HT := Lib.hid ht
  clear ht
  go_enter Tryd.func52, Tryd.ntmps52
  go_wp2_with (go_at_call 91; refine (Tryd.strconv_FormatInt_10 n (by omega) (by omega) _ HT.out).mono ?_; rintro e w1 ⟨rfl, kk, os, hg⟩)
  go_ret
  exact ⟨rfl, Lib.below_grow _ _ (Nat.le_refl _) _ _⟩

set_option maxRecDepth 100000 in
theorem set_int64 (a : Addr) (s : ByteArray) (u : Int) (w : World) (hc : w.cell? a = some (.int .i64 u)) (hf : w.frozen? a = false) (hs : s.size ≤ 281474976710656) (he1 : ErrCell 0 w) (he2 : ErrCell 1 w) :
    Calls Tryd.prog 51 #[.pointer (some a), .string s] w fun e w' => ∃ E w1, e = .returned E ∧ ((badV (piE 18446744073709551615 9223372036854775808 s.data.toList) = false ∧ E = .nilIface) ∨ (badV (piE 18446744073709551615 9223372036854775808 s.data.toList) = true ∧ ∃ t q, E = .iface t q)) ∧ Below w.heap.size w w1 ∧ w' = w1.setCell a (.int .i64 (gotV (piE 18446744073709551615 9223372036854775808 s.data.toList))) := by
  have H := Lib.hid (parseInt64 s hs w he1 he2)
  have hi := piE_in (M := 18446744073709551615) (C := 9223372036854775808) (by omega) s.data.toList
  clear he1 he2
  generalize piE 18446744073709551615 9223372036854775808 s.data.toList = p at H hi ⊢
  unfold IntGot at H
  generalize gotV p = V at H hi ⊢
  generalize badV p = B at H ⊢
  obtain ⟨hi1, hi2⟩ := hi
  have i1 : -9223372036854775808 ≤ V := by omega
  have i2 : V ≤ 9223372036854775807 := by omega
  clear hi1 hi2
  go_enter Tryd.func51, Tryd.ntmps51
  go_wp2_with (go_at_call 86; refine (H.out).mono ?_; rintro e w1 ⟨E, rfl, hE, hb⟩; have HE := Lib.hid hE; clear hE; have hc1 := cell_kept hb hc; have hf1 := frozen_kept hb hc hf)
  go_ret
  exact ⟨_, w1, rfl, HE.out, hb, by first | rfl | (congr 2; go_num)⟩

end Go.Proofs.YtdmpeecocfoocaaDoor.E
