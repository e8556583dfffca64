/- The walk of laws.FnIntsBack, over this seat's program: what an integer says is read as that integer. Written by gen_back.py. -/
import Derived.Test.YtjfgebgkdpomiaaDoorHeard
import Derived.Test.YtjfgebgkdpomiaaDoorIntLoop
namespace Go.Proofs.YtjfgebgkdpomiaaDoor.E
open Go.RowKit Go.Proofs
open Go.Lib (NumEnd)
set_option linter.unusedVariables false
set_option linter.unusedSimpArgs false

theorem dec_step {n : Nat} (h : ¬ n < 10) : Lib.decDigits n = Lib.decDigits (n / 10) ++ [UInt8.ofNat (48 + n % 10)] := by rw [Lib.decDigits, dif_neg h]
theorem dig_of {d : Nat} (h : d < 10) : dig0 (UInt8.ofNat (48 + d)).toNat = d := by
  rw [UInt8.toNat_ofNat_of_lt' (by simp [UInt8.size]; omega)]
  unfold dig0
  rw [if_pos (by omega)]
  omega
theorem dec_dgs (n : Nat) : dgs 10 (Lib.decDigits n) = true ∧ valD 10 0 (Lib.decDigits n) = n := by
  induction n using Nat.strongRecOn with
  | _ n ih =>
    by_cases h : n < 10
    · rw [Lib.decDigits_one h]
      have := dig_of h
      refine ⟨?_, ?_⟩
      · unfold dgs digV; simp only [List.all_cons, List.all_nil, Bool.and_true, decide_eq_true_eq]; rw [this, if_neg (by omega)]; omega
      · unfold valD; simp only [List.foldl_cons, List.foldl_nil]; rw [this]; omega
    · obtain ⟨h1, h2⟩ := ih (n / 10) (by omega)
      have hd := dig_of (d := n % 10) (by omega)
      rw [dec_step h]
      refine ⟨?_, ?_⟩
      · unfold dgs at h1 ⊢
        rw [List.all_append, h1]
        unfold digV
        simp only [List.all_cons, List.all_nil, Bool.and_true, Bool.true_and, decide_eq_true_eq]; rw [hd, if_neg (by omega)]; omega
      · unfold valD at h2 ⊢
        rw [List.foldl_append, h2]
        simp only [List.foldl_cons, List.foldl_nil]; rw [hd]; omega
theorem dec_first (n : Nat) (h0 : 0 < n) : ∃ c r, Lib.decDigits n = c :: r ∧ 49 ≤ c.toNat ∧ c.toNat ≤ 57 := by
  induction n using Nat.strongRecOn with
  | _ n ih =>
    by_cases h : n < 10
    · rw [Lib.decDigits_one h]
      refine ⟨_, _, rfl, ?_⟩
      rw [UInt8.toNat_ofNat_of_lt' (by simp [UInt8.size]; omega)]
      omega
    · obtain ⟨c, r, e, hc⟩ := ih (n / 10) (by omega) (by omega)
      rw [dec_step h, e]
      exact ⟨c, r ++ _, rfl, hc⟩
theorem dec_pu {M n : Nat} (h : n ≤ M) : puV M (Lib.decDigits n) = .ok n := by
  by_cases h0 : n = 0
  · subst h0
    rw [Lib.decDigits_one (by omega)]
    rfl
  · obtain ⟨c, r, e, hc⟩ := dec_first n (by omega)
    obtain ⟨h1, h2⟩ := dec_dgs n
    unfold puV
    have hb : preB (Lib.decDigits n) = (10, 0) := by
      rw [e]; unfold preB; rw [if_neg]; simp; omega
    rw [if_neg (by rw [e]; simp), hb]
    simp only [List.drop_zero]
    rw [puScan_dgs (by omega) _ 0 false h1 (by rw [h2]; exact h), h2]
    simp [puEnd]
theorem said_back {M C : Nat} (hCM : C ≤ M) (v : Int) (h0 : -(C : Int) ≤ v) (h1 : v < C) : intP M C (said v) = (.ok v, 0) := by
  unfold intP said
  show piE M C (Lib.itoa v) = _
  by_cases hn : v < 0
  · obtain ⟨u, rfl⟩ : ∃ u : Nat, v = -(u : Int) := ⟨v.natAbs, by omega⟩
    rw [Lib.itoa_neg u (by omega)]
    simp only [piE]
    rw [if_neg (by decide), if_pos (by decide), dec_pu (by omega)]
    simp only [minusE]
    rw [if_pos (by omega)]
  · obtain ⟨u, rfl⟩ : ∃ u : Nat, v = (u : Int) := ⟨v.toNat, by omega⟩
    rw [Lib.itoa_nonneg u]
    have hp := dec_pu (M := M) (n := u) (by omega)
    have : ∃ c r, Lib.decDigits u = c :: r ∧ 48 ≤ c.toNat := by
      by_cases hu : u = 0
      · subst hu; rw [Lib.decDigits_one (by omega)]; exact ⟨_, _, rfl, by decide⟩
      · obtain ⟨c, r, e, hc⟩ := dec_first u (by omega); exact ⟨c, r, e, by omega⟩
    obtain ⟨c, r, e, hc⟩ := this
    rw [e] at hp ⊢
    simp only [piE]
    rw [if_neg (by omega), if_neg (by omega), hp]
    simp only [plusE]
    rw [if_pos (by omega)]
theorem said_size (v : Int) (h0 : -9223372036854775808 ≤ v) (h1 : v ≤ 9223372036854775807) : (said v).size ≤ 2147483647 := by
  unfold said
  show (Lib.itoa v).toArray.size ≤ _
  simp only [List.size_toArray]
  by_cases hn : v < 0
  · obtain ⟨u, rfl⟩ : ∃ u : Nat, v = -(u : Int) := ⟨v.natAbs, by omega⟩
    have := nd_20 u (by omega)
    rw [Lib.itoa_neg u (by omega)]; simp; omega
  · obtain ⟨u, rfl⟩ : ∃ u : Nat, v = (u : Int) := ⟨v.toNat, by omega⟩
    have := nd_20 u (by omega)
    rw [Lib.itoa_nonneg u]; omega

theorem strs_one {w : World} {b : Nat} {s : ByteArray} (h : w.cell? ⟨b, 0, none⟩ = some (.string s)) : StrsAt w (some ⟨b, 0, none⟩) [s] := by
  intro i hi
  have : i = 0 := by simp at hi; omega
  subst this
  exact ⟨b, 0, rfl, by simpa [tx] using h⟩

theorem one_all {s : ByteArray} (hs : s.size ≤ 2147483647) : ∀ j, j < [s].length → (tx [s] j).size ≤ 2147483647 := by
  intro j hj
  have : j = 0 := by simp at hj; omega
  subst this
  simpa [tx] using hs


theorem one_int (d : Int) (b : Nat) (s : ByteArray) (w : World) (hc : w.cell? ⟨b, 0, none⟩ = some (.string s)) (hs : s.size ≤ 2147483647) (he1 : ErrCell 0 w) (he2 : ErrCell 1 w) (ht : Pow w) (hd1 : -9223372036854775808 ≤ d) (hd2 : d < 9223372036854775808) :
    Calls Tryd.prog 24 #[.int .i64 0, .int .i64 d, .slice (some ⟨b, 0, none⟩) 1 1] w fun e w' => ∃ g c, e = .returned (.slice (some ⟨g, 0, none⟩) 1 c) ∧ w'.cell? ⟨g, 0, none⟩ = some (.bool (badV (intP 18446744073709551615 9223372036854775808 s))) ∧ w'.cell? ⟨g, 1, none⟩ = some (.int .i64 (gotV (intP 18446744073709551615 9223372036854775808 s))) ∧ w'.cell? ⟨g, 2, none⟩ = some (.string (said (gotV (intP 18446744073709551615 9223372036854775808 s)))) ∧ Below w.heap.size w w' := by
  refine (intValue_int d (some ⟨b, 0, none⟩) 1 [s] w (strs_one hc) (by simp) (one_all hs) he1 he2 ht (by omega) (by omega)).mono ?_
  rintro e w' ⟨A', c, rfl, hrow, hbel⟩
  obtain ⟨g, rfl, c0, c1, c2⟩ := row3 hrow (i := 0) (u := .bool (badV (intP 18446744073709551615 9223372036854775808 s))) (v := .int .i64 (gotV (intP 18446744073709551615 9223372036854775808 s))) (x := .string (said (gotV (intP 18446744073709551615 9223372036854775808 s)))) rfl rfl rfl
  exact ⟨g, c, rfl, c0, c1, c2, hbel⟩

set_option maxRecDepth 400000 in
set_option maxHeartbeats 3200000 in
theorem back_int (d o : Int) (s : ByteArray) (w : World) (hs : s.size ≤ 2147483647) (he1 : ErrCell 0 w) (he2 : ErrCell 1 w) (ht : Pow w) (hd1 : -9223372036854775808 ≤ d) (hd2 : d < 9223372036854775808) (ho1 : -9223372036854775808 ≤ o) (ho2 : o < 9223372036854775808) :
    Calls Tryd.prog 8 #[.int .i64 0, .int .i64 d, .int .i64 o, .string s] w fun e w' => e = .returned (.bool true) ∧ Below w.heap.size w w' := by
  have H1 := fun b w2 (hb : Below w.heap.size w w2) hc => Lib.hid (one_int d b s w2 hc hs (he1.below hb) (he2.below hb) (Lib.tabBelow_of_tabIs ht w2 hb) hd1 hd2)
  have hin := piE_in (M := 18446744073709551615) (C := 9223372036854775808) (by omega) s.data.toList
  have hb := fun v h0 h1 => said_back (M := 18446744073709551615) (C := 9223372036854775808) (by omega) v h0 h1
  have E1 := Lib.hid he1
  have E2 := Lib.hid he2
  have HT := Lib.hid ht
  have hs' : (s.size : Int) ≤ 2147483647 := by omega
  clear he1 he2 ht
  cases hP : badV (intP 18446744073709551615 9223372036854775808 s) with
  | true =>
    rw [hP] at H1
    clear hin hb hP
    go_enter Tryd.func8, Tryd.ntmps8
    go_wp2_with (first
      | (go_at_call 27; refine (width_int _).mono ?_; rintro e w1 ⟨rfl, rfl⟩)
      | (go_at_call 28; refine (holds_64 _ _).mono ?_; rintro e w1 ⟨rfl, rfl⟩)
      | (go_at_call 24; ((with_reducible refine (H1 _ _ ((Below.refl _ _).alloc (Nat.le_refl _) _) (by simp)).out.mono ?_); rintro e w1 ⟨g, c, rfl, c0, c1, c2, hbel⟩; have hb1 : Below w.heap.size w w1 := ((Below.refl _ _).alloc (Nat.le_refl _) _).trans (hbel.mono (by simp)))))
    go_ret
    exact ⟨rfl, hb1⟩
  | false =>
    have hv : gotV (intP 18446744073709551615 9223372036854775808 s) = gotV (piE 18446744073709551615 9223372036854775808 s.data.toList) := rfl
    rw [hP] at H1
    generalize gotV (intP 18446744073709551615 9223372036854775808 s) = V at H1 hv
    rw [← hv] at hin
    obtain ⟨v0, v1⟩ := hin
    have HB := Lib.hid (hb V v0 v1)
    have v2 : -9223372036854775808 ≤ V := by omega
    have v3 : V ≤ 9223372036854775807 := by omega
    have H2 := fun b w2 (hb : Below w.heap.size w w2) hc => Lib.hid (one_int o b (said V) w2 hc (said_size V v2 v3) (E1.out.below hb) (E2.out.below hb) (Lib.tabBelow_of_tabIs HT.out w2 hb) ho1 ho2)
    rw [HB.out] at H2
    simp only [badV, gotV] at H2
    clear hb hv hP v0 v1
    go_enter Tryd.func8, Tryd.ntmps8
    go_wp2_with (first
      | (go_at_call 27; refine (width_int _).mono ?_; rintro e w1 ⟨rfl, rfl⟩)
      | (go_at_call 28; refine (holds_64 _ _).mono ?_; rintro e w1 ⟨rfl, rfl⟩)
      | (go_at_call 24; ((with_reducible refine (H1 _ _ ((Below.refl _ _).alloc (Nat.le_refl _) _) (by simp)).out.mono ?_); rintro e w1 ⟨g, c, rfl, c0, c1, c2, hbel⟩; have hb1 : Below w.heap.size w w1 := ((Below.refl _ _).alloc (Nat.le_refl _) _).trans (hbel.mono (by simp))))
      | (go_at_call 24; ((with_reducible refine (H2 _ _ (hb1.alloc hb1.size _) (by simp)).out.mono ?_); rintro e w2 ⟨g2, cc2, rfl, e0, e1, e2, hbel2⟩; have hb2 : Below w.heap.size w w2 := (hb1.alloc hb1.size _).trans (hbel2.mono (by have := hb1.size; simp; omega)))))
    have hb12 : Below w1.heap.size w1 w2 := ((Below.refl _ _).alloc (Nat.le_refl _) _).trans (hbel2.mono (by simp))
    have f0 := cell_kept hb12 c0
    have f1 := cell_kept hb12 c1
    have f2 := cell_kept hb12 c2
    clear c0 c1 c2 hbel hbel2
    go_quiet (fail)
    go_wp2
    go_ret
    exact ⟨rfl, bdrew hb2 _⟩


theorem one_int8 (d : Int) (b : Nat) (s : ByteArray) (w : World) (hc : w.cell? ⟨b, 0, none⟩ = some (.string s)) (hs : s.size ≤ 2147483647) (he1 : ErrCell 0 w) (he2 : ErrCell 1 w) (ht : Pow w) (hd1 : -128 ≤ d) (hd2 : d < 128) :
    Calls Tryd.prog 24 #[.int .i64 1, .int .i64 d, .slice (some ⟨b, 0, none⟩) 1 1] w fun e w' => ∃ g c, e = .returned (.slice (some ⟨g, 0, none⟩) 1 c) ∧ w'.cell? ⟨g, 0, none⟩ = some (.bool (badV (intP 255 128 s))) ∧ w'.cell? ⟨g, 1, none⟩ = some (.int .i64 (gotV (intP 255 128 s))) ∧ w'.cell? ⟨g, 2, none⟩ = some (.string (said (gotV (intP 255 128 s)))) ∧ Below w.heap.size w w' := by
  refine (intValue_int8 d (some ⟨b, 0, none⟩) 1 [s] w (strs_one hc) (by simp) (one_all hs) he1 he2 ht (by omega) (by omega)).mono ?_
  rintro e w' ⟨A', c, rfl, hrow, hbel⟩
  obtain ⟨g, rfl, c0, c1, c2⟩ := row3 hrow (i := 0) (u := .bool (badV (intP 255 128 s))) (v := .int .i64 (gotV (intP 255 128 s))) (x := .string (said (gotV (intP 255 128 s)))) rfl rfl rfl
  exact ⟨g, c, rfl, c0, c1, c2, hbel⟩

set_option maxRecDepth 400000 in
set_option maxHeartbeats 3200000 in
theorem back_int8 (d o : Int) (s : ByteArray) (w : World) (hs : s.size ≤ 2147483647) (he1 : ErrCell 0 w) (he2 : ErrCell 1 w) (ht : Pow w) (hd1 : -128 ≤ d) (hd2 : d < 128) (ho1 : -128 ≤ o) (ho2 : o < 128) :
    Calls Tryd.prog 8 #[.int .i64 1, .int .i64 d, .int .i64 o, .string s] w fun e w' => e = .returned (.bool true) ∧ Below w.heap.size w w' := by
  have H1 := fun b w2 (hb : Below w.heap.size w w2) hc => Lib.hid (one_int8 d b s w2 hc hs (he1.below hb) (he2.below hb) (Lib.tabBelow_of_tabIs ht w2 hb) hd1 hd2)
  have hin := piE_in (M := 255) (C := 128) (by omega) s.data.toList
  have hb := fun v h0 h1 => said_back (M := 255) (C := 128) (by omega) v h0 h1
  have E1 := Lib.hid he1
  have E2 := Lib.hid he2
  have HT := Lib.hid ht
  have hs' : (s.size : Int) ≤ 2147483647 := by omega
  clear he1 he2 ht
  cases hP : badV (intP 255 128 s) with
  | true =>
    rw [hP] at H1
    clear hin hb hP
    go_enter Tryd.func8, Tryd.ntmps8
    go_wp2_with (first
      | (go_at_call 27; refine (width_int8 _).mono ?_; rintro e w1 ⟨rfl, rfl⟩)
      | (go_at_call 28; refine (holds_8_yes _ (by omega) (by omega) _).mono ?_; rintro e w1 ⟨rfl, rfl⟩)
      | (go_at_call 24; ((with_reducible refine (H1 _ _ ((Below.refl _ _).alloc (Nat.le_refl _) _) (by simp)).out.mono ?_); rintro e w1 ⟨g, c, rfl, c0, c1, c2, hbel⟩; have hb1 : Below w.heap.size w w1 := ((Below.refl _ _).alloc (Nat.le_refl _) _).trans (hbel.mono (by simp)))))
    go_ret
    exact ⟨rfl, hb1⟩
  | false =>
    have hv : gotV (intP 255 128 s) = gotV (piE 255 128 s.data.toList) := rfl
    rw [hP] at H1
    generalize gotV (intP 255 128 s) = V at H1 hv
    rw [← hv] at hin
    obtain ⟨v0, v1⟩ := hin
    have HB := Lib.hid (hb V v0 v1)
    have v2 : -9223372036854775808 ≤ V := by omega
    have v3 : V ≤ 9223372036854775807 := by omega
    have H2 := fun b w2 (hb : Below w.heap.size w w2) hc => Lib.hid (one_int8 o b (said V) w2 hc (said_size V v2 v3) (E1.out.below hb) (E2.out.below hb) (Lib.tabBelow_of_tabIs HT.out w2 hb) ho1 ho2)
    rw [HB.out] at H2
    simp only [badV, gotV] at H2
    clear hb hv hP v0 v1
    go_enter Tryd.func8, Tryd.ntmps8
    go_wp2_with (first
      | (go_at_call 27; refine (width_int8 _).mono ?_; rintro e w1 ⟨rfl, rfl⟩)
      | (go_at_call 28; refine (holds_8_yes _ (by omega) (by omega) _).mono ?_; rintro e w1 ⟨rfl, rfl⟩)
      | (go_at_call 24; ((with_reducible refine (H1 _ _ ((Below.refl _ _).alloc (Nat.le_refl _) _) (by simp)).out.mono ?_); rintro e w1 ⟨g, c, rfl, c0, c1, c2, hbel⟩; have hb1 : Below w.heap.size w w1 := ((Below.refl _ _).alloc (Nat.le_refl _) _).trans (hbel.mono (by simp))))
      | (go_at_call 24; ((with_reducible refine (H2 _ _ (hb1.alloc hb1.size _) (by simp)).out.mono ?_); rintro e w2 ⟨g2, cc2, rfl, e0, e1, e2, hbel2⟩; have hb2 : Below w.heap.size w w2 := (hb1.alloc hb1.size _).trans (hbel2.mono (by have := hb1.size; simp; omega)))))
    have hb12 : Below w1.heap.size w1 w2 := ((Below.refl _ _).alloc (Nat.le_refl _) _).trans (hbel2.mono (by simp))
    have f0 := cell_kept hb12 c0
    have f1 := cell_kept hb12 c1
    have f2 := cell_kept hb12 c2
    clear c0 c1 c2 hbel hbel2
    go_quiet (fail)
    go_wp2
    go_ret
    exact ⟨rfl, bdrew hb2 _⟩


theorem one_int16 (d : Int) (b : Nat) (s : ByteArray) (w : World) (hc : w.cell? ⟨b, 0, none⟩ = some (.string s)) (hs : s.size ≤ 2147483647) (he1 : ErrCell 0 w) (he2 : ErrCell 1 w) (ht : Pow w) (hd1 : -32768 ≤ d) (hd2 : d < 32768) :
    Calls Tryd.prog 24 #[.int .i64 2, .int .i64 d, .slice (some ⟨b, 0, none⟩) 1 1] w fun e w' => ∃ g c, e = .returned (.slice (some ⟨g, 0, none⟩) 1 c) ∧ w'.cell? ⟨g, 0, none⟩ = some (.bool (badV (intP 65535 32768 s))) ∧ w'.cell? ⟨g, 1, none⟩ = some (.int .i64 (gotV (intP 65535 32768 s))) ∧ w'.cell? ⟨g, 2, none⟩ = some (.string (said (gotV (intP 65535 32768 s)))) ∧ Below w.heap.size w w' := by
  refine (intValue_int16 d (some ⟨b, 0, none⟩) 1 [s] w (strs_one hc) (by simp) (one_all hs) he1 he2 ht (by omega) (by omega)).mono ?_
  rintro e w' ⟨A', c, rfl, hrow, hbel⟩
  obtain ⟨g, rfl, c0, c1, c2⟩ := row3 hrow (i := 0) (u := .bool (badV (intP 65535 32768 s))) (v := .int .i64 (gotV (intP 65535 32768 s))) (x := .string (said (gotV (intP 65535 32768 s)))) rfl rfl rfl
  exact ⟨g, c, rfl, c0, c1, c2, hbel⟩

set_option maxRecDepth 400000 in
set_option maxHeartbeats 3200000 in
theorem back_int16 (d o : Int) (s : ByteArray) (w : World) (hs : s.size ≤ 2147483647) (he1 : ErrCell 0 w) (he2 : ErrCell 1 w) (ht : Pow w) (hd1 : -32768 ≤ d) (hd2 : d < 32768) (ho1 : -32768 ≤ o) (ho2 : o < 32768) :
    Calls Tryd.prog 8 #[.int .i64 2, .int .i64 d, .int .i64 o, .string s] w fun e w' => e = .returned (.bool true) ∧ Below w.heap.size w w' := by
  have H1 := fun b w2 (hb : Below w.heap.size w w2) hc => Lib.hid (one_int16 d b s w2 hc hs (he1.below hb) (he2.below hb) (Lib.tabBelow_of_tabIs ht w2 hb) hd1 hd2)
  have hin := piE_in (M := 65535) (C := 32768) (by omega) s.data.toList
  have hb := fun v h0 h1 => said_back (M := 65535) (C := 32768) (by omega) v h0 h1
  have E1 := Lib.hid he1
  have E2 := Lib.hid he2
  have HT := Lib.hid ht
  have hs' : (s.size : Int) ≤ 2147483647 := by omega
  clear he1 he2 ht
  cases hP : badV (intP 65535 32768 s) with
  | true =>
    rw [hP] at H1
    clear hin hb hP
    go_enter Tryd.func8, Tryd.ntmps8
    go_wp2_with (first
      | (go_at_call 27; refine (width_int16 _).mono ?_; rintro e w1 ⟨rfl, rfl⟩)
      | (go_at_call 28; refine (holds_16_yes _ (by omega) (by omega) _).mono ?_; rintro e w1 ⟨rfl, rfl⟩)
      | (go_at_call 24; ((with_reducible refine (H1 _ _ ((Below.refl _ _).alloc (Nat.le_refl _) _) (by simp)).out.mono ?_); rintro e w1 ⟨g, c, rfl, c0, c1, c2, hbel⟩; have hb1 : Below w.heap.size w w1 := ((Below.refl _ _).alloc (Nat.le_refl _) _).trans (hbel.mono (by simp)))))
    go_ret
    exact ⟨rfl, hb1⟩
  | false =>
    have hv : gotV (intP 65535 32768 s) = gotV (piE 65535 32768 s.data.toList) := rfl
    rw [hP] at H1
    generalize gotV (intP 65535 32768 s) = V at H1 hv
    rw [← hv] at hin
    obtain ⟨v0, v1⟩ := hin
    have HB := Lib.hid (hb V v0 v1)
    have v2 : -9223372036854775808 ≤ V := by omega
    have v3 : V ≤ 9223372036854775807 := by omega
    have H2 := fun b w2 (hb : Below w.heap.size w w2) hc => Lib.hid (one_int16 o b (said V) w2 hc (said_size V v2 v3) (E1.out.below hb) (E2.out.below hb) (Lib.tabBelow_of_tabIs HT.out w2 hb) ho1 ho2)
    rw [HB.out] at H2
    simp only [badV, gotV] at H2
    clear hb hv hP v0 v1
    go_enter Tryd.func8, Tryd.ntmps8
    go_wp2_with (first
      | (go_at_call 27; refine (width_int16 _).mono ?_; rintro e w1 ⟨rfl, rfl⟩)
      | (go_at_call 28; refine (holds_16_yes _ (by omega) (by omega) _).mono ?_; rintro e w1 ⟨rfl, rfl⟩)
      | (go_at_call 24; ((with_reducible refine (H1 _ _ ((Below.refl _ _).alloc (Nat.le_refl _) _) (by simp)).out.mono ?_); rintro e w1 ⟨g, c, rfl, c0, c1, c2, hbel⟩; have hb1 : Below w.heap.size w w1 := ((Below.refl _ _).alloc (Nat.le_refl _) _).trans (hbel.mono (by simp))))
      | (go_at_call 24; ((with_reducible refine (H2 _ _ (hb1.alloc hb1.size _) (by simp)).out.mono ?_); rintro e w2 ⟨g2, cc2, rfl, e0, e1, e2, hbel2⟩; have hb2 : Below w.heap.size w w2 := (hb1.alloc hb1.size _).trans (hbel2.mono (by have := hb1.size; simp; omega)))))
    have hb12 : Below w1.heap.size w1 w2 := ((Below.refl _ _).alloc (Nat.le_refl _) _).trans (hbel2.mono (by simp))
    have f0 := cell_kept hb12 c0
    have f1 := cell_kept hb12 c1
    have f2 := cell_kept hb12 c2
    clear c0 c1 c2 hbel hbel2
    go_quiet (fail)
    go_wp2
    go_ret
    exact ⟨rfl, bdrew hb2 _⟩


theorem one_int32 (d : Int) (b : Nat) (s : ByteArray) (w : World) (hc : w.cell? ⟨b, 0, none⟩ = some (.string s)) (hs : s.size ≤ 2147483647) (he1 : ErrCell 0 w) (he2 : ErrCell 1 w) (ht : Pow w) (hd1 : -2147483648 ≤ d) (hd2 : d < 2147483648) :
    Calls Tryd.prog 24 #[.int .i64 3, .int .i64 d, .slice (some ⟨b, 0, none⟩) 1 1] w fun e w' => ∃ g c, e = .returned (.slice (some ⟨g, 0, none⟩) 1 c) ∧ w'.cell? ⟨g, 0, none⟩ = some (.bool (badV (intP 4294967295 2147483648 s))) ∧ w'.cell? ⟨g, 1, none⟩ = some (.int .i64 (gotV (intP 4294967295 2147483648 s))) ∧ w'.cell? ⟨g, 2, none⟩ = some (.string (said (gotV (intP 4294967295 2147483648 s)))) ∧ Below w.heap.size w w' := by
  refine (intValue_int32 d (some ⟨b, 0, none⟩) 1 [s] w (strs_one hc) (by simp) (one_all hs) he1 he2 ht (by omega) (by omega)).mono ?_
  rintro e w' ⟨A', c, rfl, hrow, hbel⟩
  obtain ⟨g, rfl, c0, c1, c2⟩ := row3 hrow (i := 0) (u := .bool (badV (intP 4294967295 2147483648 s))) (v := .int .i64 (gotV (intP 4294967295 2147483648 s))) (x := .string (said (gotV (intP 4294967295 2147483648 s)))) rfl rfl rfl
  exact ⟨g, c, rfl, c0, c1, c2, hbel⟩

set_option maxRecDepth 400000 in
set_option maxHeartbeats 3200000 in
theorem back_int32 (d o : Int) (s : ByteArray) (w : World) (hs : s.size ≤ 2147483647) (he1 : ErrCell 0 w) (he2 : ErrCell 1 w) (ht : Pow w) (hd1 : -2147483648 ≤ d) (hd2 : d < 2147483648) (ho1 : -2147483648 ≤ o) (ho2 : o < 2147483648) :
    Calls Tryd.prog 8 #[.int .i64 3, .int .i64 d, .int .i64 o, .string s] w fun e w' => e = .returned (.bool true) ∧ Below w.heap.size w w' := by
  have H1 := fun b w2 (hb : Below w.heap.size w w2) hc => Lib.hid (one_int32 d b s w2 hc hs (he1.below hb) (he2.below hb) (Lib.tabBelow_of_tabIs ht w2 hb) hd1 hd2)
  have hin := piE_in (M := 4294967295) (C := 2147483648) (by omega) s.data.toList
  have hb := fun v h0 h1 => said_back (M := 4294967295) (C := 2147483648) (by omega) v h0 h1
  have E1 := Lib.hid he1
  have E2 := Lib.hid he2
  have HT := Lib.hid ht
  have hs' : (s.size : Int) ≤ 2147483647 := by omega
  clear he1 he2 ht
  cases hP : badV (intP 4294967295 2147483648 s) with
  | true =>
    rw [hP] at H1
    clear hin hb hP
    go_enter Tryd.func8, Tryd.ntmps8
    go_wp2_with (first
      | (go_at_call 27; refine (width_int32 _).mono ?_; rintro e w1 ⟨rfl, rfl⟩)
      | (go_at_call 28; refine (holds_32_yes _ (by omega) (by omega) _).mono ?_; rintro e w1 ⟨rfl, rfl⟩)
      | (go_at_call 24; ((with_reducible refine (H1 _ _ ((Below.refl _ _).alloc (Nat.le_refl _) _) (by simp)).out.mono ?_); rintro e w1 ⟨g, c, rfl, c0, c1, c2, hbel⟩; have hb1 : Below w.heap.size w w1 := ((Below.refl _ _).alloc (Nat.le_refl _) _).trans (hbel.mono (by simp)))))
    go_ret
    exact ⟨rfl, hb1⟩
  | false =>
    have hv : gotV (intP 4294967295 2147483648 s) = gotV (piE 4294967295 2147483648 s.data.toList) := rfl
    rw [hP] at H1
    generalize gotV (intP 4294967295 2147483648 s) = V at H1 hv
    rw [← hv] at hin
    obtain ⟨v0, v1⟩ := hin
    have HB := Lib.hid (hb V v0 v1)
    have v2 : -9223372036854775808 ≤ V := by omega
    have v3 : V ≤ 9223372036854775807 := by omega
    have H2 := fun b w2 (hb : Below w.heap.size w w2) hc => Lib.hid (one_int32 o b (said V) w2 hc (said_size V v2 v3) (E1.out.below hb) (E2.out.below hb) (Lib.tabBelow_of_tabIs HT.out w2 hb) ho1 ho2)
    rw [HB.out] at H2
    simp only [badV, gotV] at H2
    clear hb hv hP v0 v1
    go_enter Tryd.func8, Tryd.ntmps8
    go_wp2_with (first
      | (go_at_call 27; refine (width_int32 _).mono ?_; rintro e w1 ⟨rfl, rfl⟩)
      | (go_at_call 28; refine (holds_32_yes _ (by omega) (by omega) _).mono ?_; rintro e w1 ⟨rfl, rfl⟩)
      | (go_at_call 24; ((with_reducible refine (H1 _ _ ((Below.refl _ _).alloc (Nat.le_refl _) _) (by simp)).out.mono ?_); rintro e w1 ⟨g, c, rfl, c0, c1, c2, hbel⟩; have hb1 : Below w.heap.size w w1 := ((Below.refl _ _).alloc (Nat.le_refl _) _).trans (hbel.mono (by simp))))
      | (go_at_call 24; ((with_reducible refine (H2 _ _ (hb1.alloc hb1.size _) (by simp)).out.mono ?_); rintro e w2 ⟨g2, cc2, rfl, e0, e1, e2, hbel2⟩; have hb2 : Below w.heap.size w w2 := (hb1.alloc hb1.size _).trans (hbel2.mono (by have := hb1.size; simp; omega)))))
    have hb12 : Below w1.heap.size w1 w2 := ((Below.refl _ _).alloc (Nat.le_refl _) _).trans (hbel2.mono (by simp))
    have f0 := cell_kept hb12 c0
    have f1 := cell_kept hb12 c1
    have f2 := cell_kept hb12 c2
    clear c0 c1 c2 hbel hbel2
    go_quiet (fail)
    go_wp2
    go_ret
    exact ⟨rfl, bdrew hb2 _⟩


theorem one_int64 (d : Int) (b : Nat) (s : ByteArray) (w : World) (hc : w.cell? ⟨b, 0, none⟩ = some (.string s)) (hs : s.size ≤ 2147483647) (he1 : ErrCell 0 w) (he2 : ErrCell 1 w) (ht : Pow w) (hd1 : -9223372036854775808 ≤ d) (hd2 : d < 9223372036854775808) :
    Calls Tryd.prog 24 #[.int .i64 4, .int .i64 d, .slice (some ⟨b, 0, none⟩) 1 1] w fun e w' => ∃ g c, e = .returned (.slice (some ⟨g, 0, none⟩) 1 c) ∧ w'.cell? ⟨g, 0, none⟩ = some (.bool (badV (intP 18446744073709551615 9223372036854775808 s))) ∧ w'.cell? ⟨g, 1, none⟩ = some (.int .i64 (gotV (intP 18446744073709551615 9223372036854775808 s))) ∧ w'.cell? ⟨g, 2, none⟩ = some (.string (said (gotV (intP 18446744073709551615 9223372036854775808 s)))) ∧ Below w.heap.size w w' := by
  refine (intValue_int64 d (some ⟨b, 0, none⟩) 1 [s] w (strs_one hc) (by simp) (one_all hs) he1 he2 ht (by omega) (by omega)).mono ?_
  rintro e w' ⟨A', c, rfl, hrow, hbel⟩
  obtain ⟨g, rfl, c0, c1, c2⟩ := row3 hrow (i := 0) (u := .bool (badV (intP 18446744073709551615 9223372036854775808 s))) (v := .int .i64 (gotV (intP 18446744073709551615 9223372036854775808 s))) (x := .string (said (gotV (intP 18446744073709551615 9223372036854775808 s)))) rfl rfl rfl
  exact ⟨g, c, rfl, c0, c1, c2, hbel⟩

set_option maxRecDepth 400000 in
set_option maxHeartbeats 3200000 in
theorem back_int64 (d o : Int) (s : ByteArray) (w : World) (hs : s.size ≤ 2147483647) (he1 : ErrCell 0 w) (he2 : ErrCell 1 w) (ht : Pow w) (hd1 : -9223372036854775808 ≤ d) (hd2 : d < 9223372036854775808) (ho1 : -9223372036854775808 ≤ o) (ho2 : o < 9223372036854775808) :
    Calls Tryd.prog 8 #[.int .i64 4, .int .i64 d, .int .i64 o, .string s] w fun e w' => e = .returned (.bool true) ∧ Below w.heap.size w w' := by
  have H1 := fun b w2 (hb : Below w.heap.size w w2) hc => Lib.hid (one_int64 d b s w2 hc hs (he1.below hb) (he2.below hb) (Lib.tabBelow_of_tabIs ht w2 hb) hd1 hd2)
  have hin := piE_in (M := 18446744073709551615) (C := 9223372036854775808) (by omega) s.data.toList
  have hb := fun v h0 h1 => said_back (M := 18446744073709551615) (C := 9223372036854775808) (by omega) v h0 h1
  have E1 := Lib.hid he1
  have E2 := Lib.hid he2
  have HT := Lib.hid ht
  have hs' : (s.size : Int) ≤ 2147483647 := by omega
  clear he1 he2 ht
  cases hP : badV (intP 18446744073709551615 9223372036854775808 s) with
  | true =>
    rw [hP] at H1
    clear hin hb hP
    go_enter Tryd.func8, Tryd.ntmps8
    go_wp2_with (first
      | (go_at_call 27; refine (width_int64 _).mono ?_; rintro e w1 ⟨rfl, rfl⟩)
      | (go_at_call 28; refine (holds_64 _ _).mono ?_; rintro e w1 ⟨rfl, rfl⟩)
      | (go_at_call 24; ((with_reducible refine (H1 _ _ ((Below.refl _ _).alloc (Nat.le_refl _) _) (by simp)).out.mono ?_); rintro e w1 ⟨g, c, rfl, c0, c1, c2, hbel⟩; have hb1 : Below w.heap.size w w1 := ((Below.refl _ _).alloc (Nat.le_refl _) _).trans (hbel.mono (by simp)))))
    go_ret
    exact ⟨rfl, hb1⟩
  | false =>
    have hv : gotV (intP 18446744073709551615 9223372036854775808 s) = gotV (piE 18446744073709551615 9223372036854775808 s.data.toList) := rfl
    rw [hP] at H1
    generalize gotV (intP 18446744073709551615 9223372036854775808 s) = V at H1 hv
    rw [← hv] at hin
    obtain ⟨v0, v1⟩ := hin
    have HB := Lib.hid (hb V v0 v1)
    have v2 : -9223372036854775808 ≤ V := by omega
    have v3 : V ≤ 9223372036854775807 := by omega
    have H2 := fun b w2 (hb : Below w.heap.size w w2) hc => Lib.hid (one_int64 o b (said V) w2 hc (said_size V v2 v3) (E1.out.below hb) (E2.out.below hb) (Lib.tabBelow_of_tabIs HT.out w2 hb) ho1 ho2)
    rw [HB.out] at H2
    simp only [badV, gotV] at H2
    clear hb hv hP v0 v1
    go_enter Tryd.func8, Tryd.ntmps8
    go_wp2_with (first
      | (go_at_call 27; refine (width_int64 _).mono ?_; rintro e w1 ⟨rfl, rfl⟩)
      | (go_at_call 28; refine (holds_64 _ _).mono ?_; rintro e w1 ⟨rfl, rfl⟩)
      | (go_at_call 24; ((with_reducible refine (H1 _ _ ((Below.refl _ _).alloc (Nat.le_refl _) _) (by simp)).out.mono ?_); rintro e w1 ⟨g, c, rfl, c0, c1, c2, hbel⟩; have hb1 : Below w.heap.size w w1 := ((Below.refl _ _).alloc (Nat.le_refl _) _).trans (hbel.mono (by simp))))
      | (go_at_call 24; ((with_reducible refine (H2 _ _ (hb1.alloc hb1.size _) (by simp)).out.mono ?_); rintro e w2 ⟨g2, cc2, rfl, e0, e1, e2, hbel2⟩; have hb2 : Below w.heap.size w w2 := (hb1.alloc hb1.size _).trans (hbel2.mono (by have := hb1.size; simp; omega)))))
    have hb12 : Below w1.heap.size w1 w2 := ((Below.refl _ _).alloc (Nat.le_refl _) _).trans (hbel2.mono (by simp))
    have f0 := cell_kept hb12 c0
    have f1 := cell_kept hb12 c1
    have f2 := cell_kept hb12 c2
    clear c0 c1 c2 hbel hbel2
    go_quiet (fail)
    go_wp2
    go_ret
    exact ⟨rfl, bdrew hb2 _⟩


theorem back_long (k d o : Int) (s : ByteArray) (w : World) (hs : 2147483647 < s.size) : Calls Tryd.prog 8 #[.int .i64 k, .int .i64 d, .int .i64 o, .string s] w fun e w' => e = .returned (.bool true) ∧ Below w.heap.size w w' := by
  have hs' : 2147483647 < (s.size : Int) := by omega
  go_enter Tryd.func8, Tryd.ntmps8
  go_wp2
  go_ret
  exact ⟨rfl, Below.refl _ _⟩

theorem back_none (k d o : Int) (s : ByteArray) (w : World) (hs : s.size ≤ 2147483647) (h : ¬ k = 0 ∧ ¬ k = 1 ∧ ¬ k = 2 ∧ ¬ k = 3 ∧ ¬ k = 4) : Calls Tryd.prog 8 #[.int .i64 k, .int .i64 d, .int .i64 o, .string s] w fun e w' => e = .returned (.bool true) ∧ Below w.heap.size w w' := by
  have H := fun w => Lib.hid (width_none k h w)
  have hs' : (s.size : Int) ≤ 2147483647 := by omega
  clear h
  go_enter Tryd.func8, Tryd.ntmps8
  go_wp2_with (go_at_call 27; refine ((H _).out).mono ?_; rintro e w1 ⟨rfl, rfl⟩)
  go_ret
  exact ⟨rfl, Below.refl _ _⟩


theorem back_no8 (d o : Int) (s : ByteArray) (w : World) (hs : s.size ≤ 2147483647) (h : d < -128 ∨ 128 ≤ d ∨ o < -128 ∨ 128 ≤ o) : Calls Tryd.prog 8 #[.int .i64 1, .int .i64 d, .int .i64 o, .string s] w fun e w' => e = .returned (.bool true) ∧ Below w.heap.size w w' := by
  have hs' : (s.size : Int) ≤ 2147483647 := by omega
  by_cases hd : -128 ≤ d ∧ d < 128
  · have Hd := fun w => Lib.hid (holds_8_yes d hd.1 hd.2 w)
    have Ho := fun w => Lib.hid (holds_8_no o (by omega) w)
    clear hd h
    go_enter Tryd.func8, Tryd.ntmps8
    go_wp2_with (first
      | (go_at_call 27; refine (width_int8 _).mono ?_; rintro e w1 ⟨rfl, rfl⟩)
      | (go_at_call 28; ((with_reducible refine ((Hd _).out).mono ?_); rintro e w1 ⟨rfl, rfl⟩))
      | (go_at_call 28; ((with_reducible refine ((Ho _).out).mono ?_); rintro e w1 ⟨rfl, rfl⟩)))
    go_ret
    exact ⟨rfl, Below.refl _ _⟩
  · have Hd := fun w => Lib.hid (holds_8_no d (by omega) w)
    clear hd h
    go_enter Tryd.func8, Tryd.ntmps8
    go_wp2_with (first
      | (go_at_call 27; refine (width_int8 _).mono ?_; rintro e w1 ⟨rfl, rfl⟩)
      | (go_at_call 28; refine ((Hd _).out).mono ?_; rintro e w1 ⟨rfl, rfl⟩))
    go_ret
    exact ⟨rfl, Below.refl _ _⟩


theorem back_no16 (d o : Int) (s : ByteArray) (w : World) (hs : s.size ≤ 2147483647) (h : d < -32768 ∨ 32768 ≤ d ∨ o < -32768 ∨ 32768 ≤ o) : Calls Tryd.prog 8 #[.int .i64 2, .int .i64 d, .int .i64 o, .string s] w fun e w' => e = .returned (.bool true) ∧ Below w.heap.size w w' := by
  have hs' : (s.size : Int) ≤ 2147483647 := by omega
  by_cases hd : -32768 ≤ d ∧ d < 32768
  · have Hd := fun w => Lib.hid (holds_16_yes d hd.1 hd.2 w)
    have Ho := fun w => Lib.hid (holds_16_no o (by omega) w)
    clear hd h
    go_enter Tryd.func8, Tryd.ntmps8
    go_wp2_with (first
      | (go_at_call 27; refine (width_int16 _).mono ?_; rintro e w1 ⟨rfl, rfl⟩)
      | (go_at_call 28; ((with_reducible refine ((Hd _).out).mono ?_); rintro e w1 ⟨rfl, rfl⟩))
      | (go_at_call 28; ((with_reducible refine ((Ho _).out).mono ?_); rintro e w1 ⟨rfl, rfl⟩)))
    go_ret
    exact ⟨rfl, Below.refl _ _⟩
  · have Hd := fun w => Lib.hid (holds_16_no d (by omega) w)
    clear hd h
    go_enter Tryd.func8, Tryd.ntmps8
    go_wp2_with (first
      | (go_at_call 27; refine (width_int16 _).mono ?_; rintro e w1 ⟨rfl, rfl⟩)
      | (go_at_call 28; refine ((Hd _).out).mono ?_; rintro e w1 ⟨rfl, rfl⟩))
    go_ret
    exact ⟨rfl, Below.refl _ _⟩


theorem back_no32 (d o : Int) (s : ByteArray) (w : World) (hs : s.size ≤ 2147483647) (h : d < -2147483648 ∨ 2147483648 ≤ d ∨ o < -2147483648 ∨ 2147483648 ≤ o) : Calls Tryd.prog 8 #[.int .i64 3, .int .i64 d, .int .i64 o, .string s] w fun e w' => e = .returned (.bool true) ∧ Below w.heap.size w w' := by
  have hs' : (s.size : Int) ≤ 2147483647 := by omega
  by_cases hd : -2147483648 ≤ d ∧ d < 2147483648
  · have Hd := fun w => Lib.hid (holds_32_yes d hd.1 hd.2 w)
    have Ho := fun w => Lib.hid (holds_32_no o (by omega) w)
    clear hd h
    go_enter Tryd.func8, Tryd.ntmps8
    go_wp2_with (first
      | (go_at_call 27; refine (width_int32 _).mono ?_; rintro e w1 ⟨rfl, rfl⟩)
      | (go_at_call 28; ((with_reducible refine ((Hd _).out).mono ?_); rintro e w1 ⟨rfl, rfl⟩))
      | (go_at_call 28; ((with_reducible refine ((Ho _).out).mono ?_); rintro e w1 ⟨rfl, rfl⟩)))
    go_ret
    exact ⟨rfl, Below.refl _ _⟩
  · have Hd := fun w => Lib.hid (holds_32_no d (by omega) w)
    clear hd h
    go_enter Tryd.func8, Tryd.ntmps8
    go_wp2_with (first
      | (go_at_call 27; refine (width_int32 _).mono ?_; rintro e w1 ⟨rfl, rfl⟩)
      | (go_at_call 28; refine ((Hd _).out).mono ?_; rintro e w1 ⟨rfl, rfl⟩))
    go_ret
    exact ⟨rfl, Below.refl _ _⟩


theorem fnIntsBack_any (k d o : Int) (s : ByteArray) (w : World) (he1 : ErrCell 0 w) (he2 : ErrCell 1 w) (ht : Pow w) (hd : -9223372036854775808 ≤ d ∧ d ≤ 9223372036854775807) (ho : -9223372036854775808 ≤ o ∧ o ≤ 9223372036854775807) :
    Calls Tryd.prog 8 #[.int .i64 k, .int .i64 d, .int .i64 o, .string s] w fun e w' => e = .returned (.bool true) ∧ Below w.heap.size w w' := by
  by_cases hs : s.size ≤ 2147483647
  · by_cases h0 : k = 0
    · subst h0; exact back_int d o s w hs he1 he2 ht (by omega) (by omega) (by omega) (by omega)
    by_cases h4 : k = 4
    · subst h4; exact back_int64 d o s w hs he1 he2 ht (by omega) (by omega) (by omega) (by omega)
    by_cases h1 : k = 1
    · subst h1
      by_cases hc : -128 ≤ d ∧ d < 128 ∧ -128 ≤ o ∧ o < 128
      · exact back_int8 d o s w hs he1 he2 ht hc.1 hc.2.1 hc.2.2.1 hc.2.2.2
      · exact back_no8 d o s w hs (by omega)
    by_cases h2 : k = 2
    · subst h2
      by_cases hc : -32768 ≤ d ∧ d < 32768 ∧ -32768 ≤ o ∧ o < 32768
      · exact back_int16 d o s w hs he1 he2 ht hc.1 hc.2.1 hc.2.2.1 hc.2.2.2
      · exact back_no16 d o s w hs (by omega)
    by_cases h3 : k = 3
    · subst h3
      by_cases hc : -2147483648 ≤ d ∧ d < 2147483648 ∧ -2147483648 ≤ o ∧ o < 2147483648
      · exact back_int32 d o s w hs he1 he2 ht hc.1 hc.2.1 hc.2.2.1 hc.2.2.2
      · exact back_no32 d o s w hs (by omega)
    exact back_none k d o s w hs ⟨h0, h1, h2, h3, h4⟩
  · exact back_long k d o s w (by omega)

end Go.Proofs.YtjfgebgkdpomiaaDoor.E
