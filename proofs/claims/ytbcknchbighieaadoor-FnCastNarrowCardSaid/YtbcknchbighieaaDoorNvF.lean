/- Floats that are below 127, their sign aside: as float32, and as integers, they are what fits eight bits. -/
import Derived.Laws.FloatArith
namespace Go.Proofs.YtbcknchbighieaaDoor.E
open Ieee
set_option linter.unusedVariables false
set_option linter.unusedSimpArgs false
/-- 'm * 2 ^ i' is below N; is not above N. -/
def LtAt (N m : Nat) (i : Int) : Prop := m * 2 ^ i.toNat < N * 2 ^ (-i).toNat
def LeAt (N m : Nat) (i : Int) : Prop := m * 2 ^ i.toNat ≤ N * 2 ^ (-i).toNat
theorem log2_lt (n : Nat) : n < 2 ^ (n.log2 + 1) := by
  by_cases h : n = 0
  · subst h; simp
  · exact (Nat.log2_lt h).1 (Nat.lt_succ_self _)
theorem cut_even {neg : Bool} {n drop N : Nat} (hN : 0 < N) (h : n < N * 2 ^ drop) : Toward.even.cut neg n drop ≤ N := by
  have hlow : n / (1 <<< min drop (n.log2 + 2)) < N := by
    rw [Nat.shiftLeft_eq, Nat.one_mul]
    by_cases hd : drop ≤ n.log2 + 2
    · rw [Nat.min_eq_left hd]
      exact Nat.div_lt_of_lt_mul (by rw [Nat.mul_comm]; exact h)
    · rw [Nat.min_eq_right (by omega), Nat.div_eq_of_lt]
      · exact hN
      · exact Nat.lt_of_lt_of_le (log2_lt n) (Nat.pow_le_pow_right (by decide) (by omega))
  unfold Toward.cut
  dsimp only
  have hb : ∀ b : Bool, b.toNat ≤ 1 := by intro b; cases b <;> decide
  have := hb (decide (1 <<< min drop (n.log2 + 2) < 2 * (n % (1 <<< min drop (n.log2 + 2)))) || (1 <<< min drop (n.log2 + 2) == 2 * (n % (1 <<< min drop (n.log2 + 2))) && n / (1 <<< min drop (n.log2 + 2)) % 2 == 1))
  omega
theorem cut_zero {neg : Bool} {n drop N : Nat} (h : n ≤ N * 2 ^ drop) : Toward.zero.cut neg n drop ≤ N := by
  unfold Toward.cut
  dsimp only
  rw [Nat.shiftLeft_eq, Nat.one_mul]
  simp only [Bool.toNat_false, Nat.add_zero]
  by_cases hd : drop ≤ n.log2 + 2
  · rw [Nat.min_eq_left hd]
    exact Nat.div_le_of_le_mul (by rw [Nat.mul_comm]; exact h)
  · rw [Nat.min_eq_right (by omega), Nat.div_eq_of_lt]
    · exact Nat.zero_le _
    · exact Nat.lt_of_lt_of_le (log2_lt n) (Nat.pow_le_pow_right (by decide) (by omega))
theorem toInt_le {s : Bool} {m : Nat} {i : Int} (h : LeAt 127 m i) : ∃ z, (Datum.number s m i).toInt .zero = some z ∧ -127 ≤ z ∧ z ≤ 127 := by
  have hc : Toward.zero.cut s (m <<< i.toNat) (-i).toNat ≤ 127 := cut_zero (by rw [Nat.shiftLeft_eq]; exact h)
  refine ⟨signed s (Toward.zero.cut s (m <<< i.toNat) (-i).toNat) 0, rfl, ?_⟩
  generalize Toward.zero.cut s (m <<< i.toNat) (-i).toNat = c at hc
  unfold signed
  cases s <;> simp <;> omega
/-- What is below 127 is below 2 ^ 7. -/
theorem lt_log {m : Nat} {i : Int} (hm : m ≠ 0) (h : LtAt 127 m i) : i + m.log2 ≤ 6 := by
  unfold LtAt at h
  have h1 : 2 ^ m.log2 ≤ m := Nat.log2_self_le hm
  have h2 : 2 ^ (m.log2 + i.toNat) < 2 ^ (7 + (-i).toNat) := by
    rw [Nat.pow_add, Nat.pow_add]
    calc 2 ^ m.log2 * 2 ^ i.toNat ≤ m * 2 ^ i.toNat := Nat.mul_le_mul_right _ h1
      _ < 127 * 2 ^ (-i).toNat := h
      _ ≤ 2 ^ 7 * 2 ^ (-i).toNat := Nat.mul_le_mul_right _ (by decide)
  have := (Nat.pow_lt_pow_iff_right (by decide : 1 < 2)).1 h2
  omega
theorem read_single (s : Bool) (R : Nat) (hR : R < 2139095040) : single.read (single.word s R) = if R < 8388608 then .number s R (-149) else .number s (8388608 + R % 8388608) (-149 + ((R / 8388608 - 1 : Nat) : Int)) := by
  have e1 : single.signWeight = 2147483648 := by decide
  have e2 : single.binade = 8388608 := by decide
  have e3 : single.infRung = 2139095040 := by decide
  have e4 : single.leastPlace = -149 := by decide
  unfold Format.read Format.word
  rw [e1, e2, e3, e4]
  have h1 : (if s = true then 2147483648 + R else R) % 2147483648 = R := by cases s <;> simp <;> omega
  have h2 : ((if s = true then 2147483648 + R else R) / 2147483648 % 2 == 1) = s := by
    cases s
    · have : R / 2147483648 = 0 := by omega
      simp [this]
    · have : (2147483648 + R) / 2147483648 = 1 := by omega
      simp [this]
  simp only [h1, h2]
  by_cases hb : R < 8388608
  · rw [if_pos hb, if_pos hb]
  · rw [if_neg hb, if_neg hb, if_pos hR]
theorem single_near {s : Bool} {m : Nat} {i : Int} (h : LtAt 127 m i) : ∃ s' m' i', single.read (single.nearest s m i) = .number s' m' i' ∧ LeAt 127 m' i' := by
  have e2 : single.binade = 8388608 := by decide
  have e3 : single.infRung = 2139095040 := by decide
  have e4 : single.leastPlace = -149 := by decide
  have e5 : single.fractionBits = 23 := by decide
  unfold Format.nearest
  by_cases hm : m = 0
  · rw [if_pos hm, read_single s 0 (by decide), if_pos (by decide)]
    exact ⟨_, _, _, rfl, by simp [LeAt]⟩
  rw [if_neg hm]
  dsimp only
  rw [e2, e3, e4, e5]
  have hlog := lt_log hm h
  obtain ⟨last, hl⟩ : ∃ last, max (i + (m.log2 : Int) - ((23 : Nat) : Int)) (-149) = last := ⟨_, rfl⟩
  rw [hl]
  have hl1 : last ≤ -17 := by omega
  have hl2 : -149 ≤ last := by omega
  have hl3 : i + m.log2 - 23 ≤ last := by omega
  obtain ⟨q, hq⟩ : ∃ q : Nat, (q : Int) = -last := ⟨(-last).toNat, by omega⟩
  have hq17 : 17 ≤ q := by omega
  have hpq : 131072 ≤ 2 ^ q := by
    have := Nat.pow_le_pow_right (n := 2) (by decide) hq17
    simpa using this
  -- what is kept stands for a number that is not above 127
  have hk : Toward.even.cut s (m <<< (i - last).toNat) (last - i).toNat ≤ 127 * 2 ^ q ∧ Toward.even.cut s (m <<< (i - last).toNat) (last - i).toNat ≤ 16777216 := by
    rw [Nat.shiftLeft_eq]
    unfold LtAt at h
    by_cases hil : last ≤ i
    · have d0 : (last - i).toNat = 0 := by omega
      rw [d0]
      constructor
      · refine cut_even (Nat.mul_pos (by decide) (Nat.two_pow_pos _)) ?_
        rw [Nat.pow_zero, Nat.mul_one]
        by_cases h0 : 0 ≤ i
        · have a1 : (i - last).toNat = i.toNat + q := by omega
          have a2 : (-i).toNat = 0 := by omega
          rw [a2, Nat.pow_zero, Nat.mul_one] at h
          rw [a1, Nat.pow_add, ← Nat.mul_assoc]
          exact Nat.mul_lt_mul_of_pos_right h (Nat.two_pow_pos _)
        · have a1 : q = (i - last).toNat + (-i).toNat := by omega
          have a2 : i.toNat = 0 := by omega
          rw [a2, Nat.pow_zero, Nat.mul_one] at h
          rw [a1, Nat.pow_add, Nat.mul_comm (2 ^ (i - last).toNat), ← Nat.mul_assoc]
          exact Nat.mul_lt_mul_of_pos_right h (Nat.two_pow_pos _)
      · refine cut_even (by decide) ?_
        rw [Nat.pow_zero, Nat.mul_one]
        have h1 := log2_lt m
        have h2 : m.log2 + 1 + (i - last).toNat ≤ 24 := by omega
        calc m * 2 ^ (i - last).toNat < 2 ^ (m.log2 + 1) * 2 ^ (i - last).toNat := Nat.mul_lt_mul_of_pos_right h1 (Nat.two_pow_pos _)
          _ = 2 ^ (m.log2 + 1 + (i - last).toNat) := (Nat.pow_add ..).symm
          _ ≤ 2 ^ 24 := Nat.pow_le_pow_right (by decide) h2
    · have d0 : (i - last).toNat = 0 := by omega
      have a2 : i.toNat = 0 := by omega
      rw [d0, Nat.pow_zero, Nat.mul_one]
      rw [a2, Nat.pow_zero, Nat.mul_one] at h
      constructor
      · refine cut_even (Nat.mul_pos (by decide) (Nat.two_pow_pos _)) ?_
        have a1 : (-i).toNat = q + (last - i).toNat := by omega
        rw [Nat.mul_assoc, ← Nat.pow_add, ← a1]
        exact h
      · refine cut_even (by decide) ?_
        have h1 := log2_lt m
        have h2 : m.log2 + 1 ≤ 24 + (last - i).toNat := by omega
        calc m < 2 ^ (m.log2 + 1) := h1
          _ ≤ 2 ^ (24 + (last - i).toNat) := Nat.pow_le_pow_right (by decide) h2
          _ = 16777216 * 2 ^ (last - i).toNat := by rw [Nat.pow_add]
  generalize Toward.even.cut s (m <<< (i - last).toNat) (last - i).toNat = kept at hk
  obtain ⟨hk1, hk2⟩ := hk
  obtain ⟨t, ht⟩ : ∃ t : Nat, (last - -149).toNat = t := ⟨_, rfl⟩
  rw [ht]
  have ht1 : (t : Int) = last + 149 := by omega
  have ht2 : t ≤ 132 := by omega
  have hR : t * 8388608 + kept < 2139095040 := by omega
  rw [Nat.min_eq_left (Nat.le_of_lt hR), read_single s _ hR]
  by_cases hb : t * 8388608 + kept < 8388608
  · rw [if_pos hb]
    have ht0 : t = 0 := by omega
    subst ht0
    have hq149 : q = 149 := by omega
    refine ⟨_, _, _, rfl, ?_⟩
    unfold LeAt
    rw [hq149] at hk1
    simpa using hk1
  · rw [if_neg hb]
    refine ⟨_, _, _, rfl, ?_⟩
    have hsp : kept < 8388608 ∨ (8388608 ≤ kept ∧ kept < 16777216) ∨ kept = 16777216 := by omega
    have le_of : ∀ (M : Nat) (p : Int) (e : Nat), p = -(e : Int) → M ≤ 127 * 2 ^ e → LeAt 127 M p := by
      intro M p e hp hM
      unfold LeAt
      have a1 : p.toNat = 0 := by omega
      have a2 : (-p).toNat = e := by omega
      rw [a1, a2, Nat.pow_zero, Nat.mul_one]; exact hM
    rcases hsp with hs | ⟨hs1, hs2⟩ | hs
    · have b1 : (t * 8388608 + kept) % 8388608 = kept := by omega
      have b2 : (t * 8388608 + kept) / 8388608 = t := by omega
      rw [b1, b2]
      refine le_of _ _ (q + 1) (by omega) ?_
      rw [Nat.pow_succ]; omega
    · have b1 : (t * 8388608 + kept) % 8388608 = kept - 8388608 := by omega
      have b2 : (t * 8388608 + kept) / 8388608 = t + 1 := by omega
      rw [b1, b2]
      refine le_of _ _ q (by omega) ?_
      omega
    · have b1 : (t * 8388608 + kept) % 8388608 = 0 := by omega
      have b2 : (t * 8388608 + kept) / 8388608 = t + 2 := by omega
      rw [b1, b2]
      obtain ⟨q', rfl⟩ : ∃ q', q = q' + 1 := ⟨q - 1, by omega⟩
      refine le_of _ _ q' (by omega) ?_
      rw [Nat.pow_succ] at hk1; omega
theorem read127 : double.read 4638637247447433216 = .number false 8936830510563328 (-46) := by decide +kernel
theorem read127n : double.read 13862009284302209024 = .number true 8936830510563328 (-46) := by decide +kernel
theorem lt_of_order {m : Nat} {i : Int} (h : m * 2 ^ (i - min i (-46)).toNat < 8936830510563328 * 2 ^ (-46 - min i (-46)).toNat) : LtAt 127 m i := by
  unfold LtAt
  have e : (8936830510563328 : Nat) = 127 * 2 ^ 46 := by decide
  rw [e] at h
  by_cases h1 : -46 ≤ i
  · have a1 : min i (-46) = -46 := by omega
    rw [a1] at h
    have a2 : (-46 - -46 : Int).toNat = 0 := by decide
    rw [a2, Nat.pow_zero, Nat.mul_one] at h
    by_cases h0 : 0 ≤ i
    · have a3 : (i - -46).toNat = i.toNat + 46 := by omega
      have a4 : (-i).toNat = 0 := by omega
      rw [a3, Nat.pow_add, ← Nat.mul_assoc] at h
      rw [a4, Nat.pow_zero, Nat.mul_one]
      exact Nat.lt_of_mul_lt_mul_right h
    · have a3 : (46 : Nat) = (-i).toNat + (i - -46).toNat := by omega
      have a4 : i.toNat = 0 := by omega
      rw [a3, Nat.pow_add, ← Nat.mul_assoc] at h
      rw [a4, Nat.pow_zero, Nat.mul_one]
      exact Nat.lt_of_mul_lt_mul_right h
  · have a1 : min i (-46) = i := by omega
    rw [a1] at h
    have a2 : (i - i).toNat = 0 := by omega
    have a3 : (-i).toNat = 46 + (-46 - i).toNat := by omega
    have a4 : i.toNat = 0 := by omega
    rw [a2, Nat.pow_zero, Nat.mul_one, Nat.mul_assoc, ← Nat.pow_add] at h
    rw [a4, a3, Nat.pow_zero, Nat.mul_one]
    exact h
theorem near_read {f : Nat} (h1 : double.order f 13862009284302209024 = some .gt) (h2 : double.order f 4638637247447433216 = some .lt) : ∃ s m i, double.read f = .number s m i ∧ LtAt 127 m i := by
  unfold Format.order at h1 h2
  rw [read127n] at h1
  rw [read127] at h2
  generalize double.read f = d at h1 h2
  cases d with
  | nan s t => simp [Datum.order] at h1
  | infinity s => cases s <;> simp [Datum.order] at h1 h2
  | number s m i =>
    refine ⟨s, m, i, rfl, lt_of_order ?_⟩
    simp only [Datum.order, Option.some.injEq] at h1 h2
    rw [Int.compare_eq_gt] at h1
    rw [Int.compare_eq_lt] at h2
    unfold signed at h1 h2
    rw [Nat.shiftLeft_eq, Nat.shiftLeft_eq] at h1 h2
    generalize m * 2 ^ (i - min i (-46)).toNat = A at h1 h2 ⊢
    generalize 8936830510563328 * 2 ^ (-46 - min i (-46)).toNat = B at h1 h2 ⊢
    cases s <;> simp at h1 h2 <;> omega
end Go.Proofs.YtbcknchbighieaaDoor.E
