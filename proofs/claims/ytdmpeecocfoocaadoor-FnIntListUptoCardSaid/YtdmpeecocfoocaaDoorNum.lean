/- What spec.digits29, prefixed29 and plain29 answer, in plain words: the printed functions are these. -/
import Derived.Test.YtdmpeecocfoocaaDoorUparse
import Derived.Test.YtdmpeecocfoocaaDoorPWholex3
import Derived.Test.YtdmpeecocfoocaaDoorIntV
import Derived.Test.YtdmpeecocfoocaaDoorPSignedNumeralx1
namespace Go.Proofs.YtdmpeecocfoocaaDoor.E
open Go.RowKit Go.Proofs Go.Proofs.YtdmpeecocfoocaaDoorW.PrintWords Go.Proofs.YtdmpeecocfoocaaDoorW.PrintLast Go.Proofs.YtdmpeecocfoocaaDoorW.PrintMore
open Go.Proofs.YtdmpeecocfoocaaDoor.PWhole
open Go.Lib (NumEnd)
set_option linter.unusedVariables false
set_option linter.unusedSimpArgs false

/-- More rounds, the same answer. -/
theorem upTo {α : Type} {f : Nat → Option α} (m : ∀ k, LeO (f k) (f (k + 1))) {n : Nat} {r : α} (h : f n = some r) : ∀ k, n ≤ k → f k = some r := by
  intro k hk
  obtain ⟨d, rfl⟩ : ∃ d, k = n + d := ⟨k - n, by omega⟩
  induction d with
  | zero => exact h
  | succ d ih => exact m _ _ (ih (by omega))

theorem digV_lt {b m : Nat} (h : 0 ≤ digV b m) : digV b m = dig0 m ∧ dig0 m < b ∧ dig0 m ≤ 35 := by
  unfold digV at h ⊢
  split at h
  · omega
  · rename_i h1
    rw [if_neg h1]
    refine ⟨rfl, by omega, ?_⟩
    unfold dig0
    (repeat' split) <;> omega

theorem dg_at (b : Nat) (hb : b = 2 ∨ b = 8 ∨ b = 10 ∨ b = 16 ∨ b = 36) (m : Nat) (hm : m < 256) (k : Nat) (hk : 4 ≤ k) : spec_digit29.f k (m : Int) (b : Int) = some (digV b m) := by
  refine upTo (f := fun k => spec_digit29.f k (m : Int) (b : Int)) (fun k => spec_digit29.mono _ _ k) (n := 4) ?_ k hk
  rcases hb with rfl | rfl | rfl | rfl | rfl
  · exact (by decide +kernel : ∀ m : Fin 256, spec_digit29.f 4 ((m : Nat) : Int) ((2 : Nat) : Int) = some (digV 2 m)) ⟨m, hm⟩
  · exact (by decide +kernel : ∀ m : Fin 256, spec_digit29.f 4 ((m : Nat) : Int) ((8 : Nat) : Int) = some (digV 8 m)) ⟨m, hm⟩
  · exact (by decide +kernel : ∀ m : Fin 256, spec_digit29.f 4 ((m : Nat) : Int) ((10 : Nat) : Int) = some (digV 10 m)) ⟨m, hm⟩
  · exact (by decide +kernel : ∀ m : Fin 256, spec_digit29.f 4 ((m : Nat) : Int) ((16 : Nat) : Int) = some (digV 16 m)) ⟨m, hm⟩
  · exact (by decide +kernel : ∀ m : Fin 256, spec_digit29.f 4 ((m : Nat) : Int) ((36 : Nat) : Int) = some (digV 36 m)) ⟨m, hm⟩

theorem bt_nat {s : ByteArray} {k : Nat} (h : k < s.size) : bt s (k : Int) = ((s[k].toNat : Nat) : Int) := by
  unfold bt
  rw [dif_pos (by simpa using h)]
  rfl

/-- The number of a text of digits, up to a greatest; none of another text. -/
def dOpt (b most : Nat) : Nat → Bool → List UInt8 → Option Nat
  | acc, over, [] => if over then none else some acc
  | acc, over, c :: r => if digV b c.toNat < 0 then none else if over = true ∨ most < acc * b + (digV b c.toNat).toNat then dOpt b most acc true r else dOpt b most (acc * b + (digV b c.toNat).toNat) false r
def dRes : Option Nat → Int × Int
  | some n => ((n : Int), 1)
  | none => (0, 2)

theorem digits_loop (b most : Nat) (hb : b = 2 ∨ b = 8 ∨ b = 10 ∨ b = 16 ∨ b = 36) (hmost : most ≤ 18446744073709551615) (s : ByteArray) (hs : s.size ≤ 9223372036854775806) : ∀ (d k i acc : Nat) (over : Bool), i + d = s.size → d + 5 ≤ k → acc ≤ most →
    spec_digits29.l0 k s (b : Int) (most : Int) (acc : Int) over (s.size : Int) (i : Int) = some (dRes (dOpt b most acc over (s.data.toList.drop i))) := by
  have hb0 : 0 < b := by omega
  have hb36 : b ≤ 36 := by omega
  intro d
  induction d with
  | zero =>
    intro k i acc over hi hk ha
    obtain ⟨k, rfl⟩ : ∃ m, k = m + 1 := ⟨k - 1, by omega⟩
    rw [List.drop_eq_nil_of_le (by simp; omega)]
    simp only [spec_digits29.l0]
    rw [if_neg (by omega)]
    cases over <;> simp [dOpt, dRes]
  | succ d ih =>
    intro k i acc over hi hk ha
    obtain ⟨k, rfl⟩ : ∃ m, k = m + 1 := ⟨k - 1, by omega⟩
    have hlt : i < s.size := by omega
    have hw : wrap64 ((i : Int) + 1) = ((i + 1 : Nat) : Int) := by unfold wrap64; omega
    have hm := s[i].toNat_lt
    rw [drop_at hlt]
    simp only [spec_digits29.l0]
    rw [if_pos (by omega), if_pos (by omega), if_pos (by omega), bt_nat hlt, dg_at b hb _ hm k (by omega)]
    simp only [Option.bind_some, dOpt]
    by_cases hd : digV b s[i].toNat < 0
    · rw [if_pos hd, if_pos hd]; rfl
    · rw [if_neg hd, if_neg hd]
      obtain ⟨h1, h2, h3⟩ := digV_lt (b := b) (m := s[i].toNat) (by omega)
      generalize hD : (digV b s[i].toNat).toNat = D
      have hDv : digV b s[i].toNat = (D : Int) := by omega
      have hD35 : D ≤ 35 := by omega
      rw [hDv]
      have hwD : IntKind.u64.wrap (D : Int) = (D : Int) := by rw [IntKind.wrap_u64]; omega
      rw [hwD, hw]
      cases over with
      | true =>
        rw [if_pos rfl, if_pos (.inl rfl)]
        exact ih k (i + 1) acc true (by omega) (by omega) ha
      | false =>
        rw [if_neg (by simp), if_neg (by omega)]
        by_cases hDm : D ≤ most
        · have hsub : IntKind.u64.wrap ((most : Int) - (D : Int)) = ((most - D : Nat) : Int) := by rw [IntKind.wrap_u64]; omega
          have hdiv : Int.tdiv ((most - D : Nat) : Int) (b : Int) = (((most - D) / b : Nat) : Int) := rfl
          have hle : (most - D) / b ≤ most := Nat.le_trans (Nat.div_le_self _ _) (Nat.sub_le _ _)
          have hdw : IntKind.u64.wrap (((most - D) / b : Nat) : Int) = (((most - D) / b : Nat) : Int) := by
            generalize (most - D) / b = q at hle
            rw [IntKind.wrap_u64]; omega
          rw [hsub, hdiv, hdw]
          by_cases hov : most < acc * b + D
          · have : (most - D) / b < acc := (Nat.div_lt_iff_lt_mul hb0).2 (by omega)
            rw [if_pos (by omega), if_pos (.inr hov)]
            exact ih k (i + 1) acc true (by omega) (by omega) ha
          · have : ¬ (most - D) / b < acc := fun h => by have := (Nat.div_lt_iff_lt_mul hb0).1 h; omega
            have hmul : IntKind.u64.wrap ((acc : Int) * (b : Int)) = ((acc * b : Nat) : Int) := by
              have e : (acc : Int) * (b : Int) = ((acc * b : Nat) : Int) := by simp
              rw [e]
              generalize acc * b = q at hov
              rw [IntKind.wrap_u64]; omega
            have hadd : IntKind.u64.wrap (((acc * b : Nat) : Int) + (D : Int)) = ((acc * b + D : Nat) : Int) := by
              generalize acc * b = q at hov
              rw [IntKind.wrap_u64]; omega
            rw [if_neg (by omega), if_neg (by omega), if_neg (by simp; omega), hmul, hadd]
            exact ih k (i + 1) (acc * b + D) false (by omega) (by omega) (by omega)
        · have hov : most < acc * b + D := by generalize acc * b = q; omega
          have hr : (if false = true ∨ most < acc * b + D then dOpt b most acc true (s.data.toList.drop (i + 1)) else dOpt b most (acc * b + D) false (s.data.toList.drop (i + 1))) = dOpt b most acc true (s.data.toList.drop (i + 1)) := if_pos (.inr hov)
          rw [hr]
          have e := ih k (i + 1) acc true (by omega) (by omega) ha
          split
          · exact e
          · rw [if_pos (by omega)]; exact e

theorem digits_at (b most : Nat) (hb : b = 2 ∨ b = 8 ∨ b = 10 ∨ b = 16 ∨ b = 36) (hmost : most ≤ 18446744073709551615) (s : ByteArray) (hs : s.size ≤ 9223372036854775806) (k : Nat) (hk : s.size + 5 ≤ k) :
    spec_digits29.f k s (b : Int) (most : Int) = some (dRes (if s.data.toList = [] then none else dOpt b most 0 false s.data.toList)) := by
  unfold spec_digits29.f
  rw [ByteArray.toList_eq]
  split
  · rfl
  · exact digits_loop b most hb hmost s hs s.size k 0 0 false (by omega) hk (Nat.zero_le _)

/-- The base that a text's beginning tells, and how many bytes that takes: of 0 alone none. -/
def preS (l : List UInt8) : Nat × Nat := if l.length = 1 then (10, 0) else preB l

theorem pre_at (s : ByteArray) (hs : s.size ≤ 9223372036854775806) (k : Nat) (hk : 5 ≤ k) : spec_prefixed29.f k s = some (s.extract (preS s.data.toList).2 s.size, (((preS s.data.toList).1 : Nat) : Int)) := by
  obtain ⟨k, rfl⟩ : ∃ m, k = m + 5 := ⟨k - 5, by omega⟩
  have hl : s.data.toList.length = s.size := by simp
  have hx : s.extract 0 s.size = s := by simp
  unfold preS preB
  rw [hl]
  by_cases h3 : 3 ≤ s.size
  · have b0 := bt_nat (s := s) (k := 0) (by omega)
    have b1 := bt_nat (s := s) (k := 1) (by omega)
    rw [if_neg (by omega), getD_at (by omega), getD_at (by omega)]
    generalize s[0].toNat = m0 at b0 ⊢
    generalize s[1].toNat = m1 at b1 ⊢
    have g1 : (s.size : Int) ≥ 3 := by omega
    have g2 : 0 < (s.size : Int) := by omega
    have g3 : 1 < (s.size : Int) := by omega
    have g4 : (s.size : Int) ≥ 2 := by omega
    have g5 : 2 ≤ (s.size : Int) := by omega
    have g6 : 1 ≤ (s.size : Int) := by omega
    have b0' : bt s 0 = (m0 : Int) := b0
    have b1' : bt s 1 = (m1 : Int) := b1
    simp only [spec_prefixed29.f, spec_prefixed29.j0, spec_prefixed29.j1, spec_prefixed29.j2, spec_prefixed29.j3, if_pos g1, if_pos g2, if_pos g3, if_pos g4, if_pos g5, if_pos g6, b0', b1']
    by_cases c0 : m0 = 48
    · subst c0
      by_cases x1 : m1 = 120
      · subst x1; simp [h3]
      by_cases x2 : m1 = 88
      · subst x2; simp [h3]
      by_cases x3 : m1 = 98
      · subst x3; simp [h3]
      by_cases x4 : m1 = 66
      · subst x4; simp [h3]
      by_cases x5 : m1 = 111
      · subst x5; simp [h3]
      by_cases x6 : m1 = 79
      · subst x6; simp [h3]
      have y1 : ¬ (m1 : Int) = 120 := by omega
      have y2 : ¬ (m1 : Int) = 88 := by omega
      have y3 : ¬ (m1 : Int) = 98 := by omega
      have y4 : ¬ (m1 : Int) = 66 := by omega
      have y5 : ¬ (m1 : Int) = 111 := by omega
      have y6 : ¬ (m1 : Int) = 79 := by omega
      simp [x1, x2, x3, x4, x5, x6, y1, y2, y3, y4, y5, y6]
    · have y0 : ¬ (m0 : Int) = 48 := by omega
      simp [c0, y0, hx]
  · have g1 : ¬ (s.size : Int) ≥ 3 := by omega
    by_cases h2 : 2 ≤ s.size
    · have b0 := bt_nat (s := s) (k := 0) (by omega)
      rw [if_neg (by omega), getD_at (by omega)]
      simp only [spec_prefixed29.f, spec_prefixed29.j0, if_neg g1]
      generalize s[0].toNat = m0 at b0 ⊢
      have b0' : bt s 0 = (m0 : Int) := b0
      have g2 : 0 < (s.size : Int) := by omega
      have g4 : (s.size : Int) ≥ 2 := by omega
      have g6 : 1 ≤ (s.size : Int) := by omega
      have ge : ¬ s = ByteArray.empty := fun e => by subst e; simp at h2
      by_cases c0 : m0 = 48
      · subst c0; simp [g2, g4, g6, b0', h3, ge]
      · have y0 : ¬ (m0 : Int) = 48 := by omega
        simp [g2, g4, b0', c0, y0, hx, ge]
    · have g4 : ¬ (s.size : Int) ≥ 2 := by omega
      simp only [spec_prefixed29.f, spec_prefixed29.j0, if_neg g1]
      simp only [if_neg g4]
      by_cases h1 : s.size = 1
      · rw [if_pos h1]
        show _ = some (s.extract 0 s.size, _)
        rw [hx]
        simp
      · have h0 : s.data.toList = [] := List.eq_nil_of_length_eq_zero (by omega)
        simp [hx, h1, h0]

/-- All digits. -/
def dgs (b : Nat) (l : List UInt8) : Bool := l.all fun c => decide (0 ≤ digV b c.toNat)
/-- A text of digits alone, or of 0x and hexadecimal ones. -/
def plainV (l : List UInt8) : Bool :=
  if (preS l).1 = 2 then false
  else if (preS l).1 = 8 ∧ ¬ (l.getD 1 0).toNat = ((l.drop (preS l).2).getD 0 0).toNat then false
  else if l.drop (preS l).2 = [] then false
  else dgs (preS l).1 (l.drop (preS l).2)

theorem preS_base (l : List UInt8) : ((preS l).1 = 2 ∧ (preS l).2 = 2 ∧ 3 ≤ l.length) ∨ ((preS l).1 = 8 ∧ (preS l).2 = 2 ∧ 3 ≤ l.length) ∨ ((preS l).1 = 8 ∧ (preS l).2 = 1 ∧ 2 ≤ l.length) ∨ ((preS l).1 = 10 ∧ (preS l).2 = 0) ∨ ((preS l).1 = 16 ∧ (preS l).2 = 2 ∧ 3 ≤ l.length) := by
  unfold preS preB
  by_cases h1 : l.length = 1
  · simp [h1]
  · rw [if_neg h1]
    by_cases h0 : (l.getD 0 0).toNat = 48
    · have hl : l ≠ [] := by intro e; subst e; simp at h0
      have : 0 < l.length := List.length_pos_iff.2 hl
      rw [if_pos h0]
      (repeat' split) <;> simp <;> omega
    · rw [if_neg h0]; simp

theorem plain_loop (b : Nat) (hb : b = 2 ∨ b = 8 ∨ b = 10 ∨ b = 16 ∨ b = 36) (s : ByteArray) (hs : s.size ≤ 9223372036854775806) : ∀ (d k i : Nat), i + d = s.size → d + 5 ≤ k →
    spec_plain29.l0 k s (b : Int) (s.size : Int) (i : Int) = some (dgs b (s.data.toList.drop i)) := by
  intro d
  induction d with
  | zero =>
    intro k i hi hk
    obtain ⟨k, rfl⟩ : ∃ m, k = m + 1 := ⟨k - 1, by omega⟩
    rw [List.drop_eq_nil_of_le (by simp; omega)]
    simp only [spec_plain29.l0]
    rw [if_neg (by omega)]
    rfl
  | succ d ih =>
    intro k i hi hk
    obtain ⟨k, rfl⟩ : ∃ m, k = m + 1 := ⟨k - 1, by omega⟩
    have hlt : i < s.size := by omega
    have hw : wrap64 ((i : Int) + 1) = ((i + 1 : Nat) : Int) := by unfold wrap64; omega
    have hm := s[i].toNat_lt
    rw [drop_at hlt]
    simp only [spec_plain29.l0]
    rw [if_pos (by omega), if_pos (by omega), if_pos (by omega), bt_nat hlt, dg_at b hb _ hm k (by omega)]
    simp only [Option.bind_some]
    by_cases hd : digV b s[i].toNat < 0
    · rw [if_pos hd]; unfold dgs; rw [List.all_cons, decide_eq_false (by omega)]; rfl
    · rw [if_neg hd, hw, ih k (i + 1) (by omega) (by omega)]; unfold dgs; rw [List.all_cons, decide_eq_true (by omega)]; rfl

theorem extract_tail (s : ByteArray) (n : Nat) : (s.extract n s.size).data.toList = s.data.toList.drop n := by
  simp [ByteArray.data_extract]
  exact List.take_of_length_le (by simp)

theorem plain_at (s : ByteArray) (hs : s.size ≤ 9223372036854775806) (k : Nat) (hk : s.size + 7 ≤ k) : spec_plain29.f k s = some (plainV s.data.toList) := by
  obtain ⟨k, rfl⟩ : ∃ m, k = m + 1 := ⟨k - 1, by omega⟩
  unfold spec_plain29.f
  rw [pre_at s hs (k + 1) (by omega)]
  have hpre := preS_base s.data.toList
  have hl : s.data.toList.length = s.size := by simp
  have hx := extract_tail s (preS s.data.toList).2
  have hxs : (s.extract (preS s.data.toList).2 s.size).size ≤ s.size := by
    simp
  simp only [Option.bind_some]
  generalize hT : s.extract (preS s.data.toList).2 s.size = T at hx hxs
  have hj : ∀ (b : Nat) (q : Bool), (b = 2 ∨ b = 8 ∨ b = 10 ∨ b = 16 ∨ b = 36) → spec_plain29.j0 (k + 1) T (b : Int) q = some (if q then false else dgs b T.data.toList) := by
    intro b q hb
    simp only [spec_plain29.j0]
    cases q with
    | true => rfl
    | false => rw [if_neg (by simp), if_neg (by simp)]; exact plain_loop b hb T (by omega) T.size k 0 (by omega) (by omega)
  unfold plainV
  rw [← hx]
  have hte : (T.toList == ([] : List UInt8)) = decide (T.data.toList = []) := by
    rw [ByteArray.toList_eq]; cases T.data.toList <;> rfl
  rw [hte]
  have h8 : 1 < s.size → 0 < T.size → (if ((8 : Nat) : Int) = 2 then spec_plain29.j0 (k + 1) T ((8 : Nat) : Int) true else if ((8 : Nat) : Int) = 8 then if 1 < (s.size : Int) then if 0 < (T.size : Int) then if bt s 1 = bt T 0 then spec_plain29.j0 (k + 1) T ((8 : Nat) : Int) (decide (T.data.toList = [])) else spec_plain29.j0 (k + 1) T ((8 : Nat) : Int) true else none else none else spec_plain29.j0 (k + 1) T ((8 : Nat) : Int) (decide (T.data.toList = []))) =
      some (if 8 = 2 then false else if 8 = 8 ∧ ¬ (s.data.toList.getD 1 0).toNat = (T.data.toList.getD 0 0).toNat then false else if T.data.toList = [] then false else dgs 8 T.data.toList) := by
    intro g1 g2
    have b1 := bt_nat (s := s) (k := 1) g1
    have b0 := bt_nat (s := T) (k := 0) g2
    have b1' : bt s 1 = ((s[1].toNat : Nat) : Int) := b1
    have b0' : bt T 0 = ((T[0].toNat : Nat) : Int) := b0
    have hT0 : ¬ T.data.toList = [] := by intro e; have h1 : T.data.toList.length = T.size := by simp
                                          rw [e] at h1; simp only [List.length_nil] at h1; omega
    rw [if_neg (show ¬ ((8 : Nat) : Int) = 2 by omega), if_pos (show ((8 : Nat) : Int) = 8 by omega), if_pos (show (1 : Int) < (s.size : Int) by omega), if_pos (show (0 : Int) < (T.size : Int) by omega), b1', b0', getD_at g1, getD_at g2, hj 8 _ (by omega), hj 8 _ (by omega)]
    by_cases he : s[1].toNat = T[0].toNat
    · simp [he, hT0]
    · have : ¬ ((s[1].toNat : Nat) : Int) = ((T[0].toNat : Nat) : Int) := by omega
      rw [if_neg this]; simp [he]
  have hTs : T.size = s.size - (preS s.data.toList).2 := by have := congrArg List.length hx; simp at this; omega
  generalize hb : (preS s.data.toList).1 = b at hpre ⊢
  rcases hpre with ⟨rfl, h2, h3⟩ | ⟨rfl, h2, h3⟩ | ⟨rfl, h2, h3⟩ | ⟨rfl, h2⟩ | ⟨rfl, h2, h3⟩
  · rw [if_pos (by omega), if_pos rfl]; exact hj 2 true (.inl rfl)
  · exact h8 (by omega) (by omega)
  · exact h8 (by omega) (by omega)
  · rw [if_neg (by omega), if_neg (by omega), if_neg (by omega), if_neg (by omega)]
    have e := hj 10 (decide (T.data.toList = [])) (by omega)
    by_cases h0 : T.data.toList = []
    · rw [if_pos h0]; simpa [h0] using e
    · rw [if_neg h0]; simpa [h0] using e
  · rw [if_neg (by omega), if_neg (by omega), if_neg (by omega), if_neg (by omega)]
    have e := hj 16 (decide (T.data.toList = [])) (by omega)
    by_cases h0 : T.data.toList = []
    · rw [if_pos h0]; simpa [h0] using e
    · rw [if_neg h0]; simpa [h0] using e
end Go.Proofs.YtdmpeecocfoocaaDoor.E

namespace Go.Proofs.YtdmpeecocfoocaaDoor.E
open Go.RowKit Go.Proofs Go.Proofs.YtdmpeecocfoocaaDoorW.PrintWords Go.Proofs.YtdmpeecocfoocaaDoorW.PrintLast Go.Proofs.YtdmpeecocfoocaaDoorW.PrintMore
open Go.Lib (NumEnd)
set_option linter.unusedVariables false
set_option linter.unusedSimpArgs false

theorem one_digit (d : Nat) (h : d < 10) : strOfNums ([(IntKind.u64.wrap (48 + (d : Int))) % 256] : List Int) = ⟨#[UInt8.ofNat (48 + d)]⟩ := by
  have e : (IntKind.u64.wrap (48 + (d : Int))) % 256 = ((48 + d : Nat) : Int) := by rw [IntKind.wrap_u64]; omega
  rw [e]; rfl

theorem nd_le : ∀ (k n : Nat), n < 10 ^ (k + 1) → (Lib.decDigits n).length ≤ k + 1 := by
  intro k
  induction k with
  | zero =>
    intro n h
    rw [Lib.decDigits_one (by omega)]
    simp
  | succ k ih =>
    intro n h
    by_cases h10 : n < 10
    · rw [Lib.decDigits_one h10]; simp
    · have hq : n / 10 < 10 ^ (k + 1) := by rw [Nat.div_lt_iff_lt_mul (by omega)]; rw [Nat.pow_succ] at h; exact h
      have e : Lib.decDigits n = Lib.decDigits (n / 10) ++ [UInt8.ofNat (48 + n % 10)] := by rw [Lib.decDigits, dif_neg h10]
      have := ih _ hq
      rw [e]; simp; omega
theorem nd_20 (n : Nat) (h : n ≤ 18446744073709551615) : (Lib.decDigits n).length ≤ 20 := nd_le 19 n (by omega)

theorem numeral_at : ∀ (k n : Nat), n < 10 ^ (k + 1) → n ≤ 18446744073709551615 → PSignedNumeral.spec_Numeral.f (k + 1) (n : Int) = some ⟨(Lib.decDigits n).toArray⟩ := by
  intro k
  induction k with
  | zero =>
    intro n h hm
    have h10 : n < 10 := by omega
    rw [Lib.decDigits_one h10]
    simp only [PSignedNumeral.spec_Numeral.f]
    rw [if_pos (by omega), one_digit n h10]
  | succ k ih =>
    intro n h hm
    by_cases h10 : n < 10
    · rw [Lib.decDigits_one h10]
      simp only [PSignedNumeral.spec_Numeral.f]
      rw [if_pos (by omega), one_digit n h10]
    · have hq : n / 10 < 10 ^ (k + 1) := by rw [Nat.div_lt_iff_lt_mul (by omega)]; rw [Nat.pow_succ] at h; exact h
      have h1 := ih (n / 10) hq (by omega)
      have e : Lib.decDigits n = Lib.decDigits (n / 10) ++ [UInt8.ofNat (48 + n % 10)] := by rw [Lib.decDigits, dif_neg h10]
      have w1 : IntKind.u64.wrap (Int.tdiv (n : Int) 10) = ((n / 10 : Nat) : Int) := by
        have : Int.tdiv (n : Int) 10 = ((n / 10 : Nat) : Int) := rfl
        rw [this, IntKind.wrap_u64]; omega
      have w2 : Int.tmod (n : Int) 10 = ((n % 10 : Nat) : Int) := rfl
      have hlen := nd_20 (n / 10) (by omega)
      rw [PSignedNumeral.spec_Numeral.f]
      rw [if_neg (by omega), w1, h1, w2]
      simp only [Option.bind_some]
      rw [one_digit _ (by omega), if_pos (by simp [ByteArray.size]; omega), e]
      congr 1

theorem signed_at (n : Int) (h0 : -9223372036854775808 ≤ n) (h1 : n ≤ 9223372036854775807) : PSignedNumeral.spec_SignedNumeral.f 20 n = some (said n) := by
  unfold PSignedNumeral.spec_SignedNumeral.f said
  by_cases hn : n < 0
  · obtain ⟨u, hu⟩ : ∃ u : Nat, n = -(u : Int) := ⟨n.natAbs, by omega⟩
    subst hu
    have e : IntKind.u64.wrap (-(IntKind.u64.wrap (-(u : Int)))) = (u : Int) := by rw [IntKind.wrap_u64, IntKind.wrap_u64]; omega
    have hl := nd_20 u (by omega)
    rw [if_pos hn, e, numeral_at 19 u (by omega) (by omega), Lib.itoa_neg u (by omega)]
    simp only [Option.bind_some]
    rw [if_pos (by simp [ByteArray.size]; omega)]
    congr 1
  · obtain ⟨u, hu⟩ : ∃ u : Nat, n = (u : Int) := ⟨n.toNat, by omega⟩
    subst hu
    have e : IntKind.u64.wrap (u : Int) = (u : Int) := by rw [IntKind.wrap_u64]; omega
    rw [if_neg hn, e, numeral_at 19 u (by omega) (by omega), Lib.itoa_nonneg]
    rfl

/-- spec.SignedNumeral says what the value says. -/
theorem numeral_any (n : Int) (h0 : -9223372036854775808 ≤ n) (h1 : n ≤ 9223372036854775807) (w : World) :
    Calls Tryd.prog 19 #[.int .i64 n] w fun e w' => e = .returned (.string (said n)) ∧ Below w.heap.size w w' :=
  PSignedNumeral.spec_SignedNumeral.calls 20 n (said n) w (signed_at n h0 h1)

theorem digits_any (b most : Nat) (hb : b = 2 ∨ b = 8 ∨ b = 10 ∨ b = 16 ∨ b = 36) (hmost : most ≤ 18446744073709551615) (s : ByteArray) (hs : s.size ≤ 9223372036854775806) (w : World) :
    Calls Tryd.prog 65 #[.string s, .int .u64 b, .int .u64 most] w fun e w' => e = .returned (.tuple #[.int .u64 (dRes (if s.data.toList = [] then none else dOpt b most 0 false s.data.toList)).1, .int .i64 (dRes (if s.data.toList = [] then none else dOpt b most 0 false s.data.toList)).2]) ∧ Drawn0 w w' :=
  PWhole.spec_digits29.calls (s.size + 5) s b most _ _ w (digits_at b most hb hmost s hs _ (Nat.le_refl _))

theorem prefixed_any (s : ByteArray) (hs : s.size ≤ 9223372036854775806) (w : World) :
    Calls Tryd.prog 82 #[.string s] w fun e w' => e = .returned (.tuple #[.string (s.extract (preS s.data.toList).2 s.size), .int .u64 (preS s.data.toList).1]) ∧ Drawn0 w w' :=
  PWhole.spec_prefixed29.calls 5 s _ _ w (pre_at s hs 5 (Nat.le_refl _))

theorem plain_any (s : ByteArray) (hs : s.size ≤ 9223372036854775806) (w : World) :
    Calls Tryd.prog 81 #[.string s] w fun e w' => e = .returned (.bool (plainV s.data.toList)) ∧ Drawn0 w w' :=
  PWhole.spec_plain29.calls (s.size + 7) s _ w (plain_at s hs _ (Nat.le_refl _))

/-! ### A text of digits, read by either -/
def valD (b a : Nat) (l : List UInt8) : Nat := l.foldl (fun a c => a * b + (dig0 c.toNat).toNat) a
theorem valD_ge {b : Nat} (hb : 0 < b) : ∀ (l : List UInt8) (a : Nat), a ≤ valD b a l
  | [], a => Nat.le_refl _
  | c :: r, a => by
    have h := valD_ge hb r (a * b + (dig0 c.toNat).toNat)
    have : a ≤ a * b := Nat.le_mul_of_pos_right a hb
    show a ≤ valD b (a * b + (dig0 c.toNat).toNat) r
    omega
theorem dOpt_some {b most : Nat} (hb : 0 < b) : ∀ (l : List UInt8) (a n : Nat) (over : Bool), dOpt b most a over l = some n → over = false ∧ dgs b l = true ∧ n = valD b a l ∧ (a ≤ most → n ≤ most)
  | [], a, n, over, h => by
    cases over with
    | true => simp [dOpt] at h
    | false => simp [dOpt] at h; subst h; exact ⟨rfl, rfl, rfl, fun h => h⟩
  | c :: r, a, n, over, h => by
    rw [dOpt] at h
    split at h
    · cases h
    · rename_i hd
      obtain ⟨e1, e2, e3⟩ := digV_lt (b := b) (m := c.toNat) (by omega)
      split at h
      · have := (dOpt_some hb r _ n _ h).1; cases this
      · rename_i ho
        obtain ⟨_, h2, h3, h4⟩ := dOpt_some hb r _ n _ h
        have : over = false := by cases over <;> simp_all
        refine ⟨this, ?_, ?_, fun _ => h4 (by omega)⟩
        · unfold dgs at h2 ⊢; rw [List.all_cons, h2, decide_eq_true (by omega)]; rfl
        · rw [h3]; unfold valD; rw [List.foldl_cons, e1]
theorem puScan_dgs {b M : Nat} (hb : 0 < b) : ∀ (l : List UInt8) (a : Nat) (us : Bool), dgs b l = true → valD b a l ≤ M → puScan b M a us l = .ok (valD b a l, us)
  | [], a, us, _, _ => rfl
  | c :: r, a, us, h, hM => by
    unfold dgs at h
    rw [List.all_cons, Bool.and_eq_true, decide_eq_true_eq] at h
    obtain ⟨h1, h2⟩ := h
    obtain ⟨e1, e2, e3⟩ := digV_lt (b := b) (m := c.toNat) h1
    have hge := valD_ge hb r (a * b + (dig0 c.toNat).toNat)
    have hv : valD b a (c :: r) = valD b (a * b + (dig0 c.toNat).toNat) r := rfl
    rw [hv] at hM ⊢
    have h95 : ¬ c.toNat = 95 := by
      intro e
      rw [e] at h1
      have : digV b 95 = -1 := by unfold digV; split <;> rfl
      omega
    have hnot : ¬ (M : Int) < (a : Int) * (b : Int) + dig0 c.toNat := by
      have e4 : ((dig0 c.toNat).toNat : Int) = dig0 c.toNat := by omega
      have e5 : (a : Int) * (b : Int) = ((a * b : Nat) : Int) := by simp
      rw [← e4, e5]
      omega
    rw [puScan, if_neg h95, if_neg (by omega), if_neg hnot]
    exact puScan_dgs hb r _ us h2 hM

/-- A plain text's number, of 64 bits. -/
def natP (l : List UInt8) : Option Nat := if plainV l = true then dOpt (preS l).1 18446744073709551615 0 false (l.drop (preS l).2) else none

theorem natP_pu {l : List UInt8} {n M : Nat} (h : natP l = some n) (hM : n ≤ M) : puV M l = .ok n ∧ n ≤ 18446744073709551615 := by
  unfold natP at h
  split at h
  · rename_i hp
    have hb : 0 < (preS l).1 := by have := preS_base l; omega
    obtain ⟨_, h2, h3, h4⟩ := dOpt_some hb _ _ _ _ h
    have hne : l ≠ [] := by rintro rfl; simp [plainV, preS, preB] at hp
    refine ⟨?_, h4 (by omega)⟩
    unfold puV
    rw [if_neg hne]
    by_cases h1 : l.length = 1
    · obtain ⟨c, rfl⟩ := List.length_eq_one_iff.1 h1
      have e : preS [c] = (10, 0) := by simp [preS]
      rw [e] at h2 h3
      by_cases hc : c.toNat = 48
      · have e2 : preB [c] = (8, 1) := by simp [preB, hc]
        rw [e2]
        have hn : n = 0 := by rw [h3]; simp [valD, hc, dig0]
        subst hn
        rfl
      · have e2 : preB [c] = (10, 0) := by simp [preB, hc]
        rw [e2, puScan_dgs (by omega) _ 0 false h2 (by rw [← h3]; exact hM), ← h3]
        simp [puEnd]
    · have e : preS l = preB l := by unfold preS; rw [if_neg h1]
      rw [e] at h2 h3 hb
      rw [puScan_dgs hb _ 0 false h2 (by rw [← h3]; exact hM), ← h3]
      simp [puEnd]
  · cases h
end Go.Proofs.YtdmpeecocfoocaaDoor.E

namespace Go.Proofs.YtdmpeecocfoocaaDoor.E
open Go.RowKit Go.Proofs Go.Proofs.YtdmpeecocfoocaaDoorW.PrintWords Go.Proofs.YtdmpeecocfoocaaDoorW.PrintLast Go.Proofs.YtdmpeecocfoocaaDoorW.PrintMore
open Go.Lib (NumEnd)
set_option linter.unusedVariables false
set_option linter.unusedSimpArgs false

theorem d0_below {B : Nat} {w w' : World} (h : Drawn0 w w') : Below B w w' := by
  obtain ⟨n, rfl⟩ := h
  exact bdrew (Below.refl _ _) n

def natRes : Option Nat → Int × Int
  | some n => ((n : Int), 1)
  | none => (0, 0)

set_option maxRecDepth 100000 in
theorem natural_plain (s : ByteArray) (hs : s.size ≤ 9223372036854775806) (w : World) :
    Calls Tryd.prog 27 #[.string s, .int .i64 64, .bool false] w fun e w' => e = .returned (.tuple #[.int .u64 (natRes (natP s.data.toList)).1, .int .i64 (natRes (natP s.data.toList)).2]) ∧ Below w.heap.size w w' := by
  have HP := fun w => Lib.hid (plain_any s hs w)
  have HX := fun w => Lib.hid (prefixed_any s hs w)
  unfold natP
  cases hp : plainV s.data.toList with
  | false =>
    rw [hp] at HP
    rw [if_neg (by simp)]
    clear hp HX
    go_enter Tryd.func27, Tryd.ntmps27
    go_wp2_with (go_at_call 81; refine ((HP _).out).mono ?_; rintro e w1 ⟨rfl, hb1⟩; have HB := Lib.hid (d0_below (B := w.heap.size) hb1); clear hb1)
    go_ret2
    exact ⟨rfl, HB.out⟩
  | true =>
    rw [hp] at HP
    rw [if_pos rfl]
    have hne : s.data.toList.drop (preS s.data.toList).2 ≠ [] := by
      intro e; unfold plainV at hp; rw [if_pos e] at hp; (repeat' split at hp) <;> cases hp
    have hT : (s.extract (preS s.data.toList).2 s.size).data.toList = s.data.toList.drop (preS s.data.toList).2 := extract_tail s _
    have hb : (preS s.data.toList).1 = 2 ∨ (preS s.data.toList).1 = 8 ∨ (preS s.data.toList).1 = 10 ∨ (preS s.data.toList).1 = 16 ∨ (preS s.data.toList).1 = 36 := by have := preS_base s.data.toList; omega
    have hTs : (s.extract (preS s.data.toList).2 s.size).size ≤ 9223372036854775806 := by simp; omega
    have HD := fun w => Lib.hid (digits_any (preS s.data.toList).1 18446744073709551615 hb (by omega) (s.extract (preS s.data.toList).2 s.size) hTs w)
    rw [hT, if_neg hne] at HD
    generalize s.extract (preS s.data.toList).2 s.size = T at HX HD
    generalize dOpt (preS s.data.toList).1 18446744073709551615 0 false (s.data.toList.drop (preS s.data.toList).2) = d at HD ⊢
    generalize (preS s.data.toList).1 = b at HX HD
    clear hp hne hT hb hTs
    have d0 : (0 : Int) ≤ (b : Int) := Int.natCast_nonneg _
    cases d with
    | none =>
      simp only [dRes] at HD
      go_enter Tryd.func27, Tryd.ntmps27
      go_wp2_with (first
        | (go_at_call 81; refine ((HP _).out).mono ?_; rintro e w1 ⟨rfl, hb1⟩; have HB1 := Lib.hid (d0_below (B := w.heap.size) hb1); clear hb1)
        | (go_at_call 82; refine ((HX _).out).mono ?_; rintro e w2 ⟨rfl, hb2⟩; have HB2 := Lib.hid (d0_below (B := w.heap.size) hb2); clear hb2)
        | (go_at_call 65; refine ((HD _).out).mono ?_; rintro e w3 ⟨rfl, hb3⟩; have HB3 := Lib.hid (d0_below (B := w.heap.size) hb3); clear hb3))
      go_ret2
      exact ⟨rfl, (HB1.out.trans HB2.out).trans HB3.out⟩
    | some n =>
      simp only [dRes] at HD
      have n0 : (0 : Int) ≤ (n : Int) := Int.natCast_nonneg _
      go_enter Tryd.func27, Tryd.ntmps27
      go_wp2_with (first
        | (go_at_call 81; refine ((HP _).out).mono ?_; rintro e w1 ⟨rfl, hb1⟩; have HB1 := Lib.hid (d0_below (B := w.heap.size) hb1); clear hb1)
        | (go_at_call 82; refine ((HX _).out).mono ?_; rintro e w2 ⟨rfl, hb2⟩; have HB2 := Lib.hid (d0_below (B := w.heap.size) hb2); clear hb2)
        | (go_at_call 65; refine ((HD _).out).mono ?_; rintro e w3 ⟨rfl, hb3⟩; have HB3 := Lib.hid (d0_below (B := w.heap.size) hb3); clear hb3))
      go_ret2
      exact ⟨rfl, (HB1.out.trans HB2.out).trans HB3.out⟩
end Go.Proofs.YtdmpeecocfoocaaDoor.E

namespace Go.Proofs.YtdmpeecocfoocaaDoor.E
open Go.RowKit Go.Proofs
open Go.Lib (NumEnd)
set_option linter.unusedVariables false
set_option linter.unusedSimpArgs false

/-- A plain text's number with its sign; C: how many are not below 0. -/
def minusP (C : Nat) : Option Nat → Option Int
  | some n => if n ≤ C then some (-(n : Int)) else none
  | none => none
def plusP (C : Nat) : Option Nat → Option Int
  | some n => if n < C then some (n : Int) else none
  | none => none
def wholeP (C : Nat) : List UInt8 → Option Int
  | [] => none
  | c :: r => if c.toNat = 45 then minusP C (natP r) else plusP C (natP (c :: r))
def wholeRes : Option Int → Int × Int
  | some n => (n, 1)
  | none => (0, 0)

theorem natP_le {l : List UInt8} {n : Nat} (h : natP l = some n) : n ≤ 18446744073709551615 := (natP_pu (M := n) h (Nat.le_refl _)).2

theorem whole_pi {M C : Nat} (hC : C ≤ M) (l : List UInt8) {v : Int} (h : wholeP C l = some v) : piE M C l = (.ok v, 0) := by
  cases l with
  | nil => cases h
  | cons c r =>
    simp only [wholeP] at h
    simp only [piE]
    by_cases h45 : c.toNat = 45
    · rw [if_pos h45] at h
      rw [if_neg (by omega), if_pos h45]
      cases hn : natP r with
      | none => rw [hn] at h; cases h
      | some n =>
        rw [hn] at h
        simp only [minusP] at h
        split at h
        · rename_i hle
          cases h
          rw [(natP_pu hn (M := M) (by omega)).1]
          simp only [minusE]; rw [if_pos hle]
        · cases h
    · rw [if_neg h45] at h
      cases hn : natP (c :: r) with
      | none => rw [hn] at h; cases h
      | some n =>
        rw [hn] at h
        simp only [plusP] at h
        split at h
        · rename_i hle
          cases h
          have h43 : ¬ c.toNat = 43 := by
            intro e
            have : natP (c :: r) = none := by
              unfold natP
              rw [if_neg]
              intro hp
              unfold plainV preS preB at hp
              simp [e] at hp
              have hd : digV 10 43 = -1 := by unfold digV; split <;> rfl
              simp [dgs, e, hd] at hp
            rw [this] at hn; cases hn
          rw [if_neg h43, if_neg h45, (natP_pu hn (M := M) (by omega)).1]
          simp only [plusE]; rw [if_pos hle]
        · cases h


set_option maxRecDepth 100000 in
set_option maxHeartbeats 1600000 in
theorem whole_any (m C : Nat) (hm : m ≤ 63) (hC1 : 1 ≤ C) (hC2 : C ≤ 9223372036854775808) (hCs : IntKind.u64.wrap (2 ^ m) = (C : Int)) (s : ByteArray) (hs : s.size ≤ 9223372036854775806) (w : World) :
    Calls Tryd.prog 12 #[.string s, .int .i64 ((m : Int) + 1), .bool false] w fun e w' => e = .returned (.tuple #[.int .i64 (wholeRes (wholeP C s.data.toList)).1, .int .i64 (wholeRes (wholeP C s.data.toList)).2]) ∧ Below w.heap.size w w' := by
  have m0 : (0 : Int) ≤ (m : Int) := Int.natCast_nonneg _
  have m1 : (m : Int) ≤ 63 := by omega
  have C0 : (1 : Int) ≤ (C : Int) := by omega
  have C1 : (C : Int) ≤ 9223372036854775808 := by omega
  by_cases hne : 0 < s.size
  · have hemp := nonempty_list hne
    have hemp2 := nonempty_not hne
    have hd0 := drop_at hne
    rw [List.drop_zero] at hd0
    by_cases h45 : s[0].toNat = 45
    · have c0 : ((s[0].toNat : Int) == 45) = true := by rw [h45]; rfl
      have hT : (s.extract 1 s.size).data.toList = s.data.toList.drop 1 := extract_tail s 1
      have hTs : (s.extract 1 s.size).size ≤ 9223372036854775806 := by simp; omega
      have HN := fun w => Lib.hid (natural_plain (s.extract 1 s.size) hTs w)
      rw [hT] at HN
      have hW : wholeP C s.data.toList = minusP C (natP (s.data.toList.drop 1)) := by rw [hd0]; simp only [wholeP]; rw [if_pos h45]; rfl
      rw [hW]
      have hle := fun n (h : natP (s.data.toList.drop 1) = some n) => natP_le h
      generalize natP (s.data.toList.drop 1) = d at HN hle ⊢
      clear hW hT hTs hd0 h45
      cases d with
      | none =>
        simp only [natRes] at HN
        clear hle
        go_enter Tryd.func12, Tryd.ntmps12
        go_wp2_with (go_at_call 27; refine ((HN _).out).mono ?_; rintro e w1 ⟨rfl, hb1⟩; have HB := Lib.hid hb1; clear hb1)
        go_ret2
        exact ⟨rfl, HB.out⟩
      | some n =>
        simp only [natRes] at HN
        have n0 : (0 : Int) ≤ (n : Int) := Int.natCast_nonneg _
        have n1 : (n : Int) ≤ 18446744073709551615 := by have := hle n rfl; omega
        clear hle
        by_cases hc : n ≤ C
        · have hv : minusP C (some n) = some (-(n : Int)) := by simp [minusP, hc]
          rw [hv]
          have n2 : (n : Int) ≤ C := by omega
          clear hv hc
          have HW : Hid (wrap64 (-(wrap64 (n : Int))) = -(n : Int)) := by show wrap64 (-(wrap64 (n : Int))) = -(n : Int); unfold wrap64; omega
          by_cases heq : n = C
          · have n4 : ((n : Int) == C) = true := by rw [heq]; simp
            have n5 : ¬ (C : Int) < (n : Int) := by omega
            clear heq n2
            go_enter Tryd.func12, Tryd.ntmps12
            go_wp2_with (go_at_call 27; refine ((HN _).out).mono ?_; rintro e w1 ⟨rfl, hb1⟩; have HB := Lib.hid hb1; clear hb1)
            go_ret2
            exact ⟨by first | rfl | (simp only [wholeRes]; rw [HW.out]; rfl) | (simp only [wholeRes]; go_num), HB.out⟩
          · have n3 : (n : Int) < C := by omega
            have n4 : ((n : Int) == C) = false := by simp; omega
            clear heq
            go_enter Tryd.func12, Tryd.ntmps12
            go_wp2_with (go_at_call 27; refine ((HN _).out).mono ?_; rintro e w1 ⟨rfl, hb1⟩; have HB := Lib.hid hb1; clear hb1)
            go_ret2
            exact ⟨by first | rfl | (simp only [wholeRes]; rw [HW.out]; rfl) | (simp only [wholeRes]; go_num), HB.out⟩
        · have hv : minusP C (some n) = none := by simp [minusP, hc]
          rw [hv]
          have n2 : C < (n : Int) := by omega
          clear hv hc
          go_enter Tryd.func12, Tryd.ntmps12
          go_wp2_with (go_at_call 27; refine ((HN _).out).mono ?_; rintro e w1 ⟨rfl, hb1⟩; have HB := Lib.hid hb1; clear hb1)
          go_ret2
          exact ⟨rfl, HB.out⟩
    · have c0 : ((s[0].toNat : Int) == 45) = false := byte_beq (c := s[0]) (k := 45) (by omega) (fun e => h45 (by rw [e]; rfl))
      have HN := fun w => Lib.hid (natural_plain s hs w)
      have hW : wholeP C s.data.toList = plusP C (natP s.data.toList) := by rw [hd0]; simp only [wholeP]; rw [if_neg h45]
      rw [hW]
      have hle := fun n (h : natP s.data.toList = some n) => natP_le h
      generalize natP s.data.toList = d at HN hle ⊢
      clear hW hd0 h45
      cases d with
      | none =>
        simp only [natRes] at HN
        clear hle
        go_enter Tryd.func12, Tryd.ntmps12
        go_wp2_with (go_at_call 27; refine ((HN _).out).mono ?_; rintro e w1 ⟨rfl, hb1⟩; have HB := Lib.hid hb1; clear hb1)
        go_ret2
        exact ⟨rfl, HB.out⟩
      | some n =>
        simp only [natRes] at HN
        have n0 : (0 : Int) ≤ (n : Int) := Int.natCast_nonneg _
        have n1 : (n : Int) ≤ 18446744073709551615 := by have := hle n rfl; omega
        clear hle
        by_cases hc : n < C
        · have hv : plusP C (some n) = some (n : Int) := by simp [plusP, hc]
          rw [hv]
          have n2 : (n : Int) < C := by omega
          have n4 : ((n : Int) == C) = false := by simp; omega
          clear hv hc
          have HW : Hid (IntKind.i64.wrap (n : Int) = (n : Int)) := by show IntKind.i64.wrap (n : Int) = (n : Int); rw [IntKind.wrap_i64]; omega
          go_enter Tryd.func12, Tryd.ntmps12
          go_wp2_with (go_at_call 27; refine ((HN _).out).mono ?_; rintro e w1 ⟨rfl, hb1⟩; have HB := Lib.hid hb1; clear hb1)
          go_ret2
          exact ⟨by first | rfl | (simp only [wholeRes]; rw [HW.out]; rfl) | (simp only [wholeRes]; go_num), HB.out⟩
        · have hv : plusP C (some n) = none := by simp [plusP]; omega
          rw [hv]
          by_cases heq : n = C
          · have n4 : ((n : Int) == C) = true := by rw [heq]; simp
            have n5 : ¬ (C : Int) < (n : Int) := by omega
            clear hv hc heq
            go_enter Tryd.func12, Tryd.ntmps12
            go_wp2_with (go_at_call 27; refine ((HN _).out).mono ?_; rintro e w1 ⟨rfl, hb1⟩; have HB := Lib.hid hb1; clear hb1)
            go_ret2
            exact ⟨rfl, HB.out⟩
          · have n2 : C < (n : Int) := by omega
            clear hv hc heq
            go_enter Tryd.func12, Tryd.ntmps12
            go_wp2_with (go_at_call 27; refine ((HN _).out).mono ?_; rintro e w1 ⟨rfl, hb1⟩; have HB := Lib.hid hb1; clear hb1)
            go_ret2
            exact ⟨rfl, HB.out⟩
  · have hemp := empty_list (x := s) (by omega)
    have hemp2 := empty_not (x := s) (by omega)
    have hl : s.data.toList = [] := List.eq_nil_of_length_eq_zero (by rw [size_len]; omega)
    have HN := fun w => Lib.hid (natural_plain s hs w)
    have hW : wholeP C s.data.toList = none := by rw [hl]; rfl
    have hN : natP s.data.toList = none := by rw [hl]; simp [natP, plainV, preS, preB]
    rw [hN] at HN
    rw [hW]
    simp only [natRes] at HN
    clear hW hN hl
    go_enter Tryd.func12, Tryd.ntmps12
    go_wp2_with (go_at_call 27; refine ((HN _).out).mono ?_; rintro e w1 ⟨rfl, hb1⟩; have HB := Lib.hid hb1; clear hb1)
    go_ret2
    exact ⟨rfl, HB.out⟩

theorem whole_of (b m C : Nat) (h : (b = 8 ∧ m = 7 ∧ C = 128) ∨ (b = 16 ∧ m = 15 ∧ C = 32768) ∨ (b = 32 ∧ m = 31 ∧ C = 2147483648) ∨ (b = 64 ∧ m = 63 ∧ C = 9223372036854775808)) (s : ByteArray) (hs : s.size ≤ 9223372036854775806) (w : World) :
    Calls Tryd.prog 12 #[.string s, .int .i64 (b : Nat), .bool false] w fun e w' => e = .returned (.tuple #[.int .i64 (wholeRes (wholeP C s.data.toList)).1, .int .i64 (wholeRes (wholeP C s.data.toList)).2]) ∧ Below w.heap.size w w' := by
  rcases h with ⟨rfl, rfl, rfl⟩ | ⟨rfl, rfl, rfl⟩ | ⟨rfl, rfl, rfl⟩ | ⟨rfl, rfl, rfl⟩
  · exact whole_any 7 128 (by omega) (by omega) (by omega) (by decide +kernel) s hs w
  · exact whole_any 15 32768 (by omega) (by omega) (by omega) (by decide +kernel) s hs w
  · exact whole_any 31 2147483648 (by omega) (by omega) (by omega) (by decide +kernel) s hs w
  · exact whole_any 63 9223372036854775808 (by omega) (by omega) (by omega) (by decide +kernel) s hs w
end Go.Proofs.YtdmpeecocfoocaaDoor.E
