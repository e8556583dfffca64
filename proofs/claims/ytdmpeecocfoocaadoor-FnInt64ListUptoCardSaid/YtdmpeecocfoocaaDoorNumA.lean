/- Plain law: a text with underscores that spec.without29 lets by is read by strconv.ParseUint as the same number, or by neither. No program in sight but the printed digits. -/
import Derived.Test.YtdmpeecocfoocaaDoorNum
namespace Go.Proofs.YtdmpeecocfoocaaDoor.E
open Go.RowKit Go.Proofs
open Go.Lib (NumEnd)
set_option linter.unusedVariables false
set_option linter.unusedSimpArgs false

/-- Without its underscores. -/
def bare (l : List UInt8) : List UInt8 := l.filter fun c => decide (¬ c.toNat = 95)
def hexS (l : List UInt8) : Prop := 2 ≤ l.length ∧ (l.getD 0 0).toNat = 48 ∧ ((l.getD 1 0).toNat = 120 ∨ (l.getD 1 0).toNat = 88)
def baseS (l : List UInt8) : Prop := 2 ≤ l.length ∧ (l.getD 0 0).toNat = 48 ∧ 10 ≤ digV 36 (l.getD 1 0).toNat
instance (l : List UInt8) : Decidable (hexS l) := by unfold hexS; infer_instance
instance (l : List UInt8) : Decidable (baseS l) := by unfold baseS; infer_instance
def decD (m : Nat) : Prop := 48 ≤ m ∧ m ≤ 57
instance (m : Nat) : Decidable (decD m) := by unfold decD; infer_instance
def aheadP (l : List UInt8) (i : Nat) : Prop := (0 < i ∧ decD (l.getD (i - 1) 0).toNat) ∨ (2 < i ∧ hexS l ∧ 0 ≤ digV 16 (l.getD (i - 1) 0).toNat) ∨ (i = 2 ∧ baseS l)
def behindP (l : List UInt8) (i : Nat) : Prop := i + 1 < l.length ∧ (decD (l.getD (i + 1) 0).toNat ∨ (hexS l ∧ 0 ≤ digV 16 (l.getD (i + 1) 0).toNat))
instance (l : List UInt8) (i : Nat) : Decidable (aheadP l i) := by unfold aheadP; infer_instance
instance (l : List UInt8) (i : Nat) : Decidable (behindP l i) := by unfold behindP; infer_instance
def good29 (l : List UInt8) (i : Nat) : Prop := (l.getD i 0).toNat = 95 → aheadP l i ∧ behindP l i
instance (l : List UInt8) (i : Nat) : Decidable (good29 l i) := by unfold good29; infer_instance
/-- Each underscore stands right. -/
def w29 (l : List UInt8) : Bool := (List.range l.length).all fun i => decide (good29 l i)
theorem w29_iff {l : List UInt8} : w29 l = true ↔ ∀ i, i < l.length → good29 l i := by
  unfold w29; rw [List.all_eq_true]; simp

theorem isD_16 : ∀ m : Fin 256, (isD true (m : Nat) ↔ decD (m : Nat) ∨ 0 ≤ digV 16 (m : Nat)) ∧ (isD false (m : Nat) ↔ decD (m : Nat)) := by decide +kernel
theorem isD_any (hex : Bool) (c : UInt8) : isD hex c.toNat ↔ decD c.toNat ∨ (hex = true ∧ 0 ≤ digV 16 c.toNat) := by
  have h := isD_16 ⟨c.toNat, c.toNat_lt⟩
  cases hex
  · rw [h.2]; simp
  · rw [h.1]; simp
theorem isD_95 (hex : Bool) : ¬ isD hex 95 := by cases hex <;> decide

/-- The same, going over a text from left to right; p: what stands ahead counts as a digit. -/
def nextD (hex : Bool) : List UInt8 → Bool
  | [] => false
  | c :: _ => decide (isD hex c.toNat)
def wS (hex : Bool) : Bool → List UInt8 → Bool
  | _, [] => true
  | p, c :: r => if c.toNat = 95 then p && nextD hex r && wS hex false r else wS hex (decide (isD hex c.toNat)) r

theorem uo_wS (hex : Bool) : ∀ l : List UInt8, uoScan hex 48 l = wS hex true l ∧ uoScan hex 33 l = wS hex false l ∧ uoScan hex 94 l = wS hex false l ∧ uoScan hex 95 l = (nextD hex l && wS hex false l)
  | [] => ⟨rfl, rfl, rfl, rfl⟩
  | c :: r => by
    obtain ⟨h1, h2, h3, h4⟩ := uo_wS hex r
    by_cases hd : isD hex c.toNat
    · have h95 : ¬ c.toNat = 95 := fun e => isD_95 hex (e ▸ hd)
      refine ⟨?_, ?_, ?_, ?_⟩ <;> simp only [uoScan, wS, nextD, if_pos hd, if_neg h95, decide_eq_true hd, h1, Bool.true_and]
    · by_cases h95 : c.toNat = 95
      · refine ⟨?_, ?_, ?_, ?_⟩ <;> simp [uoScan, wS, nextD, hd, h95, h4, isD_95]
      · refine ⟨?_, ?_, ?_, ?_⟩ <;> simp [uoScan, wS, nextD, hd, h95, h2]

theorem wS_iff (hex : Bool) : ∀ (r : List UInt8) (p : Bool), wS hex p r = true ↔ ∀ i, i < r.length → (r.getD i 0).toNat = 95 → (if i = 0 then p = true else isD hex (r.getD (i - 1) 0).toNat) ∧ (i + 1 < r.length ∧ isD hex (r.getD (i + 1) 0).toNat)
  | [], p => by simp [wS]
  | c :: r, p => by
    have ih := wS_iff hex r
    constructor
    · intro h i hi h95
      cases i with
      | zero =>
        have hc : c.toNat = 95 := by simpa using h95
        simp only [wS, if_pos hc, Bool.and_eq_true] at h
        refine ⟨by simpa using h.1.1, ?_⟩
        cases r with
        | nil => simp [nextD] at h
        | cons d s => simpa [nextD] using h.1.2
      | succ i =>
        have hr : i < r.length := by simpa using hi
        have h95' : (r.getD i 0).toNat = 95 := by simpa using h95
        by_cases hc : c.toNat = 95
        · simp only [wS, if_pos hc, Bool.and_eq_true] at h
          obtain ⟨a, b⟩ := (ih false).1 h.2 i hr h95'
          have hi0 : i ≠ 0 := by rintro rfl; simp at a
          rw [if_neg hi0] at a
          refine ⟨?_, by simpa using b⟩
          rw [if_neg (by omega)]
          have e : i + 1 - 1 = (i - 1) + 1 := by omega
          rw [e, List.getD_cons_succ]; exact a
        · simp only [wS, if_neg hc] at h
          obtain ⟨a, b⟩ := (ih _).1 h i hr h95'
          refine ⟨?_, by simpa using b⟩
          rw [if_neg (by omega)]
          by_cases hi0 : i = 0
          · subst hi0; simpa using a
          · rw [if_neg hi0] at a
            have e : i + 1 - 1 = (i - 1) + 1 := by omega
            rw [e, List.getD_cons_succ]; exact a
    · intro h
      have tailH : ∀ q : Bool, (∀ h0 : r.length > 0, (r.getD 0 0).toNat = 95 → (c.toNat = 95 → False) → q = true) → (c.toNat = 95 → nextD hex r = true) → wS hex q r = true := by
        intro q hq hn
        rw [ih]
        intro i hi h95
        obtain ⟨a, b⟩ := h (i + 1) (by simpa using hi) (by simpa using h95)
        refine ⟨?_, by simpa using b⟩
        rw [if_neg (by omega)] at a
        by_cases hi0 : i = 0
        · subst hi0
          rw [if_pos rfl]
          refine hq (by omega) h95 (fun hc => ?_)
          have : isD hex c.toNat := by simpa using a
          rw [hc] at this
          exact isD_95 hex this
        · rw [if_neg hi0]
          have e : i + 1 - 1 = (i - 1) + 1 := by omega
          rw [e, List.getD_cons_succ] at a; exact a
      by_cases hc : c.toNat = 95
      · obtain ⟨a, b⟩ := h 0 (by simp) (by simpa using hc)
        have hn : nextD hex r = true := by
          cases r with
          | nil => simp at b
          | cons d s => simpa [nextD] using b.2
        have hp : p = true := by simpa using a
        simp only [wS, if_pos hc, Bool.and_eq_true]
        exact ⟨⟨hp, hn⟩, tailH false (fun _ _ hf => (hf hc).elim) (fun _ => hn)⟩
      · simp only [wS, if_neg hc]
        refine tailH _ (fun h0 h95 _ => ?_) (fun e => (hc e).elim)
        obtain ⟨a, b⟩ := h 1 (by simpa using h0) (by simpa using h95)
        simpa using a

/-- The digits of a text, its underscores passed over. -/
theorem scan_some {B M : Nat} (hB : 0 < B) : ∀ (r : List UInt8) (acc n : Nat) (us : Bool), dOpt B M acc false (bare r) = some n → puScan B M acc us r = .ok (n, us || r.any fun c => decide (c.toNat = 95))
  | [], acc, n, us, h => by simp [bare, dOpt] at h; subst h; simp [puScan]
  | c :: r, acc, n, us, h => by
    by_cases hc : c.toNat = 95
    · have e : bare (c :: r) = bare r := by simp [bare, hc]
      rw [e] at h
      rw [puScan, if_pos hc, scan_some hB r acc n true h]
      simp [hc]
    · have e : bare (c :: r) = c :: bare r := by simp [bare, hc]
      rw [e, dOpt] at h
      split at h
      · cases h
      · rename_i hd
        obtain ⟨e1, e2, e3⟩ := digV_lt (b := B) (m := c.toNat) (by omega)
        split at h
        · have := (dOpt_some hB _ _ _ _ h).1; cases this
        · rename_i ho
          have h4 : ((dig0 c.toNat).toNat : Int) = dig0 c.toNat := by omega
          have h5 : (acc : Int) * (B : Int) = ((acc * B : Nat) : Int) := by simp
          have hnot : ¬ (M : Int) < (acc : Int) * (B : Int) + dig0 c.toNat := by
            rw [← h4, h5]
            have : ¬ M < acc * B + (digV B c.toNat).toNat := fun hh => ho (.inr hh)
            rw [e1] at this
            omega
          rw [puScan, if_neg hc, if_neg (by omega), if_neg hnot, ← e1, scan_some hB r _ n us h]
          simp [hc]

theorem dig0_ge (m : Nat) : -1 ≤ dig0 m := by unfold dig0; (repeat' split) <;> omega
theorem scan_none {B M : Nat} (hB : 0 < B) : ∀ (r : List UInt8) (acc : Nat) (us : Bool) (q : Nat × Bool), puScan B M acc us r = .ok q → dOpt B M acc false (bare r) = some q.1 ∧ q.2 = (us || r.any fun c => decide (c.toNat = 95))
  | [], acc, us, q, h => by rw [puScan] at h; cases h; simp [bare, dOpt]
  | c :: r, acc, us, q, h => by
    rw [puScan] at h
    split at h
    · rename_i hc
      have e : bare (c :: r) = bare r := by simp [bare, hc]
      obtain ⟨h1, h2⟩ := scan_none hB r _ _ q h
      rw [e]; exact ⟨h1, by rw [h2]; simp [hc]⟩
    · rename_i hc
      have e : bare (c :: r) = c :: bare r := by simp [bare, hc]
      split at h
      · cases h
      · rename_i hd
        split at h
        · cases h
        · rename_i hm
          have hge := dig0_ge c.toNat
          have e1 : digV B c.toNat = dig0 c.toNat := by unfold digV; rw [if_neg (by omega)]
          obtain ⟨h1, h2⟩ := scan_none hB r _ _ q h
          have h4 : ((dig0 c.toNat).toNat : Int) = dig0 c.toNat := by omega
          have h5 : (acc : Int) * (B : Int) = ((acc * B : Nat) : Int) := by simp
          rw [← h4, h5] at hm
          rw [e, dOpt, if_neg (by omega), e1, if_neg (by intro hh; rcases hh with hh | hh; (cases hh); omega)]
          exact ⟨h1, by rw [h2]; simp [hc]⟩

theorem wS_none (hex : Bool) : ∀ (r : List UInt8) (p : Bool), (r.any fun c => decide (c.toNat = 95)) = false → wS hex p r = true
  | [], p, _ => rfl
  | c :: r, p, h => by
    rw [List.any_cons, Bool.or_eq_false_iff] at h
    have hc : ¬ c.toNat = 95 := by simpa using h.1
    rw [wS, if_neg hc]
    exact wS_none hex r _ h.2

theorem wS_some (hex : Bool) : ∀ (r : List UInt8) (p : Bool), r ≠ [] → wS hex p r = true → bare r ≠ []
  | [], p, h, _ => (h rfl).elim
  | c :: r, p, _, h => by
    by_cases hc : c.toNat = 95
    · rw [wS, if_pos hc, Bool.and_eq_true, Bool.and_eq_true] at h
      cases r with
      | nil => simp [nextD] at h
      | cons d s =>
        have hd : isD hex d.toNat := by simpa [nextD] using h.1.2
        have : ¬ d.toNat = 95 := fun e => isD_95 hex (e ▸ hd)
        simp [bare, hc, this]
    · simp [bare, hc]

/-- What spec.Natural says of any text, of numbers up to M. -/
def natA (M : Nat) (l : List UInt8) : Option Nat :=
  if w29 l = true then (if (bare l).drop (preS (bare l)).2 = [] then none else dOpt (preS (bare l)).1 M 0 false ((bare l).drop (preS (bare l)).2)) else none

theorem natA_core {M B k : Nat} {l : List UInt8} (hl : l ≠ []) (hp : preB l = (B, k)) (hB : 0 < B) (hu : uok l = w29 l) (hany : w29 l = false → ((l.drop k).any fun c => decide (c.toNat = 95)) = true)
    (hbare : w29 l = true → bare (l.drop k) ≠ [] ∧ (bare l).drop (preS (bare l)).2 = bare (l.drop k) ∧ (preS (bare l)).1 = B) (n : Nat) : natA M l = some n ↔ puV M l = .ok n := by
  unfold natA puV
  rw [if_neg hl, hp]
  cases hw : w29 l with
  | true =>
    obtain ⟨h1, h2, h3⟩ := hbare hw
    rw [if_pos rfl, h2, h3, if_neg h1, hu, hw]
    constructor
    · intro h
      rw [scan_some hB _ _ _ _ h]
      simp [puEnd]
    · intro h
      cases hq : puScan B M 0 false (l.drop k) with
      | ok q =>
        rw [hq] at h
        obtain ⟨a, b⟩ := q
        have : n = a := by simp [puEnd] at h; exact h.symm
        subst this
        exact (scan_none hB _ _ _ _ hq).1
      | range => rw [hq] at h; cases h
      | _ => rw [hq] at h; cases h
  | false =>
    rw [if_neg (by simp), hu, hw]
    constructor
    · intro h; cases h
    · intro h
      cases hq : puScan B M 0 false (l.drop k) with
      | ok q =>
        rw [hq] at h
        obtain ⟨a, b⟩ := q
        have h2 := (scan_none hB _ _ _ _ hq).2
        rw [hany hw] at h2
        simp at h2
        subst h2
        simp [puEnd] at h
      | range => rw [hq] at h; cases h
      | _ => rw [hq] at h; cases h

/-- Without a prefix that tells hexadecimal digits, and without another letter behind 0. -/
theorem w29_flat {l : List UInt8} (hh : ¬ hexS l) (hb : ¬ baseS l) : w29 l = wS false false l := by
  rw [Bool.eq_iff_iff, w29_iff, wS_iff]
  refine forall_congr' fun i => forall_congr' fun hi => ?_
  unfold good29 aheadP behindP
  refine forall_congr' fun h95 => ?_
  have e : ∀ m, isD false m ↔ decD m := fun m => by unfold isD decD; simp
  simp only [e, hh, hb, false_and, and_false, or_false]
  by_cases h0 : i = 0
  · simp [h0]
  · rw [if_neg h0]
    simp [show 0 < i by omega]

theorem any_of {hex p : Bool} {r : List UInt8} (h : wS hex p r = false) : (r.any fun c => decide (c.toNat = 95)) = true := by
  cases ha : r.any fun c => decide (c.toNat = 95) with
  | true => rfl
  | false => rw [wS_none hex r p ha] at h; cases h

theorem box_facts : ∀ m : Fin 256, ((m : Nat) = 98 ∨ (m : Nat) = 66 ∨ (m : Nat) = 111 ∨ (m : Nat) = 79 ∨ (m : Nat) = 120 ∨ (m : Nat) = 88 → 10 ≤ digV 36 (m : Nat) ∧ ¬ decD (m : Nat) ∧ ¬ (m : Nat) = 95 ∧ digV 8 (m : Nat) < 0) ∧ (0 ≤ digV 8 (m : Nat) → ¬ 10 ≤ digV 36 (m : Nat) ∧ ¬ (m : Nat) = 95) ∧ ¬ 10 ≤ digV 36 95 := by decide +kernel

theorem natA_pre {M B : Nat} (c0 c1 c2 : UInt8) (r : List UInt8) (h0 : c0.toNat = 48) (h1 : (B = 2 ∧ (c1.toNat = 98 ∨ c1.toNat = 66)) ∨ (B = 8 ∧ (c1.toNat = 111 ∨ c1.toNat = 79)) ∨ (B = 16 ∧ (c1.toNat = 120 ∨ c1.toNat = 88))) (n : Nat) :
    natA M (c0 :: c1 :: c2 :: r) = some n ↔ puV M (c0 :: c1 :: c2 :: r) = .ok n := by
  have hbox : c1.toNat = 98 ∨ c1.toNat = 66 ∨ c1.toNat = 111 ∨ c1.toNat = 79 ∨ c1.toNat = 120 ∨ c1.toNat = 88 := by omega
  obtain ⟨g1, g2, g3, g4⟩ := (box_facts ⟨c1.toNat, c1.toNat_lt⟩).1 hbox
  simp only at g1 g2 g3 g4
  have hlow := lowB_is ⟨c1.toNat, c1.toNat_lt⟩
  simp only at hlow
  obtain ⟨l1, l2, l3⟩ := hlow
  have hpre : ∀ l : List UInt8, l ≠ [] → preB (c0 :: c1 :: l) = (B, 2) := by
    intro l hl
    have : 3 ≤ (c0 :: c1 :: l).length := by have := List.length_pos_iff.2 hl; simp; omega
    unfold preB
    simp only [List.getD_cons_zero, List.getD_cons_succ]
    rw [if_pos h0]
    rcases h1 with ⟨rfl, h1⟩ | ⟨rfl, h1⟩ | ⟨rfl, h1⟩
    · rw [if_pos ⟨this, h1⟩]
    · rw [if_neg (by omega), if_pos ⟨this, h1⟩]
    · rw [if_neg (by omega), if_neg (by omega), if_pos ⟨this, h1⟩]
  have hB : 0 < B := by omega
  have hu : uok (c0 :: c1 :: c2 :: r) = wS (decide (lowB c1.toNat = 120)) true (c2 :: r) := by
    unfold uok
    simp only [List.getD_cons_zero, List.getD_cons_succ]
    rw [if_pos ⟨h0, by simp, by omega⟩]
    exact (uo_wS _ _).1
  have hhex : hexS (c0 :: c1 :: c2 :: r) ↔ lowB c1.toNat = 120 := by
    unfold hexS
    simp only [List.getD_cons_zero, List.getD_cons_succ]
    rw [l3]
    exact ⟨fun h => h.2.2, fun h => ⟨by simp, h0, h⟩⟩
  have hbase : baseS (c0 :: c1 :: c2 :: r) := ⟨by simp, by simpa using h0, by simpa using g1⟩
  have hw : w29 (c0 :: c1 :: c2 :: r) = wS (decide (lowB c1.toNat = 120)) true (c2 :: r) := by
    rw [Bool.eq_iff_iff, w29_iff, wS_iff]
    have key : ∀ i, i + 2 < (c0 :: c1 :: c2 :: r).length → (good29 (c0 :: c1 :: c2 :: r) (i + 2) ↔ (((c2 :: r).getD i 0).toNat = 95 → (if i = 0 then true = true else isD (decide (lowB c1.toNat = 120)) ((c2 :: r).getD (i - 1) 0).toNat) ∧ (i + 1 < (c2 :: r).length ∧ isD (decide (lowB c1.toNat = 120)) ((c2 :: r).getD (i + 1) 0).toNat))) := by
      intro i hi
      unfold good29 aheadP behindP
      have e1 : (c0 :: c1 :: c2 :: r).getD (i + 2) 0 = (c2 :: r).getD i 0 := by simp only [List.getD_cons_succ]
      have e2 : (c0 :: c1 :: c2 :: r).getD (i + 2 + 1) 0 = (c2 :: r).getD (i + 1) 0 := by simp only [List.getD_cons_succ]
      rw [e1, e2]
      refine forall_congr' fun h95 => ?_
      have hlen : (i + 2 + 1 < (c0 :: c1 :: c2 :: r).length) ↔ (i + 1 < (c2 :: r).length) := by simp
      rw [hlen, isD_any, isD_any, hhex]
      simp only [decide_eq_true_eq]
      by_cases hi0 : i = 0
      · subst hi0
        simp [hbase]
      · rw [if_neg hi0]
        have e3 : (c0 :: c1 :: c2 :: r).getD (i + 2 - 1) 0 = (c2 :: r).getD (i - 1) 0 := by
          have : i + 2 - 1 = (i - 1) + 2 := by omega
          rw [this]; simp only [List.getD_cons_succ]
        rw [e3]
        have a1 : 0 < i + 2 := by omega
        have a2 : 2 < i + 2 := by omega
        have a3 : ¬ i + 2 = 2 := by omega
        simp only [a1, a2, a3, true_and, false_and, or_false]
    constructor
    · intro h i hi
      exact (key i (by simpa using hi)).1 (h (i + 2) (by simpa using hi))
    · intro h i hi
      match i with
      | 0 => intro e; simp only [List.getD_cons_zero] at e; omega
      | 1 => intro e; simp only [List.getD_cons_zero, List.getD_cons_succ] at e; omega
      | i + 2 => exact (key i hi).2 (h i (by simpa using hi))
  refine natA_core (by simp) (hpre _ (by simp)) hB (by rw [hu, hw]) (fun hf => ?_) (fun ht => ?_) n
  · rw [hw] at hf; exact any_of hf
  · rw [hw] at ht
    have hne := wS_some _ _ _ (by simp) ht
    have e : bare (c0 :: c1 :: c2 :: r) = c0 :: c1 :: bare (c2 :: r) := by
      unfold bare
      rw [List.filter_cons_of_pos (by simp; omega), List.filter_cons_of_pos (by simpa using g3)]
    have e2 : preS (c0 :: c1 :: bare (c2 :: r)) = (B, 2) := by
      unfold preS; rw [if_neg (by simp)]; exact hpre _ hne
    rw [e, e2]
    exact ⟨hne, rfl, rfl⟩

theorem natA_zero {M : Nat} (c0 c1 : UInt8) (r : List UInt8) (h0 : c0.toNat = 48) (h1 : r ≠ [] → ¬ (c1.toNat = 98 ∨ c1.toNat = 66 ∨ c1.toNat = 111 ∨ c1.toNat = 79 ∨ c1.toNat = 120 ∨ c1.toNat = 88)) (n : Nat) :
    natA M (c0 :: c1 :: r) = some n ↔ puV M (c0 :: c1 :: r) = .ok n := by
  have hpre : ∀ (d : UInt8) (l : List UInt8), (l ≠ [] → ¬ (d.toNat = 98 ∨ d.toNat = 66 ∨ d.toNat = 111 ∨ d.toNat = 79 ∨ d.toNat = 120 ∨ d.toNat = 88)) → preB (c0 :: d :: l) = (8, 1) := by
    intro d l hd
    have hlen : 3 ≤ (c0 :: d :: l).length → l ≠ [] := by intro h e; subst e; simp at h
    unfold preB
    simp only [List.getD_cons_zero, List.getD_cons_succ]
    rw [if_pos h0, if_neg (fun h => hd (hlen h.1) (by omega)), if_neg (fun h => hd (hlen h.1) (by omega)), if_neg (fun h => hd (hlen h.1) (by omega))]
  have hf := box_facts ⟨c1.toNat, c1.toNat_lt⟩
  simp only at hf
  obtain ⟨f1, f2, f3⟩ := hf
  have hc0 : ¬ c0.toNat = 95 := by omega
  have hb0 : bare (c0 :: c1 :: r) = c0 :: bare (c1 :: r) := by
    unfold bare; rw [List.filter_cons_of_pos (by simpa using hc0)]
  by_cases hbad : ¬ c1.toNat = 95 ∧ digV 8 c1.toNat < 0
  · have e : bare (c0 :: c1 :: r) = c0 :: c1 :: bare r := by
      rw [hb0]; unfold bare; rw [List.filter_cons_of_pos (by simpa using hbad.1)]
    have hn : natA M (c0 :: c1 :: r) = none := by
      unfold natA
      split
      · rw [e]
        have e2 : preS (c0 :: c1 :: bare r) = (8, 1) := by
          unfold preS; rw [if_neg (by simp)]
          exact hpre _ _ (fun hne => h1 (by intro e3; subst e3; exact hne rfl))
        rw [e2]
        simp only [List.drop_succ_cons, List.drop_zero]
        rw [if_neg (by simp), dOpt, if_pos hbad.2]
      · rfl
    have hp : ∀ n, puV M (c0 :: c1 :: r) ≠ .ok n := by
      intro n h
      unfold puV at h
      rw [if_neg (by simp), hpre _ _ h1] at h
      simp only [List.drop_succ_cons, List.drop_zero] at h
      have hge := dig0_ge c1.toNat
      have : dig0 c1.toNat = -1 ∨ ((8 : Nat) : Int) ≤ dig0 c1.toNat := by
        have := hbad.2; unfold digV at this; split at this <;> omega
      rw [puScan, if_neg hbad.1, if_pos this] at h
      simp [puEnd] at h
    rw [hn]
    exact ⟨fun h => (by cases h), fun h => (hp n h).elim⟩
  · have hok : c1.toNat = 95 ∨ 0 ≤ digV 8 c1.toNat := by omega
    have hnb : ¬ (c1.toNat = 98 ∨ c1.toNat = 66 ∨ c1.toNat = 111 ∨ c1.toNat = 79 ∨ c1.toNat = 120 ∨ c1.toNat = 88) := by
      intro h
      have := f1 h
      omega
    have hhex : ¬ hexS (c0 :: c1 :: r) := by
      rintro ⟨_, _, h⟩
      simp only [List.getD_cons_zero, List.getD_cons_succ] at h
      omega
    have hbase : ¬ baseS (c0 :: c1 :: r) := by
      rintro ⟨_, _, h⟩
      simp only [List.getD_cons_zero, List.getD_cons_succ] at h
      rcases hok with h5 | h5
      · rw [h5] at h; exact f3 h
      · exact (f2 h5).1 h
    have hw := w29_flat hhex hbase
    have hlow := lowB_is ⟨c1.toNat, c1.toNat_lt⟩
    simp only at hlow
    have hu : uok (c0 :: c1 :: r) = wS false false (c0 :: c1 :: r) := by
      unfold uok
      rw [if_neg (by simp only [List.getD_cons_zero, List.getD_cons_succ]; omega)]
      exact (uo_wS _ _).2.2.1
    have hstep : wS false false (c0 :: c1 :: r) = wS false true (c1 :: r) := by
      rw [wS, if_neg hc0, decide_eq_true (show isD false c0.toNat by left; omega)]
    refine natA_core (by simp) (hpre _ _ h1) (by omega) (by rw [hu, hw]) (fun hfalse => ?_) (fun htrue => ?_) n
    · rw [hw, hstep] at hfalse; exact any_of hfalse
    · rw [hw, hstep] at htrue
      have hne : bare (c1 :: r) ≠ [] := wS_some _ _ _ (by simp) htrue
      have e1 : (c0 :: c1 :: r).drop 1 = c1 :: r := rfl
      rw [e1, hb0]
      obtain ⟨d, s, hds⟩ := List.exists_cons_of_ne_nil hne
      have hd : ¬ (d.toNat = 98 ∨ d.toNat = 66 ∨ d.toNat = 111 ∨ d.toNat = 79 ∨ d.toNat = 120 ∨ d.toNat = 88) := by
        by_cases h95 : c1.toNat = 95
        · rw [wS, if_pos h95, Bool.and_eq_true, Bool.and_eq_true] at htrue
          cases r with
          | nil => simp [nextD] at htrue
          | cons x y =>
            have hx : isD false x.toNat := by simpa [nextD] using htrue.1.2
            have hxd : 48 ≤ x.toNat ∧ x.toNat ≤ 57 := by unfold isD at hx; simpa using hx
            have : bare (c1 :: x :: y) = x :: bare y := by
              unfold bare
              rw [List.filter_cons_of_neg (by simpa using h95), List.filter_cons_of_pos (by simp; omega)]
            rw [this] at hds
            cases hds
            omega
        · have : bare (c1 :: r) = c1 :: bare r := by unfold bare; rw [List.filter_cons_of_pos (by simpa using h95)]
          rw [this] at hds
          cases hds
          exact hnb
      rw [hds]
      have e2 : preS (c0 :: d :: s) = (8, 1) := by
        unfold preS; rw [if_neg (by simp)]; exact hpre _ _ (fun _ => hd)
      rw [e2]
      exact ⟨by simp, rfl, rfl⟩

theorem natA_ten {M : Nat} (c0 : UInt8) (r : List UInt8) (h0 : ¬ c0.toNat = 48) (n : Nat) : natA M (c0 :: r) = some n ↔ puV M (c0 :: r) = .ok n := by
  have hpre : ∀ l, preB (c0 :: l) = (10, 0) := by intro l; unfold preB; rw [if_neg (by simpa using h0)]
  have hhex : ¬ hexS (c0 :: r) := by rintro ⟨_, h, _⟩; exact h0 (by simpa using h)
  have hbase : ¬ baseS (c0 :: r) := by rintro ⟨_, h, _⟩; exact h0 (by simpa using h)
  have hw := w29_flat hhex hbase
  have hu : uok (c0 :: r) = wS false false (c0 :: r) := by
    unfold uok
    rw [if_neg (fun h => h0 (by simpa using h.1))]
    exact (uo_wS _ _).2.2.1
  refine natA_core (by simp) (hpre _) (by omega) (by rw [hu, hw]) (fun hf => ?_) (fun ht => ?_) n
  · rw [hw] at hf; exact any_of hf
  · rw [hw] at ht
    have h95 : ¬ c0.toNat = 95 := by intro e; rw [wS, if_pos e] at ht; simp at ht
    have e : bare (c0 :: r) = c0 :: bare r := by unfold bare; rw [List.filter_cons_of_pos (by simpa using h95)]
    have e2 : preS (c0 :: bare r) = (10, 0) := by
      unfold preS; split
      · rfl
      · exact hpre _
    show bare (c0 :: r) ≠ [] ∧ (bare (c0 :: r)).drop _ = bare (c0 :: r) ∧ _
    rw [e, e2]
    exact ⟨by simp, rfl, rfl⟩

/-- What spec.Natural says and what strconv.ParseUint says are one. -/
theorem natA_pu {M : Nat} (l : List UInt8) (n : Nat) : natA M l = some n ↔ puV M l = .ok n := by
  match l with
  | [] => exact ⟨fun h => by simp [natA, w29, bare, preS, preB] at h, fun h => by simp [puV] at h⟩
  | [c0] =>
    by_cases h0 : c0.toNat = 48
    · have e1 : natA M [c0] = some 0 := by
        have h95 : ¬ c0.toNat = 95 := by omega
        have hd : digV 10 48 = 0 := by decide
        simp [natA, w29, bare, preS, good29, h95, dOpt, h0, hd]
      have e2 : puV M [c0] = .ok 0 := by
        simp [puV, preB, h0, puScan, puEnd]
      rw [e1, e2]
      simp
    · exact natA_ten c0 [] h0 n
  | [c0, c1] =>
    by_cases h0 : c0.toNat = 48
    · exact natA_zero c0 c1 [] h0 (fun h => (h rfl).elim) n
    · exact natA_ten c0 _ h0 n
  | c0 :: c1 :: c2 :: r =>
    by_cases h0 : c0.toNat = 48
    · by_cases hb : c1.toNat = 98 ∨ c1.toNat = 66
      · exact natA_pre (B := 2) c0 c1 c2 r h0 (.inl ⟨rfl, hb⟩) n
      by_cases ho : c1.toNat = 111 ∨ c1.toNat = 79
      · exact natA_pre (B := 8) c0 c1 c2 r h0 (.inr (.inl ⟨rfl, ho⟩)) n
      by_cases hx : c1.toNat = 120 ∨ c1.toNat = 88
      · exact natA_pre (B := 16) c0 c1 c2 r h0 (.inr (.inr ⟨rfl, hx⟩)) n
      exact natA_zero c0 c1 _ h0 (fun _ => by omega) n
    · exact natA_ten c0 _ h0 n
end Go.Proofs.YtdmpeecocfoocaaDoor.E
