/- The printed readers of the laws of parsing, in plain words: sizes, lists behind one another, sameness. -/
import Derived.Test.YtgmhhdpggnmipaaKit
import Derived.Test.YtgmhhdpggnmipaaPQx2
import Derived.Test.YtgmhhdpggnmipaaPQx3
import Derived.Test.YtgmhhdpggnmipaaPQx4
namespace Go.Proofs.Ytgmhhdpggnmipaa.E
open Go.RowKit Go.Proofs
open Go.Proofs.Ytgmhhdpggnmipaa.PQ Go.Proofs.YtgmhhdpggnmipaaW.PrintWords Go.Proofs.YtgmhhdpggnmipaaW.PrintLast
set_option linter.unusedVariables false
set_option linter.unusedSimpArgs false

theorem wrapN {i : Nat} (h : i < 9223372036854775807) : wrap64 ((i : Int) + 1) = ((i + 1 : Nat) : Int) := by unfold wrap64; omega
theorem getD_at {α : Type} (d : α) {l : List α} {i : Nat} (h : i < l.length) : l.getD i d = l[i] := by simp [List.getD, List.getElem?_eq_getElem h]
theorem rdOf_nat (xs : List ByteArray) {i : Nat} (h : i < xs.length) : rdOf ByteArray.empty xs (i : Int) = xs[i] := by
  unfold rdOf; rw [Int.toNat_natCast, getD_at _ h]
/-- Are texts no longer, and no more, than the statements speak of? -/
def fits2 (xs : List ByteArray) : Bool := decide (xs.length ≤ 2147483647) && xs.all fun x => decide (x.size ≤ 2147483647)
theorem fits2_iff {xs : List ByteArray} : fits2 xs = true ↔ xs.length ≤ 2147483647 ∧ ∀ x ∈ xs, x.size ≤ 2147483647 := by
  unfold fits2; simp
theorem fits2_from (xs : List ByteArray) (hn : xs.length ≤ 2147483647) : ∀ (d i k : Nat), xs.length - i = d → i ≤ xs.length → d < k → laws_zzFits2.l0 k xs (xs.length : Int) (i : Int) = some ((xs.drop i).all fun x => decide (x.size ≤ 2147483647)) := by
  intro d
  induction d with
  | zero =>
    intro i k hd hi hk
    obtain ⟨k, rfl⟩ : ∃ m, k = m + 1 := ⟨k - 1, by omega⟩
    simp only [laws_zzFits2.l0]
    rw [if_neg (by omega), List.drop_eq_nil_of_le (by omega)]; rfl
  | succ d ih =>
    intro i k hd hi hk
    obtain ⟨k, rfl⟩ : ∃ m, k = m + 1 := ⟨k - 1, by omega⟩
    have hlt : i < xs.length := by omega
    simp only [laws_zzFits2.l0]
    rw [if_pos (by omega), if_pos (by omega), if_pos (by omega), rdOf_nat xs hlt, List.drop_eq_getElem_cons hlt, List.all_cons]
    by_cases h : xs[i].size ≤ 2147483647
    · rw [if_neg (by omega), wrapN (by omega), ih (i + 1) k (by omega) (by omega) (by omega), decide_eq_true h]; rfl
    · rw [if_pos (by omega), decide_eq_false h]; rfl
theorem fits2_f (xs : List ByteArray) (k : Nat) (hk : xs.length < k) : laws_zzFits2.f k xs = some (fits2 xs) := by
  unfold laws_zzFits2.f fits2
  by_cases h : xs.length ≤ 2147483647
  · rw [if_neg (by omega), decide_eq_true h]
    exact fits2_from xs h xs.length 0 k (by omega) (by omega) hk
  · rw [if_pos (by omega), decide_eq_false h]; rfl
def fits21 (x : S47) : Bool := decide (x.f0.size ≤ 2147483647) && (decide (x.f1.size ≤ 2147483647) && (decide (x.f2.size ≤ 2147483647) && fits2 x.f3))
theorem fits21_f (x : S47) (k : Nat) (hk : x.f3.length < k) : laws_zzFits21.f k x.f0 x.f1 x.f2 x.f3 = some (fits21 x) := by
  unfold laws_zzFits21.f fits21
  by_cases h0 : x.f0.size ≤ 2147483647
  · rw [if_neg (by omega), decide_eq_true h0]
    by_cases h1 : x.f1.size ≤ 2147483647
    · rw [if_neg (by omega), decide_eq_true h1]
      by_cases h2 : x.f2.size ≤ 2147483647
      · rw [if_neg (by omega), decide_eq_true h2, fits2_f x.f3 k hk]
        cases fits2 x.f3 <;> rfl
      · rw [if_pos (by omega), decide_eq_false h2]; rfl
    · rw [if_pos (by omega), decide_eq_false h1]; rfl
  · rw [if_pos (by omega), decide_eq_false h0]; rfl
def fits20 (xs : List S47) : Bool := decide (xs.length ≤ 2147483647) && xs.all fits21
theorem rdT_nat (xs : List S47) {i : Nat} (h : i < xs.length) : rd_T47 xs (i : Int) = xs[i] := by
  unfold rd_T47; rw [Int.toNat_natCast, getD_at _ h]
theorem fits20_from (xs : List S47) (hn : xs.length ≤ 2147483647) (M : Nat) (hM : ∀ x ∈ xs, x.f3.length < M) : ∀ (d i k : Nat), xs.length - i = d → i ≤ xs.length → d + M < k → laws_zzFits20.l0 k xs (xs.length : Int) (i : Int) = some ((xs.drop i).all fits21) := by
  intro d
  induction d with
  | zero =>
    intro i k hd hi hk
    obtain ⟨k, rfl⟩ : ∃ m, k = m + 1 := ⟨k - 1, by omega⟩
    simp only [laws_zzFits20.l0]
    rw [if_neg (by omega), List.drop_eq_nil_of_le (by omega)]; rfl
  | succ d ih =>
    intro i k hd hi hk
    obtain ⟨k, rfl⟩ : ∃ m, k = m + 1 := ⟨k - 1, by omega⟩
    have hlt : i < xs.length := by omega
    have hl := hM xs[i] (List.getElem_mem hlt)
    simp only [laws_zzFits20.l0]
    rw [if_pos (by omega), if_pos (by omega), if_pos (by omega), rdT_nat xs hlt, List.drop_eq_getElem_cons hlt, List.all_cons, fits21_f xs[i] k (by omega)]
    simp only [Option.bind_some]
    by_cases h : fits21 xs[i] = true
    · rw [if_pos h, wrapN (by omega), ih (i + 1) k (by omega) (by omega) (by omega), h]; rfl
    · rw [if_neg h]
      have h : fits21 xs[i] = false := by simpa using h
      rw [h]; rfl
theorem fits20_f (xs : List S47) (M : Nat) (hM : ∀ x ∈ xs, x.f3.length < M) : laws_zzFits20.f (xs.length + M + 1) xs = some (fits20 xs) := by
  unfold laws_zzFits20.f fits20
  by_cases h : xs.length ≤ 2147483647
  · rw [if_neg (by omega), decide_eq_true h]
    exact fits20_from xs h M hM xs.length 0 _ (by omega) (by omega) (by omega)
  · rw [if_pos (by omega), decide_eq_false h]; rfl
theorem most_rows (xs : List S47) : ∃ M, ∀ x ∈ xs, x.f3.length < M := by
  induction xs with
  | nil => exact ⟨0, by simp⟩
  | cons a r ih =>
    obtain ⟨M, h⟩ := ih
    refine ⟨M + a.f3.length + 1, fun x hx => ?_⟩
    rcases List.mem_cons.1 hx with rfl | hx
    · omega
    · have := h x hx; omega
theorem fits19_f (xs : List S47) (p q : Bool) (f : Int) : ∃ k, laws_zzFits19.f k xs p q f = some (fits20 xs) := by
  obtain ⟨M, hM⟩ := most_rows xs
  refine ⟨xs.length + M + 1, ?_⟩
  unfold laws_zzFits19.f
  rw [fits20_f xs M hM]
  cases fits20 xs <;> rfl

/-! ### lists of texts, one behind the other -/
/-- How much texts weigh. -/
def wtB : List ByteArray → Nat
  | [] => 0
  | x :: r => 1 + x.size + wtB r
def wtBB : List (List ByteArray) → Nat
  | [] => 0
  | x :: r => wtB x + wtBB r
def needR : List (List ByteArray) → Nat
  | [] => 1
  | x :: r => x.length + 2 + needR r
theorem rdL_nat (xs : List (List ByteArray)) {i : Nat} (h : i < xs.length) : rd_L1 xs (i : Int) = xs[i] := by
  unfold rd_L1; rw [Int.toNat_natCast, getD_at _ h]
theorem fits14_in (ls : List (List ByteArray)) (j : Nat) (xs : List ByteArray) (hs : ∀ x ∈ xs, x.size ≤ 2147483647) (hl : xs.length ≤ 2147483647) (n : Nat) : ∀ (d i m k : Nat), xs.length - i = d → i ≤ xs.length → m ≤ 1048576 →
    laws_fits14.l1 (d + 1 + k) (m : Int) ls (n : Int) (j : Int) xs (xs.length : Int) (i : Int) = if m + wtB (xs.drop i) ≤ 1048576 then laws_fits14.l0 k ((m + wtB (xs.drop i) : Nat) : Int) ls (n : Int) (wrap64 ((j : Int) + 1)) else some false := by
  intro d
  induction d with
  | zero =>
    intro i m k hd hi hm
    rw [Nat.zero_add, Nat.add_comm 1 k]
    simp only [laws_fits14.l1]
    have hw : wtB (xs.drop i) = 0 := by rw [List.drop_eq_nil_of_le (by omega)]; rfl
    rw [if_neg (by omega), hw, Nat.add_zero, if_pos hm]
  | succ d ih =>
    intro i m k hd hi hm
    have hlt : i < xs.length := by omega
    have hx := hs xs[i] (List.getElem_mem hlt)
    rw [show d + 1 + 1 + k = (d + 1 + k) + 1 by omega]
    simp only [laws_fits14.l1]
    rw [if_pos (by omega), if_pos (by omega), if_pos (by omega), rdOf_nat xs hlt]
    have hw : wtB (xs.drop i) = 1 + xs[i].size + wtB (xs.drop (i + 1)) := by rw [List.drop_eq_getElem_cons hlt]; rfl
    have e1 : wrap64 (1 + (xs[i].size : Int)) = ((1 + xs[i].size : Nat) : Int) := by unfold wrap64; omega
    have e2 : wrap64 ((m : Int) + ((1 + xs[i].size : Nat) : Int)) = ((m + (1 + xs[i].size) : Nat) : Int) := by unfold wrap64; omega
    rw [e1, e2, hw]
    by_cases h : m + (1 + xs[i].size) ≤ 1048576
    · rw [if_neg (by omega), wrapN (by omega), ih (i + 1) _ k (by omega) (by omega) h]
      rw [show m + (1 + xs[i].size) + wtB (xs.drop (i + 1)) = m + (1 + xs[i].size + wtB (xs.drop (i + 1))) by omega]
    · rw [if_pos (by omega), if_neg (by omega)]
theorem fits14_from (ls : List (List ByteArray)) (hn : ls.length ≤ 2147483647) (hs : ∀ xs ∈ ls, xs.length ≤ 2147483647 ∧ ∀ x ∈ xs, x.size ≤ 2147483647) : ∀ (d j m e : Nat), ls.length - j = d → j ≤ ls.length → m ≤ 1048576 →
    laws_fits14.l0 (needR (ls.drop j) + e) (m : Int) ls (ls.length : Int) (j : Int) = some (decide (m + wtBB (ls.drop j) ≤ 1048576)) := by
  intro d
  induction d with
  | zero =>
    intro j m e hd hj hm
    have hn0 : needR (ls.drop j) = 1 := by rw [List.drop_eq_nil_of_le (by omega)]; rfl
    have hw0 : wtBB (ls.drop j) = 0 := by rw [List.drop_eq_nil_of_le (by omega)]; rfl
    rw [hn0, hw0, Nat.add_comm 1 e]
    simp only [laws_fits14.l0]
    rw [if_neg (by omega), decide_eq_true (by omega)]
  | succ d ih =>
    intro j m e hd hj hm
    have hlt : j < ls.length := by omega
    obtain ⟨h1, h2⟩ := hs ls[j] (List.getElem_mem hlt)
    have hn0 : needR (ls.drop j) = ls[j].length + 2 + needR (ls.drop (j + 1)) := by rw [List.drop_eq_getElem_cons hlt]; rfl
    have hw0 : wtBB (ls.drop j) = wtB ls[j] + wtBB (ls.drop (j + 1)) := by rw [List.drop_eq_getElem_cons hlt]; rfl
    rw [hn0, hw0]
    rw [show ls[j].length + 2 + needR (ls.drop (j + 1)) + e = (ls[j].length + 1 + (needR (ls.drop (j + 1)) + e)) + 1 by omega]
    simp only [laws_fits14.l0]
    rw [if_pos (by omega), if_pos (by omega), if_pos (by omega), rdL_nat ls hlt]
    have h := fits14_in ls j ls[j] h2 h1 ls.length ls[j].length 0 m (needR (ls.drop (j + 1)) + e) (by omega) (by omega) hm
    rw [List.drop_zero] at h
    have h0 : ((0 : Nat) : Int) = (0 : Int) := rfl
    rw [h0] at h
    rw [h]
    by_cases hw : m + wtB ls[j] ≤ 1048576
    · rw [if_pos hw, wrapN (by omega), ih (j + 1) _ e (by omega) (by omega) hw]
      rw [Nat.add_assoc]
    · rw [if_neg hw, decide_eq_false (by omega)]
theorem fits14_f (ls : List (List ByteArray)) (hn : ls.length ≤ 2147483647) (hs : ∀ xs ∈ ls, xs.length ≤ 2147483647 ∧ ∀ x ∈ xs, x.size ≤ 2147483647) : laws_fits14.f (needR ls) ls = some (decide (wtBB ls ≤ 1048576)) := by
  have h := fits14_from ls hn hs ls.length 0 0 0 (by omega) (by omega) (by omega)
  rw [List.drop_zero, Nat.zero_add] at h
  exact h
theorem len_wtB (xs : List ByteArray) : xs.length ≤ wtB xs := by
  induction xs with
  | nil => simp [wtB]
  | cons x r ih => simp only [wtB, List.length_cons]; omega
theorem wtB_mem {xs : List ByteArray} {x : ByteArray} (h : x ∈ xs) : 1 + x.size ≤ wtB xs := by
  induction xs with
  | nil => simp at h
  | cons y r ih =>
    simp only [wtB]
    rcases List.mem_cons.1 h with rfl | h
    · omega
    · have := ih h; omega
theorem wtB_app (a b : List ByteArray) : wtB (a ++ b) = wtB a + wtB b := by
  induction a with
  | nil => simp [wtB]
  | cons x r ih => simp only [List.cons_append, wtB, ih]; omega
theorem list14_from (ls : List (List ByteArray)) (hn : ls.length ≤ 2147483647) (hb : (ls.flatten).length < 8796093022208) : ∀ (d j : Nat), ls.length - j = d → j ≤ ls.length →
    laws_list14.l0 (d + 1) ((ls.take j).flatten) ls (ls.length : Int) (j : Int) = some ls.flatten := by
  intro d
  induction d with
  | zero =>
    intro j hd hj
    simp only [laws_list14.l0]
    rw [if_neg (by omega), List.take_of_length_le (by omega)]
  | succ d ih =>
    intro j hd hj
    have hlt : j < ls.length := by omega
    simp only [laws_list14.l0]
    have e : (ls.take j).flatten ++ ls[j] = (ls.take (j + 1)).flatten := by rw [List.take_succ_eq_append_getElem hlt, List.flatten_append]; simp
    have hl : ((ls.take (j + 1)).flatten).length ≤ ls.flatten.length := by
      conv => rhs; rw [← List.take_append_drop (j + 1) ls]
      rw [List.flatten_append, List.length_append]; omega
    have hl2 : ((ls.take j).flatten).length + ls[j].length = ((ls.take (j + 1)).flatten).length := by rw [← e, List.length_append]
    rw [if_pos (by omega), if_pos (by omega), if_pos (by omega), rdL_nat ls hlt, if_pos (by omega), e, wrapN (by omega)]
    exact ih (j + 1) (by omega) (by omega)
theorem list14_f (ls : List (List ByteArray)) (hn : ls.length ≤ 2147483647) (hb : (ls.flatten).length < 8796093022208) : laws_list14.f (ls.length + 1) ls = some ls.flatten := by
  have h := list14_from ls hn hb ls.length 0 (by omega) (by omega)
  exact h

/-! ### sameness -/
theorem drop_same {α : Type} (a b : List α) {i : Nat} (ha : i < a.length) (hb : i < b.length) : a.drop i = b.drop i ↔ a[i] = b[i] ∧ a.drop (i + 1) = b.drop (i + 1) := by
  rw [List.drop_eq_getElem_cons ha, List.drop_eq_getElem_cons hb, List.cons.injEq]
theorem sameTexts_from (a b : List ByteArray) (hl : a.length = b.length) (hm : a.length ≤ 9223372036854775806) : ∀ (d i k : Nat), a.length - i = d → i ≤ a.length → d < k →
    spec_SameTexts.l0 k a b (a.length : Int) (i : Int) = some (decide (a.drop i = b.drop i)) := by
  intro d
  induction d with
  | zero =>
    intro i k hd hi hk
    obtain ⟨k, rfl⟩ : ∃ m, k = m + 1 := ⟨k - 1, by omega⟩
    simp only [spec_SameTexts.l0]
    rw [if_neg (by omega), List.drop_eq_nil_of_le (by omega), List.drop_eq_nil_of_le (by omega)]; rfl
  | succ d ih =>
    intro i k hd hi hk
    obtain ⟨k, rfl⟩ : ∃ m, k = m + 1 := ⟨k - 1, by omega⟩
    have ha : i < a.length := by omega
    have hb : i < b.length := by omega
    simp only [spec_SameTexts.l0]
    rw [if_pos (by omega), if_pos (by omega), if_pos (by omega), if_pos (by omega), rdOf_nat a ha, rdOf_nat b hb]
    have hd2 := drop_same a b ha hb
    by_cases h : a[i] = b[i]
    · rw [if_pos (by rw [h]), wrapN (by omega), ih (i + 1) k (by omega) (by omega) (by omega)]
      congr 1
      exact decide_eq_decide.2 ⟨fun e => hd2.2 ⟨h, e⟩, fun e => (hd2.1 e).2⟩
    · rw [if_neg (fun e => h (bytes_eq_iff.1 e)), decide_eq_false (fun e => h (hd2.1 e).1)]
theorem sameTexts_f (a b : List ByteArray) (hm : a.length ≤ 9223372036854775806) (k : Nat) (hk : a.length < k) : spec_SameTexts.f k a b = some (decide (a = b)) := by
  unfold spec_SameTexts.f
  by_cases h : a.length = b.length
  · rw [if_pos (by omega)]
    exact sameTexts_from a b h hm a.length 0 k (by omega) (by omega) hk
  · rw [if_neg (by omega), decide_eq_false (fun e => h (by rw [e]))]
theorem rdG_nat (xs : List S57) {i : Nat} (h : i < xs.length) : rd_T57 xs (i : Int) = xs[i] := by
  unfold rd_T57; rw [Int.toNat_natCast, getD_at _ h]
theorem sameGiven_from (a b : List S57) (hl : a.length = b.length) (hm : a.length ≤ 9223372036854775806) : ∀ (d i k : Nat), a.length - i = d → i ≤ a.length → d < k →
    ∃ r, spec_SameGiven.l0 k a b (a.length : Int) (i : Int) = some r ∧ (r = true ↔ a.drop i = b.drop i) := by
  intro d
  induction d with
  | zero =>
    intro i k hd hi hk
    obtain ⟨k, rfl⟩ : ∃ m, k = m + 1 := ⟨k - 1, by omega⟩
    simp only [spec_SameGiven.l0]
    rw [if_neg (by omega), List.drop_eq_nil_of_le (by omega), List.drop_eq_nil_of_le (by omega)]
    exact ⟨true, rfl, by simp⟩
  | succ d ih =>
    intro i k hd hi hk
    obtain ⟨k, rfl⟩ : ∃ m, k = m + 1 := ⟨k - 1, by omega⟩
    have ha : i < a.length := by omega
    have hb : i < b.length := by omega
    simp only [spec_SameGiven.l0]
    rw [if_pos (by omega), if_pos (by omega), if_pos (by omega), if_pos (by omega), rdG_nat a ha, rdG_nat b hb]
    have hd2 := drop_same a b ha hb
    by_cases h0 : a[i].f0 = b[i].f0
    · by_cases h1 : a[i].f1 = b[i].f1
      · rw [if_neg (by simp [h0, h1]), wrapN (by omega)]
        obtain ⟨r, e1, e2⟩ := ih (i + 1) k (by omega) (by omega) (by omega)
        refine ⟨r, e1, e2.trans ?_⟩
        rw [hd2]
        have e : a[i] = b[i] := by
          cases hx : a[i]; cases hy : b[i]; rw [hx, hy] at h0 h1; simp only at h0 h1; rw [h0, h1]
        exact ⟨fun q => ⟨e, q⟩, fun q => q.2⟩
      · have h2 : ¬ a[i].f1.toList = b[i].f1.toList := fun e => h1 (bytes_eq_iff.1 e)
        rw [if_pos (by simp [h0, h2])]
        exact ⟨false, rfl, by rw [hd2]; simp; intro e; rw [e] at h1; exact absurd rfl h1⟩
    · rw [if_pos (by simp [h0])]
      exact ⟨false, rfl, by rw [hd2]; simp; intro e; rw [e] at h0; exact absurd rfl h0⟩
theorem sameGiven_f (a b : List S57) (hm : a.length ≤ 9223372036854775806) (k : Nat) (hk : a.length < k) : ∃ r, spec_SameGiven.f k a b = some r ∧ (r = true ↔ a = b) := by
  unfold spec_SameGiven.f
  by_cases h : a.length = b.length
  · rw [if_pos (by omega)]
    exact sameGiven_from a b h hm a.length 0 k (by omega) (by omega) hk
  · rw [if_neg (by omega)]
    exact ⟨false, rfl, by simp; intro e; rw [e] at h; exact absurd rfl h⟩
theorem sameInts_from (a : List Int) (hm : a.length ≤ 9223372036854775806) : ∀ (d i k : Nat), a.length - i = d → i ≤ a.length → d < k → spec_SameInts.l0 k a a (a.length : Int) (i : Int) = some true := by
  intro d
  induction d with
  | zero =>
    intro i k hd hi hk
    obtain ⟨k, rfl⟩ : ∃ m, k = m + 1 := ⟨k - 1, by omega⟩
    simp only [spec_SameInts.l0]
    rw [if_neg (by omega)]
  | succ d ih =>
    intro i k hd hi hk
    obtain ⟨k, rfl⟩ : ∃ m, k = m + 1 := ⟨k - 1, by omega⟩
    simp only [spec_SameInts.l0]
    rw [if_pos (by omega), if_pos (by omega), if_pos (by omega), if_pos (by omega), if_pos (by trivial), wrapN (by omega)]
    exact ih (i + 1) k (by omega) (by omega) (by omega)
theorem sameInts_f (a : List Int) (hm : a.length ≤ 9223372036854775806) (k : Nat) (hk : a.length < k) : spec_SameInts.f k a a = some true := by
  unfold spec_SameInts.f
  rw [if_pos (by trivial)]
  exact sameInts_from a hm a.length 0 k (by omega) (by omega) hk
/-- Two that are the same are told so. -/
theorem same_f (a0 : Int) (a1 a2 a3 : ByteArray) (a4 : Int) (l5 : List S57) (l6 : List ByteArray) (a7 : Int) (l8 : List Int) (a9 a10 : Bool) (h5 : l5.length ≤ 9223372036854775806) (h6 : l6.length ≤ 9223372036854775806) (h8 : l8.length ≤ 9223372036854775806) :
    spec_Same.f (l5.length + l6.length + l8.length + 2) a0 a1 a2 a3 a4 l5 l6 a7 l8 a9 a10 a0 a1 a2 a3 a4 l5 l6 a7 l8 a9 a10 = some true := by
  obtain ⟨r, e1, e2⟩ := sameGiven_f l5 l5 h5 (l5.length + l6.length + l8.length + 1) (by omega)
  have hr : r = true := e2.2 rfl
  subst hr
  have f2 := sameTexts_f l6 l6 h6 (l5.length + l6.length + l8.length + 1) (by omega)
  have f3 := sameInts_f l8 h8 (l5.length + l6.length + l8.length + 1) (by omega)
  unfold spec_Same.f
  simp only [if_true, bne_self_eq_false, Bool.false_eq_true, if_false, spec_Same.j0, e1, f2, f3, Option.bind_some, decide_true]
end Go.Proofs.Ytgmhhdpggnmipaa.E
