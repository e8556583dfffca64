/- A text without its blanks: laws.solid14, and what wrapping does to it. -/
import Derived.Test.YtgmhhdpggnmipaaKwF
namespace Go.Proofs.Ytgmhhdpggnmipaa.E.K
open Go.RowKit Go.Proofs Go.Proofs.YtgmhhdpggnmipaaW.PrintWords Go.Proofs.YtgmhhdpggnmipaaW.PrintLast
open Go.Proofs.Ytgmhhdpggnmipaa.PK
set_option linter.unusedVariables false
set_option linter.unusedSimpArgs false
def solid (l : List UInt8) : List UInt8 := l.filter fun c => !isB c
theorem solid_app (a b : List UInt8) : solid (a ++ b) = solid a ++ solid b := List.filter_append ..
theorem solid_blk (n : Nat) : solid (blk n) = [] := by
  unfold solid blk
  rw [List.filter_eq_nil_iff]
  intro c hc
  rw [List.eq_of_mem_replicate hc]; decide
theorem solid_cons_blank {c : UInt8} (h : isB c = true) (l : List UInt8) : solid (c :: l) = solid l := by
  unfold solid; rw [List.filter_cons, h]; rfl
theorem solid_und (n : Nat) : ∀ l, solid (undL n l) = solid l
  | [] => rfl
  | c :: r => by
    simp only [undL]
    split
    · rename_i h
      have hb : isB c = true := by unfold isB; simp [h]
      rw [solid_cons_blank hb, solid_cons_blank hb, solid_app, solid_blk, solid_und n r]; rfl
    · unfold solid
      rw [List.filter_cons, List.filter_cons]
      have ih := solid_und n r
      unfold solid at ih
      rw [ih]
theorem lastP_sat (p : UInt8 → Bool) (l : List UInt8) : ∀ n, lastP p l n ≠ 0 → p (l.getD (lastP p l n) 0) = true ∧ lastP p l n < n
  | 0, h => absurd rfl h
  | n + 1, h => by
    unfold lastP at h ⊢
    split
    · rename_i q
      exact ⟨q.2, by omega⟩
    · rename_i q
      rw [if_neg q] at h
      have := lastP_sat p l n h
      exact ⟨this.1, by omega⟩
theorem isF_isB {c : UInt8} (h : isF c = true) : isB c = true := by
  unfold isF at h; unfold isB
  have := of_decide_eq_true h
  simp [this]
theorem solid_cut (s : ByteArray) (j : Nat) (hj : j < s.size) (hb : isB (s.data.toList.getD j 0) = true) : solid (cutAt s j).1.data.toList ++ solid (cutAt s j).2.data.toList = solid s.data.toList := by
  unfold cutAt
  simp only
  rw [ext_head, ext_tail]
  have hl : j < s.data.toList.length := by rw [size_list]; exact hj
  have e : s.data.toList = s.data.toList.take j ++ (s.data.toList[j] :: s.data.toList.drop (j + 1)) := by
    rw [← List.drop_eq_getElem_cons hl, List.take_append_drop]
  have hb2 : isB s.data.toList[j] = true := by
    rw [List.getD_eq_getElem?_getD, List.getElem?_eq_getElem hl] at hb; exact hb
  conv => rhs; rw [e]
  rw [solid_app, solid_cons_blank hb2]
theorem solid_wrapV {n : Nat} (hn : 1 ≤ n) (s : ByteArray) : solid (wrapV n s).1.data.toList ++ solid (wrapV n s).2.data.toList = solid s.data.toList := by
  unfold wrapV
  split
  · show solid s.data.toList ++ solid [] = _; simp [solid]
  · split
    · show solid s.data.toList ++ solid [] = _; simp [solid]
    · rename_i h1 h2
      split
      · rename_i h3
        obtain ⟨q1, q2⟩ := lastP_sat isF s.data.toList n (by omega)
        exact solid_cut s _ (by omega) (isF_isB q1)
      · obtain ⟨q1, q2⟩ := lastP_sat isB s.data.toList n h2
        exact solid_cut s _ (by omega) q1
theorem solid_rest {n : Nat} (hn : 1 ≤ n) (ind : Nat) : ∀ (f : Nat) (s : ByteArray), s.size ≤ f → solid (restV n ind f s) = solid s.data.toList
  | 0, s, h => by
    have : s.data.toList = [] := List.eq_nil_of_length_eq_zero (by rw [size_list]; omega)
    rw [this]; rfl
  | f + 1, s, h => by
    unfold restV
    split
    · rename_i h0
      have : s.data.toList = [] := List.eq_nil_of_length_eq_zero (by rw [size_list]; exact h0)
      rw [this]
    · rename_i h0
      have hs : (wrapV n s).2.size ≤ f := by
        rcases wrapV_le n hn s with ⟨a, b⟩ | h
        · rw [b]; exact Nat.zero_le _
        · omega
      rw [solid_app, solid_app, solid_und, solid_rest hn ind f _ hs, solid_cons_blank (by decide), solid_blk, List.nil_append, solid_wrapV hn]
theorem solid_lines {n : Nat} (hn : 1 ≤ n) (ind : Nat) (s : ByteArray) : solid (linesV ind n s) = solid s.data.toList := by
  unfold linesV
  rw [solid_app, solid_und, solid_rest hn ind _ _ (Nat.le_refl _), solid_wrapV hn]
/-- But for blanks a text that is wrapped is the same as it was. -/
theorem solid_all (ind w : Nat) (s : ByteArray) : solid (wrapAll ind w s) = solid s.data.toList := by
  unfold wrapAll
  split
  · exact solid_und _ _
  · split
    · split
      · exact solid_und _ _
      · rw [solid_app, solid_cons_blank (by decide), solid_blk, List.nil_append]
        exact solid_lines (by omega) _ _
    · exact solid_lines (by omega) _ _
theorem blank_at (c : UInt8) : spec_Blank.f ((c.toNat : Nat) : Int) = some (isB c) := by
  unfold spec_Blank.f isB
  by_cases h1 : c.toNat = 32
  · rw [if_pos (by omega), decide_eq_true (.inl h1)]
  · rw [if_neg (by omega)]
    by_cases h2 : c.toNat = 9
    · rw [if_pos (by omega), decide_eq_true (.inr (.inl h2))]
    · rw [if_neg (by omega)]
      congr 1
      by_cases h3 : c.toNat = 10
      · rw [decide_eq_true (.inr (.inr h3)), h3]; rfl
      · rw [decide_eq_false (by simp [h1, h2, h3])]
        simp; omega
theorem solid_loop (s : ByteArray) (hs : s.size ≤ 100000000) : ∀ (d k i : Nat) (acc : List UInt8), i + d = s.size → acc.length ≤ i → d + 1 ≤ k →
    laws_solid14.l0 k s (bytesOf (mkT acc)) (i : Int) = some (mkT (acc ++ solid (s.data.toList.drop i))) := by
  intro d
  induction d with
  | zero =>
    intro k i acc hi ha hk
    obtain ⟨k, rfl⟩ : ∃ m, k = m + 1 := ⟨k - 1, by omega⟩
    simp only [laws_solid14.l0]
    rw [if_neg (by omega), bI_str, List.drop_eq_nil_of_le (by rw [size_list]; omega)]; simp [solid]
  | succ d ih =>
    intro k i acc hi ha hk
    obtain ⟨k, rfl⟩ : ∃ m, k = m + 1 := ⟨k - 1, by omega⟩
    have hlt : i < s.size := by omega
    have hw : wrap64 ((i : Int) + 1) = ((i + 1 : Nat) : Int) := by unfold wrap64; omega
    simp only [laws_solid14.l0]
    rw [if_pos (by omega), if_pos (by omega), bt_nat hlt, blank_at, hw, drop_at hlt]
    simp only [Option.bind_some]
    by_cases hb : isB s[i] = true
    · rw [if_pos hb, ih k (i + 1) acc (by omega) (by omega) (by omega), solid_cons_blank hb]
    · rw [if_neg hb]
      have hl : (bytesOf (mkT acc)).length = acc.length := by simp [bytesOf, mkT_list]
      rw [if_pos (by omega)]
      have e : bytesOf (mkT acc) ++ [((s[i].toNat : Nat) : Int)] = bytesOf (mkT (acc ++ [s[i]])) := by simp [bytesOf, mkT_list]
      rw [e, ih k (i + 1) (acc ++ [s[i]]) (by omega) (by simp; omega) (by omega)]
      have e2 : solid (s[i] :: s.data.toList.drop (i + 1)) = s[i] :: solid (s.data.toList.drop (i + 1)) := by
        unfold solid; rw [List.filter_cons, if_pos (by simp [hb])]
      rw [e2, List.append_assoc]; rfl
theorem solid_at (s : ByteArray) (hs : s.size ≤ 100000000) : laws_solid14.f (s.size + 1) s = some (mkT (solid s.data.toList)) := by
  have h := solid_loop s hs s.size (s.size + 1) 0 [] (by omega) (by simp) (by omega)
  rw [List.drop_zero, List.nil_append] at h
  exact h
theorem solid_c (s : ByteArray) (hs : s.size ≤ 100000000) (w : World) : Calls Try.prog 41 #[.string s] w fun e w' => e = .returned (.string (mkT (solid s.data.toList))) ∧ Below w.heap.size w w' :=
  laws_solid14.calls _ s _ w (solid_at s hs)
theorem und_le (n : Nat) (hn : n ≤ 1024) (l : List UInt8) (hl : l.length ≤ 4096) : (undL n l).length ≤ 4198400 := by
  have h := undL_le n l
  have : l.length * (n + 1) ≤ 4096 * 1025 := Nat.mul_le_mul hl (by omega)
  omega
theorem rest_le {n : Nat} (hn : 1 ≤ n) {ind : Nat} (hi : ind ≤ 1024) : ∀ (f : Nat) (s : ByteArray), s.size ≤ 4096 → (restV n ind f s).length ≤ (s.size + 1) * 2050
  | 0, s, h => by simp [restV]
  | f + 1, s, h => by
    unfold restV
    split
    · simp
    · rename_i h0
      have hu := undL_le ind (wrapV n s).1.data.toList
      rw [size_list] at hu
      have ih := rest_le hn hi f (wrapV n s).2
      have hb : (blk ind).length = ind := by simp [blk]
      have hm : (wrapV n s).1.size * (ind + 1) ≤ (wrapV n s).1.size * 1025 := Nat.mul_le_mul_left _ (by omega)
      simp only [List.length_append, List.length_cons, hb]
      rcases wrapV_le n hn s with ⟨a, b⟩ | h2
      · have hz : (wrapV n s).2.size = 0 := by rw [b]; rfl
        have hr : restV n ind f (wrapV n s).2 = [] := by cases f <;> simp [restV, hz]
        rw [hr, List.length_nil]
        rw [a] at hu hm ⊢
        omega
      · have ih := ih (by omega)
        omega
theorem wrapAll_le {ind x : Nat} (hi : ind ≤ 1024) (s : ByteArray) (hs : s.size ≤ 4096) : (wrapAll ind x s).length ≤ 50000000 := by
  have hsl : s.data.toList.length ≤ 4096 := by rw [size_list]; exact hs
  have key : ∀ (i n : Nat), i ≤ 1024 → 1 ≤ n → (linesV i n s).length ≤ 40000000 := by
    intro i n h1 h2
    unfold linesV
    have hp : (wrapV n s).1.size ≤ 4096 ∧ (wrapV n s).2.size ≤ 4096 := by
      rcases wrapV_le n h2 s with ⟨a, b⟩ | h
      · rw [a, b]; exact ⟨hs, by decide⟩
      · omega
    have hu := und_le i h1 (wrapV n s).1.data.toList (by rw [size_list]; exact hp.1)
    have hr := rest_le h2 h1 (wrapV n s).2.size (wrapV n s).2 hp.2
    rw [List.length_append]; omega
  unfold wrapAll
  split
  · have := und_le ind hi s.data.toList hsl; omega
  · split
    · split
      · have := und_le 16 (by decide) s.data.toList hsl; omega
      · have := key 16 (x - 21) (by decide) (by omega)
        simp [blk]; omega
    · have := key ind (x - ind - 5) hi (by omega)
      omega
end Go.Proofs.Ytgmhhdpggnmipaa.E.K
