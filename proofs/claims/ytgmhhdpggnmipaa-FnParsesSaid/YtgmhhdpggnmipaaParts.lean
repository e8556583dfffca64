/- Parts of a text between its commas, in plain words. -/
import Derived.Test.YtgmhhdpggnmipaaKit
import Derived.Test.YtgmhhdpggnmipaaQuoteL
namespace Go.Proofs.Ytgmhhdpggnmipaa.E
open Go.RowKit Go.Proofs
set_option linter.unusedVariables false
set_option linter.unusedSimpArgs false

/-- A list of bytes as a text. -/
def mkT (l : List UInt8) : ByteArray := ⟨l.toArray⟩
theorem mkT_list (l : List UInt8) : (mkT l).data.toList = l := by simp [mkT]
theorem mkT_size (l : List UInt8) : (mkT l).size = l.length := by show l.toArray.size = _; simp
theorem of_list (s : ByteArray) : mkT s.data.toList = s := by cases s; simp [mkT]
theorem mkT_inj {a b : ByteArray} (h : a.data.toList = b.data.toList) : a = b := by rw [← of_list a, ← of_list b, h]
theorem ext_tailP (s : ByteArray) (n : Nat) : (s.extract n s.size).data.toList = s.data.toList.drop n := by
  rw [ByteArray.data_extract, Array.toList_extract, List.extract_eq_take_drop, List.take_of_length_le]
  simp
theorem ext_midP (s : ByteArray) (a b : Nat) : (s.extract a b).data.toList = (s.data.toList.drop a).take (b - a) := by
  rw [ByteArray.data_extract, Array.toList_extract, List.extract_eq_take_drop]

/-- The parts between commas. -/
def splitC : List UInt8 → List (List UInt8)
  | [] => [[]]
  | c :: r => if c.toNat = 44 then [] :: splitC r else
    match splitC r with
    | [] => [[c]]
    | h :: t => (c :: h) :: t
theorem splitC_ne : ∀ l, splitC l ≠ []
  | [] => by simp [splitC]
  | c :: r => by
    simp only [splitC]
    split
    · simp
    · split <;> simp
theorem splitC_none : ∀ l : List UInt8, (∀ c ∈ l, ¬ c.toNat = 44) → splitC l = [l]
  | [], _ => rfl
  | c :: r, h => by
    simp only [splitC]
    rw [if_neg (h c (by simp)), splitC_none r (fun c hc => h c (by simp [hc]))]
theorem splitC_at : ∀ (a : List UInt8) (c : UInt8) (r : List UInt8), (∀ x ∈ a, ¬ x.toNat = 44) → c.toNat = 44 → splitC (a ++ c :: r) = a :: splitC r
  | [], c, r, _, hc => by simp [splitC, hc]
  | x :: a, c, r, h, hc => by
    simp only [List.cons_append, splitC]
    rw [if_neg (h x (by simp)), splitC_at a c r (fun y hy => h y (by simp [hy])) hc]
theorem splitC_len : ∀ l, (splitC l).length ≤ l.length + 1
  | [] => by simp [splitC]
  | c :: r => by
    have ih := splitC_len r
    simp only [splitC]
    split
    · simp; omega
    · split
      · simp
      · rename_i h t e
        rw [e] at ih
        simp at ih ⊢; omega
theorem splitC_part : ∀ (l p : List UInt8), p ∈ splitC l → p.length ≤ l.length
  | [], p, h => by simp [splitC] at h; simp [h]
  | c :: r, p, h => by
    simp only [splitC] at h
    split at h
    · rcases List.mem_cons.1 h with rfl | h
      · simp
      · have := splitC_part r p h; simp; omega
    · split at h
      · simp at h; simp [h]
      · rename_i x t e
        rcases List.mem_cons.1 h with rfl | h
        · have := splitC_part r x (by rw [e]; simp); simp; omega
        · have := splitC_part r p (by rw [e]; simp [h]); simp; omega
/-- The parts of a text. -/
def partsT (s : ByteArray) : List ByteArray := (splitC s.data.toList).map mkT
theorem partsT_len (s : ByteArray) : (partsT s).length ≤ s.size + 1 := by
  have := splitC_len s.data.toList
  simp [partsT] at this ⊢; exact this
theorem partsT_size (s : ByteArray) (k : Nat) (h : k < (partsT s).length) : (tx (partsT s) k).size ≤ s.size := by
  rw [tx_lt h]
  obtain ⟨p, hp, e⟩ := List.mem_map.1 (List.getElem_mem h)
  rw [← e, mkT_size]
  have := splitC_part s.data.toList p hp
  simpa using this
/-- A text cut at its first comma. -/
theorem partsT_cut (s : ByteArray) (j : Nat) (h : j < s.size) (hc : s[j].toNat = 44) (hn : ∀ m, ∀ hm : m < j, ¬ (s[m]'(by omega)).toNat = 44) : partsT s = s.extract 0 j :: partsT (s.extract (j + 1) s.size) := by
  unfold partsT
  have e : s.data.toList = s.data.toList.take j ++ s[j] :: s.data.toList.drop (j + 1) := by
    conv => lhs; rw [← List.take_append_drop j s.data.toList]
    congr 1
    exact List.drop_eq_getElem_cons (by simpa using h)
  rw [e, splitC_at _ _ _ ?_ hc, List.map_cons, ext_tailP]
  · congr 1
    apply mkT_inj
    rw [mkT_list, ext_midP]; simp
  · intro x hx
    obtain ⟨m, hm, rfl⟩ := List.getElem_of_mem hx
    simp at hm
    rw [List.getElem_take]
    exact hn m (by omega)
theorem partsT_none (s : ByteArray) (hn : ∀ m, ∀ hm : m < s.size, ¬ s[m].toNat = 44) : partsT s = [s] := by
  unfold partsT
  rw [splitC_none]
  · simp [of_list]
  · intro x hx
    obtain ⟨m, hm, rfl⟩ := List.getElem_of_mem hx
    exact hn m (by simpa using hm)

/-- Where the first comma stands; the length, if there is none. -/
def idxC : List UInt8 → Nat
  | [] => 0
  | c :: r => if c.toNat = 44 then 0 else idxC r + 1
theorem idxC_le : ∀ l, idxC l ≤ l.length
  | [] => Nat.le_refl _
  | c :: r => by
    have := idxC_le r
    simp only [idxC]
    split <;> simp <;> omega
theorem idxC_not : ∀ (l : List UInt8) (m : Nat) (h : m < idxC l) (hl : m < l.length), ¬ (l[m]).toNat = 44
  | [], m, h, hl => by simp at hl
  | c :: r, m, h, hl => by
    simp only [idxC] at h
    split at h
    · omega
    · rename_i hc
      cases m with
      | zero => exact hc
      | succ m => exact idxC_not r m (by omega) (by simpa using hl)
theorem idxC_is : ∀ (l : List UInt8) (h : idxC l < l.length), (l[idxC l]).toNat = 44
  | [], h => by simp [idxC] at h
  | c :: r, h => by
    by_cases hc : c.toNat = 44
    · simp [idxC, hc]
    · have e : idxC (c :: r) = idxC r + 1 := by simp [idxC, hc]
      have hl : idxC r < r.length := by rw [e] at h; simpa using h
      have := idxC_is r hl
      simp only [e, List.getElem_cons_succ]; exact this
/-- The index that zzIndex tells. -/
def idxV (s : ByteArray) : Int := if idxC s.data.toList < s.size then (idxC s.data.toList : Nat) else -1
theorem partsT_idx (s : ByteArray) (h : idxC s.data.toList < s.size) : partsT s = s.extract 0 (idxC s.data.toList) :: partsT (s.extract (idxC s.data.toList + 1) s.size) := by
  refine partsT_cut s _ h ?_ ?_
  · have := idxC_is s.data.toList (by simpa using h)
    rw [← bget h] at this; exact this
  · intro m hm
    have := idxC_not s.data.toList m hm (by simp; omega)
    rw [← bget (show m < s.size by omega)] at this; exact this
theorem partsT_noidx (s : ByteArray) (h : ¬ idxC s.data.toList < s.size) : partsT s = [s] := by
  refine partsT_none s ?_
  intro m hm
  have hle := idxC_le s.data.toList
  have := idxC_not s.data.toList m (by omega) (by simp; omega)
  rw [← bget hm] at this; exact this
/-- What stands from a place on, cut at the comma at another one. -/
theorem partsT_from (s : ByteArray) (a b : Nat) (ha : a ≤ b) (hb : b < s.size) (hc : s[b].toNat = 44) (hn : ∀ m, a ≤ m → ∀ hm : m < b, ¬ (s[m]'(by omega)).toNat = 44) :
    partsT (s.extract a s.size) = s.extract a b :: partsT (s.extract (b + 1) s.size) := by
  have hsz : (s.extract a s.size).size = s.size - a := by simp
  have hg : ∀ m, (h : m < (s.extract a s.size).size) → (s.extract a s.size)[m] = s[a + m]'(by rw [hsz] at h; omega) := by
    intro m h
    rw [ByteArray.getElem_extract]
  have := partsT_cut (s.extract a s.size) (b - a) (by rw [hsz]; omega) (by rw [hg]; simpa [show a + (b - a) = b by omega] using hc) (by
    intro m hm
    rw [hg]
    exact hn (a + m) (by omega) (by omega))
  rw [this]
  congr 1
  · apply mkT_inj
    rw [ext_midP, ext_midP, ext_midP, List.drop_zero, List.take_take]
    congr 1
    omega
  · congr 1
    apply mkT_inj
    rw [ext_midP, ext_midP, ext_midP, hsz, List.drop_take, List.drop_drop, List.take_take]
    congr 1
    · omega
    · congr 1; omega
end Go.Proofs.Ytgmhhdpggnmipaa.E
