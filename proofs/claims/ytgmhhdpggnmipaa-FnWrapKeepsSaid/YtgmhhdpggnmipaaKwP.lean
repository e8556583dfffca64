/- What the pieces of bare's wrap answer, in plain words. Written by gen_kw.py. -/
import Derived.Test.YtgmhhdpggnmipaaKit
import Derived.Test.YtgmhhdpggnmipaaPKx1
namespace Go.Proofs.Ytgmhhdpggnmipaa.E.K
open Go.RowKit Go.Proofs Go.Proofs.YtgmhhdpggnmipaaW.PrintWords Go.Proofs.YtgmhhdpggnmipaaW.PrintLast
open Go.Proofs.Ytgmhhdpggnmipaa.PK
set_option linter.unusedVariables false
set_option linter.unusedSimpArgs false
theorem upTo {α : Type} {f : Nat → Option α} (m : ∀ k, LeO (f k) (f (k + 1))) {n : Nat} {r : α} (h : f n = some r) : ∀ k, n ≤ k → f k = some r := by
  intro k hk
  obtain ⟨d, rfl⟩ : ∃ d, k = n + d := ⟨k - n, by omega⟩
  induction d with
  | zero => exact h
  | succ d ih => exact m _ _ (ih (by omega))

/-- A list of bytes as a text. -/
def mkT (l : List UInt8) : ByteArray := ⟨l.toArray⟩
theorem mkT_list (l : List UInt8) : (mkT l).data.toList = l := by simp [mkT]
theorem mkT_size (l : List UInt8) : (mkT l).size = l.length := by show l.toArray.size = _; simp
theorem of_list (s : ByteArray) : mkT s.data.toList = s := by cases s; simp [mkT]
theorem size_list (s : ByteArray) : s.data.toList.length = s.size := by simp
theorem mkT_append (a b : List UInt8) : mkT a ++ mkT b = mkT (a ++ b) := by
  apply ByteArray.ext
  simp [mkT]
theorem mkT_inj {a b : ByteArray} (h : a.data.toList = b.data.toList) : a = b := by rw [← of_list a, ← of_list b, h]
theorem toL (s : ByteArray) : s.toList = s.data.toList := ByteArray.toList_eq s
theorem bI_str (l : List UInt8) : strOfNums (bytesOf (mkT l)) = mkT l := by
  unfold strOfNums bytesOf
  rw [mkT_list, List.map_map]
  have : (fun n : Int => UInt8.ofNat n.toNat) ∘ (fun b : UInt8 => (b.toNat : Int)) = id := by
    funext b; simp
  rw [this, List.map_id]; rfl
theorem bytes_app (a b : List UInt8) : bytesOf (mkT a) ++ bytesOf (mkT b) = bytesOf (mkT (a ++ b)) := by
  simp [bytesOf, mkT_list]
theorem bt_nat {s : ByteArray} {k : Nat} (h : k < s.size) : bt s (k : Int) = ((s[k].toNat : Nat) : Int) := by
  unfold bt
  rw [dif_pos (by simpa using h)]
  rfl
theorem drop_at {t : ByteArray} {k : Nat} (h : k < t.size) : t.data.toList.drop k = t[k] :: t.data.toList.drop (k + 1) := List.drop_eq_getElem_cons (by simpa using h)
theorem take_at {t : ByteArray} {k : Nat} (h : k < t.size) : t.data.toList.take (k + 1) = t.data.toList.take k ++ [t[k]] := List.take_succ_eq_append_getElem (by simpa using h)
theorem ext_tail (s : ByteArray) (n : Nat) : (s.extract n s.size).data.toList = s.data.toList.drop n := by
  rw [ByteArray.data_extract, Array.toList_extract, List.extract_eq_take_drop, List.take_of_length_le]
  simp
theorem ext_head (s : ByteArray) (n : Nat) : (s.extract 0 n).data.toList = s.data.toList.take n := by
  rw [ByteArray.data_extract, Array.toList_extract, List.extract_eq_take_drop]; simp

/-- So many blanks. -/
def blk (n : Nat) : List UInt8 := List.replicate n 32
/-- A text with so many blanks behind each line feed. -/
def undL (n : Nat) : List UInt8 → List UInt8
  | [] => []
  | c :: r => if c.toNat = 10 then c :: (blk n ++ undL n r) else c :: undL n r
theorem undL_le (n : Nat) : ∀ l, (undL n l).length ≤ l.length * (n + 1)
  | [] => by simp [undL]
  | c :: r => by
    have ih := undL_le n r
    simp only [undL]
    split <;> simp [blk, Nat.succ_mul] <;> omega
/-- Where the first line feed stands. -/
theorem index_loop (s : ByteArray) (hs : s.size ≤ 4096) : ∀ (d k i : Nat), i + d = s.size → d + 1 ≤ k →
    (∃ j, i ≤ j ∧ ∃ h : j < s.size, s[j].toNat = 10 ∧ (∀ m, i ≤ m → ∀ hm : m < j, ¬ (s[m]'(by omega)).toNat = 10) ∧ bare_zzIndex.l0 k s (mkT [10]) (i : Int) = some (j : Int)) ∨
    ((∀ m, i ≤ m → ∀ hm : m < s.size, ¬ s[m].toNat = 10) ∧ bare_zzIndex.l0 k s (mkT [10]) (i : Int) = some (-1)) := by
  intro d
  induction d with
  | zero =>
    intro k i hi hk
    obtain ⟨k, rfl⟩ : ∃ m, k = m + 1 := ⟨k - 1, by omega⟩
    right
    refine ⟨fun m hm h => by omega, ?_⟩
    simp only [bare_zzIndex.l0]
    have hw : wrap64 ((i : Int) + ((mkT [10]).size : Int)) = (i : Int) + 1 := by rw [mkT_size]; simp; unfold wrap64; omega
    rw [hw, if_neg (by omega)]
  | succ d ih =>
    intro k i hi hk
    obtain ⟨k, rfl⟩ : ∃ m, k = m + 1 := ⟨k - 1, by omega⟩
    have hlt : i < s.size := by omega
    have hw : wrap64 ((i : Int) + ((mkT [10]).size : Int)) = ((i + 1 : Nat) : Int) := by rw [mkT_size]; simp; unfold wrap64; omega
    have hw1 : wrap64 ((i : Int) + 1) = ((i + 1 : Nat) : Int) := by unfold wrap64; omega
    have he : (s.extract i (i + 1)).toList = [s[i]] := by
      rw [toL, ByteArray.data_extract, Array.toList_extract, List.extract_eq_take_drop, drop_at hlt]; simp
    simp only [bare_zzIndex.l0]
    rw [hw, if_pos (by omega), if_pos (by omega), if_pos (by omega)]
    rw [hw1]
    by_cases h10 : s[i].toNat = 10
    · left
      refine ⟨i, Nat.le_refl _, hlt, h10, fun m h1 h2 => by omega, ?_⟩
      rw [if_pos]
      have : s[i] = 10 := UInt8.toNat_inj.1 h10
      simp only [Int.toNat_natCast]
      rw [he, toL, mkT_list, this]
    · rw [if_neg (by
        simp only [Int.toNat_natCast]
        rw [he, toL, mkT_list]
        intro e; injection e with e; exact h10 (by rw [e]; rfl))]
      rcases ih k (i + 1) (by omega) (by omega) with ⟨j, h1, h2, h3, h4, h5⟩ | ⟨h1, h2⟩
      · left
        refine ⟨j, by omega, h2, h3, fun m hm hmj => ?_, h5⟩
        by_cases e : m = i
        · subst e; exact h10
        · exact h4 m (by omega) hmj
      · right
        refine ⟨fun m hm hms => ?_, h2⟩
        by_cases e : m = i
        · subst e; exact h10
        · exact h1 m (by omega) hms

/-- A text with a text in each line feed's place. -/
def repL (w : List UInt8) : List UInt8 → List UInt8
  | [] => []
  | c :: r => if c.toNat = 10 then w ++ repL w r else c :: repL w r
theorem repL_und (n : Nat) : ∀ l, repL (10 :: blk n) l = undL n l
  | [] => rfl
  | c :: r => by
    simp only [repL, undL]
    rw [repL_und n r]
    split
    · rename_i h
      have : c = 10 := UInt8.toNat_inj.1 h
      rw [this]; rfl
    · rfl
theorem repL_none (w : List UInt8) : ∀ l : List UInt8, (∀ c ∈ l, ¬ c.toNat = 10) → repL w l = l
  | [], _ => rfl
  | c :: r, h => by
    simp only [repL]
    rw [if_neg (h c (by simp)), repL_none w r (fun c hc => h c (by simp [hc]))]
theorem repL_app (w : List UInt8) : ∀ a b : List UInt8, repL w (a ++ b) = repL w a ++ repL w b
  | [], b => rfl
  | c :: r, b => by
    simp only [List.cons_append, repL]
    rw [repL_app w r b]
    split <;> simp
theorem replace_loop (w : List UInt8) (hw : w.length ≤ 1025) : ∀ (d k : Nat) (s : ByteArray) (acc : List UInt8), s.size ≤ d → d ≤ 4096 → acc.length + s.size * 1026 ≤ 4300000 → d + 4100 ≤ k →
    bare_zzReplace.l0 k s (mkT [10]) (mkT w) (mkT acc) = some (mkT (acc ++ repL w s.data.toList)) := by
  intro d
  induction d with
  | zero =>
    intro k s acc hd _ ha hk
    obtain ⟨k, rfl⟩ : ∃ m, k = m + 1 := ⟨k - 1, by omega⟩
    simp only [bare_zzReplace.l0]
    unfold bare_zzIndex.f
    rcases index_loop s (by omega) s.size k 0 (by omega) (by omega) with ⟨j, h1, h2, h3, h4, h5⟩ | ⟨h1, h2⟩
    · omega
    · rw [show ((0 : Nat) : Int) = 0 from rfl] at h2
      rw [h2]
      simp only [Option.bind_some]
      rw [if_pos (by omega), mkT_size, if_pos (by omega)]
      conv => lhs; rw [← of_list s]
      rw [mkT_append, repL_none]
      intro c hc
      obtain ⟨m, hm, rfl⟩ := List.getElem_of_mem hc
      exact h1 m (by omega) (by simpa using hm)
  | succ d ih =>
    intro k s acc hd hd2 ha hk
    obtain ⟨k, rfl⟩ : ∃ m, k = m + 1 := ⟨k - 1, by omega⟩
    simp only [bare_zzReplace.l0]
    unfold bare_zzIndex.f
    rcases index_loop s (by omega) s.size k 0 (by omega) (by omega) with ⟨j, h1, h2, h3, h4, h5⟩ | ⟨h1, h2⟩
    · rw [show ((0 : Nat) : Int) = 0 from rfl] at h5
      rw [h5]
      simp only [Option.bind_some]
      have hw1 : wrap64 ((j : Int) + ((mkT [10]).size : Int)) = ((j + 1 : Nat) : Int) := by rw [mkT_size]; simp; unfold wrap64; omega
      have hh : s.extract 0 j = mkT (s.data.toList.take j) := mkT_inj (by rw [ext_head, mkT_list])
      rw [hw1]
      simp only [Int.toNat_natCast]
      rw [hh, mkT_append, mkT_size, mkT_size, mkT_size, mkT_size]
      have hlen : (s.data.toList.take j).length = j := by rw [List.length_take, size_list]; omega
      have hacc : (acc ++ (s.data.toList.take j ++ w)).length + (s.extract (j + 1) s.size).size * 1026 ≤ 4300000 := by
        rw [List.length_append, List.length_append, hlen, ByteArray.size_extract]; omega
      rw [if_neg (by omega), if_pos (by omega), if_pos (by omega), if_pos (by omega), if_pos (by simp only [List.length_append]; omega), if_pos (by omega), if_pos (by omega), mkT_append,
        ih k _ _ (by simp; omega) (by omega) hacc (by omega)]
      congr 2
      rw [ext_tail]
      conv => rhs; rw [← List.take_append_drop j s.data.toList, drop_at h2]
      rw [repL_app, repL_none w (s.data.toList.take j)]
      · simp [repL, h3]
      · intro c hc
        obtain ⟨m, hm, rfl⟩ := List.getElem_of_mem hc
        simp at hm
        rw [List.getElem_take]
        exact h4 m (by omega) (by omega)
    · rw [show ((0 : Nat) : Int) = 0 from rfl] at h2
      rw [h2]
      simp only [Option.bind_some]
      rw [if_pos (by omega), mkT_size, if_pos (by omega)]
      conv => lhs; rw [← of_list s]
      rw [mkT_append, repL_none]
      intro c hc
      obtain ⟨m, hm, rfl⟩ := List.getElem_of_mem hc
      exact h1 m (by omega) (by simpa using hm)
theorem replace_at (w : List UInt8) (hw : w.length ≤ 1025) (s : ByteArray) (hs : s.size ≤ 4096) (k : Nat) (hk : 9000 ≤ k) : bare_zzReplace.f k s (mkT [10]) (mkT w) = some (mkT (repL w s.data.toList)) := by
  have := replace_loop w hw s.size k s [] (Nat.le_refl _) hs (by rw [List.length_nil]; omega) (by omega)
  simpa [bare_zzReplace.f, mkT] using this

theorem getD_at {t : ByteArray} {k : Nat} (h : k < t.size) : t.data.toList.getD k 0 = t[k] := by
  rw [List.getD_eq_getElem?_getD, List.getElem?_eq_getElem (by simpa using h)]; rfl
/-- A line may be broken at a byte. -/
def isB (c : UInt8) : Bool := decide (c.toNat = 32 ∨ c.toNat = 9 ∨ c.toNat = 10)
def isF (c : UInt8) : Bool := decide (c.toNat = 10)
/-- The last place of the first n at which a byte is such, but the first one; 0: none. -/
def lastP (p : UInt8 → Bool) (l : List UInt8) : Nat → Nat
  | 0 => 0
  | n + 1 => if 1 ≤ n ∧ p (l.getD n 0) = true then n else lastP p l n
theorem lastP_lt (p : UInt8 → Bool) (l : List UInt8) : ∀ n, lastP p l n = 0 ∨ lastP p l n < n
  | 0 => .inl rfl
  | n + 1 => by
    simp only [lastP]
    split
    · right; omega
    · have := lastP_lt p l n; omega
theorem lastP_take (p : UInt8 → Bool) (l : List UInt8) (m : Nat) : ∀ n, n ≤ m → lastP p (l.take m) n = lastP p l n
  | 0, _ => rfl
  | n + 1, h => by
    have e : (l.take m).getD n 0 = l.getD n 0 := by
      rw [List.getD_eq_getElem?_getD, List.getD_eq_getElem?_getD, List.getElem?_take_of_lt (by omega)]
    simp only [lastP]
    rw [e, lastP_take p l m n (by omega)]
def cutAt (s : ByteArray) (j : Nat) : ByteArray × ByteArray := (s.extract 0 j, s.extract (j + 1) s.size)
/-- A text's first line, and what is left. -/
def wrapV (n : Nat) (s : ByteArray) : ByteArray × ByteArray :=
  if s.size < n + 5 then (s, ⟨#[]⟩) else if lastP isB s.data.toList n = 0 then (s, ⟨#[]⟩) else if 0 < lastP isF s.data.toList n then cutAt s (lastP isF s.data.toList n) else cutAt s (lastP isB s.data.toList n)
theorem lastF_B (l : List UInt8) : ∀ n, lastP isF l n ≤ lastP isB l n
  | 0 => Nat.le_refl _
  | n + 1 => by
    have ih := lastF_B l n
    have hF := lastP_lt isF l n
    simp only [lastP]
    split
    · rename_i h
      rw [if_pos ⟨h.1, by have := h.2; simp [isF] at this; simp [isB, this]⟩]
      exact Nat.le_refl _
    · split
      · omega
      · exact ih
theorem wrapV_le (n : Nat) (hn : 1 ≤ n) (s : ByteArray) : ((wrapV n s).1 = s ∧ (wrapV n s).2 = ⟨#[]⟩) ∨ (wrapV n s).1.size + (wrapV n s).2.size + 1 = s.size := by
  unfold wrapV
  split
  · exact .inl ⟨rfl, rfl⟩
  · rename_i h1
    have hB := lastP_lt isB s.data.toList n
    have hF := lastP_lt isF s.data.toList n
    split
    · exact .inl ⟨rfl, rfl⟩
    · right
      split <;> (simp only [cutAt, ByteArray.size_extract]; omega)

/-- The last place at which a byte is such; -1: none. -/
def lastA (p : UInt8 → Bool) (l : List UInt8) : Nat → Int
  | 0 => -1
  | n + 1 => if p (l.getD n 0) = true then (n : Int) else lastA p l n
theorem lastA_P (p : UInt8 → Bool) (l : List UInt8) : ∀ n, (lastA p l n ≤ 0 ∧ lastP p l n = 0) ∨ (lastA p l n = (lastP p l n : Nat) ∧ 0 < lastP p l n)
  | 0 => .inl ⟨by simp [lastA], rfl⟩
  | n + 1 => by
    have ih := lastA_P p l n
    simp only [lastA, lastP]
    by_cases h : p (l.getD n 0) = true
    · by_cases h1 : 1 ≤ n
      · rw [if_pos h, if_pos ⟨h1, h⟩]; right; omega
      · have : n = 0 := by omega
        subst this
        rw [if_pos h, if_neg (by omega)]; left; exact ⟨by omega, rfl⟩
    · rw [if_neg h, if_neg (fun x => h x.2)]; exact ih
theorem lastAny_loop (t : ByteArray) (ht : t.size ≤ 4096) : ∀ (i k : Nat), i ≤ t.size → 5 * i + 1 ≤ k →
    bare_zzLastIndexAny.l0 k t (mkT [32, 9, 10]) ((i : Int) - 1) = some (lastA isB t.data.toList i) := by
  intro i
  induction i with
  | zero =>
    intro k hi hk
    obtain ⟨k, rfl⟩ : ∃ m, k = m + 1 := ⟨k - 1, by omega⟩
    simp only [bare_zzLastIndexAny.l0]
    rw [if_neg (by omega)]; rfl
  | succ i ih =>
    intro k hi hk
    obtain ⟨k, rfl⟩ : ∃ m, k = m + 5 := ⟨k - 5, by omega⟩
    have hlt : i < t.size := by omega
    have e0 : (((i + 1 : Nat) : Int) - 1) = (i : Int) := by omega
    have b0 : bt (mkT [32, 9, 10]) 0 = 32 := by decide
    have b1 : bt (mkT [32, 9, 10]) 1 = 9 := by decide
    have b2 : bt (mkT [32, 9, 10]) 2 = 10 := by decide
    have w1 : wrap64 ((0 : Int) + 1) = 1 := by unfold wrap64; omega
    have w2 : wrap64 ((1 : Int) + 1) = 2 := by unfold wrap64; omega
    have w3 : wrap64 ((2 : Int) + 1) = 3 := by unfold wrap64; omega
    have wi : wrap64 ((i : Int) - 1) = (i : Int) - 1 := by unfold wrap64; omega
    have hz : ((mkT [32, 9, 10]).size : Int) = 3 := by rw [mkT_size]; rfl
    rw [e0]
    simp only [bare_zzLastIndexAny.l0, bare_zzLastIndexAny.l1]
    rw [hz, b0, w1, b1, w2, b2, w3, wi, bt_nat hlt]
    simp only [lastA]
    rw [getD_at hlt]
    rw [if_pos (by omega), if_pos (by omega), if_pos (by omega), if_pos (by omega), if_pos (by omega)]
    by_cases h32 : t[i].toNat = 32
    · rw [if_pos (by omega), if_pos (by simp [isB, h32])]
    · rw [if_neg (by omega), if_pos (by omega), if_pos (by omega), if_pos (by omega), if_pos (by omega)]
      by_cases h9 : t[i].toNat = 9
      · rw [if_pos (by omega), if_pos (by simp [isB, h9])]
      · rw [if_neg (by omega), if_pos (by omega), if_pos (by omega), if_pos (by omega), if_pos (by omega)]
        by_cases h10 : t[i].toNat = 10
        · rw [if_pos (by omega), if_pos (by simp [isB, h10])]
        · rw [if_neg (by omega), if_neg (by omega), if_neg (by simp [isB, h32, h9, h10])]
          exact ih k (by omega) (by omega)
theorem lastAny_at (t : ByteArray) (ht : t.size ≤ 4096) (k : Nat) (hk : 20490 ≤ k) : bare_zzLastIndexAny.f k t (mkT [32, 9, 10]) = some (lastA isB t.data.toList t.size) := by
  unfold bare_zzLastIndexAny.f
  have wi : wrap64 ((t.size : Int) - 1) = (t.size : Int) - 1 := by unfold wrap64; omega
  rw [wi]
  exact lastAny_loop t ht t.size k (Nat.le_refl _) (by omega)

/-- The lines behind the first. -/
def restV (n ind : Nat) : Nat → ByteArray → List UInt8
  | 0, _ => []
  | f + 1, s => if s.size = 0 then [] else (10 :: blk ind) ++ undL ind (wrapV n s).1.data.toList ++ restV n ind f (wrapV n s).2
theorem restV_more (n ind : Nat) (hn : 1 ≤ n) : ∀ (f : Nat) (s : ByteArray), s.size ≤ f → restV n ind f s = restV n ind s.size s := by
  intro f
  induction f using Nat.strongRecOn with
  | _ f ih =>
    intro s hs
    by_cases h0 : s.size = 0
    · cases f with
      | zero => rw [h0]
      | succ f => rw [h0]; simp [restV, h0]
    · obtain ⟨f, rfl⟩ : ∃ m, f = m + 1 := ⟨f - 1, by omega⟩
      obtain ⟨z, hz⟩ : ∃ z, s.size = z + 1 := ⟨s.size - 1, by omega⟩
      rw [hz]
      simp only [restV]
      rw [if_neg h0, if_neg h0]
      congr 1
      have hle : (wrapV n s).2.size ≤ z := by
        rcases wrapV_le n hn s with ⟨_, h⟩ | h
        · rw [h]; exact Nat.zero_le _
        · omega
      rw [ih f (by omega) _ (by omega), ← ih z (by omega) _ hle]
def linesV (ind n : Nat) (s : ByteArray) : List UInt8 := undL ind (wrapV n s).1.data.toList ++ restV n ind (wrapV n s).2.size (wrapV n s).2
/-- A text wrapped to a width behind an indent. -/
def wrapAll (ind w : Nat) (s : ByteArray) : List UInt8 :=
  if w = 0 then undL ind s.data.toList
  else if w < ind + 24 then (if w < 40 then undL 16 s.data.toList else (10 :: blk 16) ++ linesV 16 (w - 21) s)
  else linesV ind (w - ind - 5) s
/-- What the loop keeps: what is written, and what is left, come to the whole. -/
def WrapRel (n ind : Nat) (tot acc : List UInt8) (s : ByteArray) : Prop := s.size ≤ 4096 ∧ acc.length ≤ 10000000 ∧ (s.size = 0 ∨ acc.length + (s.size + 1) * 1025 ≤ 10000000) ∧ acc ++ restV n ind s.size s = tot
theorem wrapRel_first {n ind : Nat} (hn : 1 ≤ n) (hi : ind ≤ 1024) (s : ByteArray) (hs : s.size ≤ 4096) (pre : List UInt8) (hp : pre.length ≤ 17) : WrapRel n ind (pre ++ linesV ind n s) (pre ++ undL ind (wrapV n s).1.data.toList) (wrapV n s).2 := by
  have hu := undL_le ind (wrapV n s).1.data.toList
  rw [size_list] at hu
  have h1 : (wrapV n s).1.size + (wrapV n s).2.size ≤ 4096 := by
    rcases wrapV_le n hn s with ⟨a, b⟩ | h
    · rw [a, b]; exact hs
    · omega
  have h2 : (wrapV n s).1.size * (ind + 1) ≤ (wrapV n s).1.size * 1025 := Nat.mul_le_mul_left _ (by omega)
  refine ⟨by omega, by rw [List.length_append]; omega, .inr (by rw [List.length_append]; omega), by unfold linesV; rw [List.append_assoc]⟩
theorem wrapRel_next {n ind : Nat} (hn : 1 ≤ n) (hi : ind ≤ 1024) {tot acc : List UInt8} {s : ByteArray} (h : WrapRel n ind tot acc s) (h0 : 0 < s.size) : WrapRel n ind tot (acc ++ (10 :: blk ind) ++ undL ind (wrapV n s).1.data.toList) (wrapV n s).2 := by
  obtain ⟨a1, a2, a3, a4⟩ := h
  have hu := undL_le ind (wrapV n s).1.data.toList
  rw [size_list] at hu
  have h2 : (wrapV n s).1.size * (ind + 1) ≤ (wrapV n s).1.size * 1025 := Nat.mul_le_mul_left _ (by omega)
  have hb : (blk ind).length = ind := by simp [blk]
  refine ⟨?_, ?_, ?_, ?_⟩
  · rcases wrapV_le n hn s with ⟨_, b⟩ | h
    · rw [b]; exact Nat.zero_le _
    · omega
  · simp only [List.length_append, List.length_cons, hb]
    rcases wrapV_le n hn s with ⟨a, b⟩ | h
    · rw [a] at hu h2 ⊢; omega
    · omega
  · rcases wrapV_le n hn s with ⟨a, b⟩ | h
    · left; rw [b]; rfl
    · right
      simp only [List.length_append, List.length_cons, hb]
      omega
  · rw [← a4]
    obtain ⟨z, hz⟩ : ∃ z, s.size = z + 1 := ⟨s.size - 1, by omega⟩
    have hle : (wrapV n s).2.size ≤ z := by
      rcases wrapV_le n hn s with ⟨_, h⟩ | h
      · rw [h]; exact Nat.zero_le _
      · omega
    rw [hz]
    simp only [restV]
    rw [if_neg (by omega), restV_more n ind hn z _ hle]
    simp [List.append_assoc]
theorem wrapRel_end {n ind : Nat} {tot acc : List UInt8} {s : ByteArray} (h : WrapRel n ind tot acc s) (h0 : s.size = 0) : acc = tot := by
  have := h.2.2.2
  rw [h0] at this
  simpa [restV] using this
end Go.Proofs.Ytgmhhdpggnmipaa.E.K
