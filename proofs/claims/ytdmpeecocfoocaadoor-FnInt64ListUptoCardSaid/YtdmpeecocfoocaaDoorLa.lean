/- Parts of a text between its commas, in plain words. -/
import Derived.Test.YtdmpeecocfoocaaDoorKit
import Derived.Test.YtdmpeecocfoocaaDoorQuoteL
import Derived.Lib.SlBytesRow
import Derived.Laws.DeepStrings4
import Derived.Test.YtdmpeecocfoocaaDoorLb
namespace Go.Proofs.YtdmpeecocfoocaaDoor.E
open Go.RowKit Go.Proofs
set_option linter.unusedVariables false
set_option linter.unusedSimpArgs false

/-- A list of bytes as a text. -/
def mkT (l : List UInt8) : ByteArray := ⟨l.toArray⟩
theorem mkT_list (l : List UInt8) : (mkT l).data.toList = l := by simp [mkT]
theorem mkT_size (l : List UInt8) : (mkT l).size = l.length := by show l.toArray.size = _; simp
theorem of_list (s : ByteArray) : mkT s.data.toList = s := by cases s; simp [mkT]
theorem mkT_inj {a b : ByteArray} (h : a.data.toList = b.data.toList) : a = b := by rw [← of_list a, ← of_list b, h]
theorem ext_tailP (s : ByteArray) (n : Nat) : (s.extract n s.size).data.toList = s.data.toList.drop n := by
  rw [ByteArray.data_extract, Array.toList_extract, List.extract_eq_take_drop, List.take_of_length_le]
  simp
theorem ext_midP (s : ByteArray) (a b : Nat) : (s.extract a b).data.toList = (s.data.toList.drop a).take (b - a) := by
  rw [ByteArray.data_extract, Array.toList_extract, List.extract_eq_take_drop]

/-- The parts between commas. -/
def splitC : List UInt8 → List (List UInt8)
  | [] => [[]]
  | c :: r => if c.toNat = 44 then [] :: splitC r else
    match splitC r with
    | [] => [[c]]
    | h :: t => (c :: h) :: t
theorem splitC_ne : ∀ l, splitC l ≠ []
  | [] => by simp [splitC]
  | c :: r => by
    simp only [splitC]
    split
    · simp
    · split <;> simp
theorem splitC_none : ∀ l : List UInt8, (∀ c ∈ l, ¬ c.toNat = 44) → splitC l = [l]
  | [], _ => rfl
  | c :: r, h => by
    simp only [splitC]
    rw [if_neg (h c (by simp)), splitC_none r (fun c hc => h c (by simp [hc]))]
theorem splitC_at : ∀ (a : List UInt8) (c : UInt8) (r : List UInt8), (∀ x ∈ a, ¬ x.toNat = 44) → c.toNat = 44 → splitC (a ++ c :: r) = a :: splitC r
  | [], c, r, _, hc => by simp [splitC, hc]
  | x :: a, c, r, h, hc => by
    simp only [List.cons_append, splitC]
    rw [if_neg (h x (by simp)), splitC_at a c r (fun y hy => h y (by simp [hy])) hc]
theorem splitC_len : ∀ l, (splitC l).length ≤ l.length + 1
  | [] => by simp [splitC]
  | c :: r => by
    have ih := splitC_len r
    simp only [splitC]
    split
    · simp; omega
    · split
      · simp
      · rename_i h t e
        rw [e] at ih
        simp at ih ⊢; omega
theorem splitC_part : ∀ (l p : List UInt8), p ∈ splitC l → p.length ≤ l.length
  | [], p, h => by simp [splitC] at h; simp [h]
  | c :: r, p, h => by
    simp only [splitC] at h
    split at h
    · rcases List.mem_cons.1 h with rfl | h
      · simp
      · have := splitC_part r p h; simp; omega
    · split at h
      · simp at h; simp [h]
      · rename_i x t e
        rcases List.mem_cons.1 h with rfl | h
        · have := splitC_part r x (by rw [e]; simp); simp; omega
        · have := splitC_part r p (by rw [e]; simp [h]); simp; omega
/-- The parts of a text. -/
def partsT (s : ByteArray) : List ByteArray := (splitC s.data.toList).map mkT
theorem partsT_len (s : ByteArray) : (partsT s).length ≤ s.size + 1 := by
  have := splitC_len s.data.toList
  simp [partsT] at this ⊢; exact this
theorem partsT_size (s : ByteArray) (k : Nat) (h : k < (partsT s).length) : (tx (partsT s) k).size ≤ s.size := by
  rw [tx_lt h]
  obtain ⟨p, hp, e⟩ := List.mem_map.1 (List.getElem_mem h)
  rw [← e, mkT_size]
  have := splitC_part s.data.toList p hp
  simpa using this
/-- A text cut at its first comma. -/
theorem partsT_cut (s : ByteArray) (j : Nat) (h : j < s.size) (hc : s[j].toNat = 44) (hn : ∀ m, ∀ hm : m < j, ¬ (s[m]'(by omega)).toNat = 44) : partsT s = s.extract 0 j :: partsT (s.extract (j + 1) s.size) := by
  unfold partsT
  have e : s.data.toList = s.data.toList.take j ++ s[j] :: s.data.toList.drop (j + 1) := by
    conv => lhs; rw [← List.take_append_drop j s.data.toList]
    congr 1
    exact List.drop_eq_getElem_cons (by simpa using h)
  rw [e, splitC_at _ _ _ ?_ hc, List.map_cons, ext_tailP]
  · congr 1
    apply mkT_inj
    rw [mkT_list, ext_midP]; simp
  · intro x hx
    obtain ⟨m, hm, rfl⟩ := List.getElem_of_mem hx
    simp at hm
    rw [List.getElem_take]
    exact hn m (by omega)
theorem partsT_none (s : ByteArray) (hn : ∀ m, ∀ hm : m < s.size, ¬ s[m].toNat = 44) : partsT s = [s] := by
  unfold partsT
  rw [splitC_none]
  · simp [of_list]
  · intro x hx
    obtain ⟨m, hm, rfl⟩ := List.getElem_of_mem hx
    exact hn m (by simpa using hm)

/-- Where the first comma stands; the length, if there is none. -/
def idxC : List UInt8 → Nat
  | [] => 0
  | c :: r => if c.toNat = 44 then 0 else idxC r + 1
theorem idxC_le : ∀ l, idxC l ≤ l.length
  | [] => Nat.le_refl _
  | c :: r => by
    have := idxC_le r
    simp only [idxC]
    split <;> simp <;> omega
theorem idxC_not : ∀ (l : List UInt8) (m : Nat) (h : m < idxC l) (hl : m < l.length), ¬ (l[m]).toNat = 44
  | [], m, h, hl => by simp at hl
  | c :: r, m, h, hl => by
    simp only [idxC] at h
    split at h
    · omega
    · rename_i hc
      cases m with
      | zero => exact hc
      | succ m => exact idxC_not r m (by omega) (by simpa using hl)
theorem idxC_is : ∀ (l : List UInt8) (h : idxC l < l.length), (l[idxC l]).toNat = 44
  | [], h => by simp [idxC] at h
  | c :: r, h => by
    by_cases hc : c.toNat = 44
    · simp [idxC, hc]
    · have e : idxC (c :: r) = idxC r + 1 := by simp [idxC, hc]
      have hl : idxC r < r.length := by rw [e] at h; simpa using h
      have := idxC_is r hl
      simp only [e, List.getElem_cons_succ]; exact this
/-- The index that zzIndex tells. -/
def idxV (s : ByteArray) : Int := if idxC s.data.toList < s.size then (idxC s.data.toList : Nat) else -1
theorem partsT_idx (s : ByteArray) (h : idxC s.data.toList < s.size) : partsT s = s.extract 0 (idxC s.data.toList) :: partsT (s.extract (idxC s.data.toList + 1) s.size) := by
  refine partsT_cut s _ h ?_ ?_
  · have := idxC_is s.data.toList (by simpa using h)
    rw [← bget h] at this; exact this
  · intro m hm
    have := idxC_not s.data.toList m hm (by simp; omega)
    rw [← bget (show m < s.size by omega)] at this; exact this
theorem partsT_noidx (s : ByteArray) (h : ¬ idxC s.data.toList < s.size) : partsT s = [s] := by
  refine partsT_none s ?_
  intro m hm
  have hle := idxC_le s.data.toList
  have := idxC_not s.data.toList m (by omega) (by simp; omega)
  rw [← bget hm] at this; exact this
/-- What stands from a place on, cut at the comma at another one. -/
theorem partsT_from (s : ByteArray) (a b : Nat) (ha : a ≤ b) (hb : b < s.size) (hc : s[b].toNat = 44) (hn : ∀ m, a ≤ m → ∀ hm : m < b, ¬ (s[m]'(by omega)).toNat = 44) :
    partsT (s.extract a s.size) = s.extract a b :: partsT (s.extract (b + 1) s.size) := by
  have hsz : (s.extract a s.size).size = s.size - a := by simp
  have hg : ∀ m, (h : m < (s.extract a s.size).size) → (s.extract a s.size)[m] = s[a + m]'(by rw [hsz] at h; omega) := by
    intro m h
    rw [ByteArray.getElem_extract]
  have := partsT_cut (s.extract a s.size) (b - a) (by rw [hsz]; omega) (by rw [hg]; simpa [show a + (b - a) = b by omega] using hc) (by
    intro m hm
    rw [hg]
    exact hn (a + m) (by omega) (by omega))
  rw [this]
  congr 1
  · apply mkT_inj
    rw [ext_midP, ext_midP, ext_midP, List.drop_zero, List.take_take]
    congr 1
    omega
  · congr 1
    apply mkT_inj
    rw [ext_midP, ext_midP, ext_midP, hsz, List.drop_take, List.drop_drop, List.take_take]
    congr 1
    · omega
    · congr 1; omega
end Go.Proofs.YtdmpeecocfoocaaDoor.E

namespace Go.Proofs.YtdmpeecocfoocaaDoor.E
open Go.RowKit Go.Proofs
set_option linter.unusedVariables false
set_option linter.unusedSimpArgs false

theorem Tryd.infoStr1 : (Tryd.prog.info? 9).map (fun i => (i.zero, i.size, i.bytes)) = some (some (.string ⟨#[]⟩), 1, 16) := by kernel_rfl
theorem list_one (s : ByteArray) (k : Nat) (h : k < s.size) : (s.extract k (k + 1)).toList = [s[k]] := by
  rw [ByteArray.toList_eq, ext_midP, List.drop_eq_getElem_cons (by simpa using h), ← bget h]; simp

set_option maxRecDepth 100000 in
theorem index_any (s : ByteArray) (hs : s.size ≤ 2147483647) (w : World) :
    Calls Tryd.prog 106 #[.string s, .string ⟨#[44]⟩] w fun e w' => e = .returned (.int .i64 (idxV s)) ∧ w = w' := by
  have hsz1 : ((⟨#[44]⟩ : ByteArray).size : Int) = 1 := rfl
  have hs' : (s.size : Int) ≤ 2147483647 := by omega
  go_enter Tryd.func106, Tryd.ntmps106
  go_wp2
  go_loop [5] (fun i => ∃ k : Nat, k ≤ s.size ∧ i = .int .i64 k ∧ Hid (∀ m, ∀ hm : m < s.data.toList.length, m < k → ¬ (s.data.toList[m]).toNat = 44)) (fun i => s.size - (intOf i).toNat)
  case atStart => exact ⟨0, Nat.zero_le _, rfl, fun m _ h => by omega⟩
  case round =>
    obtain ⟨k, hk, rfl, HN⟩ := hrel
    by_cases hlt : k < s.size
    · have i1 : (k : Int) + 1 ≤ (s.size : Int) := by omega
      have hsl : ∀ W, (Instr.slice 9 (.string s) (some (.int .i64 k)) (some (.int .i64 ((k : Int) + 1))) none).run Tryd.prog W = .ok (.string (s.extract k (k + 1))) W := fun W => by rw [run_slice_string_if (P := Tryd.prog) (w := W) 9 s .i64 .i64 k _ Tryd.underlying9, if_pos ⟨by omega, by omega⟩, if_pos ⟨by omega, by omega⟩]; rfl
      by_cases h44 : s[k].toNat = 44
      · have HE : ((s.extract k (k + 1)).toList == [44]) = true := by rw [list_one s k hlt]; have : s[k] = 44 := UInt8.toNat_inj.1 h44; rw [this]; rfl
        have HV : Hid (idxV s = (k : Int)) := by
          show idxV s = _
          have e : idxC s.data.toList = k := by
            have a1 := idxC_le s.data.toList
            by_cases h1 : idxC s.data.toList < k
            · exact absurd (idxC_is s.data.toList (by simp; omega)) (HN.out _ (by simp; omega) h1)
            · by_cases h2 : k < idxC s.data.toList
              · exact absurd h44 (by have := idxC_not s.data.toList k h2 (by simpa using hlt); rw [← bget hlt] at this; exact this)
              · omega
          unfold idxV; rw [e, if_pos hlt]
        generalize s.extract k (k + 1) = T at hsl HE
        clear h44
        go_wp2
        go_ret
        exact ⟨by rw [HV.out]; rfl, rfl⟩
      · have HE : ((s.extract k (k + 1)).toList == [44]) = false := by
          rw [list_one s k hlt]
          have : (s[k] == (44 : UInt8)) = false := by rw [beq_eq_false_iff_ne]; intro e; exact h44 (by rw [e]; rfl)
          show (s[k] == 44 && _) = false
          rw [this]; rfl
        have HN2 : Hid (∀ m, ∀ hm : m < s.data.toList.length, m < k + 1 → ¬ (s.data.toList[m]).toNat = 44) := by
          intro m hm h
          by_cases e : m = k
          · subst e; rw [← bget hlt]; exact h44
          · exact HN.out m hm (by omega)
        generalize s.extract k (k + 1) = T at hsl HE
        clear h44
        go_wp2
        go_round
        case rel => exact ⟨k + 1, by omega, by go_num, HN2⟩
        case measure => simp [intOf]; omega
    · have i1 : ¬ (k : Int) + 1 ≤ (s.size : Int) := by omega
      have HV : Hid (idxV s = -1) := by
        show idxV s = -1
        unfold idxV
        rw [if_neg]
        intro h
        exact HN.out _ (by simpa using h) (by omega) (idxC_is s.data.toList (by simpa using h))
      go_wp2
      go_ret
      exact ⟨by rw [HV.out]; rfl, rfl⟩

def strSize : Value → Nat
  | .string s => s.size
  | _ => 0
theorem own_base {w : World} {base e size n : Nat} {A : Option Addr} {m c : Nat} {xs : List Value} (h : w.ownsRow base e size (.slice A m c) n xs) : ∀ a, A = some a → base ≤ a.block := by
  intro a ha
  subst ha
  rcases h.2 with ⟨h1, _⟩ | ⟨g, cap, cur, hv, hb, _⟩
  · cases h1
  · cases hv; exact hb
theorem strCells_snoc (l : List ByteArray) (t : ByteArray) : strCells (l ++ [t]) = strCells l ++ [.string t] := by simp [strCells]

set_option maxRecDepth 100000 in
set_option maxHeartbeats 1600000 in
theorem split_any (s : ByteArray) (hs : s.size ≤ 2147483647) (w : World) :
    Calls Tryd.prog 85 #[.string s, .string ⟨#[44]⟩] w fun e w' => ∃ A c, e = .returned (.slice A (partsT s).length c) ∧ RowAt w' A (strCells (partsT s)) ∧ Below w.heap.size w w' ∧ (∀ a, A = some a → w.heap.size ≤ a.block) := by
  obtain ⟨ti, hi, hz0, hz1, hz2⟩ := info_parts Tryd.infoStr1
  have hsz1 : ((⟨#[44]⟩ : ByteArray).size : Int) = 1 := rfl
  go_enter Tryd.func85, Tryd.ntmps85
  go_wp2
  go_loopw [0, 5] (fun S v wr => ∃ (T : ByteArray) (done : List ByteArray), S = .string T ∧ wr.ownsRow w.heap.size 9 1 v done.length (strCells done) ∧ done.length + T.size ≤ s.size ∧ Hid (done ++ partsT T = partsT s) ∧ Below w.heap.size w wr) (fun S _ _ => strSize S)
  case atStart => exact ⟨s, [], rfl, World.ownsRow_nil _ _ _ _, by simp, rfl, Below.refl _ _⟩
  case round =>
    obtain ⟨T, done, rfl, hown, hlen, HR, hbel⟩ := hrel
    have HI := fun w => Lib.hid (index_any T (by omega) w)
    have hs0 := hown.lt
    have i2 : (T.size : Int) ≤ 2147483647 := by omega
    by_cases hx : idxC T.data.toList < T.size
    · have hv : idxV T = ((idxC T.data.toList : Nat) : Int) := if_pos hx
      have HP := Lib.hid (partsT_idx T hx)
      rw [hv] at HI
      generalize idxC T.data.toList = j at hx HI HP hv
      have i0 : (0 : Int) ≤ (j : Int) := Int.natCast_nonneg _
      have i1 : (j : Int) < (T.size : Int) := by omega
      have hsl : ∀ W, (Instr.slice 9 (.string T) none (some (.int .i64 j)) none).run Tryd.prog W = .ok (.string (T.extract 0 j)) W := fun W => by rw [run_slice_string_h (P := Tryd.prog) W 9 T Tryd.underlying9 .i64 j (by omega) (by omega)]; rfl
      have hsr : ∀ W, (Instr.slice 9 (.string T) (some (.int .i64 ((j : Int) + 1))) none none).run Tryd.prog W = .ok (.string (T.extract (j + 1) T.size)) W := fun W => by rw [run_slice_string_l (P := Tryd.prog) W 9 T Tryd.underlying9 .i64 _ (by omega) (by omega)]; rfl
      have hRs : (T.extract (j + 1) T.size).size + (j + 1) = T.size := by simp; omega
      generalize T.extract 0 j = L at hsl HP
      generalize T.extract (j + 1) T.size = R at hsr HP hRs
      have HRs := Lib.hid hRs
      clear hv hx hRs
      go_wp2_with (first
        | (go_at_call 106; refine ((HI _).out).mono ?_; rintro e w1 ⟨rfl, rfl⟩)
        | (at_builtin; refine wpList_append_own _ rfl (.tmp 46) (.tmp 50) 23 rfl w.heap.size 9 ti _ 1 16 Tryd.underlying23 hi hz0 hz1 hz2 rfl (by decide) _ done.length _ rfl (hown.alloc _) ⟨wr.heap.size, 0, none⟩ 1 1 [.string L] rfl rfl (World.news_of_block (cs := #[.string L]) (t := 9) (fr := (0, 0)) (heap_alloc_new wr _)) (by simp [Value.oneCell']) (by unfold maxLen; omega) (by omega) (by have := hbel.size; simp; omega) ?_; intro v2 w2 hown2 hgrow hlt2))
      have hb2 : Below w.heap.size w w2 := (hbel.alloc hbel.size _).grown hgrow (by have := hbel.size; simp; omega) (fun b hb => (hs0 b hb).1)
      go_roundw
      case rel => exact ⟨R, done ++ [L], rfl, by rw [strCells_snoc]; simpa using hown2, by have := HRs.out; simp; omega, by show (done ++ [L]) ++ partsT R = partsT s; rw [← HR.out, HP.out]; simp, hb2⟩
      case measure => have := HRs.out; simp [strSize]; omega
    · have hv : idxV T = -1 := if_neg hx
      have HP := Lib.hid (partsT_noidx T hx)
      rw [hv] at HI
      clear hv hx
      go_wp2_with (first
        | (go_at_call 106; refine ((HI _).out).mono ?_; rintro e w1 ⟨rfl, rfl⟩)
        | (at_builtin; refine wpList_append_own _ rfl (.tmp 42) (.tmp 44) 23 rfl w.heap.size 9 ti _ 1 16 Tryd.underlying23 hi hz0 hz1 hz2 rfl (by decide) _ done.length _ rfl (hown.alloc _) ⟨wr.heap.size, 0, none⟩ 1 1 [.string T] rfl rfl (World.news_of_block (cs := #[.string T]) (t := 9) (fr := (0, 0)) (heap_alloc_new wr _)) (by simp [Value.oneCell']) (by unfold maxLen; omega) (by omega) (by have := hbel.size; simp; omega) ?_; intro v2 w2 hown2 hgrow hlt2))
      have hb2 : Below w.heap.size w w2 := (hbel.alloc hbel.size _).grown hgrow (by have := hbel.size; simp; omega) (fun b hb => (hs0 b hb).1)
      have hown3 : w2.ownsRow w.heap.size 9 1 v2 (partsT s).length (strCells (partsT s)) := by
        rw [← HR.out, HP.out, strCells_snoc]; simpa using hown2
      obtain ⟨A', c, rfl, hrow⟩ := own_row hown3
      go_ret
      exact ⟨A', c, rfl, hrow, hb2, own_base hown3⟩
end Go.Proofs.YtdmpeecocfoocaaDoor.E

namespace Go.Proofs.YtdmpeecocfoocaaDoor.E
open Go.RowKit Go.Proofs
set_option linter.unusedVariables false
set_option linter.unusedSimpArgs false

theorem extract_all (s : ByteArray) : s.extract 0 s.size = s := mkT_inj (by rw [ext_midP, List.drop_zero, List.take_of_length_le (by simp)])
set_option maxRecDepth 100000 in
set_option maxHeartbeats 1600000 in
theorem parts_any (s : ByteArray) (hs : s.size ≤ 2147483647) (w : World) :
    Calls Tryd.prog 37 #[.string s] w fun e w' => ∃ A c, e = .returned (.slice A (partsT s).length c) ∧ RowAt w' A (strCells (partsT s)) ∧ Below w.heap.size w w' ∧ (∀ a, A = some a → w.heap.size ≤ a.block) := by
  obtain ⟨ti, hi, hz0, hz1, hz2⟩ := info_parts Tryd.infoStr1
  have HMADE : Hid ((w.alloc (.cells #[] 9)).ownsRow w.heap.size 9 1 (.slice (some ⟨w.heap.size, 0, none⟩) 0 0) 0 []) := World.ownsRow_made (base := w.heap.size) (e := 9) (size := 1) w #[] 0 (Nat.le_refl _) (Nat.zero_le _) rfl
  have i2 : (s.size : Int) ≤ 2147483647 := by omega
  go_enter Tryd.func37, Tryd.ntmps37
  go_wp2
  go_loopw [3, 4, 9] (fun v f i wr => ∃ (k a : Nat) (done : List ByteArray), k ≤ s.size ∧ a ≤ k ∧ i = .int .i64 k ∧ f = .int .i64 a ∧ wr.ownsRow w.heap.size 9 1 v done.length (strCells done) ∧ done.length ≤ k ∧ Hid (done ++ partsT (s.extract a s.size) = partsT s) ∧ Hid (∀ m, a ≤ m → ∀ hm : m < s.size, m < k → ¬ s[m].toNat = 44) ∧ Below w.heap.size w wr) (fun _ _ i _ => s.size - (intOf i).toNat)
  case atStart => exact ⟨0, 0, [], Nat.zero_le _, Nat.le_refl _, rfl, rfl, HMADE.out, Nat.le_refl _, by show [] ++ partsT _ = _; rw [extract_all]; rfl, fun m _ _ h => by omega, (Below.refl _ _).alloc (Nat.le_refl _) _⟩
  case round =>
    obtain ⟨k, a, done, hk, ha, rfl, rfl, hown, hlen, HR, HN, hbel⟩ := hrel
    have hs0 := hown.lt
    have i0 : (0 : Int) ≤ (k : Int) := Int.natCast_nonneg _
    have i3 : (0 : Int) ≤ (a : Int) := Int.natCast_nonneg _
    have i4 : (a : Int) ≤ (k : Int) := by omega
    by_cases hlt : k < s.size
    · have i1 : (k : Int) < (s.size : Int) := by omega
      by_cases h44 : s[k].toNat = 44
      · have c0 : ((s[k].toNat : Int) == 44) = true := by rw [h44]; rfl
        have HP := Lib.hid (partsT_from s a k ha hlt h44 (fun m h1 h2 => HN.out m h1 (by omega) h2))
        have hsl : ∀ W, (Instr.slice 9 (.string s) (some (.int .i64 a)) (some (.int .i64 k)) none).run Tryd.prog W = .ok (.string (s.extract a k)) W := fun W => by rw [run_slice_string_if (P := Tryd.prog) (w := W) 9 s .i64 .i64 a k Tryd.underlying9, if_pos ⟨by omega, by omega⟩, if_pos ⟨by omega, by omega⟩]; rfl
        generalize s.extract a k = L at hsl HP
        clear h44
        go_wp2_with (at_builtin; refine wpList_append_own _ rfl (.tmp 16) (.tmp 21) 23 rfl w.heap.size 9 ti _ 1 16 Tryd.underlying23 hi hz0 hz1 hz2 rfl (by decide) _ done.length _ rfl (hown.alloc _) ⟨wr.heap.size, 0, none⟩ 1 1 [.string L] rfl rfl (World.news_of_block (cs := #[.string L]) (t := 9) (fr := (0, 0)) (heap_alloc_new wr _)) (by simp [Value.oneCell']) (by unfold maxLen; omega) (by omega) (by have := hbel.size; simp; omega) ?_; intro v2 w2 hown2 hgrow hlt2)
        have hb2 : Below w.heap.size w w2 := (hbel.alloc hbel.size _).grown hgrow (by have := hbel.size; simp; omega) (fun b hb => (hs0 b hb).1)
        go_roundw
        case rel => exact ⟨k + 1, k + 1, done ++ [L], by omega, Nat.le_refl _, by go_num, by go_num, by rw [strCells_snoc]; simpa using hown2, by simp; omega, by show (done ++ [L]) ++ _ = partsT s; rw [← HR.out, HP.out]; simp, fun m h1 _ h2 => by omega, hb2⟩
        case measure => simp [intOf]; omega
      · have c0 : ((s[k].toNat : Int) == 44) = false := byte_beq (k := 44) (by omega) (fun h => h44 (by rw [h]; rfl))
        have HN2 : Hid (∀ m, a ≤ m → ∀ hm : m < s.size, m < k + 1 → ¬ s[m].toNat = 44) := by
          intro m h1 hm h2
          by_cases e : m = k
          · subst e; exact h44
          · exact HN.out m h1 hm (by omega)
        clear h44
        go_wp2
        go_roundw
        case rel => exact ⟨k + 1, a, done, by omega, by omega, by go_num, rfl, hown, by omega, HR, HN2, hbel⟩
        case measure => simp [intOf]; omega
    · have HP : Hid (partsT (s.extract a s.size) = [s.extract a s.size]) := by
        show partsT _ = _
        refine partsT_none _ (fun m hm => ?_)
        rw [ByteArray.getElem_extract]
        have hsz : (s.extract a s.size).size = s.size - a := by simp
        exact HN.out (a + m) (by omega) (by omega) (by omega)
      have hsr : ∀ W, (Instr.slice 9 (.string s) (some (.int .i64 a)) none none).run Tryd.prog W = .ok (.string (s.extract a s.size)) W := fun W => by rw [run_slice_string_l (P := Tryd.prog) W 9 s Tryd.underlying9 .i64 a (by omega) (by omega)]; rfl
      generalize s.extract a s.size = L at hsr HP HR
      go_wp2_with (at_builtin; refine wpList_append_own _ rfl (.tmp 26) (.tmp 30) 23 rfl w.heap.size 9 ti _ 1 16 Tryd.underlying23 hi hz0 hz1 hz2 rfl (by decide) _ done.length _ rfl (hown.alloc _) ⟨wr.heap.size, 0, none⟩ 1 1 [.string L] rfl rfl (World.news_of_block (cs := #[.string L]) (t := 9) (fr := (0, 0)) (heap_alloc_new wr _)) (by simp [Value.oneCell']) (by unfold maxLen; omega) (by omega) (by have := hbel.size; simp; omega) ?_; intro v2 w2 hown2 hgrow hlt2)
      have hb2 : Below w.heap.size w w2 := (hbel.alloc hbel.size _).grown hgrow (by have := hbel.size; simp; omega) (fun b hb => (hs0 b hb).1)
      have hown3 : w2.ownsRow w.heap.size 9 1 v2 (partsT s).length (strCells (partsT s)) := by
        rw [← HR.out, HP.out, strCells_snoc]; simpa using hown2
      obtain ⟨A', c, rfl, hrow⟩ := own_row hown3
      go_ret
      exact ⟨A', c, rfl, hrow, hb2, own_base hown3⟩

/-- Texts as numbers of 64 bits; none, if one is no such. -/
def nums64 : List ByteArray → Option (List Int)
  | [] => some []
  | t :: r => match wholeA 9223372036854775808 t.data.toList with
    | none => none
    | some n => (nums64 r).map (n :: ·)
def i64s (l : List Int) : List Value := l.map (Value.int .i64)
theorem i64s_snoc (l : List Int) (n : Int) : i64s (l ++ [n]) = i64s l ++ [.int .i64 n] := by simp [i64s]
theorem Tryd.infoI64 : (Tryd.prog.info? 2).map (fun i => (i.zero, i.size, i.bytes)) = some (some (.int .i64 0), 1, 8) := by kernel_rfl
theorem one64_any (t : ByteArray) (ht : t.size ≤ 2147483647) (w : World) :
    Calls Tryd.prog 11 #[.string t] w fun e w' => e = .returned (.tuple #[.int .i64 (wholeARes (wholeA 9223372036854775808 t.data.toList)).1, .int .i64 (wholeARes (wholeA 9223372036854775808 t.data.toList)).2]) ∧ Below w.heap.size w w' := by
  have H := fun w => Lib.hid (whole_all64 t ht w)
  generalize (wholeARes (wholeA 9223372036854775808 t.data.toList)).1 = a at H ⊢
  generalize (wholeARes (wholeA 9223372036854775808 t.data.toList)).2 = b at H ⊢
  go_enter Tryd.func11, Tryd.ntmps11
  go_wp2_with (go_at_call 12; refine ((H _).out).mono ?_; rintro e w1 ⟨rfl, hb⟩)
  go_ret2
  exact ⟨rfl, hb⟩

/-- What each29 returns: the numbers and 1, or none and 2. -/
def EachEnd (q : Option (List Int)) (w : World) (e : Ending) (w' : World) : Prop :=
  (∀ N, q = some N → ∃ A c, e = .returned (.tuple #[.slice A N.length c, .int .i64 1]) ∧ RowAt w' A (i64s N) ∧ (∀ a, A = some a → w.heap.size ≤ a.block)) ∧ (q = none → e = .returned (.tuple #[.slice none 0 0, .int .i64 2])) ∧ Below w.heap.size w w'
theorem nums64_drop {xs : List ByteArray} {k : Nat} (h : k < xs.length) : nums64 (xs.drop k) = match wholeA 9223372036854775808 (tx xs k).data.toList with | none => none | some n => (nums64 (xs.drop (k + 1))).map (n :: ·) := by
  rw [List.drop_eq_getElem_cons h, tx_lt h]; rfl

set_option maxRecDepth 100000 in
set_option maxHeartbeats 1600000 in
theorem each64_any (A : Option Addr) (cap : Nat) (xs : List ByteArray) (w : World) (hx : StrsAt w A xs) (hm : xs.length ≤ 2147483648) (hs : ∀ j, j < xs.length → (tx xs j).size ≤ 2147483647) :
    Calls Tryd.prog 35 #[.slice A xs.length cap, .func (.func 11) #[] #[]] w (EachEnd (nums64 xs) w) := by
  obtain ⟨ti, hi, hz0, hz1, hz2⟩ := info_parts Tryd.infoI64
  have HMADE : Hid ((w.alloc (.cells #[] 2)).ownsRow w.heap.size 2 1 (.slice (some ⟨w.heap.size, 0, none⟩) 0 0) 0 []) := World.ownsRow_made (base := w.heap.size) (e := 2) (size := 1) w #[] 0 (Nat.le_refl _) (Nat.zero_le _) rfl
  have HS := Lib.hid hs
  clear hs
  go_enter Tryd.func35, Tryd.ntmps35
  go_wp2
  go_loopw [6, 14] (fun v i wr => ∃ (k : Nat) (done : List Int), k ≤ xs.length ∧ i = .int .i64 k ∧ done.length = k ∧ wr.ownsRow w.heap.size 2 1 v k (i64s done) ∧ Hid (nums64 xs = (nums64 (xs.drop k)).map (done ++ ·)) ∧ Below w.heap.size w wr) (fun _ i _ => xs.length - (intOf i).toNat)
  case atStart => exact ⟨0, [], Nat.zero_le _, rfl, rfl, HMADE.out, by show _ = _; simp, (Below.refl _ _).alloc (Nat.le_refl _) _⟩
  case round =>
    obtain ⟨k, done, hk, rfl, hdl, hown, HR, hbel⟩ := hrel
    have hs0 := hown.lt
    by_cases hlt : k < xs.length
    · obtain ⟨ba, oa, rfl, hc0⟩ := hx k hlt
      have hc := cell_kept hbel hc0
      have i0 : (0 : Int) ≤ (k : Int) := Int.natCast_nonneg _
      have i1 : (k : Int) < (xs.length : Int) := by omega
      have hsz : (tx xs k).size ≤ 2147483647 := HS.out k hlt
      have HO := fun w => Lib.hid (one64_any (tx xs k) hsz w)
      have hd := nums64_drop hlt
      generalize hq : wholeA 9223372036854775808 (tx xs k).data.toList = q at HO hd
      clear hq hsz hc0
      cases q with
      | some n =>
        simp only [wholeARes] at HO hd
        have HR2 : Hid (nums64 xs = (nums64 (xs.drop (k + 1))).map ((done ++ [n]) ++ ·)) := by
          show _ = _
          rw [HR.out, hd, Option.map_map]; congr 1; funext l; simp
        clear hd HR
        go_wp2_with (first
          | (go_at_call 11; refine ((HO _).out).mono ?_; rintro e w1 ⟨rfl, hb1⟩; have hown1 := own_kept hown hb1; have hbel1 := below_step hbel hb1)
          | (at_builtin; refine wpList_append_own _ rfl (.tmp 27) (.tmp 29) 27 rfl w.heap.size 2 ti _ 1 8 Tryd.underlying27 hi hz0 hz1 hz2 rfl (by decide) _ k _ rfl (hown1.alloc _) ⟨w1.heap.size, 0, none⟩ 1 1 [.int .i64 n] rfl rfl (World.news_of_block (cs := #[.int .i64 n]) (t := 2) (fr := (0, 0)) (heap_alloc_new w1 _)) (by simp [Value.oneCell']) (by unfold maxLen; omega) (by omega) (by have := hbel1.size; simp; omega) ?_; intro v2 w2 hown2 hgrow hlt2))
        have hs1 := hown1.lt
        have hb2 : Below w.heap.size w w2 := (hbel1.alloc hbel1.size _).grown hgrow (by have := hbel1.size; simp; omega) (fun b hb => (hs1 b hb).1)
        go_roundw
        case rel => exact ⟨k + 1, done ++ [n], by omega, by go_num, by simp [hdl], by rw [i64s_snoc]; exact hown2, HR2, hb2⟩
        case measure => simp [intOf]; omega
      | none =>
        simp only [wholeARes] at HO hd
        have HN : Hid (nums64 xs = none) := by show _ = _; rw [HR.out, hd]; rfl
        clear hd HR
        go_wp2_with (go_at_call 11; refine ((HO _).out).mono ?_; rintro e w1 ⟨rfl, hb1⟩; have hbel1 := below_step hbel hb1)
        go_ret2
        rw [HN.out]
        exact ⟨fun N h => by (cases h), fun _ => rfl, hbel1⟩
    · have HN : Hid (nums64 xs = some done) := by
        show _ = _
        rw [HR.out, List.drop_eq_nil_of_le (by omega)]; simp [nums64]
      have hk2 : k = done.length := hdl.symm
      subst hk2
      obtain ⟨A', c, rfl, hrow⟩ := own_row hown
      have hob := own_base hown
      go_wp2
      go_ret2
      rw [HN.out]
      refine ⟨fun N h => ?_, fun h => by (cases h), hbel⟩
      cases h
      exact ⟨A', c, rfl, hrow, hob⟩

theorem strs_of_row {w : World} {A : Option Addr} {xs : List ByteArray} (h : RowAt w A (strCells xs)) : StrsAt w A xs := by
  intro i hi
  obtain ⟨g, e, hc⟩ := h i (.string (tx xs i)) (by simp [strCells, hi, tx])
  exact ⟨g, 0, e, by rw [Nat.zero_add]; exact hc⟩
/-- The function that cuts29 makes. -/
theorem cuts64_any (s : ByteArray) (hs : s.size ≤ 2147483647) (a : Addr) (w : World) (ha : w.cell? a = some (.func (.func 11) #[] #[])) :
    Calls Tryd.prog 36 #[.string s, .pointer (some a)] w (EachEnd (nums64 (partsT s)) w) := by
  have HP := fun w => Lib.hid (parts_any s hs w)
  have hl := partsT_len s
  have HE := fun A c w hx => Lib.hid (each64_any A c (partsT s) w hx (by omega) (fun j hj => Nat.le_trans (partsT_size s j hj) hs))
  generalize nums64 (partsT s) = q at HE ⊢
  clear hl hs
  cases q with
  | some N =>
    go_enter Tryd.func36, Tryd.ntmps36
    go_wp2
    go_region_held3 (fun w' => w'.cell? a = some (.func (.func 11) #[] #[])) (first | assumption | go_keep)
      (first
        | (go_at_call 37; refine ((HP _).out).mono ?_; rintro e w1 ⟨A, c, rfl, hrow, hb1, hfr⟩; have hst := strs_of_row hrow; have hca := cell_kept hb1 ha)
        | (go_at_call 35; refine ((HE A c _ hst).out).mono ?_; rintro e w2 hE; obtain ⟨A2, c2, rfl, hrow2, hfr2⟩ := hE.1 N rfl; have hb2 := hE.2.2; have hcb := cell_kept hb2 hca))
    go_wp2
    go_ret2
    have h1 : Below w.heap.size w w1 := ((Below.refl _ _).drew).trans hb1
    have h2 : Below w.heap.size w w2 := h1.trans (hb2.mono h1.size)
    refine ⟨fun N h => ?_, fun h => by (cases h), h2⟩
    cases h
    exact ⟨A2, c2, rfl, hrow2, fun x hx => Nat.le_trans h1.size (hfr2 x hx)⟩
  | none =>
    go_enter Tryd.func36, Tryd.ntmps36
    go_wp2
    go_region_held3 (fun w' => w'.cell? a = some (.func (.func 11) #[] #[])) (first | assumption | go_keep)
      (first
        | (go_at_call 37; refine ((HP _).out).mono ?_; rintro e w1 ⟨A, c, rfl, hrow, hb1, hfr⟩; have hst := strs_of_row hrow; have hca := cell_kept hb1 ha)
        | (go_at_call 35; refine ((HE A c _ hst).out).mono ?_; rintro e w2 hE; obtain rfl := hE.2.1 rfl; have hb2 := hE.2.2; have hcb := cell_kept hb2 hca))
    go_wp2
    go_ret2
    have h1 : Below w.heap.size w w1 := ((Below.refl _ _).drew).trans hb1
    have h2 : Below w.heap.size w w2 := h1.trans (hb2.mono h1.size)
    exact ⟨fun N h => by (cases h), fun _ => rfl, h2⟩
end Go.Proofs.YtdmpeecocfoocaaDoor.E
