/- spec.Fold over this seat's program: a name, translated. Written by gen_sp1.py. -/
import Derived.Test.YtgmhhdpggnmipaaFs1
namespace Go.Proofs.Ytgmhhdpggnmipaa.E
open Go.RowKit Go.Proofs
set_option linter.unusedVariables false
set_option linter.unusedSimpArgs false

/-- A byte, translated by two ways: A to Z; _ and dots. -/
def upG (p : Bool) (c : UInt8) : UInt8 := if p = true ∧ 65 ≤ c.toNat ∧ c.toNat ≤ 90 then c + 32 else c
def foldG (p q : Bool) (c : UInt8) : UInt8 := if q = true ∧ ((upG p c).toNat = 95 ∨ (upG p c).toNat = 46) then 45 else upG p c
def foldGT (p q : Bool) (t : Txt) : Txt := t.map (foldG p q)
theorem upG_nat {c : UInt8} (h1 : 65 ≤ c.toNat) (h2 : c.toNat ≤ 90) : (c + 32).toNat = c.toNat + 32 := by
  rw [UInt8.toNat_add]; show (c.toNat + 32) % 256 = _; omega
theorem foldG_eq (k : Nat) (c : UInt8) : foldG (decide (k = 1 ∨ k = 3)) (decide (k = 2 ∨ k = 3)) c = foldB k c := by
  unfold foldG foldB
  by_cases h : (k = 1 ∨ k = 3) ∧ 65 ≤ c.toNat ∧ c.toNat ≤ 90
  · have e : upG (decide (k = 1 ∨ k = 3)) c = c + 32 := by unfold upG; rw [if_pos ⟨decide_eq_true h.1, h.2⟩]
    rw [e, if_pos h, if_neg]
    rw [upG_nat h.2.1 h.2.2]
    omega
  · have e : upG (decide (k = 1 ∨ k = 3)) c = c := by
      unfold upG
      rw [if_neg (fun q => h ⟨of_decide_eq_true q.1, q.2⟩)]
    rw [e, if_neg h]
    by_cases h2 : (k = 2 ∨ k = 3) ∧ (c.toNat = 95 ∨ c.toNat = 46)
    · rw [if_pos h2, if_pos ⟨decide_eq_true h2.1, h2.2⟩]
    · rw [if_neg h2, if_neg (fun q => h2 ⟨of_decide_eq_true q.1, q.2⟩)]
theorem foldGT_eq (k : Nat) (t : Txt) : foldGT (decide (k = 1 ∨ k = 3)) (decide (k = 2 ∨ k = 3)) t = foldT k t := by
  unfold foldGT foldT
  congr 1
  funext c
  exact foldG_eq k c
/-- A text whose first bytes are translated. -/
def foldGL (p q : Bool) (l : List UInt8) (k : Nat) : List UInt8 := (l.take k).map (foldG p q) ++ l.drop k
theorem foldGL_zero (p q : Bool) (l : List UInt8) : foldGL p q l 0 = l := by simp [foldGL]
theorem foldGL_all (p q : Bool) (l : List UInt8) : foldGL p q l l.length = foldGT p q l := by simp [foldGL, foldGT]
theorem foldGL_len (p q : Bool) (l : List UInt8) (k : Nat) : (foldGL p q l k).length = l.length := by simp [foldGL]; omega
theorem foldGL_at (p q : Bool) (l : List UInt8) (k i : Nat) : (foldGL p q l k)[i]? = if i < k then (l[i]?).map (foldG p q) else l[i]? := by
  unfold foldGL
  by_cases h : i < k
  · rw [if_pos h]
    by_cases h2 : i < l.length
    · rw [List.getElem?_append_left (by simp; omega), List.getElem?_map, List.getElem?_take, if_pos h]
    · rw [List.getElem?_eq_none (by simp; omega), List.getElem?_eq_none (by omega)]; rfl
  · rw [if_neg h]
    by_cases h2 : k ≤ l.length
    · rw [List.getElem?_append_right (by simp; omega), List.getElem?_drop]
      congr 1
      simp; omega
    · rw [List.getElem?_eq_none (by simp; omega), List.getElem?_eq_none (by omega)]
theorem foldGL_get (p q : Bool) (l : List UInt8) (k : Nat) (h : k < l.length) : (foldGL p q l k)[k]'(by rw [foldGL_len]; exact h) = l[k] := by
  have e := foldGL_at p q l k k
  rw [if_neg (Nat.lt_irrefl k), List.getElem?_eq_getElem (by rw [foldGL_len]; exact h), List.getElem?_eq_getElem h] at e
  exact Option.some.inj e
theorem foldGL_succ (p q : Bool) (l : List UInt8) (k : Nat) (h : k < l.length) : foldGL p q l (k + 1) = (foldGL p q l k).set k (foldG p q l[k]) := by
  apply List.ext_getElem?
  intro i
  rw [foldGL_at, List.getElem?_set, foldGL_at, foldGL_len]
  by_cases e : k = i
  · subst e
    rw [if_pos (by omega), if_pos rfl, if_pos h, List.getElem?_eq_getElem h]; rfl
  · rw [if_neg e]
    by_cases hlt : i < k
    · rw [if_pos (by omega), if_pos hlt]
    · rw [if_neg (by omega), if_neg hlt]
theorem foldGL_same (p q : Bool) (l : List UInt8) (k : Nat) (h : k < l.length) (hs : foldG p q l[k] = l[k]) : foldGL p q l (k + 1) = foldGL p q l k := by
  rw [foldGL_succ p q l k h, hs]
  have := foldGL_get p q l k h
  conv => lhs; rw [← this]
  exact List.set_getElem_self _
theorem foldG_up {q : Bool} {c : UInt8} (h1 : 65 ≤ c.toNat) (h2 : c.toNat ≤ 90) : foldG true q c = c + 32 := by
  unfold foldG
  have e : upG true c = c + 32 := by unfold upG; rw [if_pos ⟨rfl, h1, h2⟩]
  rw [e, if_neg]
  rw [upG_nat h1 h2]; omega
theorem foldG_dash {p : Bool} {c : UInt8} (h : c.toNat = 95 ∨ c.toNat = 46) : foldG p true c = 45 := by
  unfold foldG
  have e : upG p c = c := by unfold upG; rw [if_neg (by omega)]
  rw [e, if_pos ⟨rfl, h⟩]
theorem foldG_not {p q : Bool} {c : UInt8} (h1 : ¬ (p = true ∧ 65 ≤ c.toNat ∧ c.toNat ≤ 90)) (h2 : ¬ (q = true ∧ (c.toNat = 95 ∨ c.toNat = 46))) : foldG p q c = c := by
  unfold foldG
  have e : upG p c = c := by unfold upG; rw [if_neg h1]
  rw [e, if_neg h2]

set_option maxRecDepth 100000 in
set_option maxHeartbeats 3200000 in
theorem sfold_any (h : Int) (p q : Bool) (hp : (bits BinOp.and IntKind.i64 h 1 == 1) = p) (hq : (bits BinOp.and IntKind.i64 h 2 == 2) = q) (s : ByteArray) (hs : s.size ≤ 2147483647) (w : World) :
    Calls Try.prog 31 #[.int .i64 h, .string s] w fun e w' => e = .returned (.string (mkT (foldGT p q s.data.toList))) ∧ Below w.heap.size w w' := by
  have kc := fun W => Lib.run_convert_string_bytes (P := Try.prog) W 9 101 5 s Try.underlying9 Try.underlying101 Try.underlying5
  have hlen : s.data.toList.length = s.size := by simp
  have HL := Lib.hid hlen
  have HMADE := Lib.hid (ByteRow.made w 5 s)
  have HBW := Lib.hid (bytes_below w 5 s)
  generalize hl : s.data.toList = l at HL HMADE hlen ⊢
  clear hl
  have HSZ := Lib.hid (Lib.bytesWorld_size w 5 s)
  clear hlen
  go_enter Try.func31, Try.ntmps31
  go_wp2
  generalize Lib.bytesWorld w 5 s = wb at HMADE HBW HSZ ⊢
  go_loopw [11] (fun i wr => ∃ k : Nat, k ≤ s.size ∧ i = .int .i64 k ∧ Hid (ByteRow wr w.heap.size (foldGL p q l k)) ∧ Hid (Below w.heap.size w wr)) (fun i _ => s.size - (intOf i).toNat)
  case atStart => exact ⟨0, Nat.zero_le _, rfl, by show ByteRow _ _ _; rw [foldGL_zero]; exact HMADE.out, HBW⟩
  case round =>
    clear HMADE HBW
    obtain ⟨k, hk, rfl, HR, HB⟩ := hrel
    have i0 : (0 : Int) ≤ (k : Int) := Int.natCast_nonneg _
    by_cases hlt : k < s.size
    · have i1 : (k : Int) < (s.size : Int) := by omega
      have hkl : k < l.length := by have := HL.out; omega
      have hkf : k < (foldGL p q l k).length := by rw [foldGL_len]; exact hkl
      have hc := HR.out.cell hkf
      have hz := HR.out.free hkf
      rw [foldGL_get p q l k hkl] at hc
      have HY : Hid (ByteRow (wr.setCell ⟨w.heap.size, k, none⟩ (.int .u8 ((foldG p q l[k]).toNat : Int))) w.heap.size (foldGL p q l (k + 1))) := by
        show ByteRow _ _ _
        rw [foldGL_succ p q l k hkl]
        exact HR.out.set k hkf _
      have HX : Hid (foldG p q l[k] = l[k] → ByteRow wr w.heap.size (foldGL p q l (k + 1))) := by
        show _ → _
        intro h
        rw [foldGL_same p q l k hkl h]; exact HR.out
      have hlc : ((l[k].toNat : Nat) : Int) ≤ 255 := by have := UInt8.toNat_lt l[k]; omega
      have HU : Hid (p = true → 65 ≤ l[k].toNat → l[k].toNat ≤ 90 → ((foldG p q l[k]).toNat : Int) = (l[k].toNat : Int) - 65 + 97) := fun a b c => by
        subst a; rw [foldG_up b c, upG_nat b c]; omega
      have HD : Hid (q = true → l[k].toNat = 95 ∨ l[k].toNat = 46 → ((foldG p q l[k]).toNat : Int) = 45) := fun a b => by
        subst a; rw [foldG_dash b]; rfl
      have HN : Hid (¬ (p = true ∧ 65 ≤ l[k].toNat ∧ l[k].toNat ≤ 90) → ¬ (q = true ∧ (l[k].toNat = 95 ∨ l[k].toNat = 46)) → foldG p q l[k] = l[k]) := fun a b => foldG_not a b
      generalize foldG p q l[k] = d at HY HX HU HD HN
      generalize l[k] = c at hc HX hlc HU HD HN
      clear hkl hkf
      by_cases hA : p = true ∧ 65 ≤ c.toNat ∧ c.toNat ≤ 90
      · obtain ⟨a0, a1, a2⟩ := hA
        have a3 : (65 : Int) ≤ (c.toNat : Int) := by omega
        have a4 : (c.toNat : Int) ≤ 90 := by omega
        have HE := Lib.hid (HU.out a0 a1 a2)
        have b0 : (((c.toNat : Int) - 65 + 97) == 95) = false := by simp only [beq_eq_false_iff_ne]; omega
        have b1 : (((c.toNat : Int) - 65 + 97) == 46) = false := by simp only [beq_eq_false_iff_ne]; omega
        clear a1 a2
        subst a0
        cases q
        · go_wp2
          go_roundw
          case rel => first | exact ⟨k + 1, by omega, by go_num, (by have := HY.out; rw [HE.out] at this; exact this), HB.out.setCell (p := ⟨w.heap.size, k, none⟩) (Nat.le_refl _) _⟩ | exact ⟨_, ⟨k + 1, by omega, by go_num, (by have := HY.out; rw [HE.out] at this; exact this), HB.out.setCell (p := ⟨w.heap.size, k, none⟩) (Nat.le_refl _) _⟩, rfl⟩ | exact ⟨_, _, ⟨k + 1, by omega, by go_num, (by have := HY.out; rw [HE.out] at this; exact this), HB.out.setCell (p := ⟨w.heap.size, k, none⟩) (Nat.le_refl _) _⟩, rfl, rfl⟩ | exact ⟨_, _, _, ⟨k + 1, by omega, by go_num, (by have := HY.out; rw [HE.out] at this; exact this), HB.out.setCell (p := ⟨w.heap.size, k, none⟩) (Nat.le_refl _) _⟩, rfl, rfl, rfl⟩ | exact ⟨_, _, _, _, ⟨k + 1, by omega, by go_num, (by have := HY.out; rw [HE.out] at this; exact this), HB.out.setCell (p := ⟨w.heap.size, k, none⟩) (Nat.le_refl _) _⟩, rfl, rfl, rfl, rfl⟩
          case measure => simp [intOf]; omega
        · go_wp2
          go_roundw
          case rel => first | exact ⟨k + 1, by omega, by go_num, (by have := HY.out; rw [HE.out] at this; exact this), HB.out.setCell (p := ⟨w.heap.size, k, none⟩) (Nat.le_refl _) _⟩ | exact ⟨_, ⟨k + 1, by omega, by go_num, (by have := HY.out; rw [HE.out] at this; exact this), HB.out.setCell (p := ⟨w.heap.size, k, none⟩) (Nat.le_refl _) _⟩, rfl⟩ | exact ⟨_, _, ⟨k + 1, by omega, by go_num, (by have := HY.out; rw [HE.out] at this; exact this), HB.out.setCell (p := ⟨w.heap.size, k, none⟩) (Nat.le_refl _) _⟩, rfl, rfl⟩ | exact ⟨_, _, _, ⟨k + 1, by omega, by go_num, (by have := HY.out; rw [HE.out] at this; exact this), HB.out.setCell (p := ⟨w.heap.size, k, none⟩) (Nat.le_refl _) _⟩, rfl, rfl, rfl⟩ | exact ⟨_, _, _, _, ⟨k + 1, by omega, by go_num, (by have := HY.out; rw [HE.out] at this; exact this), HB.out.setCell (p := ⟨w.heap.size, k, none⟩) (Nat.le_refl _) _⟩, rfl, rfl, rfl, rfl⟩
          case measure => simp [intOf]; omega
      · have HA := Lib.hid hA
        by_cases hC : q = true ∧ (c.toNat = 95 ∨ c.toNat = 46)
        · obtain ⟨q0, q1⟩ := hC
          have HE := Lib.hid (HD.out q0 q1)
          subst q0
          have a9 : (c.toNat : Int) = 95 ∨ (c.toNat : Int) = 46 := by omega
          clear q1
          rcases a9 with a9 | a9
          · have b0 : ((c.toNat : Int) == 95) = true := by rw [a9]; rfl
            have a3 : (90 : Int) < (c.toNat : Int) := by omega
            have a5 : (65 : Int) ≤ (c.toNat : Int) := by omega
            clear hA a9
            cases p
            · go_wp2
              go_roundw
              case rel => first | exact ⟨k + 1, by omega, by go_num, (by have := HY.out; rw [HE.out] at this; exact this), HB.out.setCell (p := ⟨w.heap.size, k, none⟩) (Nat.le_refl _) _⟩ | exact ⟨_, ⟨k + 1, by omega, by go_num, (by have := HY.out; rw [HE.out] at this; exact this), HB.out.setCell (p := ⟨w.heap.size, k, none⟩) (Nat.le_refl _) _⟩, rfl⟩ | exact ⟨_, _, ⟨k + 1, by omega, by go_num, (by have := HY.out; rw [HE.out] at this; exact this), HB.out.setCell (p := ⟨w.heap.size, k, none⟩) (Nat.le_refl _) _⟩, rfl, rfl⟩ | exact ⟨_, _, _, ⟨k + 1, by omega, by go_num, (by have := HY.out; rw [HE.out] at this; exact this), HB.out.setCell (p := ⟨w.heap.size, k, none⟩) (Nat.le_refl _) _⟩, rfl, rfl, rfl⟩ | exact ⟨_, _, _, _, ⟨k + 1, by omega, by go_num, (by have := HY.out; rw [HE.out] at this; exact this), HB.out.setCell (p := ⟨w.heap.size, k, none⟩) (Nat.le_refl _) _⟩, rfl, rfl, rfl, rfl⟩
              case measure => simp [intOf]; omega
            · go_wp2
              go_roundw
              case rel => first | exact ⟨k + 1, by omega, by go_num, (by have := HY.out; rw [HE.out] at this; exact this), HB.out.setCell (p := ⟨w.heap.size, k, none⟩) (Nat.le_refl _) _⟩ | exact ⟨_, ⟨k + 1, by omega, by go_num, (by have := HY.out; rw [HE.out] at this; exact this), HB.out.setCell (p := ⟨w.heap.size, k, none⟩) (Nat.le_refl _) _⟩, rfl⟩ | exact ⟨_, _, ⟨k + 1, by omega, by go_num, (by have := HY.out; rw [HE.out] at this; exact this), HB.out.setCell (p := ⟨w.heap.size, k, none⟩) (Nat.le_refl _) _⟩, rfl, rfl⟩ | exact ⟨_, _, _, ⟨k + 1, by omega, by go_num, (by have := HY.out; rw [HE.out] at this; exact this), HB.out.setCell (p := ⟨w.heap.size, k, none⟩) (Nat.le_refl _) _⟩, rfl, rfl, rfl⟩ | exact ⟨_, _, _, _, ⟨k + 1, by omega, by go_num, (by have := HY.out; rw [HE.out] at this; exact this), HB.out.setCell (p := ⟨w.heap.size, k, none⟩) (Nat.le_refl _) _⟩, rfl, rfl, rfl, rfl⟩
              case measure => simp [intOf]; omega
          · have b0 : ((c.toNat : Int) == 95) = false := by rw [a9]; rfl
            have b1 : ((c.toNat : Int) == 46) = true := by rw [a9]; rfl
            have a3 : (c.toNat : Int) < 65 := by omega
            clear hA a9
            cases p
            · go_wp2
              go_roundw
              case rel => first | exact ⟨k + 1, by omega, by go_num, (by have := HY.out; rw [HE.out] at this; exact this), HB.out.setCell (p := ⟨w.heap.size, k, none⟩) (Nat.le_refl _) _⟩ | exact ⟨_, ⟨k + 1, by omega, by go_num, (by have := HY.out; rw [HE.out] at this; exact this), HB.out.setCell (p := ⟨w.heap.size, k, none⟩) (Nat.le_refl _) _⟩, rfl⟩ | exact ⟨_, _, ⟨k + 1, by omega, by go_num, (by have := HY.out; rw [HE.out] at this; exact this), HB.out.setCell (p := ⟨w.heap.size, k, none⟩) (Nat.le_refl _) _⟩, rfl, rfl⟩ | exact ⟨_, _, _, ⟨k + 1, by omega, by go_num, (by have := HY.out; rw [HE.out] at this; exact this), HB.out.setCell (p := ⟨w.heap.size, k, none⟩) (Nat.le_refl _) _⟩, rfl, rfl, rfl⟩ | exact ⟨_, _, _, _, ⟨k + 1, by omega, by go_num, (by have := HY.out; rw [HE.out] at this; exact this), HB.out.setCell (p := ⟨w.heap.size, k, none⟩) (Nat.le_refl _) _⟩, rfl, rfl, rfl, rfl⟩
              case measure => simp [intOf]; omega
            · go_wp2
              go_roundw
              case rel => first | exact ⟨k + 1, by omega, by go_num, (by have := HY.out; rw [HE.out] at this; exact this), HB.out.setCell (p := ⟨w.heap.size, k, none⟩) (Nat.le_refl _) _⟩ | exact ⟨_, ⟨k + 1, by omega, by go_num, (by have := HY.out; rw [HE.out] at this; exact this), HB.out.setCell (p := ⟨w.heap.size, k, none⟩) (Nat.le_refl _) _⟩, rfl⟩ | exact ⟨_, _, ⟨k + 1, by omega, by go_num, (by have := HY.out; rw [HE.out] at this; exact this), HB.out.setCell (p := ⟨w.heap.size, k, none⟩) (Nat.le_refl _) _⟩, rfl, rfl⟩ | exact ⟨_, _, _, ⟨k + 1, by omega, by go_num, (by have := HY.out; rw [HE.out] at this; exact this), HB.out.setCell (p := ⟨w.heap.size, k, none⟩) (Nat.le_refl _) _⟩, rfl, rfl, rfl⟩ | exact ⟨_, _, _, _, ⟨k + 1, by omega, by go_num, (by have := HY.out; rw [HE.out] at this; exact this), HB.out.setCell (p := ⟨w.heap.size, k, none⟩) (Nat.le_refl _) _⟩, rfl, rfl, rfl, rfl⟩
              case measure => simp [intOf]; omega
        · have HE := Lib.hid (HN.out hA hC)
          have b0 : q = true → ((c.toNat : Int) == 95) = false := fun h => nat_beq_false (b := 95) (fun e => hC ⟨h, .inl e⟩)
          have b1 : q = true → ((c.toNat : Int) == 46) = false := fun h => nat_beq_false (b := 46) (fun e => hC ⟨h, .inr e⟩)
          have a3 : p = true → (c.toNat : Int) < 65 ∨ ((65 : Int) ≤ (c.toNat : Int) ∧ (90 : Int) < (c.toNat : Int)) := fun h => by
            by_cases h65 : 65 ≤ c.toNat
            · exact .inr ⟨by omega, by have : ¬ c.toNat ≤ 90 := fun h9 => hA ⟨h, h65, h9⟩; omega⟩
            · exact .inl (by omega)
          clear hA hC
          cases q
          · clear b0 b1
            cases p
            · go_wp2
              go_roundw
              case rel => first | exact ⟨k + 1, by omega, by go_num, HX.out HE.out, HB⟩ | exact ⟨_, ⟨k + 1, by omega, by go_num, HX.out HE.out, HB⟩, rfl⟩ | exact ⟨_, _, ⟨k + 1, by omega, by go_num, HX.out HE.out, HB⟩, rfl, rfl⟩ | exact ⟨_, _, _, ⟨k + 1, by omega, by go_num, HX.out HE.out, HB⟩, rfl, rfl, rfl⟩ | exact ⟨_, _, _, _, ⟨k + 1, by omega, by go_num, HX.out HE.out, HB⟩, rfl, rfl, rfl, rfl⟩
              case measure => simp [intOf]; omega
            · rcases a3 rfl with a3 | ⟨a3, a4⟩
              · go_wp2
                go_roundw
                case rel => first | exact ⟨k + 1, by omega, by go_num, HX.out HE.out, HB⟩ | exact ⟨_, ⟨k + 1, by omega, by go_num, HX.out HE.out, HB⟩, rfl⟩ | exact ⟨_, _, ⟨k + 1, by omega, by go_num, HX.out HE.out, HB⟩, rfl, rfl⟩ | exact ⟨_, _, _, ⟨k + 1, by omega, by go_num, HX.out HE.out, HB⟩, rfl, rfl, rfl⟩ | exact ⟨_, _, _, _, ⟨k + 1, by omega, by go_num, HX.out HE.out, HB⟩, rfl, rfl, rfl, rfl⟩
                case measure => simp [intOf]; omega
              · go_wp2
                go_roundw
                case rel => first | exact ⟨k + 1, by omega, by go_num, HX.out HE.out, HB⟩ | exact ⟨_, ⟨k + 1, by omega, by go_num, HX.out HE.out, HB⟩, rfl⟩ | exact ⟨_, _, ⟨k + 1, by omega, by go_num, HX.out HE.out, HB⟩, rfl, rfl⟩ | exact ⟨_, _, _, ⟨k + 1, by omega, by go_num, HX.out HE.out, HB⟩, rfl, rfl, rfl⟩ | exact ⟨_, _, _, _, ⟨k + 1, by omega, by go_num, HX.out HE.out, HB⟩, rfl, rfl, rfl, rfl⟩
                case measure => simp [intOf]; omega
          · have b0 := b0 rfl
            have b1 := b1 rfl
            cases p
            · go_wp2
              go_roundw
              case rel => first | exact ⟨k + 1, by omega, by go_num, HX.out HE.out, HB⟩ | exact ⟨_, ⟨k + 1, by omega, by go_num, HX.out HE.out, HB⟩, rfl⟩ | exact ⟨_, _, ⟨k + 1, by omega, by go_num, HX.out HE.out, HB⟩, rfl, rfl⟩ | exact ⟨_, _, _, ⟨k + 1, by omega, by go_num, HX.out HE.out, HB⟩, rfl, rfl, rfl⟩ | exact ⟨_, _, _, _, ⟨k + 1, by omega, by go_num, HX.out HE.out, HB⟩, rfl, rfl, rfl, rfl⟩
              case measure => simp [intOf]; omega
            · rcases a3 rfl with a3 | ⟨a3, a4⟩
              · go_wp2
                go_roundw
                case rel => first | exact ⟨k + 1, by omega, by go_num, HX.out HE.out, HB⟩ | exact ⟨_, ⟨k + 1, by omega, by go_num, HX.out HE.out, HB⟩, rfl⟩ | exact ⟨_, _, ⟨k + 1, by omega, by go_num, HX.out HE.out, HB⟩, rfl, rfl⟩ | exact ⟨_, _, _, ⟨k + 1, by omega, by go_num, HX.out HE.out, HB⟩, rfl, rfl, rfl⟩ | exact ⟨_, _, _, _, ⟨k + 1, by omega, by go_num, HX.out HE.out, HB⟩, rfl, rfl, rfl, rfl⟩
                case measure => simp [intOf]; omega
              · go_wp2
                go_roundw
                case rel => first | exact ⟨k + 1, by omega, by go_num, HX.out HE.out, HB⟩ | exact ⟨_, ⟨k + 1, by omega, by go_num, HX.out HE.out, HB⟩, rfl⟩ | exact ⟨_, _, ⟨k + 1, by omega, by go_num, HX.out HE.out, HB⟩, rfl, rfl⟩ | exact ⟨_, _, _, ⟨k + 1, by omega, by go_num, HX.out HE.out, HB⟩, rfl, rfl, rfl⟩ | exact ⟨_, _, _, _, ⟨k + 1, by omega, by go_num, HX.out HE.out, HB⟩, rfl, rfl, rfl, rfl⟩
                case measure => simp [intOf]; omega
    · have e : k = s.size := by omega
      subst e
      have HBY := HR.out.bytes
      have hml : (mkT (foldGL p q l s.size)).size = s.size := by rw [mkT_size, foldGL_len, HL.out]
      have HFA : Hid (foldGL p q l s.size = foldGT p q l) := by show _ = _; rw [← HL.out]; exact foldGL_all p q l
      rw [HFA.out] at HBY hml
      have kb := fun cap => Lib.run_convert_whole (P := Try.prog) wr 101 5 9 Try.underlying101 Try.underlying5 Try.underlying9 w.heap.size 0 (mkT (foldGT p q l)) HBY cap
      rw [hml] at kb
      clear HBY hml
      go_wp2
      go_ret
      exact ⟨rfl, HB.out⟩

theorem foldBits (k : Nat) (hk : k ≤ 3) : (bits BinOp.and IntKind.i64 (k : Int) 1 == 1) = decide (k = 1 ∨ k = 3) ∧ (bits BinOp.and IntKind.i64 (k : Int) 2 == 2) = decide (k = 2 ∨ k = 3) := by
  match k, hk with
  | 0, _ => exact ⟨rfl, rfl⟩
  | 1, _ => exact ⟨rfl, rfl⟩
  | 2, _ => exact ⟨rfl, rfl⟩
  | 3, _ => exact ⟨rfl, rfl⟩
  | k + 4, h => omega
theorem sfold_nat (k : Nat) (hk : k ≤ 3) (s : ByteArray) (hs : s.size ≤ 2147483647) (w : World) :
    Calls Try.prog 31 #[.int .i64 (k : Int), .string s] w fun e w' => e = .returned (.string (mkT (foldT k s.data.toList))) ∧ Below w.heap.size w w' := by
  have h := sfold_any (k : Int) _ _ (foldBits k hk).1 (foldBits k hk).2 s hs w
  rw [foldGT_eq] at h
  exact h
end Go.Proofs.Ytgmhhdpggnmipaa.E
