/- Blocks of memory, names as they are folded, and small functions of a set of flags, over this seat's program. -/
import Derived.Test.YtgmhhdpggnmipaaPMap
import Derived.Test.YtgmhhdpggnmipaaPar
import Derived.Test.YtgmhhdpggnmipaaParts
import Derived.Test.YtgmhhdpggnmipaaStripB
import Derived.Lib.SlBytesRow
import Derived.RegionTactic
namespace Go.Proofs.Ytgmhhdpggnmipaa.E
open Go.RowKit Go.Proofs
set_option linter.unusedVariables false
set_option linter.unusedSimpArgs false

/-! ### blocks that are known whole -/
theorem cell_blk {w : World} {b : Nat} {cs : Array Value} {t : TypeId} {fr : Nat × Nat} (h : w.heap[b]? = some (.cells cs t fr)) (i : Nat) : w.cell? ⟨b, i, none⟩ = cs[i]? := by
  simp [World.cell?, h]
theorem free_blk {w : World} {b : Nat} {cs : Array Value} {t : TypeId} (h : w.heap[b]? = some (.cells cs t (0, 0))) (i : Nat) : w.frozen? ⟨b, i, none⟩ = false := by
  simp [World.frozen?, h]
theorem blk_set {w : World} {b : Nat} {cs : Array Value} {t : TypeId} {fr : Nat × Nat} (h : w.heap[b]? = some (.cells cs t fr)) (i : Nat) (v : Value) : (w.setCell ⟨b, i, none⟩ v).heap[b]? = some (.cells (cs.setIfInBounds i v) t fr) := by
  show (w.heap.modify b _)[b]? = _
  rw [Array.getElem?_modify, if_pos rfl, h]
  simp
theorem blk_other {w : World} {b : Nat} {a : Addr} {v : Value} (h : b ≠ a.block) : (w.setCell a v).heap[b]? = w.heap[b]? := Below.heap_setCell _ _ _ _ h
theorem blk_ne {w : World} {b c : Nat} {o1 o2 : Obj} (h1 : w.heap[b]? = some o1) (h2 : w.heap[c]? = some o2) (h : o1 ≠ o2) : b ≠ c := by
  rintro rfl; rw [h1] at h2; exact h (Option.some.inj h2)

/-! ### rows of bytes -/
/-- The first cells of a block are these bytes; they may be written. -/
def ByteRow (w : World) (g : Nat) (L : List UInt8) : Prop := ∃ cs e n, w.heap[g]? = some (.cells cs e (n, n + 1)) ∧ L.length ≤ n ∧ n ≤ cs.size ∧ ∀ j (h : j < L.length), cs[j]? = some (.int .u8 (L[j].toNat : Int))
theorem ByteRow.cell {w : World} {g : Nat} {L : List UInt8} (h : ByteRow w g L) {j : Nat} (hj : j < L.length) : w.cell? ⟨g, j, none⟩ = some (.int .u8 (L[j].toNat : Int)) := by
  obtain ⟨cs, e, n, h1, _, _, h2⟩ := h
  rw [cell_blk h1, h2 j hj]
theorem ByteRow.free {w : World} {g : Nat} {L : List UInt8} (h : ByteRow w g L) {j : Nat} (hj : j < L.length) : w.frozen? ⟨g, j, none⟩ = false := by
  obtain ⟨cs, e, n, h1, hn, _⟩ := h
  simp [World.frozen?, h1]; omega
theorem ByteRow.kept {w w' : World} {g : Nat} {L : List UInt8} (h : ByteRow w g L) (hb : w'.heap[g]? = w.heap[g]?) : ByteRow w' g L := by
  obtain ⟨cs, e, n, h1, h2⟩ := h
  exact ⟨cs, e, n, hb.trans h1, h2⟩
theorem ByteRow.set {w : World} {g : Nat} {L : List UInt8} (h : ByteRow w g L) (j : Nat) (hj : j < L.length) (c : UInt8) : ByteRow (w.setCell ⟨g, j, none⟩ (.int .u8 (c.toNat : Int))) g (L.set j c) := by
  obtain ⟨cs, e, n, h1, h2, h3, h4⟩ := h
  refine ⟨cs.setIfInBounds j (.int .u8 (c.toNat : Int)), e, n, blk_set h1 _ _, by simpa using h2, by simpa using h3, ?_⟩
  intro i hi
  have hi2 : i < L.length := by simpa using hi
  rw [Array.getElem?_setIfInBounds]
  by_cases hij : j = i
  · subst hij
    rw [if_pos rfl, if_pos (by omega)]
    simp
  · rw [if_neg hij, h4 i hi2, List.getElem_set_ne hij]
theorem ByteRow.made (w : World) (e : TypeId) (s : ByteArray) : ByteRow (Lib.bytesWorld w e s) w.heap.size s.data.toList := by
  refine ⟨_, _, _, Lib.bytesWorld_at_new w e s, ?_, Nat.le_refl _, ?_⟩
  · simp [Lib.bytesCells]
  · intro j hj
    have hj2 : j < s.data.size := by simpa using hj
    simp at hj
    simp [Lib.bytesCells, Array.getElem?_append, hj]

theorem ByteRow.bytes {w : World} {g : Nat} {L : List UInt8} (h : ByteRow w g L) : Lib.Bytes w g 0 (mkT L) := by
  intro i hi
  rw [mkT_size] at hi
  rw [Nat.zero_add, h.cell hi]
  rw [bget (by rw [mkT_size]; exact hi)]
  simp [mkT_list]

/-- A text whose first bytes are folded. -/
def foldL (f : Nat) (l : List UInt8) (k : Nat) : List UInt8 := (l.take k).map (foldB f) ++ l.drop k
theorem foldL_zero (f : Nat) (l : List UInt8) : foldL f l 0 = l := by simp [foldL]
theorem foldL_all (f : Nat) (l : List UInt8) : foldL f l l.length = foldT f l := by simp [foldL, foldT]
theorem foldL_len (f : Nat) (l : List UInt8) (k : Nat) : (foldL f l k).length = l.length := by simp [foldL]; omega
theorem foldL_at (f : Nat) (l : List UInt8) (k i : Nat) : (foldL f l k)[i]? = if i < k then (l[i]?).map (foldB f) else l[i]? := by
  unfold foldL
  by_cases h : i < k
  · rw [if_pos h]
    by_cases h2 : i < l.length
    · rw [List.getElem?_append_left (by simp; omega), List.getElem?_map, List.getElem?_take, if_pos h]
    · rw [List.getElem?_eq_none (by simp; omega), List.getElem?_eq_none (by omega)]; rfl
  · rw [if_neg h]
    by_cases h2 : k ≤ l.length
    · rw [List.getElem?_append_right (by simp; omega), List.getElem?_drop]
      congr 1
      simp; omega
    · rw [List.getElem?_eq_none (by simp; omega), List.getElem?_eq_none (by omega)]
theorem foldL_get (f : Nat) (l : List UInt8) (k : Nat) (h : k < l.length) : (foldL f l k)[k]'(by rw [foldL_len]; exact h) = l[k] := by
  have e := foldL_at f l k k
  rw [if_neg (Nat.lt_irrefl k), List.getElem?_eq_getElem (by rw [foldL_len]; exact h), List.getElem?_eq_getElem h] at e
  exact Option.some.inj e
theorem foldL_succ (f : Nat) (l : List UInt8) (k : Nat) (h : k < l.length) : foldL f l (k + 1) = (foldL f l k).set k (foldB f l[k]) := by
  apply List.ext_getElem?
  intro i
  rw [foldL_at, List.getElem?_set, foldL_at, foldL_len]
  by_cases e : k = i
  · subst e
    rw [if_pos (by omega), if_pos rfl, if_pos h, List.getElem?_eq_getElem h]; rfl
  · rw [if_neg e]
    by_cases hlt : i < k
    · rw [if_pos (by omega), if_pos hlt]
    · rw [if_neg (by omega), if_neg hlt]
theorem foldL_same (f : Nat) (l : List UInt8) (k : Nat) (h : k < l.length) (hs : foldB f l[k] = l[k]) : foldL f l (k + 1) = foldL f l k := by
  rw [foldL_succ f l k h, hs]
  have := foldL_get f l k h
  conv => lhs; rw [← this]
  exact List.set_getElem_self _
theorem foldB_up {f : Nat} (hf : f = 1 ∨ f = 3) {c : UInt8} (h1 : 65 ≤ c.toNat) (h2 : c.toNat ≤ 90) : ((foldB f c).toNat : Int) = (c.toNat : Int) + 32 := by
  unfold foldB
  rw [if_pos ⟨hf, h1, h2⟩]
  rw [UInt8.toNat_add]
  show (((c.toNat + 32) % 256 : Nat) : Int) = _
  omega
theorem foldB_dash {f : Nat} (hf : f = 2 ∨ f = 3) {c : UInt8} (h : c.toNat = 95 ∨ c.toNat = 46) : ((foldB f c).toNat : Int) = 45 := by
  unfold foldB
  rw [if_neg (by omega), if_pos ⟨hf, h⟩]; rfl
theorem foldB_not {f : Nat} {c : UInt8} (h1 : ¬ ((f = 1 ∨ f = 3) ∧ 65 ≤ c.toNat ∧ c.toNat ≤ 90)) (h2 : ¬ ((f = 2 ∨ f = 3) ∧ (c.toNat = 95 ∨ c.toNat = 46))) : foldB f c = c := by
  unfold foldB
  rw [if_neg h1, if_neg h2]
theorem foldT_zero (l : List UInt8) : foldT 0 l = l := by
  unfold foldT
  have : ∀ c, foldB 0 c = c := fun c => foldB_not (by omega) (by omega)
  induction l with
  | nil => rfl
  | cons c r ih => simp [this]; exact ih
theorem nat_beq_false {a b : Nat} (h : a ≠ b) : ((a : Int) == (b : Int)) = false := by simp; omega

set_option maxRecDepth 100000 in
set_option maxHeartbeats 1600000 in
theorem folded_any (f : Nat) (hf : f = 1 ∨ f = 2 ∨ f = 3) (s : ByteArray) (hs : s.size ≤ 17179869184) (w : World) :
    Calls Try.prog 74 #[.int .i64 f, .string s] w fun e w' => e = .returned (.string (mkT (foldT f s.data.toList))) ∧ Below w.heap.size w w' := by
  have kc := fun W => Lib.run_convert_string_bytes (P := Try.prog) W 9 101 5 s Try.underlying9 Try.underlying101 Try.underlying5
  have hlen : s.data.toList.length = s.size := by simp
  have HL := Lib.hid hlen
  have HMADE := Lib.hid (ByteRow.made w 5 s)
  have HBW := Lib.hid (bytes_below w 5 s)
  generalize hl : s.data.toList = l at HL HMADE hlen ⊢
  clear hl
  have HSZ := Lib.hid (Lib.bytesWorld_size w 5 s)
  clear hlen
  go_enter Try.func74, Try.ntmps74
  go_wp2
  generalize Lib.bytesWorld w 5 s = wb at HMADE HBW HSZ ⊢
  go_loopw [12] (fun i wr => ∃ k : Nat, k ≤ s.size ∧ i = .int .i64 k ∧ Hid (ByteRow wr w.heap.size (foldL f l k)) ∧ Hid (Below w.heap.size w wr)) (fun i _ => s.size - (intOf i).toNat)
  case atStart => exact ⟨0, Nat.zero_le _, rfl, by show ByteRow _ _ _; rw [foldL_zero]; exact HMADE.out, HBW⟩
  case round =>
    clear HMADE HBW
    obtain ⟨k, hk, rfl, HR, HB⟩ := hrel
    have i0 : (0 : Int) ≤ (k : Int) := Int.natCast_nonneg _
    by_cases hlt : k < s.size
    · have i1 : (k : Int) < (s.size : Int) := by omega
      have hkl : k < l.length := by have := HL.out; omega
      have hkf : k < (foldL f l k).length := by rw [foldL_len]; exact hkl
      have hc := HR.out.cell hkf
      have hz := HR.out.free hkf
      rw [foldL_get f l k hkl] at hc
      have HY : Hid (ByteRow (wr.setCell ⟨w.heap.size, k, none⟩ (.int .u8 ((foldB f l[k]).toNat : Int))) w.heap.size (foldL f l (k + 1))) := by
        show ByteRow _ _ _
        rw [foldL_succ f l k hkl]
        exact HR.out.set k hkf _
      have HX : Hid (foldB f l[k] = l[k] → ByteRow wr w.heap.size (foldL f l (k + 1))) := by
        show _ → _
        intro h
        rw [foldL_same f l k hkl h]; exact HR.out
      have hlc : ((l[k].toNat : Nat) : Int) ≤ 255 := by have := UInt8.toNat_lt l[k]; omega
      have HU : Hid (f = 1 ∨ f = 3 → 65 ≤ l[k].toNat → l[k].toNat ≤ 90 → ((foldB f l[k]).toNat : Int) = (l[k].toNat : Int) + 32) := fun a b c => foldB_up a b c
      have HD : Hid (f = 2 ∨ f = 3 → l[k].toNat = 95 ∨ l[k].toNat = 46 → ((foldB f l[k]).toNat : Int) = 45) := fun a b => foldB_dash a b
      have HN : Hid (¬ ((f = 1 ∨ f = 3) ∧ 65 ≤ l[k].toNat ∧ l[k].toNat ≤ 90) → ¬ ((f = 2 ∨ f = 3) ∧ (l[k].toNat = 95 ∨ l[k].toNat = 46)) → foldB f l[k] = l[k]) := fun a b => foldB_not a b
      generalize foldB f l[k] = d at HY HX HU HD HN
      generalize l[k] = c at hc HX hlc HU HD HN
      clear hkl hkf
      rcases hf with rfl | rfl | rfl
      · by_cases hA : 65 ≤ c.toNat ∧ c.toNat ≤ 90
        · obtain ⟨a1, a2⟩ := hA
          have a3 : (65 : Int) ≤ (c.toNat : Int) := by omega
          have a4 : (c.toNat : Int) ≤ 90 := by omega
          have HE := Lib.hid (HU.out (by omega) a1 a2)
          clear a1 a2
          go_wp2
          go_roundw
          case rel => first | exact ⟨k + 1, by omega, by go_num, (by have := HY.out; rw [HE.out] at this; exact this), HB.out.setCell (p := ⟨w.heap.size, k, none⟩) (Nat.le_refl _) _⟩ | exact ⟨_, ⟨k + 1, by omega, by go_num, (by have := HY.out; rw [HE.out] at this; exact this), HB.out.setCell (p := ⟨w.heap.size, k, none⟩) (Nat.le_refl _) _⟩, rfl⟩ | exact ⟨_, _, ⟨k + 1, by omega, by go_num, (by have := HY.out; rw [HE.out] at this; exact this), HB.out.setCell (p := ⟨w.heap.size, k, none⟩) (Nat.le_refl _) _⟩, rfl, rfl⟩ | exact ⟨_, _, _, ⟨k + 1, by omega, by go_num, (by have := HY.out; rw [HE.out] at this; exact this), HB.out.setCell (p := ⟨w.heap.size, k, none⟩) (Nat.le_refl _) _⟩, rfl, rfl, rfl⟩ | exact ⟨_, _, _, _, ⟨k + 1, by omega, by go_num, (by have := HY.out; rw [HE.out] at this; exact this), HB.out.setCell (p := ⟨w.heap.size, k, none⟩) (Nat.le_refl _) _⟩, rfl, rfl, rfl, rfl⟩ | exact ⟨_, _, _, _, _, ⟨k + 1, by omega, by go_num, (by have := HY.out; rw [HE.out] at this; exact this), HB.out.setCell (p := ⟨w.heap.size, k, none⟩) (Nat.le_refl _) _⟩, rfl, rfl, rfl, rfl, rfl⟩
          case measure => simp [intOf]; omega
        · have HE := Lib.hid (HN.out (by omega) (by omega))
          by_cases h65 : 65 ≤ c.toNat
          · have a3 : (65 : Int) ≤ (c.toNat : Int) := by omega
            have a4 : (90 : Int) < (c.toNat : Int) := by omega
            clear hA h65
            go_wp2
            go_roundw
            case rel => first | exact ⟨k + 1, by omega, by go_num, HX.out HE.out, HB⟩ | exact ⟨_, ⟨k + 1, by omega, by go_num, HX.out HE.out, HB⟩, rfl⟩ | exact ⟨_, _, ⟨k + 1, by omega, by go_num, HX.out HE.out, HB⟩, rfl, rfl⟩ | exact ⟨_, _, _, ⟨k + 1, by omega, by go_num, HX.out HE.out, HB⟩, rfl, rfl, rfl⟩ | exact ⟨_, _, _, _, ⟨k + 1, by omega, by go_num, HX.out HE.out, HB⟩, rfl, rfl, rfl, rfl⟩ | exact ⟨_, _, _, _, _, ⟨k + 1, by omega, by go_num, HX.out HE.out, HB⟩, rfl, rfl, rfl, rfl, rfl⟩ | exact ⟨k + 1, by omega, by go_num, HX.out HE.out⟩ | exact ⟨_, ⟨k + 1, by omega, by go_num, HX.out HE.out⟩, rfl⟩ | exact ⟨_, _, ⟨k + 1, by omega, by go_num, HX.out HE.out⟩, rfl, rfl⟩ | exact ⟨_, _, _, ⟨k + 1, by omega, by go_num, HX.out HE.out⟩, rfl, rfl, rfl⟩ | exact ⟨_, _, _, _, ⟨k + 1, by omega, by go_num, HX.out HE.out⟩, rfl, rfl, rfl, rfl⟩ | exact ⟨_, _, _, _, _, ⟨k + 1, by omega, by go_num, HX.out HE.out⟩, rfl, rfl, rfl, rfl, rfl⟩
            case measure => simp [intOf]; omega
          · have a3 : (c.toNat : Int) < 65 := by omega
            clear hA h65
            go_wp2
            go_roundw
            case rel => first | exact ⟨k + 1, by omega, by go_num, HX.out HE.out, HB⟩ | exact ⟨_, ⟨k + 1, by omega, by go_num, HX.out HE.out, HB⟩, rfl⟩ | exact ⟨_, _, ⟨k + 1, by omega, by go_num, HX.out HE.out, HB⟩, rfl, rfl⟩ | exact ⟨_, _, _, ⟨k + 1, by omega, by go_num, HX.out HE.out, HB⟩, rfl, rfl, rfl⟩ | exact ⟨_, _, _, _, ⟨k + 1, by omega, by go_num, HX.out HE.out, HB⟩, rfl, rfl, rfl, rfl⟩ | exact ⟨_, _, _, _, _, ⟨k + 1, by omega, by go_num, HX.out HE.out, HB⟩, rfl, rfl, rfl, rfl, rfl⟩ | exact ⟨k + 1, by omega, by go_num, HX.out HE.out⟩ | exact ⟨_, ⟨k + 1, by omega, by go_num, HX.out HE.out⟩, rfl⟩ | exact ⟨_, _, ⟨k + 1, by omega, by go_num, HX.out HE.out⟩, rfl, rfl⟩ | exact ⟨_, _, _, ⟨k + 1, by omega, by go_num, HX.out HE.out⟩, rfl, rfl, rfl⟩ | exact ⟨_, _, _, _, ⟨k + 1, by omega, by go_num, HX.out HE.out⟩, rfl, rfl, rfl, rfl⟩ | exact ⟨_, _, _, _, _, ⟨k + 1, by omega, by go_num, HX.out HE.out⟩, rfl, rfl, rfl, rfl, rfl⟩
            case measure => simp [intOf]; omega
      · by_cases hA : c.toNat = 95
        · have HE := Lib.hid (HD.out (by omega) (by omega))
          have b0 : ((c.toNat : Int) == 95) = true := by rw [hA]; rfl
          clear hA
          go_wp2
          go_roundw
          case rel => first | exact ⟨k + 1, by omega, by go_num, (by have := HY.out; rw [HE.out] at this; exact this), HB.out.setCell (p := ⟨w.heap.size, k, none⟩) (Nat.le_refl _) _⟩ | exact ⟨_, ⟨k + 1, by omega, by go_num, (by have := HY.out; rw [HE.out] at this; exact this), HB.out.setCell (p := ⟨w.heap.size, k, none⟩) (Nat.le_refl _) _⟩, rfl⟩ | exact ⟨_, _, ⟨k + 1, by omega, by go_num, (by have := HY.out; rw [HE.out] at this; exact this), HB.out.setCell (p := ⟨w.heap.size, k, none⟩) (Nat.le_refl _) _⟩, rfl, rfl⟩ | exact ⟨_, _, _, ⟨k + 1, by omega, by go_num, (by have := HY.out; rw [HE.out] at this; exact this), HB.out.setCell (p := ⟨w.heap.size, k, none⟩) (Nat.le_refl _) _⟩, rfl, rfl, rfl⟩ | exact ⟨_, _, _, _, ⟨k + 1, by omega, by go_num, (by have := HY.out; rw [HE.out] at this; exact this), HB.out.setCell (p := ⟨w.heap.size, k, none⟩) (Nat.le_refl _) _⟩, rfl, rfl, rfl, rfl⟩ | exact ⟨_, _, _, _, _, ⟨k + 1, by omega, by go_num, (by have := HY.out; rw [HE.out] at this; exact this), HB.out.setCell (p := ⟨w.heap.size, k, none⟩) (Nat.le_refl _) _⟩, rfl, rfl, rfl, rfl, rfl⟩
          case measure => simp [intOf]; omega
        · have b0 : ((c.toNat : Int) == 95) = false := nat_beq_false (b := 95) hA
          by_cases hC : c.toNat = 46
          · have HE := Lib.hid (HD.out (by omega) (by omega))
            have b1 : ((c.toNat : Int) == 46) = true := by rw [hC]; rfl
            clear hA hC
            go_wp2
            go_roundw
            case rel => first | exact ⟨k + 1, by omega, by go_num, (by have := HY.out; rw [HE.out] at this; exact this), HB.out.setCell (p := ⟨w.heap.size, k, none⟩) (Nat.le_refl _) _⟩ | exact ⟨_, ⟨k + 1, by omega, by go_num, (by have := HY.out; rw [HE.out] at this; exact this), HB.out.setCell (p := ⟨w.heap.size, k, none⟩) (Nat.le_refl _) _⟩, rfl⟩ | exact ⟨_, _, ⟨k + 1, by omega, by go_num, (by have := HY.out; rw [HE.out] at this; exact this), HB.out.setCell (p := ⟨w.heap.size, k, none⟩) (Nat.le_refl _) _⟩, rfl, rfl⟩ | exact ⟨_, _, _, ⟨k + 1, by omega, by go_num, (by have := HY.out; rw [HE.out] at this; exact this), HB.out.setCell (p := ⟨w.heap.size, k, none⟩) (Nat.le_refl _) _⟩, rfl, rfl, rfl⟩ | exact ⟨_, _, _, _, ⟨k + 1, by omega, by go_num, (by have := HY.out; rw [HE.out] at this; exact this), HB.out.setCell (p := ⟨w.heap.size, k, none⟩) (Nat.le_refl _) _⟩, rfl, rfl, rfl, rfl⟩ | exact ⟨_, _, _, _, _, ⟨k + 1, by omega, by go_num, (by have := HY.out; rw [HE.out] at this; exact this), HB.out.setCell (p := ⟨w.heap.size, k, none⟩) (Nat.le_refl _) _⟩, rfl, rfl, rfl, rfl, rfl⟩
            case measure => simp [intOf]; omega
          · have b1 : ((c.toNat : Int) == 46) = false := nat_beq_false (b := 46) hC
            have HE := Lib.hid (HN.out (by omega) (by omega))
            clear hA hC
            go_wp2
            go_roundw
            case rel => first | exact ⟨k + 1, by omega, by go_num, HX.out HE.out, HB⟩ | exact ⟨_, ⟨k + 1, by omega, by go_num, HX.out HE.out, HB⟩, rfl⟩ | exact ⟨_, _, ⟨k + 1, by omega, by go_num, HX.out HE.out, HB⟩, rfl, rfl⟩ | exact ⟨_, _, _, ⟨k + 1, by omega, by go_num, HX.out HE.out, HB⟩, rfl, rfl, rfl⟩ | exact ⟨_, _, _, _, ⟨k + 1, by omega, by go_num, HX.out HE.out, HB⟩, rfl, rfl, rfl, rfl⟩ | exact ⟨_, _, _, _, _, ⟨k + 1, by omega, by go_num, HX.out HE.out, HB⟩, rfl, rfl, rfl, rfl, rfl⟩ | exact ⟨k + 1, by omega, by go_num, HX.out HE.out⟩ | exact ⟨_, ⟨k + 1, by omega, by go_num, HX.out HE.out⟩, rfl⟩ | exact ⟨_, _, ⟨k + 1, by omega, by go_num, HX.out HE.out⟩, rfl, rfl⟩ | exact ⟨_, _, _, ⟨k + 1, by omega, by go_num, HX.out HE.out⟩, rfl, rfl, rfl⟩ | exact ⟨_, _, _, _, ⟨k + 1, by omega, by go_num, HX.out HE.out⟩, rfl, rfl, rfl, rfl⟩ | exact ⟨_, _, _, _, _, ⟨k + 1, by omega, by go_num, HX.out HE.out⟩, rfl, rfl, rfl, rfl, rfl⟩
            case measure => simp [intOf]; omega
      · by_cases hA : 65 ≤ c.toNat ∧ c.toNat ≤ 90
        · obtain ⟨a1, a2⟩ := hA
          have a3 : (65 : Int) ≤ (c.toNat : Int) := by omega
          have a4 : (c.toNat : Int) ≤ 90 := by omega
          have b0 : ((c.toNat : Int) == 95) = false := nat_beq_false (b := 95) (by omega)
          have b1 : ((c.toNat : Int) == 46) = false := nat_beq_false (b := 46) (by omega)
          have HE := Lib.hid (HU.out (by omega) a1 a2)
          clear a1 a2
          go_wp2
          go_roundw
          case rel => first | exact ⟨k + 1, by omega, by go_num, (by have := HY.out; rw [HE.out] at this; exact this), HB.out.setCell (p := ⟨w.heap.size, k, none⟩) (Nat.le_refl _) _⟩ | exact ⟨_, ⟨k + 1, by omega, by go_num, (by have := HY.out; rw [HE.out] at this; exact this), HB.out.setCell (p := ⟨w.heap.size, k, none⟩) (Nat.le_refl _) _⟩, rfl⟩ | exact ⟨_, _, ⟨k + 1, by omega, by go_num, (by have := HY.out; rw [HE.out] at this; exact this), HB.out.setCell (p := ⟨w.heap.size, k, none⟩) (Nat.le_refl _) _⟩, rfl, rfl⟩ | exact ⟨_, _, _, ⟨k + 1, by omega, by go_num, (by have := HY.out; rw [HE.out] at this; exact this), HB.out.setCell (p := ⟨w.heap.size, k, none⟩) (Nat.le_refl _) _⟩, rfl, rfl, rfl⟩ | exact ⟨_, _, _, _, ⟨k + 1, by omega, by go_num, (by have := HY.out; rw [HE.out] at this; exact this), HB.out.setCell (p := ⟨w.heap.size, k, none⟩) (Nat.le_refl _) _⟩, rfl, rfl, rfl, rfl⟩ | exact ⟨_, _, _, _, _, ⟨k + 1, by omega, by go_num, (by have := HY.out; rw [HE.out] at this; exact this), HB.out.setCell (p := ⟨w.heap.size, k, none⟩) (Nat.le_refl _) _⟩, rfl, rfl, rfl, rfl, rfl⟩
          case measure => simp [intOf]; omega
        · by_cases h95 : c.toNat = 95
          · have HE := Lib.hid (HD.out (by omega) (by omega))
            have a3 : (65 : Int) ≤ (c.toNat : Int) := by omega
            have a4 : (90 : Int) < (c.toNat : Int) := by omega
            have b0 : ((c.toNat : Int) == 95) = true := by rw [h95]; rfl
            clear hA h95
            go_wp2
            go_roundw
            case rel => first | exact ⟨k + 1, by omega, by go_num, (by have := HY.out; rw [HE.out] at this; exact this), HB.out.setCell (p := ⟨w.heap.size, k, none⟩) (Nat.le_refl _) _⟩ | exact ⟨_, ⟨k + 1, by omega, by go_num, (by have := HY.out; rw [HE.out] at this; exact this), HB.out.setCell (p := ⟨w.heap.size, k, none⟩) (Nat.le_refl _) _⟩, rfl⟩ | exact ⟨_, _, ⟨k + 1, by omega, by go_num, (by have := HY.out; rw [HE.out] at this; exact this), HB.out.setCell (p := ⟨w.heap.size, k, none⟩) (Nat.le_refl _) _⟩, rfl, rfl⟩ | exact ⟨_, _, _, ⟨k + 1, by omega, by go_num, (by have := HY.out; rw [HE.out] at this; exact this), HB.out.setCell (p := ⟨w.heap.size, k, none⟩) (Nat.le_refl _) _⟩, rfl, rfl, rfl⟩ | exact ⟨_, _, _, _, ⟨k + 1, by omega, by go_num, (by have := HY.out; rw [HE.out] at this; exact this), HB.out.setCell (p := ⟨w.heap.size, k, none⟩) (Nat.le_refl _) _⟩, rfl, rfl, rfl, rfl⟩ | exact ⟨_, _, _, _, _, ⟨k + 1, by omega, by go_num, (by have := HY.out; rw [HE.out] at this; exact this), HB.out.setCell (p := ⟨w.heap.size, k, none⟩) (Nat.le_refl _) _⟩, rfl, rfl, rfl, rfl, rfl⟩
            case measure => simp [intOf]; omega
          · have b0 : ((c.toNat : Int) == 95) = false := nat_beq_false (b := 95) h95
            by_cases h46 : c.toNat = 46
            · have HE := Lib.hid (HD.out (by omega) (by omega))
              have a3 : (c.toNat : Int) < 65 := by omega
              have b1 : ((c.toNat : Int) == 46) = true := by rw [h46]; rfl
              clear hA h95 h46
              go_wp2
              go_roundw
              case rel => first | exact ⟨k + 1, by omega, by go_num, (by have := HY.out; rw [HE.out] at this; exact this), HB.out.setCell (p := ⟨w.heap.size, k, none⟩) (Nat.le_refl _) _⟩ | exact ⟨_, ⟨k + 1, by omega, by go_num, (by have := HY.out; rw [HE.out] at this; exact this), HB.out.setCell (p := ⟨w.heap.size, k, none⟩) (Nat.le_refl _) _⟩, rfl⟩ | exact ⟨_, _, ⟨k + 1, by omega, by go_num, (by have := HY.out; rw [HE.out] at this; exact this), HB.out.setCell (p := ⟨w.heap.size, k, none⟩) (Nat.le_refl _) _⟩, rfl, rfl⟩ | exact ⟨_, _, _, ⟨k + 1, by omega, by go_num, (by have := HY.out; rw [HE.out] at this; exact this), HB.out.setCell (p := ⟨w.heap.size, k, none⟩) (Nat.le_refl _) _⟩, rfl, rfl, rfl⟩ | exact ⟨_, _, _, _, ⟨k + 1, by omega, by go_num, (by have := HY.out; rw [HE.out] at this; exact this), HB.out.setCell (p := ⟨w.heap.size, k, none⟩) (Nat.le_refl _) _⟩, rfl, rfl, rfl, rfl⟩ | exact ⟨_, _, _, _, _, ⟨k + 1, by omega, by go_num, (by have := HY.out; rw [HE.out] at this; exact this), HB.out.setCell (p := ⟨w.heap.size, k, none⟩) (Nat.le_refl _) _⟩, rfl, rfl, rfl, rfl, rfl⟩
              case measure => simp [intOf]; omega
            · have b1 : ((c.toNat : Int) == 46) = false := nat_beq_false (b := 46) h46
              have HE := Lib.hid (HN.out (by omega) (by omega))
              by_cases h65 : 65 ≤ c.toNat
              · have a3 : (65 : Int) ≤ (c.toNat : Int) := by omega
                have a4 : (90 : Int) < (c.toNat : Int) := by omega
                clear hA h95 h46 h65
                go_wp2
                go_roundw
                case rel => first | exact ⟨k + 1, by omega, by go_num, HX.out HE.out, HB⟩ | exact ⟨_, ⟨k + 1, by omega, by go_num, HX.out HE.out, HB⟩, rfl⟩ | exact ⟨_, _, ⟨k + 1, by omega, by go_num, HX.out HE.out, HB⟩, rfl, rfl⟩ | exact ⟨_, _, _, ⟨k + 1, by omega, by go_num, HX.out HE.out, HB⟩, rfl, rfl, rfl⟩ | exact ⟨_, _, _, _, ⟨k + 1, by omega, by go_num, HX.out HE.out, HB⟩, rfl, rfl, rfl, rfl⟩ | exact ⟨_, _, _, _, _, ⟨k + 1, by omega, by go_num, HX.out HE.out, HB⟩, rfl, rfl, rfl, rfl, rfl⟩ | exact ⟨k + 1, by omega, by go_num, HX.out HE.out⟩ | exact ⟨_, ⟨k + 1, by omega, by go_num, HX.out HE.out⟩, rfl⟩ | exact ⟨_, _, ⟨k + 1, by omega, by go_num, HX.out HE.out⟩, rfl, rfl⟩ | exact ⟨_, _, _, ⟨k + 1, by omega, by go_num, HX.out HE.out⟩, rfl, rfl, rfl⟩ | exact ⟨_, _, _, _, ⟨k + 1, by omega, by go_num, HX.out HE.out⟩, rfl, rfl, rfl, rfl⟩ | exact ⟨_, _, _, _, _, ⟨k + 1, by omega, by go_num, HX.out HE.out⟩, rfl, rfl, rfl, rfl, rfl⟩
                case measure => simp [intOf]; omega
              · have a3 : (c.toNat : Int) < 65 := by omega
                clear hA h95 h46 h65
                go_wp2
                go_roundw
                case rel => first | exact ⟨k + 1, by omega, by go_num, HX.out HE.out, HB⟩ | exact ⟨_, ⟨k + 1, by omega, by go_num, HX.out HE.out, HB⟩, rfl⟩ | exact ⟨_, _, ⟨k + 1, by omega, by go_num, HX.out HE.out, HB⟩, rfl, rfl⟩ | exact ⟨_, _, _, ⟨k + 1, by omega, by go_num, HX.out HE.out, HB⟩, rfl, rfl, rfl⟩ | exact ⟨_, _, _, _, ⟨k + 1, by omega, by go_num, HX.out HE.out, HB⟩, rfl, rfl, rfl, rfl⟩ | exact ⟨_, _, _, _, _, ⟨k + 1, by omega, by go_num, HX.out HE.out, HB⟩, rfl, rfl, rfl, rfl, rfl⟩ | exact ⟨k + 1, by omega, by go_num, HX.out HE.out⟩ | exact ⟨_, ⟨k + 1, by omega, by go_num, HX.out HE.out⟩, rfl⟩ | exact ⟨_, _, ⟨k + 1, by omega, by go_num, HX.out HE.out⟩, rfl, rfl⟩ | exact ⟨_, _, _, ⟨k + 1, by omega, by go_num, HX.out HE.out⟩, rfl, rfl, rfl⟩ | exact ⟨_, _, _, _, ⟨k + 1, by omega, by go_num, HX.out HE.out⟩, rfl, rfl, rfl, rfl⟩ | exact ⟨_, _, _, _, _, ⟨k + 1, by omega, by go_num, HX.out HE.out⟩, rfl, rfl, rfl, rfl, rfl⟩
                case measure => simp [intOf]; omega
    · have e : k = s.size := by omega
      subst e
      have HBY := HR.out.bytes
      have hml : (mkT (foldL f l s.size)).size = s.size := by rw [mkT_size, foldL_len, HL.out]
      have HFA : Hid (foldL f l s.size = foldT f l) := by show _ = _; rw [← HL.out]; exact foldL_all f l
      rw [HFA.out] at HBY hml
      have kb := fun cap => Lib.run_convert_whole (P := Try.prog) wr 101 5 9 Try.underlying101 Try.underlying5 Try.underlying9 w.heap.size 0 (mkT (foldT f l)) HBY cap
      rw [hml] at kb
      clear HBY hml
      go_wp2
      go_ret
      exact ⟨rfl, HB.out⟩
end Go.Proofs.Ytgmhhdpggnmipaa.E
