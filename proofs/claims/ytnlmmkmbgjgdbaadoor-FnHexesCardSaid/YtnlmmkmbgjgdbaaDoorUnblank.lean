/- The contract of spec.Unblanked, over this seat's program. -/
import Derived.Test.YtnlmmkmbgjgdbaaDoorQuoteL
import Derived.Lib.Space
import Derived.WalkSpells
namespace Go.Proofs.YtnlmmkmbgjgdbaaDoor.E
open Go.RowKit
set_option linter.unusedVariables false
set_option linter.unusedSimpArgs false

def isBl (m : Nat) : Bool := decide (m = 32 ∨ 9 ≤ m ∧ m ≤ 13)

theorem blank_walk (m : Nat) (hm : m < 256) (w : World) :
    Calls Tryd.prog 32 #[.int .u8 m] w fun e w' => e = .returned (.bool (isBl m)) ∧ w = w' := by
  have h0 : (0 : Int) ≤ (m : Int) := Int.natCast_nonneg _
  have h1 : (m : Int) ≤ 255 := by omega
  by_cases c1 : m = 32
  · subst c1
    go_enter Tryd.func32, Tryd.ntmps32
    go_wp2
    go_ret
    exact ⟨rfl, rfl⟩
  have e1 : ((m : Int) == 32) = false := by simp; omega
  by_cases c2 : 9 ≤ m
  · have e2 : (9 : Int) ≤ (m : Int) := by omega
    by_cases c3 : m ≤ 13
    · have e3 : (m : Int) ≤ 13 := by omega
      have HF : Hid (isBl m = true) := by simp [Hid, isBl]; omega
      go_enter Tryd.func32, Tryd.ntmps32
      go_wp2
      go_ret
      exact ⟨by rw [HF.out]; rfl, rfl⟩
    · have e3 : ¬ (m : Int) ≤ 13 := by omega
      have HF : Hid (isBl m = false) := by simp [Hid, isBl]; omega
      go_enter Tryd.func32, Tryd.ntmps32
      go_wp2
      go_ret
      exact ⟨by rw [HF.out]; rfl, rfl⟩
  · have e2 : ¬ (9 : Int) ≤ (m : Int) := by omega
    have HF : Hid (isBl m = false) := by simp [Hid, isBl]; omega
    go_enter Tryd.func32, Tryd.ntmps32
    go_wp2
    go_ret
    exact ⟨by rw [HF.out]; rfl, rfl⟩

theorem isSp_eq (c : UInt8) : isBl c.toNat = Lib.isSp c := by
  rw [Bool.eq_iff_iff]
  simp only [isBl, Lib.isSp, decide_eq_true_eq, Bool.or_eq_true, beq_iff_eq, ← UInt8.toNat_inj]
  have e1 : (9 : UInt8).toNat = 9 := rfl
  have e2 : (10 : UInt8).toNat = 10 := rfl
  have e3 : (11 : UInt8).toNat = 11 := rfl
  have e4 : (12 : UInt8).toNat = 12 := rfl
  have e5 : (13 : UInt8).toNat = 13 := rfl
  have e6 : (32 : UInt8).toNat = 32 := rfl
  rw [e1, e2, e3, e4, e5, e6]
  omega

theorem blank_any (c : UInt8) (w : World) :
    Calls Tryd.prog 32 #[.int .u8 (c.toNat : Int)] w fun e w' => e = .returned (.bool (Lib.isSp c)) ∧ w = w' := by
  have h := blank_walk c.toNat (UInt8.toNat_lt c) w
  rw [isSp_eq] at h
  exact h

/-- How long a text in a slot is. -/
def strLen : Value → Nat | .string s => s.size | _ => 0

/-- All bytes are below 128. -/
def asciiL (l : List UInt8) : Bool := l.all fun b => decide (b.toNat < 128)
def unblank (s : ByteArray) : ByteArray := ⟨(Lib.trimSpace s.data.toList).toArray⟩

def unbText (s : ByteArray) : ByteArray := if asciiL s.data.toList = true then unblank s else ⟨#[]⟩

theorem unblank_list (s : ByteArray) : (unblank s).data.toList = Lib.trimSpace s.data.toList := by simp [unblank]

theorem extract_tail (t : ByteArray) : (t.extract 1 t.size).data.toList = t.data.toList.drop 1 := by rw [extract_list, List.take_of_length_le (by simp)]
theorem extract_init (t : ByteArray) : (t.extract 0 (t.size - 1)).data.toList = t.data.toList.dropLast := by
  rw [extract_list]
  simp [List.dropLast_eq_take]

theorem drop_blank {t : ByteArray} {l : List UInt8} (h : 0 < t.size) (hb : Lib.isSp t[0] = true) (ht : t.data.toList.dropWhile Lib.isSp = l) : (t.extract 1 t.size).data.toList.dropWhile Lib.isSp = l := by
  rw [extract_tail]
  rw [bget h] at hb
  cases hl : t.data.toList with
  | nil => have : t.data.toList.length = t.size := by simp
           rw [hl] at this; simp at this; omega
  | cons x r =>
    simp only [hl, List.getElem_cons_zero] at hb
    rw [hl] at ht
    simp only [List.dropWhile_cons, hb, if_true] at ht
    simpa using ht

theorem keep_blank {t : ByteArray} {l : List UInt8} (h : 0 < t.size) (hb : Lib.isSp t[0] = false) (ht : t.data.toList.dropWhile Lib.isSp = l) : t.data.toList = l := by
  rw [bget h] at hb
  cases hl : t.data.toList with
  | nil => rw [hl] at ht; simpa using ht
  | cons x r =>
    simp only [hl, List.getElem_cons_zero] at hb
    rw [hl] at ht
    simp only [List.dropWhile_cons, hb] at ht
    simpa using ht

theorem rev_last {r : ByteArray} (h : 0 < r.size) : ∃ q, r.data.toList = q ++ [r[r.size - 1]'(by omega)] := by
  have hl : r.data.toList ≠ [] := by intro e; have : r.data.toList.length = r.size := by simp
                                     rw [e] at this; simp at this; omega
  refine ⟨r.data.toList.dropLast, ?_⟩
  rw [bget]
  have := List.dropLast_concat_getLast hl
  rw [List.getLast_eq_getElem] at this
  simpa using this.symm

theorem chop_blank {r : ByteArray} {l : List UInt8} (h : 0 < r.size) (hb : Lib.isSp (r[r.size - 1]'(by omega)) = true) (hr : (r.data.toList.reverse.dropWhile Lib.isSp).reverse = l) :
    ((r.extract 0 (r.size - 1)).data.toList.reverse.dropWhile Lib.isSp).reverse = l := by
  rw [extract_init]
  obtain ⟨q, hq⟩ := rev_last h
  rw [hq] at hr ⊢
  simp only [List.reverse_append, List.reverse_cons, List.reverse_nil, List.nil_append, List.singleton_append, List.dropWhile_cons, hb, if_true] at hr
  simpa using hr

theorem stay_blank {r : ByteArray} {l : List UInt8} (h : 0 < r.size) (hb : Lib.isSp (r[r.size - 1]'(by omega)) = false) (hr : (r.data.toList.reverse.dropWhile Lib.isSp).reverse = l) : r.data.toList = l := by
  obtain ⟨q, hq⟩ := rev_last h
  rw [hq] at hr ⊢
  simp only [List.reverse_append, List.reverse_cons, List.reverse_nil, List.nil_append, List.singleton_append, List.dropWhile_cons, hb] at hr
  simpa using hr

theorem stay_empty {r : ByteArray} {l : List UInt8} (h : ¬ 0 < r.size) (hr : (r.data.toList.reverse.dropWhile Lib.isSp).reverse = l) : r.data.toList = l := by
  have h0 : r.data.toList.length = r.size := by simp
  have hl : r.data.toList = [] := List.eq_nil_of_length_eq_zero (by omega)
  rw [hl] at hr ⊢
  simpa using hr

theorem empty_blank {t : ByteArray} {l : List UInt8} (h : ¬ 0 < t.size) (ht : t.data.toList.dropWhile Lib.isSp = l) : t.data.toList = l := by
  have h0 : t.data.toList.length = t.size := by simp
  have hl : t.data.toList = [] := List.eq_nil_of_length_eq_zero (by omega)
  rw [hl] at ht ⊢
  simpa using ht

set_option maxHeartbeats 1600000 in
theorem unblanked_any (s : ByteArray) (w : World) (hs : s.size ≤ 9223372036854775807) :
    Calls Tryd.prog 22 #[.string s] w fun e w' => e = .returned (.tuple #[.string (unbText s), .bool (asciiL s.data.toList)]) ∧ w = w' := by
  go_enter Tryd.func22, Tryd.ntmps22
  go_wp2
  go_loop [7] (fun i => ∃ k : Nat, k ≤ s.size ∧ i = .int .i64 k ∧ Hid (∀ j, (h : j < s.size) → j < k → s[j].toNat < 128)) (fun i => s.size - (intOf i).toNat)
  case atStart => exact ⟨0, Nat.zero_le _, rfl, fun j h hj => by omega⟩
  case round =>
    obtain ⟨k, hk, rfl, HP⟩ := hrel
    by_cases hlt : k < s.size
    · by_cases hb : 128 ≤ s[k].toNat
      · have e1 : (128 : Int) ≤ (s[k].toNat : Int) := by omega
        have HF : Hid (asciiL s.data.toList = false) := by
          rw [Hid, Bool.eq_false_iff]
          intro hc
          have := List.all_eq_true.1 hc _ (List.getElem_mem (by simpa using hlt : k < s.data.toList.length))
          rw [← bget hlt] at this
          simp at this
          omega
        have HU : Hid (unbText s = ⟨#[]⟩) := by rw [Hid, unbText, HF.out]; rfl
        go_wp2
        go_ret2
        exact ⟨by rw [HF.out, HU.out]; rfl, rfl⟩
      · have e1 : ¬ (128 : Int) ≤ (s[k].toNat : Int) := by omega
        go_wp2
        go_round
        case rel => exact ⟨k + 1, by omega, by go_num, fun j h hj => by by_cases e : j = k; (subst e; omega); exact HP j h (by omega)⟩
        case measure => simp [intOf]; omega
    · have HF : Hid (asciiL s.data.toList = true) := by
        refine List.all_eq_true.2 fun x hx => ?_
        obtain ⟨j, hj, rfl⟩ := List.getElem_of_mem hx
        have h2 : j < s.size := by simpa using hj
        have := HP j h2 (by omega)
        rw [bget h2] at this
        simpa using this
      have HU : Hid (unbText s = unblank s) := by rw [Hid, unbText, HF.out]; rfl
      go_wp2_with fail
      go_loop [0] (fun v => ∃ t : ByteArray, v = .string t ∧ t.size ≤ s.size ∧ Hid (t.data.toList.dropWhile Lib.isSp = s.data.toList.dropWhile Lib.isSp)) (fun v => strLen v)
      case atStart => exact ⟨s, rfl, Nat.le_refl _, rfl⟩
      case round =>
        obtain ⟨t, rfl, ht, HT⟩ := hrel
        by_cases hgo : ∃ h : 0 < t.size, Lib.isSp t[0] = true
        · obtain ⟨hpos, hsp⟩ := hgo
          have e0 : (0 : Int) < (t.size : Int) := by omega
          have HB := Lib.hid (blank_any t[0] w)
          rw [hsp] at HB
          go_wp2_with (go_at_call 32; refine HB.out.mono ?_; rintro e w' ⟨rfl, rfl⟩)
          go_round
          case rel => exact ⟨_, rfl, by rw [ByteArray.size_extract]; omega, drop_blank hpos hsp HT.out⟩
          case measure => simp only [strLen, ByteArray.size_extract]; omega
        · have HL : Hid (t.data.toList = s.data.toList.dropWhile Lib.isSp) := by
            by_cases hpos : 0 < t.size
            · exact keep_blank hpos (by simpa using fun e => hgo ⟨hpos, e⟩) HT.out
            · exact empty_blank hpos HT.out
          clear HT
          by_cases hpos : 0 < t.size
          · have e0 : (0 : Int) < (t.size : Int) := by omega
            have HB := Lib.hid (blank_any t[0] w)
            have hsp : Lib.isSp t[0] = false := by simpa using fun e => hgo ⟨hpos, e⟩
            rw [hsp] at HB
            clear hgo
            go_wp2_with (go_at_call 32; refine HB.out.mono ?_; rintro e w' ⟨rfl, rfl⟩)
            go_loop [0] (fun v => ∃ r : ByteArray, v = .string r ∧ r.size ≤ s.size ∧ Hid ((r.data.toList.reverse.dropWhile Lib.isSp).reverse = Lib.trimSpace s.data.toList)) (fun v => strLen v)
            case atStart => exact ⟨t, rfl, ht, by have e := HL.out; rw [Hid, e]; rfl⟩
            case round =>
              obtain ⟨r, rfl, hr, HR⟩ := hrel
              by_cases hgo : ∃ h : 0 < r.size, Lib.isSp (r[r.size - 1]'(by omega)) = true
              · obtain ⟨hpos, hsp⟩ := hgo
                have e0 : (0 : Int) < (r.size : Int) := by omega
                have HB := Lib.hid (blank_any (r[r.size - 1]'(by omega)) w)
                rw [hsp] at HB
                go_wp2_with (go_at_call 32; refine HB.out.mono ?_; rintro e w' ⟨rfl, rfl⟩)
                go_round
                case rel => exact ⟨_, rfl, by rw [ByteArray.size_extract]; omega, chop_blank hpos hsp HR.out⟩
                case measure => simp only [strLen, ByteArray.size_extract]; omega
              · have HE : Hid (r = unbText s) := by
                  have e := HU.out
                  rw [Hid, e]
                  apply ba_ext
                  rw [unblank_list]
                  by_cases hpos : 0 < r.size
                  · exact stay_blank hpos (by simpa using fun e => hgo ⟨hpos, e⟩) HR.out
                  · exact stay_empty hpos HR.out
                by_cases hpos : 0 < r.size
                · have e0 : (0 : Int) < (r.size : Int) := by omega
                  have hsp : Lib.isSp (r[r.size - 1]'(by omega)) = false := by simpa using fun e => hgo ⟨hpos, e⟩
                  have HB := Lib.hid (blank_any (r[r.size - 1]'(by omega)) w)
                  rw [hsp] at HB
                  clear hgo
                  go_wp2_with (go_at_call 32; refine HB.out.mono ?_; rintro e w' ⟨rfl, rfl⟩)
                  go_ret2
                  exact ⟨by rw [HF.out, ← HE.out]; rfl, rfl⟩
                · clear hgo
                  go_wp2
                  go_ret2
                  exact ⟨by rw [HF.out, ← HE.out]; rfl, rfl⟩
          · clear hgo
            go_wp2
            go_loop [0] (fun v => ∃ r : ByteArray, v = .string r ∧ r.size ≤ s.size ∧ Hid ((r.data.toList.reverse.dropWhile Lib.isSp).reverse = Lib.trimSpace s.data.toList)) (fun v => strLen v)
            case atStart => exact ⟨t, rfl, ht, by have e := HL.out; rw [Hid, e]; rfl⟩
            case round =>
              obtain ⟨r, rfl, hr, HR⟩ := hrel
              by_cases hgo : ∃ h : 0 < r.size, Lib.isSp (r[r.size - 1]'(by omega)) = true
              · obtain ⟨hpos, hsp⟩ := hgo
                have e0 : (0 : Int) < (r.size : Int) := by omega
                have HB := Lib.hid (blank_any (r[r.size - 1]'(by omega)) w)
                rw [hsp] at HB
                go_wp2_with (go_at_call 32; refine HB.out.mono ?_; rintro e w' ⟨rfl, rfl⟩)
                go_round
                case rel => exact ⟨_, rfl, by rw [ByteArray.size_extract]; omega, chop_blank hpos hsp HR.out⟩
                case measure => simp only [strLen, ByteArray.size_extract]; omega
              · have HE : Hid (r = unbText s) := by
                  have e := HU.out
                  rw [Hid, e]
                  apply ba_ext
                  rw [unblank_list]
                  by_cases hpos : 0 < r.size
                  · exact stay_blank hpos (by simpa using fun e => hgo ⟨hpos, e⟩) HR.out
                  · exact stay_empty hpos HR.out
                by_cases hpos : 0 < r.size
                · have e0 : (0 : Int) < (r.size : Int) := by omega
                  have hsp : Lib.isSp (r[r.size - 1]'(by omega)) = false := by simpa using fun e => hgo ⟨hpos, e⟩
                  have HB := Lib.hid (blank_any (r[r.size - 1]'(by omega)) w)
                  rw [hsp] at HB
                  clear hgo
                  go_wp2_with (go_at_call 32; refine HB.out.mono ?_; rintro e w' ⟨rfl, rfl⟩)
                  go_ret2
                  exact ⟨by rw [HF.out, ← HE.out]; rfl, rfl⟩
                · clear hgo
                  go_wp2
                  go_ret2
                  exact ⟨by rw [HF.out, ← HE.out]; rfl, rfl⟩
end Go.Proofs.YtnlmmkmbgjgdbaaDoor.E
