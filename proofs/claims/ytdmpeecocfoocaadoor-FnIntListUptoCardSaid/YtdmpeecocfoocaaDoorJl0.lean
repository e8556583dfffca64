/- Decimal digits with a sign: spec.Plain10 and strconv.Atoi read alike, over this seat's program. -/
import Derived.Test.YtdmpeecocfoocaaDoorNum
import Derived.Test.YtdmpeecocfoocaaDoorLaid
import Derived.Lib.AtoiAllCases
import Derived.Test.YtdmpeecocfoocaaDoorKit
import Derived.Test.YtdmpeecocfoocaaDoorQuoteL
import Derived.Lib.SlBytesRow
import Derived.Laws.DeepStrings4
import Derived.Deep.OwnRows
import Derived.Deep.RegionLaw
import Derived.Test.YtdmpeecocfoocaaDoorRow
import Derived.Test.YtdmpeecocfoocaaDoorFits2
import Derived.Test.YtdmpeecocfoocaaDoorRows
namespace Go.Proofs.YtdmpeecocfoocaaDoor.E
open Go.RowKit Go.Proofs
set_option linter.unusedVariables false
set_option linter.unusedSimpArgs false

/-- The number of a text of decimal digits, up to a greatest. -/
def dq (most : Nat) (l : List UInt8) : Option Nat := if l = [] then none else dOpt 10 most 0 false l
def plainC (C : Nat) : List UInt8 → Option Int
  | [] => none
  | c :: r => if c.toNat = 45 then (dq C r).map (fun n : Nat => -(n : Int)) else if c.toNat = 43 then (dq (C - 1) r).map (fun n : Nat => (n : Int)) else (dq (C - 1) (c :: r)).map (fun n : Nat => (n : Int))
/-- The number of 64 bits that a text of decimal digits is. -/
def plainP (l : List UInt8) : Option Int := plainC 9223372036854775808 l
def plainR : Option Int → Int × Int
  | some n => (n, 1)
  | none => (0, 2)
theorem digV_ten : ∀ m : Fin 256, digV 10 (m : Nat) = if 48 ≤ (m : Nat) ∧ (m : Nat) ≤ 57 then ((m : Nat) : Int) - 48 else -1 := by decide +kernel
theorem digV_10 (c : UInt8) : digV 10 c.toNat = if 48 ≤ c.toNat ∧ c.toNat ≤ 57 then (c.toNat : Int) - 48 else -1 := digV_ten ⟨c.toNat, c.toNat_lt⟩
theorem pu10_ge : ∀ (r : List UInt8) (a n : Nat), Lib.parseUint10 a r = .ok n → a ≤ n
  | [], a, n, h => by simp only [Lib.parseUint10] at h; cases h; exact Nat.le_refl _
  | c :: r, a, n, h => by
    simp only [Lib.parseUint10] at h
    split at h
    · split at h
      · cases h
      · split at h
        · cases h
        · have := pu10_ge r _ n h; omega
    · cases h
theorem dOpt_over (b most : Nat) (hb : 0 < b) (a : Nat) (r : List UInt8) : dOpt b most a true r = none := by
  cases h : dOpt b most a true r with
  | none => rfl
  | some n => have := (dOpt_some hb r a n true h).1; cases this
theorem dOpt_pu {most : Nat} (hm : most ≤ 18446744073709551615) : ∀ (r : List UInt8) (a n : Nat), a ≤ most → (dOpt 10 most a false r = some n ↔ Lib.parseUint10 a r = .ok n ∧ n ≤ most)
  | [], a, n, ha => by
    simp only [dOpt, Lib.parseUint10]
    constructor
    · intro h; simp at h; subst h; exact ⟨rfl, ha⟩
    · rintro ⟨h, _⟩; cases h; simp
  | c :: r, a, n, ha => by
    have hd := digV_10 c
    rw [dOpt, Lib.parseUint10]
    by_cases hc : 48 ≤ c.toNat ∧ c.toNat ≤ 57
    · rw [if_pos hc] at hd ⊢
      have hdn : (digV 10 c.toNat).toNat = c.toNat - 48 := by rw [hd]; omega
      rw [if_neg (by rw [hd]; omega), hdn]
      by_cases ho : most < a * 10 + (c.toNat - 48)
      · rw [if_pos (.inr ho), dOpt_over 10 most (by omega)]
        constructor
        · intro h; cases h
        · rintro ⟨h, hn⟩
          split at h
          · cases h
          · split at h
            · cases h
            · have := pu10_ge _ _ _ h; omega
      · rw [if_neg (by simpa using ho), if_neg (by omega), if_neg (by omega)]
        exact dOpt_pu hm r _ n (by omega)
    · rw [if_neg hc] at hd ⊢
      rw [if_pos (by rw [hd]; omega)]
      constructor
      · intro h; cases h
      · rintro ⟨h, _⟩; cases h
theorem dq_mag {most : Nat} (hm : most ≤ 18446744073709551615) (l : List UInt8) (n : Nat) : dq most l = some n ↔ Lib.parseMag l = .ok n ∧ n ≤ most := by
  unfold dq Lib.parseMag
  by_cases h : l = []
  · rw [if_pos h, if_pos h]
    constructor
    · intro h; cases h
    · rintro ⟨h, _⟩; cases h
  · rw [if_neg h, if_neg h]; exact dOpt_pu hm l 0 n (Nat.zero_le _)
theorem plus_atoi (l : List UInt8) (v : Int) : (dq (9223372036854775808 - 1) l).map (fun n : Nat => (n : Int)) = some v ↔ Lib.signless (Lib.parseMag l) = .ok v := by
  have h := fun n => dq_mag (most := 9223372036854775808 - 1) (by omega) l n
  constructor
  · intro e
    cases hq : dq (9223372036854775808 - 1) l with
    | none => rw [hq] at e; cases e
    | some n =>
      rw [hq] at e; cases e
      obtain ⟨h1, h2⟩ := (h n).1 hq
      rw [h1]; simp only [Lib.signless]; rw [if_neg (by omega)]
  · intro e
    cases hq : Lib.parseMag l with
    | ok n =>
      rw [hq] at e
      simp only [Lib.signless] at e
      split at e
      · cases e
      · cases e
        rw [(h n).2 ⟨hq, by omega⟩]; rfl
    | range => rw [hq] at e; cases e
    | _ => rw [hq] at e; cases e
theorem minus_atoi (l : List UInt8) (v : Int) : (dq 9223372036854775808 l).map (fun n : Nat => -(n : Int)) = some v ↔ Lib.signed (Lib.parseMag l) = .ok v := by
  have h := fun n => dq_mag (most := 9223372036854775808) (by omega) l n
  constructor
  · intro e
    cases hq : dq 9223372036854775808 l with
    | none => rw [hq] at e; cases e
    | some n =>
      rw [hq] at e; cases e
      obtain ⟨h1, h2⟩ := (h n).1 hq
      rw [h1]; simp only [Lib.signed]; rw [if_neg (by omega)]
  · intro e
    cases hq : Lib.parseMag l with
    | ok n =>
      rw [hq] at e
      simp only [Lib.signed] at e
      split at e
      · cases e
      · cases e
        rw [(h n).2 ⟨hq, by omega⟩]; rfl
    | range => rw [hq] at e; cases e
    | _ => rw [hq] at e; cases e
theorem plainP_atoi (l : List UInt8) (v : Int) : plainP l = some v ↔ Lib.atoiAll l = .ok v := by
  unfold plainP
  cases l with
  | nil =>
    constructor
    · intro h; cases h
    · intro h; cases h
  | cons c r =>
    simp only [plainC]
    by_cases h45 : c.toNat = 45
    · obtain rfl : c = 45 := UInt8.toNat_inj.1 h45
      rw [if_pos h45, Lib.atoiAll_minus]; exact minus_atoi r v
    · rw [if_neg h45]
      by_cases h43 : c.toNat = 43
      · obtain rfl : c = 43 := UInt8.toNat_inj.1 h43
        rw [if_pos h43, Lib.atoiAll_plus]; exact plus_atoi r v
      · rw [if_neg h43, Lib.atoiAll_plain c r h43 h45]; exact plus_atoi (c :: r) v
theorem dq_le {most n : Nat} {l : List UInt8} (hm : most ≤ 18446744073709551615) (h : dq most l = some n) : n ≤ most := ((dq_mag hm l n).1 h).2

theorem digq_any (most : Nat) (hmost : most ≤ 18446744073709551615) (s : ByteArray) (hs : s.size ≤ 9223372036854775806) (w : World) :
    Calls Tryd.prog 65 #[.string s, .int .u64 10, .int .u64 most] w fun e w' => e = .returned (.tuple #[.int .u64 (dRes (dq most s.data.toList)).1, .int .i64 (dRes (dq most s.data.toList)).2]) ∧ Below w.heap.size w w' :=
  (digits_any 10 most (by omega) hmost s hs w).mono fun e w' h => ⟨h.1, d0_below h.2⟩

set_option maxRecDepth 100000 in
set_option maxHeartbeats 1600000 in
theorem plain10_m (m C : Nat) (hm : m ≤ 63) (hC1 : 1 ≤ C) (hC2 : C ≤ 9223372036854775808) (hCs : IntKind.u64.wrap (2 ^ m) = (C : Int)) (s : ByteArray) (hs : s.size ≤ 9223372036854775806) (w : World) :
    Calls Tryd.prog 22 #[.string s, .int .i64 ((m : Int) + 1)] w fun e w' => e = .returned (.tuple #[.int .i64 (plainR (plainC C s.data.toList)).1, .int .i64 (plainR (plainC C s.data.toList)).2]) ∧ Below w.heap.size w w' := by
  have m0 : (0 : Int) ≤ (m : Int) := Int.natCast_nonneg _
  have m1 : (m : Int) ≤ 63 := by omega
  have C0 : (1 : Int) ≤ (C : Int) := by omega
  have C1 : (C : Int) ≤ 9223372036854775808 := by omega
  have eC : ((C - 1 : Nat) : Int) = (C : Int) - 1 := by omega
  by_cases hne : 0 < s.size
  · have hemp := nonempty_list hne
    have hemp2 := nonempty_not hne
    have hd0 := drop_at hne
    rw [List.drop_zero] at hd0
    have hT : (s.extract 1 s.size).data.toList = s.data.toList.drop 1 := extract_tail s 1
    have hTs : (s.extract 1 s.size).size ≤ 9223372036854775806 := by simp; omega
    by_cases h45 : s[0].toNat = 45
    · have c0 : ((s[0].toNat : Int) == 45) = true := by rw [h45]; rfl
      have HN := fun w => Lib.hid (digq_any C (by omega) (s.extract 1 s.size) hTs w)
      rw [hT] at HN
      have hW : plainC C s.data.toList = (dq C (s.data.toList.drop 1)).map (fun n : Nat => -(n : Int)) := by rw [hd0]; simp only [plainC]; rw [if_pos h45]; rfl
      rw [hW]
      have hle := fun n (h : dq C (s.data.toList.drop 1) = some n) => dq_le (by omega) h
      generalize dq C (s.data.toList.drop 1) = d at HN hle ⊢
      clear hW hT hTs hd0 h45
      cases d with
      | none =>
        simp only [dRes] at HN
        clear hle
        go_enter Tryd.func22, Tryd.ntmps22
        go_wp2_with (go_at_call 65; refine ((HN _).out).mono ?_; rintro e w1 ⟨rfl, hb1⟩; have HB := Lib.hid hb1; clear hb1)
        go_ret2
        exact ⟨rfl, HB.out⟩
      | some n =>
        simp only [dRes] at HN
        have n0 : (0 : Int) ≤ (n : Int) := Int.natCast_nonneg _
        have n1 : (n : Int) ≤ 9223372036854775808 := by have := hle n rfl; omega
        have HW : Hid (wrap64 (-(wrap64 (n : Int))) = -(n : Int)) := by show wrap64 (-(wrap64 (n : Int))) = -(n : Int); unfold wrap64; omega
        clear hle
        go_enter Tryd.func22, Tryd.ntmps22
        go_wp2_with (go_at_call 65; refine ((HN _).out).mono ?_; rintro e w1 ⟨rfl, hb1⟩; have HB := Lib.hid hb1; clear hb1)
        go_ret2
        exact ⟨by first | rfl | (simp only [plainR, Option.map_some]; rw [HW.out]; rfl) | (simp only [plainR, Option.map_some]; go_num), HB.out⟩
    · have c0 : ((s[0].toNat : Int) == 45) = false := byte_beq (c := s[0]) (k := 45) (by omega) (fun e => h45 (by rw [e]; rfl))
      by_cases h43 : s[0].toNat = 43
      · have c1 : ((s[0].toNat : Int) == 43) = true := by rw [h43]; rfl
        have HN := fun w => Lib.hid (digq_any (C - 1) (by omega) (s.extract 1 s.size) hTs w)
        rw [hT, eC] at HN
        have hW : plainC C s.data.toList = (dq (C - 1) (s.data.toList.drop 1)).map (fun n : Nat => (n : Int)) := by rw [hd0]; simp only [plainC]; rw [if_neg h45, if_pos h43]; rfl
        rw [hW]
        have hle := fun n (h : dq (C - 1) (s.data.toList.drop 1) = some n) => dq_le (by omega) h
        generalize dq (C - 1) (s.data.toList.drop 1) = d at HN hle ⊢
        clear hW hT hTs hd0 h45 h43
        cases d with
        | none =>
          simp only [dRes] at HN
          clear hle
          go_enter Tryd.func22, Tryd.ntmps22
          go_wp2_with (go_at_call 65; refine ((HN _).out).mono ?_; rintro e w1 ⟨rfl, hb1⟩; have HB := Lib.hid hb1; clear hb1)
          go_ret2
          exact ⟨rfl, HB.out⟩
        | some n =>
          simp only [dRes] at HN
          have n0 : (0 : Int) ≤ (n : Int) := Int.natCast_nonneg _
          have n1 : (n : Int) ≤ 9223372036854775807 := by have := hle n rfl; omega
          clear hle
          go_enter Tryd.func22, Tryd.ntmps22
          go_wp2_with (go_at_call 65; refine ((HN _).out).mono ?_; rintro e w1 ⟨rfl, hb1⟩; have HB := Lib.hid hb1; clear hb1)
          go_ret2
          exact ⟨by first | rfl | (simp only [plainR, Option.map_some]; go_num), HB.out⟩
      · have c1 : ((s[0].toNat : Int) == 43) = false := byte_beq (c := s[0]) (k := 43) (by omega) (fun e => h43 (by rw [e]; rfl))
        have HN := fun w => Lib.hid (digq_any (C - 1) (by omega) s hs w)
        rw [eC] at HN
        have hW : plainC C s.data.toList = (dq (C - 1) s.data.toList).map (fun n : Nat => (n : Int)) := by rw [hd0]; simp only [plainC]; rw [if_neg h45, if_neg h43]
        rw [hW]
        have hle := fun n (h : dq (C - 1) s.data.toList = some n) => dq_le (by omega) h
        generalize dq (C - 1) s.data.toList = d at HN hle ⊢
        clear hW hT hTs hd0 h45 h43
        cases d with
        | none =>
          simp only [dRes] at HN
          clear hle
          go_enter Tryd.func22, Tryd.ntmps22
          go_wp2_with (go_at_call 65; refine ((HN _).out).mono ?_; rintro e w1 ⟨rfl, hb1⟩; have HB := Lib.hid hb1; clear hb1)
          go_ret2
          exact ⟨rfl, HB.out⟩
        | some n =>
          simp only [dRes] at HN
          have n0 : (0 : Int) ≤ (n : Int) := Int.natCast_nonneg _
          have n1 : (n : Int) ≤ 9223372036854775807 := by have := hle n rfl; omega
          clear hle
          go_enter Tryd.func22, Tryd.ntmps22
          go_wp2_with (go_at_call 65; refine ((HN _).out).mono ?_; rintro e w1 ⟨rfl, hb1⟩; have HB := Lib.hid hb1; clear hb1)
          go_ret2
          exact ⟨by first | rfl | (simp only [plainR, Option.map_some]; go_num), HB.out⟩
  · have hemp := empty_list (x := s) (by omega)
    have hemp2 := empty_not (x := s) (by omega)
    have hl : s.data.toList = [] := List.eq_nil_of_length_eq_zero (by rw [size_len]; omega)
    have HN := fun w => Lib.hid (digq_any (C - 1) (by omega) s hs w)
    have hq : dq (C - 1) s.data.toList = none := by rw [hl]; rfl
    rw [hq, eC] at HN
    rw [hl]
    simp only [dRes] at HN
    clear hq hl
    go_enter Tryd.func22, Tryd.ntmps22
    go_wp2_with (go_at_call 65; refine ((HN _).out).mono ?_; rintro e w1 ⟨rfl, hb1⟩; have HB := Lib.hid hb1; clear hb1)
    go_ret2
    exact ⟨rfl, HB.out⟩
theorem plain10_any (s : ByteArray) (hs : s.size ≤ 9223372036854775806) (w : World) :
    Calls Tryd.prog 22 #[.string s, .int .i64 64] w fun e w' => e = .returned (.tuple #[.int .i64 (plainR (plainP s.data.toList)).1, .int .i64 (plainR (plainP s.data.toList)).2]) ∧ Below w.heap.size w w' :=
  plain10_m 63 9223372036854775808 (by omega) (by omega) (by omega) (by decide +kernel) s hs w

theorem no_plain {l : List UInt8} (h : ∀ v, Lib.atoiAll l ≠ .ok v) : plainP l = none := by
  cases hp : plainP l with
  | none => rfl
  | some v => exact absurd ((plainP_atoi l v).1 hp) (h v)
/-- strconv.Atoi: the number and no error; or an error. -/
def AtoiGot (q : Option Int) (w : World) (e : Ending) (w' : World) : Prop := (∃ n E, e = .returned (.tuple #[.int .i64 n, E]) ∧ ((q = some n ∧ E = .nilIface) ∨ (q = none ∧ ∃ t x, E = .iface t x))) ∧ Below w.heap.size w w'
theorem atoi_any (s : ByteArray) (hs : s.size ≤ 281474976710656) (w : World) (he1 : ErrCell 0 w) (he2 : ErrCell 1 w) :
    Calls Tryd.prog 97 #[.string s] w (AtoiGot (plainP s.data.toList) w) := by
  obtain ⟨ev1, hc1, he1⟩ := he1
  obtain ⟨ev2, hc2, he2⟩ := he2
  cases h : Lib.atoiAll s.data.toList with
  | ok v =>
    refine (Tryd.strconv_Atoi_ok s (by omega) v h w).mono ?_
    rintro e w' ⟨rfl, hw⟩
    refine ⟨⟨v, _, rfl, .inl ⟨(plainP_atoi _ _).2 h, rfl⟩⟩, ?_⟩
    rcases hw with rfl | ⟨t, rfl⟩
    · exact Below.refl _ _
    · exact Lib.bytesWorld_below _ _ _
  | range =>
    have hn := no_plain (fun v => by rw [h]; intro e; cases e)
    refine (Tryd.strconv_Atoi_range s hs h ev2 w hc2 he2).mono ?_
    rintro e w' ⟨N, rfl, _, _, hb⟩
    exact ⟨⟨_, _, rfl, .inr ⟨hn, _, _, rfl⟩⟩, hb⟩
  | _ =>
    have hn := no_plain (fun v => by rw [h]; intro e; cases e)
    refine (Tryd.strconv_Atoi_syntax s hs h ev1 w hc1 he1).mono ?_
    rintro e w' ⟨N, rfl, _, _, hb⟩
    exact ⟨⟨_, _, rfl, .inr ⟨hn, _, _, rfl⟩⟩, hb⟩
end Go.Proofs.YtdmpeecocfoocaaDoor.E

namespace Go.Proofs.YtdmpeecocfoocaaDoor.E
open Go.RowKit Go.Proofs
set_option linter.unusedVariables false
set_option linter.unusedSimpArgs false

/-- A list of bytes as a text. -/
def mkT (l : List UInt8) : ByteArray := ⟨l.toArray⟩
theorem mkT_list (l : List UInt8) : (mkT l).data.toList = l := by simp [mkT]
theorem mkT_size (l : List UInt8) : (mkT l).size = l.length := by show l.toArray.size = _; simp
theorem of_list (s : ByteArray) : mkT s.data.toList = s := by cases s; simp [mkT]
theorem mkT_inj {a b : ByteArray} (h : a.data.toList = b.data.toList) : a = b := by rw [← of_list a, ← of_list b, h]
theorem ext_tailP (s : ByteArray) (n : Nat) : (s.extract n s.size).data.toList = s.data.toList.drop n := by
  rw [ByteArray.data_extract, Array.toList_extract, List.extract_eq_take_drop, List.take_of_length_le]
  simp
theorem ext_midP (s : ByteArray) (a b : Nat) : (s.extract a b).data.toList = (s.data.toList.drop a).take (b - a) := by
  rw [ByteArray.data_extract, Array.toList_extract, List.extract_eq_take_drop]

/-- The parts between commas. -/
def splitC : List UInt8 → List (List UInt8)
  | [] => [[]]
  | c :: r => if c.toNat = 44 then [] :: splitC r else
    match splitC r with
    | [] => [[c]]
    | h :: t => (c :: h) :: t
theorem splitC_ne : ∀ l, splitC l ≠ []
  | [] => by simp [splitC]
  | c :: r => by
    simp only [splitC]
    split
    · simp
    · split <;> simp
theorem splitC_none : ∀ l : List UInt8, (∀ c ∈ l, ¬ c.toNat = 44) → splitC l = [l]
  | [], _ => rfl
  | c :: r, h => by
    simp only [splitC]
    rw [if_neg (h c (by simp)), splitC_none r (fun c hc => h c (by simp [hc]))]
theorem splitC_at : ∀ (a : List UInt8) (c : UInt8) (r : List UInt8), (∀ x ∈ a, ¬ x.toNat = 44) → c.toNat = 44 → splitC (a ++ c :: r) = a :: splitC r
  | [], c, r, _, hc => by simp [splitC, hc]
  | x :: a, c, r, h, hc => by
    simp only [List.cons_append, splitC]
    rw [if_neg (h x (by simp)), splitC_at a c r (fun y hy => h y (by simp [hy])) hc]
theorem splitC_len : ∀ l, (splitC l).length ≤ l.length + 1
  | [] => by simp [splitC]
  | c :: r => by
    have ih := splitC_len r
    simp only [splitC]
    split
    · simp; omega
    · split
      · simp
      · rename_i h t e
        rw [e] at ih
        simp at ih ⊢; omega
theorem splitC_part : ∀ (l p : List UInt8), p ∈ splitC l → p.length ≤ l.length
  | [], p, h => by simp [splitC] at h; simp [h]
  | c :: r, p, h => by
    simp only [splitC] at h
    split at h
    · rcases List.mem_cons.1 h with rfl | h
      · simp
      · have := splitC_part r p h; simp; omega
    · split at h
      · simp at h; simp [h]
      · rename_i x t e
        rcases List.mem_cons.1 h with rfl | h
        · have := splitC_part r x (by rw [e]; simp); simp; omega
        · have := splitC_part r p (by rw [e]; simp [h]); simp; omega
/-- The parts of a text. -/
def partsT (s : ByteArray) : List ByteArray := (splitC s.data.toList).map mkT
theorem partsT_len (s : ByteArray) : (partsT s).length ≤ s.size + 1 := by
  have := splitC_len s.data.toList
  simp [partsT] at this ⊢; exact this
theorem partsT_size (s : ByteArray) (k : Nat) (h : k < (partsT s).length) : (tx (partsT s) k).size ≤ s.size := by
  rw [tx_lt h]
  obtain ⟨p, hp, e⟩ := List.mem_map.1 (List.getElem_mem h)
  rw [← e, mkT_size]
  have := splitC_part s.data.toList p hp
  simpa using this
/-- A text cut at its first comma. -/
theorem partsT_cut (s : ByteArray) (j : Nat) (h : j < s.size) (hc : s[j].toNat = 44) (hn : ∀ m, ∀ hm : m < j, ¬ (s[m]'(by omega)).toNat = 44) : partsT s = s.extract 0 j :: partsT (s.extract (j + 1) s.size) := by
  unfold partsT
  have e : s.data.toList = s.data.toList.take j ++ s[j] :: s.data.toList.drop (j + 1) := by
    conv => lhs; rw [← List.take_append_drop j s.data.toList]
    congr 1
    exact List.drop_eq_getElem_cons (by simpa using h)
  rw [e, splitC_at _ _ _ ?_ hc, List.map_cons, ext_tailP]
  · congr 1
    apply mkT_inj
    rw [mkT_list, ext_midP]; simp
  · intro x hx
    obtain ⟨m, hm, rfl⟩ := List.getElem_of_mem hx
    simp at hm
    rw [List.getElem_take]
    exact hn m (by omega)
theorem partsT_none (s : ByteArray) (hn : ∀ m, ∀ hm : m < s.size, ¬ s[m].toNat = 44) : partsT s = [s] := by
  unfold partsT
  rw [splitC_none]
  · simp [of_list]
  · intro x hx
    obtain ⟨m, hm, rfl⟩ := List.getElem_of_mem hx
    exact hn m (by simpa using hm)

/-- Where the first comma stands; the length, if there is none. -/
def idxC : List UInt8 → Nat
  | [] => 0
  | c :: r => if c.toNat = 44 then 0 else idxC r + 1
theorem idxC_le : ∀ l, idxC l ≤ l.length
  | [] => Nat.le_refl _
  | c :: r => by
    have := idxC_le r
    simp only [idxC]
    split <;> simp <;> omega
theorem idxC_not : ∀ (l : List UInt8) (m : Nat) (h : m < idxC l) (hl : m < l.length), ¬ (l[m]).toNat = 44
  | [], m, h, hl => by simp at hl
  | c :: r, m, h, hl => by
    simp only [idxC] at h
    split at h
    · omega
    · rename_i hc
      cases m with
      | zero => exact hc
      | succ m => exact idxC_not r m (by omega) (by simpa using hl)
theorem idxC_is : ∀ (l : List UInt8) (h : idxC l < l.length), (l[idxC l]).toNat = 44
  | [], h => by simp [idxC] at h
  | c :: r, h => by
    by_cases hc : c.toNat = 44
    · simp [idxC, hc]
    · have e : idxC (c :: r) = idxC r + 1 := by simp [idxC, hc]
      have hl : idxC r < r.length := by rw [e] at h; simpa using h
      have := idxC_is r hl
      simp only [e, List.getElem_cons_succ]; exact this
/-- The index that zzIndex tells. -/
def idxV (s : ByteArray) : Int := if idxC s.data.toList < s.size then (idxC s.data.toList : Nat) else -1
theorem partsT_idx (s : ByteArray) (h : idxC s.data.toList < s.size) : partsT s = s.extract 0 (idxC s.data.toList) :: partsT (s.extract (idxC s.data.toList + 1) s.size) := by
  refine partsT_cut s _ h ?_ ?_
  · have := idxC_is s.data.toList (by simpa using h)
    rw [← bget h] at this; exact this
  · intro m hm
    have := idxC_not s.data.toList m hm (by simp; omega)
    rw [← bget (show m < s.size by omega)] at this; exact this
theorem partsT_noidx (s : ByteArray) (h : ¬ idxC s.data.toList < s.size) : partsT s = [s] := by
  refine partsT_none s ?_
  intro m hm
  have hle := idxC_le s.data.toList
  have := idxC_not s.data.toList m (by omega) (by simp; omega)
  rw [← bget hm] at this; exact this
/-- What stands from a place on, cut at the comma at another one. -/
theorem partsT_from (s : ByteArray) (a b : Nat) (ha : a ≤ b) (hb : b < s.size) (hc : s[b].toNat = 44) (hn : ∀ m, a ≤ m → ∀ hm : m < b, ¬ (s[m]'(by omega)).toNat = 44) :
    partsT (s.extract a s.size) = s.extract a b :: partsT (s.extract (b + 1) s.size) := by
  have hsz : (s.extract a s.size).size = s.size - a := by simp
  have hg : ∀ m, (h : m < (s.extract a s.size).size) → (s.extract a s.size)[m] = s[a + m]'(by rw [hsz] at h; omega) := by
    intro m h
    rw [ByteArray.getElem_extract]
  have := partsT_cut (s.extract a s.size) (b - a) (by rw [hsz]; omega) (by rw [hg]; simpa [show a + (b - a) = b by omega] using hc) (by
    intro m hm
    rw [hg]
    exact hn (a + m) (by omega) (by omega))
  rw [this]
  congr 1
  · apply mkT_inj
    rw [ext_midP, ext_midP, ext_midP, List.drop_zero, List.take_take]
    congr 1
    omega
  · congr 1
    apply mkT_inj
    rw [ext_midP, ext_midP, ext_midP, hsz, List.drop_take, List.drop_drop, List.take_take]
    congr 1
    · omega
    · congr 1; omega
end Go.Proofs.YtdmpeecocfoocaaDoor.E

namespace Go.Proofs.YtdmpeecocfoocaaDoor.E
open Go.RowKit Go.Proofs
set_option linter.unusedVariables false
set_option linter.unusedSimpArgs false

theorem Tryd.infoStr1 : (Tryd.prog.info? 9).map (fun i => (i.zero, i.size, i.bytes)) = some (some (.string ⟨#[]⟩), 1, 16) := by kernel_rfl
theorem list_one (s : ByteArray) (k : Nat) (h : k < s.size) : (s.extract k (k + 1)).toList = [s[k]] := by
  rw [ByteArray.toList_eq, ext_midP, List.drop_eq_getElem_cons (by simpa using h), ← bget h]; simp

set_option maxRecDepth 100000 in
theorem index_any (s : ByteArray) (hs : s.size ≤ 2147483647) (w : World) :
    Calls Tryd.prog 106 #[.string s, .string ⟨#[44]⟩] w fun e w' => e = .returned (.int .i64 (idxV s)) ∧ w = w' := by
  have hsz1 : ((⟨#[44]⟩ : ByteArray).size : Int) = 1 := rfl
  have hs' : (s.size : Int) ≤ 2147483647 := by omega
  go_enter Tryd.func106, Tryd.ntmps106
  go_wp2
  go_loop [5] (fun i => ∃ k : Nat, k ≤ s.size ∧ i = .int .i64 k ∧ Hid (∀ m, ∀ hm : m < s.data.toList.length, m < k → ¬ (s.data.toList[m]).toNat = 44)) (fun i => s.size - (intOf i).toNat)
  case atStart => exact ⟨0, Nat.zero_le _, rfl, fun m _ h => by omega⟩
  case round =>
    obtain ⟨k, hk, rfl, HN⟩ := hrel
    by_cases hlt : k < s.size
    · have i1 : (k : Int) + 1 ≤ (s.size : Int) := by omega
      have hsl : ∀ W, (Instr.slice 9 (.string s) (some (.int .i64 k)) (some (.int .i64 ((k : Int) + 1))) none).run Tryd.prog W = .ok (.string (s.extract k (k + 1))) W := fun W => by rw [run_slice_string_if (P := Tryd.prog) (w := W) 9 s .i64 .i64 k _ Tryd.underlying9, if_pos ⟨by omega, by omega⟩, if_pos ⟨by omega, by omega⟩]; rfl
      by_cases h44 : s[k].toNat = 44
      · have HE : ((s.extract k (k + 1)).toList == [44]) = true := by rw [list_one s k hlt]; have : s[k] = 44 := UInt8.toNat_inj.1 h44; rw [this]; rfl
        have HV : Hid (idxV s = (k : Int)) := by
          show idxV s = _
          have e : idxC s.data.toList = k := by
            have a1 := idxC_le s.data.toList
            by_cases h1 : idxC s.data.toList < k
            · exact absurd (idxC_is s.data.toList (by simp; omega)) (HN.out _ (by simp; omega) h1)
            · by_cases h2 : k < idxC s.data.toList
              · exact absurd h44 (by have := idxC_not s.data.toList k h2 (by simpa using hlt); rw [← bget hlt] at this; exact this)
              · omega
          unfold idxV; rw [e, if_pos hlt]
        generalize s.extract k (k + 1) = T at hsl HE
        clear h44
        go_wp2
        go_ret
        exact ⟨by rw [HV.out]; rfl, rfl⟩
      · have HE : ((s.extract k (k + 1)).toList == [44]) = false := by
          rw [list_one s k hlt]
          have : (s[k] == (44 : UInt8)) = false := by rw [beq_eq_false_iff_ne]; intro e; exact h44 (by rw [e]; rfl)
          show (s[k] == 44 && _) = false
          rw [this]; rfl
        have HN2 : Hid (∀ m, ∀ hm : m < s.data.toList.length, m < k + 1 → ¬ (s.data.toList[m]).toNat = 44) := by
          intro m hm h
          by_cases e : m = k
          · subst e; rw [← bget hlt]; exact h44
          · exact HN.out m hm (by omega)
        generalize s.extract k (k + 1) = T at hsl HE
        clear h44
        go_wp2
        go_round
        case rel => exact ⟨k + 1, by omega, by go_num, HN2⟩
        case measure => simp [intOf]; omega
    · have i1 : ¬ (k : Int) + 1 ≤ (s.size : Int) := by omega
      have HV : Hid (idxV s = -1) := by
        show idxV s = -1
        unfold idxV
        rw [if_neg]
        intro h
        exact HN.out _ (by simpa using h) (by omega) (idxC_is s.data.toList (by simpa using h))
      go_wp2
      go_ret
      exact ⟨by rw [HV.out]; rfl, rfl⟩

def strSize : Value → Nat
  | .string s => s.size
  | _ => 0
theorem own_base {w : World} {base e size n : Nat} {A : Option Addr} {m c : Nat} {xs : List Value} (h : w.ownsRow base e size (.slice A m c) n xs) : ∀ a, A = some a → base ≤ a.block := by
  intro a ha
  subst ha
  rcases h.2 with ⟨h1, _⟩ | ⟨g, cap, cur, hv, hb, _⟩
  · cases h1
  · cases hv; exact hb
theorem strCells_snoc (l : List ByteArray) (t : ByteArray) : strCells (l ++ [t]) = strCells l ++ [.string t] := by simp [strCells]

set_option maxRecDepth 100000 in
set_option maxHeartbeats 1600000 in
theorem split_any (s : ByteArray) (hs : s.size ≤ 2147483647) (w : World) :
    Calls Tryd.prog 85 #[.string s, .string ⟨#[44]⟩] w fun e w' => ∃ A c, e = .returned (.slice A (partsT s).length c) ∧ RowAt w' A (strCells (partsT s)) ∧ Below w.heap.size w w' ∧ (∀ a, A = some a → w.heap.size ≤ a.block) := by
  obtain ⟨ti, hi, hz0, hz1, hz2⟩ := info_parts Tryd.infoStr1
  have hsz1 : ((⟨#[44]⟩ : ByteArray).size : Int) = 1 := rfl
  go_enter Tryd.func85, Tryd.ntmps85
  go_wp2
  go_loopw [0, 5] (fun S v wr => ∃ (T : ByteArray) (done : List ByteArray), S = .string T ∧ wr.ownsRow w.heap.size 9 1 v done.length (strCells done) ∧ done.length + T.size ≤ s.size ∧ Hid (done ++ partsT T = partsT s) ∧ Below w.heap.size w wr) (fun S _ _ => strSize S)
  case atStart => exact ⟨s, [], rfl, World.ownsRow_nil _ _ _ _, by simp, rfl, Below.refl _ _⟩
  case round =>
    obtain ⟨T, done, rfl, hown, hlen, HR, hbel⟩ := hrel
    have HI := fun w => Lib.hid (index_any T (by omega) w)
    have hs0 := hown.lt
    have i2 : (T.size : Int) ≤ 2147483647 := by omega
    by_cases hx : idxC T.data.toList < T.size
    · have hv : idxV T = ((idxC T.data.toList : Nat) : Int) := if_pos hx
      have HP := Lib.hid (partsT_idx T hx)
      rw [hv] at HI
      generalize idxC T.data.toList = j at hx HI HP hv
      have i0 : (0 : Int) ≤ (j : Int) := Int.natCast_nonneg _
      have i1 : (j : Int) < (T.size : Int) := by omega
      have hsl : ∀ W, (Instr.slice 9 (.string T) none (some (.int .i64 j)) none).run Tryd.prog W = .ok (.string (T.extract 0 j)) W := fun W => by rw [run_slice_string_h (P := Tryd.prog) W 9 T Tryd.underlying9 .i64 j (by omega) (by omega)]; rfl
      have hsr : ∀ W, (Instr.slice 9 (.string T) (some (.int .i64 ((j : Int) + 1))) none none).run Tryd.prog W = .ok (.string (T.extract (j + 1) T.size)) W := fun W => by rw [run_slice_string_l (P := Tryd.prog) W 9 T Tryd.underlying9 .i64 _ (by omega) (by omega)]; rfl
      have hRs : (T.extract (j + 1) T.size).size + (j + 1) = T.size := by simp; omega
      generalize T.extract 0 j = L at hsl HP
      generalize T.extract (j + 1) T.size = R at hsr HP hRs
      have HRs := Lib.hid hRs
      clear hv hx hRs
      go_wp2_with (first
        | (go_at_call 106; refine ((HI _).out).mono ?_; rintro e w1 ⟨rfl, rfl⟩)
        | (at_builtin; refine wpList_append_own _ rfl (.tmp 46) (.tmp 50) 23 rfl w.heap.size 9 ti _ 1 16 Tryd.underlying23 hi hz0 hz1 hz2 rfl (by decide) _ done.length _ rfl (hown.alloc _) ⟨wr.heap.size, 0, none⟩ 1 1 [.string L] rfl rfl (World.news_of_block (cs := #[.string L]) (t := 9) (fr := (0, 0)) (heap_alloc_new wr _)) (by simp [Value.oneCell']) (by unfold maxLen; omega) (by omega) (by have := hbel.size; simp; omega) ?_; intro v2 w2 hown2 hgrow hlt2))
      have hb2 : Below w.heap.size w w2 := (hbel.alloc hbel.size _).grown hgrow (by have := hbel.size; simp; omega) (fun b hb => (hs0 b hb).1)
      go_roundw
      case rel => exact ⟨R, done ++ [L], rfl, by rw [strCells_snoc]; simpa using hown2, by have := HRs.out; simp; omega, by show (done ++ [L]) ++ partsT R = partsT s; rw [← HR.out, HP.out]; simp, hb2⟩
      case measure => have := HRs.out; simp [strSize]; omega
    · have hv : idxV T = -1 := if_neg hx
      have HP := Lib.hid (partsT_noidx T hx)
      rw [hv] at HI
      clear hv hx
      go_wp2_with (first
        | (go_at_call 106; refine ((HI _).out).mono ?_; rintro e w1 ⟨rfl, rfl⟩)
        | (at_builtin; refine wpList_append_own _ rfl (.tmp 42) (.tmp 44) 23 rfl w.heap.size 9 ti _ 1 16 Tryd.underlying23 hi hz0 hz1 hz2 rfl (by decide) _ done.length _ rfl (hown.alloc _) ⟨wr.heap.size, 0, none⟩ 1 1 [.string T] rfl rfl (World.news_of_block (cs := #[.string T]) (t := 9) (fr := (0, 0)) (heap_alloc_new wr _)) (by simp [Value.oneCell']) (by unfold maxLen; omega) (by omega) (by have := hbel.size; simp; omega) ?_; intro v2 w2 hown2 hgrow hlt2))
      have hb2 : Below w.heap.size w w2 := (hbel.alloc hbel.size _).grown hgrow (by have := hbel.size; simp; omega) (fun b hb => (hs0 b hb).1)
      have hown3 : w2.ownsRow w.heap.size 9 1 v2 (partsT s).length (strCells (partsT s)) := by
        rw [← HR.out, HP.out, strCells_snoc]; simpa using hown2
      obtain ⟨A', c, rfl, hrow⟩ := own_row hown3
      go_ret
      exact ⟨A', c, rfl, hrow, hb2, own_base hown3⟩
end Go.Proofs.YtdmpeecocfoocaaDoor.E

namespace Go.Proofs.YtdmpeecocfoocaaDoor.E
open Go.RowKit Go.Proofs
set_option linter.unusedVariables false
set_option linter.unusedSimpArgs false

theorem extract_all (s : ByteArray) : s.extract 0 s.size = s := mkT_inj (by rw [ext_midP, List.drop_zero, List.take_of_length_le (by simp)])
set_option maxRecDepth 100000 in
set_option maxHeartbeats 1600000 in
theorem parts_any (s : ByteArray) (hs : s.size ≤ 2147483647) (w : World) :
    Calls Tryd.prog 37 #[.string s] w fun e w' => ∃ A c, e = .returned (.slice A (partsT s).length c) ∧ RowAt w' A (strCells (partsT s)) ∧ Below w.heap.size w w' ∧ (∀ a, A = some a → w.heap.size ≤ a.block) := by
  obtain ⟨ti, hi, hz0, hz1, hz2⟩ := info_parts Tryd.infoStr1
  have HMADE : Hid ((w.alloc (.cells #[] 9)).ownsRow w.heap.size 9 1 (.slice (some ⟨w.heap.size, 0, none⟩) 0 0) 0 []) := World.ownsRow_made (base := w.heap.size) (e := 9) (size := 1) w #[] 0 (Nat.le_refl _) (Nat.zero_le _) rfl
  have i2 : (s.size : Int) ≤ 2147483647 := by omega
  go_enter Tryd.func37, Tryd.ntmps37
  go_wp2
  go_loopw [3, 4, 9] (fun v f i wr => ∃ (k a : Nat) (done : List ByteArray), k ≤ s.size ∧ a ≤ k ∧ i = .int .i64 k ∧ f = .int .i64 a ∧ wr.ownsRow w.heap.size 9 1 v done.length (strCells done) ∧ done.length ≤ k ∧ Hid (done ++ partsT (s.extract a s.size) = partsT s) ∧ Hid (∀ m, a ≤ m → ∀ hm : m < s.size, m < k → ¬ s[m].toNat = 44) ∧ Below w.heap.size w wr) (fun _ _ i _ => s.size - (intOf i).toNat)
  case atStart => exact ⟨0, 0, [], Nat.zero_le _, Nat.le_refl _, rfl, rfl, HMADE.out, Nat.le_refl _, by show [] ++ partsT _ = _; rw [extract_all]; rfl, fun m _ _ h => by omega, (Below.refl _ _).alloc (Nat.le_refl _) _⟩
  case round =>
    obtain ⟨k, a, done, hk, ha, rfl, rfl, hown, hlen, HR, HN, hbel⟩ := hrel
    have hs0 := hown.lt
    have i0 : (0 : Int) ≤ (k : Int) := Int.natCast_nonneg _
    have i3 : (0 : Int) ≤ (a : Int) := Int.natCast_nonneg _
    have i4 : (a : Int) ≤ (k : Int) := by omega
    by_cases hlt : k < s.size
    · have i1 : (k : Int) < (s.size : Int) := by omega
      by_cases h44 : s[k].toNat = 44
      · have c0 : ((s[k].toNat : Int) == 44) = true := by rw [h44]; rfl
        have HP := Lib.hid (partsT_from s a k ha hlt h44 (fun m h1 h2 => HN.out m h1 (by omega) h2))
        have hsl : ∀ W, (Instr.slice 9 (.string s) (some (.int .i64 a)) (some (.int .i64 k)) none).run Tryd.prog W = .ok (.string (s.extract a k)) W := fun W => by rw [run_slice_string_if (P := Tryd.prog) (w := W) 9 s .i64 .i64 a k Tryd.underlying9, if_pos ⟨by omega, by omega⟩, if_pos ⟨by omega, by omega⟩]; rfl
        generalize s.extract a k = L at hsl HP
        clear h44
        go_wp2_with (at_builtin; refine wpList_append_own _ rfl (.tmp 16) (.tmp 21) 23 rfl w.heap.size 9 ti _ 1 16 Tryd.underlying23 hi hz0 hz1 hz2 rfl (by decide) _ done.length _ rfl (hown.alloc _) ⟨wr.heap.size, 0, none⟩ 1 1 [.string L] rfl rfl (World.news_of_block (cs := #[.string L]) (t := 9) (fr := (0, 0)) (heap_alloc_new wr _)) (by simp [Value.oneCell']) (by unfold maxLen; omega) (by omega) (by have := hbel.size; simp; omega) ?_; intro v2 w2 hown2 hgrow hlt2)
        have hb2 : Below w.heap.size w w2 := (hbel.alloc hbel.size _).grown hgrow (by have := hbel.size; simp; omega) (fun b hb => (hs0 b hb).1)
        go_roundw
        case rel => exact ⟨k + 1, k + 1, done ++ [L], by omega, Nat.le_refl _, by go_num, by go_num, by rw [strCells_snoc]; simpa using hown2, by simp; omega, by show (done ++ [L]) ++ _ = partsT s; rw [← HR.out, HP.out]; simp, fun m h1 _ h2 => by omega, hb2⟩
        case measure => simp [intOf]; omega
      · have c0 : ((s[k].toNat : Int) == 44) = false := byte_beq (k := 44) (by omega) (fun h => h44 (by rw [h]; rfl))
        have HN2 : Hid (∀ m, a ≤ m → ∀ hm : m < s.size, m < k + 1 → ¬ s[m].toNat = 44) := by
          intro m h1 hm h2
          by_cases e : m = k
          · subst e; exact h44
          · exact HN.out m h1 hm (by omega)
        clear h44
        go_wp2
        go_roundw
        case rel => exact ⟨k + 1, a, done, by omega, by omega, by go_num, rfl, hown, by omega, HR, HN2, hbel⟩
        case measure => simp [intOf]; omega
    · have HP : Hid (partsT (s.extract a s.size) = [s.extract a s.size]) := by
        show partsT _ = _
        refine partsT_none _ (fun m hm => ?_)
        rw [ByteArray.getElem_extract]
        have hsz : (s.extract a s.size).size = s.size - a := by simp
        exact HN.out (a + m) (by omega) (by omega) (by omega)
      have hsr : ∀ W, (Instr.slice 9 (.string s) (some (.int .i64 a)) none none).run Tryd.prog W = .ok (.string (s.extract a s.size)) W := fun W => by rw [run_slice_string_l (P := Tryd.prog) W 9 s Tryd.underlying9 .i64 a (by omega) (by omega)]; rfl
      generalize s.extract a s.size = L at hsr HP HR
      go_wp2_with (at_builtin; refine wpList_append_own _ rfl (.tmp 26) (.tmp 30) 23 rfl w.heap.size 9 ti _ 1 16 Tryd.underlying23 hi hz0 hz1 hz2 rfl (by decide) _ done.length _ rfl (hown.alloc _) ⟨wr.heap.size, 0, none⟩ 1 1 [.string L] rfl rfl (World.news_of_block (cs := #[.string L]) (t := 9) (fr := (0, 0)) (heap_alloc_new wr _)) (by simp [Value.oneCell']) (by unfold maxLen; omega) (by omega) (by have := hbel.size; simp; omega) ?_; intro v2 w2 hown2 hgrow hlt2)
      have hb2 : Below w.heap.size w w2 := (hbel.alloc hbel.size _).grown hgrow (by have := hbel.size; simp; omega) (fun b hb => (hs0 b hb).1)
      have hown3 : w2.ownsRow w.heap.size 9 1 v2 (partsT s).length (strCells (partsT s)) := by
        rw [← HR.out, HP.out, strCells_snoc]; simpa using hown2
      obtain ⟨A', c, rfl, hrow⟩ := own_row hown3
      go_ret
      exact ⟨A', c, rfl, hrow, hb2, own_base hown3⟩

/-- Texts as numbers of 64 bits; none, if one is no such. -/
def nums64 : List ByteArray → Option (List Int)
  | [] => some []
  | t :: r => match plainP t.data.toList with
    | none => none
    | some n => (nums64 r).map (n :: ·)
def i64s (l : List Int) : List Value := l.map (Value.int .i64)
theorem i64s_snoc (l : List Int) (n : Int) : i64s (l ++ [n]) = i64s l ++ [.int .i64 n] := by simp [i64s]
theorem Tryd.infoI64 : (Tryd.prog.info? 2).map (fun i => (i.zero, i.size, i.bytes)) = some (some (.int .i64 0), 1, 8) := by kernel_rfl
theorem one64_any (t : ByteArray) (ht : t.size ≤ 2147483647) (w : World) :
    Calls Tryd.prog 21 #[.string t] w fun e w' => e = .returned (.tuple #[.int .i64 (plainR (plainP t.data.toList)).1, .int .i64 (plainR (plainP t.data.toList)).2]) ∧ Below w.heap.size w w' := by
  have H := fun w => Lib.hid (plain10_any t (by omega) w)
  generalize (plainR (plainP t.data.toList)).1 = a at H ⊢
  generalize (plainR (plainP t.data.toList)).2 = b at H ⊢
  go_enter Tryd.func21, Tryd.ntmps21
  go_wp2_with (go_at_call 22; refine ((H _).out).mono ?_; rintro e w1 ⟨rfl, hb⟩)
  go_ret2
  exact ⟨rfl, hb⟩

/-- What each29 returns: the numbers and 1, or none and 2. -/
def EachEnd (q : Option (List Int)) (w : World) (e : Ending) (w' : World) : Prop :=
  (∀ N, q = some N → ∃ A c, e = .returned (.tuple #[.slice A N.length c, .int .i64 1]) ∧ RowAt w' A (i64s N) ∧ (∀ a, A = some a → w.heap.size ≤ a.block)) ∧ (q = none → e = .returned (.tuple #[.slice none 0 0, .int .i64 2])) ∧ Below w.heap.size w w'
theorem nums64_drop {xs : List ByteArray} {k : Nat} (h : k < xs.length) : nums64 (xs.drop k) = match plainP (tx xs k).data.toList with | none => none | some n => (nums64 (xs.drop (k + 1))).map (n :: ·) := by
  rw [List.drop_eq_getElem_cons h, tx_lt h]; rfl

set_option maxRecDepth 100000 in
set_option maxHeartbeats 1600000 in
theorem each64_any (A : Option Addr) (cap : Nat) (xs : List ByteArray) (w : World) (hx : StrsAt w A xs) (hm : xs.length ≤ 2147483648) (hs : ∀ j, j < xs.length → (tx xs j).size ≤ 2147483647) :
    Calls Tryd.prog 35 #[.slice A xs.length cap, .func (.func 21) #[] #[]] w (EachEnd (nums64 xs) w) := by
  obtain ⟨ti, hi, hz0, hz1, hz2⟩ := info_parts Tryd.infoI64
  have HMADE : Hid ((w.alloc (.cells #[] 2)).ownsRow w.heap.size 2 1 (.slice (some ⟨w.heap.size, 0, none⟩) 0 0) 0 []) := World.ownsRow_made (base := w.heap.size) (e := 2) (size := 1) w #[] 0 (Nat.le_refl _) (Nat.zero_le _) rfl
  have HS := Lib.hid hs
  clear hs
  go_enter Tryd.func35, Tryd.ntmps35
  go_wp2
  go_loopw [6, 14] (fun v i wr => ∃ (k : Nat) (done : List Int), k ≤ xs.length ∧ i = .int .i64 k ∧ done.length = k ∧ wr.ownsRow w.heap.size 2 1 v k (i64s done) ∧ Hid (nums64 xs = (nums64 (xs.drop k)).map (done ++ ·)) ∧ Below w.heap.size w wr) (fun _ i _ => xs.length - (intOf i).toNat)
  case atStart => exact ⟨0, [], Nat.zero_le _, rfl, rfl, HMADE.out, by show _ = _; simp, (Below.refl _ _).alloc (Nat.le_refl _) _⟩
  case round =>
    obtain ⟨k, done, hk, rfl, hdl, hown, HR, hbel⟩ := hrel
    have hs0 := hown.lt
    by_cases hlt : k < xs.length
    · obtain ⟨ba, oa, rfl, hc0⟩ := hx k hlt
      have hc := cell_kept hbel hc0
      have i0 : (0 : Int) ≤ (k : Int) := Int.natCast_nonneg _
      have i1 : (k : Int) < (xs.length : Int) := by omega
      have hsz : (tx xs k).size ≤ 2147483647 := HS.out k hlt
      have HO := fun w => Lib.hid (one64_any (tx xs k) hsz w)
      have hd := nums64_drop hlt
      generalize hq : plainP (tx xs k).data.toList = q at HO hd
      clear hq hsz hc0
      cases q with
      | some n =>
        simp only [plainR] at HO hd
        have HR2 : Hid (nums64 xs = (nums64 (xs.drop (k + 1))).map ((done ++ [n]) ++ ·)) := by
          show _ = _
          rw [HR.out, hd, Option.map_map]; congr 1; funext l; simp
        clear hd HR
        go_wp2_with (first
          | (go_at_call 21; refine ((HO _).out).mono ?_; rintro e w1 ⟨rfl, hb1⟩; have hown1 := own_kept hown hb1; have hbel1 := below_step hbel hb1)
          | (at_builtin; refine wpList_append_own _ rfl (.tmp 27) (.tmp 29) 27 rfl w.heap.size 2 ti _ 1 8 Tryd.underlying27 hi hz0 hz1 hz2 rfl (by decide) _ k _ rfl (hown1.alloc _) ⟨w1.heap.size, 0, none⟩ 1 1 [.int .i64 n] rfl rfl (World.news_of_block (cs := #[.int .i64 n]) (t := 2) (fr := (0, 0)) (heap_alloc_new w1 _)) (by simp [Value.oneCell']) (by unfold maxLen; omega) (by omega) (by have := hbel1.size; simp; omega) ?_; intro v2 w2 hown2 hgrow hlt2))
        have hs1 := hown1.lt
        have hb2 : Below w.heap.size w w2 := (hbel1.alloc hbel1.size _).grown hgrow (by have := hbel1.size; simp; omega) (fun b hb => (hs1 b hb).1)
        go_roundw
        case rel => exact ⟨k + 1, done ++ [n], by omega, by go_num, by simp [hdl], by rw [i64s_snoc]; exact hown2, HR2, hb2⟩
        case measure => simp [intOf]; omega
      | none =>
        simp only [plainR] at HO hd
        have HN : Hid (nums64 xs = none) := by show _ = _; rw [HR.out, hd]; rfl
        clear hd HR
        go_wp2_with (go_at_call 21; refine ((HO _).out).mono ?_; rintro e w1 ⟨rfl, hb1⟩; have hbel1 := below_step hbel hb1)
        go_ret2
        rw [HN.out]
        exact ⟨fun N h => by (cases h), fun _ => rfl, hbel1⟩
    · have HN : Hid (nums64 xs = some done) := by
        show _ = _
        rw [HR.out, List.drop_eq_nil_of_le (by omega)]; simp [nums64]
      have hk2 : k = done.length := hdl.symm
      subst hk2
      obtain ⟨A', c, rfl, hrow⟩ := own_row hown
      have hob := own_base hown
      go_wp2
      go_ret2
      rw [HN.out]
      refine ⟨fun N h => ?_, fun h => by (cases h), hbel⟩
      cases h
      exact ⟨A', c, rfl, hrow, hob⟩

theorem strs_of_row {w : World} {A : Option Addr} {xs : List ByteArray} (h : RowAt w A (strCells xs)) : StrsAt w A xs := by
  intro i hi
  obtain ⟨g, e, hc⟩ := h i (.string (tx xs i)) (by simp [strCells, hi, tx])
  exact ⟨g, 0, e, by rw [Nat.zero_add]; exact hc⟩
/-- The function that cuts29 makes. -/
theorem cuts64_any (s : ByteArray) (hs : s.size ≤ 2147483647) (a : Addr) (w : World) (ha : w.cell? a = some (.func (.func 21) #[] #[])) :
    Calls Tryd.prog 36 #[.string s, .pointer (some a)] w (EachEnd (nums64 (partsT s)) w) := by
  have HP := fun w => Lib.hid (parts_any s hs w)
  have hl := partsT_len s
  have HE := fun A c w hx => Lib.hid (each64_any A c (partsT s) w hx (by omega) (fun j hj => Nat.le_trans (partsT_size s j hj) hs))
  generalize nums64 (partsT s) = q at HE ⊢
  clear hl hs
  cases q with
  | some N =>
    go_enter Tryd.func36, Tryd.ntmps36
    go_wp2
    go_region_held3 (fun w' => w'.cell? a = some (.func (.func 21) #[] #[])) (first | assumption | go_keep)
      (first
        | (go_at_call 37; refine ((HP _).out).mono ?_; rintro e w1 ⟨A, c, rfl, hrow, hb1, hfr⟩; have hst := strs_of_row hrow; have hca := cell_kept hb1 ha)
        | (go_at_call 35; refine ((HE A c _ hst).out).mono ?_; rintro e w2 hE; obtain ⟨A2, c2, rfl, hrow2, hfr2⟩ := hE.1 N rfl; have hb2 := hE.2.2; have hcb := cell_kept hb2 hca))
    go_wp2
    go_ret2
    have h1 : Below w.heap.size w w1 := ((Below.refl _ _).drew).trans hb1
    have h2 : Below w.heap.size w w2 := h1.trans (hb2.mono h1.size)
    refine ⟨fun N h => ?_, fun h => by (cases h), h2⟩
    cases h
    exact ⟨A2, c2, rfl, hrow2, fun x hx => Nat.le_trans h1.size (hfr2 x hx)⟩
  | none =>
    go_enter Tryd.func36, Tryd.ntmps36
    go_wp2
    go_region_held3 (fun w' => w'.cell? a = some (.func (.func 21) #[] #[])) (first | assumption | go_keep)
      (first
        | (go_at_call 37; refine ((HP _).out).mono ?_; rintro e w1 ⟨A, c, rfl, hrow, hb1, hfr⟩; have hst := strs_of_row hrow; have hca := cell_kept hb1 ha)
        | (go_at_call 35; refine ((HE A c _ hst).out).mono ?_; rintro e w2 hE; obtain rfl := hE.2.1 rfl; have hb2 := hE.2.2; have hcb := cell_kept hb2 hca))
    go_wp2
    go_ret2
    have h1 : Below w.heap.size w w1 := ((Below.refl _ _).drew).trans hb1
    have h2 : Below w.heap.size w w2 := h1.trans (hb2.mono h1.size)
    exact ⟨fun N h => by (cases h), fun _ => rfl, h2⟩
end Go.Proofs.YtdmpeecocfoocaaDoor.E

namespace Go.Proofs.YtdmpeecocfoocaaDoor.E
open Go.RowKit Go.Proofs
set_option linter.unusedVariables false
set_option linter.unusedSimpArgs false

theorem Tryd.infoInt1 : (Tryd.prog.info? 3).map (fun i => (i.zero, i.size, i.bytes)) = some (some (.int .i64 0), 1, 8) := by kernel_rfl
theorem atoiGot_some {f : Nat} {args : Array Value} {w : World} {n : Int} (h : Calls Tryd.prog f args w (AtoiGot (some n) w)) : Calls Tryd.prog f args w fun e w' => e = .returned (.tuple #[.int .i64 n, .nilIface]) ∧ Below w.heap.size w w' :=
  h.mono fun e w' ⟨⟨m, E, he, hc⟩, hb⟩ => by
    rcases hc with ⟨h1, rfl⟩ | ⟨h1, _⟩
    · cases h1; exact ⟨he, hb⟩
    · cases h1
theorem atoiGot_none {f : Nat} {args : Array Value} {w : World} (h : Calls Tryd.prog f args w (AtoiGot none w)) : Calls Tryd.prog f args w fun e w' => ∃ n t x, e = .returned (.tuple #[.int .i64 n, .iface t x]) ∧ Below w.heap.size w w' :=
  h.mono fun e w' ⟨⟨m, E, he, hc⟩, hb⟩ => by
    rcases hc with ⟨h1, rfl⟩ | ⟨_, t, x, rfl⟩
    · cases h1
    · exact ⟨m, t, x, he, hb⟩
/-- The value of a list, as it lies in memory: the struct at P1, the list's variable at P0. -/
structure SV (w : World) (P1 P0 : Nat) (V : List Int) (ch : Bool) (v : Value) : Prop where
  h1 : w.heap[P1]? = some (.cells #[.pointer (some ⟨P0, 0, none⟩), .bool ch] 150 (0, 0))
  h0 : w.heap[P0]? = some (.cells #[v] 101 (0, 0))
  hv : w.ownsRow 0 3 1 v V.length (i64s V)
  n1 : v.ownBlock ≠ some P1
  n0 : v.ownBlock ≠ some P0
  ne : P0 ≠ P1
  sh : ∃ g c, v = .slice (some ⟨g, 0, none⟩) V.length c
theorem SV.kept {w w' : World} {P1 P0 : Nat} {V : List Int} {ch : Bool} {v : Value} (h : SV w P1 P0 V ch v) (hb : Below w.heap.size w w') : SV w' P1 P0 V ch v :=
  ⟨block_kept h.h1 hb, block_kept h.h0 hb, own_kept h.hv hb, h.n1, h.n0, h.ne, h.sh⟩
/-- What a step on the value turns: its struct, its variable, its row. -/
structure SvChg (w w' : World) (P1 P0 : Nat) (v v' : Value) : Prop where
  os : w'.os = w.os
  tape : w'.tape = w.tape
  output : w'.output = w.output
  size : w.heap.size ≤ w'.heap.size
  block : ∀ k, k < w.heap.size → k ≠ P1 → k ≠ P0 → v.ownBlock ≠ some k → w'.heap[k]? = w.heap[k]?
  own : v'.ownBlock = v.ownBlock ∨ ∀ g, v'.ownBlock = some g → w.heap.size ≤ g
theorem ne_of_own {v v' : Value} {n P : Nat} (h : v'.ownBlock = v.ownBlock ∨ ∀ g, v'.ownBlock = some g → n ≤ g) (hP : P < n) (hv : v.ownBlock ≠ some P) : v'.ownBlock ≠ some P := by
  intro e
  rcases h with h | h
  · exact hv (h.symm.trans e)
  · have := h P e; omega
theorem own_setCell {w : World} {base e size n : Nat} {v : Value} {xs : List Value} (h : w.ownsRow base e size v n xs) {a : Addr} (ha : v.ownBlock ≠ some a.block) (u : Value) : (w.setCell a u).ownsRow base e size v n xs := by
  refine ⟨h.1, ?_⟩
  rcases h.2 with hn | ⟨g, cap, cur, hv, hb, hh, r⟩
  · exact .inl hn
  · refine .inr ⟨g, cap, cur, hv, hb, ?_, r⟩
    rw [Below.heap_setCell _ _ _ _ (by intro e; rw [hv] at ha; exact ha (by rw [← e]; rfl))]
    exact hh
theorem own_of_rowIs {w : World} {B g n : Nat} {e : TypeId} {L : List Int} (h : w.rowIs g e n (fun j => .int .i64 (L.getD j 0))) (hl : L.length = n) (hB : B ≤ g) (hm : n ≤ maxLen) : w.ownsRow B e 1 (.slice (some ⟨g, 0, none⟩) n n) n (i64s L) := by
  obtain ⟨c, hb, hn, hc⟩ := h
  refine ⟨by simp [i64s, hl], .inr ⟨g, n, c, rfl, hB, hb, Nat.le_refl _, hm, by omega, ?_⟩⟩
  apply List.ext_getElem?
  intro i
  rw [List.getElem?_take]
  by_cases hi : i < n
  · rw [if_pos (by omega)]
    have := hc i hi
    rw [Array.getElem?_toList, this]
    simp [i64s, hl, hi]
  · rw [if_neg (by omega), List.getElem?_eq_none (by simp [i64s, hl]; omega)]

set_option maxRecDepth 100000 in
set_option maxHeartbeats 3200000 in
theorem set64_none (s : ByteArray) (hs : s.size ≤ 2147483647) (P1 P0 : Nat) (V : List Int) (ch : Bool) (v : Value) (w : World) (h : SV w P1 P0 V ch v) (he1 : ErrCell 0 w) (he2 : ErrCell 1 w) (hq : nums64 (partsT s) = none) :
    Calls Tryd.prog 59 #[.pointer (some ⟨P1, 0, none⟩), .string s] w fun e w' => (∃ t x, e = .returned (.iface t x)) ∧ Below w.heap.size w w' := by
  have HS := fun w => Lib.hid (split_any s hs w)
  have HPOS : Hid (0 < (partsT s).length) := by show 0 < (partsT s).length; have := splitC_ne s.data.toList; simp only [partsT, List.length_map]; exact List.length_pos_iff.2 this
  have hl := partsT_len s
  have HZ := fun j hj => Lib.hid (Nat.le_trans (partsT_size s j hj) hs)
  generalize partsT s = xs at HS hl HZ hq HPOS
  have hn : xs.length ≤ 2147483648 := by omega
  have HQ := Lib.hid hq
  have E1 := Lib.hid he1
  have E2 := Lib.hid he2
  have hmk := fun W => run_make_row' (P := Tryd.prog) 101 3 (.int .i64 0) 8 Tryd.underlying101 Tryd.infoInt1 rfl .i64 .i64 xs.length (by omega) (by omega) W
  clear hq he1 he2 hl
  go_enter Tryd.func59, Tryd.ntmps59
  go_wp2_with (go_at_call 85; refine ((HS _).out).mono ?_; rintro e w1 ⟨A, c, rfl, hrow, hb1, hfr⟩)
  have hst := strs_of_row hrow
  go_loopw [17] (fun i wr => ∃ (k : Nat) (done : List Int), k ≤ xs.length ∧ i = .int .i64 k ∧ done.length = k ∧ wr.rowIs w1.heap.size 3 xs.length (fun j => .int .i64 (done.getD j 0)) ∧ Hid (nums64 xs = (nums64 (xs.drop k)).map (done ++ ·)) ∧ Below w1.heap.size w1 wr) (fun i _ => xs.length - (intOf i).toNat)
  case atStart => exact ⟨0, [], Nat.zero_le _, rfl, rfl, World.rowIs_made w1 _ _ _, by show _ = _; simp, (Below.refl _ _).alloc (Nat.le_refl _) _⟩
  case round =>
    obtain ⟨k, done, hk, rfl, hdl, hri, HR, hbel⟩ := hrel
    by_cases hlt : k < xs.length
    · obtain ⟨ba, oa, rfl, hc0⟩ := hst k hlt
      have hc := cell_kept hbel hc0
      have i0 : (0 : Int) ≤ (k : Int) := Int.natCast_nonneg _
      have i1 : (k : Int) < (xs.length : Int) := by omega
      have hsz : (tx xs k).size ≤ 281474976710656 := by have := (HZ k hlt).out; omega
      have hbw : Below w.heap.size w wr := below_step hb1 hbel
      have HI := Lib.hid (atoi_any (tx xs k) hsz wr (E1.out.below hbw) (E2.out.below hbw))
      have hd := nums64_drop hlt
      generalize plainP (tx xs k).data.toList = q at hd HI
      clear hsz hc0
      cases q with
      | some n =>
        have HI := Lib.hid (atoiGot_some HI.out)
        simp only [] at hd
        have HR2 : Hid (nums64 xs = (nums64 (xs.drop (k + 1))).map ((done ++ [n]) ++ ·)) := by
          show _ = _
          rw [HR.out, hd, Option.map_map]; congr 1; funext l; simp
        clear hd HR
        go_wp2_with (go_at_call 97; go_loud (refine (HI.out).mono ?_; rintro e w2 ⟨rfl, hb2⟩; have hri2 := hri.of_block (hb2.block _ hri.lt); have hcz := hri2.cell hlt; have hfz := hri2.frozen k; have hbel2 := below_step hbel hb2))
        have hri3 := (hri2.set k (.int .i64 n)).congr (g := fun j => .int .i64 ((done ++ [n]).getD j 0)) (fun j hj => by
          by_cases e : j = k
          · subst e; simp [hdl]
          · simp only [if_neg e]
            rw [List.getD_eq_getElem?_getD, List.getD_eq_getElem?_getD]
            by_cases h2 : j < k
            · rw [List.getElem?_append_left (by omega)]
            · rw [List.getElem?_eq_none (by omega), List.getElem?_eq_none (by simp; omega)])
        go_roundw
        case rel => exact ⟨k + 1, done ++ [n], by omega, by go_num, by simp [hdl], hri3, HR2, hbel2.setCell (p := ⟨w1.heap.size, k, none⟩) (Nat.le_refl _) _⟩
        case measure => simp [intOf]; omega
      | none =>
        have HI := Lib.hid (atoiGot_none HI.out)
        clear hd HR
        go_wp2_with (go_at_call 97; go_loud (refine (HI.out).mono ?_; rintro e w2 ⟨nz, te, qe, rfl, hb2⟩; have hri2 := hri.of_block (hb2.block _ hri.lt); have hcz := hri2.cell hlt; have hfz := hri2.frozen k; have hbel2 := below_step hbel hb2))
        go_ret
        exact ⟨⟨_, _, rfl⟩, below_step hb1 (hbel2.setCell (p := ⟨w1.heap.size, k, none⟩) (Nat.le_refl _) _)⟩
    · have HN : Hid (nums64 xs = some done) := by
        show _ = _
        rw [HR.out, List.drop_eq_nil_of_le (by omega)]; simp [nums64]
      have := HQ.out
      rw [HN.out] at this
      cases this

theorem two_setCell {w : World} {b : Nat} {x y z : Value} {t : TypeId} (h : w.heap[b]? = some (.cells #[x, y] t (0, 0))) : (w.setCell ⟨b, 1, none⟩ z).heap[b]? = some (.cells #[x, z] t (0, 0)) := by
  have hlt := lt_of_block h
  show (w.heap.modify b _)[b]? = _
  rw [Array.getElem?_modify, if_pos rfl, h]
  simp
theorem two_free {w : World} {b i : Nat} {x y : Value} {t : TypeId} (h : w.heap[b]? = some (.cells #[x, y] t (0, 0))) : w.frozen? ⟨b, i, none⟩ = false := by simp [World.frozen?, h]
/-- What Set leaves where the text is numbers. -/
def SvSet (N V' : List Int) (P1 P0 : Nat) (ch' : Bool) (v : Value) (w : World) (e : Ending) (w' : World) : Prop := e = .returned .nilIface ∧ ∃ v', SV w' P1 P0 V' ch' v' ∧ SvChg w w' P1 P0 v v'
theorem SvChg.of_below {w w1 w2 : World} {P1 P0 : Nat} {v v' : Value} (hb : Below w.heap.size w w1) (h : SvChg w1 w2 P1 P0 v v') : SvChg w w2 P1 P0 v v' :=
  ⟨h.os.trans hb.os, h.tape.trans hb.tape, h.output.trans hb.output, Nat.le_trans hb.size h.size, fun k hk a b c => (h.block k (Nat.lt_of_lt_of_le hk hb.size) a b c).trans (hb.block k hk), h.own.imp id (fun f g hg => Nat.le_trans hb.size (f g hg))⟩

set_option maxRecDepth 100000 in
set_option maxHeartbeats 3200000 in
theorem set64_some (s : ByteArray) (hs : s.size ≤ 2147483647) (P1 P0 : Nat) (V : List Int) (ch : Bool) (v : Value) (w : World) (h : SV w P1 P0 V ch v) (hV : V.length ≤ 1099511627776) (he1 : ErrCell 0 w) (he2 : ErrCell 1 w) (N V' : List Int) (hq : nums64 (partsT s) = some N) (hV' : Hid (V' = if ch = true then V ++ N else N)) :
    Calls Tryd.prog 59 #[.pointer (some ⟨P1, 0, none⟩), .string s] w (SvSet N V' P1 P0 true v w) := by
  have HS := fun w => Lib.hid (split_any s hs w)
  have HPOS : Hid (0 < (partsT s).length) := by show 0 < (partsT s).length; have := splitC_ne s.data.toList; simp only [partsT, List.length_map]; exact List.length_pos_iff.2 this
  have hl := partsT_len s
  have HZ := fun j hj => Lib.hid (Nat.le_trans (partsT_size s j hj) hs)
  generalize partsT s = xs at HS hl HZ hq HPOS
  have hn : xs.length ≤ 2147483648 := by omega
  have HQ := Lib.hid hq
  have E1 := Lib.hid he1
  have E2 := Lib.hid he2
  have hmk := fun W => run_make_row' (P := Tryd.prog) 101 3 (.int .i64 0) 8 Tryd.underlying101 Tryd.infoInt1 rfl .i64 .i64 xs.length (by omega) (by omega) W
  clear hq he1 he2 hl
  go_enter Tryd.func59, Tryd.ntmps59
  go_wp2_with (go_at_call 85; refine ((HS _).out).mono ?_; rintro e w1 ⟨A, c, rfl, hrow, hb1, hfr⟩)
  have hst := strs_of_row hrow
  go_loopw [17] (fun i wr => ∃ (k : Nat) (done : List Int), k ≤ xs.length ∧ i = .int .i64 k ∧ done.length = k ∧ wr.rowIs w1.heap.size 3 xs.length (fun j => .int .i64 (done.getD j 0)) ∧ Hid (nums64 xs = (nums64 (xs.drop k)).map (done ++ ·)) ∧ Below w1.heap.size w1 wr) (fun i _ => xs.length - (intOf i).toNat)
  case atStart => exact ⟨0, [], Nat.zero_le _, rfl, rfl, World.rowIs_made w1 _ _ _, by show _ = _; simp, (Below.refl _ _).alloc (Nat.le_refl _) _⟩
  case round =>
    obtain ⟨k, done, hk, rfl, hdl, hri, HR, hbel⟩ := hrel
    by_cases hlt : k < xs.length
    · obtain ⟨ba, oa, rfl, hc0⟩ := hst k hlt
      have hc := cell_kept hbel hc0
      have i0 : (0 : Int) ≤ (k : Int) := Int.natCast_nonneg _
      have i1 : (k : Int) < (xs.length : Int) := by omega
      have hsz : (tx xs k).size ≤ 281474976710656 := by have := (HZ k hlt).out; omega
      have hbw : Below w.heap.size w wr := below_step hb1 hbel
      have HI := Lib.hid (atoi_any (tx xs k) hsz wr (E1.out.below hbw) (E2.out.below hbw))
      have hd := nums64_drop hlt
      generalize plainP (tx xs k).data.toList = q at hd HI
      clear hsz hc0
      cases q with
      | some n =>
        have HI := Lib.hid (atoiGot_some HI.out)
        simp only [] at hd
        have HR2 : Hid (nums64 xs = (nums64 (xs.drop (k + 1))).map ((done ++ [n]) ++ ·)) := by
          show _ = _
          rw [HR.out, hd, Option.map_map]; congr 1; funext l; simp
        clear hd HR
        go_wp2_with (go_at_call 97; go_loud (refine (HI.out).mono ?_; rintro e w2 ⟨rfl, hb2⟩; have hri2 := hri.of_block (hb2.block _ hri.lt); have hcz := hri2.cell hlt; have hfz := hri2.frozen k; have hbel2 := below_step hbel hb2))
        have hri3 := (hri2.set k (.int .i64 n)).congr (g := fun j => .int .i64 ((done ++ [n]).getD j 0)) (fun j hj => by
          by_cases e : j = k
          · subst e; simp [hdl]
          · simp only [if_neg e]
            rw [List.getD_eq_getElem?_getD, List.getD_eq_getElem?_getD]
            by_cases h2 : j < k
            · rw [List.getElem?_append_left (by omega)]
            · rw [List.getElem?_eq_none (by omega), List.getElem?_eq_none (by simp; omega)])
        go_roundw
        case rel => exact ⟨k + 1, done ++ [n], by omega, by go_num, by simp [hdl], hri3, HR2, hbel2.setCell (p := ⟨w1.heap.size, k, none⟩) (Nat.le_refl _) _⟩
        case measure => simp [intOf]; omega
      | none =>
        exfalso
        have h1 := HQ.out
        rw [HR.out, hd] at h1
        cases h1
    · have HN : Hid (nums64 xs = some done) := by
        show _ = _
        rw [HR.out, List.drop_eq_nil_of_le (by omega)]; simp [nums64]
      have hND : done = N := by
        have h1 := HQ.out
        rw [HN.out] at h1
        cases h1; rfl
      subst hND
      have hkn : k = xs.length := by omega
      subst hkn
      have hbw : Below w.heap.size w wr := below_step hb1 hbel
      have hsv := h.kept hbw
      have hown : wr.ownsRow 0 3 1 (.slice (some ⟨w1.heap.size, 0, none⟩) xs.length xs.length) xs.length (i64s done) := own_of_rowIs hri hdl (Nat.zero_le _) (by unfold maxLen; omega)
      have hg := hri.lt
      have c10 : wr.cell? ⟨P1, 0, none⟩ = some (.pointer (some ⟨P0, 0, none⟩)) := cell_of_row _ _ 0 _ _ _ hsv.h1
      have c11 : wr.cell? ⟨P1, 1, none⟩ = some (.bool ch) := cell_of_row _ _ 1 _ _ _ hsv.h1
      have z11 : wr.frozen? ⟨P1, 1, none⟩ = false := two_free hsv.h1
      have c0 : wr.cell? ⟨P0, 0, none⟩ = some v := cell_of_one hsv.h0
      have z0 : wr.frozen? ⟨P0, 0, none⟩ = false := free_of_one hsv.h0
      have hd1 : ∀ x, (wr.setCell ⟨P0, 0, none⟩ x).heap[P1]? = some (.cells #[.pointer (some ⟨P0, 0, none⟩), .bool ch] 150 (0, 0)) := fun x => by rw [Below.heap_setCell _ _ _ _ (by show P1 ≠ P0; exact fun e => h.ne e.symm)]; exact hsv.h1
      have c11' : ∀ x, (wr.setCell ⟨P0, 0, none⟩ x).cell? ⟨P1, 1, none⟩ = some (.bool ch) := fun x => cell_of_row _ _ 1 _ _ _ (hd1 x)
      have c10' : ∀ x, (wr.setCell ⟨P0, 0, none⟩ x).cell? ⟨P1, 0, none⟩ = some (.pointer (some ⟨P0, 0, none⟩)) := fun x => cell_of_row _ _ 0 _ _ _ (hd1 x)
      have z11' : ∀ x, (wr.setCell ⟨P0, 0, none⟩ x).frozen? ⟨P1, 1, none⟩ = false := fun x => two_free (hd1 x)
      cases ch with
      | false =>
        go_wp2
        go_ret
        have hV2 : V' = done := by rw [hV'.out]; rfl
        subst hV2
        have hq1 : (Value.slice (some ⟨w1.heap.size, 0, none⟩) xs.length xs.length).ownBlock ≠ some P1 := fun e => by have e2 : w1.heap.size = P1 := Option.some.inj e; have := lt_of_block h.h1; have := hb1.size; omega
        have hq0 : (Value.slice (some ⟨w1.heap.size, 0, none⟩) xs.length xs.length).ownBlock ≠ some P0 := fun e => by have e2 : w1.heap.size = P0 := Option.some.inj e; have := lt_of_block h.h0; have := hb1.size; omega
        refine ⟨rfl, .slice (some ⟨w1.heap.size, 0, none⟩) xs.length xs.length, ⟨two_setCell (hd1 _), ?_, ?_, hq1, hq0, h.ne, ⟨_, _, by rw [hdl]⟩⟩, ?_⟩
        · rw [Below.heap_setCell _ _ _ _ (by show P0 ≠ P1; exact h.ne)]; exact one_setCell hsv.h0
        · rw [hdl]; exact own_setCell (own_setCell hown (a := ⟨P0, 0, none⟩) hq0 _) (a := ⟨P1, 1, none⟩) hq1 _
        · have hb0 : Below 0 w _ := ((hbw.mono (Nat.zero_le _)).setCell (p := ⟨P0, 0, none⟩) (Nat.zero_le _) (.slice (some ⟨w1.heap.size, 0, none⟩) xs.length xs.length)).setCell (p := ⟨P1, 1, none⟩) (Nat.zero_le _) (.bool true)
          refine ⟨hb0.os, hb0.tape, hb0.output, hb0.size, fun k hk a b _ => ?_, .inr fun g hg => ?_⟩
          · rw [Below.heap_setCell _ _ _ _ (by show k ≠ P1; exact a), Below.heap_setCell _ _ _ _ (by show k ≠ P0; exact b)]
            exact hbw.block k hk
          · cases hg; exact hb1.size
      | true =>
        have hs0 := hsv.hv.lt
        have hpos := HPOS.out
        obtain ⟨i0, hi, hz0, hz1, hz2⟩ := info_parts Tryd.infoInt1
        have hone : ∀ u ∈ i64s done, u.oneCell' = true := by
          intro u hu
          obtain ⟨n, _, rfl⟩ := List.mem_map.1 hu
          rfl
        have hnews : ∀ j u, (i64s done)[j]? = some u → wr.cell? ((⟨w1.heap.size, 0, none⟩ : Addr).add j) = some u := by
          intro j u hu
          have hj : j < xs.length := by
            have := (List.getElem?_eq_some_iff.1 hu).1
            simpa [i64s, hdl] using this
          have e := hri.cell hj
          have ha : (⟨w1.heap.size, 0, none⟩ : Addr).add j = ⟨w1.heap.size, j, none⟩ := by rw [Addr.add_mid, Nat.zero_add]
          rw [ha, e]
          simp only [i64s, List.getElem?_map] at hu
          rw [List.getD_eq_getElem?_getD]
          cases hx : done[j]? with
          | none => rw [hx] at hu; cases hu
          | some q => rw [hx] at hu; exact hu
        have hnl : (i64s done).length = xs.length * 1 := by simp [i64s, hdl]
        have hPv0 : v.ownBlock ≠ some P0 := h.n0
        have hPv1 : v.ownBlock ≠ some P1 := h.n1
        have hBr : 0 ≤ wr.heap.size := Nat.zero_le _
        have hne01 := h.ne
        have HV2 : Hid (V' = V ++ done) := by show _ = _; rw [hV'.out]; rfl
        have lP0 := lt_of_block hsv.h0
        have lP1 := lt_of_block hsv.h1
        go_upto_region 13 with (fail)
        go_region_law ((refine step_append_lies _ (by rfl) _ _ _ (by rfl) 0 3 i0 _ 1 8 Tryd.underlying101 hi hz0 hz1 hz2 rfl (by omega) v V.length (i64s V) (by rfl) hsv.hv ⟨w1.heap.size, 0, none⟩ xs.length xs.length (i64s done) (by rfl) hnl hnews hone hpos (by unfold maxLen; omega) (by omega) hBr wr.heap.size (by first | rfl | simp) ?_; intro gg cap w2 hown2 hgrow hat hlt2; have k0 : w2.cell? ⟨P0, 0, none⟩ = some v := ((hgrow.cell_far ⟨P0, 0, none⟩ lP0 (Ne.symm hPv0)).trans c0); have k1 : w2.frozen? ⟨P0, 0, none⟩ = false := ((hgrow.frozen_far ⟨P0, 0, none⟩ lP0 (Ne.symm hPv0)).trans z0); have k2 : w2.cell? ⟨P1, 0, none⟩ = some (.pointer (some ⟨P0, 0, none⟩)) := ((hgrow.cell_far ⟨P1, 0, none⟩ lP1 (Ne.symm hPv1)).trans c10)))
        all_goals
          have e1 : w2.heap[P1]? = some (.cells #[.pointer (some ⟨P0, 0, none⟩), .bool true] 150 (0, 0)) := (hgrow.block P1 lP1 (fun e => hPv1 e.symm)).trans hsv.h1
          have e0 : w2.heap[P0]? = some (.cells #[v] 101 (0, 0)) := (hgrow.block P0 lP0 (fun e => hPv0 e.symm)).trans hsv.h0
          have hd2 : ∀ x, (w2.setCell ⟨P0, 0, none⟩ x).heap[P1]? = some (.cells #[.pointer (some ⟨P0, 0, none⟩), .bool true] 150 (0, 0)) := fun x => by rw [Below.heap_setCell _ _ _ _ (by show P1 ≠ P0; exact fun e => hne01 e.symm)]; exact e1
          have d11 : ∀ x, (w2.setCell ⟨P0, 0, none⟩ x).cell? ⟨P1, 1, none⟩ = some (.bool true) := fun x => cell_of_row _ _ 1 _ _ _ (hd2 x)
          have y11 : ∀ x, (w2.setCell ⟨P0, 0, none⟩ x).frozen? ⟨P1, 1, none⟩ = false := fun x => two_free (hd2 x)
          go_wp2
          go_ret
          have hq1 : (Value.slice (some ⟨gg, 0, none⟩) (V.length + xs.length) cap).ownBlock ≠ some P1 := ne_of_own (v := v) (n := wr.heap.size) (hat.imp (fun e => e.symm) (fun e g hg => by cases hg; exact Nat.le_of_eq e.symm)) lP1 hPv1
          have hq0 : (Value.slice (some ⟨gg, 0, none⟩) (V.length + xs.length) cap).ownBlock ≠ some P0 := ne_of_own (v := v) (n := wr.heap.size) (hat.imp (fun e => e.symm) (fun e g hg => by cases hg; exact Nat.le_of_eq e.symm)) lP0 hPv0
          refine ⟨rfl, .slice (some ⟨gg, 0, none⟩) (V.length + xs.length) cap, ⟨two_setCell (hd2 _), ?_, ?_, hq1, hq0, h.ne, ⟨gg, cap, by rw [HV2.out, List.length_append, hdl]⟩⟩, ?_⟩
          · rw [Below.heap_setCell _ _ _ _ (by show P0 ≠ P1; exact hne01)]; exact one_setCell e0
          · have hl2 : V'.length = V.length + xs.length := by rw [HV2.out, List.length_append, hdl]
            have hi2 : i64s V' = i64s V ++ i64s done := by rw [HV2.out]; simp [i64s]
            rw [hl2, hi2]
            exact own_setCell (own_setCell hown2 (a := ⟨P0, 0, none⟩) hq0 _) (a := ⟨P1, 1, none⟩) hq1 _
          · have hg0 : Below 0 w w2 := ⟨hgrow.os.trans hbw.os, hgrow.tape.trans hbw.tape, hgrow.output.trans hbw.output, Nat.le_trans hbw.size hgrow.size, fun k hk => by omega⟩
            have hb0 : Below 0 w _ := (hg0.setCell (p := ⟨P0, 0, none⟩) (Nat.zero_le _) (.slice (some ⟨gg, 0, none⟩) (V.length + xs.length) cap)).setCell (p := ⟨P1, 1, none⟩) (Nat.zero_le _) (.bool true)
            refine ⟨hb0.os, hb0.tape, hb0.output, hb0.size, fun k hk a b c => ?_, ?_⟩
            · rw [Below.heap_setCell _ _ _ _ (by show k ≠ P1; exact a), Below.heap_setCell _ _ _ _ (by show k ≠ P0; exact b)]
              exact (hgrow.block k (Nat.lt_of_lt_of_le hk hbw.size) (fun e => c e.symm)).trans (hbw.block k hk)
            · rcases hat with h1 | h1
              · exact .inl h1.symm
              · exact .inr fun g hg => by cases hg; rw [h1]; exact hbw.size
end Go.Proofs.YtdmpeecocfoocaaDoor.E

namespace Go.Proofs.YtdmpeecocfoocaaDoor.E
open Go.RowKit Go.Proofs
set_option linter.unusedVariables false
set_option linter.unusedSimpArgs false

set_option maxRecDepth 100000 in
set_option maxHeartbeats 3200000 in
theorem append64_none (s : ByteArray) (hs : s.size ≤ 2147483647) (P1 P0 : Nat) (V : List Int) (ch : Bool) (v : Value) (w : World) (h : SV w P1 P0 V ch v) (he1 : ErrCell 0 w) (he2 : ErrCell 1 w) (hq : nums64 [s] = none) :
    Calls Tryd.prog 60 #[.pointer (some ⟨P1, 0, none⟩), .string s] w fun e w' => (∃ t x, e = .returned (.iface t x)) ∧ Below w.heap.size w w' := by
  have HI := Lib.hid (atoi_any s (by omega) w he1 he2)
  have hw : plainP s.data.toList = none := by
    cases hx : plainP s.data.toList with
    | none => rfl
    | some n => simp [nums64, hx] at hq
  rw [hw] at HI
  have HI := Lib.hid (atoiGot_none HI.out)
  clear he1 he2 hw hq
  go_enter Tryd.func60, Tryd.ntmps60
  go_wp2_with (go_at_call 97; refine (HI.out).mono ?_; rintro e w2 ⟨nz, te, qe, rfl, hb2⟩)
  go_ret
  exact ⟨⟨_, _, rfl⟩, hb2⟩

set_option maxRecDepth 100000 in
set_option maxHeartbeats 3200000 in
theorem append64_some (s : ByteArray) (hs : s.size ≤ 2147483647) (P1 P0 : Nat) (V : List Int) (ch : Bool) (v : Value) (w : World) (h : SV w P1 P0 V ch v) (hV : V.length ≤ 1099511627776) (he1 : ErrCell 0 w) (he2 : ErrCell 1 w) (N : List Int) (hq : nums64 [s] = some N) :
    Calls Tryd.prog 60 #[.pointer (some ⟨P1, 0, none⟩), .string s] w (SvSet N (V ++ N) P1 P0 ch v w) := by
  have HI := Lib.hid (atoi_any s (by omega) w he1 he2)
  obtain ⟨n, hn, rfl⟩ : ∃ n, plainP s.data.toList = some n ∧ N = [n] := by
    cases hx : plainP s.data.toList with
    | none => simp [nums64, hx] at hq
    | some n => simp [nums64, hx] at hq; exact ⟨n, rfl, hq.symm⟩
  rw [hn] at HI
  have HI := Lib.hid (atoiGot_some HI.out)
  clear he1 he2 hn hq
  obtain ⟨i0, hi, hz0, hz1, hz2⟩ := info_parts Tryd.infoInt1
  have hne01 := h.ne
  go_enter Tryd.func60, Tryd.ntmps60
  go_upto_region 4 with (go_at_call 97; refine (HI.out).mono ?_; rintro e wr ⟨rfl, hbw⟩)
  have hsv := h.kept hbw
  have c10 : wr.cell? ⟨P1, 0, none⟩ = some (.pointer (some ⟨P0, 0, none⟩)) := cell_of_row _ _ 0 _ _ _ hsv.h1
  have c0 : wr.cell? ⟨P0, 0, none⟩ = some v := cell_of_one hsv.h0
  have z0 : wr.frozen? ⟨P0, 0, none⟩ = false := free_of_one hsv.h0
  have lP0 := lt_of_block hsv.h0
  have lP1 := lt_of_block hsv.h1
  have hPv0 : v.ownBlock ≠ some P0 := h.n0
  have hPv1 : v.ownBlock ≠ some P1 := h.n1
  have hBr : 0 ≤ wr.heap.size := Nat.zero_le _
  have a10 : ∀ o, (wr.alloc o).cell? ⟨P1, 0, none⟩ = some (.pointer (some ⟨P0, 0, none⟩)) := fun o => cell_kept ((Below.refl _ _).alloc (Nat.le_refl _) o) c10
  have a0 : ∀ o, (wr.alloc o).cell? ⟨P0, 0, none⟩ = some v := fun o => cell_kept ((Below.refl _ _).alloc (Nat.le_refl _) o) c0
  have b0 : ∀ o, (wr.alloc o).frozen? ⟨P0, 0, none⟩ = false := fun o => frozen_kept ((Below.refl _ _).alloc (Nat.le_refl _) o) c0 z0
  go_region_law ((refine step_append_lies _ (by rfl) _ _ _ (by rfl) 0 3 i0 _ 1 8 Tryd.underlying101 hi hz0 hz1 hz2 rfl (by omega) v V.length (i64s V) (by rfl) (hsv.hv.alloc _) ⟨wr.heap.size, 0, none⟩ 1 1 [.int .i64 n] (by rfl) (by rfl) (World.news_of_block (cs := #[.int .i64 n]) (t := 3) (fr := (0, 0)) (heap_alloc_new wr _)) (by simp [Value.oneCell']) (by omega) (by unfold maxLen; omega) (by omega) (Nat.zero_le _) (wr.heap.size + 1) (by simp) ?_; intro gg cap w2 hown2 hgrow hat hlt2; have k0 : w2.cell? ⟨P0, 0, none⟩ = some v := ((hgrow.cell_far ⟨P0, 0, none⟩ (by simp; omega) (Ne.symm hPv0)).trans (a0 _)); have k1 : w2.frozen? ⟨P0, 0, none⟩ = false := ((hgrow.frozen_far ⟨P0, 0, none⟩ (by simp; omega) (Ne.symm hPv0)).trans (b0 _)); have k2 : w2.cell? ⟨P1, 0, none⟩ = some (.pointer (some ⟨P0, 0, none⟩)) := ((hgrow.cell_far ⟨P1, 0, none⟩ (by simp; omega) (Ne.symm hPv1)).trans (a10 _))))
  all_goals
    have e1 : w2.heap[P1]? = some (.cells #[.pointer (some ⟨P0, 0, none⟩), .bool ch] 150 (0, 0)) := (hgrow.block P1 (by simp; omega) (fun e => hPv1 e.symm)).trans ((Below.heap_alloc wr _ _ lP1).trans hsv.h1)
    have e0 : w2.heap[P0]? = some (.cells #[v] 101 (0, 0)) := (hgrow.block P0 (by simp; omega) (fun e => hPv0 e.symm)).trans ((Below.heap_alloc wr _ _ lP0).trans hsv.h0)
    go_wp2
    go_ret
    have hq1 : (Value.slice (some ⟨gg, 0, none⟩) (V.length + 1) cap).ownBlock ≠ some P1 := ne_of_own (v := v) (n := wr.heap.size) (hat.imp (fun e => e.symm) (fun e g hg => by cases hg; show wr.heap.size ≤ gg; omega)) lP1 hPv1
    have hq0 : (Value.slice (some ⟨gg, 0, none⟩) (V.length + 1) cap).ownBlock ≠ some P0 := ne_of_own (v := v) (n := wr.heap.size) (hat.imp (fun e => e.symm) (fun e g hg => by cases hg; show wr.heap.size ≤ gg; omega)) lP0 hPv0
    refine ⟨rfl, .slice (some ⟨gg, 0, none⟩) (V.length + 1) cap, ⟨?_, one_setCell e0, ?_, hq1, hq0, h.ne, ⟨gg, cap, by rw [List.length_append]; rfl⟩⟩, ?_⟩
    · rw [Below.heap_setCell _ _ _ _ (by show P1 ≠ P0; exact fun e => hne01 e.symm)]; exact e1
    · rw [List.length_append, i64s_snoc]
      exact own_setCell hown2 (a := ⟨P0, 0, none⟩) hq0 _
    · have hg0 : Below 0 w w2 := ⟨hgrow.os.trans hbw.os, hgrow.tape.trans hbw.tape, hgrow.output.trans hbw.output, Nat.le_trans hbw.size (Nat.le_trans (by simp) hgrow.size), fun k hk => by omega⟩
      have hb0 : Below 0 w _ := (hg0.setCell (p := ⟨P0, 0, none⟩) (Nat.zero_le _) (.slice (some ⟨gg, 0, none⟩) (V.length + 1) cap))
      refine ⟨hb0.os, hb0.tape, hb0.output, hb0.size, fun k hk a b c => ?_, ?_⟩
      · have hk2 : k < wr.heap.size := Nat.lt_of_lt_of_le hk hbw.size
        rw [Below.heap_setCell _ _ _ _ (by show k ≠ P0; exact b)]
        exact (hgrow.block k (by simp; omega) (fun e => c e.symm)).trans ((Below.heap_alloc wr _ _ hk2).trans (hbw.block k hk))
      · rcases hat with h1 | h1
        · exact .inl h1.symm
        · exact .inr fun g hg => by cases hg; show w.heap.size ≤ gg; have := hbw.size; omega

set_option maxRecDepth 100000 in
set_option maxHeartbeats 3200000 in
theorem replace64_none (A : Option Addr) (c : Nat) (xs : List ByteArray) (hn : xs.length ≤ 2147483648) (hs : ∀ j, j < xs.length → (tx xs j).size ≤ 2147483647) (P1 P0 : Nat) (V : List Int) (ch : Bool) (v : Value) (w : World) (hx : StrsAt w A xs) (h : SV w P1 P0 V ch v) (he1 : ErrCell 0 w) (he2 : ErrCell 1 w) (hq : nums64 xs = none) :
    Calls Tryd.prog 61 #[.pointer (some ⟨P1, 0, none⟩), .slice A xs.length c] w fun e w' => (∃ t x, e = .returned (.iface t x)) ∧ Below w.heap.size w w' := by
  have HZ := fun j hj => Lib.hid (hs j hj)
  have hbr : Below w.heap.size w w := Below.refl _ _
  have HQ := Lib.hid hq
  have E1 := Lib.hid he1
  have E2 := Lib.hid he2
  have hmk := fun W => run_make_row' (P := Tryd.prog) 101 3 (.int .i64 0) 8 Tryd.underlying101 Tryd.infoInt1 rfl .i64 .i64 xs.length (by omega) (by omega) W
  clear hq he1 he2 hs
  go_enter Tryd.func61, Tryd.ntmps61
  go_wp2
  go_loopw [14] (fun i wr => ∃ (k : Nat) (done : List Int), k ≤ xs.length ∧ i = .int .i64 k ∧ done.length = k ∧ wr.rowIs w.heap.size 3 xs.length (fun j => .int .i64 (done.getD j 0)) ∧ Hid (nums64 xs = (nums64 (xs.drop k)).map (done ++ ·)) ∧ Below w.heap.size w wr) (fun i _ => xs.length - (intOf i).toNat)
  case atStart => exact ⟨0, [], Nat.zero_le _, rfl, rfl, World.rowIs_made w _ _ _, by show _ = _; simp, (Below.refl _ _).alloc (Nat.le_refl _) _⟩
  case round =>
    obtain ⟨k, done, hk, rfl, hdl, hri, HR, hbel⟩ := hrel
    by_cases hlt : k < xs.length
    · obtain ⟨ba, oa, rfl, hc0⟩ := hx k hlt
      have hc := cell_kept hbel hc0
      have i0 : (0 : Int) ≤ (k : Int) := Int.natCast_nonneg _
      have i1 : (k : Int) < (xs.length : Int) := by omega
      have hsz : (tx xs k).size ≤ 281474976710656 := by have := (HZ k hlt).out; omega
      have hbw : Below w.heap.size w wr := below_step hbr hbel
      have HI := Lib.hid (atoi_any (tx xs k) hsz wr (E1.out.below hbw) (E2.out.below hbw))
      have hd := nums64_drop hlt
      generalize plainP (tx xs k).data.toList = q at hd HI
      clear hsz hc0
      cases q with
      | some n =>
        have HI := Lib.hid (atoiGot_some HI.out)
        simp only [] at hd
        have HR2 : Hid (nums64 xs = (nums64 (xs.drop (k + 1))).map ((done ++ [n]) ++ ·)) := by
          show _ = _
          rw [HR.out, hd, Option.map_map]; congr 1; funext l; simp
        clear hd HR
        go_wp2_with (go_at_call 97; go_loud (refine (HI.out).mono ?_; rintro e w2 ⟨rfl, hb2⟩; have hri2 := hri.of_block (hb2.block _ hri.lt); have hcz := hri2.cell hlt; have hfz := hri2.frozen k; have hbel2 := below_step hbel hb2))
        have hri3 := (hri2.set k (.int .i64 n)).congr (g := fun j => .int .i64 ((done ++ [n]).getD j 0)) (fun j hj => by
          by_cases e : j = k
          · subst e; simp [hdl]
          · simp only [if_neg e]
            rw [List.getD_eq_getElem?_getD, List.getD_eq_getElem?_getD]
            by_cases h2 : j < k
            · rw [List.getElem?_append_left (by omega)]
            · rw [List.getElem?_eq_none (by omega), List.getElem?_eq_none (by simp; omega)])
        go_roundw
        case rel => exact ⟨k + 1, done ++ [n], by omega, by go_num, by simp [hdl], hri3, HR2, hbel2.setCell (p := ⟨w.heap.size, k, none⟩) (Nat.le_refl _) _⟩
        case measure => simp [intOf]; omega
      | none =>
        have HI := Lib.hid (atoiGot_none HI.out)
        clear hd HR
        go_wp2_with (go_at_call 97; go_loud (refine (HI.out).mono ?_; rintro e w2 ⟨nz, te, qe, rfl, hb2⟩; have hri2 := hri.of_block (hb2.block _ hri.lt); have hcz := hri2.cell hlt; have hfz := hri2.frozen k; have hbel2 := below_step hbel hb2))
        go_ret
        exact ⟨⟨_, _, rfl⟩, below_step hbr (hbel2.setCell (p := ⟨w.heap.size, k, none⟩) (Nat.le_refl _) _)⟩
    · have HN : Hid (nums64 xs = some done) := by
        show _ = _
        rw [HR.out, List.drop_eq_nil_of_le (by omega)]; simp [nums64]
      have := HQ.out
      rw [HN.out] at this
      cases this

set_option maxRecDepth 100000 in
set_option maxHeartbeats 3200000 in
theorem replace64_some (A : Option Addr) (c : Nat) (xs : List ByteArray) (hn : xs.length ≤ 2147483648) (hs : ∀ j, j < xs.length → (tx xs j).size ≤ 2147483647) (P1 P0 : Nat) (V : List Int) (ch : Bool) (v : Value) (w : World) (hx : StrsAt w A xs) (h : SV w P1 P0 V ch v) (he1 : ErrCell 0 w) (he2 : ErrCell 1 w) (N : List Int) (hq : nums64 xs = some N) :
    Calls Tryd.prog 61 #[.pointer (some ⟨P1, 0, none⟩), .slice A xs.length c] w (SvSet N N P1 P0 ch v w) := by
  have HZ := fun j hj => Lib.hid (hs j hj)
  have hbr : Below w.heap.size w w := Below.refl _ _
  have HQ := Lib.hid hq
  have E1 := Lib.hid he1
  have E2 := Lib.hid he2
  have hmk := fun W => run_make_row' (P := Tryd.prog) 101 3 (.int .i64 0) 8 Tryd.underlying101 Tryd.infoInt1 rfl .i64 .i64 xs.length (by omega) (by omega) W
  clear hq he1 he2 hs
  go_enter Tryd.func61, Tryd.ntmps61
  go_wp2
  go_loopw [14] (fun i wr => ∃ (k : Nat) (done : List Int), k ≤ xs.length ∧ i = .int .i64 k ∧ done.length = k ∧ wr.rowIs w.heap.size 3 xs.length (fun j => .int .i64 (done.getD j 0)) ∧ Hid (nums64 xs = (nums64 (xs.drop k)).map (done ++ ·)) ∧ Below w.heap.size w wr) (fun i _ => xs.length - (intOf i).toNat)
  case atStart => exact ⟨0, [], Nat.zero_le _, rfl, rfl, World.rowIs_made w _ _ _, by show _ = _; simp, (Below.refl _ _).alloc (Nat.le_refl _) _⟩
  case round =>
    obtain ⟨k, done, hk, rfl, hdl, hri, HR, hbel⟩ := hrel
    by_cases hlt : k < xs.length
    · obtain ⟨ba, oa, rfl, hc0⟩ := hx k hlt
      have hc := cell_kept hbel hc0
      have i0 : (0 : Int) ≤ (k : Int) := Int.natCast_nonneg _
      have i1 : (k : Int) < (xs.length : Int) := by omega
      have hsz : (tx xs k).size ≤ 281474976710656 := by have := (HZ k hlt).out; omega
      have hbw : Below w.heap.size w wr := below_step hbr hbel
      have HI := Lib.hid (atoi_any (tx xs k) hsz wr (E1.out.below hbw) (E2.out.below hbw))
      have hd := nums64_drop hlt
      generalize plainP (tx xs k).data.toList = q at hd HI
      clear hsz hc0
      cases q with
      | some n =>
        have HI := Lib.hid (atoiGot_some HI.out)
        simp only [] at hd
        have HR2 : Hid (nums64 xs = (nums64 (xs.drop (k + 1))).map ((done ++ [n]) ++ ·)) := by
          show _ = _
          rw [HR.out, hd, Option.map_map]; congr 1; funext l; simp
        clear hd HR
        go_wp2_with (go_at_call 97; go_loud (refine (HI.out).mono ?_; rintro e w2 ⟨rfl, hb2⟩; have hri2 := hri.of_block (hb2.block _ hri.lt); have hcz := hri2.cell hlt; have hfz := hri2.frozen k; have hbel2 := below_step hbel hb2))
        have hri3 := (hri2.set k (.int .i64 n)).congr (g := fun j => .int .i64 ((done ++ [n]).getD j 0)) (fun j hj => by
          by_cases e : j = k
          · subst e; simp [hdl]
          · simp only [if_neg e]
            rw [List.getD_eq_getElem?_getD, List.getD_eq_getElem?_getD]
            by_cases h2 : j < k
            · rw [List.getElem?_append_left (by omega)]
            · rw [List.getElem?_eq_none (by omega), List.getElem?_eq_none (by simp; omega)])
        go_roundw
        case rel => exact ⟨k + 1, done ++ [n], by omega, by go_num, by simp [hdl], hri3, HR2, hbel2.setCell (p := ⟨w.heap.size, k, none⟩) (Nat.le_refl _) _⟩
        case measure => simp [intOf]; omega
      | none =>
        exfalso
        have h1 := HQ.out
        rw [HR.out, hd] at h1
        cases h1
    · have HN : Hid (nums64 xs = some done) := by
        show _ = _
        rw [HR.out, List.drop_eq_nil_of_le (by omega)]; simp [nums64]
      have hND : done = N := by
        have h1 := HQ.out
        rw [HN.out] at h1
        cases h1; rfl
      subst hND
      have hkn : k = xs.length := by omega
      subst hkn
      have hbw : Below w.heap.size w wr := hbel
      have hsv := h.kept hbw
      have hown : wr.ownsRow 0 3 1 (.slice (some ⟨w.heap.size, 0, none⟩) xs.length xs.length) xs.length (i64s done) := own_of_rowIs hri hdl (Nat.zero_le _) (by unfold maxLen; omega)
      have c10 : wr.cell? ⟨P1, 0, none⟩ = some (.pointer (some ⟨P0, 0, none⟩)) := cell_of_row _ _ 0 _ _ _ hsv.h1
      have c0 : wr.cell? ⟨P0, 0, none⟩ = some v := cell_of_one hsv.h0
      have z0 : wr.frozen? ⟨P0, 0, none⟩ = false := free_of_one hsv.h0
      go_wp2
      go_ret
      have hq1 : (Value.slice (some ⟨w.heap.size, 0, none⟩) xs.length xs.length).ownBlock ≠ some P1 := fun e => by have e2 : w.heap.size = P1 := Option.some.inj e; have := lt_of_block h.h1; omega
      have hq0 : (Value.slice (some ⟨w.heap.size, 0, none⟩) xs.length xs.length).ownBlock ≠ some P0 := fun e => by have e2 : w.heap.size = P0 := Option.some.inj e; have := lt_of_block h.h0; omega
      refine ⟨rfl, .slice (some ⟨w.heap.size, 0, none⟩) xs.length xs.length, ⟨?_, one_setCell hsv.h0, ?_, hq1, hq0, h.ne, ⟨_, _, by rw [hdl]⟩⟩, ?_⟩
      · rw [Below.heap_setCell _ _ _ _ (by show P1 ≠ P0; exact fun e => h.ne e.symm)]; exact hsv.h1
      · rw [hdl]; exact own_setCell hown (a := ⟨P0, 0, none⟩) hq0 _
      · have hb0 : Below 0 w _ := (hbw.mono (Nat.zero_le _)).setCell (p := ⟨P0, 0, none⟩) (Nat.zero_le _) (.slice (some ⟨w.heap.size, 0, none⟩) xs.length xs.length)
        refine ⟨hb0.os, hb0.tape, hb0.output, hb0.size, fun k hk a b _ => ?_, .inr fun g hg => ?_⟩
        · rw [Below.heap_setCell _ _ _ _ (by show k ≠ P0; exact b)]
          exact hbw.block k hk
        · cases hg; exact Nat.le_refl _
end Go.Proofs.YtdmpeecocfoocaaDoor.E

namespace Go.Proofs.YtdmpeecocfoocaaDoor.E
open Go.ChangeShapes Go.WideShapes Go.ChangeAt Go.RowKit
set_option linter.unusedVariables false
set_option linter.unusedSimpArgs false

/-- A step: what is done, its text, its texts. -/
structure StepL where
  act : Int
  text : ByteArray
  texts : List ByteArray
/-- The steps of a list, as they lie in memory. -/
def StepsAt (w : World) (A : Option Addr) (L : List StepL) : Prop :=
  ∀ i (hi : i < L.length), ∃ b o v, A = some ⟨b, o, none⟩ ∧ w.cell? ⟨b, o + i * 3, none⟩ = some (.int .i64 L[i].act) ∧ w.cell? ⟨b, o + i * 3 + 1, none⟩ = some (.string L[i].text) ∧ w.cell? ⟨b, o + i * 3 + 2, none⟩ = some v ∧ Texts w v L[i].texts
theorem StepsAt.below {w w' : World} {A : Option Addr} {L : List StepL} (h : StepsAt w A L) (hb : Below w.heap.size w w') : StepsAt w' A L := by
  intro i hi
  obtain ⟨b, o, v, e, h0, h1, h2, h3⟩ := h i hi
  exact ⟨b, o, v, e, cell_kept hb h0, cell_kept hb h1, cell_kept hb h2, h3.below hb⟩
theorem list_of_each {α : Type} {Q : Nat → α → Prop} : ∀ n, (∀ i, i < n → ∃ x, Q i x) → ∃ L : List α, L.length = n ∧ ∀ i (h : i < L.length), Q i L[i]
  | 0, _ => ⟨[], rfl, fun i h => by simp at h⟩
  | n + 1, h => by
    obtain ⟨L, hl, hq⟩ := list_of_each n (fun i hi => h i (by omega))
    obtain ⟨x, hx⟩ := h n (by omega)
    refine ⟨L ++ [x], by simp [hl], fun i hi => ?_⟩
    by_cases e : i < L.length
    · rw [List.getElem_append_left e]; exact hq i e
    · have : i = n := by simp at hi; omega
      subst this
      rw [List.getElem_append_right (by omega)]
      simpa [hl] using hx

theorem texts_of_trod {H : Type} {enc : TypeId × Value → H} {P : Program} {W : World} {t e : TypeId} {fuel : Nat} {cs : List Value} {x : DataW H × List MemPlace}
    (ht : P.underlying t = some (.slice e)) (he : P.underlying e = some .string) (hc : P.cellsOf e = 1) (h : DataW.trod enc P W 0 (fun _ => true) true fuel t cs = some x) :
    ∃ v xs, cs = [v] ∧ Texts W v xs := by
  rcases open_strings ht he hc h with ⟨hcs, hx⟩ | ⟨a, len', cap', zs, hcs, _, hl, hm, hz, hx, hcell, hwz⟩
  · exact ⟨_, [], hcs, Texts.nil W⟩
  · simp only [if_true] at hz
    unfold maxLen at hm
    have hn : (zs.take len').length = len' := by rw [List.length_take]; omega
    refine ⟨_, zs.take len', hcs, ⟨some a, cap', by rw [hn], ?_, by rw [hn]; omega, by omega, fun h => by cases h⟩⟩
    intro i hi
    rw [hn] at hi
    obtain ⟨b, o, spot⟩ := a
    have hc := hcell i (by omega)
    obtain rfl : spot = none := by simpa [Addr.add] using World.cell?_spot (hcell 0 (by omega))
    refine ⟨b, o, rfl, ?_⟩
    rw [Addr.add_mid] at hc
    rw [hc]
    simp only [tx, List.getD_eq_getElem?_getD, List.getElem?_take]
    rw [if_pos hi]

/-- A list of steps that came in. -/
theorem open_steps {H : Type} {enc : TypeId × Value → H} {P : Program} {W : World} {base : Nat} {t e es : TypeId} {v : Value} {d : DataW H} {p : List MemPlace} {f0 f1 f2 : Field}
    (ht : P.underlying t = some (.slice e)) (he : P.underlying e = some (.struct #[f0, f1, f2])) (h3 : P.cellsOf e = 3)
    (o0 : f0.offset = 0) (o1 : f1.offset = 1) (o2 : f2.offset = 2) (c0 : P.cellsOf f0.type = 1) (c1 : P.cellsOf f1.type = 1) (c2 : P.cellsOf f2.type = 1)
    (u0 : P.underlying f0.type = some (.int .i64)) (u1 : P.underlying f1.type = some .string) (u2 : P.underlying f2.type = some (.slice es)) (us : P.underlying es = some .string) (hcs : P.cellsOf es = 1)
    (hok : Value.okWide P W .any base t v) (h : DataW.Trod enc P W 0 (fun _ => true) true t v d p) :
    ∃ (L : List StepL) (A : Option Addr) (cap : Nat), v = .slice A L.length cap ∧ StepsAt W A L ∧ L.length ≤ cap ∧ cap ≤ 9223372036854775807 := by
  obtain ⟨A0, len, cap, rfl⟩ := okWide_slice ht hok
  obtain ⟨fuel, hf⟩ := h
  rcases DataW.trod_slice ht hf with ⟨hc, hx⟩ | ⟨a, len', cap', elems, rest, n, _, hc, _, hb, hl, hm, hlen, hel, _, _⟩
  · simp [Value.cells] at hc
    obtain ⟨rfl, rfl, rfl⟩ := hc
    exact ⟨[], none, 0, rfl, fun i hi => by simp at hi, by simp, by simp⟩
  · simp [Value.cells] at hc
    obtain ⟨rfl, rfl, rfl⟩ := hc
    have each : ∀ i, i < len → ∃ s : StepL, ∃ v, W.cell? (a.add (i * 3)) = some (.int .i64 s.act) ∧ W.cell? ((a.add (i * 3)).add 1) = some (.string s.text) ∧ W.cell? ((a.add (i * 3)).add 2) = some v ∧ Texts W v s.texts := by
      intro i hi
      have hi2 := hel i hi
      rw [h3, List.getElem?_eq_getElem (by omega), Option.bind_eq_some_iff] at hi2
      obtain ⟨cs', hcs', htr⟩ := hi2
      obtain ⟨xs, m, _, hx1, hl1, hl2, hfl⟩ := DataW.trod_struct he htr
      obtain ⟨hb1, hl3, hcell⟩ := World.cells?_some hcs'
      have y0 := hfl 0 f0 rfl
      have y1 := hfl 1 f1 rfl
      have y2 := hfl 2 f2 rfl
      rw [o0, c0] at y0
      rw [o1, c1] at y1
      rw [o2, c2] at y2
      have hxl : xs.length = 3 := by simpa using hl2
      rw [List.getElem?_eq_getElem (by omega)] at y0 y1 y2
      obtain ⟨q0, q1, q2, rfl⟩ : ∃ q0 q1 q2, cs' = [q0, q1, q2] := by
        match cs', hl3 with
        | [q0, q1, q2], _ => exact ⟨q0, q1, q2, rfl⟩
      simp only [List.drop_zero, List.drop_succ_cons, List.take_succ_cons, List.take_zero] at y0 y1 y2
      obtain ⟨k, e0, _, _⟩ := DataW.trod_int u0 y0
      obtain ⟨s, e1, _, _⟩ := DataW.trod_string u1 y1
      obtain ⟨v, zs, e2, hz⟩ := texts_of_trod u2 us hcs y2
      simp only [List.cons.injEq, and_true] at e0 e1 e2
      subst e0 e1 e2
      refine ⟨⟨k, s, zs⟩, _, ?_, ?_, ?_, hz⟩
      · have := hcell 0 (by omega)
        rw [show (a.add (i * 3)).add 0 = a.add (i * 3) by simp [Addr.add]] at this
        simpa using this
      · have := hcell 1 (by omega); simpa using this
      · have := hcell 2 (by omega); simpa using this
    obtain ⟨L, hL, hQ⟩ := list_of_each len each
    refine ⟨L, some a, cap, by rw [hL], ?_, by rw [hL]; exact hl, by unfold maxLen at hm; omega⟩
    intro i hi
    obtain ⟨v, k0, k1, k2, k3⟩ := hQ i hi
    obtain ⟨vz, z0, _⟩ := hQ 0 (by omega)
    obtain ⟨b, o, spot⟩ := a
    obtain rfl : spot = none := by simpa [Addr.add] using World.cell?_spot z0
    rw [Addr.add_mid] at k0 k1 k2
    rw [Addr.add_mid] at k1 k2
    exact ⟨b, o, v, rfl, k0, k1, k2, k3⟩
end Go.Proofs.YtdmpeecocfoocaaDoor.E

namespace Go.Proofs.YtdmpeecocfoocaaDoor.E
open Go.RowKit Go.Proofs
set_option linter.unusedVariables false
set_option linter.unusedSimpArgs false

/-- Whether a step is told. -/
def toldB (x : StepL) : Bool := decide (0 ≤ x.act ∧ x.act ≤ 2)
def toldN (L : List StepL) : Nat := (L.filter toldB).length
theorem toldN_le (L : List StepL) : toldN L ≤ L.length := List.length_filter_le _ _
theorem toldN_take {L : List StepL} {k : Nat} (h : k < L.length) : toldN (L.take (k + 1)) = toldN (L.take k) + (if toldB L[k] = true then 1 else 0) := by
  unfold toldN
  rw [List.take_succ_eq_append_getElem h, List.filter_append, List.length_append]
  congr 1
  by_cases e : toldB L[k] = true
  · simp [e]
  · simp [e]

set_option maxRecDepth 100000 in
set_option maxHeartbeats 1600000 in
theorem told_any (A : Option Addr) (cap : Nat) (L : List StepL) (w : World) (hx : StepsAt w A L) (hm : L.length ≤ 2147483647) :
    Calls Tryd.prog 13 #[.slice A L.length cap] w fun e w' => e = .returned (.int .i64 (toldN L)) ∧ Below w.heap.size w w' := by
  go_enter Tryd.func13, Tryd.ntmps13
  go_wp2
  go_loopw [3, 8] (fun v i wr => ∃ k : Nat, k ≤ L.length ∧ i = .int .i64 k ∧ v = .int .i64 (toldN (L.take k)) ∧ Below w.heap.size w wr) (fun _ i _ => L.length - (intOf i).toNat)
  case atStart => exact ⟨0, Nat.zero_le _, rfl, rfl, Below.refl _ _⟩
  case round =>
    obtain ⟨k, hk, rfl, rfl, hbel⟩ := hrel
    by_cases hlt : k < L.length
    · obtain ⟨b, o, v, rfl, h0, h1, h2, h3⟩ := hx k hlt
      have c0 := cell_kept hbel h0
      have c1 := cell_kept hbel h1
      have c2 := cell_kept hbel h2
      have HT := Lib.hid (toldN_take hlt)
      have hle := toldN_le (L.take k)
      have hle2 : (L.take k).length ≤ k := by rw [List.length_take]; omega
      have i0 : (0 : Int) ≤ (k : Int) := Int.natCast_nonneg _
      have i1 : (k : Int) < (L.length : Int) := by omega
      have HB : Hid (toldB L[k] = decide (0 ≤ L[k].act ∧ L[k].act ≤ 2)) := rfl
      obtain ⟨At, ct, rfl, _⟩ := h3
      clear h0 h1 h2 hx
      generalize L[k].texts.length = nt at c2
      generalize L[k].act = q at c0 HB
      generalize L[k].text = tq at c1
      generalize toldN (L.take k) = m at HT hle ⊢
      by_cases ha : 0 ≤ q
      · by_cases hb : q ≤ 2
        · have HT2 : Hid (toldN (L.take (k + 1)) = m + 1) := by show _ = _; rw [HT.out, HB.out]; simp [ha, hb]
          clear HT HB
          go_wp2
          go_roundw
          case rel => exact ⟨k + 1, by omega, by go_num, by rw [HT2.out]; go_num, (hbel.alloc hbel.size _)⟩
          case measure => simp [intOf]; omega
        · have HT2 : Hid (toldN (L.take (k + 1)) = m) := by show _ = _; rw [HT.out, HB.out]; simp [hb]
          have hb' : 2 < q := by omega
          clear HT HB
          go_wp2
          go_roundw
          case rel => exact ⟨k + 1, by omega, by go_num, by rw [HT2.out], (hbel.alloc hbel.size _)⟩
          case measure => simp [intOf]; omega
      · have HT2 : Hid (toldN (L.take (k + 1)) = m) := by show _ = _; rw [HT.out, HB.out]; simp [ha]
        have ha' : q < 0 := by omega
        clear HT HB
        go_wp2
        go_roundw
        case rel => exact ⟨k + 1, by omega, by go_num, by rw [HT2.out], (hbel.alloc hbel.size _)⟩
        case measure => simp [intOf]; omega
    · have HK : Hid (L.take k = L) := List.take_of_length_le (by omega)
      go_wp2
      go_ret
      exact ⟨by rw [HK.out]; rfl, hbel⟩

/-- What zzFits8 asks of a step, zzFits7 of a list of steps. -/
def fits8 (x : StepL) : Bool := decide (x.text.size ≤ 2147483647) && fits2 x.texts
def fits7 (L : List StepL) : Bool := decide (L.length ≤ 2147483647) && L.all fits8
theorem fits7_iff {L : List StepL} : fits7 L = true ↔ L.length ≤ 2147483647 ∧ ∀ j (h : j < L.length), fits8 L[j] = true := by
  simp only [fits7, Bool.and_eq_true, decide_eq_true_eq, List.all_eq_true]
  constructor
  · rintro ⟨a, b⟩; exact ⟨a, fun j h => b _ (List.getElem_mem h)⟩
  · rintro ⟨a, b⟩; exact ⟨a, fun x hx => by obtain ⟨j, h, rfl⟩ := List.getElem_of_mem hx; exact b j h⟩
theorem fits7_no {L : List StepL} {k : Nat} (h : k < L.length) (hs : fits8 L[k] = false) : fits7 L = false := by
  rw [Bool.eq_false_iff]; intro hc; rw [(fits7_iff.1 hc).2 k h] at hs; cases hs
theorem fits8_iff {x : StepL} : fits8 x = true ↔ x.text.size ≤ 2147483647 ∧ x.texts.length ≤ 2147483647 ∧ ∀ j, j < x.texts.length → (tx x.texts j).size ≤ 2147483647 := by
  simp only [fits8, Bool.and_eq_true, decide_eq_true_eq, fits2_iff]

set_option maxRecDepth 100000 in
set_option maxHeartbeats 1600000 in
theorem fits8_any (n : Int) (t : ByteArray) (A : Option Addr) (cap : Nat) (xs : List ByteArray) (w : World) (hx : StrsAt w A xs) (hm : xs.length ≤ 9223372036854775807) :
    Calls Tryd.prog 30 #[.agg #[.int .i64 n, .string t, .slice A xs.length cap]] w fun e w' => e = .returned (.bool (fits8 ⟨n, t, xs⟩)) ∧ Below w.heap.size w w' := by
  have hs0 : StrsAt (w.alloc (.cells #[.int .i64 n, .string t, .slice A xs.length cap] 67)) A xs := strsAt_below hx ((Below.refl _ _).alloc (Nat.le_refl _) _)
  have HF := Lib.hid (fits2_any A cap xs _ hs0 hm)
  have H8 : Hid (fits8 ⟨n, t, xs⟩ = (decide (t.size ≤ 2147483647) && fits2 xs)) := rfl
  clear hx hs0 hm
  generalize fits2 xs = f at HF H8
  generalize xs.length = nx at HF ⊢
  by_cases hb : (2147483647 : Int) < (t.size : Int)
  · have HR : Hid (fits8 ⟨n, t, xs⟩ = false) := by show _ = _; rw [H8.out]; simp; omega
    go_enter Tryd.func30, Tryd.ntmps30
    go_wp2
    go_ret
    exact ⟨by rw [HR.out]; rfl, (Below.refl _ _).alloc (Nat.le_refl _) _⟩
  · have HR : Hid (fits8 ⟨n, t, xs⟩ = f) := by show _ = _; rw [H8.out]; have : t.size ≤ 2147483647 := by omega
                                               simp [this]
    go_enter Tryd.func30, Tryd.ntmps30
    cases f with
    | true =>
      go_wp2_with (go_at_call 7; refine (HF.out).mono ?_; rintro e w1 ⟨rfl, rfl⟩)
      go_ret
      exact ⟨by rw [HR.out]; rfl, (Below.refl _ _).alloc (Nat.le_refl _) _⟩
    | false =>
      go_wp2_with (go_at_call 7; refine (HF.out).mono ?_; rintro e w1 ⟨rfl, rfl⟩)
      go_ret
      exact ⟨by rw [HR.out]; rfl, (Below.refl _ _).alloc (Nat.le_refl _) _⟩

set_option maxRecDepth 100000 in
set_option maxHeartbeats 1600000 in
theorem fits7_any (A : Option Addr) (cap : Nat) (L : List StepL) (w : World) (hx : StepsAt w A L) (hm : L.length ≤ 9223372036854775807) :
    Calls Tryd.prog 9 #[.slice A L.length cap] w fun e w' => e = .returned (.bool (fits7 L)) ∧ Below w.heap.size w w' := by
  by_cases hbig : 2147483647 < L.length
  · have hb : ((2147483647 : Int) < (L.length : Int)) := by omega
    have HF : Hid (fits7 L = false) := by show _ = _; rw [Bool.eq_false_iff]; intro hc; have := (fits7_iff.1 hc).1; omega
    go_enter Tryd.func9, Tryd.ntmps9
    go_wp2
    go_ret
    exact ⟨by rw [HF.out]; rfl, Below.refl _ _⟩
  · have hb : ¬ ((2147483647 : Int) < (L.length : Int)) := by omega
    go_enter Tryd.func9, Tryd.ntmps9
    go_wp2
    go_loopw [10] (fun i wr => ∃ k : Nat, k ≤ L.length ∧ i = .int .i64 k ∧ Hid (∀ j (h : j < L.length), j < k → fits8 L[j] = true) ∧ Below w.heap.size w wr) (fun i _ => L.length - (intOf i).toNat)
    case atStart => exact ⟨0, Nat.zero_le _, rfl, fun j _ hj => by omega, Below.refl _ _⟩
    case round =>
      obtain ⟨k, hk, rfl, HP, hbel⟩ := hrel
      by_cases hlt : k < L.length
      · obtain ⟨b, o, v, rfl, h0, h1, h2, h3⟩ := hx k hlt
        have c0 := cell_kept hbel h0
        have c1 := cell_kept hbel h1
        have c2 := cell_kept hbel h2
        obtain ⟨At, ct, rfl, hst0, hle, hcap, _⟩ := h3
        have i0 : (0 : Int) ≤ (k : Int) := Int.natCast_nonneg _
        have i1 : (k : Int) < (L.length : Int) := by omega
        have hst : StrsAt (wr.alloc (.cells #[.int .i64 L[k].act, .string L[k].text, .slice At L[k].texts.length ct] 67)) At L[k].texts := strsAt_below (strsAt_below hst0 hbel) ((Below.refl _ _).alloc (Nat.le_refl _) _)
        have H8 := Lib.hid (fits8_any L[k].act L[k].text At ct L[k].texts _ hst (by omega))
        have HN : Hid (fits8 L[k] = false → fits7 L = false) := fits7_no hlt
        have HY : Hid (fits8 L[k] = true → ∀ j (h : j < L.length), j < k + 1 → fits8 L[j] = true) := by
          intro hy j h hj
          by_cases e : j = k
          · subst e; exact hy
          · exact HP.out j h (by omega)
        clear h0 h1 h2 hx hst hst0
        have HE : Hid (fits8 ⟨L[k].act, L[k].text, L[k].texts⟩ = fits8 L[k]) := rfl
        rw [HE.out] at H8
        generalize fits8 L[k] = f at H8 HN HY
        generalize L[k].act = q at c0 H8
        generalize L[k].text = tq at c1 H8
        generalize L[k].texts.length = nt at c2 H8 hle
        cases f with
        | false =>
          have HF := Lib.hid (HN.out rfl)
          go_wp2_with (go_at_call 30; refine (H8.out).mono ?_; rintro e w1 ⟨rfl, hb1⟩; have hb1 : Below wr.heap.size wr w1 := ((Below.refl _ _).alloc (Nat.le_refl _) _).trans (hb1.mono (by simp)))
          go_ret
          exact ⟨by rw [HF.out]; rfl, below_step hbel hb1⟩
        | true =>
          have HY2 := Lib.hid (HY.out rfl)
          go_wp2_with (go_at_call 30; refine (H8.out).mono ?_; rintro e w1 ⟨rfl, hb1⟩; have hb1 : Below wr.heap.size wr w1 := ((Below.refl _ _).alloc (Nat.le_refl _) _).trans (hb1.mono (by simp)))
          go_roundw
          case rel => exact ⟨k + 1, by omega, by go_num, HY2, below_step hbel hb1⟩
          case measure => simp [intOf]; omega
      · have HF : Hid (fits7 L = true) := fits7_iff.2 ⟨by omega, fun j h => HP.out j h (by omega)⟩
        go_wp2
        go_ret
        exact ⟨by rw [HF.out]; rfl, hbel⟩
end Go.Proofs.YtdmpeecocfoocaaDoor.E

namespace Go.Proofs.YtdmpeecocfoocaaDoor.E
open Go.RowKit Go.Proofs
set_option linter.unusedVariables false
set_option linter.unusedSimpArgs false

/-- What newIntSliceValue leaves: the struct is new, the variable holds the list. -/
def NewSv (V : List Int) (v : Value) (P0 : Nat) (w : World) (e : Ending) (w' : World) : Prop :=
  e = .returned (.pointer (some ⟨w.heap.size, 0, none⟩)) ∧ SV w' w.heap.size P0 V false v ∧ Below P0 w w'

set_option maxRecDepth 100000 in
set_option maxHeartbeats 1600000 in
theorem new64_any (g c : Nat) (V : List Int) (P0 : Nat) (z : Value) (w : World) (h0 : w.heap[P0]? = some (.cells #[z] 101 (0, 0))) (hz : ∃ a n k, z = .slice a n k) (hv : w.ownsRow 0 3 1 (.slice (some ⟨g, 0, none⟩) V.length c) V.length (i64s V)) (hg : g ≠ P0) :
    Calls Tryd.prog 96 #[.slice (some ⟨g, 0, none⟩) V.length c, .pointer (some ⟨P0, 0, none⟩)] w (NewSv V (.slice (some ⟨g, 0, none⟩) V.length c) P0 w) := by
  obtain ⟨za, zn, zk, rfl⟩ := hz
  have lP0 := lt_of_block h0
  have lg := (hv.lt g rfl).2
  have c0 : ∀ o, (w.alloc o).cell? ⟨P0, 0, none⟩ = some (.slice za zn zk) := fun o => cell_of_one ((Below.heap_alloc w _ _ lP0).trans h0)
  have z0 : ∀ o, (w.alloc o).frozen? ⟨P0, 0, none⟩ = false := fun o => free_of_one ((Below.heap_alloc w _ _ lP0).trans h0)
  go_enter Tryd.func96, Tryd.ntmps96
  go_wp2
  go_ret
  have hsz : ∀ x, (w.setCell ⟨P0, 0, none⟩ x).heap.size = w.heap.size := fun x => by simp [World.setCell]
  have hb1 : Below P0 w ((w.setCell ⟨P0, 0, none⟩ (.slice (some ⟨g, 0, none⟩) V.length c)).alloc (.cells #[.pointer (some ⟨P0, 0, none⟩), .bool false] 150)) := ((Below.refl P0 w).setCell (p := ⟨P0, 0, none⟩) (Nat.le_refl _) _).alloc (by rw [hsz]; omega) _
  refine ⟨rfl, ⟨?_, ?_, ?_, ?_, ?_, ?_, ⟨g, c, rfl⟩⟩, hb1⟩
  · have := heap_alloc_new (w.setCell ⟨P0, 0, none⟩ (.slice (some ⟨g, 0, none⟩) V.length c)) (.cells #[.pointer (some ⟨P0, 0, none⟩), .bool false] 150)
    rwa [hsz] at this
  · rw [Below.heap_alloc _ _ _ (by rw [hsz]; exact lP0)]
    exact one_setCell h0
  · exact (own_setCell hv (a := ⟨P0, 0, none⟩) (by simp [Value.ownBlock]; exact hg) _).alloc _
  · simp [Value.ownBlock]; omega
  · simp [Value.ownBlock]; exact hg
  · omega

set_option maxRecDepth 100000 in
theorem zz64_any (g c : Nat) (V : List Int) (P0 : Nat) (z : Value) (w : World) (h0 : w.heap[P0]? = some (.cells #[z] 101 (0, 0))) (hz : ∃ a n k, z = .slice a n k) (hv : w.ownsRow 0 3 1 (.slice (some ⟨g, 0, none⟩) V.length c) V.length (i64s V)) (hg : g ≠ P0) :
    Calls Tryd.prog 56 #[.slice (some ⟨g, 0, none⟩) V.length c, .pointer (some ⟨P0, 0, none⟩)] w (NewSv V (.slice (some ⟨g, 0, none⟩) V.length c) P0 w) := by
  have H := Lib.hid (new64_any g c V P0 z w h0 hz hv hg)
  clear hz hv
  go_enter Tryd.func56, Tryd.ntmps56
  go_wp2_with (go_at_call 96; refine (H.out).mono ?_; rintro e w1 ⟨rfl, hsv, hb⟩)
  go_ret
  exact ⟨rfl, hsv, hb⟩

/-- Whether two lists are one. -/
theorem i64s_at {V : List Int} {k : Nat} (h : k < V.length) : (i64s V)[k]? = some (.int .i64 (V.getD k 0)) := by simp [i64s, h]

theorem list_eq_getD {a b : List Int} (hl : a.length = b.length) (h : ∀ j, j < a.length → a.getD j 0 = b.getD j 0) : a = b := by
  apply List.ext_getElem hl
  intro i h1 h2
  have := h i h1
  simpa [h1, h2] using this

set_option maxRecDepth 100000 in
set_option maxHeartbeats 1600000 in
theorem alike64_any (A B : Option Addr) (c d : Nat) (a b : List Int) (w : World) (ha : RowAt w A (i64s a)) (hb : RowAt w B (i64s b)) (hm : a.length ≤ 9223372036854775807) :
    Calls Tryd.prog 23 #[.slice A a.length c, .slice B b.length d] w fun e w' => e = .returned (.bool (decide (a = b))) ∧ Below w.heap.size w w' := by
  by_cases hl : a.length = b.length
  · have hL : Hid (b.length = a.length) := hl.symm
    clear hl
    rw [hL.out]
    go_enter Tryd.func23, Tryd.ntmps23
    go_wp2
    go_loopw [13] (fun i wr => ∃ k : Nat, k ≤ a.length ∧ i = .int .i64 k ∧ Hid (∀ j, j < k → a.getD j 0 = b.getD j 0) ∧ Below w.heap.size w wr) (fun i _ => a.length - (intOf i).toNat)
    case atStart => exact ⟨0, Nat.zero_le _, rfl, fun j hj => by omega, Below.refl _ _⟩
    case round =>
      obtain ⟨k, hk, rfl, HP, hbel⟩ := hrel
      by_cases hlt : k < a.length
      · obtain ⟨g, rfl, c0⟩ := ha k _ (i64s_at hlt)
        obtain ⟨g', rfl, d0⟩ := hb k _ (i64s_at (by have := hL.out; omega : k < b.length))
        have c1 := cell_kept hbel c0
        have d1 := cell_kept hbel d0
        have i0 : (0 : Int) ≤ (k : Int) := Int.natCast_nonneg _
        have i1 : (k : Int) < (a.length : Int) := by omega
        have HE : Hid (a.getD k 0 ≠ b.getD k 0 → ¬ a = b) := fun h e => h (by rw [e])
        have HY : Hid (a.getD k 0 = b.getD k 0 → ∀ j, j < k + 1 → a.getD j 0 = b.getD j 0) := by
          intro hy j hj
          by_cases e : j = k
          · subst e; exact hy
          · exact HP.out j (by omega)
        clear c0 d0
        generalize a.getD k 0 = x at c1 HE HY
        generalize b.getD k 0 = y at d1 HE HY
        by_cases hxy : x = y
        · subst hxy
          have HY2 := Lib.hid (HY.out rfl)
          go_wp2
          go_quiet (fail)
          go_wp2
          go_roundw
          case rel => exact ⟨k + 1, by omega, by go_num, HY2, bdrew hbel _⟩
          case measure => simp [intOf]; omega
        · have HN := Lib.hid (HE.out hxy)
          have hne : (x == y) = false := by simpa using hxy
          go_wp2
          go_quiet (fail)
          go_wp2
          go_ret
          exact ⟨by rw [decide_eq_false HN.out]; rfl, bdrew hbel _⟩
      · have HF : Hid (a = b) := list_eq_getD hL.out.symm (fun j h => HP.out j (by omega))
        go_wp2
        go_ret
        exact ⟨by rw [decide_eq_true HF.out]; rfl, hbel⟩
  · have hN : Hid (¬ a = b) := fun e => hl (by rw [e])
    have hq : ((a.length : Int) == (b.length : Int)) = false := by simpa using (by omega : (a.length : Int) ≠ (b.length : Int))
    go_enter Tryd.func23, Tryd.ntmps23
    go_wp2
    go_ret
    exact ⟨by rw [decide_eq_false hN.out]; rfl, Below.refl _ _⟩
end Go.Proofs.YtdmpeecocfoocaaDoor.E

namespace Go.Proofs.YtdmpeecocfoocaaDoor.E
open Go.RowKit Go.Proofs
set_option linter.unusedVariables false
set_option linter.unusedSimpArgs false

/-- One row of what is told. -/
def rowD (D : List (Bool × List Int)) (j : Nat) : Bool × List Int := D.getD j (false, [])
/-- Rows of s cells, the first two whether there was an error and a list, that lies apart from the value vv. -/
def ListRows (w : World) (B s : Nat) (vv : Value) (D : List (Bool × List Int)) (cs : List Value) : Prop :=
  ∀ j, j < D.length → ∃ A c, cs[j * s]? = some (.bool (rowD D j).1) ∧ cs[j * s + 1]? = some (.slice A (rowD D j).2.length c) ∧ w.ownsRow B 2 1 (.slice A (rowD D j).2.length c) (rowD D j).2.length (i64s (rowD D j).2) ∧
    ((Value.slice A (rowD D j).2.length c).ownBlock = none ∨ (Value.slice A (rowD D j).2.length c).ownBlock ≠ vv.ownBlock)
theorem ListRows.kept {w w1 : World} {B s : Nat} {vv vv1 : Value} {D : List (Bool × List Int)} {cs : List Value} (h : ListRows w B s vv D cs)
    (hk : ∀ (v : Value) (n : Nat) (ys : List Value), w.ownsRow B 2 1 v n ys → (v.ownBlock = none ∨ v.ownBlock ≠ vv.ownBlock) → w1.ownsRow B 2 1 v n ys ∧ (v.ownBlock = none ∨ v.ownBlock ≠ vv1.ownBlock)) : ListRows w1 B s vv1 D cs := by
  intro j hj
  obtain ⟨A, c, h1, h2, h3, h4⟩ := h j hj
  obtain ⟨k3, k4⟩ := hk _ _ _ h3 h4
  exact ⟨A, c, h1, h2, k3, k4⟩
theorem ListRows.snoc {w : World} {B s : Nat} {vv : Value} {D : List (Bool × List Int)} {cs us : List Value} (h : ListRows w B s vv D cs) (hs : 2 ≤ s) (hl : cs.length = D.length * s) (x : Bool × List Int) {A : Option Addr} {c : Nat}
    (h0 : us[0]? = some (.bool x.1)) (h1 : us[1]? = some (.slice A x.2.length c)) (ho : w.ownsRow B 2 1 (.slice A x.2.length c) x.2.length (i64s x.2)) (hv : (Value.slice A x.2.length c).ownBlock = none ∨ (Value.slice A x.2.length c).ownBlock ≠ vv.ownBlock) :
    ListRows w B s vv (D ++ [x]) (cs ++ us) := by
  intro j hj
  by_cases e : j = D.length
  · subst e
    have hx : rowD (D ++ [x]) D.length = x := by simp [rowD]
    rw [hx]
    refine ⟨A, c, ?_, ?_, ho, hv⟩
    · rw [List.getElem?_append_right (by omega), show D.length * s - cs.length = 0 by omega]; exact h0
    · rw [List.getElem?_append_right (by omega), show D.length * s + 1 - cs.length = 1 by omega]; exact h1
  · have hj2 : j < D.length := by simp at hj; omega
    have hx : rowD (D ++ [x]) j = rowD D j := by simp [rowD, List.getElem?_append_left hj2]
    rw [hx]
    obtain ⟨A', c', a1, a2, a3, a4⟩ := h j hj2
    have hlt : j * s + 1 < cs.length := by
      have : (j + 1) * s ≤ D.length * s := Nat.mul_le_mul_right _ hj2
      rw [Nat.succ_mul] at this
      omega
    exact ⟨A', c', by rw [List.getElem?_append_left (by omega)]; exact a1, by rw [List.getElem?_append_left hlt]; exact a2, a3, a4⟩
theorem ListRows.nil (w : World) (B s : Nat) (vv : Value) : ListRows w B s vv [] [] := fun j hj => by simp at hj

theorem rowAt_mid {w : World} {A : Option Addr} {cs : List Value} (h : RowAt w A cs) {i : Nat} {u v : Value} (h0 : cs[i]? = some u) (h1 : cs[i + 1]? = some v) :
    ∃ g, A = some ⟨g, 0, none⟩ ∧ w.cell? ⟨g, i, none⟩ = some u ∧ w.cell? ⟨g, i + 1, none⟩ = some v := by
  obtain ⟨g, rfl, c0⟩ := h _ _ h0
  obtain ⟨g', e, c1⟩ := h _ _ h1
  obtain rfl : g = g' := by simpa using e
  exact ⟨g, rfl, c0, c1⟩

theorem own_row_at {w : World} {base : Nat} {e : TypeId} {size : Nat} {A : Option Addr} {c n : Nat} {xs : List Value} (h : w.ownsRow base e size (.slice A n c) n xs) : RowAt w A xs := by
  obtain ⟨A', c', e, hr⟩ := own_row h
  simp only [Value.slice.injEq] at e
  obtain ⟨h1, _⟩ := e
  subst h1
  exact hr
end Go.Proofs.YtdmpeecocfoocaaDoor.E

namespace Go.Proofs.YtdmpeecocfoocaaDoor.E
open Go.RowKit Go.Proofs
set_option linter.unusedVariables false
set_option linter.unusedSimpArgs false
/-- What a step asks: none: nothing; else its numbers, or none. -/
def stepQ (x : StepL) : Option (Option (List Int)) := if x.act = 0 then some (nums64 (partsT x.text)) else if x.act = 1 then some (nums64 [x.text]) else if x.act = 2 then some (nums64 x.texts) else none
def nextV (x : StepL) (V : List Int) (ch : Bool) (N : List Int) : List Int := if x.act = 2 then N else if x.act = 0 then (if ch = true then V ++ N else N) else V ++ N
/-- What is told of the steps: whether there was an error, and the list. -/
def outs : List Int → Bool → List StepL → List (Bool × List Int)
  | _, _, [] => []
  | V, ch, x :: r =>
    match stepQ x with
    | none => outs V ch r
    | some none => (true, V) :: outs V ch r
    | some (some N) => (false, nextV x V ch N) :: outs (nextV x V ch N) (ch || decide (x.act = 0)) r
def wt (x : StepL) : Nat := x.text.size + 1 + x.texts.length
def wts : List StepL → Nat
  | [] => 0
  | x :: r => wt x + wts r
theorem nums64_len : ∀ (xs : List ByteArray) (N : List Int), nums64 xs = some N → N.length = xs.length
  | [], N, h => by simp [nums64] at h; subst h; rfl
  | t :: r, N, h => by
    simp only [nums64] at h
    split at h
    · cases h
    · cases hr : nums64 r with
      | none => rw [hr] at h; cases h
      | some M => rw [hr] at h; cases h; simp [nums64_len r M hr]
theorem stepQ_len {x : StepL} {N : List Int} (h : stepQ x = some (some N)) : N.length ≤ wt x := by
  unfold stepQ at h
  unfold wt
  split at h
  · have := nums64_len _ _ (Option.some.inj h); have := partsT_len x.text; omega
  · split at h
    · have := nums64_len _ _ (Option.some.inj h); simp at this; omega
    · split at h
      · have := nums64_len _ _ (Option.some.inj h); omega
      · cases h
theorem nextV_len {x : StepL} {V N : List Int} {ch : Bool} (h : N.length ≤ wt x) : (nextV x V ch N).length ≤ V.length + wt x := by
  unfold nextV
  split
  · omega
  · split
    · split
      · rw [List.length_append]; omega
      · omega
    · rw [List.length_append]; omega
theorem outs_drop {V : List Int} {ch : Bool} {L : List StepL} {k : Nat} (h : k < L.length) : outs V ch (L.drop k) = match stepQ L[k] with
    | none => outs V ch (L.drop (k + 1))
    | some none => (true, V) :: outs V ch (L.drop (k + 1))
    | some (some N) => (false, nextV L[k] V ch N) :: outs (nextV L[k] V ch N) (ch || decide (L[k].act = 0)) (L.drop (k + 1)) := by
  rw [List.drop_eq_getElem_cons h]; rfl
theorem wts_drop {L : List StepL} {k : Nat} (h : k < L.length) : wts (L.drop k) = wt L[k] + wts (L.drop (k + 1)) := by
  rw [List.drop_eq_getElem_cons h]; rfl

/-- What a step leaves: whether it had an error, the list, whether it was changed. -/
def stepR (x : StepL) (V : List Int) (ch : Bool) : Bool × List Int × Bool :=
  match stepQ x with
  | some (some N) => (false, nextV x V ch N, ch || decide (x.act = 0))
  | _ => (true, V, ch)
theorem outs_told {V : List Int} {ch : Bool} {L : List StepL} {k : Nat} (h : k < L.length) (ht : toldB L[k] = true) :
    outs V ch (L.drop k) = ((stepR L[k] V ch).1, (stepR L[k] V ch).2.1) :: outs (stepR L[k] V ch).2.1 (stepR L[k] V ch).2.2 (L.drop (k + 1)) := by
  rw [outs_drop h]
  unfold stepR
  have : ∃ q, stepQ L[k] = some q := by
    unfold toldB at ht
    have ht := of_decide_eq_true ht
    unfold stepQ
    by_cases a : L[k].act = 0
    · exact ⟨_, if_pos a⟩
    · rw [if_neg a]
      by_cases b : L[k].act = 1
      · exact ⟨_, if_pos b⟩
      · rw [if_neg b, if_pos (by omega)]; exact ⟨_, rfl⟩
  obtain ⟨q, hq⟩ := this
  rw [hq]
  cases q <;> rfl
theorem outs_not {V : List Int} {ch : Bool} {L : List StepL} {k : Nat} (h : k < L.length) (ht : toldB L[k] = false) : outs V ch (L.drop k) = outs V ch (L.drop (k + 1)) := by
  rw [outs_drop h]
  have : stepQ L[k] = none := by
    unfold toldB at ht
    have ht := of_decide_eq_false ht
    unfold stepQ
    rw [if_neg (by omega), if_neg (by omega), if_neg (by omega)]
  rw [this]
theorem stepR_len (x : StepL) (V : List Int) (ch : Bool) : (stepR x V ch).2.1.length ≤ V.length + wt x := by
  unfold stepR
  split
  · rename_i N h; exact nextV_len (stepQ_len h)
  · simp
theorem outs_len : ∀ (V : List Int) (ch : Bool) (L : List StepL), (outs V ch L).length = toldN L
  | V, ch, [] => rfl
  | V, ch, x :: r => by
    by_cases ht : toldB x = true
    · have h := outs_told (V := V) (ch := ch) (L := x :: r) (k := 0) (by simp) ht
      simp only [List.drop_zero, List.getElem_cons_zero, List.drop_succ_cons] at h
      rw [h, List.length_cons, outs_len]
      simp [toldN, ht]
    · have hf : toldB x = false := by simpa using ht
      have h := outs_not (V := V) (ch := ch) (L := x :: r) (k := 0) (by simp) hf
      simp only [List.drop_zero, List.drop_succ_cons] at h
      rw [h, outs_len]
      simp [toldN, hf]

/-- What a step's call leaves. -/
def SvDid (r : Bool × List Int × Bool) (P1 P0 : Nat) (v : Value) (w : World) (e : Ending) (w' : World) : Prop :=
  ∃ E v', e = .returned E ∧ ((r.1 = false ∧ E = .nilIface) ∨ (r.1 = true ∧ ∃ t x, E = .iface t x)) ∧ SV w' P1 P0 r.2.1 r.2.2 v' ∧ SvChg w w' P1 P0 v v'
theorem SvChg.of_same {w w' : World} {P1 P0 : Nat} {v : Value} (hb : Below w.heap.size w w') : SvChg w w' P1 P0 v v := ⟨hb.os, hb.tape, hb.output, hb.size, fun k hk _ _ _ => hb.block k hk, .inl rfl⟩
theorem did_none {x : StepL} {P1 P0 : Nat} {V : List Int} {ch : Bool} {v : Value} {w w' : World} {e : Ending} (hq : stepQ x = some none) (h : SV w P1 P0 V ch v) (he : ∃ t y, e = .returned (.iface t y)) (hb : Below w.heap.size w w') : SvDid (stepR x V ch) P1 P0 v w e w' := by
  have hr : stepR x V ch = (true, V, ch) := by unfold stepR; rw [hq]
  rw [hr]
  obtain ⟨t, y, rfl⟩ := he
  exact ⟨_, v, rfl, .inr ⟨rfl, t, y, rfl⟩, h.kept hb, SvChg.of_same hb⟩
theorem did_some {x : StepL} {N : List Int} {P1 P0 : Nat} {V V' : List Int} {ch ch' : Bool} {v : Value} {w w' : World} {e : Ending} (hq : stepQ x = some (some N)) (h1 : V' = nextV x V ch N) (h2 : ch' = (ch || decide (x.act = 0))) (h : SvSet N V' P1 P0 ch' v w e w') : SvDid (stepR x V ch) P1 P0 v w e w' := by
  have hr : stepR x V ch = (false, V', ch') := by unfold stepR; rw [hq, h1, h2]
  rw [hr]
  obtain ⟨rfl, v', hs, hc⟩ := h
  exact ⟨_, v', rfl, .inl ⟨rfl, rfl⟩, hs, hc⟩

theorem set64_did (x : StepL) (ha : x.act = 0) (hs : x.text.size ≤ 2147483647) (P1 P0 : Nat) (V : List Int) (ch : Bool) (v : Value) (w : World) (h : SV w P1 P0 V ch v) (hV : V.length ≤ 1099511627776) (he1 : ErrCell 0 w) (he2 : ErrCell 1 w) :
    Calls Tryd.prog 59 #[.pointer (some ⟨P1, 0, none⟩), .string x.text] w (SvDid (stepR x V ch) P1 P0 v w) := by
  have hsq : stepQ x = some (nums64 (partsT x.text)) := by unfold stepQ; rw [if_pos ha]
  cases hq : nums64 (partsT x.text) with
  | none =>
    rw [hq] at hsq
    exact (set64_none x.text hs P1 P0 V ch v w h he1 he2 hq).mono fun e w' hh => did_none hsq h hh.1 hh.2
  | some N =>
    rw [hq] at hsq
    refine (set64_some x.text hs P1 P0 V ch v w h hV he1 he2 N (if ch = true then V ++ N else N) hq rfl).mono fun e w' hh => did_some hsq ?_ ?_ hh
    · unfold nextV; simp [ha]
    · simp [ha]
theorem append64_did (x : StepL) (ha : x.act = 1) (hs : x.text.size ≤ 2147483647) (P1 P0 : Nat) (V : List Int) (ch : Bool) (v : Value) (w : World) (h : SV w P1 P0 V ch v) (hV : V.length ≤ 1099511627776) (he1 : ErrCell 0 w) (he2 : ErrCell 1 w) :
    Calls Tryd.prog 60 #[.pointer (some ⟨P1, 0, none⟩), .string x.text] w (SvDid (stepR x V ch) P1 P0 v w) := by
  have hsq : stepQ x = some (nums64 [x.text]) := by unfold stepQ; rw [if_neg (by omega), if_pos ha]
  cases hq : nums64 [x.text] with
  | none =>
    rw [hq] at hsq
    exact (append64_none x.text hs P1 P0 V ch v w h he1 he2 hq).mono fun e w' hh => did_none hsq h hh.1 hh.2
  | some N =>
    rw [hq] at hsq
    refine (append64_some x.text hs P1 P0 V ch v w h hV he1 he2 N hq).mono fun e w' hh => did_some hsq ?_ ?_ hh
    · unfold nextV; rw [if_neg (by omega), if_neg (by omega)]
    · simp [ha]
theorem replace64_did (x : StepL) (ha : x.act = 2) (A : Option Addr) (c : Nat) (hn : x.texts.length ≤ 2147483647) (hs : ∀ j, j < x.texts.length → (tx x.texts j).size ≤ 2147483647) (P1 P0 : Nat) (V : List Int) (ch : Bool) (v : Value) (w : World) (hx : StrsAt w A x.texts) (h : SV w P1 P0 V ch v) (he1 : ErrCell 0 w) (he2 : ErrCell 1 w) :
    Calls Tryd.prog 61 #[.pointer (some ⟨P1, 0, none⟩), .slice A x.texts.length c] w (SvDid (stepR x V ch) P1 P0 v w) := by
  have hsq : stepQ x = some (nums64 x.texts) := by unfold stepQ; rw [if_neg (by omega), if_neg (by omega), if_pos ha]
  cases hq : nums64 x.texts with
  | none =>
    rw [hq] at hsq
    exact (replace64_none A c x.texts (by omega) hs P1 P0 V ch v w hx h he1 he2 hq).mono fun e w' hh => did_none hsq h hh.1 hh.2
  | some N =>
    rw [hq] at hsq
    refine (replace64_some A c x.texts (by omega) hs P1 P0 V ch v w hx h he1 he2 N hq).mono fun e w' hh => did_some hsq ?_ ?_ hh
    · unfold nextV; rw [if_pos ha]
    · simp [ha]

/-! What a step leaves as it was. -/
theorem own_same {w w1 : World} {base e size n : Nat} {v : Value} {xs : List Value} (h : w.ownsRow base e size v n xs) (hb : ∀ g, v.ownBlock = some g → w1.heap[g]? = w.heap[g]?) : w1.ownsRow base e size v n xs := by
  refine ⟨h.1, ?_⟩
  rcases h.2 with hn | ⟨g, cap, cur, rfl, hbg, hg, r⟩
  · exact .inl hn
  · exact .inr ⟨g, cap, cur, rfl, hbg, by rw [hb g rfl]; exact hg, r⟩
theorem own_far {w : World} {base e size n : Nat} {v : Value} {xs : List Value} (h : w.ownsRow base e size v n xs) {P : Nat} {cs : Array Value} {t : TypeId} {fr : Nat × Nat} (hP : w.heap[P]? = some (.cells cs t fr)) (hne : t ≠ e) : v.ownBlock ≠ some P := by
  intro hv
  rcases h.2 with ⟨rfl, _⟩ | ⟨g, cap, cur, rfl, _, hg, _⟩
  · cases hv
  · simp only [Value.ownBlock, Option.some.injEq] at hv
    subst hv
    rw [hg] at hP
    simp only [Option.some.injEq, Obj.cells.injEq] at hP
    exact hne hP.2.1.symm
theorem own_apart {w : World} {b e size n : Nat} {v : Value} {xs : List Value} {b' e' size' n' : Nat} {v' : Value} {xs' : List Value} (h : w.ownsRow b e size v n xs) (h' : w.ownsRow b' e' size' v' n' xs') (hne : e ≠ e') : v.ownBlock = none ∨ v.ownBlock ≠ v'.ownBlock := by
  rcases h'.2 with ⟨rfl, _⟩ | ⟨g', cap', cur', rfl, _, hg', _⟩
  · by_cases hv : v.ownBlock = none
    · exact .inl hv
    · exact .inr hv
  · exact .inr (own_far h hg' (fun e' => hne e'.symm))
theorem chg_own {w w1 : World} {P1 P0 : Nat} {V : List Int} {ch : Bool} {v v' : Value} (hs : SV w P1 P0 V ch v) (hc : SvChg w w1 P1 P0 v v') {base e size n : Nat} {u : Value} {xs : List Value} (h : w.ownsRow base e size u n xs) (h1 : 150 ≠ e) (h0 : 101 ≠ e) (hv : u.ownBlock = none ∨ u.ownBlock ≠ v.ownBlock) : w1.ownsRow base e size u n xs := by
  refine own_same h fun g hg => hc.block g (h.lt g hg).2 (fun e => ?_) (fun e => ?_) (fun e => ?_)
  · subst e; exact own_far h hs.h1 h1 hg
  · subst e; exact own_far h hs.h0 h0 hg
  · rcases hv with k | k
    · rw [hg] at k; cases k
    · exact k (hg.trans e.symm)
theorem chg_below {w w1 : World} {P1 P0 B : Nat} {v v' : Value} (hc : SvChg w w1 P1 P0 v v') (h1 : B ≤ P1) (h0 : B ≤ P0) (hv : ∀ g, v.ownBlock = some g → B ≤ g) (hB : B ≤ w.heap.size) : Below B w w1 :=
  ⟨hc.os, hc.tape, hc.output, hc.size, fun k hk => hc.block k (by omega) (by omega) (by omega) (fun e => by have := hv k e; omega)⟩
theorem chg_at {w w1 : World} {P1 P0 B : Nat} {v v' : Value} (hc : SvChg w w1 P1 P0 v v') (hv : ∀ g, v.ownBlock = some g → B ≤ g) (hB : B ≤ w.heap.size) : ∀ g, v'.ownBlock = some g → B ≤ g := by
  intro g hg
  rcases hc.own with e | e
  · exact hv g (e ▸ hg)
  · have := e g hg; omega
end Go.Proofs.YtdmpeecocfoocaaDoor.E
