/- internal/strconv.underscoreOK at a text that is not empty and begins with no sign. Written by gen_uok.py. -/
import Derived.Test.YtdmpeecocfoocaaDoorPuD
namespace Go.Proofs.YtdmpeecocfoocaaDoor.E
open Go.RowKit Go.Proofs
set_option linter.unusedVariables false
set_option linter.unusedSimpArgs false

def isD (hex : Bool) (m : Nat) : Prop := (48 ≤ m ∧ m ≤ 57) ∨ (hex = true ∧ 97 ≤ lowB m ∧ lowB m ≤ 102)
instance (hex : Bool) (m : Nat) : Decidable (isD hex m) := by unfold isD; infer_instance
/-- The loop: what was seen last: a digit (48), an underscore (95), another byte (33), nothing (94). -/
def uoScan (hex : Bool) : Int → List UInt8 → Bool
  | sw, [] => sw != 95
  | sw, c :: r => if isD hex c.toNat then uoScan hex 48 r else if c.toNat = 95 then (if sw = 48 then uoScan hex 95 r else false) else if sw = 95 then false else uoScan hex 33 r
def uok (l : List UInt8) : Bool :=
  if (l.getD 0 0).toNat = 48 ∧ 2 ≤ l.length ∧ (lowB (l.getD 1 0).toNat = 98 ∨ lowB (l.getD 1 0).toNat = 111 ∨ lowB (l.getD 1 0).toNat = 120) then uoScan (decide (lowB (l.getD 1 0).toNat = 120)) 48 (l.drop 2)
  else uoScan false 94 l

def UoRel (hex : Bool) (n : Nat) (l : List UInt8) (R : Bool) (vs vi : Value) : Prop :=
  ∃ (k : Nat) (sw : Int), vs = .int .i32 sw ∧ vi = .int .i64 k ∧ k ≤ n ∧ Hid (R = uoScan hex sw (l.drop k))


set_option maxHeartbeats 4000000 in
set_option maxRecDepth 100000 in
theorem uok_x (t : ByteArray) (hne : 0 < t.size) (hmax : t.size ≤ 9223372036854775806) (h0 : t[0].toNat = 48) (h2 : 2 ≤ t.size) (h1 : lowB (t[1]'(by omega)).toNat = 120) (w : World) :
    Calls Tryd.prog 123 #[.string t] w fun e w' => e = .returned (.bool (uoScan true 48 (t.data.toList.drop 2))) ∧ w = w' := by
  have m1 : ((t[0].toNat : Int) == 45) = false := beq_false_of_ne (by omega)
  have m2 : ((t[0].toNat : Int) == 43) = false := beq_false_of_ne (by omega)
  have s1 : (1 : Int) ≤ (t.size : Int) := by omega
  have b0 : ((t[0].toNat : Int) == 48) = true := by rw [h0]; rfl
  have s2 : (2 : Int) ≤ (t.size : Int) := by omega
  have n1 : 1 < t.size := by omega
  have q98 : (bits BinOp.or IntKind.u8 ((t[1]'(by omega)).toNat : Int) 32 == 98) = false := by rw [show bits BinOp.or IntKind.u8 ((t[1]'(by omega)).toNat : Int) 32 = 120 from h1]; rfl
  have q111 : (bits BinOp.or IntKind.u8 ((t[1]'(by omega)).toNat : Int) 32 == 111) = false := by rw [show bits BinOp.or IntKind.u8 ((t[1]'(by omega)).toNat : Int) 32 = 120 from h1]; rfl
  have q120 : (bits BinOp.or IntKind.u8 ((t[1]'(by omega)).toNat : Int) 32 == 120) = true := by rw [show bits BinOp.or IntKind.u8 ((t[1]'(by omega)).toNat : Int) 32 = 120 from h1]; rfl
  obtain ⟨R, hR⟩ : ∃ R, R = uoScan true 48 (t.data.toList.drop 2) := ⟨_, rfl⟩
  rw [← hR]
  have HR := Lib.hid hR
  clear hR
  go_enter Tryd.func123, Tryd.ntmps123
  go_wp2
  go_loop [3, 4] (fun vs vi => UoRel true t.size t.data.toList R vs vi) (fun _ vi => t.size - (intOf vi).toNat)
  case atStart => exact ⟨2, 48, rfl, rfl, by omega, HR.out⟩
  case round =>
    obtain ⟨k, sw, rfl, rfl, hk, hh⟩ := hrel
    by_cases hkn : k < t.size
    · have hdec := hh.out
      clear hh
      rw [drop_at hkn] at hdec
      have hc256 : t[k].toNat < 256 := t[k].toNat_lt
      obtain ⟨c, hc⟩ : ∃ c, c = t[k].toNat := ⟨_, rfl⟩
      by_cases hdig : 48 ≤ t[k].toNat ∧ t[k].toNat ≤ 57
      · have e1 : (48 : Int) ≤ (t[k].toNat : Int) := by omega
        have e2 : (t[k].toNat : Int) ≤ 57 := by omega
        have HN : Hid (R = uoScan true 48 (t.data.toList.drop (k + 1))) := Lib.hid (hdec.trans (by rw [uoScan, if_pos (.inl hdig)]))
        clear hdec; (try clear hund); (try clear hsw)
        go_wp2
        go_round
        case rel => exact ⟨k + 1, 48, rfl, (by first | rfl | (congr 1; omega)), by omega, HN⟩
        case measure => simp [intOf]; omega
      · by_cases hl1 : 97 ≤ bits BinOp.or IntKind.u8 (t[k].toNat : Int) 32
        · by_cases hl2 : bits BinOp.or IntKind.u8 (t[k].toNat : Int) 32 ≤ 102
          · rcases (show (¬ (48 : Int) ≤ (t[k].toNat : Int)) ∨ ((48 : Int) ≤ (t[k].toNat : Int) ∧ ¬ (t[k].toNat : Int) ≤ 57) by omega) with e1 | ⟨e1, e2⟩
            all_goals
              have HN : Hid (R = uoScan true 48 (t.data.toList.drop (k + 1))) := Lib.hid (hdec.trans (by rw [uoScan, if_pos (.inr ⟨rfl, hl1, hl2⟩)]))
              clear hdec; (try clear hund); (try clear hsw)
              go_wp2
              go_round
              case rel => exact ⟨k + 1, 48, rfl, (by first | rfl | (congr 1; omega)), by omega, HN⟩
              case measure => simp [intOf]; omega
          · have hnd : ¬ isD true t[k].toNat := fun h => h.elim hdig (fun h => hl2 h.2.2)
            by_cases hund : t[k].toNat = 95
            · have bu : ((t[k].toNat : Int) == 95) = true := by rw [hund]; rfl
              have e1 : (48 : Int) ≤ (t[k].toNat : Int) := by omega
              have e2 : ¬ (t[k].toNat : Int) ≤ 57 := by omega
              by_cases hsw : sw = 48
              · have f1 : (sw != 48) = false := by rw [hsw]; rfl
                have HN : Hid (R = uoScan true 95 (t.data.toList.drop (k + 1))) := Lib.hid (hdec.trans (by rw [uoScan, if_neg hnd, if_pos hund, if_pos hsw]))
                clear hdec; (try clear hund); (try clear hsw)
                go_wp2
                go_round
                case rel => exact ⟨k + 1, 95, rfl, (by first | rfl | (congr 1; omega)), by omega, HN⟩
                case measure => simp [intOf]; omega
              · have f1 : (sw != 48) = true := by simp [hsw]
                have HN : Hid (R = false) := Lib.hid (hdec.trans (by rw [uoScan, if_neg hnd, if_pos hund, if_neg hsw]))
                clear hdec; (try clear hund); (try clear hsw)
                go_wp2
                go_ret
                exact ⟨by rw [HN.out]; rfl, rfl⟩
            · have bu : ((t[k].toNat : Int) == 95) = false := beq_false_of_ne (by omega)
              rcases (show (¬ (48 : Int) ≤ (t[k].toNat : Int)) ∨ ((48 : Int) ≤ (t[k].toNat : Int) ∧ ¬ (t[k].toNat : Int) ≤ 57) by omega) with e1 | ⟨e1, e2⟩
              all_goals
                by_cases hsw : sw = 95
                · have f1 : (sw == 95) = true := by rw [hsw]; rfl
                  have HN : Hid (R = false) := Lib.hid (hdec.trans (by rw [uoScan, if_neg hnd, if_neg hund, if_pos hsw]))
                  clear hdec; (try clear hund); (try clear hsw)
                  go_wp2
                  go_ret
                  exact ⟨by rw [HN.out]; rfl, rfl⟩
                · have f1 : (sw == 95) = false := beq_false_of_ne hsw
                  have HN : Hid (R = uoScan true 33 (t.data.toList.drop (k + 1))) := Lib.hid (hdec.trans (by rw [uoScan, if_neg hnd, if_neg hund, if_neg hsw]))
                  clear hdec; (try clear hund); (try clear hsw)
                  go_wp2
                  go_round
                  case rel => exact ⟨k + 1, 33, rfl, (by first | rfl | (congr 1; omega)), by omega, HN⟩
                  case measure => simp [intOf]; omega
        · have hnd : ¬ isD true t[k].toNat := fun h => h.elim hdig (fun h => hl1 h.2.1)
          by_cases hund : t[k].toNat = 95
          · have bu : ((t[k].toNat : Int) == 95) = true := by rw [hund]; rfl
            have e1 : (48 : Int) ≤ (t[k].toNat : Int) := by omega
            have e2 : ¬ (t[k].toNat : Int) ≤ 57 := by omega
            by_cases hsw : sw = 48
            · have f1 : (sw != 48) = false := by rw [hsw]; rfl
              have HN : Hid (R = uoScan true 95 (t.data.toList.drop (k + 1))) := Lib.hid (hdec.trans (by rw [uoScan, if_neg hnd, if_pos hund, if_pos hsw]))
              clear hdec; (try clear hund); (try clear hsw)
              go_wp2
              go_round
              case rel => exact ⟨k + 1, 95, rfl, (by first | rfl | (congr 1; omega)), by omega, HN⟩
              case measure => simp [intOf]; omega
            · have f1 : (sw != 48) = true := by simp [hsw]
              have HN : Hid (R = false) := Lib.hid (hdec.trans (by rw [uoScan, if_neg hnd, if_pos hund, if_neg hsw]))
              clear hdec; (try clear hund); (try clear hsw)
              go_wp2
              go_ret
              exact ⟨by rw [HN.out]; rfl, rfl⟩
          · have bu : ((t[k].toNat : Int) == 95) = false := beq_false_of_ne (by omega)
            rcases (show (¬ (48 : Int) ≤ (t[k].toNat : Int)) ∨ ((48 : Int) ≤ (t[k].toNat : Int) ∧ ¬ (t[k].toNat : Int) ≤ 57) by omega) with e1 | ⟨e1, e2⟩
            all_goals
              by_cases hsw : sw = 95
              · have f1 : (sw == 95) = true := by rw [hsw]; rfl
                have HN : Hid (R = false) := Lib.hid (hdec.trans (by rw [uoScan, if_neg hnd, if_neg hund, if_pos hsw]))
                clear hdec; (try clear hund); (try clear hsw)
                go_wp2
                go_ret
                exact ⟨by rw [HN.out]; rfl, rfl⟩
              · have f1 : (sw == 95) = false := beq_false_of_ne hsw
                have HN : Hid (R = uoScan true 33 (t.data.toList.drop (k + 1))) := Lib.hid (hdec.trans (by rw [uoScan, if_neg hnd, if_neg hund, if_neg hsw]))
                clear hdec; (try clear hund); (try clear hsw)
                go_wp2
                go_round
                case rel => exact ⟨k + 1, 33, rfl, (by first | rfl | (congr 1; omega)), by omega, HN⟩
                case measure => simp [intOf]; omega
    · have hkk : k = t.size := by omega
      subst hkk
      have HN : Hid (R = (sw != 95)) := Lib.hid (hh.out.trans (by rw [List.drop_eq_nil_of_le (by simp), uoScan]))
      clear hh
      go_wp2
      go_ret
      exact ⟨by rw [HN.out]; rfl, rfl⟩

set_option maxHeartbeats 4000000 in
set_option maxRecDepth 100000 in
theorem uok_o (t : ByteArray) (hne : 0 < t.size) (hmax : t.size ≤ 9223372036854775806) (h0 : t[0].toNat = 48) (h2 : 2 ≤ t.size) (h1 : lowB (t[1]'(by omega)).toNat = 111) (w : World) :
    Calls Tryd.prog 123 #[.string t] w fun e w' => e = .returned (.bool (uoScan false 48 (t.data.toList.drop 2))) ∧ w = w' := by
  have m1 : ((t[0].toNat : Int) == 45) = false := beq_false_of_ne (by omega)
  have m2 : ((t[0].toNat : Int) == 43) = false := beq_false_of_ne (by omega)
  have s1 : (1 : Int) ≤ (t.size : Int) := by omega
  have b0 : ((t[0].toNat : Int) == 48) = true := by rw [h0]; rfl
  have s2 : (2 : Int) ≤ (t.size : Int) := by omega
  have n1 : 1 < t.size := by omega
  have q98 : (bits BinOp.or IntKind.u8 ((t[1]'(by omega)).toNat : Int) 32 == 98) = false := by rw [show bits BinOp.or IntKind.u8 ((t[1]'(by omega)).toNat : Int) 32 = 111 from h1]; rfl
  have q111 : (bits BinOp.or IntKind.u8 ((t[1]'(by omega)).toNat : Int) 32 == 111) = true := by rw [show bits BinOp.or IntKind.u8 ((t[1]'(by omega)).toNat : Int) 32 = 111 from h1]; rfl
  have q120 : (bits BinOp.or IntKind.u8 ((t[1]'(by omega)).toNat : Int) 32 == 120) = false := by rw [show bits BinOp.or IntKind.u8 ((t[1]'(by omega)).toNat : Int) 32 = 111 from h1]; rfl
  obtain ⟨R, hR⟩ : ∃ R, R = uoScan false 48 (t.data.toList.drop 2) := ⟨_, rfl⟩
  rw [← hR]
  have HR := Lib.hid hR
  clear hR
  go_enter Tryd.func123, Tryd.ntmps123
  go_wp2
  go_loop [3, 4] (fun vs vi => UoRel false t.size t.data.toList R vs vi) (fun _ vi => t.size - (intOf vi).toNat)
  case atStart => exact ⟨2, 48, rfl, rfl, by omega, HR.out⟩
  case round =>
    obtain ⟨k, sw, rfl, rfl, hk, hh⟩ := hrel
    by_cases hkn : k < t.size
    · have hdec := hh.out
      clear hh
      rw [drop_at hkn] at hdec
      have hc256 : t[k].toNat < 256 := t[k].toNat_lt
      obtain ⟨c, hc⟩ : ∃ c, c = t[k].toNat := ⟨_, rfl⟩
      by_cases hdig : 48 ≤ t[k].toNat ∧ t[k].toNat ≤ 57
      · have e1 : (48 : Int) ≤ (t[k].toNat : Int) := by omega
        have e2 : (t[k].toNat : Int) ≤ 57 := by omega
        have HN : Hid (R = uoScan false 48 (t.data.toList.drop (k + 1))) := Lib.hid (hdec.trans (by rw [uoScan, if_pos (.inl hdig)]))
        clear hdec; (try clear hund); (try clear hsw)
        go_wp2
        go_round
        case rel => exact ⟨k + 1, 48, rfl, (by first | rfl | (congr 1; omega)), by omega, HN⟩
        case measure => simp [intOf]; omega
      · have hnd : ¬ isD false t[k].toNat := fun h => h.elim hdig (fun h => by cases h.1)
        by_cases hund : t[k].toNat = 95
        · have bu : ((t[k].toNat : Int) == 95) = true := by rw [hund]; rfl
          have e1 : (48 : Int) ≤ (t[k].toNat : Int) := by omega
          have e2 : ¬ (t[k].toNat : Int) ≤ 57 := by omega
          by_cases hsw : sw = 48
          · have f1 : (sw != 48) = false := by rw [hsw]; rfl
            have HN : Hid (R = uoScan false 95 (t.data.toList.drop (k + 1))) := Lib.hid (hdec.trans (by rw [uoScan, if_neg hnd, if_pos hund, if_pos hsw]))
            clear hdec; (try clear hund); (try clear hsw)
            go_wp2
            go_round
            case rel => exact ⟨k + 1, 95, rfl, (by first | rfl | (congr 1; omega)), by omega, HN⟩
            case measure => simp [intOf]; omega
          · have f1 : (sw != 48) = true := by simp [hsw]
            have HN : Hid (R = false) := Lib.hid (hdec.trans (by rw [uoScan, if_neg hnd, if_pos hund, if_neg hsw]))
            clear hdec; (try clear hund); (try clear hsw)
            go_wp2
            go_ret
            exact ⟨by rw [HN.out]; rfl, rfl⟩
        · have bu : ((t[k].toNat : Int) == 95) = false := beq_false_of_ne (by omega)
          rcases (show (¬ (48 : Int) ≤ (t[k].toNat : Int)) ∨ ((48 : Int) ≤ (t[k].toNat : Int) ∧ ¬ (t[k].toNat : Int) ≤ 57) by omega) with e1 | ⟨e1, e2⟩
          all_goals
            by_cases hsw : sw = 95
            · have f1 : (sw == 95) = true := by rw [hsw]; rfl
              have HN : Hid (R = false) := Lib.hid (hdec.trans (by rw [uoScan, if_neg hnd, if_neg hund, if_pos hsw]))
              clear hdec; (try clear hund); (try clear hsw)
              go_wp2
              go_ret
              exact ⟨by rw [HN.out]; rfl, rfl⟩
            · have f1 : (sw == 95) = false := beq_false_of_ne hsw
              have HN : Hid (R = uoScan false 33 (t.data.toList.drop (k + 1))) := Lib.hid (hdec.trans (by rw [uoScan, if_neg hnd, if_neg hund, if_neg hsw]))
              clear hdec; (try clear hund); (try clear hsw)
              go_wp2
              go_round
              case rel => exact ⟨k + 1, 33, rfl, (by first | rfl | (congr 1; omega)), by omega, HN⟩
              case measure => simp [intOf]; omega
    · have hkk : k = t.size := by omega
      subst hkk
      have HN : Hid (R = (sw != 95)) := Lib.hid (hh.out.trans (by rw [List.drop_eq_nil_of_le (by simp), uoScan]))
      clear hh
      go_wp2
      go_ret
      exact ⟨by rw [HN.out]; rfl, rfl⟩

set_option maxHeartbeats 4000000 in
set_option maxRecDepth 100000 in
theorem uok_b (t : ByteArray) (hne : 0 < t.size) (hmax : t.size ≤ 9223372036854775806) (h0 : t[0].toNat = 48) (h2 : 2 ≤ t.size) (h1 : lowB (t[1]'(by omega)).toNat = 98) (w : World) :
    Calls Tryd.prog 123 #[.string t] w fun e w' => e = .returned (.bool (uoScan false 48 (t.data.toList.drop 2))) ∧ w = w' := by
  have m1 : ((t[0].toNat : Int) == 45) = false := beq_false_of_ne (by omega)
  have m2 : ((t[0].toNat : Int) == 43) = false := beq_false_of_ne (by omega)
  have s1 : (1 : Int) ≤ (t.size : Int) := by omega
  have b0 : ((t[0].toNat : Int) == 48) = true := by rw [h0]; rfl
  have s2 : (2 : Int) ≤ (t.size : Int) := by omega
  have n1 : 1 < t.size := by omega
  have q98 : (bits BinOp.or IntKind.u8 ((t[1]'(by omega)).toNat : Int) 32 == 98) = true := by rw [show bits BinOp.or IntKind.u8 ((t[1]'(by omega)).toNat : Int) 32 = 98 from h1]; rfl
  have q111 : (bits BinOp.or IntKind.u8 ((t[1]'(by omega)).toNat : Int) 32 == 111) = false := by rw [show bits BinOp.or IntKind.u8 ((t[1]'(by omega)).toNat : Int) 32 = 98 from h1]; rfl
  have q120 : (bits BinOp.or IntKind.u8 ((t[1]'(by omega)).toNat : Int) 32 == 120) = false := by rw [show bits BinOp.or IntKind.u8 ((t[1]'(by omega)).toNat : Int) 32 = 98 from h1]; rfl
  obtain ⟨R, hR⟩ : ∃ R, R = uoScan false 48 (t.data.toList.drop 2) := ⟨_, rfl⟩
  rw [← hR]
  have HR := Lib.hid hR
  clear hR
  go_enter Tryd.func123, Tryd.ntmps123
  go_wp2
  go_loop [3, 4] (fun vs vi => UoRel false t.size t.data.toList R vs vi) (fun _ vi => t.size - (intOf vi).toNat)
  case atStart => exact ⟨2, 48, rfl, rfl, by omega, HR.out⟩
  case round =>
    obtain ⟨k, sw, rfl, rfl, hk, hh⟩ := hrel
    by_cases hkn : k < t.size
    · have hdec := hh.out
      clear hh
      rw [drop_at hkn] at hdec
      have hc256 : t[k].toNat < 256 := t[k].toNat_lt
      obtain ⟨c, hc⟩ : ∃ c, c = t[k].toNat := ⟨_, rfl⟩
      by_cases hdig : 48 ≤ t[k].toNat ∧ t[k].toNat ≤ 57
      · have e1 : (48 : Int) ≤ (t[k].toNat : Int) := by omega
        have e2 : (t[k].toNat : Int) ≤ 57 := by omega
        have HN : Hid (R = uoScan false 48 (t.data.toList.drop (k + 1))) := Lib.hid (hdec.trans (by rw [uoScan, if_pos (.inl hdig)]))
        clear hdec; (try clear hund); (try clear hsw)
        go_wp2
        go_round
        case rel => exact ⟨k + 1, 48, rfl, (by first | rfl | (congr 1; omega)), by omega, HN⟩
        case measure => simp [intOf]; omega
      · have hnd : ¬ isD false t[k].toNat := fun h => h.elim hdig (fun h => by cases h.1)
        by_cases hund : t[k].toNat = 95
        · have bu : ((t[k].toNat : Int) == 95) = true := by rw [hund]; rfl
          have e1 : (48 : Int) ≤ (t[k].toNat : Int) := by omega
          have e2 : ¬ (t[k].toNat : Int) ≤ 57 := by omega
          by_cases hsw : sw = 48
          · have f1 : (sw != 48) = false := by rw [hsw]; rfl
            have HN : Hid (R = uoScan false 95 (t.data.toList.drop (k + 1))) := Lib.hid (hdec.trans (by rw [uoScan, if_neg hnd, if_pos hund, if_pos hsw]))
            clear hdec; (try clear hund); (try clear hsw)
            go_wp2
            go_round
            case rel => exact ⟨k + 1, 95, rfl, (by first | rfl | (congr 1; omega)), by omega, HN⟩
            case measure => simp [intOf]; omega
          · have f1 : (sw != 48) = true := by simp [hsw]
            have HN : Hid (R = false) := Lib.hid (hdec.trans (by rw [uoScan, if_neg hnd, if_pos hund, if_neg hsw]))
            clear hdec; (try clear hund); (try clear hsw)
            go_wp2
            go_ret
            exact ⟨by rw [HN.out]; rfl, rfl⟩
        · have bu : ((t[k].toNat : Int) == 95) = false := beq_false_of_ne (by omega)
          rcases (show (¬ (48 : Int) ≤ (t[k].toNat : Int)) ∨ ((48 : Int) ≤ (t[k].toNat : Int) ∧ ¬ (t[k].toNat : Int) ≤ 57) by omega) with e1 | ⟨e1, e2⟩
          all_goals
            by_cases hsw : sw = 95
            · have f1 : (sw == 95) = true := by rw [hsw]; rfl
              have HN : Hid (R = false) := Lib.hid (hdec.trans (by rw [uoScan, if_neg hnd, if_neg hund, if_pos hsw]))
              clear hdec; (try clear hund); (try clear hsw)
              go_wp2
              go_ret
              exact ⟨by rw [HN.out]; rfl, rfl⟩
            · have f1 : (sw == 95) = false := beq_false_of_ne hsw
              have HN : Hid (R = uoScan false 33 (t.data.toList.drop (k + 1))) := Lib.hid (hdec.trans (by rw [uoScan, if_neg hnd, if_neg hund, if_neg hsw]))
              clear hdec; (try clear hund); (try clear hsw)
              go_wp2
              go_round
              case rel => exact ⟨k + 1, 33, rfl, (by first | rfl | (congr 1; omega)), by omega, HN⟩
              case measure => simp [intOf]; omega
    · have hkk : k = t.size := by omega
      subst hkk
      have HN : Hid (R = (sw != 95)) := Lib.hid (hh.out.trans (by rw [List.drop_eq_nil_of_le (by simp), uoScan]))
      clear hh
      go_wp2
      go_ret
      exact ⟨by rw [HN.out]; rfl, rfl⟩

set_option maxHeartbeats 4000000 in
set_option maxRecDepth 100000 in
theorem uok_n (t : ByteArray) (hne : 0 < t.size) (hmax : t.size ≤ 9223372036854775806) (h0 : t[0].toNat = 48) (h2 : 2 ≤ t.size) (h1 : ¬ lowB (t[1]'(by omega)).toNat = 98 ∧ ¬ lowB (t[1]'(by omega)).toNat = 111 ∧ ¬ lowB (t[1]'(by omega)).toNat = 120) (w : World) :
    Calls Tryd.prog 123 #[.string t] w fun e w' => e = .returned (.bool (uoScan false 94 (t.data.toList.drop 0))) ∧ w = w' := by
  have m1 : ((t[0].toNat : Int) == 45) = false := beq_false_of_ne (by omega)
  have m2 : ((t[0].toNat : Int) == 43) = false := beq_false_of_ne (by omega)
  have s1 : (1 : Int) ≤ (t.size : Int) := by omega
  have b0 : ((t[0].toNat : Int) == 48) = true := by rw [h0]; rfl
  have s2 : (2 : Int) ≤ (t.size : Int) := by omega
  have n1 : 1 < t.size := by omega
  have q98 : (bits BinOp.or IntKind.u8 ((t[1]'(by omega)).toNat : Int) 32 == 98) = false := beq_false_of_ne h1.1
  have q111 : (bits BinOp.or IntKind.u8 ((t[1]'(by omega)).toNat : Int) 32 == 111) = false := beq_false_of_ne h1.2.1
  have q120 : (bits BinOp.or IntKind.u8 ((t[1]'(by omega)).toNat : Int) 32 == 120) = false := beq_false_of_ne h1.2.2
  obtain ⟨R, hR⟩ : ∃ R, R = uoScan false 94 (t.data.toList.drop 0) := ⟨_, rfl⟩
  rw [← hR]
  have HR := Lib.hid hR
  clear hR
  go_enter Tryd.func123, Tryd.ntmps123
  go_wp2
  go_loop [3, 4] (fun vs vi => UoRel false t.size t.data.toList R vs vi) (fun _ vi => t.size - (intOf vi).toNat)
  case atStart => exact ⟨0, 94, rfl, rfl, by omega, HR.out⟩
  case round =>
    obtain ⟨k, sw, rfl, rfl, hk, hh⟩ := hrel
    by_cases hkn : k < t.size
    · have hdec := hh.out
      clear hh
      rw [drop_at hkn] at hdec
      have hc256 : t[k].toNat < 256 := t[k].toNat_lt
      obtain ⟨c, hc⟩ : ∃ c, c = t[k].toNat := ⟨_, rfl⟩
      by_cases hdig : 48 ≤ t[k].toNat ∧ t[k].toNat ≤ 57
      · have e1 : (48 : Int) ≤ (t[k].toNat : Int) := by omega
        have e2 : (t[k].toNat : Int) ≤ 57 := by omega
        have HN : Hid (R = uoScan false 48 (t.data.toList.drop (k + 1))) := Lib.hid (hdec.trans (by rw [uoScan, if_pos (.inl hdig)]))
        clear hdec; (try clear hund); (try clear hsw)
        go_wp2
        go_round
        case rel => exact ⟨k + 1, 48, rfl, (by first | rfl | (congr 1; omega)), by omega, HN⟩
        case measure => simp [intOf]; omega
      · have hnd : ¬ isD false t[k].toNat := fun h => h.elim hdig (fun h => by cases h.1)
        by_cases hund : t[k].toNat = 95
        · have bu : ((t[k].toNat : Int) == 95) = true := by rw [hund]; rfl
          have e1 : (48 : Int) ≤ (t[k].toNat : Int) := by omega
          have e2 : ¬ (t[k].toNat : Int) ≤ 57 := by omega
          by_cases hsw : sw = 48
          · have f1 : (sw != 48) = false := by rw [hsw]; rfl
            have HN : Hid (R = uoScan false 95 (t.data.toList.drop (k + 1))) := Lib.hid (hdec.trans (by rw [uoScan, if_neg hnd, if_pos hund, if_pos hsw]))
            clear hdec; (try clear hund); (try clear hsw)
            go_wp2
            go_round
            case rel => exact ⟨k + 1, 95, rfl, (by first | rfl | (congr 1; omega)), by omega, HN⟩
            case measure => simp [intOf]; omega
          · have f1 : (sw != 48) = true := by simp [hsw]
            have HN : Hid (R = false) := Lib.hid (hdec.trans (by rw [uoScan, if_neg hnd, if_pos hund, if_neg hsw]))
            clear hdec; (try clear hund); (try clear hsw)
            go_wp2
            go_ret
            exact ⟨by rw [HN.out]; rfl, rfl⟩
        · have bu : ((t[k].toNat : Int) == 95) = false := beq_false_of_ne (by omega)
          rcases (show (¬ (48 : Int) ≤ (t[k].toNat : Int)) ∨ ((48 : Int) ≤ (t[k].toNat : Int) ∧ ¬ (t[k].toNat : Int) ≤ 57) by omega) with e1 | ⟨e1, e2⟩
          all_goals
            by_cases hsw : sw = 95
            · have f1 : (sw == 95) = true := by rw [hsw]; rfl
              have HN : Hid (R = false) := Lib.hid (hdec.trans (by rw [uoScan, if_neg hnd, if_neg hund, if_pos hsw]))
              clear hdec; (try clear hund); (try clear hsw)
              go_wp2
              go_ret
              exact ⟨by rw [HN.out]; rfl, rfl⟩
            · have f1 : (sw == 95) = false := beq_false_of_ne hsw
              have HN : Hid (R = uoScan false 33 (t.data.toList.drop (k + 1))) := Lib.hid (hdec.trans (by rw [uoScan, if_neg hnd, if_neg hund, if_neg hsw]))
              clear hdec; (try clear hund); (try clear hsw)
              go_wp2
              go_round
              case rel => exact ⟨k + 1, 33, rfl, (by first | rfl | (congr 1; omega)), by omega, HN⟩
              case measure => simp [intOf]; omega
    · have hkk : k = t.size := by omega
      subst hkk
      have HN : Hid (R = (sw != 95)) := Lib.hid (hh.out.trans (by rw [List.drop_eq_nil_of_le (by simp), uoScan]))
      clear hh
      go_wp2
      go_ret
      exact ⟨by rw [HN.out]; rfl, rfl⟩

set_option maxHeartbeats 4000000 in
set_option maxRecDepth 100000 in
theorem uok_s (t : ByteArray) (hne : 0 < t.size) (hmax : t.size ≤ 9223372036854775806) (h0 : t[0].toNat = 48) (h1 : t.size < 2) (w : World) :
    Calls Tryd.prog 123 #[.string t] w fun e w' => e = .returned (.bool (uoScan false 94 (t.data.toList.drop 0))) ∧ w = w' := by
  have m1 : ((t[0].toNat : Int) == 45) = false := beq_false_of_ne (by omega)
  have m2 : ((t[0].toNat : Int) == 43) = false := beq_false_of_ne (by omega)
  have s1 : (1 : Int) ≤ (t.size : Int) := by omega
  have b0 : ((t[0].toNat : Int) == 48) = true := by rw [h0]; rfl
  have s2 : ¬ (2 : Int) ≤ (t.size : Int) := by omega
  obtain ⟨R, hR⟩ : ∃ R, R = uoScan false 94 (t.data.toList.drop 0) := ⟨_, rfl⟩
  rw [← hR]
  have HR := Lib.hid hR
  clear hR
  go_enter Tryd.func123, Tryd.ntmps123
  go_wp2
  go_loop [3, 4] (fun vs vi => UoRel false t.size t.data.toList R vs vi) (fun _ vi => t.size - (intOf vi).toNat)
  case atStart => exact ⟨0, 94, rfl, rfl, by omega, HR.out⟩
  case round =>
    obtain ⟨k, sw, rfl, rfl, hk, hh⟩ := hrel
    by_cases hkn : k < t.size
    · have hdec := hh.out
      clear hh
      rw [drop_at hkn] at hdec
      have hc256 : t[k].toNat < 256 := t[k].toNat_lt
      obtain ⟨c, hc⟩ : ∃ c, c = t[k].toNat := ⟨_, rfl⟩
      by_cases hdig : 48 ≤ t[k].toNat ∧ t[k].toNat ≤ 57
      · have e1 : (48 : Int) ≤ (t[k].toNat : Int) := by omega
        have e2 : (t[k].toNat : Int) ≤ 57 := by omega
        have HN : Hid (R = uoScan false 48 (t.data.toList.drop (k + 1))) := Lib.hid (hdec.trans (by rw [uoScan, if_pos (.inl hdig)]))
        clear hdec; (try clear hund); (try clear hsw)
        go_wp2
        go_round
        case rel => exact ⟨k + 1, 48, rfl, (by first | rfl | (congr 1; omega)), by omega, HN⟩
        case measure => simp [intOf]; omega
      · have hnd : ¬ isD false t[k].toNat := fun h => h.elim hdig (fun h => by cases h.1)
        by_cases hund : t[k].toNat = 95
        · have bu : ((t[k].toNat : Int) == 95) = true := by rw [hund]; rfl
          have e1 : (48 : Int) ≤ (t[k].toNat : Int) := by omega
          have e2 : ¬ (t[k].toNat : Int) ≤ 57 := by omega
          by_cases hsw : sw = 48
          · have f1 : (sw != 48) = false := by rw [hsw]; rfl
            have HN : Hid (R = uoScan false 95 (t.data.toList.drop (k + 1))) := Lib.hid (hdec.trans (by rw [uoScan, if_neg hnd, if_pos hund, if_pos hsw]))
            clear hdec; (try clear hund); (try clear hsw)
            go_wp2
            go_round
            case rel => exact ⟨k + 1, 95, rfl, (by first | rfl | (congr 1; omega)), by omega, HN⟩
            case measure => simp [intOf]; omega
          · have f1 : (sw != 48) = true := by simp [hsw]
            have HN : Hid (R = false) := Lib.hid (hdec.trans (by rw [uoScan, if_neg hnd, if_pos hund, if_neg hsw]))
            clear hdec; (try clear hund); (try clear hsw)
            go_wp2
            go_ret
            exact ⟨by rw [HN.out]; rfl, rfl⟩
        · have bu : ((t[k].toNat : Int) == 95) = false := beq_false_of_ne (by omega)
          rcases (show (¬ (48 : Int) ≤ (t[k].toNat : Int)) ∨ ((48 : Int) ≤ (t[k].toNat : Int) ∧ ¬ (t[k].toNat : Int) ≤ 57) by omega) with e1 | ⟨e1, e2⟩
          all_goals
            by_cases hsw : sw = 95
            · have f1 : (sw == 95) = true := by rw [hsw]; rfl
              have HN : Hid (R = false) := Lib.hid (hdec.trans (by rw [uoScan, if_neg hnd, if_neg hund, if_pos hsw]))
              clear hdec; (try clear hund); (try clear hsw)
              go_wp2
              go_ret
              exact ⟨by rw [HN.out]; rfl, rfl⟩
            · have f1 : (sw == 95) = false := beq_false_of_ne hsw
              have HN : Hid (R = uoScan false 33 (t.data.toList.drop (k + 1))) := Lib.hid (hdec.trans (by rw [uoScan, if_neg hnd, if_neg hund, if_neg hsw]))
              clear hdec; (try clear hund); (try clear hsw)
              go_wp2
              go_round
              case rel => exact ⟨k + 1, 33, rfl, (by first | rfl | (congr 1; omega)), by omega, HN⟩
              case measure => simp [intOf]; omega
    · have hkk : k = t.size := by omega
      subst hkk
      have HN : Hid (R = (sw != 95)) := Lib.hid (hh.out.trans (by rw [List.drop_eq_nil_of_le (by simp), uoScan]))
      clear hh
      go_wp2
      go_ret
      exact ⟨by rw [HN.out]; rfl, rfl⟩

set_option maxHeartbeats 4000000 in
set_option maxRecDepth 100000 in
theorem uok_e (t : ByteArray) (hne : 0 < t.size) (hmax : t.size ≤ 9223372036854775806) (h0 : ¬ t[0].toNat = 48) (hm : ¬ t[0].toNat = 45 ∧ ¬ t[0].toNat = 43) (h1 : 2 ≤ t.size) (w : World) :
    Calls Tryd.prog 123 #[.string t] w fun e w' => e = .returned (.bool (uoScan false 94 (t.data.toList.drop 0))) ∧ w = w' := by
  have m1 : ((t[0].toNat : Int) == 45) = false := beq_false_of_ne (by omega)
  have m2 : ((t[0].toNat : Int) == 43) = false := beq_false_of_ne (by omega)
  have s1 : (1 : Int) ≤ (t.size : Int) := by omega
  have s2 : (2 : Int) ≤ (t.size : Int) := by omega
  have b0 : ((t[0].toNat : Int) == 48) = false := beq_false_of_ne (by omega)
  obtain ⟨R, hR⟩ : ∃ R, R = uoScan false 94 (t.data.toList.drop 0) := ⟨_, rfl⟩
  rw [← hR]
  have HR := Lib.hid hR
  clear hR
  go_enter Tryd.func123, Tryd.ntmps123
  go_wp2
  go_loop [3, 4] (fun vs vi => UoRel false t.size t.data.toList R vs vi) (fun _ vi => t.size - (intOf vi).toNat)
  case atStart => exact ⟨0, 94, rfl, rfl, by omega, HR.out⟩
  case round =>
    obtain ⟨k, sw, rfl, rfl, hk, hh⟩ := hrel
    by_cases hkn : k < t.size
    · have hdec := hh.out
      clear hh
      rw [drop_at hkn] at hdec
      have hc256 : t[k].toNat < 256 := t[k].toNat_lt
      obtain ⟨c, hc⟩ : ∃ c, c = t[k].toNat := ⟨_, rfl⟩
      by_cases hdig : 48 ≤ t[k].toNat ∧ t[k].toNat ≤ 57
      · have e1 : (48 : Int) ≤ (t[k].toNat : Int) := by omega
        have e2 : (t[k].toNat : Int) ≤ 57 := by omega
        have HN : Hid (R = uoScan false 48 (t.data.toList.drop (k + 1))) := Lib.hid (hdec.trans (by rw [uoScan, if_pos (.inl hdig)]))
        clear hdec; (try clear hund); (try clear hsw)
        go_wp2
        go_round
        case rel => exact ⟨k + 1, 48, rfl, (by first | rfl | (congr 1; omega)), by omega, HN⟩
        case measure => simp [intOf]; omega
      · have hnd : ¬ isD false t[k].toNat := fun h => h.elim hdig (fun h => by cases h.1)
        by_cases hund : t[k].toNat = 95
        · have bu : ((t[k].toNat : Int) == 95) = true := by rw [hund]; rfl
          have e1 : (48 : Int) ≤ (t[k].toNat : Int) := by omega
          have e2 : ¬ (t[k].toNat : Int) ≤ 57 := by omega
          by_cases hsw : sw = 48
          · have f1 : (sw != 48) = false := by rw [hsw]; rfl
            have HN : Hid (R = uoScan false 95 (t.data.toList.drop (k + 1))) := Lib.hid (hdec.trans (by rw [uoScan, if_neg hnd, if_pos hund, if_pos hsw]))
            clear hdec; (try clear hund); (try clear hsw)
            go_wp2
            go_round
            case rel => exact ⟨k + 1, 95, rfl, (by first | rfl | (congr 1; omega)), by omega, HN⟩
            case measure => simp [intOf]; omega
          · have f1 : (sw != 48) = true := by simp [hsw]
            have HN : Hid (R = false) := Lib.hid (hdec.trans (by rw [uoScan, if_neg hnd, if_pos hund, if_neg hsw]))
            clear hdec; (try clear hund); (try clear hsw)
            go_wp2
            go_ret
            exact ⟨by rw [HN.out]; rfl, rfl⟩
        · have bu : ((t[k].toNat : Int) == 95) = false := beq_false_of_ne (by omega)
          rcases (show (¬ (48 : Int) ≤ (t[k].toNat : Int)) ∨ ((48 : Int) ≤ (t[k].toNat : Int) ∧ ¬ (t[k].toNat : Int) ≤ 57) by omega) with e1 | ⟨e1, e2⟩
          all_goals
            by_cases hsw : sw = 95
            · have f1 : (sw == 95) = true := by rw [hsw]; rfl
              have HN : Hid (R = false) := Lib.hid (hdec.trans (by rw [uoScan, if_neg hnd, if_neg hund, if_pos hsw]))
              clear hdec; (try clear hund); (try clear hsw)
              go_wp2
              go_ret
              exact ⟨by rw [HN.out]; rfl, rfl⟩
            · have f1 : (sw == 95) = false := beq_false_of_ne hsw
              have HN : Hid (R = uoScan false 33 (t.data.toList.drop (k + 1))) := Lib.hid (hdec.trans (by rw [uoScan, if_neg hnd, if_neg hund, if_neg hsw]))
              clear hdec; (try clear hund); (try clear hsw)
              go_wp2
              go_round
              case rel => exact ⟨k + 1, 33, rfl, (by first | rfl | (congr 1; omega)), by omega, HN⟩
              case measure => simp [intOf]; omega
    · have hkk : k = t.size := by omega
      subst hkk
      have HN : Hid (R = (sw != 95)) := Lib.hid (hh.out.trans (by rw [List.drop_eq_nil_of_le (by simp), uoScan]))
      clear hh
      go_wp2
      go_ret
      exact ⟨by rw [HN.out]; rfl, rfl⟩

set_option maxHeartbeats 4000000 in
set_option maxRecDepth 100000 in
theorem uok_f (t : ByteArray) (hne : 0 < t.size) (hmax : t.size ≤ 9223372036854775806) (h0 : ¬ t[0].toNat = 48) (hm : ¬ t[0].toNat = 45 ∧ ¬ t[0].toNat = 43) (h1 : ¬ 2 ≤ t.size) (w : World) :
    Calls Tryd.prog 123 #[.string t] w fun e w' => e = .returned (.bool (uoScan false 94 (t.data.toList.drop 0))) ∧ w = w' := by
  have m1 : ((t[0].toNat : Int) == 45) = false := beq_false_of_ne (by omega)
  have m2 : ((t[0].toNat : Int) == 43) = false := beq_false_of_ne (by omega)
  have s1 : (1 : Int) ≤ (t.size : Int) := by omega
  have s2 : ¬ (2 : Int) ≤ (t.size : Int) := by omega
  have b0 : ((t[0].toNat : Int) == 48) = false := beq_false_of_ne (by omega)
  obtain ⟨R, hR⟩ : ∃ R, R = uoScan false 94 (t.data.toList.drop 0) := ⟨_, rfl⟩
  rw [← hR]
  have HR := Lib.hid hR
  clear hR
  go_enter Tryd.func123, Tryd.ntmps123
  go_wp2
  go_loop [3, 4] (fun vs vi => UoRel false t.size t.data.toList R vs vi) (fun _ vi => t.size - (intOf vi).toNat)
  case atStart => exact ⟨0, 94, rfl, rfl, by omega, HR.out⟩
  case round =>
    obtain ⟨k, sw, rfl, rfl, hk, hh⟩ := hrel
    by_cases hkn : k < t.size
    · have hdec := hh.out
      clear hh
      rw [drop_at hkn] at hdec
      have hc256 : t[k].toNat < 256 := t[k].toNat_lt
      obtain ⟨c, hc⟩ : ∃ c, c = t[k].toNat := ⟨_, rfl⟩
      by_cases hdig : 48 ≤ t[k].toNat ∧ t[k].toNat ≤ 57
      · have e1 : (48 : Int) ≤ (t[k].toNat : Int) := by omega
        have e2 : (t[k].toNat : Int) ≤ 57 := by omega
        have HN : Hid (R = uoScan false 48 (t.data.toList.drop (k + 1))) := Lib.hid (hdec.trans (by rw [uoScan, if_pos (.inl hdig)]))
        clear hdec; (try clear hund); (try clear hsw)
        go_wp2
        go_round
        case rel => exact ⟨k + 1, 48, rfl, (by first | rfl | (congr 1; omega)), by omega, HN⟩
        case measure => simp [intOf]; omega
      · have hnd : ¬ isD false t[k].toNat := fun h => h.elim hdig (fun h => by cases h.1)
        by_cases hund : t[k].toNat = 95
        · have bu : ((t[k].toNat : Int) == 95) = true := by rw [hund]; rfl
          have e1 : (48 : Int) ≤ (t[k].toNat : Int) := by omega
          have e2 : ¬ (t[k].toNat : Int) ≤ 57 := by omega
          by_cases hsw : sw = 48
          · have f1 : (sw != 48) = false := by rw [hsw]; rfl
            have HN : Hid (R = uoScan false 95 (t.data.toList.drop (k + 1))) := Lib.hid (hdec.trans (by rw [uoScan, if_neg hnd, if_pos hund, if_pos hsw]))
            clear hdec; (try clear hund); (try clear hsw)
            go_wp2
            go_round
            case rel => exact ⟨k + 1, 95, rfl, (by first | rfl | (congr 1; omega)), by omega, HN⟩
            case measure => simp [intOf]; omega
          · have f1 : (sw != 48) = true := by simp [hsw]
            have HN : Hid (R = false) := Lib.hid (hdec.trans (by rw [uoScan, if_neg hnd, if_pos hund, if_neg hsw]))
            clear hdec; (try clear hund); (try clear hsw)
            go_wp2
            go_ret
            exact ⟨by rw [HN.out]; rfl, rfl⟩
        · have bu : ((t[k].toNat : Int) == 95) = false := beq_false_of_ne (by omega)
          rcases (show (¬ (48 : Int) ≤ (t[k].toNat : Int)) ∨ ((48 : Int) ≤ (t[k].toNat : Int) ∧ ¬ (t[k].toNat : Int) ≤ 57) by omega) with e1 | ⟨e1, e2⟩
          all_goals
            by_cases hsw : sw = 95
            · have f1 : (sw == 95) = true := by rw [hsw]; rfl
              have HN : Hid (R = false) := Lib.hid (hdec.trans (by rw [uoScan, if_neg hnd, if_neg hund, if_pos hsw]))
              clear hdec; (try clear hund); (try clear hsw)
              go_wp2
              go_ret
              exact ⟨by rw [HN.out]; rfl, rfl⟩
            · have f1 : (sw == 95) = false := beq_false_of_ne hsw
              have HN : Hid (R = uoScan false 33 (t.data.toList.drop (k + 1))) := Lib.hid (hdec.trans (by rw [uoScan, if_neg hnd, if_neg hund, if_neg hsw]))
              clear hdec; (try clear hund); (try clear hsw)
              go_wp2
              go_round
              case rel => exact ⟨k + 1, 33, rfl, (by first | rfl | (congr 1; omega)), by omega, HN⟩
              case measure => simp [intOf]; omega
    · have hkk : k = t.size := by omega
      subst hkk
      have HN : Hid (R = (sw != 95)) := Lib.hid (hh.out.trans (by rw [List.drop_eq_nil_of_le (by simp), uoScan]))
      clear hh
      go_wp2
      go_ret
      exact ⟨by rw [HN.out]; rfl, rfl⟩

end Go.Proofs.YtdmpeecocfoocaaDoor.E
