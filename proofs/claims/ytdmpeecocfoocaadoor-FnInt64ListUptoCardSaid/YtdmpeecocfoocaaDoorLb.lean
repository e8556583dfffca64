/- internal/strconv.ParseUint at base 0 and 0 bits. Written by gen_pu0.py. -/
import Derived.Test.YtdmpeecocfoocaaDoorPuD
import Derived.Test.YtdmpeecocfoocaaDoorIntV
import Derived.Test.YtdmpeecocfoocaaDoorNatural
import Derived.Test.YtdmpeecocfoocaaDoorFits2
namespace Go.Proofs.YtdmpeecocfoocaaDoor.E
open Go.RowKit Go.Proofs
set_option linter.unusedVariables false
set_option linter.unusedSimpArgs false

set_option maxHeartbeats 8000000 in
set_option maxRecDepth 100000 in
theorem pz_x (M : Nat) (hM : M ≤ 18446744073709551615) (hmv : IntKind.u64.wrap (IntKind.u64.wrap 18446744073709551616 - 1) = (M : Int)) (t : ByteArray) (hne : 0 < t.size) (hmax : t.size ≤ 9223372036854775806) (h0 : t[0].toNat = 48) (h3 : 3 ≤ t.size) (h1 : lowB (t[1]'(by omega)).toNat = 120) (w : World)
    (ok : Bool) (HU : ∀ W, Calls Tryd.prog 123 #[.string t] W fun e w' => e = .returned (.bool ok) ∧ W = w') :
    Calls Tryd.prog 112 #[.string t, .int .i64 0, .int .i64 0] w fun e w' => e = .returned (puTup 162 M ok (puScan 16 M 0 false ((t.extract 2 t.size).data.toList))) ∧ Below w.heap.size w w' := by
  have hemp : t.toList.isEmpty = false := by
    rw [← decide_eq_emptyBytes]
    exact decide_eq_false (fun h => by rw [h] at hne; exact absurd hne (by decide))
  have HU := Lib.hid HU
  have b0 : ((t[0].toNat : Int) == 48) = true := by rw [h0]; rfl
  have s3 : (3 : Int) ≤ (t.size : Int) := by omega
  have n1 : 1 < t.size := by omega
  have q98 : (bits BinOp.or IntKind.u8 ((t[1]'(by omega)).toNat : Int) 32 == 98) = false := by rw [show bits BinOp.or IntKind.u8 ((t[1]'(by omega)).toNat : Int) 32 = 120 from h1]; rfl
  have q111 : (bits BinOp.or IntKind.u8 ((t[1]'(by omega)).toNat : Int) 32 == 111) = false := by rw [show bits BinOp.or IntKind.u8 ((t[1]'(by omega)).toNat : Int) 32 = 120 from h1]; rfl
  have q120 : (bits BinOp.or IntKind.u8 ((t[1]'(by omega)).toNat : Int) 32 == 120) = true := by rw [show bits BinOp.or IntKind.u8 ((t[1]'(by omega)).toNat : Int) 32 = 120 from h1]; rfl
  obtain ⟨u, hu⟩ : ∃ u, u = t.extract 2 t.size := ⟨_, rfl⟩
  have hus : u.size ≤ t.size := by rw [hu]; simp only [ByteArray.size_extract]; omega
  have HB0 := Lib.hid (bytes_below w 5 u)
  have hcv := Lib.run_convert_string_bytes (P := Tryd.prog) w 9 132 5 u (u := .string) Tryd.underlying9 Tryd.underlying132 Tryd.underlying5
  have hB : ∀ j, j < u.size → (Lib.bytesWorld w 5 u).cell? ⟨w.heap.size, j, none⟩ = some (.int .u8 (u.data.toList.getD j 0).toNat) := fun j hj => Lib.bytesWorld_cell w 5 u j hj
  obtain ⟨W1, hW1⟩ : ∃ W1, W1 = Lib.bytesWorld w 5 u := ⟨_, rfl⟩
  rw [← hW1] at hcv hB HB0
  replace hcv : (convert 9 132 (.string (t.extract 2 t.size))).run Tryd.prog w = .ok (.slice (some ⟨w.heap.size, 0, none⟩) u.size (grownCap w u.size 0 5)) W1 := by rw [← hu]; exact hcv
  clear hW1
  obtain ⟨bs, hL⟩ : ∃ bs, bs = u.data.toList := ⟨_, rfl⟩
  have hLn : bs.length = u.size := by rw [hL, Lib.size_eq]

  rw [← hu, ← hL]
  rw [← hL] at hB
  clear hL
  have hsl : (Instr.slice 9 (.string t) (some (.int .i64 2)) none none).run Tryd.prog w = .ok (.string (t.extract 2 t.size)) w := by rw [run_slice_string_l (P := Tryd.prog) w 9 t Tryd.underlying9 .i64 2 (by omega) (by omega)]; rfl
  have s1 : (1 : Int) ≤ (t.size : Int) := by omega
  clear hu
  go_enter Tryd.func112, Tryd.ntmps112
  go_wp2
  have HM := Lib.hid hM
  clear hM
  go_loop [12, 13, 101] (fun vu vn vi => PuRel 16 M u.size bs vu vn vi) (fun _ _ vi => u.size - (intOf vi).toNat)
  case atStart => exact ⟨0, 0, false, 0, rfl, rfl, rfl, by omega, rfl, by omega, rfl⟩
  case round =>
    obtain ⟨k, acc, us, a, rfl, rfl, rfl, hk, hh⟩ := hrel
    obtain ⟨ha, hacc, hdec⟩ := hh.out
    clear hh
    have a0 : 0 ≤ a := by omega
    have hM := HM.out
    have a1 : a ≤ M := by omega
    by_cases hkn : k < u.size
    · have hc := hB k hkn
      have hdrop : bs.drop k = bs[k]'(by omega) :: bs.drop (k + 1) := List.drop_eq_getElem_cons (by omega)
      have hget : bs.getD k 0 = bs[k]'(by omega) := by simp [List.getD, List.getElem?_eq_getElem (show k < bs.length by omega)]
      rw [hdrop] at hdec
      rw [hget] at hc
      generalize bs[k]'(by omega) = c at hc hdec
      have hc256 : c.toNat < 256 := c.toNat_lt
      clear hdrop hget
      obtain ⟨lo0, hi0, hcls⟩ := lowB_facts ⟨c.toNat, hc256⟩
      unfold lowB at lo0 hi0 hcls
      simp only at lo0 hi0 hcls
      by_cases hund : c.toNat = 95
      · have bu : ((c.toNat : Int) == 95) = true := by rw [hund]; rfl
        have HN : Hid (a = (acc : Int) ∧ acc ≤ M ∧ puScan 16 M 0 false bs = puScan 16 M acc true (bs.drop (k + 1))) := Lib.hid ⟨ha, hacc, hdec.trans (by rw [puScan, if_pos hund])⟩
        clear hdec hacc ha hund hcls hB hM
        go_wp2
        go_round
        case rel => first | exact ⟨k + 1, acc, true, a, rfl, rfl, (by first | rfl | (congr 1; omega)), by omega, HN⟩ | (refine ⟨_, _, _, _, _, _, _, _, ?_, rfl, rfl, rfl, rfl, rfl, rfl, rfl, rfl⟩; exact ⟨k + 1, acc, true, a, rfl, rfl, (by first | rfl | (congr 1; omega)), by omega, HN⟩)
        case measure => simp [intOf]; omega
      · have bu : ((c.toNat : Int) == 95) = false := beq_false_of_ne (by omega)
        by_cases hdig : 48 ≤ c.toNat ∧ c.toNat ≤ 57
        · have hD := dig0_num hdig
          have e1 : (48 : Int) ≤ (c.toNat : Int) := by omega
          have e2 : (c.toNat : Int) ≤ 57 := by omega
          have hbig : (c.toNat : Int) - 48 < 16 := by omega
          have hn : ¬ (dig0 c.toNat = -1 ∨ ((16 : Nat) : Int) ≤ dig0 c.toNat) := by rw [hD]; omega
          by_cases hcut : 1152921504606846976 ≤ a
          · have HF := Lib.hid (hdec.trans (show puScan 16 M acc us (c :: bs.drop (k + 1)) = .range by rw [puScan, if_neg hund, if_neg hn, if_pos (by rw [hD]; omega)]))
            clear hdec hacc ha hD hund hcls hB hn hM
            go_wp2
            go_ret2
            exact ⟨by rw [HF.out]; rfl, HB0.out⟩
          · replace hcut : a < 1152921504606846976 := by omega
            have ho6 : a * 16 + ((c.toNat : Int) - 48) ≤ 18446744073709551615 := by omega
            by_cases hov : (M : Int) < a * 16 + ((c.toNat : Int) - 48)
            · have HF := Lib.hid (hdec.trans (show puScan 16 M acc us (c :: bs.drop (k + 1)) = .range by rw [puScan, if_neg hund, if_neg hn, if_pos (by rw [hD]; omega)]))
              clear hdec hacc ha hD hund hcls hB hn hM
              go_wp2
              go_ret2
              exact ⟨by rw [HF.out]; rfl, HB0.out⟩
            · replace hov : a * 16 + ((c.toNat : Int) - 48) ≤ M := by omega
              have hst : puScan 16 M acc us (c :: bs.drop (k + 1)) = puScan 16 M (acc * 16 + (dig0 c.toNat).toNat) us (bs.drop (k + 1)) := by rw [puScan, if_neg hund, if_neg hn, if_neg (by rw [hD]; omega)]
              have HN : Hid (a * 16 + ((c.toNat : Int) - 48) = ((acc * 16 + (dig0 c.toNat).toNat : Nat) : Int) ∧ acc * 16 + (dig0 c.toNat).toNat ≤ M ∧ puScan 16 M 0 false bs = puScan 16 M (acc * 16 + (dig0 c.toNat).toNat) us (bs.drop (k + 1))) := Lib.hid ⟨by rw [hD]; omega, by rw [hD]; omega, hdec.trans hst⟩
              clear hdec hacc ha hD hund hcls hB hn hst hM
              go_wp2
              go_round
              case rel => first | exact ⟨k + 1, acc * 16 + (dig0 c.toNat).toNat, us, a * 16 + ((c.toNat : Int) - 48), rfl, (by first | rfl | (congr 1; omega)), (by first | rfl | (congr 1; omega)), by omega, HN⟩ | (refine ⟨_, _, _, _, _, _, _, _, ?_, rfl, rfl, rfl, rfl, rfl, rfl, rfl, rfl⟩; exact ⟨k + 1, acc * 16 + (dig0 c.toNat).toNat, us, a * 16 + ((c.toNat : Int) - 48), rfl, (by first | rfl | (congr 1; omega)), (by first | rfl | (congr 1; omega)), by omega, HN⟩)
              case measure => simp [intOf]; omega
        · rcases hcls hdig with ⟨l0, l1, l2, hD⟩ | ⟨hl, hD⟩
          · have e1 : (48 : Int) ≤ (c.toNat : Int) := by omega
            have e2 : ¬ (c.toNat : Int) ≤ 57 := by omega
            by_cases hbig : (16 : Int) ≤ bits BinOp.or IntKind.u8 (c.toNat : Int) 32 - 97 + 10
            · have HF := Lib.hid (hdec.trans (show puScan 16 M acc us (c :: bs.drop (k + 1)) = Go.Lib.NumEnd.syntax by rw [puScan, if_neg hund, if_pos (.inr (by rw [hD]; exact hbig))]))
              clear hdec hacc ha hD hund hcls hB hM
              go_wp2
              go_ret2
              exact ⟨by rw [HF.out]; rfl, HB0.out⟩
            · replace hbig : bits BinOp.or IntKind.u8 (c.toNat : Int) 32 - 97 + 10 < 16 := by omega
              have hn : ¬ (dig0 c.toNat = -1 ∨ ((16 : Nat) : Int) ≤ dig0 c.toNat) := by rw [hD]; omega
              by_cases hcut : 1152921504606846976 ≤ a
              · have HF := Lib.hid (hdec.trans (show puScan 16 M acc us (c :: bs.drop (k + 1)) = .range by rw [puScan, if_neg hund, if_neg hn, if_pos (by rw [hD]; omega)]))
                clear hdec hacc ha hD hund hcls hB hn hM
                go_wp2
                go_ret2
                exact ⟨by rw [HF.out]; rfl, HB0.out⟩
              · replace hcut : a < 1152921504606846976 := by omega
                have ho6 : a * 16 + (bits BinOp.or IntKind.u8 (c.toNat : Int) 32 - 97 + 10) ≤ 18446744073709551615 := by omega
                by_cases hov : (M : Int) < a * 16 + (bits BinOp.or IntKind.u8 (c.toNat : Int) 32 - 97 + 10)
                · have HF := Lib.hid (hdec.trans (show puScan 16 M acc us (c :: bs.drop (k + 1)) = .range by rw [puScan, if_neg hund, if_neg hn, if_pos (by rw [hD]; omega)]))
                  clear hdec hacc ha hD hund hcls hB hn hM
                  go_wp2
                  go_ret2
                  exact ⟨by rw [HF.out]; rfl, HB0.out⟩
                · replace hov : a * 16 + (bits BinOp.or IntKind.u8 (c.toNat : Int) 32 - 97 + 10) ≤ M := by omega
                  have hst : puScan 16 M acc us (c :: bs.drop (k + 1)) = puScan 16 M (acc * 16 + (dig0 c.toNat).toNat) us (bs.drop (k + 1)) := by rw [puScan, if_neg hund, if_neg hn, if_neg (by rw [hD]; omega)]
                  have HN : Hid (a * 16 + (bits BinOp.or IntKind.u8 (c.toNat : Int) 32 - 97 + 10) = ((acc * 16 + (dig0 c.toNat).toNat : Nat) : Int) ∧ acc * 16 + (dig0 c.toNat).toNat ≤ M ∧ puScan 16 M 0 false bs = puScan 16 M (acc * 16 + (dig0 c.toNat).toNat) us (bs.drop (k + 1))) := Lib.hid ⟨by rw [hD]; omega, by rw [hD]; omega, hdec.trans hst⟩
                  clear hdec hacc ha hD hund hcls hB hn hst hM
                  go_wp2
                  go_round
                  case rel => first | exact ⟨k + 1, acc * 16 + (dig0 c.toNat).toNat, us, a * 16 + (bits BinOp.or IntKind.u8 (c.toNat : Int) 32 - 97 + 10), rfl, (by first | rfl | (congr 1; omega)), (by first | rfl | (congr 1; omega)), by omega, HN⟩ | (refine ⟨_, _, _, _, _, _, _, _, ?_, rfl, rfl, rfl, rfl, rfl, rfl, rfl, rfl⟩; exact ⟨k + 1, acc * 16 + (dig0 c.toNat).toNat, us, a * 16 + (bits BinOp.or IntKind.u8 (c.toNat : Int) 32 - 97 + 10), rfl, (by first | rfl | (congr 1; omega)), (by first | rfl | (congr 1; omega)), by omega, HN⟩)
                  case measure => simp [intOf]; omega
          · have HF := Lib.hid (hdec.trans (show puScan 16 M acc us (c :: bs.drop (k + 1)) = Go.Lib.NumEnd.syntax by rw [puScan, if_neg hund, if_pos (.inl hD)]))
            clear hdec hacc ha hD hund hcls hB hM
            rcases hl with ⟨e1, l1⟩ | ⟨e1, l1⟩ | ⟨e1, l1, l2⟩
            · replace e1 : ¬ (48 : Int) ≤ (c.toNat : Int) := by omega
              have l2 : ¬ (97 : Int) ≤ bits BinOp.or IntKind.u8 (c.toNat : Int) 32 := by omega
              go_wp2
              go_ret2
              exact ⟨by rw [HF.out]; rfl, HB0.out⟩
            · have e2 : ¬ (c.toNat : Int) ≤ 57 := by omega
              replace e1 : (48 : Int) ≤ (c.toNat : Int) := by omega
              have l2 : ¬ (97 : Int) ≤ bits BinOp.or IntKind.u8 (c.toNat : Int) 32 := by omega
              go_wp2
              go_ret2
              exact ⟨by rw [HF.out]; rfl, HB0.out⟩
            · have e2 : ¬ (c.toNat : Int) ≤ 57 := by omega
              replace e1 : (48 : Int) ≤ (c.toNat : Int) := by omega
              have l3 : ¬ bits BinOp.or IntKind.u8 (c.toNat : Int) 32 ≤ 122 := by omega
              go_wp2
              go_ret2
              exact ⟨by rw [HF.out]; rfl, HB0.out⟩
    · have hkk : k = u.size := by omega
      subst hkk
      have HF := Lib.hid (hdec.trans (show puScan 16 M acc us (bs.drop u.size) = .ok (acc, us) by rw [List.drop_eq_nil_of_le (by omega), puScan]))
      subst ha
      clear hdec hacc a0 a1 hB hM
      cases us with
      | false =>
        go_wp2
        go_ret2
        exact ⟨by rw [HF.out]; rfl, HB0.out⟩
      | true =>
        cases ok
        all_goals
          go_wp2_with (go_at_call 123; refine (HU.out _).mono ?_; rintro e w' ⟨rfl, rfl⟩)
          go_ret2
          exact ⟨by rw [HF.out]; rfl, HB0.out⟩

set_option maxHeartbeats 8000000 in
set_option maxRecDepth 100000 in
theorem pz_o (M : Nat) (hM : M ≤ 18446744073709551615) (hmv : IntKind.u64.wrap (IntKind.u64.wrap 18446744073709551616 - 1) = (M : Int)) (t : ByteArray) (hne : 0 < t.size) (hmax : t.size ≤ 9223372036854775806) (h0 : t[0].toNat = 48) (h3 : 3 ≤ t.size) (h1 : lowB (t[1]'(by omega)).toNat = 111) (w : World)
    (ok : Bool) (HU : ∀ W, Calls Tryd.prog 123 #[.string t] W fun e w' => e = .returned (.bool ok) ∧ W = w') :
    Calls Tryd.prog 112 #[.string t, .int .i64 0, .int .i64 0] w fun e w' => e = .returned (puTup 162 M ok (puScan 8 M 0 false ((t.extract 2 t.size).data.toList))) ∧ Below w.heap.size w w' := by
  have hemp : t.toList.isEmpty = false := by
    rw [← decide_eq_emptyBytes]
    exact decide_eq_false (fun h => by rw [h] at hne; exact absurd hne (by decide))
  have HU := Lib.hid HU
  have b0 : ((t[0].toNat : Int) == 48) = true := by rw [h0]; rfl
  have s3 : (3 : Int) ≤ (t.size : Int) := by omega
  have n1 : 1 < t.size := by omega
  have q98 : (bits BinOp.or IntKind.u8 ((t[1]'(by omega)).toNat : Int) 32 == 98) = false := by rw [show bits BinOp.or IntKind.u8 ((t[1]'(by omega)).toNat : Int) 32 = 111 from h1]; rfl
  have q111 : (bits BinOp.or IntKind.u8 ((t[1]'(by omega)).toNat : Int) 32 == 111) = true := by rw [show bits BinOp.or IntKind.u8 ((t[1]'(by omega)).toNat : Int) 32 = 111 from h1]; rfl
  have q120 : (bits BinOp.or IntKind.u8 ((t[1]'(by omega)).toNat : Int) 32 == 120) = false := by rw [show bits BinOp.or IntKind.u8 ((t[1]'(by omega)).toNat : Int) 32 = 111 from h1]; rfl
  obtain ⟨u, hu⟩ : ∃ u, u = t.extract 2 t.size := ⟨_, rfl⟩
  have hus : u.size ≤ t.size := by rw [hu]; simp only [ByteArray.size_extract]; omega
  have HB0 := Lib.hid (bytes_below w 5 u)
  have hcv := Lib.run_convert_string_bytes (P := Tryd.prog) w 9 132 5 u (u := .string) Tryd.underlying9 Tryd.underlying132 Tryd.underlying5
  have hB : ∀ j, j < u.size → (Lib.bytesWorld w 5 u).cell? ⟨w.heap.size, j, none⟩ = some (.int .u8 (u.data.toList.getD j 0).toNat) := fun j hj => Lib.bytesWorld_cell w 5 u j hj
  obtain ⟨W1, hW1⟩ : ∃ W1, W1 = Lib.bytesWorld w 5 u := ⟨_, rfl⟩
  rw [← hW1] at hcv hB HB0
  replace hcv : (convert 9 132 (.string (t.extract 2 t.size))).run Tryd.prog w = .ok (.slice (some ⟨w.heap.size, 0, none⟩) u.size (grownCap w u.size 0 5)) W1 := by rw [← hu]; exact hcv
  clear hW1
  obtain ⟨bs, hL⟩ : ∃ bs, bs = u.data.toList := ⟨_, rfl⟩
  have hLn : bs.length = u.size := by rw [hL, Lib.size_eq]

  rw [← hu, ← hL]
  rw [← hL] at hB
  clear hL
  have hsl : (Instr.slice 9 (.string t) (some (.int .i64 2)) none none).run Tryd.prog w = .ok (.string (t.extract 2 t.size)) w := by rw [run_slice_string_l (P := Tryd.prog) w 9 t Tryd.underlying9 .i64 2 (by omega) (by omega)]; rfl
  have s1 : (1 : Int) ≤ (t.size : Int) := by omega
  clear hu
  go_enter Tryd.func112, Tryd.ntmps112
  go_wp2
  have HM := Lib.hid hM
  clear hM
  go_loop [12, 13, 101] (fun vu vn vi => PuRel 8 M u.size bs vu vn vi) (fun _ _ vi => u.size - (intOf vi).toNat)
  case atStart => exact ⟨0, 0, false, 0, rfl, rfl, rfl, by omega, rfl, by omega, rfl⟩
  case round =>
    obtain ⟨k, acc, us, a, rfl, rfl, rfl, hk, hh⟩ := hrel
    obtain ⟨ha, hacc, hdec⟩ := hh.out
    clear hh
    have a0 : 0 ≤ a := by omega
    have hM := HM.out
    have a1 : a ≤ M := by omega
    by_cases hkn : k < u.size
    · have hc := hB k hkn
      have hdrop : bs.drop k = bs[k]'(by omega) :: bs.drop (k + 1) := List.drop_eq_getElem_cons (by omega)
      have hget : bs.getD k 0 = bs[k]'(by omega) := by simp [List.getD, List.getElem?_eq_getElem (show k < bs.length by omega)]
      rw [hdrop] at hdec
      rw [hget] at hc
      generalize bs[k]'(by omega) = c at hc hdec
      have hc256 : c.toNat < 256 := c.toNat_lt
      clear hdrop hget
      obtain ⟨lo0, hi0, hcls⟩ := lowB_facts ⟨c.toNat, hc256⟩
      unfold lowB at lo0 hi0 hcls
      simp only at lo0 hi0 hcls
      by_cases hund : c.toNat = 95
      · have bu : ((c.toNat : Int) == 95) = true := by rw [hund]; rfl
        have HN : Hid (a = (acc : Int) ∧ acc ≤ M ∧ puScan 8 M 0 false bs = puScan 8 M acc true (bs.drop (k + 1))) := Lib.hid ⟨ha, hacc, hdec.trans (by rw [puScan, if_pos hund])⟩
        clear hdec hacc ha hund hcls hB hM
        go_wp2
        go_round
        case rel => first | exact ⟨k + 1, acc, true, a, rfl, rfl, (by first | rfl | (congr 1; omega)), by omega, HN⟩ | (refine ⟨_, _, _, _, _, _, _, _, ?_, rfl, rfl, rfl, rfl, rfl, rfl, rfl, rfl⟩; exact ⟨k + 1, acc, true, a, rfl, rfl, (by first | rfl | (congr 1; omega)), by omega, HN⟩)
        case measure => simp [intOf]; omega
      · have bu : ((c.toNat : Int) == 95) = false := beq_false_of_ne (by omega)
        by_cases hdig : 48 ≤ c.toNat ∧ c.toNat ≤ 57
        · have hD := dig0_num hdig
          have e1 : (48 : Int) ≤ (c.toNat : Int) := by omega
          have e2 : (c.toNat : Int) ≤ 57 := by omega
          by_cases hbig : (8 : Int) ≤ (c.toNat : Int) - 48
          · have HF := Lib.hid (hdec.trans (show puScan 8 M acc us (c :: bs.drop (k + 1)) = Go.Lib.NumEnd.syntax by rw [puScan, if_neg hund, if_pos (.inr (by rw [hD]; exact hbig))]))
            clear hdec hacc ha hD hund hcls hB hM
            go_wp2
            go_ret2
            exact ⟨by rw [HF.out]; rfl, HB0.out⟩
          · replace hbig : (c.toNat : Int) - 48 < 8 := by omega
            have hn : ¬ (dig0 c.toNat = -1 ∨ ((8 : Nat) : Int) ≤ dig0 c.toNat) := by rw [hD]; omega
            by_cases hcut : 2305843009213693952 ≤ a
            · have HF := Lib.hid (hdec.trans (show puScan 8 M acc us (c :: bs.drop (k + 1)) = .range by rw [puScan, if_neg hund, if_neg hn, if_pos (by rw [hD]; omega)]))
              clear hdec hacc ha hD hund hcls hB hn hM
              go_wp2
              go_ret2
              exact ⟨by rw [HF.out]; rfl, HB0.out⟩
            · replace hcut : a < 2305843009213693952 := by omega
              have ho6 : a * 8 + ((c.toNat : Int) - 48) ≤ 18446744073709551615 := by omega
              by_cases hov : (M : Int) < a * 8 + ((c.toNat : Int) - 48)
              · have HF := Lib.hid (hdec.trans (show puScan 8 M acc us (c :: bs.drop (k + 1)) = .range by rw [puScan, if_neg hund, if_neg hn, if_pos (by rw [hD]; omega)]))
                clear hdec hacc ha hD hund hcls hB hn hM
                go_wp2
                go_ret2
                exact ⟨by rw [HF.out]; rfl, HB0.out⟩
              · replace hov : a * 8 + ((c.toNat : Int) - 48) ≤ M := by omega
                have hst : puScan 8 M acc us (c :: bs.drop (k + 1)) = puScan 8 M (acc * 8 + (dig0 c.toNat).toNat) us (bs.drop (k + 1)) := by rw [puScan, if_neg hund, if_neg hn, if_neg (by rw [hD]; omega)]
                have HN : Hid (a * 8 + ((c.toNat : Int) - 48) = ((acc * 8 + (dig0 c.toNat).toNat : Nat) : Int) ∧ acc * 8 + (dig0 c.toNat).toNat ≤ M ∧ puScan 8 M 0 false bs = puScan 8 M (acc * 8 + (dig0 c.toNat).toNat) us (bs.drop (k + 1))) := Lib.hid ⟨by rw [hD]; omega, by rw [hD]; omega, hdec.trans hst⟩
                clear hdec hacc ha hD hund hcls hB hn hst hM
                go_wp2
                go_round
                case rel => first | exact ⟨k + 1, acc * 8 + (dig0 c.toNat).toNat, us, a * 8 + ((c.toNat : Int) - 48), rfl, (by first | rfl | (congr 1; omega)), (by first | rfl | (congr 1; omega)), by omega, HN⟩ | (refine ⟨_, _, _, _, _, _, _, _, ?_, rfl, rfl, rfl, rfl, rfl, rfl, rfl, rfl⟩; exact ⟨k + 1, acc * 8 + (dig0 c.toNat).toNat, us, a * 8 + ((c.toNat : Int) - 48), rfl, (by first | rfl | (congr 1; omega)), (by first | rfl | (congr 1; omega)), by omega, HN⟩)
                case measure => simp [intOf]; omega
        · rcases hcls hdig with ⟨l0, l1, l2, hD⟩ | ⟨hl, hD⟩
          · have e1 : (48 : Int) ≤ (c.toNat : Int) := by omega
            have e2 : ¬ (c.toNat : Int) ≤ 57 := by omega
            have hbig : (8 : Int) ≤ bits BinOp.or IntKind.u8 (c.toNat : Int) 32 - 97 + 10 := by omega
            have HF := Lib.hid (hdec.trans (show puScan 8 M acc us (c :: bs.drop (k + 1)) = Go.Lib.NumEnd.syntax by rw [puScan, if_neg hund, if_pos (.inr (by rw [hD]; exact hbig))]))
            clear hdec hacc ha hD hund hcls hB hM
            go_wp2
            go_ret2
            exact ⟨by rw [HF.out]; rfl, HB0.out⟩
          · have HF := Lib.hid (hdec.trans (show puScan 8 M acc us (c :: bs.drop (k + 1)) = Go.Lib.NumEnd.syntax by rw [puScan, if_neg hund, if_pos (.inl hD)]))
            clear hdec hacc ha hD hund hcls hB hM
            rcases hl with ⟨e1, l1⟩ | ⟨e1, l1⟩ | ⟨e1, l1, l2⟩
            · replace e1 : ¬ (48 : Int) ≤ (c.toNat : Int) := by omega
              have l2 : ¬ (97 : Int) ≤ bits BinOp.or IntKind.u8 (c.toNat : Int) 32 := by omega
              go_wp2
              go_ret2
              exact ⟨by rw [HF.out]; rfl, HB0.out⟩
            · have e2 : ¬ (c.toNat : Int) ≤ 57 := by omega
              replace e1 : (48 : Int) ≤ (c.toNat : Int) := by omega
              have l2 : ¬ (97 : Int) ≤ bits BinOp.or IntKind.u8 (c.toNat : Int) 32 := by omega
              go_wp2
              go_ret2
              exact ⟨by rw [HF.out]; rfl, HB0.out⟩
            · have e2 : ¬ (c.toNat : Int) ≤ 57 := by omega
              replace e1 : (48 : Int) ≤ (c.toNat : Int) := by omega
              have l3 : ¬ bits BinOp.or IntKind.u8 (c.toNat : Int) 32 ≤ 122 := by omega
              go_wp2
              go_ret2
              exact ⟨by rw [HF.out]; rfl, HB0.out⟩
    · have hkk : k = u.size := by omega
      subst hkk
      have HF := Lib.hid (hdec.trans (show puScan 8 M acc us (bs.drop u.size) = .ok (acc, us) by rw [List.drop_eq_nil_of_le (by omega), puScan]))
      subst ha
      clear hdec hacc a0 a1 hB hM
      cases us with
      | false =>
        go_wp2
        go_ret2
        exact ⟨by rw [HF.out]; rfl, HB0.out⟩
      | true =>
        cases ok
        all_goals
          go_wp2_with (go_at_call 123; refine (HU.out _).mono ?_; rintro e w' ⟨rfl, rfl⟩)
          go_ret2
          exact ⟨by rw [HF.out]; rfl, HB0.out⟩

set_option maxHeartbeats 8000000 in
set_option maxRecDepth 100000 in
theorem pz_b (M : Nat) (hM : M ≤ 18446744073709551615) (hmv : IntKind.u64.wrap (IntKind.u64.wrap 18446744073709551616 - 1) = (M : Int)) (t : ByteArray) (hne : 0 < t.size) (hmax : t.size ≤ 9223372036854775806) (h0 : t[0].toNat = 48) (h3 : 3 ≤ t.size) (h1 : lowB (t[1]'(by omega)).toNat = 98) (w : World)
    (ok : Bool) (HU : ∀ W, Calls Tryd.prog 123 #[.string t] W fun e w' => e = .returned (.bool ok) ∧ W = w') :
    Calls Tryd.prog 112 #[.string t, .int .i64 0, .int .i64 0] w fun e w' => e = .returned (puTup 162 M ok (puScan 2 M 0 false ((t.extract 2 t.size).data.toList))) ∧ Below w.heap.size w w' := by
  have hemp : t.toList.isEmpty = false := by
    rw [← decide_eq_emptyBytes]
    exact decide_eq_false (fun h => by rw [h] at hne; exact absurd hne (by decide))
  have HU := Lib.hid HU
  have b0 : ((t[0].toNat : Int) == 48) = true := by rw [h0]; rfl
  have s3 : (3 : Int) ≤ (t.size : Int) := by omega
  have n1 : 1 < t.size := by omega
  have q98 : (bits BinOp.or IntKind.u8 ((t[1]'(by omega)).toNat : Int) 32 == 98) = true := by rw [show bits BinOp.or IntKind.u8 ((t[1]'(by omega)).toNat : Int) 32 = 98 from h1]; rfl
  have q111 : (bits BinOp.or IntKind.u8 ((t[1]'(by omega)).toNat : Int) 32 == 111) = false := by rw [show bits BinOp.or IntKind.u8 ((t[1]'(by omega)).toNat : Int) 32 = 98 from h1]; rfl
  have q120 : (bits BinOp.or IntKind.u8 ((t[1]'(by omega)).toNat : Int) 32 == 120) = false := by rw [show bits BinOp.or IntKind.u8 ((t[1]'(by omega)).toNat : Int) 32 = 98 from h1]; rfl
  obtain ⟨u, hu⟩ : ∃ u, u = t.extract 2 t.size := ⟨_, rfl⟩
  have hus : u.size ≤ t.size := by rw [hu]; simp only [ByteArray.size_extract]; omega
  have HB0 := Lib.hid (bytes_below w 5 u)
  have hcv := Lib.run_convert_string_bytes (P := Tryd.prog) w 9 132 5 u (u := .string) Tryd.underlying9 Tryd.underlying132 Tryd.underlying5
  have hB : ∀ j, j < u.size → (Lib.bytesWorld w 5 u).cell? ⟨w.heap.size, j, none⟩ = some (.int .u8 (u.data.toList.getD j 0).toNat) := fun j hj => Lib.bytesWorld_cell w 5 u j hj
  obtain ⟨W1, hW1⟩ : ∃ W1, W1 = Lib.bytesWorld w 5 u := ⟨_, rfl⟩
  rw [← hW1] at hcv hB HB0
  replace hcv : (convert 9 132 (.string (t.extract 2 t.size))).run Tryd.prog w = .ok (.slice (some ⟨w.heap.size, 0, none⟩) u.size (grownCap w u.size 0 5)) W1 := by rw [← hu]; exact hcv
  clear hW1
  obtain ⟨bs, hL⟩ : ∃ bs, bs = u.data.toList := ⟨_, rfl⟩
  have hLn : bs.length = u.size := by rw [hL, Lib.size_eq]

  rw [← hu, ← hL]
  rw [← hL] at hB
  clear hL
  have hsl : (Instr.slice 9 (.string t) (some (.int .i64 2)) none none).run Tryd.prog w = .ok (.string (t.extract 2 t.size)) w := by rw [run_slice_string_l (P := Tryd.prog) w 9 t Tryd.underlying9 .i64 2 (by omega) (by omega)]; rfl
  have s1 : (1 : Int) ≤ (t.size : Int) := by omega
  clear hu
  go_enter Tryd.func112, Tryd.ntmps112
  go_wp2
  have HM := Lib.hid hM
  clear hM
  go_loop [12, 13, 101] (fun vu vn vi => PuRel 2 M u.size bs vu vn vi) (fun _ _ vi => u.size - (intOf vi).toNat)
  case atStart => exact ⟨0, 0, false, 0, rfl, rfl, rfl, by omega, rfl, by omega, rfl⟩
  case round =>
    obtain ⟨k, acc, us, a, rfl, rfl, rfl, hk, hh⟩ := hrel
    obtain ⟨ha, hacc, hdec⟩ := hh.out
    clear hh
    have a0 : 0 ≤ a := by omega
    have hM := HM.out
    have a1 : a ≤ M := by omega
    by_cases hkn : k < u.size
    · have hc := hB k hkn
      have hdrop : bs.drop k = bs[k]'(by omega) :: bs.drop (k + 1) := List.drop_eq_getElem_cons (by omega)
      have hget : bs.getD k 0 = bs[k]'(by omega) := by simp [List.getD, List.getElem?_eq_getElem (show k < bs.length by omega)]
      rw [hdrop] at hdec
      rw [hget] at hc
      generalize bs[k]'(by omega) = c at hc hdec
      have hc256 : c.toNat < 256 := c.toNat_lt
      clear hdrop hget
      obtain ⟨lo0, hi0, hcls⟩ := lowB_facts ⟨c.toNat, hc256⟩
      unfold lowB at lo0 hi0 hcls
      simp only at lo0 hi0 hcls
      by_cases hund : c.toNat = 95
      · have bu : ((c.toNat : Int) == 95) = true := by rw [hund]; rfl
        have HN : Hid (a = (acc : Int) ∧ acc ≤ M ∧ puScan 2 M 0 false bs = puScan 2 M acc true (bs.drop (k + 1))) := Lib.hid ⟨ha, hacc, hdec.trans (by rw [puScan, if_pos hund])⟩
        clear hdec hacc ha hund hcls hB hM
        go_wp2
        go_round
        case rel => first | exact ⟨k + 1, acc, true, a, rfl, rfl, (by first | rfl | (congr 1; omega)), by omega, HN⟩ | (refine ⟨_, _, _, _, _, _, _, _, ?_, rfl, rfl, rfl, rfl, rfl, rfl, rfl, rfl⟩; exact ⟨k + 1, acc, true, a, rfl, rfl, (by first | rfl | (congr 1; omega)), by omega, HN⟩)
        case measure => simp [intOf]; omega
      · have bu : ((c.toNat : Int) == 95) = false := beq_false_of_ne (by omega)
        by_cases hdig : 48 ≤ c.toNat ∧ c.toNat ≤ 57
        · have hD := dig0_num hdig
          have e1 : (48 : Int) ≤ (c.toNat : Int) := by omega
          have e2 : (c.toNat : Int) ≤ 57 := by omega
          by_cases hbig : (2 : Int) ≤ (c.toNat : Int) - 48
          · have HF := Lib.hid (hdec.trans (show puScan 2 M acc us (c :: bs.drop (k + 1)) = Go.Lib.NumEnd.syntax by rw [puScan, if_neg hund, if_pos (.inr (by rw [hD]; exact hbig))]))
            clear hdec hacc ha hD hund hcls hB hM
            go_wp2
            go_ret2
            exact ⟨by rw [HF.out]; rfl, HB0.out⟩
          · replace hbig : (c.toNat : Int) - 48 < 2 := by omega
            have hn : ¬ (dig0 c.toNat = -1 ∨ ((2 : Nat) : Int) ≤ dig0 c.toNat) := by rw [hD]; omega
            by_cases hcut : 9223372036854775808 ≤ a
            · have HF := Lib.hid (hdec.trans (show puScan 2 M acc us (c :: bs.drop (k + 1)) = .range by rw [puScan, if_neg hund, if_neg hn, if_pos (by rw [hD]; omega)]))
              clear hdec hacc ha hD hund hcls hB hn hM
              go_wp2
              go_ret2
              exact ⟨by rw [HF.out]; rfl, HB0.out⟩
            · replace hcut : a < 9223372036854775808 := by omega
              have ho6 : a * 2 + ((c.toNat : Int) - 48) ≤ 18446744073709551615 := by omega
              by_cases hov : (M : Int) < a * 2 + ((c.toNat : Int) - 48)
              · have HF := Lib.hid (hdec.trans (show puScan 2 M acc us (c :: bs.drop (k + 1)) = .range by rw [puScan, if_neg hund, if_neg hn, if_pos (by rw [hD]; omega)]))
                clear hdec hacc ha hD hund hcls hB hn hM
                go_wp2
                go_ret2
                exact ⟨by rw [HF.out]; rfl, HB0.out⟩
              · replace hov : a * 2 + ((c.toNat : Int) - 48) ≤ M := by omega
                have hst : puScan 2 M acc us (c :: bs.drop (k + 1)) = puScan 2 M (acc * 2 + (dig0 c.toNat).toNat) us (bs.drop (k + 1)) := by rw [puScan, if_neg hund, if_neg hn, if_neg (by rw [hD]; omega)]
                have HN : Hid (a * 2 + ((c.toNat : Int) - 48) = ((acc * 2 + (dig0 c.toNat).toNat : Nat) : Int) ∧ acc * 2 + (dig0 c.toNat).toNat ≤ M ∧ puScan 2 M 0 false bs = puScan 2 M (acc * 2 + (dig0 c.toNat).toNat) us (bs.drop (k + 1))) := Lib.hid ⟨by rw [hD]; omega, by rw [hD]; omega, hdec.trans hst⟩
                clear hdec hacc ha hD hund hcls hB hn hst hM
                go_wp2
                go_round
                case rel => first | exact ⟨k + 1, acc * 2 + (dig0 c.toNat).toNat, us, a * 2 + ((c.toNat : Int) - 48), rfl, (by first | rfl | (congr 1; omega)), (by first | rfl | (congr 1; omega)), by omega, HN⟩ | (refine ⟨_, _, _, _, _, _, _, _, ?_, rfl, rfl, rfl, rfl, rfl, rfl, rfl, rfl⟩; exact ⟨k + 1, acc * 2 + (dig0 c.toNat).toNat, us, a * 2 + ((c.toNat : Int) - 48), rfl, (by first | rfl | (congr 1; omega)), (by first | rfl | (congr 1; omega)), by omega, HN⟩)
                case measure => simp [intOf]; omega
        · rcases hcls hdig with ⟨l0, l1, l2, hD⟩ | ⟨hl, hD⟩
          · have e1 : (48 : Int) ≤ (c.toNat : Int) := by omega
            have e2 : ¬ (c.toNat : Int) ≤ 57 := by omega
            have hbig : (2 : Int) ≤ bits BinOp.or IntKind.u8 (c.toNat : Int) 32 - 97 + 10 := by omega
            have HF := Lib.hid (hdec.trans (show puScan 2 M acc us (c :: bs.drop (k + 1)) = Go.Lib.NumEnd.syntax by rw [puScan, if_neg hund, if_pos (.inr (by rw [hD]; exact hbig))]))
            clear hdec hacc ha hD hund hcls hB hM
            go_wp2
            go_ret2
            exact ⟨by rw [HF.out]; rfl, HB0.out⟩
          · have HF := Lib.hid (hdec.trans (show puScan 2 M acc us (c :: bs.drop (k + 1)) = Go.Lib.NumEnd.syntax by rw [puScan, if_neg hund, if_pos (.inl hD)]))
            clear hdec hacc ha hD hund hcls hB hM
            rcases hl with ⟨e1, l1⟩ | ⟨e1, l1⟩ | ⟨e1, l1, l2⟩
            · replace e1 : ¬ (48 : Int) ≤ (c.toNat : Int) := by omega
              have l2 : ¬ (97 : Int) ≤ bits BinOp.or IntKind.u8 (c.toNat : Int) 32 := by omega
              go_wp2
              go_ret2
              exact ⟨by rw [HF.out]; rfl, HB0.out⟩
            · have e2 : ¬ (c.toNat : Int) ≤ 57 := by omega
              replace e1 : (48 : Int) ≤ (c.toNat : Int) := by omega
              have l2 : ¬ (97 : Int) ≤ bits BinOp.or IntKind.u8 (c.toNat : Int) 32 := by omega
              go_wp2
              go_ret2
              exact ⟨by rw [HF.out]; rfl, HB0.out⟩
            · have e2 : ¬ (c.toNat : Int) ≤ 57 := by omega
              replace e1 : (48 : Int) ≤ (c.toNat : Int) := by omega
              have l3 : ¬ bits BinOp.or IntKind.u8 (c.toNat : Int) 32 ≤ 122 := by omega
              go_wp2
              go_ret2
              exact ⟨by rw [HF.out]; rfl, HB0.out⟩
    · have hkk : k = u.size := by omega
      subst hkk
      have HF := Lib.hid (hdec.trans (show puScan 2 M acc us (bs.drop u.size) = .ok (acc, us) by rw [List.drop_eq_nil_of_le (by omega), puScan]))
      subst ha
      clear hdec hacc a0 a1 hB hM
      cases us with
      | false =>
        go_wp2
        go_ret2
        exact ⟨by rw [HF.out]; rfl, HB0.out⟩
      | true =>
        cases ok
        all_goals
          go_wp2_with (go_at_call 123; refine (HU.out _).mono ?_; rintro e w' ⟨rfl, rfl⟩)
          go_ret2
          exact ⟨by rw [HF.out]; rfl, HB0.out⟩

end Go.Proofs.YtdmpeecocfoocaaDoor.E

namespace Go.Proofs.YtdmpeecocfoocaaDoor.E
open Go.RowKit Go.Proofs
set_option linter.unusedVariables false
set_option linter.unusedSimpArgs false

set_option maxHeartbeats 8000000 in
set_option maxRecDepth 100000 in
theorem pz_z (M : Nat) (hM : M ≤ 18446744073709551615) (hmv : IntKind.u64.wrap (IntKind.u64.wrap 18446744073709551616 - 1) = (M : Int)) (t : ByteArray) (hne : 0 < t.size) (hmax : t.size ≤ 9223372036854775806) (h0 : t[0].toNat = 48) (h3 : 3 ≤ t.size) (h1 : ¬ lowB (t[1]'(by omega)).toNat = 98 ∧ ¬ lowB (t[1]'(by omega)).toNat = 111 ∧ ¬ lowB (t[1]'(by omega)).toNat = 120) (w : World)
    (ok : Bool) (HU : ∀ W, Calls Tryd.prog 123 #[.string t] W fun e w' => e = .returned (.bool ok) ∧ W = w') :
    Calls Tryd.prog 112 #[.string t, .int .i64 0, .int .i64 0] w fun e w' => e = .returned (puTup 162 M ok (puScan 8 M 0 false ((t.extract 1 t.size).data.toList))) ∧ Below w.heap.size w w' := by
  have hemp : t.toList.isEmpty = false := by
    rw [← decide_eq_emptyBytes]
    exact decide_eq_false (fun h => by rw [h] at hne; exact absurd hne (by decide))
  have HU := Lib.hid HU
  have b0 : ((t[0].toNat : Int) == 48) = true := by rw [h0]; rfl
  have s3 : (3 : Int) ≤ (t.size : Int) := by omega
  have n1 : 1 < t.size := by omega
  have q98 : (bits BinOp.or IntKind.u8 ((t[1]'(by omega)).toNat : Int) 32 == 98) = false := beq_false_of_ne h1.1
  have q111 : (bits BinOp.or IntKind.u8 ((t[1]'(by omega)).toNat : Int) 32 == 111) = false := beq_false_of_ne h1.2.1
  have q120 : (bits BinOp.or IntKind.u8 ((t[1]'(by omega)).toNat : Int) 32 == 120) = false := beq_false_of_ne h1.2.2
  obtain ⟨u, hu⟩ : ∃ u, u = t.extract 1 t.size := ⟨_, rfl⟩
  have hus : u.size ≤ t.size := by rw [hu]; simp only [ByteArray.size_extract]; omega
  have HB0 := Lib.hid (bytes_below w 5 u)
  have hcv := Lib.run_convert_string_bytes (P := Tryd.prog) w 9 132 5 u (u := .string) Tryd.underlying9 Tryd.underlying132 Tryd.underlying5
  have hB : ∀ j, j < u.size → (Lib.bytesWorld w 5 u).cell? ⟨w.heap.size, j, none⟩ = some (.int .u8 (u.data.toList.getD j 0).toNat) := fun j hj => Lib.bytesWorld_cell w 5 u j hj
  obtain ⟨W1, hW1⟩ : ∃ W1, W1 = Lib.bytesWorld w 5 u := ⟨_, rfl⟩
  rw [← hW1] at hcv hB HB0
  replace hcv : (convert 9 132 (.string (t.extract 1 t.size))).run Tryd.prog w = .ok (.slice (some ⟨w.heap.size, 0, none⟩) u.size (grownCap w u.size 0 5)) W1 := by rw [← hu]; exact hcv
  clear hW1
  obtain ⟨bs, hL⟩ : ∃ bs, bs = u.data.toList := ⟨_, rfl⟩
  have hLn : bs.length = u.size := by rw [hL, Lib.size_eq]

  rw [← hu, ← hL]
  rw [← hL] at hB
  clear hL
  have hsl : (Instr.slice 9 (.string t) (some (.int .i64 1)) none none).run Tryd.prog w = .ok (.string (t.extract 1 t.size)) w := by rw [run_slice_string_l (P := Tryd.prog) w 9 t Tryd.underlying9 .i64 1 (by omega) (by omega)]; rfl
  have s1 : (1 : Int) ≤ (t.size : Int) := by omega
  clear hu
  go_enter Tryd.func112, Tryd.ntmps112
  go_wp2
  have HM := Lib.hid hM
  clear hM
  go_loop [12, 13, 101] (fun vu vn vi => PuRel 8 M u.size bs vu vn vi) (fun _ _ vi => u.size - (intOf vi).toNat)
  case atStart => exact ⟨0, 0, false, 0, rfl, rfl, rfl, by omega, rfl, by omega, rfl⟩
  case round =>
    obtain ⟨k, acc, us, a, rfl, rfl, rfl, hk, hh⟩ := hrel
    obtain ⟨ha, hacc, hdec⟩ := hh.out
    clear hh
    have a0 : 0 ≤ a := by omega
    have hM := HM.out
    have a1 : a ≤ M := by omega
    by_cases hkn : k < u.size
    · have hc := hB k hkn
      have hdrop : bs.drop k = bs[k]'(by omega) :: bs.drop (k + 1) := List.drop_eq_getElem_cons (by omega)
      have hget : bs.getD k 0 = bs[k]'(by omega) := by simp [List.getD, List.getElem?_eq_getElem (show k < bs.length by omega)]
      rw [hdrop] at hdec
      rw [hget] at hc
      generalize bs[k]'(by omega) = c at hc hdec
      have hc256 : c.toNat < 256 := c.toNat_lt
      clear hdrop hget
      obtain ⟨lo0, hi0, hcls⟩ := lowB_facts ⟨c.toNat, hc256⟩
      unfold lowB at lo0 hi0 hcls
      simp only at lo0 hi0 hcls
      by_cases hund : c.toNat = 95
      · have bu : ((c.toNat : Int) == 95) = true := by rw [hund]; rfl
        have HN : Hid (a = (acc : Int) ∧ acc ≤ M ∧ puScan 8 M 0 false bs = puScan 8 M acc true (bs.drop (k + 1))) := Lib.hid ⟨ha, hacc, hdec.trans (by rw [puScan, if_pos hund])⟩
        clear hdec hacc ha hund hcls hB hM
        go_wp2
        go_round
        case rel => first | exact ⟨k + 1, acc, true, a, rfl, rfl, (by first | rfl | (congr 1; omega)), by omega, HN⟩ | (refine ⟨_, _, _, _, _, _, _, _, ?_, rfl, rfl, rfl, rfl, rfl, rfl, rfl, rfl⟩; exact ⟨k + 1, acc, true, a, rfl, rfl, (by first | rfl | (congr 1; omega)), by omega, HN⟩)
        case measure => simp [intOf]; omega
      · have bu : ((c.toNat : Int) == 95) = false := beq_false_of_ne (by omega)
        by_cases hdig : 48 ≤ c.toNat ∧ c.toNat ≤ 57
        · have hD := dig0_num hdig
          have e1 : (48 : Int) ≤ (c.toNat : Int) := by omega
          have e2 : (c.toNat : Int) ≤ 57 := by omega
          by_cases hbig : (8 : Int) ≤ (c.toNat : Int) - 48
          · have HF := Lib.hid (hdec.trans (show puScan 8 M acc us (c :: bs.drop (k + 1)) = Go.Lib.NumEnd.syntax by rw [puScan, if_neg hund, if_pos (.inr (by rw [hD]; exact hbig))]))
            clear hdec hacc ha hD hund hcls hB hM
            go_wp2
            go_ret2
            exact ⟨by rw [HF.out]; rfl, HB0.out⟩
          · replace hbig : (c.toNat : Int) - 48 < 8 := by omega
            have hn : ¬ (dig0 c.toNat = -1 ∨ ((8 : Nat) : Int) ≤ dig0 c.toNat) := by rw [hD]; omega
            by_cases hcut : 2305843009213693952 ≤ a
            · have HF := Lib.hid (hdec.trans (show puScan 8 M acc us (c :: bs.drop (k + 1)) = .range by rw [puScan, if_neg hund, if_neg hn, if_pos (by rw [hD]; omega)]))
              clear hdec hacc ha hD hund hcls hB hn hM
              go_wp2
              go_ret2
              exact ⟨by rw [HF.out]; rfl, HB0.out⟩
            · replace hcut : a < 2305843009213693952 := by omega
              have ho6 : a * 8 + ((c.toNat : Int) - 48) ≤ 18446744073709551615 := by omega
              by_cases hov : (M : Int) < a * 8 + ((c.toNat : Int) - 48)
              · have HF := Lib.hid (hdec.trans (show puScan 8 M acc us (c :: bs.drop (k + 1)) = .range by rw [puScan, if_neg hund, if_neg hn, if_pos (by rw [hD]; omega)]))
                clear hdec hacc ha hD hund hcls hB hn hM
                go_wp2
                go_ret2
                exact ⟨by rw [HF.out]; rfl, HB0.out⟩
              · replace hov : a * 8 + ((c.toNat : Int) - 48) ≤ M := by omega
                have hst : puScan 8 M acc us (c :: bs.drop (k + 1)) = puScan 8 M (acc * 8 + (dig0 c.toNat).toNat) us (bs.drop (k + 1)) := by rw [puScan, if_neg hund, if_neg hn, if_neg (by rw [hD]; omega)]
                have HN : Hid (a * 8 + ((c.toNat : Int) - 48) = ((acc * 8 + (dig0 c.toNat).toNat : Nat) : Int) ∧ acc * 8 + (dig0 c.toNat).toNat ≤ M ∧ puScan 8 M 0 false bs = puScan 8 M (acc * 8 + (dig0 c.toNat).toNat) us (bs.drop (k + 1))) := Lib.hid ⟨by rw [hD]; omega, by rw [hD]; omega, hdec.trans hst⟩
                clear hdec hacc ha hD hund hcls hB hn hst hM
                go_wp2
                go_round
                case rel => first | exact ⟨k + 1, acc * 8 + (dig0 c.toNat).toNat, us, a * 8 + ((c.toNat : Int) - 48), rfl, (by first | rfl | (congr 1; omega)), (by first | rfl | (congr 1; omega)), by omega, HN⟩ | (refine ⟨_, _, _, _, _, _, _, _, ?_, rfl, rfl, rfl, rfl, rfl, rfl, rfl, rfl⟩; exact ⟨k + 1, acc * 8 + (dig0 c.toNat).toNat, us, a * 8 + ((c.toNat : Int) - 48), rfl, (by first | rfl | (congr 1; omega)), (by first | rfl | (congr 1; omega)), by omega, HN⟩)
                case measure => simp [intOf]; omega
        · rcases hcls hdig with ⟨l0, l1, l2, hD⟩ | ⟨hl, hD⟩
          · have e1 : (48 : Int) ≤ (c.toNat : Int) := by omega
            have e2 : ¬ (c.toNat : Int) ≤ 57 := by omega
            have hbig : (8 : Int) ≤ bits BinOp.or IntKind.u8 (c.toNat : Int) 32 - 97 + 10 := by omega
            have HF := Lib.hid (hdec.trans (show puScan 8 M acc us (c :: bs.drop (k + 1)) = Go.Lib.NumEnd.syntax by rw [puScan, if_neg hund, if_pos (.inr (by rw [hD]; exact hbig))]))
            clear hdec hacc ha hD hund hcls hB hM
            go_wp2
            go_ret2
            exact ⟨by rw [HF.out]; rfl, HB0.out⟩
          · have HF := Lib.hid (hdec.trans (show puScan 8 M acc us (c :: bs.drop (k + 1)) = Go.Lib.NumEnd.syntax by rw [puScan, if_neg hund, if_pos (.inl hD)]))
            clear hdec hacc ha hD hund hcls hB hM
            rcases hl with ⟨e1, l1⟩ | ⟨e1, l1⟩ | ⟨e1, l1, l2⟩
            · replace e1 : ¬ (48 : Int) ≤ (c.toNat : Int) := by omega
              have l2 : ¬ (97 : Int) ≤ bits BinOp.or IntKind.u8 (c.toNat : Int) 32 := by omega
              go_wp2
              go_ret2
              exact ⟨by rw [HF.out]; rfl, HB0.out⟩
            · have e2 : ¬ (c.toNat : Int) ≤ 57 := by omega
              replace e1 : (48 : Int) ≤ (c.toNat : Int) := by omega
              have l2 : ¬ (97 : Int) ≤ bits BinOp.or IntKind.u8 (c.toNat : Int) 32 := by omega
              go_wp2
              go_ret2
              exact ⟨by rw [HF.out]; rfl, HB0.out⟩
            · have e2 : ¬ (c.toNat : Int) ≤ 57 := by omega
              replace e1 : (48 : Int) ≤ (c.toNat : Int) := by omega
              have l3 : ¬ bits BinOp.or IntKind.u8 (c.toNat : Int) 32 ≤ 122 := by omega
              go_wp2
              go_ret2
              exact ⟨by rw [HF.out]; rfl, HB0.out⟩
    · have hkk : k = u.size := by omega
      subst hkk
      have HF := Lib.hid (hdec.trans (show puScan 8 M acc us (bs.drop u.size) = .ok (acc, us) by rw [List.drop_eq_nil_of_le (by omega), puScan]))
      subst ha
      clear hdec hacc a0 a1 hB hM
      cases us with
      | false =>
        go_wp2
        go_ret2
        exact ⟨by rw [HF.out]; rfl, HB0.out⟩
      | true =>
        cases ok
        all_goals
          go_wp2_with (go_at_call 123; refine (HU.out _).mono ?_; rintro e w' ⟨rfl, rfl⟩)
          go_ret2
          exact ⟨by rw [HF.out]; rfl, HB0.out⟩

set_option maxHeartbeats 8000000 in
set_option maxRecDepth 100000 in
theorem pz_y (M : Nat) (hM : M ≤ 18446744073709551615) (hmv : IntKind.u64.wrap (IntKind.u64.wrap 18446744073709551616 - 1) = (M : Int)) (t : ByteArray) (hne : 0 < t.size) (hmax : t.size ≤ 9223372036854775806) (h0 : t[0].toNat = 48) (h1 : t.size < 3) (w : World)
    (ok : Bool) (HU : ∀ W, Calls Tryd.prog 123 #[.string t] W fun e w' => e = .returned (.bool ok) ∧ W = w') :
    Calls Tryd.prog 112 #[.string t, .int .i64 0, .int .i64 0] w fun e w' => e = .returned (puTup 162 M ok (puScan 8 M 0 false ((t.extract 1 t.size).data.toList))) ∧ Below w.heap.size w w' := by
  have hemp : t.toList.isEmpty = false := by
    rw [← decide_eq_emptyBytes]
    exact decide_eq_false (fun h => by rw [h] at hne; exact absurd hne (by decide))
  have HU := Lib.hid HU
  have b0 : ((t[0].toNat : Int) == 48) = true := by rw [h0]; rfl
  have s3 : ¬ (3 : Int) ≤ (t.size : Int) := by omega
  obtain ⟨u, hu⟩ : ∃ u, u = t.extract 1 t.size := ⟨_, rfl⟩
  have hus : u.size ≤ t.size := by rw [hu]; simp only [ByteArray.size_extract]; omega
  have HB0 := Lib.hid (bytes_below w 5 u)
  have hcv := Lib.run_convert_string_bytes (P := Tryd.prog) w 9 132 5 u (u := .string) Tryd.underlying9 Tryd.underlying132 Tryd.underlying5
  have hB : ∀ j, j < u.size → (Lib.bytesWorld w 5 u).cell? ⟨w.heap.size, j, none⟩ = some (.int .u8 (u.data.toList.getD j 0).toNat) := fun j hj => Lib.bytesWorld_cell w 5 u j hj
  obtain ⟨W1, hW1⟩ : ∃ W1, W1 = Lib.bytesWorld w 5 u := ⟨_, rfl⟩
  rw [← hW1] at hcv hB HB0
  replace hcv : (convert 9 132 (.string (t.extract 1 t.size))).run Tryd.prog w = .ok (.slice (some ⟨w.heap.size, 0, none⟩) u.size (grownCap w u.size 0 5)) W1 := by rw [← hu]; exact hcv
  clear hW1
  obtain ⟨bs, hL⟩ : ∃ bs, bs = u.data.toList := ⟨_, rfl⟩
  have hLn : bs.length = u.size := by rw [hL, Lib.size_eq]

  rw [← hu, ← hL]
  rw [← hL] at hB
  clear hL
  have hsl : (Instr.slice 9 (.string t) (some (.int .i64 1)) none none).run Tryd.prog w = .ok (.string (t.extract 1 t.size)) w := by rw [run_slice_string_l (P := Tryd.prog) w 9 t Tryd.underlying9 .i64 1 (by omega) (by omega)]; rfl
  have s1 : (1 : Int) ≤ (t.size : Int) := by omega
  clear hu
  go_enter Tryd.func112, Tryd.ntmps112
  go_wp2
  have HM := Lib.hid hM
  clear hM
  go_loop [12, 13, 101] (fun vu vn vi => PuRel 8 M u.size bs vu vn vi) (fun _ _ vi => u.size - (intOf vi).toNat)
  case atStart => exact ⟨0, 0, false, 0, rfl, rfl, rfl, by omega, rfl, by omega, rfl⟩
  case round =>
    obtain ⟨k, acc, us, a, rfl, rfl, rfl, hk, hh⟩ := hrel
    obtain ⟨ha, hacc, hdec⟩ := hh.out
    clear hh
    have a0 : 0 ≤ a := by omega
    have hM := HM.out
    have a1 : a ≤ M := by omega
    by_cases hkn : k < u.size
    · have hc := hB k hkn
      have hdrop : bs.drop k = bs[k]'(by omega) :: bs.drop (k + 1) := List.drop_eq_getElem_cons (by omega)
      have hget : bs.getD k 0 = bs[k]'(by omega) := by simp [List.getD, List.getElem?_eq_getElem (show k < bs.length by omega)]
      rw [hdrop] at hdec
      rw [hget] at hc
      generalize bs[k]'(by omega) = c at hc hdec
      have hc256 : c.toNat < 256 := c.toNat_lt
      clear hdrop hget
      obtain ⟨lo0, hi0, hcls⟩ := lowB_facts ⟨c.toNat, hc256⟩
      unfold lowB at lo0 hi0 hcls
      simp only at lo0 hi0 hcls
      by_cases hund : c.toNat = 95
      · have bu : ((c.toNat : Int) == 95) = true := by rw [hund]; rfl
        have HN : Hid (a = (acc : Int) ∧ acc ≤ M ∧ puScan 8 M 0 false bs = puScan 8 M acc true (bs.drop (k + 1))) := Lib.hid ⟨ha, hacc, hdec.trans (by rw [puScan, if_pos hund])⟩
        clear hdec hacc ha hund hcls hB hM
        go_wp2
        go_round
        case rel => first | exact ⟨k + 1, acc, true, a, rfl, rfl, (by first | rfl | (congr 1; omega)), by omega, HN⟩ | (refine ⟨_, _, _, _, _, _, _, _, ?_, rfl, rfl, rfl, rfl, rfl, rfl, rfl, rfl⟩; exact ⟨k + 1, acc, true, a, rfl, rfl, (by first | rfl | (congr 1; omega)), by omega, HN⟩)
        case measure => simp [intOf]; omega
      · have bu : ((c.toNat : Int) == 95) = false := beq_false_of_ne (by omega)
        by_cases hdig : 48 ≤ c.toNat ∧ c.toNat ≤ 57
        · have hD := dig0_num hdig
          have e1 : (48 : Int) ≤ (c.toNat : Int) := by omega
          have e2 : (c.toNat : Int) ≤ 57 := by omega
          by_cases hbig : (8 : Int) ≤ (c.toNat : Int) - 48
          · have HF := Lib.hid (hdec.trans (show puScan 8 M acc us (c :: bs.drop (k + 1)) = Go.Lib.NumEnd.syntax by rw [puScan, if_neg hund, if_pos (.inr (by rw [hD]; exact hbig))]))
            clear hdec hacc ha hD hund hcls hB hM
            go_wp2
            go_ret2
            exact ⟨by rw [HF.out]; rfl, HB0.out⟩
          · replace hbig : (c.toNat : Int) - 48 < 8 := by omega
            have hn : ¬ (dig0 c.toNat = -1 ∨ ((8 : Nat) : Int) ≤ dig0 c.toNat) := by rw [hD]; omega
            by_cases hcut : 2305843009213693952 ≤ a
            · have HF := Lib.hid (hdec.trans (show puScan 8 M acc us (c :: bs.drop (k + 1)) = .range by rw [puScan, if_neg hund, if_neg hn, if_pos (by rw [hD]; omega)]))
              clear hdec hacc ha hD hund hcls hB hn hM
              go_wp2
              go_ret2
              exact ⟨by rw [HF.out]; rfl, HB0.out⟩
            · replace hcut : a < 2305843009213693952 := by omega
              have ho6 : a * 8 + ((c.toNat : Int) - 48) ≤ 18446744073709551615 := by omega
              by_cases hov : (M : Int) < a * 8 + ((c.toNat : Int) - 48)
              · have HF := Lib.hid (hdec.trans (show puScan 8 M acc us (c :: bs.drop (k + 1)) = .range by rw [puScan, if_neg hund, if_neg hn, if_pos (by rw [hD]; omega)]))
                clear hdec hacc ha hD hund hcls hB hn hM
                go_wp2
                go_ret2
                exact ⟨by rw [HF.out]; rfl, HB0.out⟩
              · replace hov : a * 8 + ((c.toNat : Int) - 48) ≤ M := by omega
                have hst : puScan 8 M acc us (c :: bs.drop (k + 1)) = puScan 8 M (acc * 8 + (dig0 c.toNat).toNat) us (bs.drop (k + 1)) := by rw [puScan, if_neg hund, if_neg hn, if_neg (by rw [hD]; omega)]
                have HN : Hid (a * 8 + ((c.toNat : Int) - 48) = ((acc * 8 + (dig0 c.toNat).toNat : Nat) : Int) ∧ acc * 8 + (dig0 c.toNat).toNat ≤ M ∧ puScan 8 M 0 false bs = puScan 8 M (acc * 8 + (dig0 c.toNat).toNat) us (bs.drop (k + 1))) := Lib.hid ⟨by rw [hD]; omega, by rw [hD]; omega, hdec.trans hst⟩
                clear hdec hacc ha hD hund hcls hB hn hst hM
                go_wp2
                go_round
                case rel => first | exact ⟨k + 1, acc * 8 + (dig0 c.toNat).toNat, us, a * 8 + ((c.toNat : Int) - 48), rfl, (by first | rfl | (congr 1; omega)), (by first | rfl | (congr 1; omega)), by omega, HN⟩ | (refine ⟨_, _, _, _, _, _, _, _, ?_, rfl, rfl, rfl, rfl, rfl, rfl, rfl, rfl⟩; exact ⟨k + 1, acc * 8 + (dig0 c.toNat).toNat, us, a * 8 + ((c.toNat : Int) - 48), rfl, (by first | rfl | (congr 1; omega)), (by first | rfl | (congr 1; omega)), by omega, HN⟩)
                case measure => simp [intOf]; omega
        · rcases hcls hdig with ⟨l0, l1, l2, hD⟩ | ⟨hl, hD⟩
          · have e1 : (48 : Int) ≤ (c.toNat : Int) := by omega
            have e2 : ¬ (c.toNat : Int) ≤ 57 := by omega
            have hbig : (8 : Int) ≤ bits BinOp.or IntKind.u8 (c.toNat : Int) 32 - 97 + 10 := by omega
            have HF := Lib.hid (hdec.trans (show puScan 8 M acc us (c :: bs.drop (k + 1)) = Go.Lib.NumEnd.syntax by rw [puScan, if_neg hund, if_pos (.inr (by rw [hD]; exact hbig))]))
            clear hdec hacc ha hD hund hcls hB hM
            go_wp2
            go_ret2
            exact ⟨by rw [HF.out]; rfl, HB0.out⟩
          · have HF := Lib.hid (hdec.trans (show puScan 8 M acc us (c :: bs.drop (k + 1)) = Go.Lib.NumEnd.syntax by rw [puScan, if_neg hund, if_pos (.inl hD)]))
            clear hdec hacc ha hD hund hcls hB hM
            rcases hl with ⟨e1, l1⟩ | ⟨e1, l1⟩ | ⟨e1, l1, l2⟩
            · replace e1 : ¬ (48 : Int) ≤ (c.toNat : Int) := by omega
              have l2 : ¬ (97 : Int) ≤ bits BinOp.or IntKind.u8 (c.toNat : Int) 32 := by omega
              go_wp2
              go_ret2
              exact ⟨by rw [HF.out]; rfl, HB0.out⟩
            · have e2 : ¬ (c.toNat : Int) ≤ 57 := by omega
              replace e1 : (48 : Int) ≤ (c.toNat : Int) := by omega
              have l2 : ¬ (97 : Int) ≤ bits BinOp.or IntKind.u8 (c.toNat : Int) 32 := by omega
              go_wp2
              go_ret2
              exact ⟨by rw [HF.out]; rfl, HB0.out⟩
            · have e2 : ¬ (c.toNat : Int) ≤ 57 := by omega
              replace e1 : (48 : Int) ≤ (c.toNat : Int) := by omega
              have l3 : ¬ bits BinOp.or IntKind.u8 (c.toNat : Int) 32 ≤ 122 := by omega
              go_wp2
              go_ret2
              exact ⟨by rw [HF.out]; rfl, HB0.out⟩
    · have hkk : k = u.size := by omega
      subst hkk
      have HF := Lib.hid (hdec.trans (show puScan 8 M acc us (bs.drop u.size) = .ok (acc, us) by rw [List.drop_eq_nil_of_le (by omega), puScan]))
      subst ha
      clear hdec hacc a0 a1 hB hM
      cases us with
      | false =>
        go_wp2
        go_ret2
        exact ⟨by rw [HF.out]; rfl, HB0.out⟩
      | true =>
        cases ok
        all_goals
          go_wp2_with (go_at_call 123; refine (HU.out _).mono ?_; rintro e w' ⟨rfl, rfl⟩)
          go_ret2
          exact ⟨by rw [HF.out]; rfl, HB0.out⟩

set_option maxHeartbeats 8000000 in
set_option maxRecDepth 100000 in
theorem pz_d (M : Nat) (hM : M ≤ 18446744073709551615) (hmv : IntKind.u64.wrap (IntKind.u64.wrap 18446744073709551616 - 1) = (M : Int)) (t : ByteArray) (hne : 0 < t.size) (hmax : t.size ≤ 9223372036854775806) (h0 : ¬ t[0].toNat = 48) (w : World)
    (ok : Bool) (HU : ¬ t[0].toNat = 45 ∧ ¬ t[0].toNat = 43 → ∀ W, Calls Tryd.prog 123 #[.string t] W fun e w' => e = .returned (.bool ok) ∧ W = w') :
    Calls Tryd.prog 112 #[.string t, .int .i64 0, .int .i64 0] w fun e w' => e = .returned (puTup 162 M ok (puScan 10 M 0 false ((t).data.toList))) ∧ Below w.heap.size w w' := by
  have hemp : t.toList.isEmpty = false := by
    rw [← decide_eq_emptyBytes]
    exact decide_eq_false (fun h => by rw [h] at hne; exact absurd hne (by decide))
  have HU := Lib.hid HU
  have b0 : ((t[0].toNat : Int) == 48) = false := byte_beq (k := 48) (by omega) (fun h => h0 (by rw [h]; rfl))

  have HB0 := Lib.hid (bytes_below w 5 t)
  have hcv := Lib.run_convert_string_bytes (P := Tryd.prog) w 9 132 5 t (u := .string) Tryd.underlying9 Tryd.underlying132 Tryd.underlying5
  have hB : ∀ j, j < t.size → (Lib.bytesWorld w 5 t).cell? ⟨w.heap.size, j, none⟩ = some (.int .u8 (t.data.toList.getD j 0).toNat) := fun j hj => Lib.bytesWorld_cell w 5 t j hj
  obtain ⟨W1, hW1⟩ : ∃ W1, W1 = Lib.bytesWorld w 5 t := ⟨_, rfl⟩
  rw [← hW1] at hcv hB HB0

  clear hW1
  obtain ⟨bs, hL⟩ : ∃ bs, bs = t.data.toList := ⟨_, rfl⟩
  have hLn : bs.length = t.size := by rw [hL, Lib.size_eq]
  have HSG : Hid (∀ r, puScan 10 M 0 false bs = .ok r → ¬ t[0].toNat = 45 ∧ ¬ t[0].toNat = 43) := by subst hL; exact fun r hr => puScan_sign hne hr
  rw [← hL]
  rw [← hL] at hB
  clear hL
  
  have s1 : (1 : Int) ≤ (t.size : Int) := by omega
  
  go_enter Tryd.func112, Tryd.ntmps112
  go_wp2
  have HM := Lib.hid hM
  clear hM
  go_loop [12, 13, 101] (fun vu vn vi => PuRel 10 M t.size bs vu vn vi) (fun _ _ vi => t.size - (intOf vi).toNat)
  case atStart => exact ⟨0, 0, false, 0, rfl, rfl, rfl, by omega, rfl, by omega, rfl⟩
  case round =>
    obtain ⟨k, acc, us, a, rfl, rfl, rfl, hk, hh⟩ := hrel
    obtain ⟨ha, hacc, hdec⟩ := hh.out
    clear hh
    have a0 : 0 ≤ a := by omega
    have hM := HM.out
    have a1 : a ≤ M := by omega
    by_cases hkn : k < t.size
    · have hc := hB k hkn
      have hdrop : bs.drop k = bs[k]'(by omega) :: bs.drop (k + 1) := List.drop_eq_getElem_cons (by omega)
      have hget : bs.getD k 0 = bs[k]'(by omega) := by simp [List.getD, List.getElem?_eq_getElem (show k < bs.length by omega)]
      rw [hdrop] at hdec
      rw [hget] at hc
      generalize bs[k]'(by omega) = c at hc hdec
      have hc256 : c.toNat < 256 := c.toNat_lt
      clear hdrop hget
      obtain ⟨lo0, hi0, hcls⟩ := lowB_facts ⟨c.toNat, hc256⟩
      unfold lowB at lo0 hi0 hcls
      simp only at lo0 hi0 hcls
      by_cases hund : c.toNat = 95
      · have bu : ((c.toNat : Int) == 95) = true := by rw [hund]; rfl
        have HN : Hid (a = (acc : Int) ∧ acc ≤ M ∧ puScan 10 M 0 false bs = puScan 10 M acc true (bs.drop (k + 1))) := Lib.hid ⟨ha, hacc, hdec.trans (by rw [puScan, if_pos hund])⟩
        clear hdec hacc ha hund hcls hB hM
        go_wp2
        go_round
        case rel => first | exact ⟨k + 1, acc, true, a, rfl, rfl, (by first | rfl | (congr 1; omega)), by omega, HN⟩ | (refine ⟨_, _, _, _, _, _, _, _, ?_, rfl, rfl, rfl, rfl, rfl, rfl, rfl, rfl⟩; exact ⟨k + 1, acc, true, a, rfl, rfl, (by first | rfl | (congr 1; omega)), by omega, HN⟩)
        case measure => simp [intOf]; omega
      · have bu : ((c.toNat : Int) == 95) = false := beq_false_of_ne (by omega)
        by_cases hdig : 48 ≤ c.toNat ∧ c.toNat ≤ 57
        · have hD := dig0_num hdig
          have e1 : (48 : Int) ≤ (c.toNat : Int) := by omega
          have e2 : (c.toNat : Int) ≤ 57 := by omega
          have hbig : (c.toNat : Int) - 48 < 10 := by omega
          have hn : ¬ (dig0 c.toNat = -1 ∨ ((10 : Nat) : Int) ≤ dig0 c.toNat) := by rw [hD]; omega
          by_cases hcut : 1844674407370955162 ≤ a
          · have HF := Lib.hid (hdec.trans (show puScan 10 M acc us (c :: bs.drop (k + 1)) = .range by rw [puScan, if_neg hund, if_neg hn, if_pos (by rw [hD]; omega)]))
            clear hdec hacc ha hD hund hcls hB hn hM
            go_wp2
            go_ret2
            exact ⟨by rw [HF.out]; rfl, HB0.out⟩
          · replace hcut : a < 1844674407370955162 := by omega
            by_cases ho6 : (18446744073709551615 : Int) < a * 10 + ((c.toNat : Int) - 48)
            · have HF := Lib.hid (hdec.trans (show puScan 10 M acc us (c :: bs.drop (k + 1)) = .range by rw [puScan, if_neg hund, if_neg hn, if_pos (by rw [hD]; omega)]))
              have hwr : IntKind.u64.wrap (a * 10 + ((c.toNat : Int) - 48)) = a * 10 + ((c.toNat : Int) - 48) - 18446744073709551616 := by rw [IntKind.wrap_u64]; omega
              clear hdec hacc ha hD hund hcls hB hn hM
              go_wp2
              go_ret2
              exact ⟨by rw [HF.out]; rfl, HB0.out⟩
            · replace ho6 : a * 10 + ((c.toNat : Int) - 48) ≤ 18446744073709551615 := by omega
              by_cases hov : (M : Int) < a * 10 + ((c.toNat : Int) - 48)
              · have HF := Lib.hid (hdec.trans (show puScan 10 M acc us (c :: bs.drop (k + 1)) = .range by rw [puScan, if_neg hund, if_neg hn, if_pos (by rw [hD]; omega)]))
                clear hdec hacc ha hD hund hcls hB hn hM
                go_wp2
                go_ret2
                exact ⟨by rw [HF.out]; rfl, HB0.out⟩
              · replace hov : a * 10 + ((c.toNat : Int) - 48) ≤ M := by omega
                have hst : puScan 10 M acc us (c :: bs.drop (k + 1)) = puScan 10 M (acc * 10 + (dig0 c.toNat).toNat) us (bs.drop (k + 1)) := by rw [puScan, if_neg hund, if_neg hn, if_neg (by rw [hD]; omega)]
                have HN : Hid (a * 10 + ((c.toNat : Int) - 48) = ((acc * 10 + (dig0 c.toNat).toNat : Nat) : Int) ∧ acc * 10 + (dig0 c.toNat).toNat ≤ M ∧ puScan 10 M 0 false bs = puScan 10 M (acc * 10 + (dig0 c.toNat).toNat) us (bs.drop (k + 1))) := Lib.hid ⟨by rw [hD]; omega, by rw [hD]; omega, hdec.trans hst⟩
                clear hdec hacc ha hD hund hcls hB hn hst hM
                go_wp2
                go_round
                case rel => first | exact ⟨k + 1, acc * 10 + (dig0 c.toNat).toNat, us, a * 10 + ((c.toNat : Int) - 48), rfl, (by first | rfl | (congr 1; omega)), (by first | rfl | (congr 1; omega)), by omega, HN⟩ | (refine ⟨_, _, _, _, _, _, _, _, ?_, rfl, rfl, rfl, rfl, rfl, rfl, rfl, rfl⟩; exact ⟨k + 1, acc * 10 + (dig0 c.toNat).toNat, us, a * 10 + ((c.toNat : Int) - 48), rfl, (by first | rfl | (congr 1; omega)), (by first | rfl | (congr 1; omega)), by omega, HN⟩)
                case measure => simp [intOf]; omega
        · rcases hcls hdig with ⟨l0, l1, l2, hD⟩ | ⟨hl, hD⟩
          · have e1 : (48 : Int) ≤ (c.toNat : Int) := by omega
            have e2 : ¬ (c.toNat : Int) ≤ 57 := by omega
            have hbig : (10 : Int) ≤ bits BinOp.or IntKind.u8 (c.toNat : Int) 32 - 97 + 10 := by omega
            have HF := Lib.hid (hdec.trans (show puScan 10 M acc us (c :: bs.drop (k + 1)) = Go.Lib.NumEnd.syntax by rw [puScan, if_neg hund, if_pos (.inr (by rw [hD]; exact hbig))]))
            clear hdec hacc ha hD hund hcls hB hM
            go_wp2
            go_ret2
            exact ⟨by rw [HF.out]; rfl, HB0.out⟩
          · have HF := Lib.hid (hdec.trans (show puScan 10 M acc us (c :: bs.drop (k + 1)) = Go.Lib.NumEnd.syntax by rw [puScan, if_neg hund, if_pos (.inl hD)]))
            clear hdec hacc ha hD hund hcls hB hM
            rcases hl with ⟨e1, l1⟩ | ⟨e1, l1⟩ | ⟨e1, l1, l2⟩
            · replace e1 : ¬ (48 : Int) ≤ (c.toNat : Int) := by omega
              have l2 : ¬ (97 : Int) ≤ bits BinOp.or IntKind.u8 (c.toNat : Int) 32 := by omega
              go_wp2
              go_ret2
              exact ⟨by rw [HF.out]; rfl, HB0.out⟩
            · have e2 : ¬ (c.toNat : Int) ≤ 57 := by omega
              replace e1 : (48 : Int) ≤ (c.toNat : Int) := by omega
              have l2 : ¬ (97 : Int) ≤ bits BinOp.or IntKind.u8 (c.toNat : Int) 32 := by omega
              go_wp2
              go_ret2
              exact ⟨by rw [HF.out]; rfl, HB0.out⟩
            · have e2 : ¬ (c.toNat : Int) ≤ 57 := by omega
              replace e1 : (48 : Int) ≤ (c.toNat : Int) := by omega
              have l3 : ¬ bits BinOp.or IntKind.u8 (c.toNat : Int) 32 ≤ 122 := by omega
              go_wp2
              go_ret2
              exact ⟨by rw [HF.out]; rfl, HB0.out⟩
    · have hkk : k = t.size := by omega
      subst hkk
      have HF := Lib.hid (hdec.trans (show puScan 10 M acc us (bs.drop t.size) = .ok (acc, us) by rw [List.drop_eq_nil_of_le (by omega), puScan]))
      subst ha
      clear hdec hacc a0 a1 hB hM
      have HU2 := Lib.hid (HU.out (HSG.out _ HF.out))
      cases us with
      | false =>
        go_wp2
        go_ret2
        exact ⟨by rw [HF.out]; rfl, HB0.out⟩
      | true =>
        cases ok
        all_goals
          go_wp2_with (go_at_call 123; refine (HU2.out _).mono ?_; rintro e w' ⟨rfl, rfl⟩)
          go_ret2
          exact ⟨by rw [HF.out]; rfl, HB0.out⟩

end Go.Proofs.YtdmpeecocfoocaaDoor.E

namespace Go.Proofs.YtdmpeecocfoocaaDoor.E
open Go.RowKit Go.Proofs
open Go.Lib (NumEnd)
set_option linter.unusedVariables false
set_option linter.unusedSimpArgs false

theorem inner_zero (t : ByteArray) (hmax : t.size ≤ 9223372036854775806) (M : Nat) (hM : M ≤ 18446744073709551615) (hmv : IntKind.u64.wrap (IntKind.u64.wrap 18446744073709551616 - 1) = (M : Int)) (w : World) :
    Calls Tryd.prog 112 #[.string t, .int .i64 0, .int .i64 0] w fun e w' => e = .returned (Lib.uintTupleM 162 M (puV M t.data.toList)) ∧ Below w.heap.size w w' := by
  by_cases hne : 0 < t.size
  · have hnil : t.data.toList ≠ [] := fun h => by have := size_len t; rw [h] at this; simp at this; omega
    have HX : ∀ k B, preB t.data.toList = (B, k) → Lib.uintTupleM 162 (M : Int) (puV M t.data.toList) = puTup 162 M (uok t.data.toList) (puScan B M 0 false ((t.extract k t.size).data.toList)) := by
      intro k B h
      rw [puTup_eq]; unfold puV
      rw [if_neg hnil, h, extract_list, ← size_len t, List.take_length]
    by_cases h0 : t[0].toNat = 48
    · have hu := fun W => uok_walk t hne hmax (by omega) W
      by_cases h3 : 3 ≤ t.size
      · have hn : 1 < t.size := by omega
        obtain ⟨i1, i2, i3⟩ := lowB_is ⟨t[1].toNat, t[1].toNat_lt⟩
        simp only at i1 i2 i3
        by_cases hbb : lowB t[1].toNat = 98
        · rw [HX 2 2 (by unfold preB; rw [getD_at hne, getD_at hn, size_len, if_pos h0, if_pos ⟨h3, i1.1 hbb⟩])]
          exact pz_b M hM hmv t hne hmax h0 h3 hbb w _ hu
        have nb1 := fun h => hbb (i1.2 h)
        by_cases ho : lowB t[1].toNat = 111
        · rw [HX 2 8 (by unfold preB; rw [getD_at hne, getD_at hn, size_len, if_pos h0, if_neg (fun h => nb1 h.2), if_pos ⟨h3, i2.1 ho⟩])]
          exact pz_o M hM hmv t hne hmax h0 h3 ho w _ hu
        have nb2 := fun h => ho (i2.2 h)
        by_cases hx : lowB t[1].toNat = 120
        · rw [HX 2 16 (by unfold preB; rw [getD_at hne, getD_at hn, size_len, if_pos h0, if_neg (fun h => nb1 h.2), if_neg (fun h => nb2 h.2), if_pos ⟨h3, i3.1 hx⟩])]
          exact pz_x M hM hmv t hne hmax h0 h3 hx w _ hu
        have nb3 := fun h => hx (i3.2 h)
        rw [HX 1 8 (by unfold preB; rw [getD_at hne, getD_at hn, size_len, if_pos h0, if_neg (fun h => nb1 h.2), if_neg (fun h => nb2 h.2), if_neg (fun h => nb3 h.2)])]
        exact pz_z M hM hmv t hne hmax h0 h3 ⟨hbb, ho, hx⟩ w _ hu
      · rw [HX 1 8 (by unfold preB; rw [getD_at hne, size_len, if_pos h0, if_neg (fun h => h3 h.1), if_neg (fun h => h3 h.1), if_neg (fun h => h3 h.1)])]
        exact pz_y M hM hmv t hne hmax h0 (by omega) w _ hu
    · rw [HX 0 10 (by unfold preB; rw [getD_at hne, if_neg h0])]
      have e : t.extract 0 t.size = t := ba_ext (by rw [extract_list, ← size_len t, List.take_length]; rfl)
      rw [e]
      exact pz_d M hM hmv t hne hmax h0 w _ (fun hm W => uok_walk t hne hmax hm W)
  · have ht : t = ⟨#[]⟩ := ByteArray.ext (Array.eq_empty_of_size_eq_zero (by show t.size = 0; omega))
    subst ht
    refine (Tryd.internal_strconv_ParseUint_empty 0 0 w).mono fun e w' ⟨he, hw⟩ => ⟨he.trans rfl, by rw [hw]; exact Below.refl _ _⟩

set_option maxHeartbeats 8000000 in
set_option maxRecDepth 100000 in
theorem pi0 (s : ByteArray) (hne : 0 < s.size) (hmax : s.size ≤ 9223372036854775806) (w : World) :
    Calls Tryd.prog 107 #[.string s, .int .i64 0, .int .i64 0] w fun e w' => e = .returned (intTup 162 (piE 18446744073709551615 9223372036854775808 s.data.toList)) ∧ Below w.heap.size w w' := by
  have hemp : s.toList.isEmpty = false := by
    rw [← decide_eq_emptyBytes]
    exact decide_eq_false (fun h => by rw [h] at hne; exact absurd hne (by decide))
  have hL := drop_at hne
  rw [List.drop_zero] at hL
  have hq2 : ∀ W, (binOp .neq 73 (.iface 162 (.int .i64 2)) (.iface 162 (.int .i64 1))).run Tryd.prog W = .ok (.bool true) W := fun W => Lib.run_neq_iface_int W 2 1 Tryd.underlying73 (by kernel_rfl) Tryd.underlying162
  have hq1 : ∀ W, (binOp .neq 73 (.iface 162 (.int .i64 1)) (.iface 162 (.int .i64 1))).run Tryd.prog W = .ok (.bool false) W := fun W => Lib.run_neq_iface_int W 1 1 Tryd.underlying73 (by kernel_rfl) Tryd.underlying162
  have hmin : wrap64 (-wrap64 9223372036854775808) = -9223372036854775808 := by
    unfold wrap64
    omega
  have hmv0 : IntKind.u64.wrap (IntKind.u64.wrap 18446744073709551616 - 1) = ((18446744073709551615 : Nat) : Int) := by
    rw [IntKind.wrap_u64, IntKind.wrap_u64]
    decide
  by_cases h43 : s[0].toNat = 43
  · have hp : piE 18446744073709551615 9223372036854775808 s.data.toList = plusE 9223372036854775808 (puV 18446744073709551615 (s.data.toList.drop 1)) := by rw [hL, piE, if_pos h43]; rfl
    have b43 : ((s[0].toNat : Int) == 43) = true := by rw [h43]; rfl
    have hsl : ∀ W, (Instr.slice 9 (.string s) (some (.int .i64 1)) none none).run Tryd.prog W = .ok (.string (s.extract 1 s.size)) W := fun W => by rw [run_slice_string_l (P := Tryd.prog) W 9 s Tryd.underlying9 .i64 1 (by omega) (by omega)]; rfl
    have htl : (s.extract 1 s.size).data.toList = s.data.toList.drop 1 := by rw [extract_list, ← size_len s, List.take_length]
    have hts : (s.extract 1 s.size).size ≤ s.size := by simp only [ByteArray.size_extract]; omega
    generalize s.extract 1 s.size = t at hsl htl hts
    have hU0 := inner_zero t (by omega) 18446744073709551615 (by omega) hmv0 w
    have hle := fun n h => puV_le (M := 18446744073709551615) (l := s.data.toList.drop 1) (n := n) h
    rw [htl] at hU0
    rw [hp]
    generalize puV 18446744073709551615 (s.data.toList.drop 1) = r at hU0 hle
    clear hL hp
    rcases r with u | _ | _
    · have hu := hle u rfl
      obtain ⟨a, ha⟩ : ∃ a : Int, a = (u : Int) := ⟨_, rfl⟩
      simp only [Lib.uintTupleM] at hU0
      rw [← ha] at hU0
      have hU := Lib.hid hU0
      clear hU0 hle
      have a0 : 0 ≤ a := by omega
      have a1 : a ≤ 18446744073709551615 := by omega
      by_cases hout : 9223372036854775808 ≤ u
      · have hres : plusE 9223372036854775808 (.ok u) = (.range, 9223372036854775807) := by simp only [plusE]; rw [if_neg (by omega)]; rfl
        rw [hres]; have iout : 9223372036854775808 ≤ a := by omega
        clear hres hout hu ha
        go_enter Tryd.func107, Tryd.ntmps107
        go_wp2_with (go_at_call 112; refine (hU.out).mono ?_; rintro e w1 ⟨rfl, hb1⟩)
        go_wp2
        go_ret2
        exact ⟨by first | rfl | (simp only [hmin]; rfl), hb1⟩
      · have hres : plusE 9223372036854775808 (.ok u) = (.ok a, 0) := by simp only [plusE]; rw [if_pos (by omega), ha]
        rw [hres]; have iin : a < 9223372036854775808 := by omega
        clear hres hout hu ha
        go_enter Tryd.func107, Tryd.ntmps107
        go_wp2_with (go_at_call 112; refine (hU.out).mono ?_; rintro e w1 ⟨rfl, hb1⟩)
        go_wp2
        go_ret2
        exact ⟨by first | rfl | (simp only [intTup]; congr 4; unfold wrap64; omega), hb1⟩
    · simp only [Lib.uintTupleM] at hU0
      have hU := Lib.hid hU0
      clear hU0 hle
      go_enter Tryd.func107, Tryd.ntmps107
      go_wp2_with (go_at_call 112; refine (hU.out).mono ?_; rintro e w1 ⟨rfl, hb1⟩)
      go_wp2
      go_ret2
      exact ⟨rfl, hb1⟩
    · simp only [Lib.uintTupleM] at hU0
      have hU := Lib.hid hU0
      clear hU0 hle
      go_enter Tryd.func107, Tryd.ntmps107
      go_wp2_with (go_at_call 112; refine (hU.out).mono ?_; rintro e w1 ⟨rfl, hb1⟩)
      go_wp2
      go_ret2
      exact ⟨by first | rfl | (simp only [hmin]; rfl), hb1⟩
  by_cases h45 : s[0].toNat = 45
  · have hp : piE 18446744073709551615 9223372036854775808 s.data.toList = minusE 9223372036854775808 (puV 18446744073709551615 (s.data.toList.drop 1)) := by rw [hL, piE, if_neg h43, if_pos h45]; rfl
    have b43 : ((s[0].toNat : Int) == 43) = false := by rw [h45]; rfl
    have b45 : ((s[0].toNat : Int) == 45) = true := by rw [h45]; rfl
    have hsl : ∀ W, (Instr.slice 9 (.string s) (some (.int .i64 1)) none none).run Tryd.prog W = .ok (.string (s.extract 1 s.size)) W := fun W => by rw [run_slice_string_l (P := Tryd.prog) W 9 s Tryd.underlying9 .i64 1 (by omega) (by omega)]; rfl
    have htl : (s.extract 1 s.size).data.toList = s.data.toList.drop 1 := by rw [extract_list, ← size_len s, List.take_length]
    have hts : (s.extract 1 s.size).size ≤ s.size := by simp only [ByteArray.size_extract]; omega
    generalize s.extract 1 s.size = t at hsl htl hts
    have hU0 := inner_zero t (by omega) 18446744073709551615 (by omega) hmv0 w
    have hle := fun n h => puV_le (M := 18446744073709551615) (l := s.data.toList.drop 1) (n := n) h
    rw [htl] at hU0
    rw [hp]
    generalize puV 18446744073709551615 (s.data.toList.drop 1) = r at hU0 hle
    clear hL hp
    rcases r with u | _ | _
    · have hu := hle u rfl
      obtain ⟨a, ha⟩ : ∃ a : Int, a = (u : Int) := ⟨_, rfl⟩
      simp only [Lib.uintTupleM] at hU0
      rw [← ha] at hU0
      have hU := Lib.hid hU0
      clear hU0 hle
      have a0 : 0 ≤ a := by omega
      have a1 : a ≤ 18446744073709551615 := by omega
      by_cases hout : 9223372036854775808 < u
      · have hres : minusE 9223372036854775808 (.ok u) = (.range, -9223372036854775808) := by simp only [minusE]; rw [if_neg (by omega)]; rfl
        rw [hres]; have iout : 9223372036854775808 < a := by omega
        clear hres hout hu ha
        go_enter Tryd.func107, Tryd.ntmps107
        go_wp2_with (go_at_call 112; refine (hU.out).mono ?_; rintro e w1 ⟨rfl, hb1⟩)
        go_wp2
        go_ret2
        exact ⟨by first | rfl | (simp only [hmin]; rfl), hb1⟩
      · have hres : minusE 9223372036854775808 (.ok u) = (.ok (-a), 0) := by simp only [minusE]; rw [if_pos (by omega), ha]
        rw [hres]; have iin : a ≤ 9223372036854775808 := by omega
        by_cases hc : a = 9223372036854775808
        · have hc2 : u = 9223372036854775808 := by omega
          clear hres hout hu ha
          subst hc
          go_enter Tryd.func107, Tryd.ntmps107
          go_wp2_with (go_at_call 112; refine (hU.out).mono ?_; rintro e w1 ⟨rfl, hb1⟩)
          go_wp2
          go_ret2
          exact ⟨by first | rfl | (simp only [hmin]; rfl), hb1⟩
        replace iin : a < 9223372036854775808 := by omega
        clear hres hout hu ha
        go_enter Tryd.func107, Tryd.ntmps107
        go_wp2_with (go_at_call 112; refine (hU.out).mono ?_; rintro e w1 ⟨rfl, hb1⟩)
        go_wp2
        go_ret2
        exact ⟨by first | rfl | (simp only [intTup]; congr 4; unfold wrap64; omega), hb1⟩
    · simp only [Lib.uintTupleM] at hU0
      have hU := Lib.hid hU0
      clear hU0 hle
      go_enter Tryd.func107, Tryd.ntmps107
      go_wp2_with (go_at_call 112; refine (hU.out).mono ?_; rintro e w1 ⟨rfl, hb1⟩)
      go_wp2
      go_ret2
      exact ⟨rfl, hb1⟩
    · simp only [Lib.uintTupleM] at hU0
      have hU := Lib.hid hU0
      clear hU0 hle
      go_enter Tryd.func107, Tryd.ntmps107
      go_wp2_with (go_at_call 112; refine (hU.out).mono ?_; rintro e w1 ⟨rfl, hb1⟩)
      go_wp2
      go_ret2
      exact ⟨by first | rfl | (simp only [hmin]; rfl), hb1⟩
  have hp : piE 18446744073709551615 9223372036854775808 s.data.toList = plusE 9223372036854775808 (puV 18446744073709551615 s.data.toList) := by rw [hL, piE, if_neg h43, if_neg h45]
  have b43 : ((s[0].toNat : Int) == 43) = false := beq_false_of_ne (by omega)
  have b45 : ((s[0].toNat : Int) == 45) = false := beq_false_of_ne (by omega)
  have hU0 := inner_zero s (by omega) 18446744073709551615 (by omega) hmv0 w
  have hle := fun n h => puV_le (M := 18446744073709551615) (l := s.data.toList) (n := n) h
  rw [hp]
  generalize puV 18446744073709551615 (s.data.toList) = r at hU0 hle
  clear hL hp
  rcases r with u | _ | _
  · have hu := hle u rfl
    obtain ⟨a, ha⟩ : ∃ a : Int, a = (u : Int) := ⟨_, rfl⟩
    simp only [Lib.uintTupleM] at hU0
    rw [← ha] at hU0
    have hU := Lib.hid hU0
    clear hU0 hle
    have a0 : 0 ≤ a := by omega
    have a1 : a ≤ 18446744073709551615 := by omega
    by_cases hout : 9223372036854775808 ≤ u
    · have hres : plusE 9223372036854775808 (.ok u) = (.range, 9223372036854775807) := by simp only [plusE]; rw [if_neg (by omega)]; rfl
      rw [hres]; have iout : 9223372036854775808 ≤ a := by omega
      clear hres hout hu ha
      go_enter Tryd.func107, Tryd.ntmps107
      go_wp2_with (go_at_call 112; refine (hU.out).mono ?_; rintro e w1 ⟨rfl, hb1⟩)
      go_wp2
      go_ret2
      exact ⟨by first | rfl | (simp only [hmin]; rfl), hb1⟩
    · have hres : plusE 9223372036854775808 (.ok u) = (.ok a, 0) := by simp only [plusE]; rw [if_pos (by omega), ha]
      rw [hres]; have iin : a < 9223372036854775808 := by omega
      clear hres hout hu ha
      go_enter Tryd.func107, Tryd.ntmps107
      go_wp2_with (go_at_call 112; refine (hU.out).mono ?_; rintro e w1 ⟨rfl, hb1⟩)
      go_wp2
      go_ret2
      exact ⟨by first | rfl | (simp only [intTup]; congr 4; unfold wrap64; omega), hb1⟩
  · simp only [Lib.uintTupleM] at hU0
    have hU := Lib.hid hU0
    clear hU0 hle
    go_enter Tryd.func107, Tryd.ntmps107
    go_wp2_with (go_at_call 112; refine (hU.out).mono ?_; rintro e w1 ⟨rfl, hb1⟩)
    go_wp2
    go_ret2
    exact ⟨rfl, hb1⟩
  · simp only [Lib.uintTupleM] at hU0
    have hU := Lib.hid hU0
    clear hU0 hle
    go_enter Tryd.func107, Tryd.ntmps107
    go_wp2_with (go_at_call 112; refine (hU.out).mono ?_; rintro e w1 ⟨rfl, hb1⟩)
    go_wp2
    go_ret2
    exact ⟨by first | rfl | (simp only [hmin]; rfl), hb1⟩

set_option maxHeartbeats 1600000 in
set_option maxRecDepth 100000 in
theorem parseInt0 (t : ByteArray) (hmax : t.size ≤ 281474976710656) (w : World) (he1 : ErrCell 0 w) (he2 : ErrCell 1 w) :
    Calls Tryd.prog 86 #[.string t, .int .i64 0, .int .i64 0] w fun e w' => IntGot (piE 18446744073709551615 9223372036854775808 t.data.toList) w e w' := by
  have H0 : Calls Tryd.prog 107 #[.string t, .int .i64 0, .int .i64 0] w fun e w' => e = .returned (intTup 162 (piE 18446744073709551615 9223372036854775808 t.data.toList)) ∧ Below w.heap.size w w' := by
    by_cases hne : 0 < t.size
    · exact pi0 t hne (by omega) w
    · have ht : t = ⟨#[]⟩ := ByteArray.ext (Array.eq_empty_of_size_eq_zero (by show t.size = 0; omega))
      subst ht
      exact (Tryd.internal_strconv_ParseInt_empty 0 0 w).mono fun e w' ⟨he, hw⟩ => ⟨he, by rw [hw]; exact Below.refl _ _⟩
  generalize piE 18446744073709551615 9223372036854775808 t.data.toList = v at H0
  have E1 := Lib.hid he1
  have E2 := Lib.hid he2
  clear he1 he2
  unfold IntGot
  rcases v with ⟨v | _ | _, c⟩
  · simp only [intTup] at H0
    have H := Lib.hid H0
    clear H0
    go_enter Tryd.func86, Tryd.ntmps86
    go_wp2_with (go_at_call 107; refine (H.out).mono ?_; rintro e w1 ⟨rfl, hb1⟩)
    go_ret2
    exact ⟨.nilIface, rfl, .inl ⟨rfl, rfl⟩, hb1⟩
  · simp only [intTup] at H0
    have H := Lib.hid H0
    clear H0
    go_enter Tryd.func86, Tryd.ntmps86
    go_wp2_with (first
      | (go_at_call 107; refine (H.out).mono ?_; rintro e w1 ⟨rfl, hb1⟩)
      | (go_at_call 108; obtain ⟨ev, hv, hev⟩ := E1.out.below hb1; refine (Tryd.strconv_toError_syntax _ t 0 0 ev _ hmax hv hev).mono ?_; rintro e w2 ⟨N, rfl, _, _, hb2⟩))
    go_ret2
    exact ⟨_, rfl, .inr ⟨rfl, _, _, rfl⟩, below_step hb1 hb2⟩
  · simp only [intTup] at H0
    have H := Lib.hid H0
    clear H0
    go_enter Tryd.func86, Tryd.ntmps86
    go_wp2_with (first
      | (go_at_call 107; refine (H.out).mono ?_; rintro e w1 ⟨rfl, hb1⟩)
      | (go_at_call 108; obtain ⟨ev, hv, hev⟩ := E2.out.below hb1; refine (Tryd.strconv_toError_range _ t 0 0 ev _ hmax hv hev).mono ?_; rintro e w2 ⟨N, rfl, _, _, hb2⟩))
    go_ret2
    exact ⟨_, rfl, .inr ⟨rfl, _, _, rfl⟩, below_step hb1 hb2⟩


theorem new_count (a : Addr) (b u : Int) (w : World) (hc : w.cell? a = some (.int .i64 u)) (hf : w.frozen? a = false) :
    Calls Tryd.prog 95 #[.int .i64 b, .pointer (some a)] w fun e w' => e = .returned (.pointer (some a)) ∧ w' = w.setCell a (.int .i64 b) := by
  go_enter Tryd.func95, Tryd.ntmps95
  go_wp2
  go_ret
  exact ⟨rfl, rfl⟩

theorem zz_count (a : Addr) (b u : Int) (w : World) (hc : w.cell? a = some (.int .i64 u)) (hf : w.frozen? a = false) :
    Calls Tryd.prog 53 #[.int .i64 b, .pointer (some a)] w fun e w' => e = .returned (.pointer (some a)) ∧ w' = w.setCell a (.int .i64 b) := by
  go_enter Tryd.func53, Tryd.ntmps53
  go_wp2_with (go_at_call 95; refine (new_count a b u _ hc hf).mono ?_; rintro e w' ⟨rfl, rfl⟩)
  go_ret
  exact ⟨rfl, rfl⟩

set_option maxRecDepth 100000 in
theorem string_count (a : Addr) (n : Int) (h0 : -9223372036854775808 ≤ n) (h1 : n ≤ 9223372036854775807) (w : World) (hc : w.cell? a = some (.int .i64 n)) (ht : Pow w) :
    Calls Tryd.prog 55 #[.pointer (some a)] w fun e w' => e = .returned (.string (said n)) ∧ Below w.heap.size w w' := by
  have HT := Lib.hid ht
  clear ht
  go_enter Tryd.func55, Tryd.ntmps55
  go_wp2_with (go_at_call 89; refine (Tryd.strconv_Itoa n (by omega) (by omega) _ HT.out).mono ?_; rintro e w1 ⟨rfl, kk, os, hg⟩)
  go_ret
  exact ⟨rfl, Lib.below_grow _ _ (Nat.le_refl _) _ _⟩

/-- The text that counts one more. -/
def plusOne : ByteArray := ⟨#[43, 49]⟩
def cntP (s : ByteArray) : NumEnd Int × Int := piE 18446744073709551615 9223372036854775808 s.data.toList
/-- What the count is behind a text. -/
def cntV (u : Int) (s : ByteArray) : Int := if s = plusOne then wrap64 (u + 1) else gotV (cntP s)
theorem cntV_in (u : Int) (s : ByteArray) : -9223372036854775808 ≤ cntV u s ∧ cntV u s ≤ 9223372036854775807 := by
  unfold cntV
  split
  · unfold wrap64; omega
  · have := piE_in (M := 18446744073709551615) (C := 9223372036854775808) (by omega) s.data.toList
    unfold cntP; omega
theorem plus_ok : badV (cntP plusOne) = false := by
  have h : cntP plusOne = (.ok 1, 0) := by unfold cntP; decide +kernel
  rw [h]; rfl

set_option maxRecDepth 100000 in
theorem set_count (a : Addr) (s : ByteArray) (u : Int) (w : World) (hc : w.cell? a = some (.int .i64 u)) (hf : w.frozen? a = false) (hs : s.size ≤ 281474976710656) (he1 : ErrCell 0 w) (he2 : ErrCell 1 w) :
    Calls Tryd.prog 54 #[.pointer (some a), .string s] w fun e w' => ∃ E w1, e = .returned E ∧ ((badV (cntP s) = false ∧ E = .nilIface) ∨ (badV (cntP s) = true ∧ ∃ t q, E = .iface t q)) ∧ Below w.heap.size w w1 ∧ w' = w1.setCell a (.int .i64 (cntV u s)) := by
  by_cases hp : s = plusOne
  · have hv : cntV u s = wrap64 (u + 1) := if_pos hp
    rw [hv, hp, plus_ok]
    have HE : ((⟨#[43, 49]⟩ : ByteArray).toList == [43, 49]) = true := by decide +kernel
    clear hv hp hs he1 he2
    unfold plusOne at *
    go_enter Tryd.func54, Tryd.ntmps54
    go_wp2
    go_ret
    exact ⟨_, w, rfl, .inl (by simp), Below.refl _ _, rfl⟩
  · have hv : cntV u s = gotV (cntP s) := if_neg hp
    rw [hv]
    have HE : (s.toList == [43, 49]) = false := by rw [show ([43, 49] : List UInt8) = (⟨#[43, 49]⟩ : ByteArray).toList from by decide +kernel]; exact bytes_ne hp
    have H := Lib.hid (parseInt0 s hs w he1 he2)
    have hi := piE_in (M := 18446744073709551615) (C := 9223372036854775808) (by omega) s.data.toList
    unfold cntP
    clear he1 he2 hv hp
    generalize piE 18446744073709551615 9223372036854775808 s.data.toList = p at H hi ⊢
    unfold IntGot at H
    generalize gotV p = V at H hi ⊢
    generalize badV p = B at H ⊢
    obtain ⟨hi1, hi2⟩ := hi
    have i1 : -9223372036854775808 ≤ V := by omega
    have i2 : V ≤ 9223372036854775807 := by omega
    clear hi1 hi2
    go_enter Tryd.func54, Tryd.ntmps54
    go_wp2_with (go_at_call 86; refine (H.out).mono ?_; rintro e w1 ⟨E, rfl, hE, hb⟩; have HE2 := Lib.hid hE; clear hE; have hc1 := cell_kept hb hc; have hf1 := frozen_kept hb hc hf)
    go_ret
    exact ⟨_, w1, rfl, HE2.out, hb, by first | rfl | (congr 2; go_num)⟩
end Go.Proofs.YtdmpeecocfoocaaDoor.E

namespace Go.Proofs.YtdmpeecocfoocaaDoor.E
open Go.RowKit Go.Proofs
open Go.Lib (NumEnd)
set_option linter.unusedVariables false
set_option linter.unusedSimpArgs false

theorem Tryd.infoIS5 : (Tryd.prog.info? 48).map (fun i => (i.zero, i.size, i.bytes)) = some (some (.agg #[.bool false, .int .i64 0, .string ⟨#[]⟩]), 3, 32) := by kernel_rfl
/-- Rows, one of each number. -/
def rng (f : Nat → List Value) (k : Nat) : List Value := ((List.range k).map f).flatten
theorem rng_succ (f : Nat → List Value) (k : Nat) : rng f (k + 1) = rng f k ++ f k := by
  unfold rng
  rw [List.range_succ, List.map_append, List.flatten_append]
  simp
theorem rng_len {f : Nat → List Value} {n : Nat} (hf : ∀ i, (f i).length = n) : ∀ k, (rng f k).length = k * n
  | 0 => by simp [rng]
  | k + 1 => by rw [rng_succ, List.length_append, rng_len hf k, hf, Nat.succ_mul]
theorem rng_at {f : Nat → List Value} {n : Nat} (hf : ∀ i, (f i).length = n) : ∀ {m k j : Nat}, k < m → j < n → (rng f m)[k * n + j]? = (f k)[j]?
  | 0, _, _, h, _ => by omega
  | m + 1, k, j, h, hj => by
    rw [rng_succ]
    by_cases e : k = m
    · subst e
      rw [List.getElem?_append_right (by rw [rng_len hf]; omega), rng_len hf]
      congr 1; omega
    · have hk : k < m := by omega
      have : (k + 1) * n ≤ m * n := Nat.mul_le_mul_right _ hk
      rw [Nat.succ_mul] at this
      rw [List.getElem?_append_left (by rw [rng_len hf]; omega), rng_at hf hk hj]
/-- The count behind the first k texts. -/
def cntS (d : Int) (xs : List ByteArray) (k : Nat) : Int := (xs.take k).foldl cntV d
theorem cntS_succ {d : Int} {xs : List ByteArray} {k : Nat} (h : k < xs.length) : cntS d xs (k + 1) = cntV (cntS d xs k) (tx xs k) := by
  unfold cntS
  rw [List.take_succ_eq_append_getElem h, tx_lt h, List.foldl_append]; rfl
def cntCells (d : Int) (xs : List ByteArray) (i : Nat) : List Value := [.bool (badV (cntP (tx xs i))), .int .i64 (cntS d xs (i + 1)), .string (said (cntS d xs (i + 1)))]
theorem cntCells_len (d : Int) (xs : List ByteArray) (i : Nat) : (cntCells d xs i).length = 3 := rfl

set_option maxRecDepth 400000 in
set_option maxHeartbeats 3200000 in
theorem intValue_count (d : Int) (A : Option Addr) (cap : Nat) (xs : List ByteArray) (w : World) (hx : StrsAt w A xs) (hm : xs.length ≤ 2147483647) (hs : ∀ j, j < xs.length → (tx xs j).size ≤ 2147483647) (he1 : ErrCell 0 w) (he2 : ErrCell 1 w) (ht : Pow w) (hd1 : -9223372036854775808 ≤ d) (hd2 : d ≤ 9223372036854775807) :
    Calls Tryd.prog 18 #[.int .i64 5, .int .i64 d, .slice A xs.length cap] w fun e w' => ∃ A' c, e = .returned (.slice A' xs.length c) ∧ RowAt w' A' (rng (cntCells d xs) xs.length) ∧ Below w.heap.size w w' := by
  obtain ⟨i0, hi, hz0, hz1, hz2⟩ := info_parts Tryd.infoIS5
  have HS := Lib.hid hs
  have E1 := Lib.hid he1
  have E2 := Lib.hid he2
  have HT := Lib.hid ht
  clear hs he1 he2 ht
  go_enter Tryd.func18, Tryd.ntmps18
  go_wp2_with (go_at_call 53; refine (zz_count _ _ 0 _ (by simp) (by simp)).mono ?_; rintro e w' ⟨rfl, rfl⟩)
  go_loopw [7, 188] (fun v i wr => ∃ k : Nat, k ≤ xs.length ∧ i = .int .i64 k ∧ wr.ownsRow (w.heap.size + 1) 48 3 v k (rng (cntCells d xs) k) ∧ wr.heap[w.heap.size]? = some (.cells #[.int .i64 (cntS d xs k)] 3 (0, 0)) ∧ Below w.heap.size w wr) (fun _ i _ => xs.length - (intOf i).toNat)
  case atStart => exact ⟨0, Nat.zero_le _, rfl, World.ownsRow_nil _ _ _ _, heap_alloc_new w _, (Below.refl _ _).alloc (Nat.le_refl _) _⟩
  case round =>
    obtain ⟨k, hk, rfl, hown, hu, hbel⟩ := hrel
    by_cases hlt : k < xs.length
    · obtain ⟨ba, oa, rfl, hc0⟩ := hx k hlt
      have hc := cell_kept hbel hc0
      have hcp : wr.cell? ⟨w.heap.size, 0, none⟩ = some (.int .i64 (cntS d xs k)) := cell_of_one hu
      have hfp : wr.frozen? ⟨w.heap.size, 0, none⟩ = false := free_of_one hu
      have hsz : (tx xs k).size ≤ 281474976710656 := by have := HS.out k hlt; omega
      have H := Lib.hid (set_count ⟨w.heap.size, 0, none⟩ (tx xs k) (cntS d xs k) wr hcp hfp hsz (E1.out.below hbel) (E2.out.below hbel))
      have hi12 := cntV_in (cntS d xs k) (tx xs k)
      rw [← cntS_succ hlt] at H hi12
      have HP : Hid (cntCells d xs k = [.bool (badV (cntP (tx xs k))), .int .i64 (cntS d xs (k + 1)), .string (said (cntS d xs (k + 1)))]) := rfl
      have HV : Hid (cntS d xs (k + 1) = cntS d xs (k + 1)) := rfl
      generalize badV (cntP (tx xs k)) = BB at H HP
      generalize hV : cntS d xs (k + 1) = V at H hi12 HP
      have HVV := Lib.hid hV
      clear hcp hfp hV HV
      obtain ⟨j1, j2⟩ := hi12
      have HW : Hid (IntKind.i64.wrap V = V) := by show IntKind.i64.wrap V = V; rw [IntKind.wrap_i64]; omega
      go_wp2_with (go_at_call 54; refine (H.out).mono ?_; rintro e w1 ⟨E, w0, rfl, hE, hb0, hw1⟩; obtain ⟨hu1, hown1, hbel1, hs1⟩ := set_step (block_kept hu hb0) (own_kept hown hb0) (below_step hbel hb0) hw1; clear hw1)
      have hcp1 : w1.cell? ⟨w.heap.size, 0, none⟩ = some (.int .i64 V) := cell_of_one hu1
      have HT1 : Hid (Pow w1.drew) := Lib.tabBelow_of_tabIs HT.out w1.drew hbel1.drew
      rcases hE with ⟨hB, rfl⟩ | ⟨hB, te, ve, rfl⟩
      all_goals
        have HB := Lib.hid hB
        clear hB
        go_region_held3 (fun w' => w'.cell? ⟨w.heap.size, 0, none⟩ = some (.int .i64 V)) (first | assumption | (rw [hgrow.cell_far _ (by simp; omega) (Ne.symm hne)]; assumption) | go_keep)
          (first
            | (go_at_call 55; refine (string_count _ V j1 j2 _ ?_ HT1.out).mono ?_; (assumption); rintro e w3 ⟨rfl, hb3⟩; replace hb3 : Below w1.heap.size w1 w3 := ((Below.refl w1.heap.size w1).drew).trans hb3; have hcp3 := cell_kept hb3 hcp1; have hu3 := block_kept hu1 hb3; have hown3 := own_kept hown1 hb3; have hbel3 := below_step hbel1 hb3; have hs3 := lt_of_block hu3; have hne := own_ne hown3 (Nat.lt_succ_self _))
            | (refine step_append_lies _ (by rfl) _ _ _ (by rfl) (w.heap.size + 1) 48 i0 _ 3 32 Tryd.underlying45 hi hz0 hz1 hz2 rfl (by omega) _ k _ (by rfl) (hown3.alloc _) ⟨w3.heap.size, 0, none⟩ 1 1 [.bool _, .int .i64 _, .string (said V)] (by rfl) (by rfl) (World.news_of_block (cs := #[.bool _, .int .i64 _, .string (said V)]) (t := 48) (fr := (0, 0)) (heap_alloc_new w3 _)) (by simp [Value.oneCell']) (by omega) (by unfold maxLen; omega) (by omega) (by simp; omega) (w3.heap.size + 1) (by simp) ?_; intro gg cap w2 hown2 hgrow hat hlt2))
        have hbw : Below w.heap.size w w2 := (hbel3.alloc (by omega) _).grown hgrow (by simp; omega) (fun b hb => by have := (hown3.lt b hb).1; omega)
        have huw : w2.heap[w.heap.size]? = some (.cells #[.int .i64 V] 3 (0, 0)) := by
          rw [hgrow.block w.heap.size (by simp; omega) (Ne.symm hne)]
          show (w3.alloc _).heap[w.heap.size]? = _
          rw [Below.heap_alloc w3 _ _ hs3]; exact hu3
        have hown4 : w2.ownsRow (w.heap.size + 1) 48 3 (.slice (some ⟨gg, 0, none⟩) (k + 1) cap) (k + 1) (rng (cntCells d xs) (k + 1)) := by
          rw [rng_succ, HP.out, HB.out]; (try rw [HW.out] at hown2); exact hown2
        clear hown2
        go_wp2
        go_roundw
        case rel => exact ⟨k + 1, by omega, by go_num, hown4, by rw [HVV.out]; exact huw, hbw⟩
        case measure => simp [intOf]; omega
    · have HK : Hid (k = xs.length) := by show k = _; omega
      have hown1 : wr.ownsRow (w.heap.size + 1) 48 3 u7 xs.length (rng (cntCells d xs) xs.length) := by have e := HK.out; rw [e] at hown; exact hown
      clear hown
      obtain ⟨A', c, rfl, hrow⟩ := own_row hown1
      go_wp2
      go_ret
      exact ⟨A', c, rfl, hrow, hbel⟩

theorem pi_zero (M C : Nat) (l : List UInt8) (v c : Int) (h : piE M C l = (.ok v, c)) : c = 0 := by
  have hp : ∀ q, plusE C q = (.ok v, c) → c = 0 := by
    intro q h
    rcases q with u | _ | _ <;> simp only [plusE] at h
    · split at h <;> (injection h with h1 h2; first | exact h2.symm | cases h1)
    · injection h with h1 h2; cases h1
    · injection h with h1 h2; cases h1
  have hm : ∀ q, minusE C q = (.ok v, c) → c = 0 := by
    intro q h
    rcases q with u | _ | _ <;> simp only [minusE] at h
    · split at h <;> (injection h with h1 h2; first | exact h2.symm | cases h1)
    · injection h with h1 h2; cases h1
    · injection h with h1 h2; cases h1
  cases l with
  | nil => simp only [piE] at h; injection h with h1 h2; cases h1
  | cons x r =>
    simp only [piE] at h
    split at h
    · exact hp _ h
    · split at h
      · exact hm _ h
      · exact hp _ h
/-- What spec.Whole says, and what the count says, of a text. -/
theorem whole_cnt (s : ByteArray) : (∀ v, wholeA 9223372036854775808 s.data.toList = some v → badV (cntP s) = false ∧ gotV (cntP s) = v) ∧ (wholeA 9223372036854775808 s.data.toList = none → badV (cntP s) = true) := by
  constructor
  · intro v h
    unfold cntP
    rw [(wholeA_pi s.data.toList v).1 h]; exact ⟨rfl, rfl⟩
  · intro h
    cases hb : badV (cntP s) with
    | true => rfl
    | false =>
      have e : ∃ v c, cntP s = (.ok v, c) := by
        revert hb
        rcases cntP s with ⟨v | _ | _, c⟩
        · intro _; exact ⟨v, c, rfl⟩
        · intro h; cases h
        · intro h; cases h
      obtain ⟨v, c, e⟩ := e
      have h0 : c = 0 := by
        have := pi_zero 18446744073709551615 9223372036854775808 s.data.toList v c e
        exact this
      rw [h0] at e
      have := (wholeA_pi s.data.toList v).2 e
      rw [h] at this; cases this

theorem whole_all64 (s : ByteArray) (hs : s.size ≤ 2147483647) (w : World) :
    Calls Tryd.prog 12 #[.string s, .int .i64 64, .bool true] w fun e w' => e = .returned (.tuple #[.int .i64 (wholeARes (wholeA 9223372036854775808 s.data.toList)).1, .int .i64 (wholeARes (wholeA 9223372036854775808 s.data.toList)).2]) ∧ Below w.heap.size w w' :=
  whole_all 63 9223372036854775808 (by omega) (by omega) (by omega) (by decide +kernel) s hs w
/-- What the loop keeps of the count that it knows. -/
def CntRel (d : Int) (xs : List ByteArray) (k : Nat) (now sure : Value) : Prop := ∃ (nw : Int) (sr : Bool), now = .int .i64 nw ∧ sure = .bool sr ∧ -9223372036854775808 ≤ nw ∧ nw ≤ 9223372036854775807 ∧ Hid (sr = true → nw = cntS d xs k)

set_option maxRecDepth 400000 in
set_option maxHeartbeats 3200000 in
theorem fnCounts_any (d : Int) (v : Value) (xs : List ByteArray) (w : World) (h : Texts w v xs) (he1 : ErrCell 0 w) (he2 : ErrCell 1 w) (ht : Pow w) (hd : -9223372036854775808 ≤ d ∧ d ≤ 9223372036854775807) :
    Calls Tryd.prog 5 #[.int .i64 d, v] w fun e w' => e = .returned (.bool true) ∧ Below w.heap.size w w' := by
  obtain ⟨A, cap, rfl, hx, hcap, hm0, hA⟩ := h
  have hf := fits2_any A cap xs w hx (by omega)
  cases hr : fits2 xs with
  | false =>
    rw [hr] at hf
    go_enter Tryd.func5, Tryd.ntmps5
    go_wp2_with (go_at_call 7; refine hf.mono ?_; rintro e w' ⟨rfl, rfl⟩)
    go_ret
    exact ⟨rfl, Below.refl _ _⟩
  | true =>
  rw [hr] at hf
  have hm := (fits2_iff.1 hr).1
  have hs := (fits2_iff.1 hr).2
  clear hr
  have HF := Lib.hid hf
  have HV := Lib.hid (intValue_count d A cap xs w hx hm hs he1 he2 ht hd.1 hd.2)
  have HS := Lib.hid hs
  obtain ⟨hd1, hd2⟩ := hd
  clear hs he1 he2 ht hf
  go_enter Tryd.func5, Tryd.ntmps5
  go_wp2_with (first
    | (go_at_call 7; refine (HF.out).mono ?_; rintro e w' ⟨rfl, rfl⟩)
    | (go_at_call 18; refine (HV.out).mono ?_; rintro e w1 ⟨A', c, rfl, hrow, hbel⟩))
  go_loopw [6, 7, 26] (fun now sure i wr => ∃ k : Nat, k ≤ xs.length ∧ i = .int .i64 k ∧ CntRel d xs k now sure ∧ Below w1.heap.size w1 wr) (fun _ _ i _ => xs.length - (intOf i).toNat)
  case atStart => exact ⟨0, Nat.zero_le _, rfl, ⟨d, true, rfl, rfl, hd1, hd2, fun _ => rfl⟩, Below.refl _ _⟩
  case round =>
    obtain ⟨k, hk, rfl, ⟨nw, sr, rfl, rfl, nw1, nw2, HSR⟩, hb2⟩ := hrel
    by_cases hlt : k < xs.length
    · obtain ⟨ba, oa, rfl, hc0⟩ := hx k hlt
      have s0 := rng_at (cntCells_len d xs) hlt (j := 0) (by omega)
      have s1 := rng_at (cntCells_len d xs) hlt (j := 1) (by omega)
      have s2 := rng_at (cntCells_len d xs) hlt (j := 2) (by omega)
      obtain ⟨g, rfl, c0, c1, c2⟩ := row3 hrow s0 s1 s2
      have d0 : wr.cell? ⟨g, k * 3, none⟩ = some (.bool (badV (cntP (tx xs k)))) := cell_kept hb2 c0
      have d1 : wr.cell? ⟨g, k * 3 + 1, none⟩ = some (.int .i64 (cntS d xs (k + 1))) := cell_kept hb2 c1
      have d2 : wr.cell? ⟨g, k * 3 + 2, none⟩ = some (.string (said (cntS d xs (k + 1)))) := cell_kept hb2 c2
      have hc := cell_kept (below_step hbel hb2) hc0
      have hc' : ∀ o, (wr.alloc o).cell? ⟨ba, oa + k, none⟩ = some (.string (tx xs k)) := fun o => cell_kept ((Below.refl _ _).alloc (Nat.le_refl _) o) hc
      have i0 : (0 : Int) ≤ (k : Int) := Int.natCast_nonneg _
      have i1 : (k : Int) < (xs.length : Int) := by omega
      have hsz : (tx xs k).size ≤ 2147483647 := HS.out k hlt
      clear c0 c1 c2 s0 s1 s2 hc0
      have HT := fun w => Lib.hid (whole_all64 (tx xs k) hsz w)
      obtain ⟨hok, hno⟩ := whole_cnt (tx xs k)
      have hcv := cntS_succ (d := d) hlt
      have hin := cntV_in (cntS d xs k) (tx xs k)
      rw [← hcv] at hin
      obtain ⟨v2, v3⟩ := hin
      have hp1 := plus_ok
      have hw1 : wholeA 9223372036854775808 plusOne.data.toList = some 1 := by decide +kernel
      obtain ⟨TX, hTX⟩ : ∃ T, T = tx xs k := ⟨_, rfl⟩
      obtain ⟨V, hV⟩ : ∃ V, V = cntS d xs (k + 1) := ⟨_, rfl⟩
      rw [← hTX] at d0 hc hc' HT hok hno hcv hsz
      rw [← hV] at d1 d2 hcv v2 v3
      by_cases hp : TX = plusOne
      · rw [hp] at d0 HT hcv hc hc'
        rw [hp1] at d0
        rw [hw1] at HT
        have hV2 : V = wrap64 (cntS d xs k + 1) := by rw [hcv]; exact if_pos rfl
        simp only [wholeARes] at HT
        have HE : ((⟨#[43, 49]⟩ : ByteArray).toList == [43, 49]) = true := by decide +kernel
        unfold plusOne at hc hc' HT
        clear hok hno hcv hp hTX hp1 hw1 hsz
        have HVV := Lib.hid hV
        have HV2 := Lib.hid hV2
        clear hV hV2
        cases sr with
        | true =>
          have hnw := HSR.out rfl
          rw [← hnw] at HV2
          have hV3 : wrap64 (nw + 1) = V := HV2.out.symm
          clear hnw
          go_wp2_with (go_at_call 12; refine ((HT _).out).mono ?_; rintro e w2 ⟨rfl, hb3⟩; have hb4 : Below w1.heap.size w1 w2 := (hb2.alloc hb2.size _).trans (hb3.mono (by have := hb2.size; simp; omega)); have q0 : w2.cell? ⟨wr.heap.size, 0, none⟩ = some (.bool false) := (cell_kept hb3 (cell_of_row _ _ 0 _ _ _ (heap_alloc_new wr _))); have q1 : w2.cell? ⟨wr.heap.size, 1, none⟩ = some (.int .i64 V) := (cell_kept hb3 (cell_of_row _ _ 1 _ _ _ (heap_alloc_new wr _))); have q2 : w2.cell? ⟨wr.heap.size, 2, none⟩ = some (.string (said V)) := (cell_kept hb3 (cell_of_row _ _ 2 _ _ _ (heap_alloc_new wr _))); have qc : w2.cell? ⟨ba, oa + k, none⟩ = some (.string ⟨#[43, 49]⟩) := (cell_kept hb3 (hc' _)); clear hb3)
          clear d0 d1 d2 hc hc' HT
          go_region_held3 (fun w' => w'.cell? ⟨wr.heap.size, 0, none⟩ = some (.bool false) ∧ w'.cell? ⟨wr.heap.size, 1, none⟩ = some (.int .i64 V) ∧ w'.cell? ⟨wr.heap.size, 2, none⟩ = some (.string (said V))) (first | (exact ⟨by assumption, by assumption, by assumption⟩) | go_keep)
            ((go_at_call 19; refine (numeral_any V v2 v3 _).mono ?_; rintro e w3 ⟨rfl, hb5⟩; have r0 := cell_kept hb5 q0; have r1 := cell_kept hb5 q1; have r2 := cell_kept hb5 q2))
          go_wp2
          go_roundw
          case rel => exact ⟨k + 1, by omega, by go_num, ⟨V, true, rfl, rfl, v2, v3, fun _ => HVV.out⟩, hb4.trans (((Below.refl _ _).drew.trans hb5).mono hb4.size)⟩
          case measure => simp [intOf]; omega
        | false =>
          have n1 : -9223372036854775808 ≤ wrap64 (nw + 1) := by unfold wrap64; omega
          have n2 : wrap64 (nw + 1) ≤ 9223372036854775807 := by unfold wrap64; omega
          have N1 := Lib.hid n1
          have N2 := Lib.hid n2
          clear n1 n2
          go_wp2_with (go_at_call 12; refine ((HT _).out).mono ?_; rintro e w2 ⟨rfl, hb3⟩; have hb4 : Below w1.heap.size w1 w2 := (hb2.alloc hb2.size _).trans (hb3.mono (by have := hb2.size; simp; omega)); have q0 : w2.cell? ⟨wr.heap.size, 0, none⟩ = some (.bool false) := (cell_kept hb3 (cell_of_row _ _ 0 _ _ _ (heap_alloc_new wr _))); have q1 : w2.cell? ⟨wr.heap.size, 1, none⟩ = some (.int .i64 V) := (cell_kept hb3 (cell_of_row _ _ 1 _ _ _ (heap_alloc_new wr _))); have q2 : w2.cell? ⟨wr.heap.size, 2, none⟩ = some (.string (said V)) := (cell_kept hb3 (cell_of_row _ _ 2 _ _ _ (heap_alloc_new wr _))); have qc : w2.cell? ⟨ba, oa + k, none⟩ = some (.string ⟨#[43, 49]⟩) := (cell_kept hb3 (hc' _)); clear hb3)
          go_quiet (fail)
          go_wp2
          go_roundw
          case rel => exact ⟨k + 1, by omega, by go_num, ⟨wrap64 (nw + 1), false, rfl, rfl, N1.out, N2.out, fun h => by cases h⟩, bdrew hb4 _⟩
          case measure => simp [intOf]; omega
      · have hV2 : V = gotV (cntP TX) := by rw [hcv]; exact if_neg hp
        have HE : (TX.toList == [43, 49]) = false := by rw [show ([43, 49] : List UInt8) = (⟨#[43, 49]⟩ : ByteArray).toList from by decide +kernel]; exact bytes_ne hp
        generalize wholeA 9223372036854775808 TX.data.toList = q at HT hok hno
        clear hcv hp hTX hp1 hw1 hsz
        cases q with
        | some x =>
          obtain ⟨f1, f2⟩ := hok x rfl
          rw [f1] at d0
          have hxv : x = V := by rw [hV2, f2]
          rw [hxv] at HT
          have HVV := Lib.hid hV
          simp only [wholeARes] at HT
          clear hok hno f1 f2 hV2 hV hxv
          go_wp2_with (go_at_call 12; refine ((HT _).out).mono ?_; rintro e w2 ⟨rfl, hb3⟩; have hb4 : Below w1.heap.size w1 w2 := (hb2.alloc hb2.size _).trans (hb3.mono (by have := hb2.size; simp; omega)); have q0 : w2.cell? ⟨wr.heap.size, 0, none⟩ = some (.bool false) := (cell_kept hb3 (cell_of_row _ _ 0 _ _ _ (heap_alloc_new wr _))); have q1 : w2.cell? ⟨wr.heap.size, 1, none⟩ = some (.int .i64 V) := (cell_kept hb3 (cell_of_row _ _ 1 _ _ _ (heap_alloc_new wr _))); have q2 : w2.cell? ⟨wr.heap.size, 2, none⟩ = some (.string (said V)) := (cell_kept hb3 (cell_of_row _ _ 2 _ _ _ (heap_alloc_new wr _))); have qc : w2.cell? ⟨ba, oa + k, none⟩ = some (.string TX) := (cell_kept hb3 (hc' _)); clear hb3)
          clear d0 d1 d2 hc hc' HT
          go_region_held3 (fun w' => w'.cell? ⟨wr.heap.size, 0, none⟩ = some (.bool false) ∧ w'.cell? ⟨wr.heap.size, 1, none⟩ = some (.int .i64 V) ∧ w'.cell? ⟨wr.heap.size, 2, none⟩ = some (.string (said V))) (first | (exact ⟨by assumption, by assumption, by assumption⟩) | go_keep)
            ((go_at_call 19; refine (numeral_any V v2 v3 _).mono ?_; rintro e w3 ⟨rfl, hb5⟩; have r0 := cell_kept hb5 q0; have r1 := cell_kept hb5 q1; have r2 := cell_kept hb5 q2))
          go_wp2
          go_roundw
          case rel => exact ⟨k + 1, by omega, by go_num, ⟨V, true, rfl, rfl, v2, v3, fun _ => HVV.out⟩, hb4.trans (((Below.refl _ _).drew.trans hb5).mono hb4.size)⟩
          case measure => simp [intOf]; omega
        | none =>
          have f1 := hno rfl
          rw [f1] at d0
          simp only [wholeARes] at HT
          clear hok hno f1 hV2 hV
          go_wp2_with (go_at_call 12; refine ((HT _).out).mono ?_; rintro e w2 ⟨rfl, hb3⟩; have hb4 : Below w1.heap.size w1 w2 := (hb2.alloc hb2.size _).trans (hb3.mono (by have := hb2.size; simp; omega)); have q0 : w2.cell? ⟨wr.heap.size, 0, none⟩ = some (.bool true) := (cell_kept hb3 (cell_of_row _ _ 0 _ _ _ (heap_alloc_new wr _))); have q1 : w2.cell? ⟨wr.heap.size, 1, none⟩ = some (.int .i64 V) := (cell_kept hb3 (cell_of_row _ _ 1 _ _ _ (heap_alloc_new wr _))); have q2 : w2.cell? ⟨wr.heap.size, 2, none⟩ = some (.string (said V)) := (cell_kept hb3 (cell_of_row _ _ 2 _ _ _ (heap_alloc_new wr _))); have qc : w2.cell? ⟨ba, oa + k, none⟩ = some (.string TX) := (cell_kept hb3 (hc' _)); clear hb3)
          go_roundw
          case rel => exact ⟨k + 1, by omega, by go_num, ⟨nw, false, rfl, rfl, nw1, nw2, fun h => by cases h⟩, hb4⟩
          case measure => simp [intOf]; omega
    · go_wp2
      go_ret
      exact ⟨rfl, below_step hbel hb2⟩
end Go.Proofs.YtdmpeecocfoocaaDoor.E
