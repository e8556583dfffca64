/- internal/strconv.ParseUint at base 0: a text that begins z. Written by gen_parseuint.py. -/
import Derived.Test.YtdmpeecocfoocaaDoorPuD
namespace Go.Proofs.YtdmpeecocfoocaaDoor.E
open Go.RowKit Go.Proofs
set_option linter.unusedVariables false
set_option linter.unusedSimpArgs false


set_option maxHeartbeats 8000000 in
set_option maxRecDepth 100000 in
theorem pu_z (nb M : Nat) (hb : 1 ≤ nb ∧ nb ≤ 64) (hM : M ≤ 18446744073709551615) (hmv : IntKind.u64.wrap (IntKind.u64.wrap (2 ^ nb) - 1) = (M : Int)) (t : ByteArray) (hne : 0 < t.size) (hmax : t.size ≤ 9223372036854775806) (h0 : t[0].toNat = 48) (h3 : 3 ≤ t.size) (h1 : ¬ lowB (t[1]'(by omega)).toNat = 98 ∧ ¬ lowB (t[1]'(by omega)).toNat = 111 ∧ ¬ lowB (t[1]'(by omega)).toNat = 120) (w : World)
    (ok : Bool) (HU : ∀ W, Calls Tryd.prog 123 #[.string t] W fun e w' => e = .returned (.bool ok) ∧ W = w') :
    Calls Tryd.prog 112 #[.string t, .int .i64 0, .int .i64 nb] w fun e w' => e = .returned (puTup 162 M ok (puScan 8 M 0 false ((t.extract 1 t.size).data.toList))) ∧ Below w.heap.size w w' := by
  have hemp : t.toList.isEmpty = false := by
    rw [← decide_eq_emptyBytes]
    exact decide_eq_false (fun h => by rw [h] at hne; exact absurd hne (by decide))
  have HU := Lib.hid HU
  have b0 : ((t[0].toNat : Int) == 48) = true := by rw [h0]; rfl
  have s3 : (3 : Int) ≤ (t.size : Int) := by omega
  have n1 : 1 < t.size := by omega
  have q98 : (bits BinOp.or IntKind.u8 ((t[1]'(by omega)).toNat : Int) 32 == 98) = false := beq_false_of_ne h1.1
  have q111 : (bits BinOp.or IntKind.u8 ((t[1]'(by omega)).toNat : Int) 32 == 111) = false := beq_false_of_ne h1.2.1
  have q120 : (bits BinOp.or IntKind.u8 ((t[1]'(by omega)).toNat : Int) 32 == 120) = false := beq_false_of_ne h1.2.2
  obtain ⟨u, hu⟩ : ∃ u, u = t.extract 1 t.size := ⟨_, rfl⟩
  have hus : u.size ≤ t.size := by rw [hu]; simp only [ByteArray.size_extract]; omega
  have HB0 := Lib.hid (bytes_below w 5 u)
  have hcv := Lib.run_convert_string_bytes (P := Tryd.prog) w 9 132 5 u (u := .string) Tryd.underlying9 Tryd.underlying132 Tryd.underlying5
  have hB : ∀ j, j < u.size → (Lib.bytesWorld w 5 u).cell? ⟨w.heap.size, j, none⟩ = some (.int .u8 (u.data.toList.getD j 0).toNat) := fun j hj => Lib.bytesWorld_cell w 5 u j hj
  obtain ⟨W1, hW1⟩ : ∃ W1, W1 = Lib.bytesWorld w 5 u := ⟨_, rfl⟩
  rw [← hW1] at hcv hB HB0
  replace hcv : (convert 9 132 (.string (t.extract 1 t.size))).run Tryd.prog w = .ok (.slice (some ⟨w.heap.size, 0, none⟩) u.size (grownCap w u.size 0 5)) W1 := by rw [← hu]; exact hcv
  clear hW1
  obtain ⟨bs, hL⟩ : ∃ bs, bs = u.data.toList := ⟨_, rfl⟩
  have hLn : bs.length = u.size := by rw [hL, Lib.size_eq]

  rw [← hu, ← hL]
  rw [← hL] at hB
  clear hL
  have hsl : (Instr.slice 9 (.string t) (some (.int .i64 1)) none none).run Tryd.prog w = .ok (.string (t.extract 1 t.size)) w := by rw [run_slice_string_l (P := Tryd.prog) w 9 t Tryd.underlying9 .i64 1 (by omega) (by omega)]; rfl
  have s1 : (1 : Int) ≤ (t.size : Int) := by omega
  have z1 : ((nb : Int) == 0) = false := beq_false_of_ne (by omega)
  have z2 : ¬ (nb : Int) < 0 := by omega
  have z3 : ¬ (64 : Int) < (nb : Int) := by omega
  clear hu
  go_enter Tryd.func112, Tryd.ntmps112
  go_wp2
  have HM := Lib.hid hM
  clear hM
  go_loop [12, 13, 101] (fun vu vn vi => PuRel 8 M u.size bs vu vn vi) (fun _ _ vi => u.size - (intOf vi).toNat)
  case atStart => exact ⟨0, 0, false, 0, rfl, rfl, rfl, by omega, rfl, by omega, rfl⟩
  case round =>
    obtain ⟨k, acc, us, a, rfl, rfl, rfl, hk, hh⟩ := hrel
    obtain ⟨ha, hacc, hdec⟩ := hh.out
    clear hh
    have a0 : 0 ≤ a := by omega
    have hM := HM.out
    have a1 : a ≤ M := by omega
    by_cases hkn : k < u.size
    · have hc := hB k hkn
      have hdrop : bs.drop k = bs[k]'(by omega) :: bs.drop (k + 1) := List.drop_eq_getElem_cons (by omega)
      have hget : bs.getD k 0 = bs[k]'(by omega) := by simp [List.getD, List.getElem?_eq_getElem (show k < bs.length by omega)]
      rw [hdrop] at hdec
      rw [hget] at hc
      generalize bs[k]'(by omega) = c at hc hdec
      have hc256 : c.toNat < 256 := c.toNat_lt
      clear hdrop hget
      obtain ⟨lo0, hi0, hcls⟩ := lowB_facts ⟨c.toNat, hc256⟩
      unfold lowB at lo0 hi0 hcls
      simp only at lo0 hi0 hcls
      by_cases hund : c.toNat = 95
      · have bu : ((c.toNat : Int) == 95) = true := by rw [hund]; rfl
        have HN : Hid (a = (acc : Int) ∧ acc ≤ M ∧ puScan 8 M 0 false bs = puScan 8 M acc true (bs.drop (k + 1))) := Lib.hid ⟨ha, hacc, hdec.trans (by rw [puScan, if_pos hund])⟩
        clear hdec hacc ha hund hcls hB hM
        go_wp2
        go_round
        case rel => exact ⟨k + 1, acc, true, a, rfl, rfl, (by first | rfl | (congr 1; omega)), by omega, HN⟩
        case measure => simp [intOf]; omega
      · have bu : ((c.toNat : Int) == 95) = false := beq_false_of_ne (by omega)
        by_cases hdig : 48 ≤ c.toNat ∧ c.toNat ≤ 57
        · have hD := dig0_num hdig
          have e1 : (48 : Int) ≤ (c.toNat : Int) := by omega
          have e2 : (c.toNat : Int) ≤ 57 := by omega
          by_cases hbig : (8 : Int) ≤ (c.toNat : Int) - 48
          · have HF := Lib.hid (hdec.trans (show puScan 8 M acc us (c :: bs.drop (k + 1)) = Go.Lib.NumEnd.syntax by rw [puScan, if_neg hund, if_pos (.inr (by rw [hD]; exact hbig))]))
            clear hdec hacc ha hD hund hcls hB hM
            go_wp2
            go_ret2
            exact ⟨by rw [HF.out]; rfl, HB0.out⟩
          · replace hbig : (c.toNat : Int) - 48 < 8 := by omega
            have hn : ¬ (dig0 c.toNat = -1 ∨ ((8 : Nat) : Int) ≤ dig0 c.toNat) := by rw [hD]; omega
            by_cases hcut : 2305843009213693952 ≤ a
            · have HF := Lib.hid (hdec.trans (show puScan 8 M acc us (c :: bs.drop (k + 1)) = .range by rw [puScan, if_neg hund, if_neg hn, if_pos (by rw [hD]; omega)]))
              clear hdec hacc ha hD hund hcls hB hn hM
              go_wp2
              go_ret2
              exact ⟨by rw [HF.out]; rfl, HB0.out⟩
            · replace hcut : a < 2305843009213693952 := by omega
              have ho6 : a * 8 + ((c.toNat : Int) - 48) ≤ 18446744073709551615 := by omega
              by_cases hov : (M : Int) < a * 8 + ((c.toNat : Int) - 48)
              · have HF := Lib.hid (hdec.trans (show puScan 8 M acc us (c :: bs.drop (k + 1)) = .range by rw [puScan, if_neg hund, if_neg hn, if_pos (by rw [hD]; omega)]))
                clear hdec hacc ha hD hund hcls hB hn hM
                go_wp2
                go_ret2
                exact ⟨by rw [HF.out]; rfl, HB0.out⟩
              · replace hov : a * 8 + ((c.toNat : Int) - 48) ≤ M := by omega
                have hst : puScan 8 M acc us (c :: bs.drop (k + 1)) = puScan 8 M (acc * 8 + (dig0 c.toNat).toNat) us (bs.drop (k + 1)) := by rw [puScan, if_neg hund, if_neg hn, if_neg (by rw [hD]; omega)]
                have HN : Hid (a * 8 + ((c.toNat : Int) - 48) = ((acc * 8 + (dig0 c.toNat).toNat : Nat) : Int) ∧ acc * 8 + (dig0 c.toNat).toNat ≤ M ∧ puScan 8 M 0 false bs = puScan 8 M (acc * 8 + (dig0 c.toNat).toNat) us (bs.drop (k + 1))) := Lib.hid ⟨by rw [hD]; omega, by rw [hD]; omega, hdec.trans hst⟩
                clear hdec hacc ha hD hund hcls hB hn hst hM
                go_wp2
                go_round
                case rel => exact ⟨k + 1, acc * 8 + (dig0 c.toNat).toNat, us, a * 8 + ((c.toNat : Int) - 48), rfl, (by first | rfl | (congr 1; omega)), (by first | rfl | (congr 1; omega)), by omega, HN⟩
                case measure => simp [intOf]; omega
        · rcases hcls hdig with ⟨l0, l1, l2, hD⟩ | ⟨hl, hD⟩
          · have e1 : (48 : Int) ≤ (c.toNat : Int) := by omega
            have e2 : ¬ (c.toNat : Int) ≤ 57 := by omega
            have hbig : (8 : Int) ≤ bits BinOp.or IntKind.u8 (c.toNat : Int) 32 - 97 + 10 := by omega
            have HF := Lib.hid (hdec.trans (show puScan 8 M acc us (c :: bs.drop (k + 1)) = Go.Lib.NumEnd.syntax by rw [puScan, if_neg hund, if_pos (.inr (by rw [hD]; exact hbig))]))
            clear hdec hacc ha hD hund hcls hB hM
            go_wp2
            go_ret2
            exact ⟨by rw [HF.out]; rfl, HB0.out⟩
          · have HF := Lib.hid (hdec.trans (show puScan 8 M acc us (c :: bs.drop (k + 1)) = Go.Lib.NumEnd.syntax by rw [puScan, if_neg hund, if_pos (.inl hD)]))
            clear hdec hacc ha hD hund hcls hB hM
            rcases hl with ⟨e1, l1⟩ | ⟨e1, l1⟩ | ⟨e1, l1, l2⟩
            · replace e1 : ¬ (48 : Int) ≤ (c.toNat : Int) := by omega
              have l2 : ¬ (97 : Int) ≤ bits BinOp.or IntKind.u8 (c.toNat : Int) 32 := by omega
              go_wp2
              go_ret2
              exact ⟨by rw [HF.out]; rfl, HB0.out⟩
            · have e2 : ¬ (c.toNat : Int) ≤ 57 := by omega
              replace e1 : (48 : Int) ≤ (c.toNat : Int) := by omega
              have l2 : ¬ (97 : Int) ≤ bits BinOp.or IntKind.u8 (c.toNat : Int) 32 := by omega
              go_wp2
              go_ret2
              exact ⟨by rw [HF.out]; rfl, HB0.out⟩
            · have e2 : ¬ (c.toNat : Int) ≤ 57 := by omega
              replace e1 : (48 : Int) ≤ (c.toNat : Int) := by omega
              have l3 : ¬ bits BinOp.or IntKind.u8 (c.toNat : Int) 32 ≤ 122 := by omega
              go_wp2
              go_ret2
              exact ⟨by rw [HF.out]; rfl, HB0.out⟩
    · have hkk : k = u.size := by omega
      subst hkk
      have HF := Lib.hid (hdec.trans (show puScan 8 M acc us (bs.drop u.size) = .ok (acc, us) by rw [List.drop_eq_nil_of_le (by omega), puScan]))
      subst ha
      clear hdec hacc a0 a1 hB hM
      cases us with
      | false =>
        go_wp2
        go_ret2
        exact ⟨by rw [HF.out]; rfl, HB0.out⟩
      | true =>
        cases ok
        all_goals
          go_wp2_with (go_at_call 123; refine (HU.out _).mono ?_; rintro e w' ⟨rfl, rfl⟩)
          go_ret2
          exact ⟨by rw [HF.out]; rfl, HB0.out⟩

end Go.Proofs.YtdmpeecocfoocaaDoor.E
