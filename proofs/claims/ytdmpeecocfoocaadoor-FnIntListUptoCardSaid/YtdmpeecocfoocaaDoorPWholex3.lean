-- PRINTED BY print.sh 35421559b90ae4d0a3588c463048766b98c2df88dd9212a6774a882060cdf62d: not written by this session
import Derived.Test.YtdmpeecocfoocaaDoorPWholex0
import Derived.Test.YtdmpeecocfoocaaDoorPWholex1
import Derived.Test.YtdmpeecocfoocaaDoorPWholex2
namespace Go.Proofs.YtdmpeecocfoocaaDoor.PWhole
open Go.RowKit Go.Proofs.YtdmpeecocfoocaaDoorW.PrintWords Go.Proofs.YtdmpeecocfoocaaDoorW.PrintLast Go.Proofs.YtdmpeecocfoocaaDoorW.PrintMore
attribute [local go_sem] max2_int min2_int max_two min_two max_three min_three max_four min_four   -- for this text's walks alone
set_option linter.unusedVariables false
set_option linter.unusedSimpArgs false

/-! ### spec_plain29: function 81 -/
mutual
def spec_plain29.j0 : Nat → ByteArray → Int → Bool → Option (Bool)
  | 0, _, _, _ => none
  | k + 1, x3, x4, x27 => if x27 = true then (some false) else (spec_plain29.l0 k x3 x4 (x3.size : Int) 0)
def spec_plain29.l0 : Nat → ByteArray → Int → Int → Int → Option (Bool)
  | 0, _, _, _, _ => none
  | k + 1, x3, x4, x29, x30 => if x30 < x29 then (if 0 ≤ x30 then (if x30 < (x3.size : Int) then ((spec_digit29.f k (bt x3 x30) x4).bind fun t104 => (if t104 < 0 then (some false) else (spec_plain29.l0 k x3 x4 x29 (wrap64 (x30 + 1))))) else (none)) else (none)) else (some true)
end
def spec_plain29.f (k : Nat) (a0 : ByteArray) : Option (Bool) := (spec_prefixed29.f k a0).bind fun bt102 => (if bt102.2 = 2 then (spec_plain29.j0 k bt102.1 bt102.2 true) else (if bt102.2 = 8 then (if 1 < (a0.size : Int) then (if 0 < (bt102.1.size : Int) then (if (bt a0 1) = (bt bt102.1 0) then (spec_plain29.j0 k bt102.1 bt102.2 (bt102.1.toList == ([] : List UInt8))) else (spec_plain29.j0 k bt102.1 bt102.2 true)) else (none)) else (none)) else (spec_plain29.j0 k bt102.1 bt102.2 (bt102.1.toList == ([] : List UInt8)))))
theorem spec_plain29.mono_l : ∀ k, (∀ y0 y1 y2, LeO (spec_plain29.j0 k y0 y1 y2) (spec_plain29.j0 (k + 1) y0 y1 y2)) ∧ (∀ y0 y1 y2 y3, LeO (spec_plain29.l0 k y0 y1 y2 y3) (spec_plain29.l0 (k + 1) y0 y1 y2 y3))
  | 0 => ⟨fun _ _ _ r h => by simp [spec_plain29.j0] at h, fun _ _ _ _ r h => by simp [spec_plain29.l0] at h⟩
  | k + 1 => by
    obtain ⟨ih0, ih1⟩ := spec_plain29.mono_l k
    refine ⟨?_, ?_⟩
    · intro y0 y1 y2
      unfold spec_plain29.j0
      repeat' first
      | (with_reducible exact ih0 _ _ _)
      | (with_reducible exact ih1 _ _ _ _)
      | (with_reducible exact spec_digit29.mono _ _ _)
      | (with_reducible exact spec_prefixed29.mono _ _)
      | (with_reducible exact LeO.refl _)
      | (with_reducible exact LeO.none _)
      | (with_reducible refine LeO.ite ?_ ?_)
      | (with_reducible refine LeO.bind ?_ (fun _ => ?_))
      | exact ih0 _ _ _
      | exact ih1 _ _ _ _
      | exact spec_digit29.mono _ _ _
      | exact spec_prefixed29.mono _ _
      | exact LeO.none _
      | refine LeO.ite ?_ ?_
      | refine LeO.bind ?_ (fun _ => ?_)
    · intro y0 y1 y2 y3
      unfold spec_plain29.l0
      repeat' first
      | (with_reducible exact ih0 _ _ _)
      | (with_reducible exact ih1 _ _ _ _)
      | (with_reducible exact spec_digit29.mono _ _ _)
      | (with_reducible exact spec_prefixed29.mono _ _)
      | (with_reducible exact LeO.refl _)
      | (with_reducible exact LeO.none _)
      | (with_reducible refine LeO.ite ?_ ?_)
      | (with_reducible refine LeO.bind ?_ (fun _ => ?_))
      | exact ih0 _ _ _
      | exact ih1 _ _ _ _
      | exact spec_digit29.mono _ _ _
      | exact spec_prefixed29.mono _ _
      | exact LeO.none _
      | refine LeO.ite ?_ ?_
      | refine LeO.bind ?_ (fun _ => ?_)
theorem spec_plain29.mono : ∀ a0 k, LeO (spec_plain29.f k a0) (spec_plain29.f (k + 1) a0) := by
  intro a0 k
  obtain ⟨ih0, ih1⟩ := spec_plain29.mono_l k
  unfold spec_plain29.f
  repeat' first
      | (with_reducible exact ih0 _ _ _)
      | (with_reducible exact ih1 _ _ _ _)
      | (with_reducible exact spec_digit29.mono _ _ _)
      | (with_reducible exact spec_prefixed29.mono _ _)
      | (with_reducible exact LeO.refl _)
      | (with_reducible exact LeO.none _)
      | (with_reducible refine LeO.ite ?_ ?_)
      | (with_reducible refine LeO.bind ?_ (fun _ => ?_))
      | exact ih0 _ _ _
      | exact ih1 _ _ _ _
      | exact spec_digit29.mono _ _ _
      | exact spec_prefixed29.mono _ _
      | exact LeO.none _
      | refine LeO.ite ?_ ?_
      | refine LeO.bind ?_ (fun _ => ?_)
set_option maxHeartbeats 8000000 in
set_option maxRecDepth 100000 in
theorem spec_plain29.calls (k : Nat) (a0 : ByteArray) (r : Bool) (w : World) (h : spec_plain29.f k a0 = some r) :
    Calls Tryd.prog 81 #[.string a0] w fun e w' => e = .returned (.bool r) ∧ Drawn0 w w' := by
  have H : ((spec_prefixed29.f k a0).bind fun bt102 => (if bt102.2 = 2 then (spec_plain29.j0 k bt102.1 bt102.2 true) else (if bt102.2 = 8 then (if 1 < (a0.size : Int) then (if 0 < (bt102.1.size : Int) then (if (bt a0 1) = (bt bt102.1 0) then (spec_plain29.j0 k bt102.1 bt102.2 (bt102.1.toList == ([] : List UInt8))) else (spec_plain29.j0 k bt102.1 bt102.2 true)) else (none)) else (none)) else (spec_plain29.j0 k bt102.1 bt102.2 (bt102.1.toList == ([] : List UInt8)))))) = some r := h
  clear h
  replace H := Option.bind_eq_some_iff.mp H
  obtain ⟨⟨t102, t103⟩, A20, H⟩ := H
  replace H : (if t103 = 2 then (spec_plain29.j0 k t102 t103 true) else (if t103 = 8 then (if 1 < (a0.size : Int) then (if 0 < (t102.size : Int) then (if (bt a0 1) = (bt t102 0) then (spec_plain29.j0 k t102 t103 (t102.toList == ([] : List UInt8))) else (spec_plain29.j0 k t102 t103 true)) else (none)) else (none)) else (spec_plain29.j0 k t102 t103 (t102.toList == ([] : List UInt8))))) = some r := H
  have A2 := Aside0.mk A20
  clear A20
  have HC3 := Aside0.mk H
  clear H
  go_enter Tryd.func81, Tryd.ntmps81
  go_upto_region 2 with (first | (go_at_call 82; (with_reducible refine (spec_prefixed29.calls k a0 t102 t103 _ A2.out).mono ?_); rintro e w' ⟨rfl, ⟨nd, rfl⟩⟩; (try first | exact ⟨rfl, _, World.drewN_drewN _ _ _⟩ | exact ⟨rfl, _, Eq.trans (World.drewN_drewN _ _ _) (congrArg (World.drewN _) (Nat.add_assoc _ _ _))⟩)))
  repeat (go_quiet (first | (go_at_call 82; (with_reducible refine (spec_prefixed29.calls k a0 t102 t103 _ A2.out).mono ?_); rintro e w' ⟨rfl, ⟨nd, rfl⟩⟩; (try first | exact ⟨rfl, _, World.drewN_drewN _ _ _⟩ | exact ⟨rfl, _, Eq.trans (World.drewN_drewN _ _ _) (congrArg (World.drewN _) (Nat.add_assoc _ _ _))⟩))); go_upto_region 2 with (first | (go_at_call 82; (with_reducible refine (spec_prefixed29.calls k a0 t102 t103 _ A2.out).mono ?_); rintro e w' ⟨rfl, ⟨nd, rfl⟩⟩; (try first | exact ⟨rfl, _, World.drewN_drewN _ _ _⟩ | exact ⟨rfl, _, Eq.trans (World.drewN_drewN _ _ _) (congrArg (World.drewN _) (Nat.add_assoc _ _ _))⟩))))
  (try simp only [Act.put, List.setIfInBounds_toArray, List.set_cons_zero, List.set_cons_succ])
  go_cut [27] (fun v27 wc => ∃ (kq : Nat) (x27_2 : Bool), v27 = .bool x27_2 ∧ Aside0 (spec_plain29.j0 kq t102 t103 x27_2 = some r) ∧ Aside0 (kq ≤ k) ∧ Drawn0 w wc)
  case first =>
    have H := HC3.out
    clear HC3
    by_cases c4 : t103 = 2
    · rw [if_pos c4] at H
      have c4b0 : (t103 == 2) = true := beq_iff_eq.mpr c4
      have c4b1 : (t103 != 2) = false := bne_eq_false_iff_eq.mpr c4
      clear c4
      (first | rw [c4b0] | (simp only [i64_w, i32_w]; rw [c4b0]) | skip)
      have H' := Aside0.mk H
      clear H
      go_wp2
      repeat (go_quiet (fail); try go_wp2)
      go_meet
      case rel => exact ⟨_, (true), (by first | rfl | (simp; done) | (simp [*]; done)), H', ⟨by first | omega | exact Nat.le_refl _⟩, by repeat (first | exact Drawn0.refl _ | apply Drawn0.step)⟩
    · rw [if_neg c4] at H
      have c4b0 : (t103 == 2) = false := beq_eq_false_iff_ne.mpr c4
      have c4b1 : (t103 != 2) = true := bne_iff_ne.mpr c4
      (first | rw [c4b0] | (simp only [i64_w, i32_w]; rw [c4b0]) | skip)
      by_cases c5 : t103 = 8
      · rw [if_pos c5] at H
        have c5b0 : (t103 == 8) = true := beq_iff_eq.mpr c5
        have c5b1 : (t103 != 8) = false := bne_eq_false_iff_eq.mpr c5
        clear c5
        by_cases c6 : 1 < (a0.size : Int)
        · rw [if_pos c6] at H
          have c6b0 : decide (1 < (a0.size : Int)) = true := decide_eq_true c6
          have c6b1 : decide (1 < a0.size) = true := decide_eq_true (by omega)
          clear c6
          by_cases c8 : 0 < (t102.size : Int)
          · rw [if_pos c8] at H
            have c8b0 : decide (0 < (t102.size : Int)) = true := decide_eq_true c8
            have c8b1 : decide (0 < t102.size) = true := decide_eq_true (by omega)
            clear c8
            by_cases c10 : (bt a0 1) = (bt t102 0)
            · rw [if_pos c10] at H
              have c10b0 : ((bt a0 1) == (bt t102 0)) = true := beq_iff_eq.mpr c10
              have c10b1 : ((bt a0 1) != (bt t102 0)) = false := bne_eq_false_iff_eq.mpr c10
              clear c10
              have H' := Aside0.mk H
              clear H
              have p7 : 0 ≤ (1 : Int) := (by omega)
              have q7 : 1 < a0.size := (by have : (1 : Int) < (a0.size : Int) := of_decide_eq_true (by first | (with_reducible assumption) | assumption); omega)
              have hx7 : ∀ h : 1 < a0.size, ((a0[1]'h).toNat : Int) = bt a0 1 := bt_at a0 1
              clear p7
              have qi7 : (1 < (a0.size : Int)) = True := eq_true (of_decide_eq_true (by first | (with_reducible assumption) | assumption))
              replace q7 := eq_true q7
              have p9 : 0 ≤ (0 : Int) := (by omega)
              have q9 : 0 < t102.size := (by have : (0 : Int) < (t102.size : Int) := of_decide_eq_true (by first | (with_reducible assumption) | assumption); omega)
              have hx9 : ∀ h : 0 < t102.size, ((t102[0]'h).toNat : Int) = bt t102 0 := bt_at t102 0
              clear p9
              have qi9 : (0 < (t102.size : Int)) = True := eq_true (of_decide_eq_true (by first | (with_reducible assumption) | assumption))
              replace q9 := eq_true q9
              go_wp2
              repeat (go_quiet (fail); try go_wp2)
              go_meet
              case rel => exact ⟨_, ((t102.toList == ([] : List UInt8))), (by first | rfl | (simp; done) | (simp [*]; done)), H', ⟨by first | omega | exact Nat.le_refl _⟩, by repeat (first | exact Drawn0.refl _ | apply Drawn0.step)⟩
            · rw [if_neg c10] at H
              have c10b0 : ((bt a0 1) == (bt t102 0)) = false := beq_eq_false_iff_ne.mpr c10
              have c10b1 : ((bt a0 1) != (bt t102 0)) = true := bne_iff_ne.mpr c10
              have H' := Aside0.mk H
              clear H
              have p7 : 0 ≤ (1 : Int) := (by omega)
              have q7 : 1 < a0.size := (by have : (1 : Int) < (a0.size : Int) := of_decide_eq_true (by first | (with_reducible assumption) | assumption); omega)
              have hx7 : ∀ h : 1 < a0.size, ((a0[1]'h).toNat : Int) = bt a0 1 := bt_at a0 1
              clear p7
              have qi7 : (1 < (a0.size : Int)) = True := eq_true (of_decide_eq_true (by first | (with_reducible assumption) | assumption))
              replace q7 := eq_true q7
              have p9 : 0 ≤ (0 : Int) := (by omega)
              have q9 : 0 < t102.size := (by have : (0 : Int) < (t102.size : Int) := of_decide_eq_true (by first | (with_reducible assumption) | assumption); omega)
              have hx9 : ∀ h : 0 < t102.size, ((t102[0]'h).toNat : Int) = bt t102 0 := bt_at t102 0
              clear p9
              have qi9 : (0 < (t102.size : Int)) = True := eq_true (of_decide_eq_true (by first | (with_reducible assumption) | assumption))
              replace q9 := eq_true q9
              go_wp2
              repeat (go_quiet (fail); try go_wp2)
              go_meet
              case rel => exact ⟨_, (true), (by first | rfl | (simp; done) | (simp [*]; done)), H', ⟨by first | omega | exact Nat.le_refl _⟩, by repeat (first | exact Drawn0.refl _ | apply Drawn0.step)⟩
          · rw [if_neg c8] at H
            exact absurd H (by simp)
        · rw [if_neg c6] at H
          exact absurd H (by simp)
      · rw [if_neg c5] at H
        have c5b0 : (t103 == 8) = false := beq_eq_false_iff_ne.mpr c5
        have c5b1 : (t103 != 8) = true := bne_iff_ne.mpr c5
        have H' := Aside0.mk H
        clear H
        go_wp2
        repeat (go_quiet (fail); try go_wp2)
        go_meet
        case rel => exact ⟨_, ((t102.toList == ([] : List UInt8))), (by first | rfl | (simp; done) | (simp [*]; done)), H', ⟨by first | omega | exact Nat.le_refl _⟩, by repeat (first | exact Drawn0.refl _ | apply Drawn0.step)⟩
  case rest =>
    clear HC3
    try clear c1
    try clear p2
    try clear c4
    try clear c4b0
    try clear c4b1
    try clear c5
    try clear c5b0
    try clear c5b1
    try clear c6
    try clear c6b0
    try clear c6b1
    try clear p7
    try clear q7
    try clear hx7
    try clear qi7
    try clear c8
    try clear c8b0
    try clear c8b1
    try clear p9
    try clear q9
    try clear hx9
    try clear qi9
    try clear c10
    try clear c10b0
    try clear c10b1
    try clear p7
    try clear p9
    try clear q7
    try clear q9
    obtain ⟨kq, x27_2, rfl, HA, HJ2, ⟨mc2, rfl⟩⟩ := hcut
    cases kq with
    | zero => exact absurd HA.out (by simp [spec_plain29.j0])
    | succ kj2 =>
      have H := HA.out
      clear HA
      simp only [spec_plain29.j0] at H
      by_cases c11 : x27_2 = true
      · subst c11
        have H1 : (some false) = some r := by rw [if_pos rfl] at H; exact H
        clear H
        have H := H1
        clear H1
        obtain rfl := Option.some.inj H
        go_wp2
        repeat (go_quiet (fail); try go_wp2)
        go_ret
        exact ⟨by first | rfl | (simp; done) | (simp [*]; done), by repeat (first | exact Drawn0.refl _ | apply Drawn0.step)⟩
      · replace c11 := Bool.eq_false_iff.mpr c11
        subst c11
        have H1 : (spec_plain29.l0 kj2 t102 t103 (t102.size : Int) 0) = some r := by rw [if_neg (show ¬ (false = true) by decide)] at H; exact H
        clear H
        have H := H1
        clear H1
        have H' := Aside0.mk H
        clear H
        go_wp2
        repeat (go_quiet (fail); try go_wp2)
        go_loopg [30] kj2 (fun kq v30 w' => ∃ (x30_2 : Int), v30 = .int .i64 x30_2 ∧ Aside0 (spec_plain29.l0 kq t102 t103 (t102.size : Int) x30_2 = some r) ∧ Aside0 (kq ≤ kj2) ∧ Drawn0 w w')
        case atStart => exact ⟨(0), (by first | rfl | (simp; done) | (simp [*]; done)), H', ⟨Nat.le_refl _⟩, by repeat (first | exact Drawn0.refl _ | apply Drawn0.step)⟩
        case round =>
          clear H'
          try clear c1
          try clear c2
          try clear p2
          try clear c4
          try clear c4b0
          try clear c4b1
          try clear c5
          try clear c5b0
          try clear c5b1
          try clear c6
          try clear c6b0
          try clear c6b1
          try clear p7
          try clear q7
          try clear hx7
          try clear qi7
          try clear c8
          try clear c8b0
          try clear c8b1
          try clear p9
          try clear q9
          try clear hx9
          try clear qi9
          try clear c10
          try clear c10b0
          try clear c10b1
          try clear c11
          try clear p2
          try clear p7
          try clear p9
          try clear q7
          try clear q9
          obtain ⟨x30_2, rfl, HA, HK2, ⟨m2, rfl⟩⟩ := hrel
          cases gk with
          | zero => exact absurd HA.out (by simp [spec_plain29.l0])
          | succ k2 =>
            have H := HA.out
            clear HA
            simp only [spec_plain29.l0] at H
            by_cases c12 : x30_2 < (t102.size : Int)
            · rw [if_pos c12] at H
              have c12b0 : decide (x30_2 < (t102.size : Int)) = true := decide_eq_true c12
              clear c12
              by_cases c13 : 0 ≤ x30_2
              · rw [if_pos c13] at H
                have c13b0 : decide (0 ≤ x30_2) = true := decide_eq_true c13
                clear c13
                by_cases c14 : x30_2 < (t102.size : Int)
                · rw [if_pos c14] at H
                  have c14b0 : decide (x30_2 < (t102.size : Int)) = true := decide_eq_true c14
                  clear c14
                  replace H := Option.bind_eq_some_iff.mp H
                  obtain ⟨t104, A160, H⟩ := H
                  replace H : (if t104 < 0 then (some false) else (spec_plain29.l0 k2 t102 t103 (t102.size : Int) (wrap64 (x30_2 + 1)))) = some r := H
                  have A16 := Aside0.mk A160
                  clear A160
                  by_cases c17 : t104 < 0
                  · rw [if_pos c17] at H
                    have c17b0 : decide (t104 < 0) = true := decide_eq_true c17
                    clear c17
                    obtain rfl := Option.some.inj H
                    have p15 : 0 ≤ (x30_2 : Int) := of_decide_eq_true (by first | (with_reducible assumption) | assumption)
                    have q15 : x30_2 < (t102.size : Int) := of_decide_eq_true (by first | (with_reducible assumption) | assumption)
                    have hx15 := bt_at t102 x30_2
                    replace p15 := eq_true p15
                    replace q15 := eq_true q15
                    go_wp2_with (first | (go_at_call 98; (with_reducible refine (spec_digit29.calls k2 (bt t102 x30_2) t103 t104 _ A16.out).mono ?_); rintro e w' ⟨rfl, ⟨nd, rfl⟩⟩; (try first | exact ⟨rfl, _, World.drewN_drewN _ _ _⟩ | exact ⟨rfl, _, Eq.trans (World.drewN_drewN _ _ _) (congrArg (World.drewN _) (Nat.add_assoc _ _ _))⟩)))
                    repeat (go_quiet (first | (go_at_call 98; (with_reducible refine (spec_digit29.calls k2 (bt t102 x30_2) t103 t104 _ A16.out).mono ?_); rintro e w' ⟨rfl, ⟨nd, rfl⟩⟩; (try first | exact ⟨rfl, _, World.drewN_drewN _ _ _⟩ | exact ⟨rfl, _, Eq.trans (World.drewN_drewN _ _ _) (congrArg (World.drewN _) (Nat.add_assoc _ _ _))⟩))); try go_wp2_with (first | (go_at_call 98; (with_reducible refine (spec_digit29.calls k2 (bt t102 x30_2) t103 t104 _ A16.out).mono ?_); rintro e w' ⟨rfl, ⟨nd, rfl⟩⟩; (try first | exact ⟨rfl, _, World.drewN_drewN _ _ _⟩ | exact ⟨rfl, _, Eq.trans (World.drewN_drewN _ _ _) (congrArg (World.drewN _) (Nat.add_assoc _ _ _))⟩))))
                    go_ret
                    exact ⟨by first | rfl | (simp; done) | (simp [*]; done), by repeat (first | exact Drawn0.refl _ | apply Drawn0.step)⟩
                  · rw [if_neg c17] at H
                    have c17b0 : decide (t104 < 0) = false := decide_eq_false c17
                    clear c17
                    have H' := Aside0.mk H
                    clear H
                    have p15 : 0 ≤ (x30_2 : Int) := of_decide_eq_true (by first | (with_reducible assumption) | assumption)
                    have q15 : x30_2 < (t102.size : Int) := of_decide_eq_true (by first | (with_reducible assumption) | assumption)
                    have hx15 := bt_at t102 x30_2
                    replace p15 := eq_true p15
                    replace q15 := eq_true q15
                    go_wp2_with (first | (go_at_call 98; (with_reducible refine (spec_digit29.calls k2 (bt t102 x30_2) t103 t104 _ A16.out).mono ?_); rintro e w' ⟨rfl, ⟨nd, rfl⟩⟩; (try first | exact ⟨rfl, _, World.drewN_drewN _ _ _⟩ | exact ⟨rfl, _, Eq.trans (World.drewN_drewN _ _ _) (congrArg (World.drewN _) (Nat.add_assoc _ _ _))⟩)))
                    repeat (go_quiet (first | (go_at_call 98; (with_reducible refine (spec_digit29.calls k2 (bt t102 x30_2) t103 t104 _ A16.out).mono ?_); rintro e w' ⟨rfl, ⟨nd, rfl⟩⟩; (try first | exact ⟨rfl, _, World.drewN_drewN _ _ _⟩ | exact ⟨rfl, _, Eq.trans (World.drewN_drewN _ _ _) (congrArg (World.drewN _) (Nat.add_assoc _ _ _))⟩))); try go_wp2_with (first | (go_at_call 98; (with_reducible refine (spec_digit29.calls k2 (bt t102 x30_2) t103 t104 _ A16.out).mono ?_); rintro e w' ⟨rfl, ⟨nd, rfl⟩⟩; (try first | exact ⟨rfl, _, World.drewN_drewN _ _ _⟩ | exact ⟨rfl, _, Eq.trans (World.drewN_drewN _ _ _) (congrArg (World.drewN _) (Nat.add_assoc _ _ _))⟩))))
                    go_roundg k2
                    case measure => have := HJ2.out; have := HK2.out; omega
                    case rel => exact ⟨(wrap64 (x30_2 + 1)), (by first | rfl | (simp; done) | (simp [*]; done)), H', ⟨by have := HJ2.out; have := HK2.out; omega⟩, by repeat (first | exact Drawn0.refl _ | apply Drawn0.step)⟩
                · rw [if_neg c14] at H
                  exact absurd H (by simp)
              · rw [if_neg c13] at H
                exact absurd H (by simp)
            · rw [if_neg c12] at H
              have c12b0 : decide (x30_2 < (t102.size : Int)) = false := decide_eq_false c12
              clear c12
              obtain rfl := Option.some.inj H
              go_wp2
              repeat (go_quiet (fail); try go_wp2)
              go_ret
              exact ⟨by first | rfl | (simp; done) | (simp [*]; done), by repeat (first | exact Drawn0.refl _ | apply Drawn0.step)⟩

-- NOT PRINTED: function 83 (spec_without29)

-- NOT PRINTED: function 27 (spec_Natural)

-- NOT PRINTED: function 12 (spec_Whole)

end Go.Proofs.YtdmpeecocfoocaaDoor.PWhole
