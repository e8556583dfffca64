-- PRINTED BY print.sh 35421559b90ae4d0a3588c463048766b98c2df88dd9212a6774a882060cdf62d: not written by this session
import Derived.Test.YtdmpeecocfoocaaDoorPWholex0
namespace Go.Proofs.YtdmpeecocfoocaaDoor.PWhole
open Go.RowKit Go.Proofs.YtdmpeecocfoocaaDoorW.PrintWords Go.Proofs.YtdmpeecocfoocaaDoorW.PrintLast Go.Proofs.YtdmpeecocfoocaaDoorW.PrintMore
attribute [local go_sem] max2_int min2_int max_two min_two max_three min_three max_four min_four   -- for this text's walks alone
set_option linter.unusedVariables false
set_option linter.unusedSimpArgs false

/-! ### spec_digit29: function 98 -/
mutual
def spec_digit29.j0 : Nat → Int → Int → Int → Bool → Option (Int)
  | 0, _, _, _, _ => none
  | k + 1, x0, x1, x5, x6 => if x6 = true then (if ((x0 - 48) % 256) ≥ (wrap64 (x1)) then (some (-1)) else (some ((x0 - 48) % 256))) else (if x0 ≥ 97 then (spec_digit29.j1 k x0 x1 x5 (decide (x0 ≤ 122))) else (spec_digit29.j1 k x0 x1 x5 false))
def spec_digit29.j1 : Nat → Int → Int → Int → Bool → Option (Int)
  | 0, _, _, _, _ => none
  | k + 1, x0, x1, x5, x16 => if x16 = true then (if (((x0 - 97) % 256) + 10) ≥ (wrap64 (x1)) then (some (-1)) else (some (((x0 - 97) % 256) + 10))) else (if x0 ≥ 65 then (spec_digit29.j2 k x0 x1 x5 (decide (x0 ≤ 90))) else (spec_digit29.j2 k x0 x1 x5 false))
def spec_digit29.j2 : Nat → Int → Int → Int → Bool → Option (Int)
  | 0, _, _, _, _ => none
  | k + 1, x0, x1, x5, x27 => if x27 = true then (if (((x0 - 65) % 256) + 10) ≥ (wrap64 (x1)) then (some (-1)) else (some (((x0 - 65) % 256) + 10))) else (if x5 ≥ (wrap64 (x1)) then (some (-1)) else (some x5))
end
def spec_digit29.f (k : Nat) (a0 : Int) (a1 : Int) : Option (Int) := if a0 ≥ 48 then (spec_digit29.j0 k a0 a1 (-1) (decide (a0 ≤ 57))) else (spec_digit29.j0 k a0 a1 (-1) false)
theorem spec_digit29.mono_l : ∀ k, (∀ y0 y1 y2 y3, LeO (spec_digit29.j0 k y0 y1 y2 y3) (spec_digit29.j0 (k + 1) y0 y1 y2 y3)) ∧ (∀ y0 y1 y2 y3, LeO (spec_digit29.j1 k y0 y1 y2 y3) (spec_digit29.j1 (k + 1) y0 y1 y2 y3)) ∧ (∀ y0 y1 y2 y3, LeO (spec_digit29.j2 k y0 y1 y2 y3) (spec_digit29.j2 (k + 1) y0 y1 y2 y3))
  | 0 => ⟨fun _ _ _ _ r h => by simp [spec_digit29.j0] at h, fun _ _ _ _ r h => by simp [spec_digit29.j1] at h, fun _ _ _ _ r h => by simp [spec_digit29.j2] at h⟩
  | k + 1 => by
    obtain ⟨ih0, ih1, ih2⟩ := spec_digit29.mono_l k
    refine ⟨?_, ?_, ?_⟩
    · intro y0 y1 y2 y3
      unfold spec_digit29.j0
      repeat' first
      | (with_reducible exact ih0 _ _ _ _)
      | (with_reducible exact ih1 _ _ _ _)
      | (with_reducible exact ih2 _ _ _ _)
      | (with_reducible exact LeO.refl _)
      | (with_reducible exact LeO.none _)
      | (with_reducible refine LeO.ite ?_ ?_)
      | (with_reducible refine LeO.bind ?_ (fun _ => ?_))
      | exact ih0 _ _ _ _
      | exact ih1 _ _ _ _
      | exact ih2 _ _ _ _
      | exact LeO.none _
      | refine LeO.ite ?_ ?_
      | refine LeO.bind ?_ (fun _ => ?_)
    · intro y0 y1 y2 y3
      unfold spec_digit29.j1
      repeat' first
      | (with_reducible exact ih0 _ _ _ _)
      | (with_reducible exact ih1 _ _ _ _)
      | (with_reducible exact ih2 _ _ _ _)
      | (with_reducible exact LeO.refl _)
      | (with_reducible exact LeO.none _)
      | (with_reducible refine LeO.ite ?_ ?_)
      | (with_reducible refine LeO.bind ?_ (fun _ => ?_))
      | exact ih0 _ _ _ _
      | exact ih1 _ _ _ _
      | exact ih2 _ _ _ _
      | exact LeO.none _
      | refine LeO.ite ?_ ?_
      | refine LeO.bind ?_ (fun _ => ?_)
    · intro y0 y1 y2 y3
      unfold spec_digit29.j2
      repeat' first
      | (with_reducible exact ih0 _ _ _ _)
      | (with_reducible exact ih1 _ _ _ _)
      | (with_reducible exact ih2 _ _ _ _)
      | (with_reducible exact LeO.refl _)
      | (with_reducible exact LeO.none _)
      | (with_reducible refine LeO.ite ?_ ?_)
      | (with_reducible refine LeO.bind ?_ (fun _ => ?_))
      | exact ih0 _ _ _ _
      | exact ih1 _ _ _ _
      | exact ih2 _ _ _ _
      | exact LeO.none _
      | refine LeO.ite ?_ ?_
      | refine LeO.bind ?_ (fun _ => ?_)
theorem spec_digit29.mono : ∀ a0 a1 k, LeO (spec_digit29.f k a0 a1) (spec_digit29.f (k + 1) a0 a1) := by
  intro a0 a1 k
  obtain ⟨ih0, ih1, ih2⟩ := spec_digit29.mono_l k
  unfold spec_digit29.f
  repeat' first
      | (with_reducible exact ih0 _ _ _ _)
      | (with_reducible exact ih1 _ _ _ _)
      | (with_reducible exact ih2 _ _ _ _)
      | (with_reducible exact LeO.refl _)
      | (with_reducible exact LeO.none _)
      | (with_reducible refine LeO.ite ?_ ?_)
      | (with_reducible refine LeO.bind ?_ (fun _ => ?_))
      | exact ih0 _ _ _ _
      | exact ih1 _ _ _ _
      | exact ih2 _ _ _ _
      | exact LeO.none _
      | refine LeO.ite ?_ ?_
      | refine LeO.bind ?_ (fun _ => ?_)
set_option maxHeartbeats 8000000 in
set_option maxRecDepth 100000 in
theorem spec_digit29.calls (k : Nat) (a0 : Int) (a1 : Int) (r : Int) (w : World) (h : spec_digit29.f k a0 a1 = some r) :
    Calls Tryd.prog 98 #[.int .u8 a0, .int .u64 a1] w fun e w' => e = .returned (.int .i64 r) ∧ Drawn0 w w' := by
  have H : (if a0 ≥ 48 then (spec_digit29.j0 k a0 a1 (-1) (decide (a0 ≤ 57))) else (spec_digit29.j0 k a0 a1 (-1) false)) = some r := h
  clear h
  have HC3 := Aside0.mk H
  clear H
  go_enter Tryd.func98, Tryd.ntmps98
  go_upto_region 2 with (fail)
  go_cut [6] (fun v6 wc => ∃ (kq : Nat) (x6_2 : Bool), v6 = .bool x6_2 ∧ Aside0 (spec_digit29.j0 kq a0 a1 (-1) x6_2 = some r) ∧ Aside0 (kq ≤ k) ∧ Drawn0 w wc)
  case first =>
    have H := HC3.out
    clear HC3
    by_cases c4 : a0 ≥ 48
    · rw [if_pos c4] at H
      have c4b0 : decide (48 ≤ a0) = true := decide_eq_true c4
      clear c4
      (first | rw [c4b0] | (simp only [i64_w, i32_w]; rw [c4b0]) | skip)
      have H' := Aside0.mk H
      clear H
      go_wp2
      go_meet
      case rel => exact ⟨_, (decide (a0 ≤ 57)), (by first | rfl | (simp; done) | (simp [*]; done)), H', ⟨by first | omega | exact Nat.le_refl _⟩, by repeat (first | exact Drawn0.refl _ | apply Drawn0.step)⟩
    · rw [if_neg c4] at H
      have c4b0 : decide (48 ≤ a0) = false := decide_eq_false c4
      clear c4
      (first | rw [c4b0] | (simp only [i64_w, i32_w]; rw [c4b0]) | skip)
      have H' := Aside0.mk H
      clear H
      go_wp2
      go_meet
      case rel => exact ⟨_, (false), (by first | rfl | (simp; done) | (simp [*]; done)), H', ⟨by first | omega | exact Nat.le_refl _⟩, by repeat (first | exact Drawn0.refl _ | apply Drawn0.step)⟩
  case rest =>
    clear HC3
    try clear p2
    try clear c4
    try clear c4b0
    obtain ⟨kq, x6_2, rfl, HA, HJ2, ⟨mc2, rfl⟩⟩ := hcut
    cases kq with
    | zero => exact absurd HA.out (by simp [spec_digit29.j0])
    | succ kj2 =>
      have H := HA.out
      clear HA
      simp only [spec_digit29.j0] at H
      by_cases c5 : x6_2 = true
      · subst c5
        have H1 : (if ((a0 - 48) % 256) ≥ (wrap64 (a1)) then (some (-1)) else (some ((a0 - 48) % 256))) = some r := by rw [if_pos rfl] at H; exact H
        clear H
        have H := H1
        clear H1
        by_cases c6 : ((a0 - 48) % 256) ≥ (wrap64 (a1))
        · rw [if_pos c6] at H
          have c6b0 : decide ((wrap64 (a1)) ≤ ((a0 - 48) % 256)) = true := decide_eq_true c6
          clear c6
          obtain rfl := Option.some.inj H
          go_wp2
          go_ret
          exact ⟨by first | rfl | (simp; done) | (simp [*]; done), by repeat (first | exact Drawn0.refl _ | apply Drawn0.step)⟩
        · rw [if_neg c6] at H
          have c6b0 : decide ((wrap64 (a1)) ≤ ((a0 - 48) % 256)) = false := decide_eq_false c6
          clear c6
          obtain rfl := Option.some.inj H
          go_wp2
          go_ret
          exact ⟨by first | rfl | (simp; done) | (simp [*]; done), by repeat (first | exact Drawn0.refl _ | apply Drawn0.step)⟩
      · replace c5 := Bool.eq_false_iff.mpr c5
        subst c5
        have H1 : (if a0 ≥ 97 then (spec_digit29.j1 kj2 a0 a1 (-1) (decide (a0 ≤ 122))) else (spec_digit29.j1 kj2 a0 a1 (-1) false)) = some r := by rw [if_neg (show ¬ (false = true) by decide)] at H; exact H
        clear H
        have H := H1
        clear H1
        have HC7 := Aside0.mk H
        clear H
        go_upto_region 4 with (fail)
        go_cut [16] (fun v16 wc => ∃ (kq : Nat) (x16_6 : Bool), v16 = .bool x16_6 ∧ Aside0 (spec_digit29.j1 kq a0 a1 (-1) x16_6 = some r) ∧ Aside0 (kq ≤ kj2) ∧ Drawn0 w wc)
        case first =>
          have H := HC7.out
          clear HC7
          by_cases c8 : a0 ≥ 97
          · rw [if_pos c8] at H
            have c8b0 : decide (97 ≤ a0) = true := decide_eq_true c8
            clear c8
            (first | rw [c8b0] | (simp only [i64_w, i32_w]; rw [c8b0]) | skip)
            have H' := Aside0.mk H
            clear H
            go_wp2
            go_meet
            case rel => exact ⟨_, (decide (a0 ≤ 122)), (by first | rfl | (simp; done) | (simp [*]; done)), H', ⟨by have := HJ2.out; first | omega | exact Nat.le_refl _⟩, by repeat (first | exact Drawn0.refl _ | apply Drawn0.step)⟩
          · rw [if_neg c8] at H
            have c8b0 : decide (97 ≤ a0) = false := decide_eq_false c8
            clear c8
            (first | rw [c8b0] | (simp only [i64_w, i32_w]; rw [c8b0]) | skip)
            have H' := Aside0.mk H
            clear H
            go_wp2
            go_meet
            case rel => exact ⟨_, (false), (by first | rfl | (simp; done) | (simp [*]; done)), H', ⟨by have := HJ2.out; first | omega | exact Nat.le_refl _⟩, by repeat (first | exact Drawn0.refl _ | apply Drawn0.step)⟩
        case rest =>
          clear HC7
          try clear c2
          try clear p2
          try clear c4
          try clear c4b0
          try clear c5
          try clear c6
          try clear c6b0
          try clear p6
          try clear c8
          try clear c8b0
          try clear p2
          obtain ⟨kq, x16_6, rfl, HA, HJ6, ⟨mc6, rfl⟩⟩ := hcut
          cases kq with
          | zero => exact absurd HA.out (by simp [spec_digit29.j1])
          | succ kj6 =>
            have H := HA.out
            clear HA
            simp only [spec_digit29.j1] at H
            by_cases c9 : x16_6 = true
            · subst c9
              have H1 : (if (((a0 - 97) % 256) + 10) ≥ (wrap64 (a1)) then (some (-1)) else (some (((a0 - 97) % 256) + 10))) = some r := by rw [if_pos rfl] at H; exact H
              clear H
              have H := H1
              clear H1
              by_cases c10 : (((a0 - 97) % 256) + 10) ≥ (wrap64 (a1))
              · rw [if_pos c10] at H
                have c10b0 : decide ((wrap64 (a1)) ≤ (((a0 - 97) % 256) + 10)) = true := decide_eq_true c10
                clear c10
                obtain rfl := Option.some.inj H
                go_wp2
                go_ret
                exact ⟨by first | rfl | (simp; done) | (simp [*]; done), by repeat (first | exact Drawn0.refl _ | apply Drawn0.step)⟩
              · rw [if_neg c10] at H
                have c10b0 : decide ((wrap64 (a1)) ≤ (((a0 - 97) % 256) + 10)) = false := decide_eq_false c10
                clear c10
                obtain rfl := Option.some.inj H
                go_wp2
                go_ret
                exact ⟨by first | rfl | (simp; done) | (simp [*]; done), by repeat (first | exact Drawn0.refl _ | apply Drawn0.step)⟩
            · replace c9 := Bool.eq_false_iff.mpr c9
              subst c9
              have H1 : (if a0 ≥ 65 then (spec_digit29.j2 kj6 a0 a1 (-1) (decide (a0 ≤ 90))) else (spec_digit29.j2 kj6 a0 a1 (-1) false)) = some r := by rw [if_neg (show ¬ (false = true) by decide)] at H; exact H
              clear H
              have H := H1
              clear H1
              have HC11 := Aside0.mk H
              clear H
              go_upto_region 6 with (fail)
              go_cut [27] (fun v27 wc => ∃ (kq : Nat) (x27_10 : Bool), v27 = .bool x27_10 ∧ Aside0 (spec_digit29.j2 kq a0 a1 (-1) x27_10 = some r) ∧ Aside0 (kq ≤ kj6) ∧ Drawn0 w wc)
              case first =>
                have H := HC11.out
                clear HC11
                by_cases c12 : a0 ≥ 65
                · rw [if_pos c12] at H
                  have c12b0 : decide (65 ≤ a0) = true := decide_eq_true c12
                  clear c12
                  (first | rw [c12b0] | (simp only [i64_w, i32_w]; rw [c12b0]) | skip)
                  have H' := Aside0.mk H
                  clear H
                  go_wp2
                  go_meet
                  case rel => exact ⟨_, (decide (a0 ≤ 90)), (by first | rfl | (simp; done) | (simp [*]; done)), H', ⟨by have := HJ2.out; have := HJ6.out; first | omega | exact Nat.le_refl _⟩, by repeat (first | exact Drawn0.refl _ | apply Drawn0.step)⟩
                · rw [if_neg c12] at H
                  have c12b0 : decide (65 ≤ a0) = false := decide_eq_false c12
                  clear c12
                  (first | rw [c12b0] | (simp only [i64_w, i32_w]; rw [c12b0]) | skip)
                  have H' := Aside0.mk H
                  clear H
                  go_wp2
                  go_meet
                  case rel => exact ⟨_, (false), (by first | rfl | (simp; done) | (simp [*]; done)), H', ⟨by have := HJ2.out; have := HJ6.out; first | omega | exact Nat.le_refl _⟩, by repeat (first | exact Drawn0.refl _ | apply Drawn0.step)⟩
              case rest =>
                clear HC11
                try clear c1
                try clear c2
                try clear p2
                try clear c4
                try clear c4b0
                try clear c5
                try clear c6
                try clear c6b0
                try clear p6
                try clear c8
                try clear c8b0
                try clear c9
                try clear c10
                try clear c10b0
                try clear c12
                try clear c12b0
                try clear p2
                try clear p6
                obtain ⟨kq, x27_10, rfl, HA, HJ10, ⟨mc10, rfl⟩⟩ := hcut
                cases kq with
                | zero => exact absurd HA.out (by simp [spec_digit29.j2])
                | succ kj10 =>
                  have H := HA.out
                  clear HA
                  simp only [spec_digit29.j2] at H
                  by_cases c13 : x27_10 = true
                  · subst c13
                    have H1 : (if (((a0 - 65) % 256) + 10) ≥ (wrap64 (a1)) then (some (-1)) else (some (((a0 - 65) % 256) + 10))) = some r := by rw [if_pos rfl] at H; exact H
                    clear H
                    have H := H1
                    clear H1
                    by_cases c14 : (((a0 - 65) % 256) + 10) ≥ (wrap64 (a1))
                    · rw [if_pos c14] at H
                      have c14b0 : decide ((wrap64 (a1)) ≤ (((a0 - 65) % 256) + 10)) = true := decide_eq_true c14
                      clear c14
                      obtain rfl := Option.some.inj H
                      go_wp2
                      go_ret
                      exact ⟨by first | rfl | (simp; done) | (simp [*]; done), by repeat (first | exact Drawn0.refl _ | apply Drawn0.step)⟩
                    · rw [if_neg c14] at H
                      have c14b0 : decide ((wrap64 (a1)) ≤ (((a0 - 65) % 256) + 10)) = false := decide_eq_false c14
                      clear c14
                      obtain rfl := Option.some.inj H
                      go_wp2
                      go_ret
                      exact ⟨by first | rfl | (simp; done) | (simp [*]; done), by repeat (first | exact Drawn0.refl _ | apply Drawn0.step)⟩
                  · replace c13 := Bool.eq_false_iff.mpr c13
                    subst c13
                    have H1 : (if (-1) ≥ (wrap64 (a1)) then (some (-1)) else (some (-1))) = some r := by rw [if_neg (show ¬ (false = true) by decide)] at H; exact H
                    clear H
                    have H := H1
                    clear H1
                    by_cases c15 : (-1) ≥ (wrap64 (a1))
                    · rw [if_pos c15] at H
                      have c15b0 : decide ((wrap64 (a1)) ≤ (-1)) = true := decide_eq_true c15
                      clear c15
                      obtain rfl := Option.some.inj H
                      go_wp2
                      go_ret
                      exact ⟨by first | rfl | (simp; done) | (simp [*]; done), by repeat (first | exact Drawn0.refl _ | apply Drawn0.step)⟩
                    · rw [if_neg c15] at H
                      have c15b0 : decide ((wrap64 (a1)) ≤ (-1)) = false := decide_eq_false c15
                      clear c15
                      obtain rfl := Option.some.inj H
                      go_wp2
                      go_ret
                      exact ⟨by first | rfl | (simp; done) | (simp [*]; done), by repeat (first | exact Drawn0.refl _ | apply Drawn0.step)⟩

/-! ### spec_digits29: function 65 -/
def spec_digits29.l0 : Nat → ByteArray → Int → Int → Int → Bool → Int → Int → Option (Int × Int)
  | 0, _, _, _, _, _, _, _ => none
  | k + 1, x0, x1, x2, x8, x9, x15, x16 => if x16 < x15 then (if 0 ≤ x16 then (if x16 < (x0.size : Int) then ((spec_digit29.f k (bt x0 x16) x1).bind fun t101 => (if t101 < 0 then (some (0, 2)) else (if x9 = true then (spec_digits29.l0 k x0 x1 x2 x8 true x15 (wrap64 (x16 + 1))) else (if x1 = 0 then (none) else (if x8 > (IntKind.u64.wrap (Int.tdiv (IntKind.u64.wrap (x2 - (IntKind.u64.wrap (t101)))) x1)) then (spec_digits29.l0 k x0 x1 x2 x8 true x15 (wrap64 (x16 + 1))) else (if (IntKind.u64.wrap (t101)) > x2 then (spec_digits29.l0 k x0 x1 x2 x8 true x15 (wrap64 (x16 + 1))) else (spec_digits29.l0 k x0 x1 x2 (IntKind.u64.wrap ((IntKind.u64.wrap (x8 * x1)) + (IntKind.u64.wrap (t101)))) x9 x15 (wrap64 (x16 + 1))))))))) else (none)) else (none)) else (if x9 = true then (some (0, 2)) else (some (x8, 1)))
def spec_digits29.f (k : Nat) (a0 : ByteArray) (a1 : Int) (a2 : Int) : Option (Int × Int) := if a0.toList = ([] : List UInt8) then (some (0, 2)) else (spec_digits29.l0 k a0 a1 a2 0 false (a0.size : Int) 0)
theorem spec_digits29.mono_l : ∀ k, (∀ y0 y1 y2 y3 y4 y5 y6, LeO (spec_digits29.l0 k y0 y1 y2 y3 y4 y5 y6) (spec_digits29.l0 (k + 1) y0 y1 y2 y3 y4 y5 y6))
  | 0 => fun _ _ _ _ _ _ _ r h => by simp [spec_digits29.l0] at h
  | k + 1 => by
    have ih0 := spec_digits29.mono_l k
    · intro y0 y1 y2 y3 y4 y5 y6
      unfold spec_digits29.l0
      repeat' first
      | (with_reducible exact ih0 _ _ _ _ _ _ _)
      | (with_reducible exact spec_digit29.mono _ _ _)
      | (with_reducible exact LeO.refl _)
      | (with_reducible exact LeO.none _)
      | (with_reducible refine LeO.ite ?_ ?_)
      | (with_reducible refine LeO.bind ?_ (fun _ => ?_))
      | exact ih0 _ _ _ _ _ _ _
      | exact spec_digit29.mono _ _ _
      | exact LeO.none _
      | refine LeO.ite ?_ ?_
      | refine LeO.bind ?_ (fun _ => ?_)
theorem spec_digits29.mono : ∀ a0 a1 a2 k, LeO (spec_digits29.f k a0 a1 a2) (spec_digits29.f (k + 1) a0 a1 a2) := by
  intro a0 a1 a2 k
  have ih0 := spec_digits29.mono_l k
  unfold spec_digits29.f
  repeat' first
      | (with_reducible exact ih0 _ _ _ _ _ _ _)
      | (with_reducible exact spec_digit29.mono _ _ _)
      | (with_reducible exact LeO.refl _)
      | (with_reducible exact LeO.none _)
      | (with_reducible refine LeO.ite ?_ ?_)
      | (with_reducible refine LeO.bind ?_ (fun _ => ?_))
      | exact ih0 _ _ _ _ _ _ _
      | exact spec_digit29.mono _ _ _
      | exact LeO.none _
      | refine LeO.ite ?_ ?_
      | refine LeO.bind ?_ (fun _ => ?_)
set_option maxHeartbeats 8000000 in
set_option maxRecDepth 100000 in
theorem spec_digits29.calls (k : Nat) (a0 : ByteArray) (a1 : Int) (a2 : Int) (r1 : Int) (r2 : Int) (w : World) (h : spec_digits29.f k a0 a1 a2 = some (r1, r2)) :
    Calls Tryd.prog 65 #[.string a0, .int .u64 a1, .int .u64 a2] w fun e w' => e = .returned (.tuple #[.int .u64 r1, .int .i64 r2]) ∧ Drawn0 w w' := by
  have H : (if a0.toList = ([] : List UInt8) then (some (0, 2)) else (spec_digits29.l0 k a0 a1 a2 0 false (a0.size : Int) 0)) = some (r1, r2) := h
  clear h
  by_cases c4 : a0.toList = ([] : List UInt8)
  · rw [if_pos c4] at H
    have c4b0 : (a0.toList == ([] : List UInt8)) = true := beq_iff_eq.mpr c4
    have c4b1 : (a0.toList != ([] : List UInt8)) = false := bne_eq_false_iff_eq.mpr c4
    clear c4
    simp only [Option.some.injEq, Prod.mk.injEq] at H
    obtain ⟨rfl, rfl⟩ := H
    go_enter Tryd.func65, Tryd.ntmps65
    go_wp2
    go_ret2
    exact ⟨by first | rfl | (simp; done) | (simp [*]; done), by repeat (first | exact Drawn0.refl _ | apply Drawn0.step)⟩
  · rw [if_neg c4] at H
    have c4b0 : (a0.toList == ([] : List UInt8)) = false := beq_eq_false_iff_ne.mpr c4
    have c4b1 : (a0.toList != ([] : List UInt8)) = true := bne_iff_ne.mpr c4
    have H' := Aside0.mk H
    clear H
    go_enter Tryd.func65, Tryd.ntmps65
    go_wp2
    go_loopg [8, 9, 16] k (fun kq v8 v9 v16 w' => ∃ (x8_1 : Int) (x9_1 : Bool) (x16_1 : Int), v8 = .int .u64 x8_1 ∧ v9 = .bool x9_1 ∧ v16 = .int .i64 x16_1 ∧ Aside0 (spec_digits29.l0 kq a0 a1 a2 x8_1 x9_1 (a0.size : Int) x16_1 = some (r1, r2)) ∧ Aside0 (kq ≤ k) ∧ Drawn0 w w')
    case atStart => exact ⟨(0), (false), (0), (by first | rfl | (simp; done) | (simp [*]; done)), (by first | rfl | (simp; done) | (simp [*]; done)), (by first | rfl | (simp; done) | (simp [*]; done)), H', ⟨Nat.le_refl _⟩, by repeat (first | exact Drawn0.refl _ | apply Drawn0.step)⟩
    case round =>
      clear H'
      try clear p2
      try clear c4
      try clear c4b0
      try clear c4b1
      obtain ⟨x8_1, x9_1, x16_1, rfl, rfl, rfl, HA, HK1, ⟨m1, rfl⟩⟩ := hrel
      cases gk with
      | zero => exact absurd HA.out (by simp [spec_digits29.l0])
      | succ k1 =>
        have H := HA.out
        clear HA
        simp only [spec_digits29.l0] at H
        by_cases c5 : x16_1 < (a0.size : Int)
        · rw [if_pos c5] at H
          have c5b0 : decide (x16_1 < (a0.size : Int)) = true := decide_eq_true c5
          clear c5
          by_cases c6 : 0 ≤ x16_1
          · rw [if_pos c6] at H
            have c6b0 : decide (0 ≤ x16_1) = true := decide_eq_true c6
            clear c6
            by_cases c7 : x16_1 < (a0.size : Int)
            · rw [if_pos c7] at H
              have c7b0 : decide (x16_1 < (a0.size : Int)) = true := decide_eq_true c7
              clear c7
              replace H := Option.bind_eq_some_iff.mp H
              obtain ⟨t101, A90, H⟩ := H
              replace H : (if t101 < 0 then (some (0, 2)) else (if x9_1 = true then (spec_digits29.l0 k1 a0 a1 a2 x8_1 true (a0.size : Int) (wrap64 (x16_1 + 1))) else (if a1 = 0 then (none) else (if x8_1 > (IntKind.u64.wrap (Int.tdiv (IntKind.u64.wrap (a2 - (IntKind.u64.wrap (t101)))) a1)) then (spec_digits29.l0 k1 a0 a1 a2 x8_1 true (a0.size : Int) (wrap64 (x16_1 + 1))) else (if (IntKind.u64.wrap (t101)) > a2 then (spec_digits29.l0 k1 a0 a1 a2 x8_1 true (a0.size : Int) (wrap64 (x16_1 + 1))) else (spec_digits29.l0 k1 a0 a1 a2 (IntKind.u64.wrap ((IntKind.u64.wrap (x8_1 * a1)) + (IntKind.u64.wrap (t101)))) x9_1 (a0.size : Int) (wrap64 (x16_1 + 1)))))))) = some (r1, r2) := H
              have A9 := Aside0.mk A90
              clear A90
              by_cases c10 : t101 < 0
              · rw [if_pos c10] at H
                have c10b0 : decide (t101 < 0) = true := decide_eq_true c10
                clear c10
                simp only [Option.some.injEq, Prod.mk.injEq] at H
                obtain ⟨rfl, rfl⟩ := H
                have p8 : 0 ≤ (x16_1 : Int) := of_decide_eq_true (by first | (with_reducible assumption) | assumption)
                have q8 : x16_1 < (a0.size : Int) := of_decide_eq_true (by first | (with_reducible assumption) | assumption)
                have hx8 := bt_at a0 x16_1
                replace p8 := eq_true p8
                replace q8 := eq_true q8
                go_wp2_with (first | ((with_reducible refine gate_callee (f := 98) rfl ?_); refine goesL_ (some 23) rfl rfl Tryd.func98 (by kernel_rfl) rfl #[.int .u8 (bt a0 x16_1), .int .u64 a1] rfl (by (try simp only [List.map_toArray, List.map_cons, List.map_nil]); first | done | rfl | (simp only [List.length_drop, List.length_take]; rfl)) ?_; (with_reducible refine (spec_digit29.calls k1 (bt a0 x16_1) a1 t101 _ A9.out).mono ?_); rintro e w' ⟨rfl, ⟨nd, rfl⟩⟩; refine ⟨_, rfl, ?_⟩))
                go_ret2
                exact ⟨by first | rfl | (simp; done) | (simp [*]; done), by repeat (first | exact Drawn0.refl _ | apply Drawn0.step)⟩
              · rw [if_neg c10] at H
                have c10b0 : decide (t101 < 0) = false := decide_eq_false c10
                clear c10
                by_cases c11 : x9_1 = true
                · subst c11
                  have H1 : (spec_digits29.l0 k1 a0 a1 a2 x8_1 true (a0.size : Int) (wrap64 (x16_1 + 1))) = some (r1, r2) := by rw [if_pos rfl] at H; exact H
                  clear H
                  have H := H1
                  clear H1
                  have H' := Aside0.mk H
                  clear H
                  have p8 : 0 ≤ (x16_1 : Int) := of_decide_eq_true (by first | (with_reducible assumption) | assumption)
                  have q8 : x16_1 < (a0.size : Int) := of_decide_eq_true (by first | (with_reducible assumption) | assumption)
                  have hx8 := bt_at a0 x16_1
                  replace p8 := eq_true p8
                  replace q8 := eq_true q8
                  go_wp2_with (first | ((with_reducible refine gate_callee (f := 98) rfl ?_); refine goesL_ (some 23) rfl rfl Tryd.func98 (by kernel_rfl) rfl #[.int .u8 (bt a0 x16_1), .int .u64 a1] rfl (by (try simp only [List.map_toArray, List.map_cons, List.map_nil]); first | done | rfl | (simp only [List.length_drop, List.length_take]; rfl)) ?_; (with_reducible refine (spec_digit29.calls k1 (bt a0 x16_1) a1 t101 _ A9.out).mono ?_); rintro e w' ⟨rfl, ⟨nd, rfl⟩⟩; refine ⟨_, rfl, ?_⟩))
                  go_roundg k1
                  case measure => have := HK1.out; omega
                  case rel => exact ⟨(x8_1), (true), (wrap64 (x16_1 + 1)), (by first | rfl | (simp; done) | (simp [*]; done)), (by first | rfl | (simp; done) | (simp [*]; done)), (by first | rfl | (simp; done) | (simp [*]; done)), H', ⟨by have := HK1.out; omega⟩, by repeat (first | exact Drawn0.refl _ | apply Drawn0.step)⟩
                · replace c11 := Bool.eq_false_iff.mpr c11
                  subst c11
                  have H1 : (if a1 = 0 then (none) else (if x8_1 > (IntKind.u64.wrap (Int.tdiv (IntKind.u64.wrap (a2 - (IntKind.u64.wrap (t101)))) a1)) then (spec_digits29.l0 k1 a0 a1 a2 x8_1 true (a0.size : Int) (wrap64 (x16_1 + 1))) else (if (IntKind.u64.wrap (t101)) > a2 then (spec_digits29.l0 k1 a0 a1 a2 x8_1 true (a0.size : Int) (wrap64 (x16_1 + 1))) else (spec_digits29.l0 k1 a0 a1 a2 (IntKind.u64.wrap ((IntKind.u64.wrap (x8_1 * a1)) + (IntKind.u64.wrap (t101)))) false (a0.size : Int) (wrap64 (x16_1 + 1)))))) = some (r1, r2) := by rw [if_neg (show ¬ (false = true) by decide)] at H; exact H
                  clear H
                  have H := H1
                  clear H1
                  by_cases c12 : a1 = 0
                  · rw [if_pos c12] at H
                    exact absurd H (by simp)
                  · rw [if_neg c12] at H
                    have c12b0 : (a1 == 0) = false := beq_eq_false_iff_ne.mpr c12
                    have c12b1 : (a1 != 0) = true := bne_iff_ne.mpr c12
                    by_cases c13 : x8_1 > (IntKind.u64.wrap (Int.tdiv (IntKind.u64.wrap (a2 - (IntKind.u64.wrap (t101)))) a1))
                    · rw [if_pos c13] at H
                      have c13b0 : decide ((IntKind.u64.wrap (Int.tdiv (IntKind.u64.wrap (a2 - (IntKind.u64.wrap (t101)))) a1)) < x8_1) = true := decide_eq_true c13
                      clear c13
                      have H' := Aside0.mk H
                      clear H
                      have p8 : 0 ≤ (x16_1 : Int) := of_decide_eq_true (by first | (with_reducible assumption) | assumption)
                      have q8 : x16_1 < (a0.size : Int) := of_decide_eq_true (by first | (with_reducible assumption) | assumption)
                      have hx8 := bt_at a0 x16_1
                      replace p8 := eq_true p8
                      replace q8 := eq_true q8
                      go_wp2_with (first | ((with_reducible refine gate_callee (f := 98) rfl ?_); refine goesL_ (some 23) rfl rfl Tryd.func98 (by kernel_rfl) rfl #[.int .u8 (bt a0 x16_1), .int .u64 a1] rfl (by (try simp only [List.map_toArray, List.map_cons, List.map_nil]); first | done | rfl | (simp only [List.length_drop, List.length_take]; rfl)) ?_; (with_reducible refine (spec_digit29.calls k1 (bt a0 x16_1) a1 t101 _ A9.out).mono ?_); rintro e w' ⟨rfl, ⟨nd, rfl⟩⟩; refine ⟨_, rfl, ?_⟩))
                      go_roundg k1
                      case measure => have := HK1.out; omega
                      case rel => exact ⟨(x8_1), (true), (wrap64 (x16_1 + 1)), (by first | rfl | (simp; done) | (simp [*]; done)), (by first | rfl | (simp; done) | (simp [*]; done)), (by first | rfl | (simp; done) | (simp [*]; done)), H', ⟨by have := HK1.out; omega⟩, by repeat (first | exact Drawn0.refl _ | apply Drawn0.step)⟩
                    · rw [if_neg c13] at H
                      have c13b0 : decide ((IntKind.u64.wrap (Int.tdiv (IntKind.u64.wrap (a2 - (IntKind.u64.wrap (t101)))) a1)) < x8_1) = false := decide_eq_false c13
                      clear c13
                      by_cases c14 : (IntKind.u64.wrap (t101)) > a2
                      · rw [if_pos c14] at H
                        have c14b0 : decide (a2 < (IntKind.u64.wrap (t101))) = true := decide_eq_true c14
                        clear c14
                        have H' := Aside0.mk H
                        clear H
                        have p8 : 0 ≤ (x16_1 : Int) := of_decide_eq_true (by first | (with_reducible assumption) | assumption)
                        have q8 : x16_1 < (a0.size : Int) := of_decide_eq_true (by first | (with_reducible assumption) | assumption)
                        have hx8 := bt_at a0 x16_1
                        replace p8 := eq_true p8
                        replace q8 := eq_true q8
                        go_wp2_with (first | ((with_reducible refine gate_callee (f := 98) rfl ?_); refine goesL_ (some 23) rfl rfl Tryd.func98 (by kernel_rfl) rfl #[.int .u8 (bt a0 x16_1), .int .u64 a1] rfl (by (try simp only [List.map_toArray, List.map_cons, List.map_nil]); first | done | rfl | (simp only [List.length_drop, List.length_take]; rfl)) ?_; (with_reducible refine (spec_digit29.calls k1 (bt a0 x16_1) a1 t101 _ A9.out).mono ?_); rintro e w' ⟨rfl, ⟨nd, rfl⟩⟩; refine ⟨_, rfl, ?_⟩))
                        go_roundg k1
                        case measure => have := HK1.out; omega
                        case rel => exact ⟨(x8_1), (true), (wrap64 (x16_1 + 1)), (by first | rfl | (simp; done) | (simp [*]; done)), (by first | rfl | (simp; done) | (simp [*]; done)), (by first | rfl | (simp; done) | (simp [*]; done)), H', ⟨by have := HK1.out; omega⟩, by repeat (first | exact Drawn0.refl _ | apply Drawn0.step)⟩
                      · rw [if_neg c14] at H
                        have c14b0 : decide (a2 < (IntKind.u64.wrap (t101))) = false := decide_eq_false c14
                        clear c14
                        have H' := Aside0.mk H
                        clear H
                        have p8 : 0 ≤ (x16_1 : Int) := of_decide_eq_true (by first | (with_reducible assumption) | assumption)
                        have q8 : x16_1 < (a0.size : Int) := of_decide_eq_true (by first | (with_reducible assumption) | assumption)
                        have hx8 := bt_at a0 x16_1
                        replace p8 := eq_true p8
                        replace q8 := eq_true q8
                        go_wp2_with (first | ((with_reducible refine gate_callee (f := 98) rfl ?_); refine goesL_ (some 23) rfl rfl Tryd.func98 (by kernel_rfl) rfl #[.int .u8 (bt a0 x16_1), .int .u64 a1] rfl (by (try simp only [List.map_toArray, List.map_cons, List.map_nil]); first | done | rfl | (simp only [List.length_drop, List.length_take]; rfl)) ?_; (with_reducible refine (spec_digit29.calls k1 (bt a0 x16_1) a1 t101 _ A9.out).mono ?_); rintro e w' ⟨rfl, ⟨nd, rfl⟩⟩; refine ⟨_, rfl, ?_⟩))
                        go_roundg k1
                        case measure => have := HK1.out; omega
                        case rel => exact ⟨(IntKind.u64.wrap ((IntKind.u64.wrap (x8_1 * a1)) + (IntKind.u64.wrap (t101)))), (false), (wrap64 (x16_1 + 1)), (by first | rfl | (simp; done) | (simp [*]; done)), (by first | rfl | (simp; done) | (simp [*]; done)), (by first | rfl | (simp; done) | (simp [*]; done)), H', ⟨by have := HK1.out; omega⟩, by repeat (first | exact Drawn0.refl _ | apply Drawn0.step)⟩
            · rw [if_neg c7] at H
              exact absurd H (by simp)
          · rw [if_neg c6] at H
            exact absurd H (by simp)
        · rw [if_neg c5] at H
          have c5b0 : decide (x16_1 < (a0.size : Int)) = false := decide_eq_false c5
          clear c5
          by_cases c15 : x9_1 = true
          · subst c15
            have H1 : (some (0, 2)) = some (r1, r2) := by rw [if_pos rfl] at H; exact H
            clear H
            have H := H1
            clear H1
            simp only [Option.some.injEq, Prod.mk.injEq] at H
            obtain ⟨rfl, rfl⟩ := H
            go_wp2
            go_ret2
            exact ⟨by first | rfl | (simp; done) | (simp [*]; done), by repeat (first | exact Drawn0.refl _ | apply Drawn0.step)⟩
          · replace c15 := Bool.eq_false_iff.mpr c15
            subst c15
            have H1 : (some (x8_1, 1)) = some (r1, r2) := by rw [if_neg (show ¬ (false = true) by decide)] at H; exact H
            clear H
            have H := H1
            clear H1
            simp only [Option.some.injEq, Prod.mk.injEq] at H
            obtain ⟨rfl, rfl⟩ := H
            go_wp2
            go_ret2
            exact ⟨by first | rfl | (simp; done) | (simp [*]; done), by repeat (first | exact Drawn0.refl _ | apply Drawn0.step)⟩

end Go.Proofs.YtdmpeecocfoocaaDoor.PWhole
