-- PRINTED BY print.sh 35421559b90ae4d0a3588c463048766b98c2df88dd9212a6774a882060cdf62d: not written by this session
import Derived.Test.YtdmpeecocfoocaaDoorPWholex0
namespace Go.Proofs.YtdmpeecocfoocaaDoor.PWhole
open Go.RowKit Go.Proofs.YtdmpeecocfoocaaDoorW.PrintWords Go.Proofs.YtdmpeecocfoocaaDoorW.PrintLast Go.Proofs.YtdmpeecocfoocaaDoorW.PrintMore
attribute [local go_sem] max2_int min2_int max_two min_two max_three min_three max_four min_four   -- for this text's walks alone
set_option linter.unusedVariables false
set_option linter.unusedSimpArgs false

/-! ### spec_prefixed29: function 82 -/
mutual
def spec_prefixed29.j0 : Nat → ByteArray → Bool → Option (ByteArray × Int)
  | 0, _, _ => none
  | k + 1, x0, x11 => if x11 = true then (if 1 < (x0.size : Int) then (if (bt x0 1) = 120 then (spec_prefixed29.j1 k x0 (bt x0 1) ((bt x0 1) == 120)) else (spec_prefixed29.j1 k x0 (bt x0 1) ((bt x0 1) == 88))) else (none)) else (if (x0.size : Int) ≥ 2 then (if 0 < (x0.size : Int) then (if (bt x0 0) = 48 then (if 1 ≤ (x0.size : Int) then (some (x0.extract 1 x0.size, 8)) else (none)) else (some (x0, 10))) else (none)) else (some (x0, 10)))
def spec_prefixed29.j1 : Nat → ByteArray → Int → Bool → Option (ByteArray × Int)
  | 0, _, _, _ => none
  | k + 1, x0, x13, x14 => if x14 = true then (if 2 ≤ (x0.size : Int) then (some (x0.extract 2 x0.size, 16)) else (none)) else (if x13 = 98 then (spec_prefixed29.j2 k x0 x13 (x13 == 98)) else (spec_prefixed29.j2 k x0 x13 (x13 == 66)))
def spec_prefixed29.j2 : Nat → ByteArray → Int → Bool → Option (ByteArray × Int)
  | 0, _, _, _ => none
  | k + 1, x0, x13, x19 => if x19 = true then (if 2 ≤ (x0.size : Int) then (some (x0.extract 2 x0.size, 2)) else (none)) else (if x13 = 111 then (spec_prefixed29.j3 k x0 (x13 == 111)) else (spec_prefixed29.j3 k x0 (x13 == 79)))
def spec_prefixed29.j3 : Nat → ByteArray → Bool → Option (ByteArray × Int)
  | 0, _, _ => none
  | k + 1, x0, x24 => if x24 = true then (if 2 ≤ (x0.size : Int) then (some (x0.extract 2 x0.size, 8)) else (none)) else (if (x0.size : Int) ≥ 2 then (if 0 < (x0.size : Int) then (if (bt x0 0) = 48 then (if 1 ≤ (x0.size : Int) then (some (x0.extract 1 x0.size, 8)) else (none)) else (some (x0, 10))) else (none)) else (some (x0, 10)))
end
def spec_prefixed29.f (k : Nat) (a0 : ByteArray) : Option (ByteArray × Int) := if (a0.size : Int) ≥ 3 then (if 0 < (a0.size : Int) then (spec_prefixed29.j0 k a0 ((bt a0 0) == 48)) else (none)) else (spec_prefixed29.j0 k a0 false)
theorem spec_prefixed29.mono_l : ∀ k, (∀ y0 y1, LeO (spec_prefixed29.j0 k y0 y1) (spec_prefixed29.j0 (k + 1) y0 y1)) ∧ (∀ y0 y1 y2, LeO (spec_prefixed29.j1 k y0 y1 y2) (spec_prefixed29.j1 (k + 1) y0 y1 y2)) ∧ (∀ y0 y1 y2, LeO (spec_prefixed29.j2 k y0 y1 y2) (spec_prefixed29.j2 (k + 1) y0 y1 y2)) ∧ (∀ y0 y1, LeO (spec_prefixed29.j3 k y0 y1) (spec_prefixed29.j3 (k + 1) y0 y1))
  | 0 => ⟨fun _ _ r h => by simp [spec_prefixed29.j0] at h, fun _ _ _ r h => by simp [spec_prefixed29.j1] at h, fun _ _ _ r h => by simp [spec_prefixed29.j2] at h, fun _ _ r h => by simp [spec_prefixed29.j3] at h⟩
  | k + 1 => by
    obtain ⟨ih0, ih1, ih2, ih3⟩ := spec_prefixed29.mono_l k
    refine ⟨?_, ?_, ?_, ?_⟩
    · intro y0 y1
      unfold spec_prefixed29.j0
      repeat' first
      | (with_reducible exact ih0 _ _)
      | (with_reducible exact ih1 _ _ _)
      | (with_reducible exact ih2 _ _ _)
      | (with_reducible exact ih3 _ _)
      | (with_reducible exact LeO.refl _)
      | (with_reducible exact LeO.none _)
      | (with_reducible refine LeO.ite ?_ ?_)
      | (with_reducible refine LeO.bind ?_ (fun _ => ?_))
      | exact ih0 _ _
      | exact ih1 _ _ _
      | exact ih2 _ _ _
      | exact ih3 _ _
      | exact LeO.none _
      | refine LeO.ite ?_ ?_
      | refine LeO.bind ?_ (fun _ => ?_)
    · intro y0 y1 y2
      unfold spec_prefixed29.j1
      repeat' first
      | (with_reducible exact ih0 _ _)
      | (with_reducible exact ih1 _ _ _)
      | (with_reducible exact ih2 _ _ _)
      | (with_reducible exact ih3 _ _)
      | (with_reducible exact LeO.refl _)
      | (with_reducible exact LeO.none _)
      | (with_reducible refine LeO.ite ?_ ?_)
      | (with_reducible refine LeO.bind ?_ (fun _ => ?_))
      | exact ih0 _ _
      | exact ih1 _ _ _
      | exact ih2 _ _ _
      | exact ih3 _ _
      | exact LeO.none _
      | refine LeO.ite ?_ ?_
      | refine LeO.bind ?_ (fun _ => ?_)
    · intro y0 y1 y2
      unfold spec_prefixed29.j2
      repeat' first
      | (with_reducible exact ih0 _ _)
      | (with_reducible exact ih1 _ _ _)
      | (with_reducible exact ih2 _ _ _)
      | (with_reducible exact ih3 _ _)
      | (with_reducible exact LeO.refl _)
      | (with_reducible exact LeO.none _)
      | (with_reducible refine LeO.ite ?_ ?_)
      | (with_reducible refine LeO.bind ?_ (fun _ => ?_))
      | exact ih0 _ _
      | exact ih1 _ _ _
      | exact ih2 _ _ _
      | exact ih3 _ _
      | exact LeO.none _
      | refine LeO.ite ?_ ?_
      | refine LeO.bind ?_ (fun _ => ?_)
    · intro y0 y1
      unfold spec_prefixed29.j3
      repeat' first
      | (with_reducible exact ih0 _ _)
      | (with_reducible exact ih1 _ _ _)
      | (with_reducible exact ih2 _ _ _)
      | (with_reducible exact ih3 _ _)
      | (with_reducible exact LeO.refl _)
      | (with_reducible exact LeO.none _)
      | (with_reducible refine LeO.ite ?_ ?_)
      | (with_reducible refine LeO.bind ?_ (fun _ => ?_))
      | exact ih0 _ _
      | exact ih1 _ _ _
      | exact ih2 _ _ _
      | exact ih3 _ _
      | exact LeO.none _
      | refine LeO.ite ?_ ?_
      | refine LeO.bind ?_ (fun _ => ?_)
theorem spec_prefixed29.mono : ∀ a0 k, LeO (spec_prefixed29.f k a0) (spec_prefixed29.f (k + 1) a0) := by
  intro a0 k
  obtain ⟨ih0, ih1, ih2, ih3⟩ := spec_prefixed29.mono_l k
  unfold spec_prefixed29.f
  repeat' first
      | (with_reducible exact ih0 _ _)
      | (with_reducible exact ih1 _ _ _)
      | (with_reducible exact ih2 _ _ _)
      | (with_reducible exact ih3 _ _)
      | (with_reducible exact LeO.refl _)
      | (with_reducible exact LeO.none _)
      | (with_reducible refine LeO.ite ?_ ?_)
      | (with_reducible refine LeO.bind ?_ (fun _ => ?_))
      | exact ih0 _ _
      | exact ih1 _ _ _
      | exact ih2 _ _ _
      | exact ih3 _ _
      | exact LeO.none _
      | refine LeO.ite ?_ ?_
      | refine LeO.bind ?_ (fun _ => ?_)
set_option maxHeartbeats 8000000 in
set_option maxRecDepth 100000 in
theorem spec_prefixed29.calls (k : Nat) (a0 : ByteArray) (r1 : ByteArray) (r2 : Int) (w : World) (h : spec_prefixed29.f k a0 = some (r1, r2)) :
    Calls Tryd.prog 82 #[.string a0] w fun e w' => e = .returned (.tuple #[.string r1, .int .u64 r2]) ∧ Drawn0 w w' := by
  have H : (if (a0.size : Int) ≥ 3 then (if 0 < (a0.size : Int) then (spec_prefixed29.j0 k a0 ((bt a0 0) == 48)) else (none)) else (spec_prefixed29.j0 k a0 false)) = some (r1, r2) := h
  clear h
  have HC2 := Aside0.mk H
  clear H
  go_enter Tryd.func82, Tryd.ntmps82
  go_upto_region 1 with (fail)
  go_cut [11] (fun v11 wc => ∃ (kq : Nat) (x11_1 : Bool), v11 = .bool x11_1 ∧ Aside0 (spec_prefixed29.j0 kq a0 x11_1 = some (r1, r2)) ∧ Aside0 (kq ≤ k) ∧ Drawn0 w wc)
  case first =>
    have H := HC2.out
    clear HC2
    by_cases c3 : (a0.size : Int) ≥ 3
    · rw [if_pos c3] at H
      have c3b0 : decide (3 ≤ (a0.size : Int)) = true := decide_eq_true c3
      have c3b1 : decide (3 ≤ a0.size) = true := decide_eq_true (by omega)
      clear c3
      (first | rw [c3b0] | (simp only [i64_w, i32_w]; rw [c3b0]) | skip)
      by_cases c4 : 0 < (a0.size : Int)
      · rw [if_pos c4] at H
        have c4b0 : decide (0 < (a0.size : Int)) = true := decide_eq_true c4
        have c4b1 : decide (0 < a0.size) = true := decide_eq_true (by omega)
        clear c4
        have H' := Aside0.mk H
        clear H
        have p5 : 0 ≤ (0 : Int) := (by omega)
        have q5 : 0 < a0.size := (by have : (0 : Int) < (a0.size : Int) := of_decide_eq_true (by first | (with_reducible assumption) | assumption); omega)
        have hx5 : ∀ h : 0 < a0.size, ((a0[0]'h).toNat : Int) = bt a0 0 := bt_at a0 0
        clear p5
        have qi5 : (0 < (a0.size : Int)) = True := eq_true (of_decide_eq_true (by first | (with_reducible assumption) | assumption))
        replace q5 := eq_true q5
        go_wp2
        go_meet
        case rel => exact ⟨_, (((bt a0 0) == 48)), (by first | rfl | (simp; done) | (simp [*]; done)), H', ⟨by first | omega | exact Nat.le_refl _⟩, by repeat (first | exact Drawn0.refl _ | apply Drawn0.step)⟩
      · rw [if_neg c4] at H
        exact absurd H (by simp)
    · rw [if_neg c3] at H
      have c3b0 : decide (3 ≤ (a0.size : Int)) = false := decide_eq_false c3
      have c3b1 : decide (3 ≤ a0.size) = false := decide_eq_false (by omega)
      clear c3
      (first | rw [c3b0] | (simp only [i64_w, i32_w]; rw [c3b0]) | skip)
      have H' := Aside0.mk H
      clear H
      go_wp2
      go_meet
      case rel => exact ⟨_, (false), (by first | rfl | (simp; done) | (simp [*]; done)), H', ⟨by first | omega | exact Nat.le_refl _⟩, by repeat (first | exact Drawn0.refl _ | apply Drawn0.step)⟩
  case rest =>
    clear HC2
    try clear p2
    try clear c3
    try clear c3b0
    try clear c3b1
    try clear c4
    try clear c4b0
    try clear c4b1
    try clear p5
    try clear q5
    try clear hx5
    try clear qi5
    try clear p5
    try clear q5
    obtain ⟨kq, x11_1, rfl, HA, HJ1, ⟨mc1, rfl⟩⟩ := hcut
    cases kq with
    | zero => exact absurd HA.out (by simp [spec_prefixed29.j0])
    | succ kj1 =>
      have H := HA.out
      clear HA
      simp only [spec_prefixed29.j0] at H
      by_cases c6 : x11_1 = true
      · subst c6
        have H1 : (if 1 < (a0.size : Int) then (if (bt a0 1) = 120 then (spec_prefixed29.j1 kj1 a0 (bt a0 1) ((bt a0 1) == 120)) else (spec_prefixed29.j1 kj1 a0 (bt a0 1) ((bt a0 1) == 88))) else (none)) = some (r1, r2) := by rw [if_pos rfl] at H; exact H
        clear H
        have H := H1
        clear H1
        by_cases c7 : 1 < (a0.size : Int)
        · rw [if_pos c7] at H
          have c7b0 : decide (1 < (a0.size : Int)) = true := decide_eq_true c7
          have c7b1 : decide (1 < a0.size) = true := decide_eq_true (by omega)
          clear c7
          have HC9 := Aside0.mk H
          clear H
          have p8 : 0 ≤ (1 : Int) := (by omega)
          have q8 : 1 < a0.size := (by have : (1 : Int) < (a0.size : Int) := of_decide_eq_true (by first | (with_reducible assumption) | assumption); omega)
          have hx8 : ∀ h : 1 < a0.size, ((a0[1]'h).toNat : Int) = bt a0 1 := bt_at a0 1
          clear p8
          have qi8 : (1 < (a0.size : Int)) = True := eq_true (of_decide_eq_true (by first | (with_reducible assumption) | assumption))
          replace q8 := eq_true q8
          go_upto_if 14 with (fail)
          go_cut [14] (fun v14 wc => ∃ (kq : Nat) (x14_8 : Bool), v14 = .bool x14_8 ∧ Aside0 (spec_prefixed29.j1 kq a0 (bt a0 1) x14_8 = some (r1, r2)) ∧ Aside0 (kq ≤ kj1) ∧ Drawn0 w wc)
          case first =>
            have H := HC9.out
            clear HC9
            by_cases c10 : (bt a0 1) = 120
            · rw [if_pos c10] at H
              have c10b0 : ((bt a0 1) == 120) = true := beq_iff_eq.mpr c10
              have c10b1 : ((bt a0 1) != 120) = false := bne_eq_false_iff_eq.mpr c10
              clear c10
              (first | rw [c10b0] | (simp only [i64_w, i32_w]; rw [c10b0]) | skip)
              have H' := Aside0.mk H
              clear H
              go_wp2
              go_meet
              case rel => exact ⟨_, (((bt a0 1) == 120)), (by first | rfl | (simp; done) | (simp [*]; done)), H', ⟨by have := HJ1.out; first | omega | exact Nat.le_refl _⟩, by repeat (first | exact Drawn0.refl _ | apply Drawn0.step)⟩
            · rw [if_neg c10] at H
              have c10b0 : ((bt a0 1) == 120) = false := beq_eq_false_iff_ne.mpr c10
              have c10b1 : ((bt a0 1) != 120) = true := bne_iff_ne.mpr c10
              (first | rw [c10b0] | (simp only [i64_w, i32_w]; rw [c10b0]) | skip)
              have H' := Aside0.mk H
              clear H
              go_wp2
              go_meet
              case rel => exact ⟨_, (((bt a0 1) == 88)), (by first | rfl | (simp; done) | (simp [*]; done)), H', ⟨by have := HJ1.out; first | omega | exact Nat.le_refl _⟩, by repeat (first | exact Drawn0.refl _ | apply Drawn0.step)⟩
          case rest =>
            clear HC9
            try clear c1
            try clear p2
            try clear c3
            try clear c3b0
            try clear c3b1
            try clear c4
            try clear c4b0
            try clear c4b1
            try clear p5
            try clear q5
            try clear hx5
            try clear qi5
            try clear c6
            try clear c7
            try clear c7b0
            try clear c7b1
            try clear c8
            try clear p8
            try clear q8
            try clear hx8
            try clear qi8
            try clear c10
            try clear c10b0
            try clear c10b1
            try clear p2
            try clear p5
            try clear p8
            try clear q5
            try clear q8
            obtain ⟨kq, x14_8, rfl, HA, HJ8, ⟨mc8, rfl⟩⟩ := hcut
            cases kq with
            | zero => exact absurd HA.out (by simp [spec_prefixed29.j1])
            | succ kj8 =>
              have H := HA.out
              clear HA
              simp only [spec_prefixed29.j1] at H
              by_cases c11 : x14_8 = true
              · subst c11
                have H1 : (if 2 ≤ (a0.size : Int) then (some (a0.extract 2 a0.size, 16)) else (none)) = some (r1, r2) := by rw [if_pos rfl] at H; exact H
                clear H
                have H := H1
                clear H1
                by_cases c12 : 2 ≤ (a0.size : Int)
                · rw [if_pos c12] at H
                  have c12b0 := eq_true c12
                  have c12b1 : decide (2 ≤ (a0.size : Int)) = true := decide_eq_true c12
                  clear c12
                  simp only [Option.some.injEq, Prod.mk.injEq] at H
                  obtain ⟨rfl, rfl⟩ := H
                  go_wp2
                  go_ret2
                  exact ⟨by first | rfl | (simp; done) | (simp [*]; done), by repeat (first | exact Drawn0.refl _ | apply Drawn0.step)⟩
                · rw [if_neg c12] at H
                  exact absurd H (by simp)
              · replace c11 := Bool.eq_false_iff.mpr c11
                subst c11
                have H1 : (if (bt a0 1) = 98 then (spec_prefixed29.j2 kj8 a0 (bt a0 1) ((bt a0 1) == 98)) else (spec_prefixed29.j2 kj8 a0 (bt a0 1) ((bt a0 1) == 66))) = some (r1, r2) := by rw [if_neg (show ¬ (false = true) by decide)] at H; exact H
                clear H
                have H := H1
                clear H1
                have HC13 := Aside0.mk H
                clear H
                go_upto_if 19 with (fail)
                go_cut [19] (fun v19 wc => ∃ (kq : Nat) (x19_12 : Bool), v19 = .bool x19_12 ∧ Aside0 (spec_prefixed29.j2 kq a0 (bt a0 1) x19_12 = some (r1, r2)) ∧ Aside0 (kq ≤ kj8) ∧ Drawn0 w wc)
                case first =>
                  have H := HC13.out
                  clear HC13
                  by_cases c14 : (bt a0 1) = 98
                  · rw [if_pos c14] at H
                    have c14b0 : ((bt a0 1) == 98) = true := beq_iff_eq.mpr c14
                    have c14b1 : ((bt a0 1) != 98) = false := bne_eq_false_iff_eq.mpr c14
                    clear c14
                    (first | rw [c14b0] | (simp only [i64_w, i32_w]; rw [c14b0]) | skip)
                    have H' := Aside0.mk H
                    clear H
                    go_wp2
                    go_meet
                    case rel => exact ⟨_, (((bt a0 1) == 98)), (by first | rfl | (simp; done) | (simp [*]; done)), H', ⟨by have := HJ1.out; have := HJ8.out; first | omega | exact Nat.le_refl _⟩, by repeat (first | exact Drawn0.refl _ | apply Drawn0.step)⟩
                  · rw [if_neg c14] at H
                    have c14b0 : ((bt a0 1) == 98) = false := beq_eq_false_iff_ne.mpr c14
                    have c14b1 : ((bt a0 1) != 98) = true := bne_iff_ne.mpr c14
                    (first | rw [c14b0] | (simp only [i64_w, i32_w]; rw [c14b0]) | skip)
                    have H' := Aside0.mk H
                    clear H
                    go_wp2
                    go_meet
                    case rel => exact ⟨_, (((bt a0 1) == 66)), (by first | rfl | (simp; done) | (simp [*]; done)), H', ⟨by have := HJ1.out; have := HJ8.out; first | omega | exact Nat.le_refl _⟩, by repeat (first | exact Drawn0.refl _ | apply Drawn0.step)⟩
                case rest =>
                  clear HC13
                  try clear c1
                  try clear p2
                  try clear c3
                  try clear c3b0
                  try clear c3b1
                  try clear c4
                  try clear c4b0
                  try clear c4b1
                  try clear p5
                  try clear q5
                  try clear hx5
                  try clear qi5
                  try clear c6
                  try clear c7
                  try clear c7b0
                  try clear c7b1
                  try clear c8
                  try clear p8
                  try clear q8
                  try clear hx8
                  try clear qi8
                  try clear c10
                  try clear c10b0
                  try clear c10b1
                  try clear c11
                  try clear c12
                  try clear c12b0
                  try clear c12b1
                  try clear c14
                  try clear c14b0
                  try clear c14b1
                  try clear p2
                  try clear p5
                  try clear p8
                  try clear q5
                  try clear q8
                  obtain ⟨kq, x19_12, rfl, HA, HJ12, ⟨mc12, rfl⟩⟩ := hcut
                  cases kq with
                  | zero => exact absurd HA.out (by simp [spec_prefixed29.j2])
                  | succ kj12 =>
                    have H := HA.out
                    clear HA
                    simp only [spec_prefixed29.j2] at H
                    by_cases c15 : x19_12 = true
                    · subst c15
                      have H1 : (if 2 ≤ (a0.size : Int) then (some (a0.extract 2 a0.size, 2)) else (none)) = some (r1, r2) := by rw [if_pos rfl] at H; exact H
                      clear H
                      have H := H1
                      clear H1
                      by_cases c16 : 2 ≤ (a0.size : Int)
                      · rw [if_pos c16] at H
                        have c16b0 := eq_true c16
                        have c16b1 : decide (2 ≤ (a0.size : Int)) = true := decide_eq_true c16
                        clear c16
                        simp only [Option.some.injEq, Prod.mk.injEq] at H
                        obtain ⟨rfl, rfl⟩ := H
                        go_wp2
                        go_ret2
                        exact ⟨by first | rfl | (simp; done) | (simp [*]; done), by repeat (first | exact Drawn0.refl _ | apply Drawn0.step)⟩
                      · rw [if_neg c16] at H
                        exact absurd H (by simp)
                    · replace c15 := Bool.eq_false_iff.mpr c15
                      subst c15
                      have H1 : (if (bt a0 1) = 111 then (spec_prefixed29.j3 kj12 a0 ((bt a0 1) == 111)) else (spec_prefixed29.j3 kj12 a0 ((bt a0 1) == 79))) = some (r1, r2) := by rw [if_neg (show ¬ (false = true) by decide)] at H; exact H
                      clear H
                      have H := H1
                      clear H1
                      have HC17 := Aside0.mk H
                      clear H
                      go_upto_if 24 with (fail)
                      go_cut [24] (fun v24 wc => ∃ (kq : Nat) (x24_16 : Bool), v24 = .bool x24_16 ∧ Aside0 (spec_prefixed29.j3 kq a0 x24_16 = some (r1, r2)) ∧ Aside0 (kq ≤ kj12) ∧ Drawn0 w wc)
                      case first =>
                        have H := HC17.out
                        clear HC17
                        by_cases c18 : (bt a0 1) = 111
                        · rw [if_pos c18] at H
                          have c18b0 : ((bt a0 1) == 111) = true := beq_iff_eq.mpr c18
                          have c18b1 : ((bt a0 1) != 111) = false := bne_eq_false_iff_eq.mpr c18
                          clear c18
                          (first | rw [c18b0] | (simp only [i64_w, i32_w]; rw [c18b0]) | skip)
                          have H' := Aside0.mk H
                          clear H
                          go_wp2
                          go_meet
                          case rel => exact ⟨_, (((bt a0 1) == 111)), (by first | rfl | (simp; done) | (simp [*]; done)), H', ⟨by have := HJ1.out; have := HJ8.out; have := HJ12.out; first | omega | exact Nat.le_refl _⟩, by repeat (first | exact Drawn0.refl _ | apply Drawn0.step)⟩
                        · rw [if_neg c18] at H
                          have c18b0 : ((bt a0 1) == 111) = false := beq_eq_false_iff_ne.mpr c18
                          have c18b1 : ((bt a0 1) != 111) = true := bne_iff_ne.mpr c18
                          (first | rw [c18b0] | (simp only [i64_w, i32_w]; rw [c18b0]) | skip)
                          have H' := Aside0.mk H
                          clear H
                          go_wp2
                          go_meet
                          case rel => exact ⟨_, (((bt a0 1) == 79)), (by first | rfl | (simp; done) | (simp [*]; done)), H', ⟨by have := HJ1.out; have := HJ8.out; have := HJ12.out; first | omega | exact Nat.le_refl _⟩, by repeat (first | exact Drawn0.refl _ | apply Drawn0.step)⟩
                      case rest =>
                        clear HC17
                        try clear c1
                        try clear p2
                        try clear c3
                        try clear c3b0
                        try clear c3b1
                        try clear c4
                        try clear c4b0
                        try clear c4b1
                        try clear p5
                        try clear q5
                        try clear hx5
                        try clear qi5
                        try clear c6
                        try clear c7
                        try clear c7b0
                        try clear c7b1
                        try clear c8
                        try clear p8
                        try clear q8
                        try clear hx8
                        try clear qi8
                        try clear c10
                        try clear c10b0
                        try clear c10b1
                        try clear c11
                        try clear c12
                        try clear c12b0
                        try clear c12b1
                        try clear c14
                        try clear c14b0
                        try clear c14b1
                        try clear c15
                        try clear c16
                        try clear c16b0
                        try clear c16b1
                        try clear c18
                        try clear c18b0
                        try clear c18b1
                        try clear p2
                        try clear p5
                        try clear p8
                        try clear q5
                        try clear q8
                        obtain ⟨kq, x24_16, rfl, HA, HJ16, ⟨mc16, rfl⟩⟩ := hcut
                        cases kq with
                        | zero => exact absurd HA.out (by simp [spec_prefixed29.j3])
                        | succ kj16 =>
                          have H := HA.out
                          clear HA
                          simp only [spec_prefixed29.j3] at H
                          by_cases c19 : x24_16 = true
                          · subst c19
                            have H1 : (if 2 ≤ (a0.size : Int) then (some (a0.extract 2 a0.size, 8)) else (none)) = some (r1, r2) := by rw [if_pos rfl] at H; exact H
                            clear H
                            have H := H1
                            clear H1
                            by_cases c20 : 2 ≤ (a0.size : Int)
                            · rw [if_pos c20] at H
                              have c20b0 := eq_true c20
                              have c20b1 : decide (2 ≤ (a0.size : Int)) = true := decide_eq_true c20
                              clear c20
                              simp only [Option.some.injEq, Prod.mk.injEq] at H
                              obtain ⟨rfl, rfl⟩ := H
                              go_wp2
                              go_ret2
                              exact ⟨by first | rfl | (simp; done) | (simp [*]; done), by repeat (first | exact Drawn0.refl _ | apply Drawn0.step)⟩
                            · rw [if_neg c20] at H
                              exact absurd H (by simp)
                          · replace c19 := Bool.eq_false_iff.mpr c19
                            subst c19
                            have H1 : (if (a0.size : Int) ≥ 2 then (if 0 < (a0.size : Int) then (if (bt a0 0) = 48 then (if 1 ≤ (a0.size : Int) then (some (a0.extract 1 a0.size, 8)) else (none)) else (some (a0, 10))) else (none)) else (some (a0, 10))) = some (r1, r2) := by rw [if_neg (show ¬ (false = true) by decide)] at H; exact H
                            clear H
                            have H := H1
                            clear H1
                            by_cases c21 : (a0.size : Int) ≥ 2
                            · rw [if_pos c21] at H
                              have c21b0 : decide (2 ≤ (a0.size : Int)) = true := decide_eq_true c21
                              have c21b1 : decide (2 ≤ a0.size) = true := decide_eq_true (by omega)
                              clear c21
                              by_cases c22 : 0 < (a0.size : Int)
                              · rw [if_pos c22] at H
                                have c22b0 : decide (0 < (a0.size : Int)) = true := decide_eq_true c22
                                have c22b1 : decide (0 < a0.size) = true := decide_eq_true (by omega)
                                clear c22
                                by_cases c24 : (bt a0 0) = 48
                                · rw [if_pos c24] at H
                                  have c24b0 : ((bt a0 0) == 48) = true := beq_iff_eq.mpr c24
                                  have c24b1 : ((bt a0 0) != 48) = false := bne_eq_false_iff_eq.mpr c24
                                  clear c24
                                  by_cases c25 : 1 ≤ (a0.size : Int)
                                  · rw [if_pos c25] at H
                                    have c25b0 := eq_true c25
                                    have c25b1 : decide (1 ≤ (a0.size : Int)) = true := decide_eq_true c25
                                    clear c25
                                    simp only [Option.some.injEq, Prod.mk.injEq] at H
                                    obtain ⟨rfl, rfl⟩ := H
                                    have p23 : 0 ≤ (0 : Int) := (by omega)
                                    have q23 : 0 < a0.size := (by have : (0 : Int) < (a0.size : Int) := of_decide_eq_true (by first | (with_reducible assumption) | assumption); omega)
                                    have hx23 : ∀ h : 0 < a0.size, ((a0[0]'h).toNat : Int) = bt a0 0 := bt_at a0 0
                                    clear p23
                                    have qi23 : (0 < (a0.size : Int)) = True := eq_true (of_decide_eq_true (by first | (with_reducible assumption) | assumption))
                                    replace q23 := eq_true q23
                                    go_wp2
                                    go_ret2
                                    exact ⟨by first | rfl | (simp; done) | (simp [*]; done), by repeat (first | exact Drawn0.refl _ | apply Drawn0.step)⟩
                                  · rw [if_neg c25] at H
                                    exact absurd H (by simp)
                                · rw [if_neg c24] at H
                                  have c24b0 : ((bt a0 0) == 48) = false := beq_eq_false_iff_ne.mpr c24
                                  have c24b1 : ((bt a0 0) != 48) = true := bne_iff_ne.mpr c24
                                  simp only [Option.some.injEq, Prod.mk.injEq] at H
                                  obtain ⟨rfl, rfl⟩ := H
                                  have p23 : 0 ≤ (0 : Int) := (by omega)
                                  have q23 : 0 < a0.size := (by have : (0 : Int) < (a0.size : Int) := of_decide_eq_true (by first | (with_reducible assumption) | assumption); omega)
                                  have hx23 : ∀ h : 0 < a0.size, ((a0[0]'h).toNat : Int) = bt a0 0 := bt_at a0 0
                                  clear p23
                                  have qi23 : (0 < (a0.size : Int)) = True := eq_true (of_decide_eq_true (by first | (with_reducible assumption) | assumption))
                                  replace q23 := eq_true q23
                                  go_wp2
                                  go_ret2
                                  exact ⟨by first | rfl | (simp; done) | (simp [*]; done), by repeat (first | exact Drawn0.refl _ | apply Drawn0.step)⟩
                              · rw [if_neg c22] at H
                                exact absurd H (by simp)
                            · rw [if_neg c21] at H
                              have c21b0 : decide (2 ≤ (a0.size : Int)) = false := decide_eq_false c21
                              have c21b1 : decide (2 ≤ a0.size) = false := decide_eq_false (by omega)
                              clear c21
                              simp only [Option.some.injEq, Prod.mk.injEq] at H
                              obtain ⟨rfl, rfl⟩ := H
                              go_wp2
                              go_ret2
                              exact ⟨by first | rfl | (simp; done) | (simp [*]; done), by repeat (first | exact Drawn0.refl _ | apply Drawn0.step)⟩
        · rw [if_neg c7] at H
          exact absurd H (by simp)
      · replace c6 := Bool.eq_false_iff.mpr c6
        subst c6
        have H1 : (if (a0.size : Int) ≥ 2 then (if 0 < (a0.size : Int) then (if (bt a0 0) = 48 then (if 1 ≤ (a0.size : Int) then (some (a0.extract 1 a0.size, 8)) else (none)) else (some (a0, 10))) else (none)) else (some (a0, 10))) = some (r1, r2) := by rw [if_neg (show ¬ (false = true) by decide)] at H; exact H
        clear H
        have H := H1
        clear H1
        by_cases c26 : (a0.size : Int) ≥ 2
        · rw [if_pos c26] at H
          have c26b0 : decide (2 ≤ (a0.size : Int)) = true := decide_eq_true c26
          have c26b1 : decide (2 ≤ a0.size) = true := decide_eq_true (by omega)
          clear c26
          by_cases c27 : 0 < (a0.size : Int)
          · rw [if_pos c27] at H
            have c27b0 : decide (0 < (a0.size : Int)) = true := decide_eq_true c27
            have c27b1 : decide (0 < a0.size) = true := decide_eq_true (by omega)
            clear c27
            by_cases c29 : (bt a0 0) = 48
            · rw [if_pos c29] at H
              have c29b0 : ((bt a0 0) == 48) = true := beq_iff_eq.mpr c29
              have c29b1 : ((bt a0 0) != 48) = false := bne_eq_false_iff_eq.mpr c29
              clear c29
              by_cases c30 : 1 ≤ (a0.size : Int)
              · rw [if_pos c30] at H
                have c30b0 := eq_true c30
                have c30b1 : decide (1 ≤ (a0.size : Int)) = true := decide_eq_true c30
                clear c30
                simp only [Option.some.injEq, Prod.mk.injEq] at H
                obtain ⟨rfl, rfl⟩ := H
                have p28 : 0 ≤ (0 : Int) := (by omega)
                have q28 : 0 < a0.size := (by have : (0 : Int) < (a0.size : Int) := of_decide_eq_true (by first | (with_reducible assumption) | assumption); omega)
                have hx28 : ∀ h : 0 < a0.size, ((a0[0]'h).toNat : Int) = bt a0 0 := bt_at a0 0
                clear p28
                have qi28 : (0 < (a0.size : Int)) = True := eq_true (of_decide_eq_true (by first | (with_reducible assumption) | assumption))
                replace q28 := eq_true q28
                go_wp2
                go_ret2
                exact ⟨by first | rfl | (simp; done) | (simp [*]; done), by repeat (first | exact Drawn0.refl _ | apply Drawn0.step)⟩
              · rw [if_neg c30] at H
                exact absurd H (by simp)
            · rw [if_neg c29] at H
              have c29b0 : ((bt a0 0) == 48) = false := beq_eq_false_iff_ne.mpr c29
              have c29b1 : ((bt a0 0) != 48) = true := bne_iff_ne.mpr c29
              simp only [Option.some.injEq, Prod.mk.injEq] at H
              obtain ⟨rfl, rfl⟩ := H
              have p28 : 0 ≤ (0 : Int) := (by omega)
              have q28 : 0 < a0.size := (by have : (0 : Int) < (a0.size : Int) := of_decide_eq_true (by first | (with_reducible assumption) | assumption); omega)
              have hx28 : ∀ h : 0 < a0.size, ((a0[0]'h).toNat : Int) = bt a0 0 := bt_at a0 0
              clear p28
              have qi28 : (0 < (a0.size : Int)) = True := eq_true (of_decide_eq_true (by first | (with_reducible assumption) | assumption))
              replace q28 := eq_true q28
              go_wp2
              go_ret2
              exact ⟨by first | rfl | (simp; done) | (simp [*]; done), by repeat (first | exact Drawn0.refl _ | apply Drawn0.step)⟩
          · rw [if_neg c27] at H
            exact absurd H (by simp)
        · rw [if_neg c26] at H
          have c26b0 : decide (2 ≤ (a0.size : Int)) = false := decide_eq_false c26
          have c26b1 : decide (2 ≤ a0.size) = false := decide_eq_false (by omega)
          clear c26
          simp only [Option.some.injEq, Prod.mk.injEq] at H
          obtain ⟨rfl, rfl⟩ := H
          go_wp2
          go_ret2
          exact ⟨by first | rfl | (simp; done) | (simp [*]; done), by repeat (first | exact Drawn0.refl _ | apply Drawn0.step)⟩

end Go.Proofs.YtdmpeecocfoocaaDoor.PWhole
