/- The printed text PFnWrapx1 with one row more (fix_blanks.py). -/
import Derived.Test.YtoofmiafcaipmaaPFnWrapx0
namespace Go.Proofs.Ytoofmiafcaipmaa.PFnWrap
open Go.RowKit Go.Proofs.YtoofmiafcaipmaaW.PrintWords Go.Proofs.YtoofmiafcaipmaaW.PrintLast Go.Proofs.YtoofmiafcaipmaaW.PrintMore
attribute [local go_sem] max2_int min2_int max_two min_two max_three min_three max_four min_four   -- for this text's walks alone
set_option linter.unusedVariables false
set_option linter.unusedSimpArgs false

/-! ### laws_wraps14: function 4 -/
def laws_wraps14.f (a0 : Int) (a1 : Int) (a2 : ByteArray) : Option (Bool) := if a0 ≥ 0 then (if a0 ≤ 1024 then (if a1 ≥ 0 then (if a1 ≤ 1048576 then (some (decide ((a2.size : Int) ≤ 4096))) else (some false)) else (some false)) else (some false)) else (some false)
set_option maxHeartbeats 8000000 in
set_option maxRecDepth 100000 in
theorem laws_wraps14.calls (a0 : Int) (a1 : Int) (a2 : ByteArray) (r : Bool) (w : World) (h : laws_wraps14.f a0 a1 a2 = some r) :
    Calls Try.prog 4 #[.int .i64 a0, .int .i64 a1, .string a2] w fun e w' => e = .returned (.bool r) ∧ Drawn0 w w' := by
  have H : (if a0 ≥ 0 then (if a0 ≤ 1024 then (if a1 ≥ 0 then (if a1 ≤ 1048576 then (some (decide ((a2.size : Int) ≤ 4096))) else (some false)) else (some false)) else (some false)) else (some false)) = some r := h
  clear h
  by_cases c4 : a0 ≥ 0
  · rw [if_pos c4] at H
    have c4b0 : decide (0 ≤ a0) = true := decide_eq_true c4
    clear c4
    by_cases c5 : a0 ≤ 1024
    · rw [if_pos c5] at H
      have c5b0 : decide (a0 ≤ 1024) = true := decide_eq_true c5
      clear c5
      by_cases c6 : a1 ≥ 0
      · rw [if_pos c6] at H
        have c6b0 : decide (0 ≤ a1) = true := decide_eq_true c6
        clear c6
        by_cases c7 : a1 ≤ 1048576
        · rw [if_pos c7] at H
          have c7b0 : decide (a1 ≤ 1048576) = true := decide_eq_true c7
          clear c7
          obtain rfl := Option.some.inj H
          go_enter Try.func4, Try.ntmps4
          go_wp2
          go_ret
          exact ⟨by first | rfl | (simp; done) | (simp [*]; done), by repeat (first | exact Drawn0.refl _ | apply Drawn0.step)⟩
        · rw [if_neg c7] at H
          have c7b0 : decide (a1 ≤ 1048576) = false := decide_eq_false c7
          clear c7
          obtain rfl := Option.some.inj H
          go_enter Try.func4, Try.ntmps4
          go_wp2
          go_ret
          exact ⟨by first | rfl | (simp; done) | (simp [*]; done), by repeat (first | exact Drawn0.refl _ | apply Drawn0.step)⟩
      · rw [if_neg c6] at H
        have c6b0 : decide (0 ≤ a1) = false := decide_eq_false c6
        clear c6
        obtain rfl := Option.some.inj H
        go_enter Try.func4, Try.ntmps4
        go_wp2
        go_ret
        exact ⟨by first | rfl | (simp; done) | (simp [*]; done), by repeat (first | exact Drawn0.refl _ | apply Drawn0.step)⟩
    · rw [if_neg c5] at H
      have c5b0 : decide (a0 ≤ 1024) = false := decide_eq_false c5
      clear c5
      obtain rfl := Option.some.inj H
      go_enter Try.func4, Try.ntmps4
      go_wp2
      go_ret
      exact ⟨by first | rfl | (simp; done) | (simp [*]; done), by repeat (first | exact Drawn0.refl _ | apply Drawn0.step)⟩
  · rw [if_neg c4] at H
    have c4b0 : decide (0 ≤ a0) = false := decide_eq_false c4
    clear c4
    obtain rfl := Option.some.inj H
    go_enter Try.func4, Try.ntmps4
    go_wp2
    go_ret
    exact ⟨by first | rfl | (simp; done) | (simp [*]; done), by repeat (first | exact Drawn0.refl _ | apply Drawn0.step)⟩

-- NOT PRINTED: function 7 (impl_guarded)

-- NOT PRINTED: function 5 (impl_Wrap)

/-! ### spec_blanks: function 11 -/
def spec_blanks.l0 : Nat → List Int → Int → Int → Option (ByteArray)
  | 0, _, _, _ => none
  | k + 1, x3, x9, x10 => if x10 < x9 then (if 0 ≤ x10 then (if x10 < (x3.length : Int) then (spec_blanks.l0 k (x3.set (x10 : Int).toNat 32) x9 (wrap64 (x10 + 1))) else (none)) else (none)) else (some (strOfNums x3))
def spec_blanks.f (k : Nat) (a0 : Int) : Option (ByteArray) := if 0 ≤ (mx a0 0) then (if (mx a0 0 : Int).toNat ≤ 281474976710656 then ((some (List.replicate (mx a0 0 : Int).toNat 0 : List Int)).bind fun y101 => (spec_blanks.l0 k y101 (y101.length : Int) 0)) else (none)) else (none)
theorem spec_blanks.mono_l : ∀ k, (∀ y0 y1 y2, LeO (spec_blanks.l0 k y0 y1 y2) (spec_blanks.l0 (k + 1) y0 y1 y2))
  | 0 => fun _ _ _ r h => by simp [spec_blanks.l0] at h
  | k + 1 => by
    have ih0 := spec_blanks.mono_l k
    · intro y0 y1 y2
      unfold spec_blanks.l0
      repeat' first
      | (with_reducible exact ih0 _ _ _)
      | (with_reducible exact LeO.refl _)
      | (with_reducible exact LeO.none _)
      | (with_reducible refine LeO.ite ?_ ?_)
      | (with_reducible refine LeO.bind ?_ (fun _ => ?_))
      | exact ih0 _ _ _
      | exact LeO.none _
      | refine LeO.ite ?_ ?_
      | refine LeO.bind ?_ (fun _ => ?_)
theorem spec_blanks.mono : ∀ a0 k, LeO (spec_blanks.f k a0) (spec_blanks.f (k + 1) a0) := by
  intro a0 k
  have ih0 := spec_blanks.mono_l k
  unfold spec_blanks.f
  repeat' first
      | (with_reducible exact ih0 _ _ _)
      | (with_reducible exact LeO.refl _)
      | (with_reducible exact LeO.none _)
      | (with_reducible refine LeO.ite ?_ ?_)
      | (with_reducible refine LeO.bind ?_ (fun _ => ?_))
      | exact ih0 _ _ _
      | exact LeO.none _
      | refine LeO.ite ?_ ?_
      | refine LeO.bind ?_ (fun _ => ?_)
set_option maxHeartbeats 8000000 in
set_option maxRecDepth 100000 in
theorem spec_blanks.calls (k : Nat) (a0 : Int) (r : ByteArray) (w : World) (h : spec_blanks.f k a0 = some r) :
    Calls Try.prog 11 #[.int .i64 a0] w fun e w' => e = .returned (.string r) ∧ Below w.heap.size w w' := by
  have HB := Aside0.mk (Below.refl w.heap.size w)
  have H : (if 0 ≤ (mx a0 0) then (if (mx a0 0 : Int).toNat ≤ 281474976710656 then ((some (List.replicate (mx a0 0 : Int).toNat 0 : List Int)).bind fun y101 => (spec_blanks.l0 k y101 (y101.length : Int) 0)) else (none)) else (none)) = some r := h
  clear h
  obtain ⟨ji2, hji2⟩ : ∃ j_ : Int, (mx a0 0) = j_ := ⟨_, rfl⟩
  replace H : (if 0 ≤ (ji2) then (if (ji2 : Int).toNat ≤ 281474976710656 then ((some (List.replicate (ji2 : Int).toNat 0 : List Int)).bind fun y101 => (spec_blanks.l0 k y101 (y101.length : Int) 0)) else (none)) else (none)) = some r := by first | (rw [hji2] at H; exact H) | (simp only [hji2] at H ⊢; exact H)
  (try (have hji2l : 0 ≤ ji2 := by (rw [← hji2]; unfold mx; (repeat' split) <;> omega)))
  (try (have hji2m : 0 ≤ ji2 := by omega))
  have hji2_ : (if a0 < 0 then 0 else a0) = ji2 := hji2
  by_cases c3 : 0 ≤ (ji2)
  · rw [if_pos c3] at H
    have c3b0 := eq_true c3
    have c3b1 : decide (0 ≤ (ji2)) = true := decide_eq_true c3
    clear c3
    by_cases c4 : (ji2 : Int).toNat ≤ 281474976710656
    · rw [if_pos c4] at H
      have c4b0 := eq_true c4
      have c4b1 : decide ((ji2 : Int).toNat ≤ 281474976710656) = true := decide_eq_true c4
      clear c4
      obtain ⟨y101, hy101⟩ : ∃ y_ : List Int, y_ = (List.replicate (ji2 : Int).toNat 0) := ⟨_, rfl⟩
      replace H : (spec_blanks.l0 k y101 (y101.length : Int) 0) = some r := by first | (rw [hy101]; with_reducible exact H) | (have H2_ := (Option.bind_some _ _).symm.trans H; rw [hy101]; with_reducible exact H2_) | (have H2_ := (Option.bind_some _ _).symm.trans H; with_reducible exact H2_) | with_reducible exact H | (rw [hy101]; exact H) | exact H
      have Ny101 := Aside0.mk hy101
      clear hy101
      have H' := Aside0.mk H
      clear H
      go_enter Try.func11, Try.ntmps11
      go_wp2_with (first | ((with_reducible refine gate_dst (N := 7) rfl ?_); refine Kd.R_make (Kd.int .u8) _ 5 rfl (N := 7) rfl 29 _ _ rfl ji2 rfl rfl Try.underlying29 (.int .u8 0) 1 info5 rfl (by decide) (by omega) 0 (ok := fun _ => True) (okp := fun _ => True) rfl (fun _ hk => hk) trivial (of_decide_eq_true (by first | (with_reducible assumption) | assumption)) (Nat.le_trans (Nat.mul_le_mul_right _ (of_decide_eq_true (by first | (with_reducible assumption) | assumption) : ji2.toNat ≤ 281474976710656)) (by omega)) (Below.refl _ _) (Nat.le_refl _) ?_; intro v102 w5 ho6 hb hg_ hnew_; clear hg_ hnew_; (first | rw [← Ny101.out] at ho6 | (simp only [Int.reduceToNat] at ho6; rw [← Ny101.out] at ho6)); have n0_ := Aside0.mk (Kd.R_lower ho6 (below_size (by repeat (first | (with_reducible first | exact HB.out | apply below_alloc | apply pw_below_drewN | apply below_drew1) | exact HB.out)))); have n1_ := Aside0.mk (below_step (by repeat (first | (with_reducible first | exact HB.out | apply below_alloc | apply pw_below_drewN | apply below_drew1) | exact HB.out)) hb); clear HB; have HO103 := n0_; have HB := n1_; clear n0_ n1_; clear hb ho6; obtain ⟨Ao7, co7, eo7⟩ := Kd.R_slice HO103.out; subst eo7))
      go_loopg [10] k (fun kq v10 w' => ∃ (x3_1 : List Int) (x10_1 : Int), v10 = .int .i64 x10_1 ∧ Aside0 (spec_blanks.l0 kq x3_1 (y101.length : Int) x10_1 = some r) ∧ Aside0 (kq ≤ k) ∧ Aside0 (Kd.R (Kd.int .u8) 5 w' w.heap.size (fun _ => True) (.slice Ao7 y101.length co7) x3_1) ∧ Aside0 (Below w.heap.size w w'))
      case atStart => exact ⟨(y101), (0), (by first | rfl | (simp; done) | (simp [*]; done)), H', ⟨Nat.le_refl _⟩, ⟨by (with_reducible repeat (first | apply Kd.R_alloc | apply Kd.R_drewN | apply Kd.R_drew)); exact HO103.out⟩, ⟨by repeat (first | (with_reducible first | exact HB.out | apply below_alloc | apply pw_below_drewN | apply below_drew1) | exact HB.out)⟩⟩
      case round =>
        clear H'
        try clear c1
        try clear p2
        try clear c3
        try clear c3b0
        try clear c3b1
        try clear c4
        try clear c4b0
        try clear c4b1
        obtain ⟨x3_1, x10_1, rfl, HA, HK1, HO_3, HB⟩ := hrel
        have hl3_1 := (Kd.R_reads' HO_3.out).1
        rw [hl3_1] at HO_3
        (try simp only [hl3_1])
        cases gk with
        | zero => exact absurd HA.out (by simp [spec_blanks.l0])
        | succ k1 =>
          have H := HA.out
          clear HA
          simp only [spec_blanks.l0] at H
          by_cases c8 : x10_1 < (y101.length : Int)
          · rw [if_pos c8] at H
            have c8b0 : decide (x10_1 < (y101.length : Int)) = true := decide_eq_true c8
            clear c8
            by_cases c9 : 0 ≤ x10_1
            · rw [if_pos c9] at H
              have c9b0 : decide (0 ≤ x10_1) = true := decide_eq_true c9
              clear c9
              by_cases c10 : x10_1 < (x3_1.length : Int)
              · rw [if_pos c10] at H
                have c10b0 : decide (x10_1 < (x3_1.length : Int)) = true := decide_eq_true c10
                clear c10
                obtain ⟨y104, hy104⟩ : ∃ y_ : List Int, y_ = (x3_1.set (x10_1 : Int).toNat 32) := ⟨_, rfl⟩
                replace H : (spec_blanks.l0 k1 y104 (y101.length : Int) (wrap64 (x10_1 + 1))) = some r := by first | (rw [hy104]; with_reducible exact H) | (have H2_ := (Option.bind_some _ _).symm.trans H; rw [hy104]; with_reducible exact H2_) | (have H2_ := (Option.bind_some _ _).symm.trans H; with_reducible exact H2_) | with_reducible exact H | (rw [hy104]; exact H) | exact H
                have Ny104 := Aside0.mk hy104
                clear hy104
                have H' := Aside0.mk H
                clear H
                have p11 : 0 ≤ (x10_1 : Int) := of_decide_eq_true (by first | (with_reducible assumption) | assumption)
                have q11 : (x10_1 : Int) < ((x3_1.length : Int) : Int) := of_decide_eq_true (by first | (with_reducible assumption) | assumption)
                obtain ⟨go11, co11, eo11, gb11, gl11, cl11, HG11⟩ := Kd.R_form HO_3.out (by omega)
                (first | cases eo11 | (injection eo11 with ea_ en_ ec_; (first | subst ea_ | (injection ea_ with ea_; subst ea_)); subst ec_; clear en_))
                have GB11 := Aside0.mk gb11
                have GG11 := Aside0.mk HG11
                clear gb11 gl11 HG11
                obtain ⟨hx11_0, hf11_0⟩ := Kd.R_celln 0 HO_3.out (x10_1 : Int) p11 q11
                replace p11 := eq_true p11
                replace q11 := eq_true q11
                have HP12 := Kd.R_putg HO_3.out (x10_1 : Int) 32
                go_wp2_with (first | ((with_reducible refine gate_store (t := 5) (p := 15) rfl ?_); refine store_event (t := 5) (p := 15) (v := ?vo_w13) (w1 := (wr.setCell ⟨go11, (x10_1 : Int).toNat, none⟩ (.int .u8 32))) ?hg ?ho ?hn ?hr ?_; (case ho => rfl); (case hg => rfl); (case hn => rfl); (case hr => first | (go_simp; done) | (go_simp; rfl)); intro w13 hw; have hg : wr.grownBy w13 (some go11) := (by rw [hw]; exact HP12.2); have hp_ : Kd.R (Kd.int .u8) 5 w13 w.heap.size (fun _ => True) (.slice (some ⟨go11, 0, none⟩) x3_1.length co7) y104 := (by rw [hw, Ny104.out]; exact HP12.1); clear HP12; have n0_ := Aside0.mk (hp_); have n1_ := Aside0.mk ((by rw [hw]; exact below_set (HB.out) GB11.out : Below w.heap.size w w13)); clear HO_3; clear HB; have HO_3 := n0_; have HB := n1_; clear n0_ n1_; clear hg hw hp_))
                (try simp only [← hl3_1])
                go_roundg k1
                case measure => have := HK1.out; omega
                case rel => exact ⟨(y104), (wrap64 (x10_1 + 1)), (by first | rfl | (simp; done) | (simp [*]; done)), H', ⟨by have := HK1.out; omega⟩, ⟨by (try simp only [hl3_1]); (with_reducible repeat (first | apply Kd.R_alloc | apply Kd.R_drewN | apply Kd.R_drew)); exact HO_3.out⟩, ⟨by repeat (first | (with_reducible first | exact HB.out | apply below_alloc | apply pw_below_drewN | apply below_drew1) | exact HB.out)⟩⟩
              · rw [if_neg c10] at H
                exact absurd H (by simp)
            · rw [if_neg c9] at H
              exact absurd H (by simp)
          · rw [if_neg c8] at H
            have c8b0 : decide (x10_1 < (y101.length : Int)) = false := decide_eq_false c8
            clear c8
            rw [hl3_1] at c8b0
            obtain rfl := Option.some.inj H
            have hcv14 := own_string (P := Try.prog) Try.underlying29 Try.underlying5 Try.underlying9 (Kd.own_of_R HO_3.out)
            go_wp2
            go_ret
            exact ⟨by first | rfl | (simp [errW_none, errW_some] <;> rfl) | (simp only [← hji2]; first | rfl | (simp [errW_none, errW_some] <;> rfl)) | (simp [*, errW_none, errW_some] <;> rfl), by repeat (first | (with_reducible first | exact HB.out | apply below_alloc | apply pw_below_drewN | apply below_drew1) | exact HB.out)⟩
    · rw [if_neg c4] at H
      exact absurd H (by simp)
  · rw [if_neg c3] at H
    exact absurd H (by simp)

/-! ### spec_under: function 10 -/
def spec_under.l0 : Nat → ByteArray → Int → List Int → Int → Option (ByteArray)
  | 0, _, _, _, _ => none
  | k + 1, x0, x1, x5, x6 => if x6 < (x0.size : Int) then (if 0 ≤ x6 then (if x5.length < 140737488355328 then ((some (x5 ++ [bt x0 x6] : List Int)).bind fun y105 => (if (bt x0 x6) = 10 then ((spec_blanks.f k x1).bind fun t108 => (if y105.length + t108.size < 140737488355328 then (spec_under.l0 k x0 x1 (y105 ++ bytesOf t108) (wrap64 (x6 + 1))) else (none))) else (spec_under.l0 k x0 x1 y105 (wrap64 (x6 + 1))))) else (none)) else (none)) else (some (strOfNums x5))
def spec_under.f (k : Nat) (a0 : ByteArray) (a1 : Int) : Option (ByteArray) := spec_under.l0 k a0 a1 ([] : List Int) 0
theorem spec_under.mono_l : ∀ k, (∀ y0 y1 y2 y3, LeO (spec_under.l0 k y0 y1 y2 y3) (spec_under.l0 (k + 1) y0 y1 y2 y3))
  | 0 => fun _ _ _ _ r h => by simp [spec_under.l0] at h
  | k + 1 => by
    have ih0 := spec_under.mono_l k
    · intro y0 y1 y2 y3
      unfold spec_under.l0
      repeat' first
      | (with_reducible exact ih0 _ _ _ _)
      | (with_reducible exact spec_blanks.mono _ _)
      | (with_reducible exact LeO.refl _)
      | (with_reducible exact LeO.none _)
      | (with_reducible refine LeO.ite ?_ ?_)
      | (with_reducible refine LeO.bind ?_ (fun _ => ?_))
      | exact ih0 _ _ _ _
      | exact spec_blanks.mono _ _
      | exact LeO.none _
      | refine LeO.ite ?_ ?_
      | refine LeO.bind ?_ (fun _ => ?_)
theorem spec_under.mono : ∀ a0 a1 k, LeO (spec_under.f k a0 a1) (spec_under.f (k + 1) a0 a1) := by
  intro a0 a1 k
  have ih0 := spec_under.mono_l k
  unfold spec_under.f
  repeat' first
      | (with_reducible exact ih0 _ _ _ _)
      | (with_reducible exact spec_blanks.mono _ _)
      | (with_reducible exact LeO.refl _)
      | (with_reducible exact LeO.none _)
      | (with_reducible refine LeO.ite ?_ ?_)
      | (with_reducible refine LeO.bind ?_ (fun _ => ?_))
      | exact ih0 _ _ _ _
      | exact spec_blanks.mono _ _
      | exact LeO.none _
      | refine LeO.ite ?_ ?_
      | refine LeO.bind ?_ (fun _ => ?_)
set_option maxHeartbeats 8000000 in
set_option maxRecDepth 100000 in
theorem spec_under.calls (k : Nat) (a0 : ByteArray) (a1 : Int) (r : ByteArray) (w : World) (h : spec_under.f k a0 a1 = some r) :
    Calls Try.prog 10 #[.string a0, .int .i64 a1] w fun e w' => e = .returned (.string r) ∧ Below w.heap.size w w' := by
  have HB := Aside0.mk (Below.refl w.heap.size w)
  have H : (spec_under.l0 k a0 a1 ([] : List Int) 0) = some r := h
  clear h
  have H' := Aside0.mk H
  clear H
  go_enter Try.func10, Try.ntmps10
  go_wp2
  go_loopg [5, 6] k (fun kq v5 v6 w' => ∃ (x5_1 : List Int) (x6_1 : Int), v6 = .int .i64 x6_1 ∧ Aside0 (spec_under.l0 kq a0 a1 x5_1 x6_1 = some r) ∧ Aside0 (kq ≤ k) ∧ Aside0 (Kd.R (Kd.int .u8) 5 w' w.heap.size (fun _ => True) v5 x5_1) ∧ Aside0 (Below w.heap.size w w'))
  case atStart => exact ⟨(([] : List Int)), (0), (by first | rfl | (simp; done) | (simp [*]; done)), H', ⟨Nat.le_refl _⟩, ⟨by first | exact Kd.R_nil _ _ _ _ _ | exact Kd.N_nil _ _ _ _ _ | exact Kd.V_nil _ _ _ _ _ | exact Kd.Q_nil _ _ _ _ _ | exact Kd.S_nil _ _ _ _ _⟩, ⟨by repeat (first | (with_reducible first | exact HB.out | apply below_alloc | apply pw_below_drewN | apply below_drew1) | exact HB.out)⟩⟩
  case round =>
    clear H'
    try clear c1
    try clear p2
    obtain ⟨x5_1, x6_1, rfl, HA, HK1, HO_5, HB⟩ := hrel
    cases gk with
    | zero => exact absurd HA.out (by simp [spec_under.l0])
    | succ k1 =>
      have H := HA.out
      clear HA
      simp only [spec_under.l0] at H
      by_cases c3 : x6_1 < (a0.size : Int)
      · rw [if_pos c3] at H
        have c3b0 : decide (x6_1 < (a0.size : Int)) = true := decide_eq_true c3
        clear c3
        by_cases c4 : 0 ≤ x6_1
        · rw [if_pos c4] at H
          have c4b0 : decide (0 ≤ x6_1) = true := decide_eq_true c4
          clear c4
          by_cases c6 : x5_1.length < 140737488355328
          · rw [if_pos c6] at H
            have LMc6 := Aside0.mk c6
            clear c6
            obtain ⟨y105, hy105⟩ : ∃ y_ : List Int, y_ = (x5_1 ++ [bt a0 x6_1]) := ⟨_, rfl⟩
            replace H : (if (bt a0 x6_1) = 10 then ((spec_blanks.f k1 a1).bind fun t108 => (if y105.length + t108.size < 140737488355328 then (spec_under.l0 k1 a0 a1 (y105 ++ bytesOf t108) (wrap64 (x6_1 + 1))) else (none))) else (spec_under.l0 k1 a0 a1 y105 (wrap64 (x6_1 + 1)))) = some r := by first | (rw [hy105]; with_reducible exact H) | (have H2_ := (Option.bind_some _ _).symm.trans H; rw [hy105]; with_reducible exact H2_) | (have H2_ := (Option.bind_some _ _).symm.trans H; with_reducible exact H2_) | with_reducible exact H | (rw [hy105]; exact H) | exact H
            have Ny105 := Aside0.mk hy105
            clear hy105
            by_cases c8 : (bt a0 x6_1) = 10
            · rw [if_pos c8] at H
              have c8b0 : ((bt a0 x6_1) == 10) = true := beq_iff_eq.mpr c8
              have c8b1 : ((bt a0 x6_1) != 10) = false := bne_eq_false_iff_eq.mpr c8
              clear c8
              replace H := Option.bind_eq_some_iff.mp H
              obtain ⟨t108, A90, H⟩ := H
              replace H : (if y105.length + t108.size < 140737488355328 then (spec_under.l0 k1 a0 a1 (y105 ++ bytesOf t108) (wrap64 (x6_1 + 1))) else (none)) = some r := H
              have A9 := Aside0.mk A90
              clear A90
              by_cases c10 : y105.length + t108.size < 140737488355328
              · rw [if_pos c10] at H
                have LMc10 := Aside0.mk c10
                clear c10
                obtain ⟨y109, hy109⟩ : ∃ y_ : List Int, y_ = (y105 ++ bytesOf t108) := ⟨_, rfl⟩
                replace H : (spec_under.l0 k1 a0 a1 y109 (wrap64 (x6_1 + 1))) = some r := by first | (rw [hy109]; with_reducible exact H) | (have H2_ := (Option.bind_some _ _).symm.trans H; rw [hy109]; with_reducible exact H2_) | (have H2_ := (Option.bind_some _ _).symm.trans H; with_reducible exact H2_) | with_reducible exact H | (rw [hy109]; exact H) | exact H
                have Ny109 := Aside0.mk hy109
                clear hy109
                have H' := Aside0.mk H
                clear H
                have p5 : 0 ≤ (x6_1 : Int) := of_decide_eq_true (by first | (with_reducible assumption) | assumption)
                have q5 : x6_1 < (a0.size : Int) := of_decide_eq_true (by first | (with_reducible assumption) | assumption)
                have hx5 := bt_at a0 x6_1
                replace p5 := eq_true p5
                replace q5 := eq_true q5
                go_wp2_with (first | ((with_reducible refine gate_builtin (b := .append) (xs := #[.tmp 13, .tmp 17]) rfl ?_); at_builtin; refine Kd.R_append (Kd.int .u8) (w0 := w) w.heap.size rfl (.tmp 13) (.tmp 17) 29 5 (.int .u8 0) 1 rfl Try.underlying29 info5 rfl (by decide) (by omega) u5 x5_1 (bt a0 x6_1) [.int .u8 (bt a0 x6_1)] (fun _ => True) (fun _ => False) rfl rfl ?aP (fun _ hk => hk.elim) ?aF ?aO ?aB ?aS ?aL ?_; (case aP => exact rfl); (case aB => exact (by repeat (first | (with_reducible first | exact HB.out | apply below_alloc | apply pw_below_drewN | apply below_drew1) | exact HB.out))); (case aF => exact (fun _ _ => trivial)); (case aO => exact (by (with_reducible repeat (first | apply Kd.R_alloc | apply Kd.R_drewN | apply Kd.R_drew)); exact HO_5.out)); (case aS => exact (below_size (by repeat (first | (with_reducible first | exact HB.out | apply below_alloc | apply pw_below_drewN | apply below_drew1) | exact HB.out)))); (case aL => have := LMc6.out; omega); intro v106 w11 ho hb hg hat; rw [← Ny105.out] at ho; have n0_ := Aside0.mk (hb); have n1_ := Aside0.mk (ho); clear HB; clear HO_5; have HB := n0_; have HO107 := n1_; clear n0_ n1_; clear ho hb hg hat; have p7 : 0 ≤ (x6_1 : Int) := of_decide_eq_true (by first | (with_reducible assumption) | assumption); have q7 : x6_1 < (a0.size : Int) := of_decide_eq_true (by first | (with_reducible assumption) | assumption); have hx7 := bt_at a0 x6_1; replace p7 := eq_true p7; replace q7 := eq_true q7) | ((with_reducible refine gate_callee (f := 11) rfl ?_); refine goesL_ (some 25) rfl rfl Try.func11 (by kernel_rfl) rfl #[.int .i64 a1] rfl (by (try simp only [List.map_toArray, List.map_cons, List.map_nil]); first | done | rfl | (simp only [List.length_drop, List.length_take]; rfl)) ?_; (with_reducible refine (spec_blanks.calls k1 a1 t108 _ A9.out).mono ?_); rintro e w12 ⟨rfl, hb⟩; refine ⟨_, rfl, ?_⟩; have n0_ := Aside0.mk (Kd.R_below (by (with_reducible repeat (first | apply Kd.R_alloc | apply Kd.R_drewN | apply Kd.R_drew)); exact HO107.out) hb); have n1_ := Aside0.mk (below_step (by repeat (first | (with_reducible first | exact HB.out | apply below_alloc | apply pw_below_drewN | apply below_drew1) | exact HB.out)) hb); clear HO107; clear HB; have HO107 := n0_; have HB := n1_; clear n0_ n1_; (try clear hb); (try clear hb2); (try clear hk); (try clear hi)) | (at_builtin; refine print_append_str (w0 := w) w.heap.size rfl (.tmp 23) _ 29 9 5 rfl Try.underlying29 Try.underlying9 info5 v106 y105 t108 rfl rfl ?aO ?aB ?aS ?aL ?_; (case aB => exact (by repeat (first | (with_reducible first | exact HB.out | apply below_alloc | apply pw_below_drewN | apply below_drew1) | exact HB.out))); (case aO => exact (Kd.own_of_R (by (with_reducible repeat (first | apply Kd.R_alloc | apply Kd.R_drewN | apply Kd.R_drew)); exact HO107.out))); (case aS => exact (below_size (by repeat (first | (with_reducible first | exact HB.out | apply below_alloc | apply pw_below_drewN | apply below_drew1) | exact HB.out)))); (case aL => have := LMc10.out; omega); intro v110 w13 ho0 hb hg; have ho := Kd.R_of_own (h1 := fun _ => rfl) (ok := fun _ => True) ho0 (fun _ _ => trivial); clear ho0; have hat := True.intro; rw [← Ny109.out] at ho; change Kd.R (Kd.int .u8) 5 w13 w.heap.size (fun _ => True) v110 y109 at ho; have n0_ := Aside0.mk (hb); have n1_ := Aside0.mk (ho); clear HB; clear HO107; have HB := n0_; have HO111 := n1_; clear n0_ n1_; clear ho hb hg hat))
                go_roundg k1
                case measure => have := HK1.out; omega
                case rel => exact ⟨(y109), (wrap64 (x6_1 + 1)), (by first | rfl | (simp; done) | (simp [*]; done)), H', ⟨by have := HK1.out; omega⟩, ⟨by (with_reducible repeat (first | apply Kd.R_alloc | apply Kd.R_drewN | apply Kd.R_drew)); exact HO111.out⟩, ⟨by repeat (first | (with_reducible first | exact HB.out | apply below_alloc | apply pw_below_drewN | apply below_drew1) | exact HB.out)⟩⟩
              · rw [if_neg c10] at H
                exact absurd H (by simp)
            · rw [if_neg c8] at H
              have c8b0 : ((bt a0 x6_1) == 10) = false := beq_eq_false_iff_ne.mpr c8
              have c8b1 : ((bt a0 x6_1) != 10) = true := bne_iff_ne.mpr c8
              have H' := Aside0.mk H
              clear H
              have p5 : 0 ≤ (x6_1 : Int) := of_decide_eq_true (by first | (with_reducible assumption) | assumption)
              have q5 : x6_1 < (a0.size : Int) := of_decide_eq_true (by first | (with_reducible assumption) | assumption)
              have hx5 := bt_at a0 x6_1
              replace p5 := eq_true p5
              replace q5 := eq_true q5
              go_wp2_with (first | ((with_reducible refine gate_builtin (b := .append) (xs := #[.tmp 13, .tmp 17]) rfl ?_); at_builtin; refine Kd.R_append (Kd.int .u8) (w0 := w) w.heap.size rfl (.tmp 13) (.tmp 17) 29 5 (.int .u8 0) 1 rfl Try.underlying29 info5 rfl (by decide) (by omega) u5 x5_1 (bt a0 x6_1) [.int .u8 (bt a0 x6_1)] (fun _ => True) (fun _ => False) rfl rfl ?aP (fun _ hk => hk.elim) ?aF ?aO ?aB ?aS ?aL ?_; (case aP => exact rfl); (case aB => exact (by repeat (first | (with_reducible first | exact HB.out | apply below_alloc | apply pw_below_drewN | apply below_drew1) | exact HB.out))); (case aF => exact (fun _ _ => trivial)); (case aO => exact (by (with_reducible repeat (first | apply Kd.R_alloc | apply Kd.R_drewN | apply Kd.R_drew)); exact HO_5.out)); (case aS => exact (below_size (by repeat (first | (with_reducible first | exact HB.out | apply below_alloc | apply pw_below_drewN | apply below_drew1) | exact HB.out)))); (case aL => have := LMc6.out; omega); intro v106 w14 ho hb hg hat; rw [← Ny105.out] at ho; have n0_ := Aside0.mk (hb); have n1_ := Aside0.mk (ho); clear HB; clear HO_5; have HB := n0_; have HO107 := n1_; clear n0_ n1_; clear ho hb hg hat; have p7 : 0 ≤ (x6_1 : Int) := of_decide_eq_true (by first | (with_reducible assumption) | assumption); have q7 : x6_1 < (a0.size : Int) := of_decide_eq_true (by first | (with_reducible assumption) | assumption); have hx7 := bt_at a0 x6_1; replace p7 := eq_true p7; replace q7 := eq_true q7))
              go_roundg k1
              case measure => have := HK1.out; omega
              case rel => exact ⟨(y105), (wrap64 (x6_1 + 1)), (by first | rfl | (simp; done) | (simp [*]; done)), H', ⟨by have := HK1.out; omega⟩, ⟨by (with_reducible repeat (first | apply Kd.R_alloc | apply Kd.R_drewN | apply Kd.R_drew)); exact HO107.out⟩, ⟨by repeat (first | (with_reducible first | exact HB.out | apply below_alloc | apply pw_below_drewN | apply below_drew1) | exact HB.out)⟩⟩
          · rw [if_neg c6] at H
            exact absurd H (by simp)
        · rw [if_neg c4] at H
          exact absurd H (by simp)
      · rw [if_neg c3] at H
        have c3b0 : decide (x6_1 < (a0.size : Int)) = false := decide_eq_false c3
        clear c3
        obtain rfl := Option.some.inj H
        have hcv15 := own_string (P := Try.prog) Try.underlying29 Try.underlying5 Try.underlying9 (Kd.own_of_R HO_5.out)
        go_wp2
        go_ret
        exact ⟨by first | rfl | (simp [errW_none, errW_some] <;> rfl) | (simp [*, errW_none, errW_some] <;> rfl), by repeat (first | (with_reducible first | exact HB.out | apply below_alloc | apply pw_below_drewN | apply below_drew1) | exact HB.out)⟩

/-! ### spec_Blank: function 15 -/
def spec_Blank.f (a0 : Int) : Option (Bool) := if a0 = 32 then (some true) else (if a0 = 9 then (some true) else (some (a0 == 10)))
set_option maxHeartbeats 8000000 in
set_option maxRecDepth 100000 in
theorem spec_Blank.calls (a0 : Int) (r : Bool) (w : World) (h : spec_Blank.f a0 = some r) :
    Calls Try.prog 15 #[.int .u8 a0] w fun e w' => e = .returned (.bool r) ∧ Drawn0 w w' := by
  have H : (if a0 = 32 then (some true) else (if a0 = 9 then (some true) else (some (a0 == 10)))) = some r := h
  clear h
  by_cases c2 : a0 = 32
  · rw [if_pos c2] at H
    have c2b0 : (a0 == 32) = true := beq_iff_eq.mpr c2
    have c2b1 : (a0 != 32) = false := bne_eq_false_iff_eq.mpr c2
    clear c2
    obtain rfl := Option.some.inj H
    go_enter Try.func15, Try.ntmps15
    go_wp2
    go_ret
    exact ⟨by first | rfl | (simp; done) | (simp [*]; done), by repeat (first | exact Drawn0.refl _ | apply Drawn0.step)⟩
  · rw [if_neg c2] at H
    have c2b0 : (a0 == 32) = false := beq_eq_false_iff_ne.mpr c2
    have c2b1 : (a0 != 32) = true := bne_iff_ne.mpr c2
    by_cases c3 : a0 = 9
    · rw [if_pos c3] at H
      have c3b0 : (a0 == 9) = true := beq_iff_eq.mpr c3
      have c3b1 : (a0 != 9) = false := bne_eq_false_iff_eq.mpr c3
      clear c3
      obtain rfl := Option.some.inj H
      go_enter Try.func15, Try.ntmps15
      go_wp2
      go_ret
      exact ⟨by first | rfl | (simp; done) | (simp [*]; done), by repeat (first | exact Drawn0.refl _ | apply Drawn0.step)⟩
    · rw [if_neg c3] at H
      have c3b0 : (a0 == 9) = false := beq_eq_false_iff_ne.mpr c3
      have c3b1 : (a0 != 9) = true := bne_iff_ne.mpr c3
      obtain rfl := Option.some.inj H
      go_enter Try.func15, Try.ntmps15
      go_wp2
      go_ret
      exact ⟨by first | rfl | (simp; done) | (simp [*]; done), by repeat (first | exact Drawn0.refl _ | apply Drawn0.step)⟩

/-! ### spec_WrapN: function 12 -/
def spec_WrapN.l0 : Nat → Int → ByteArray → Int → Int → Int → Option (ByteArray × ByteArray)
  | 0, _, _, _, _, _ => none
  | k + 1, x0, x2, x8, x9, x10 => if x10 < x0 then (if 0 ≤ x10 then (if x10 < (x2.size : Int) then ((spec_Blank.f (bt x2 x10)).bind fun t112 => (if t112 = true then (if (bt x2 x10) = 10 then (spec_WrapN.l0 k x0 x2 x10 x10 (wrap64 (x10 + 1))) else (spec_WrapN.l0 k x0 x2 x10 x9 (wrap64 (x10 + 1)))) else (if (bt x2 x10) = 10 then (spec_WrapN.l0 k x0 x2 x8 x10 (wrap64 (x10 + 1))) else (spec_WrapN.l0 k x0 x2 x8 x9 (wrap64 (x10 + 1)))))) else (none)) else (none)) else (if x8 = 0 then (some (x2, (⟨#[]⟩ : ByteArray))) else (if x9 > 0 then (if 0 ≤ x9 then (if x9 ≤ (x2.size : Int) then (if 0 ≤ (wrap64 (x9 + 1)) then (if (wrap64 (x9 + 1)) ≤ (x2.size : Int) then (some (x2.extract 0 (x9 : Int).toNat, x2.extract ((wrap64 (x9 + 1)) : Int).toNat x2.size)) else (none)) else (none)) else (none)) else (none)) else (if 0 ≤ x8 then (if x8 ≤ (x2.size : Int) then (if 0 ≤ (wrap64 (x8 + 1)) then (if (wrap64 (x8 + 1)) ≤ (x2.size : Int) then (some (x2.extract 0 (x8 : Int).toNat, x2.extract ((wrap64 (x8 + 1)) : Int).toNat x2.size)) else (none)) else (none)) else (none)) else (none))))
def spec_WrapN.f (k : Nat) (a0 : Int) (a1 : Int) (a2 : ByteArray) : Option (ByteArray × ByteArray) := if (a2.size : Int) < (wrap64 (a0 + a1)) then (some (a2, (⟨#[]⟩ : ByteArray))) else (spec_WrapN.l0 k a0 a2 0 0 1)
theorem spec_WrapN.mono_l : ∀ k, (∀ y0 y1 y2 y3 y4, LeO (spec_WrapN.l0 k y0 y1 y2 y3 y4) (spec_WrapN.l0 (k + 1) y0 y1 y2 y3 y4))
  | 0 => fun _ _ _ _ _ r h => by simp [spec_WrapN.l0] at h
  | k + 1 => by
    have ih0 := spec_WrapN.mono_l k
    · intro y0 y1 y2 y3 y4
      unfold spec_WrapN.l0
      repeat' first
      | (with_reducible exact ih0 _ _ _ _ _)
      | (with_reducible exact LeO.refl _)
      | (with_reducible exact LeO.none _)
      | (with_reducible refine LeO.ite ?_ ?_)
      | (with_reducible refine LeO.bind ?_ (fun _ => ?_))
      | exact ih0 _ _ _ _ _
      | exact LeO.none _
      | refine LeO.ite ?_ ?_
      | refine LeO.bind ?_ (fun _ => ?_)
theorem spec_WrapN.mono : ∀ a0 a1 a2 k, LeO (spec_WrapN.f k a0 a1 a2) (spec_WrapN.f (k + 1) a0 a1 a2) := by
  intro a0 a1 a2 k
  have ih0 := spec_WrapN.mono_l k
  unfold spec_WrapN.f
  repeat' first
      | (with_reducible exact ih0 _ _ _ _ _)
      | (with_reducible exact LeO.refl _)
      | (with_reducible exact LeO.none _)
      | (with_reducible refine LeO.ite ?_ ?_)
      | (with_reducible refine LeO.bind ?_ (fun _ => ?_))
      | exact ih0 _ _ _ _ _
      | exact LeO.none _
      | refine LeO.ite ?_ ?_
      | refine LeO.bind ?_ (fun _ => ?_)
set_option maxHeartbeats 8000000 in
set_option maxRecDepth 100000 in
theorem spec_WrapN.calls (k : Nat) (a0 : Int) (a1 : Int) (a2 : ByteArray) (r1 : ByteArray) (r2 : ByteArray) (w : World) (h : spec_WrapN.f k a0 a1 a2 = some (r1, r2)) :
    Calls Try.prog 12 #[.int .i64 a0, .int .i64 a1, .string a2] w fun e w' => e = .returned (.tuple #[.string r1, .string r2]) ∧ Drawn0 w w' := by
  have H : (if (a2.size : Int) < (wrap64 (a0 + a1)) then (some (a2, (⟨#[]⟩ : ByteArray))) else (spec_WrapN.l0 k a0 a2 0 0 1)) = some (r1, r2) := h
  clear h
  by_cases c4 : (a2.size : Int) < (wrap64 (a0 + a1))
  · rw [if_pos c4] at H
    have c4b0 : decide ((a2.size : Int) < (wrap64 (a0 + a1))) = true := decide_eq_true c4
    clear c4
    simp only [Option.some.injEq, Prod.mk.injEq] at H
    obtain ⟨rfl, rfl⟩ := H
    go_enter Try.func12, Try.ntmps12
    go_wp2
    repeat (go_quiet (fail); try go_wp2)
    go_ret2
    exact ⟨by first | rfl | (simp; done) | (simp [*]; done), by repeat (first | exact Drawn0.refl _ | apply Drawn0.step)⟩
  · rw [if_neg c4] at H
    have c4b0 : decide ((a2.size : Int) < (wrap64 (a0 + a1))) = false := decide_eq_false c4
    clear c4
    have H' := Aside0.mk H
    clear H
    go_enter Try.func12, Try.ntmps12
    go_wp2
    repeat (go_quiet (fail); try go_wp2)
    go_loopg [8, 9, 10] k (fun kq v8 v9 v10 w' => ∃ (x8_1 : Int) (x9_1 : Int) (x10_1 : Int), v8 = .int .i64 x8_1 ∧ v9 = .int .i64 x9_1 ∧ v10 = .int .i64 x10_1 ∧ Aside0 (spec_WrapN.l0 kq a0 a2 x8_1 x9_1 x10_1 = some (r1, r2)) ∧ Aside0 (kq ≤ k) ∧ Drawn0 w w')
    case atStart => exact ⟨(0), (0), (1), (by first | rfl | (simp; done) | (simp [*]; done)), (by first | rfl | (simp; done) | (simp [*]; done)), (by first | rfl | (simp; done) | (simp [*]; done)), H', ⟨Nat.le_refl _⟩, by repeat (first | exact Drawn0.refl _ | apply Drawn0.step)⟩
    case round =>
      clear H'
      try clear c1
      try clear p2
      try clear c4
      try clear c4b0
      obtain ⟨x8_1, x9_1, x10_1, rfl, rfl, rfl, HA, HK1, ⟨m1, rfl⟩⟩ := hrel
      cases gk with
      | zero => exact absurd HA.out (by simp [spec_WrapN.l0])
      | succ k1 =>
        have H := HA.out
        clear HA
        simp only [spec_WrapN.l0] at H
        by_cases c5 : x10_1 < a0
        · rw [if_pos c5] at H
          have c5b0 : decide (x10_1 < a0) = true := decide_eq_true c5
          clear c5
          by_cases c6 : 0 ≤ x10_1
          · rw [if_pos c6] at H
            have c6b0 : decide (0 ≤ x10_1) = true := decide_eq_true c6
            clear c6
            by_cases c7 : x10_1 < (a2.size : Int)
            · rw [if_pos c7] at H
              have c7b0 : decide (x10_1 < (a2.size : Int)) = true := decide_eq_true c7
              clear c7
              replace H := Option.bind_eq_some_iff.mp H
              obtain ⟨t112, A90, H⟩ := H
              replace H : (if t112 = true then (if (bt a2 x10_1) = 10 then (spec_WrapN.l0 k1 a0 a2 x10_1 x10_1 (wrap64 (x10_1 + 1))) else (spec_WrapN.l0 k1 a0 a2 x10_1 x9_1 (wrap64 (x10_1 + 1)))) else (if (bt a2 x10_1) = 10 then (spec_WrapN.l0 k1 a0 a2 x8_1 x10_1 (wrap64 (x10_1 + 1))) else (spec_WrapN.l0 k1 a0 a2 x8_1 x9_1 (wrap64 (x10_1 + 1))))) = some (r1, r2) := H
              have A9 := Aside0.mk A90
              clear A90
              by_cases c10 : t112 = true
              · subst c10
                have H1 : (if (bt a2 x10_1) = 10 then (spec_WrapN.l0 k1 a0 a2 x10_1 x10_1 (wrap64 (x10_1 + 1))) else (spec_WrapN.l0 k1 a0 a2 x10_1 x9_1 (wrap64 (x10_1 + 1)))) = some (r1, r2) := by rw [if_pos rfl] at H; exact H
                clear H
                have H := H1
                clear H1
                by_cases c12 : (bt a2 x10_1) = 10
                · rw [if_pos c12] at H
                  have c12b0 : ((bt a2 x10_1) == 10) = true := beq_iff_eq.mpr c12
                  have c12b1 : ((bt a2 x10_1) != 10) = false := bne_eq_false_iff_eq.mpr c12
                  clear c12
                  have H' := Aside0.mk H
                  clear H
                  have p8 : 0 ≤ (x10_1 : Int) := of_decide_eq_true (by first | (with_reducible assumption) | assumption)
                  have q8 : x10_1 < (a2.size : Int) := of_decide_eq_true (by first | (with_reducible assumption) | assumption)
                  have hx8 := bt_at a2 x10_1
                  replace p8 := eq_true p8
                  replace q8 := eq_true q8
                  go_wp2_with (first | (go_at_call 15; (with_reducible refine (spec_Blank.calls (bt a2 x10_1) true _ A9.out).mono ?_); rintro e w' ⟨rfl, ⟨nd, rfl⟩⟩; (try first | exact ⟨rfl, _, World.drewN_drewN _ _ _⟩ | exact ⟨rfl, _, Eq.trans (World.drewN_drewN _ _ _) (congrArg (World.drewN _) (Nat.add_assoc _ _ _))⟩); have p11 : 0 ≤ (x10_1 : Int) := of_decide_eq_true (by first | (with_reducible assumption) | assumption); have q11 : x10_1 < (a2.size : Int) := of_decide_eq_true (by first | (with_reducible assumption) | assumption); have hx11 := bt_at a2 x10_1; replace p11 := eq_true p11; replace q11 := eq_true q11))
                  repeat (go_quiet (first | (go_at_call 15; (with_reducible refine (spec_Blank.calls (bt a2 x10_1) true _ A9.out).mono ?_); rintro e w' ⟨rfl, ⟨nd, rfl⟩⟩; (try first | exact ⟨rfl, _, World.drewN_drewN _ _ _⟩ | exact ⟨rfl, _, Eq.trans (World.drewN_drewN _ _ _) (congrArg (World.drewN _) (Nat.add_assoc _ _ _))⟩); have p11 : 0 ≤ (x10_1 : Int) := of_decide_eq_true (by first | (with_reducible assumption) | assumption); have q11 : x10_1 < (a2.size : Int) := of_decide_eq_true (by first | (with_reducible assumption) | assumption); have hx11 := bt_at a2 x10_1; replace p11 := eq_true p11; replace q11 := eq_true q11)); try go_wp2_with (first | (go_at_call 15; (with_reducible refine (spec_Blank.calls (bt a2 x10_1) true _ A9.out).mono ?_); rintro e w' ⟨rfl, ⟨nd, rfl⟩⟩; (try first | exact ⟨rfl, _, World.drewN_drewN _ _ _⟩ | exact ⟨rfl, _, Eq.trans (World.drewN_drewN _ _ _) (congrArg (World.drewN _) (Nat.add_assoc _ _ _))⟩); have p11 : 0 ≤ (x10_1 : Int) := of_decide_eq_true (by first | (with_reducible assumption) | assumption); have q11 : x10_1 < (a2.size : Int) := of_decide_eq_true (by first | (with_reducible assumption) | assumption); have hx11 := bt_at a2 x10_1; replace p11 := eq_true p11; replace q11 := eq_true q11)))
                  go_roundg k1
                  case measure => have := HK1.out; omega
                  case rel => exact ⟨(x10_1), (x10_1), (wrap64 (x10_1 + 1)), (by first | rfl | (simp; done) | (simp [*]; done)), (by first | rfl | (simp; done) | (simp [*]; done)), (by first | rfl | (simp; done) | (simp [*]; done)), H', ⟨by have := HK1.out; omega⟩, by repeat (first | exact Drawn0.refl _ | apply Drawn0.step)⟩
                · rw [if_neg c12] at H
                  have c12b0 : ((bt a2 x10_1) == 10) = false := beq_eq_false_iff_ne.mpr c12
                  have c12b1 : ((bt a2 x10_1) != 10) = true := bne_iff_ne.mpr c12
                  have H' := Aside0.mk H
                  clear H
                  have p8 : 0 ≤ (x10_1 : Int) := of_decide_eq_true (by first | (with_reducible assumption) | assumption)
                  have q8 : x10_1 < (a2.size : Int) := of_decide_eq_true (by first | (with_reducible assumption) | assumption)
                  have hx8 := bt_at a2 x10_1
                  replace p8 := eq_true p8
                  replace q8 := eq_true q8
                  go_wp2_with (first | (go_at_call 15; (with_reducible refine (spec_Blank.calls (bt a2 x10_1) true _ A9.out).mono ?_); rintro e w' ⟨rfl, ⟨nd, rfl⟩⟩; (try first | exact ⟨rfl, _, World.drewN_drewN _ _ _⟩ | exact ⟨rfl, _, Eq.trans (World.drewN_drewN _ _ _) (congrArg (World.drewN _) (Nat.add_assoc _ _ _))⟩); have p11 : 0 ≤ (x10_1 : Int) := of_decide_eq_true (by first | (with_reducible assumption) | assumption); have q11 : x10_1 < (a2.size : Int) := of_decide_eq_true (by first | (with_reducible assumption) | assumption); have hx11 := bt_at a2 x10_1; replace p11 := eq_true p11; replace q11 := eq_true q11))
                  repeat (go_quiet (first | (go_at_call 15; (with_reducible refine (spec_Blank.calls (bt a2 x10_1) true _ A9.out).mono ?_); rintro e w' ⟨rfl, ⟨nd, rfl⟩⟩; (try first | exact ⟨rfl, _, World.drewN_drewN _ _ _⟩ | exact ⟨rfl, _, Eq.trans (World.drewN_drewN _ _ _) (congrArg (World.drewN _) (Nat.add_assoc _ _ _))⟩); have p11 : 0 ≤ (x10_1 : Int) := of_decide_eq_true (by first | (with_reducible assumption) | assumption); have q11 : x10_1 < (a2.size : Int) := of_decide_eq_true (by first | (with_reducible assumption) | assumption); have hx11 := bt_at a2 x10_1; replace p11 := eq_true p11; replace q11 := eq_true q11)); try go_wp2_with (first | (go_at_call 15; (with_reducible refine (spec_Blank.calls (bt a2 x10_1) true _ A9.out).mono ?_); rintro e w' ⟨rfl, ⟨nd, rfl⟩⟩; (try first | exact ⟨rfl, _, World.drewN_drewN _ _ _⟩ | exact ⟨rfl, _, Eq.trans (World.drewN_drewN _ _ _) (congrArg (World.drewN _) (Nat.add_assoc _ _ _))⟩); have p11 : 0 ≤ (x10_1 : Int) := of_decide_eq_true (by first | (with_reducible assumption) | assumption); have q11 : x10_1 < (a2.size : Int) := of_decide_eq_true (by first | (with_reducible assumption) | assumption); have hx11 := bt_at a2 x10_1; replace p11 := eq_true p11; replace q11 := eq_true q11)))
                  go_roundg k1
                  case measure => have := HK1.out; omega
                  case rel => exact ⟨(x10_1), (x9_1), (wrap64 (x10_1 + 1)), (by first | rfl | (simp; done) | (simp [*]; done)), (by first | rfl | (simp; done) | (simp [*]; done)), (by first | rfl | (simp; done) | (simp [*]; done)), H', ⟨by have := HK1.out; omega⟩, by repeat (first | exact Drawn0.refl _ | apply Drawn0.step)⟩
              · replace c10 := Bool.eq_false_iff.mpr c10
                subst c10
                have H1 : (if (bt a2 x10_1) = 10 then (spec_WrapN.l0 k1 a0 a2 x8_1 x10_1 (wrap64 (x10_1 + 1))) else (spec_WrapN.l0 k1 a0 a2 x8_1 x9_1 (wrap64 (x10_1 + 1)))) = some (r1, r2) := by rw [if_neg (show ¬ (false = true) by decide)] at H; exact H
                clear H
                have H := H1
                clear H1
                by_cases c14 : (bt a2 x10_1) = 10
                · rw [if_pos c14] at H
                  have c14b0 : ((bt a2 x10_1) == 10) = true := beq_iff_eq.mpr c14
                  have c14b1 : ((bt a2 x10_1) != 10) = false := bne_eq_false_iff_eq.mpr c14
                  clear c14
                  have H' := Aside0.mk H
                  clear H
                  have p8 : 0 ≤ (x10_1 : Int) := of_decide_eq_true (by first | (with_reducible assumption) | assumption)
                  have q8 : x10_1 < (a2.size : Int) := of_decide_eq_true (by first | (with_reducible assumption) | assumption)
                  have hx8 := bt_at a2 x10_1
                  replace p8 := eq_true p8
                  replace q8 := eq_true q8
                  go_wp2_with (first | (go_at_call 15; (with_reducible refine (spec_Blank.calls (bt a2 x10_1) false _ A9.out).mono ?_); rintro e w' ⟨rfl, ⟨nd, rfl⟩⟩; (try first | exact ⟨rfl, _, World.drewN_drewN _ _ _⟩ | exact ⟨rfl, _, Eq.trans (World.drewN_drewN _ _ _) (congrArg (World.drewN _) (Nat.add_assoc _ _ _))⟩); have p13 : 0 ≤ (x10_1 : Int) := of_decide_eq_true (by first | (with_reducible assumption) | assumption); have q13 : x10_1 < (a2.size : Int) := of_decide_eq_true (by first | (with_reducible assumption) | assumption); have hx13 := bt_at a2 x10_1; replace p13 := eq_true p13; replace q13 := eq_true q13))
                  repeat (go_quiet (first | (go_at_call 15; (with_reducible refine (spec_Blank.calls (bt a2 x10_1) false _ A9.out).mono ?_); rintro e w' ⟨rfl, ⟨nd, rfl⟩⟩; (try first | exact ⟨rfl, _, World.drewN_drewN _ _ _⟩ | exact ⟨rfl, _, Eq.trans (World.drewN_drewN _ _ _) (congrArg (World.drewN _) (Nat.add_assoc _ _ _))⟩); have p13 : 0 ≤ (x10_1 : Int) := of_decide_eq_true (by first | (with_reducible assumption) | assumption); have q13 : x10_1 < (a2.size : Int) := of_decide_eq_true (by first | (with_reducible assumption) | assumption); have hx13 := bt_at a2 x10_1; replace p13 := eq_true p13; replace q13 := eq_true q13)); try go_wp2_with (first | (go_at_call 15; (with_reducible refine (spec_Blank.calls (bt a2 x10_1) false _ A9.out).mono ?_); rintro e w' ⟨rfl, ⟨nd, rfl⟩⟩; (try first | exact ⟨rfl, _, World.drewN_drewN _ _ _⟩ | exact ⟨rfl, _, Eq.trans (World.drewN_drewN _ _ _) (congrArg (World.drewN _) (Nat.add_assoc _ _ _))⟩); have p13 : 0 ≤ (x10_1 : Int) := of_decide_eq_true (by first | (with_reducible assumption) | assumption); have q13 : x10_1 < (a2.size : Int) := of_decide_eq_true (by first | (with_reducible assumption) | assumption); have hx13 := bt_at a2 x10_1; replace p13 := eq_true p13; replace q13 := eq_true q13)))
                  go_roundg k1
                  case measure => have := HK1.out; omega
                  case rel => exact ⟨(x8_1), (x10_1), (wrap64 (x10_1 + 1)), (by first | rfl | (simp; done) | (simp [*]; done)), (by first | rfl | (simp; done) | (simp [*]; done)), (by first | rfl | (simp; done) | (simp [*]; done)), H', ⟨by have := HK1.out; omega⟩, by repeat (first | exact Drawn0.refl _ | apply Drawn0.step)⟩
                · rw [if_neg c14] at H
                  have c14b0 : ((bt a2 x10_1) == 10) = false := beq_eq_false_iff_ne.mpr c14
                  have c14b1 : ((bt a2 x10_1) != 10) = true := bne_iff_ne.mpr c14
                  have H' := Aside0.mk H
                  clear H
                  have p8 : 0 ≤ (x10_1 : Int) := of_decide_eq_true (by first | (with_reducible assumption) | assumption)
                  have q8 : x10_1 < (a2.size : Int) := of_decide_eq_true (by first | (with_reducible assumption) | assumption)
                  have hx8 := bt_at a2 x10_1
                  replace p8 := eq_true p8
                  replace q8 := eq_true q8
                  go_wp2_with (first | (go_at_call 15; (with_reducible refine (spec_Blank.calls (bt a2 x10_1) false _ A9.out).mono ?_); rintro e w' ⟨rfl, ⟨nd, rfl⟩⟩; (try first | exact ⟨rfl, _, World.drewN_drewN _ _ _⟩ | exact ⟨rfl, _, Eq.trans (World.drewN_drewN _ _ _) (congrArg (World.drewN _) (Nat.add_assoc _ _ _))⟩); have p13 : 0 ≤ (x10_1 : Int) := of_decide_eq_true (by first | (with_reducible assumption) | assumption); have q13 : x10_1 < (a2.size : Int) := of_decide_eq_true (by first | (with_reducible assumption) | assumption); have hx13 := bt_at a2 x10_1; replace p13 := eq_true p13; replace q13 := eq_true q13))
                  repeat (go_quiet (first | (go_at_call 15; (with_reducible refine (spec_Blank.calls (bt a2 x10_1) false _ A9.out).mono ?_); rintro e w' ⟨rfl, ⟨nd, rfl⟩⟩; (try first | exact ⟨rfl, _, World.drewN_drewN _ _ _⟩ | exact ⟨rfl, _, Eq.trans (World.drewN_drewN _ _ _) (congrArg (World.drewN _) (Nat.add_assoc _ _ _))⟩); have p13 : 0 ≤ (x10_1 : Int) := of_decide_eq_true (by first | (with_reducible assumption) | assumption); have q13 : x10_1 < (a2.size : Int) := of_decide_eq_true (by first | (with_reducible assumption) | assumption); have hx13 := bt_at a2 x10_1; replace p13 := eq_true p13; replace q13 := eq_true q13)); try go_wp2_with (first | (go_at_call 15; (with_reducible refine (spec_Blank.calls (bt a2 x10_1) false _ A9.out).mono ?_); rintro e w' ⟨rfl, ⟨nd, rfl⟩⟩; (try first | exact ⟨rfl, _, World.drewN_drewN _ _ _⟩ | exact ⟨rfl, _, Eq.trans (World.drewN_drewN _ _ _) (congrArg (World.drewN _) (Nat.add_assoc _ _ _))⟩); have p13 : 0 ≤ (x10_1 : Int) := of_decide_eq_true (by first | (with_reducible assumption) | assumption); have q13 : x10_1 < (a2.size : Int) := of_decide_eq_true (by first | (with_reducible assumption) | assumption); have hx13 := bt_at a2 x10_1; replace p13 := eq_true p13; replace q13 := eq_true q13)))
                  go_roundg k1
                  case measure => have := HK1.out; omega
                  case rel => exact ⟨(x8_1), (x9_1), (wrap64 (x10_1 + 1)), (by first | rfl | (simp; done) | (simp [*]; done)), (by first | rfl | (simp; done) | (simp [*]; done)), (by first | rfl | (simp; done) | (simp [*]; done)), H', ⟨by have := HK1.out; omega⟩, by repeat (first | exact Drawn0.refl _ | apply Drawn0.step)⟩
            · rw [if_neg c7] at H
              exact absurd H (by simp)
          · rw [if_neg c6] at H
            exact absurd H (by simp)
        · rw [if_neg c5] at H
          have c5b0 : decide (x10_1 < a0) = false := decide_eq_false c5
          clear c5
          by_cases c15 : x8_1 = 0
          · rw [if_pos c15] at H
            have c15b0 : (x8_1 == 0) = true := beq_iff_eq.mpr c15
            have c15b1 : (x8_1 != 0) = false := bne_eq_false_iff_eq.mpr c15
            clear c15
            simp only [Option.some.injEq, Prod.mk.injEq] at H
            obtain ⟨rfl, rfl⟩ := H
            go_wp2
            repeat (go_quiet (fail); try go_wp2)
            go_ret2
            exact ⟨by first | rfl | (simp; done) | (simp [*]; done), by repeat (first | exact Drawn0.refl _ | apply Drawn0.step)⟩
          · rw [if_neg c15] at H
            have c15b0 : (x8_1 == 0) = false := beq_eq_false_iff_ne.mpr c15
            have c15b1 : (x8_1 != 0) = true := bne_iff_ne.mpr c15
            by_cases c16 : x9_1 > 0
            · rw [if_pos c16] at H
              have c16b0 : decide (0 < x9_1) = true := decide_eq_true c16
              clear c16
              by_cases c17 : 0 ≤ x9_1
              · rw [if_pos c17] at H
                have c17b0 := eq_true c17
                have c17b1 : decide (0 ≤ x9_1) = true := decide_eq_true c17
                clear c17
                by_cases c18 : x9_1 ≤ (a2.size : Int)
                · rw [if_pos c18] at H
                  have c18b0 := eq_true c18
                  have c18b1 : decide (x9_1 ≤ (a2.size : Int)) = true := decide_eq_true c18
                  clear c18
                  obtain ⟨ji19, hji19⟩ : ∃ j_ : Int, (wrap64 (x9_1 + 1)) = j_ := ⟨_, rfl⟩
                  replace H : (if 0 ≤ (ji19) then (if (ji19) ≤ (a2.size : Int) then (some (a2.extract 0 (x9_1 : Int).toNat, a2.extract ((ji19) : Int).toNat a2.size)) else (none)) else (none)) = some (r1, r2) := by first | (rw [hji19] at H; exact H) | (simp only [hji19] at H ⊢; exact H)
                  have hji19w : (IntKind.i64.wrap (x9_1 + 1)) = ji19 := (i64_w _).trans hji19
                  by_cases c20 : 0 ≤ (ji19)
                  · rw [if_pos c20] at H
                    have c20b0 := eq_true c20
                    have c20b1 : decide (0 ≤ (ji19)) = true := decide_eq_true c20
                    clear c20
                    by_cases c21 : (ji19) ≤ (a2.size : Int)
                    · rw [if_pos c21] at H
                      have c21b0 := eq_true c21
                      have c21b1 : decide ((ji19) ≤ (a2.size : Int)) = true := decide_eq_true c21
                      clear c21
                      simp only [Option.some.injEq, Prod.mk.injEq] at H
                      obtain ⟨rfl, rfl⟩ := H
                      go_wp2
                      repeat (go_quiet (fail); try go_wp2)
                      go_ret2
                      exact ⟨by first | rfl | (simp; done) | (simp only [← hji19] <;> (first | rfl | simp)) | (simp [*]; done), by repeat (first | exact Drawn0.refl _ | apply Drawn0.step)⟩
                    · rw [if_neg c21] at H
                      exact absurd H (by simp)
                  · rw [if_neg c20] at H
                    exact absurd H (by simp)
                · rw [if_neg c18] at H
                  exact absurd H (by simp)
              · rw [if_neg c17] at H
                exact absurd H (by simp)
            · rw [if_neg c16] at H
              have c16b0 : decide (0 < x9_1) = false := decide_eq_false c16
              clear c16
              by_cases c22 : 0 ≤ x8_1
              · rw [if_pos c22] at H
                have c22b0 := eq_true c22
                have c22b1 : decide (0 ≤ x8_1) = true := decide_eq_true c22
                clear c22
                by_cases c23 : x8_1 ≤ (a2.size : Int)
                · rw [if_pos c23] at H
                  have c23b0 := eq_true c23
                  have c23b1 : decide (x8_1 ≤ (a2.size : Int)) = true := decide_eq_true c23
                  clear c23
                  obtain ⟨ji24, hji24⟩ : ∃ j_ : Int, (wrap64 (x8_1 + 1)) = j_ := ⟨_, rfl⟩
                  replace H : (if 0 ≤ (ji24) then (if (ji24) ≤ (a2.size : Int) then (some (a2.extract 0 (x8_1 : Int).toNat, a2.extract ((ji24) : Int).toNat a2.size)) else (none)) else (none)) = some (r1, r2) := by first | (rw [hji24] at H; exact H) | (simp only [hji24] at H ⊢; exact H)
                  have hji24w : (IntKind.i64.wrap (x8_1 + 1)) = ji24 := (i64_w _).trans hji24
                  by_cases c25 : 0 ≤ (ji24)
                  · rw [if_pos c25] at H
                    have c25b0 := eq_true c25
                    have c25b1 : decide (0 ≤ (ji24)) = true := decide_eq_true c25
                    clear c25
                    by_cases c26 : (ji24) ≤ (a2.size : Int)
                    · rw [if_pos c26] at H
                      have c26b0 := eq_true c26
                      have c26b1 : decide ((ji24) ≤ (a2.size : Int)) = true := decide_eq_true c26
                      clear c26
                      simp only [Option.some.injEq, Prod.mk.injEq] at H
                      obtain ⟨rfl, rfl⟩ := H
                      go_wp2
                      repeat (go_quiet (fail); try go_wp2)
                      go_ret2
                      exact ⟨by first | rfl | (simp; done) | (simp only [← hji24] <;> (first | rfl | simp)) | (simp [*]; done), by repeat (first | exact Drawn0.refl _ | apply Drawn0.step)⟩
                    · rw [if_neg c26] at H
                      exact absurd H (by simp)
                  · rw [if_neg c25] at H
                    exact absurd H (by simp)
                · rw [if_neg c23] at H
                  exact absurd H (by simp)
              · rw [if_neg c22] at H
                exact absurd H (by simp)

end Go.Proofs.Ytoofmiafcaipmaa.PFnWrap
