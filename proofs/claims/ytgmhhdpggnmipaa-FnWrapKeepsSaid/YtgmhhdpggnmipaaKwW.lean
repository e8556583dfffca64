/- The walks of bare.wrapN and bare.wrap. Written by gen_kw.py. -/
import Derived.Test.YtgmhhdpggnmipaaKwP
import Derived.Test.YtgmhhdpggnmipaaShelf
import Derived.Deep.DeepCutAuto
namespace Go.Proofs.Ytgmhhdpggnmipaa.E.K
open Go.RowKit Go.Proofs Go.Proofs.YtgmhhdpggnmipaaW.PrintWords Go.Proofs.YtgmhhdpggnmipaaW.PrintLast
open Go.Proofs.Ytgmhhdpggnmipaa.PK
set_option linter.unusedVariables false
set_option linter.unusedSimpArgs false
theorem d0_below {B : Nat} {w w' : World} (h : Drawn0 w w') : Below B w w' := by
  obtain ⟨n, rfl⟩ := h
  exact bdrew (Below.refl _ _) n

theorem lastIdx_A (s : ByteArray) : ∀ k, k ≤ s.size → Lib.lastIdx s 10 k = lastA isF s.data.toList k
  | 0, _ => rfl
  | k + 1, h => by
    have hlt : k < s.size := by omega
    have e : s.data[k]! = s[k] := by rw [getElem!_pos s.data k (by simpa using hlt)]; rfl
    simp only [Lib.lastIdx, lastA]
    rw [e, getD_at hlt, lastIdx_A s k (by omega)]
    by_cases h10 : s[k].toNat = 10
    · rw [if_pos (by omega), if_pos (by simp [isF, h10])]
    · rw [if_neg (by omega), if_neg (by simp [isF, h10])]

set_option maxRecDepth 100000 in
theorem wrapN_any (n : Nat) (hn1 : 1 ≤ n) (hn : n ≤ 1048576) (s : ByteArray) (hs : s.size ≤ 4096) (w : World) :
    Calls Try.prog 103 #[.int .i64 n, .int .i64 5, .string s] w fun e w' => e = .returned (.tuple #[.string (wrapV n s).1, .string (wrapV n s).2]) ∧ Below w.heap.size w w' := by
  have i0 : (0 : Int) ≤ (n : Int) := Int.natCast_nonneg _
  have i1 : (n : Int) ≤ 1048576 := by omega
  have i2 : (s.size : Int) ≤ 4096 := by omega
  by_cases h : s.size < n + 5
  · have hv : wrapV n s = (s, ⟨#[]⟩) := by unfold wrapV; rw [if_pos h]
    rw [hv]
    have i3 : (s.size : Int) < (n : Int) + 5 := by omega
    clear hv h
    go_enter Try.func103, Try.ntmps103
    go_wp2
    go_ret2
    exact ⟨rfl, Below.refl _ _⟩
  · have i3 : (n : Int) + 5 ≤ (s.size : Int) := by omega
    have i4 : (n : Int) ≤ (s.size : Int) := by omega
    have hT : (s.extract 0 n).size = n := by rw [ByteArray.size_extract]; omega
    have hTl : (s.extract 0 n).data.toList = s.data.toList.take n := ext_head s n
    have HA := fun w => Lib.hid (bare_zzLastIndexAny.calls 20490 (s.extract 0 n) (mkT [32, 9, 10]) _ w (lastAny_at (s.extract 0 n) (by omega) 20490 (Nat.le_refl _)))
    have HL := fun w => Lib.hid (Try.strings_LastIndex_one (s.extract 0 n) (mkT [10]) (by rw [mkT_size]; rfl) (by omega) w)
    have e10 : (((mkT [10])[0]'(by decide)).toNat : Int) = 10 := by decide
    rw [e10] at HL
    have eL : Lib.lastIndexByte (s.extract 0 n) 10 = lastA isF (s.data.toList.take n) n := by
      unfold Lib.lastIndexByte; rw [lastIdx_A _ _ (Nat.le_refl _), hTl, hT]
    rw [eL] at HL
    rw [hTl, hT] at HA
    have hA := lastA_P isB (s.data.toList.take n) n
    have hL := lastA_P isF (s.data.toList.take n) n
    rw [lastP_take isB s.data.toList n n (Nat.le_refl _)] at hA
    rw [lastP_take isF s.data.toList n n (Nat.le_refl _)] at hL
    generalize lastA isB (s.data.toList.take n) n = a at HA hA
    generalize lastA isF (s.data.toList.take n) n = l at HL hL
    have hsl : ∀ W, (Instr.slice 9 (.string s) none (some (.int .i64 n)) none).run Try.prog W = .ok (.string (s.extract 0 n)) W := fun W => by rw [run_slice_string_h (P := Try.prog) W 9 s Try.underlying9 .i64 n (by omega) (by omega)]; rfl
    generalize s.extract 0 n = T at HA HL hsl
    have hB := lastP_lt isB s.data.toList n
    have hF := lastP_lt isF s.data.toList n
    have hFB := lastF_B s.data.toList n
    clear hT hTl e10 eL
    by_cases a0 : a ≤ 0
    · have hz : lastP isB s.data.toList n = 0 := by omega
      have hv : wrapV n s = (s, ⟨#[]⟩) := by unfold wrapV; rw [if_neg h, if_pos hz]
      rw [hv]
      clear hv hz h hA hL hB hF hFB HL
      go_enter Try.func103, Try.ntmps103
      go_wp2_with (go_at_call 114; refine ((HA _).out).mono ?_; rintro e w1 ⟨rfl, hb1⟩; have HB1 := Lib.hid (d0_below (B := w.heap.size) hb1); clear hb1)
      go_ret2
      exact ⟨rfl, HB1.out⟩
    · obtain ⟨b, rfl⟩ : ∃ b : Nat, a = (b : Int) := ⟨a.toNat, by omega⟩
      have hb : b = lastP isB s.data.toList n := by omega
      have hz : ¬ lastP isB s.data.toList n = 0 := by omega
      have j0 : (0 : Int) < (b : Int) := by omega
      have j1 : (b : Int) < (s.size : Int) := by omega
      by_cases l0 : 0 < l
      · obtain ⟨f, rfl⟩ : ∃ f : Nat, l = (f : Int) := ⟨l.toNat, by omega⟩
        have hf : f = lastP isF s.data.toList n := by omega
        have hv : wrapV n s = (s.extract 0 f, s.extract (f + 1) s.size) := by unfold wrapV; rw [if_neg h, if_neg hz, if_pos (by omega), ← hf]; rfl
        rw [hv]
        have j2 : (f : Int) < (s.size : Int) := by omega
        by_cases lt : f < b
        · have j3 : (f : Int) < (b : Int) := by omega
          have hs1 : ∀ W, (Instr.slice 9 (.string s) none (some (.int .i64 f)) none).run Try.prog W = .ok (.string (s.extract 0 f)) W := fun W => by rw [run_slice_string_h (P := Try.prog) W 9 s Try.underlying9 .i64 f (by omega) (by omega)]; rfl
          have hs2 : ∀ W, (Instr.slice 9 (.string s) (some (.int .i64 ((f : Int) + 1))) none none).run Try.prog W = .ok (.string (s.extract (f + 1) s.size)) W := fun W => by rw [run_slice_string_l (P := Try.prog) W 9 s Try.underlying9 .i64 _ (by omega) (by omega)]; rfl
          generalize s.extract 0 f = X at hs1 ⊢
          generalize s.extract (f + 1) s.size = Y at hs2 ⊢
          clear hv hz h hA hL hB hF hFB hb hf lt
          go_enter Try.func103, Try.ntmps103
          go_wp2_with (first
            | (go_at_call 114; refine ((HA _).out).mono ?_; rintro e w1 ⟨rfl, hb1⟩; have HB1 := Lib.hid (d0_below (B := w.heap.size) hb1); clear hb1)
            | (go_at_call 115; refine ((HL _).out).mono ?_; rintro e w2 ⟨rfl, rfl⟩))
          go_quiet (fail)
          go_wp2
          go_ret2
          exact ⟨rfl, bdrew HB1.out _⟩
        · have e : f = b := by omega
          have j3 : ¬ (f : Int) < (b : Int) := by omega
          have j4 : (0 : Int) < (f : Int) := by omega
          have hs1 : ∀ W, (Instr.slice 9 (.string s) none (some (.int .i64 b)) none).run Try.prog W = .ok (.string (s.extract 0 f)) W := fun W => by rw [run_slice_string_h (P := Try.prog) W 9 s Try.underlying9 .i64 b (by omega) (by omega), e]; rfl
          have hs2 : ∀ W, (Instr.slice 9 (.string s) (some (.int .i64 ((b : Int) + 1))) none none).run Try.prog W = .ok (.string (s.extract (f + 1) s.size)) W := fun W => by rw [run_slice_string_l (P := Try.prog) W 9 s Try.underlying9 .i64 _ (by omega) (by omega), e]; rfl
          generalize s.extract 0 f = X at hs1 ⊢
          generalize s.extract (f + 1) s.size = Y at hs2 ⊢
          clear hv hz h hA hL hB hF hFB hb hf lt e
          go_enter Try.func103, Try.ntmps103
          go_wp2_with (first
            | (go_at_call 114; refine ((HA _).out).mono ?_; rintro e w1 ⟨rfl, hb1⟩; have HB1 := Lib.hid (d0_below (B := w.heap.size) hb1); clear hb1)
            | (go_at_call 115; refine ((HL _).out).mono ?_; rintro e w2 ⟨rfl, rfl⟩))
          go_quiet (fail)
          go_wp2
          go_ret2
          exact ⟨rfl, bdrew HB1.out _⟩
      · have l1 : l ≤ 0 := by omega
        have hv : wrapV n s = (s.extract 0 b, s.extract (b + 1) s.size) := by unfold wrapV; rw [if_neg h, if_neg hz, if_neg (by omega), ← hb]; rfl
        rw [hv]
        have hs1 : ∀ W, (Instr.slice 9 (.string s) none (some (.int .i64 b)) none).run Try.prog W = .ok (.string (s.extract 0 b)) W := fun W => by rw [run_slice_string_h (P := Try.prog) W 9 s Try.underlying9 .i64 b (by omega) (by omega)]; rfl
        have hs2 : ∀ W, (Instr.slice 9 (.string s) (some (.int .i64 ((b : Int) + 1))) none none).run Try.prog W = .ok (.string (s.extract (b + 1) s.size)) W := fun W => by rw [run_slice_string_l (P := Try.prog) W 9 s Try.underlying9 .i64 _ (by omega) (by omega)]; rfl
        generalize s.extract 0 b = X at hs1 ⊢
        generalize s.extract (b + 1) s.size = Y at hs2 ⊢
        clear hv hz h hA hL hB hF hFB hb l0
        go_enter Try.func103, Try.ntmps103
        go_wp2_with (first
          | (go_at_call 114; refine ((HA _).out).mono ?_; rintro e w1 ⟨rfl, hb1⟩; have HB1 := Lib.hid (d0_below (B := w.heap.size) hb1); clear hb1)
          | (go_at_call 115; refine ((HL _).out).mono ?_; rintro e w2 ⟨rfl, rfl⟩))
        go_quiet (fail)
        go_wp2
        go_ret2
        exact ⟨rfl, bdrew HB1.out _⟩

theorem rep_blk : ∀ n : Nat, Lib.repeatL [32] n = blk n
  | 0 => rfl
  | n + 1 => by rw [Lib.repeatL, rep_blk n]; simp [blk, List.replicate_succ]
theorem repeat_any (n : Nat) (hn : n ≤ 1024) (w : World) :
    Calls Try.prog 102 #[.string ⟨#[32]⟩, .int .i64 n] w fun e w' => e = .returned (.string (mkT (blk n))) ∧ Below w.heap.size w w' := by
  have h := Try.strings_Repeat ⟨#[32]⟩ n w (by omega) (by show 1 * n ≤ _; omega)
  have e : Lib.repeatL (⟨#[32]⟩ : ByteArray).data.toList n = blk n := rep_blk n
  rw [e] at h
  exact h
theorem nl_blk (n : Nat) : (⟨#[10]⟩ : ByteArray) ++ mkT (blk n) = mkT (10 :: blk n) := mkT_append [10] (blk n)
theorem replace_any (n : Nat) (hn : n ≤ 1024) (s : ByteArray) (hs : s.size ≤ 4096) (w : World) :
    Calls Try.prog 101 #[.string s, .string ⟨#[10]⟩, .string (⟨#[10]⟩ ++ mkT (blk n))] w fun e w' => e = .returned (.string (mkT (undL n s.data.toList))) ∧ Below w.heap.size w w' := by
  rw [nl_blk]
  have h := replace_at (10 :: blk n) (by simp [blk]; omega) s hs 9000 (Nat.le_refl _)
  rw [repL_und] at h
  refine (bare_zzReplace.calls 9000 s (mkT [10]) (mkT (10 :: blk n)) _ w h).mono ?_
  rintro e w' ⟨rfl, hb⟩
  exact ⟨rfl, by first | exact hb | exact d0_below hb⟩
theorem blk_size (n : Nat) : (mkT (blk n)).size = n := by rw [mkT_size]; simp [blk]
def strSize : Value → Nat
  | .string s => s.size
  | _ => 0
theorem wrapV_fits {n : Nat} (hn : 1 ≤ n) {s : ByteArray} : (wrapV n s).1.size ≤ s.size ∧ ((wrapV n s).2.size ≤ s.size ∧ (0 < s.size → (wrapV n s).2.size < s.size)) := by
  rcases wrapV_le n hn s with ⟨a, b⟩ | h
  · rw [a, b]; exact ⟨Nat.le_refl _, Nat.zero_le _, fun h => h⟩
  · omega
theorem und_size {n : Nat} (hn : n ≤ 1024) {s : ByteArray} (hs : s.size ≤ 4096) : (mkT (undL n s.data.toList)).size ≤ 5000000 := by
  have hu := undL_le n s.data.toList
  rw [size_list] at hu
  have h2 : s.size * (n + 1) ≤ s.size * 1025 := Nat.mul_le_mul_left _ (by omega)
  rw [mkT_size]; omega
theorem cat_next (acc a b : List UInt8) : mkT acc ++ (⟨#[10]⟩ : ByteArray) ++ mkT a ++ mkT b = mkT (acc ++ (10 :: a) ++ b) := by
  rw [show (⟨#[10]⟩ : ByteArray) = mkT [10] from rfl, mkT_append, mkT_append, mkT_append]
  simp

set_option maxRecDepth 100000 in
/-- bare.wrap from where its first line is cut on: the loop. -/
theorem wrap_none (ind : Nat) (hi : ind ≤ 1024) (s : ByteArray) (hs : s.size ≤ 4096) (w : World) :
    Calls Try.prog 94 #[.int .i64 ind, .int .i64 0, .string s] w fun e w' => e = .returned (.string (mkT (undL ind s.data.toList))) ∧ Below w.heap.size w w' := by
  have HR := fun w => Lib.hid (repeat_any ind hi w)
  have HZ := fun w => Lib.hid (replace_any ind hi s hs w)
  have hb := blk_size ind
  have i0 : (mkT (blk ind)).size ≤ 1024 := by omega
  clear hb
  generalize mkT (blk ind) = K at HR HZ i0
  have HB := Lib.hid (Below.refl w.heap.size w)
  go_enter Try.func94, Try.ntmps94
  go_wp2_with (first
      | ((with_reducible go_at_call 102); refine ((HR _).out).mono ?_; rintro e w' ⟨rfl, hb⟩; have HB := Lib.hid (below_step HB.out hb); clear hb)
      | ((with_reducible go_at_call 101); refine ((HZ _).out).mono ?_; rintro e w' ⟨rfl, hb⟩; have HB := Lib.hid (below_step HB.out hb); clear hb)
      | ((with_reducible go_at_call 103); refine ((HN _).out).mono ?_; rintro e w' ⟨rfl, hb⟩; have HB := Lib.hid (below_step HB.out hb); clear hb))
  go_ret
  exact ⟨rfl, HB.out⟩
/-! ### Widths -/
def flag1 : Value → Nat
  | .bool true => 1
  | _ => 0
theorem nl_list (B : List UInt8) : (⟨#[10]⟩ : ByteArray) ++ mkT B = mkT (10 :: B) := mkT_append [10] B
theorem cat16 (B U : List UInt8) : (⟨#[10]⟩ : ByteArray) ++ mkT B ++ mkT U = mkT (10 :: (B ++ U)) := by
  rw [show (⟨#[10]⟩ : ByteArray) = mkT [10] from rfl, mkT_append, mkT_append]; rfl

set_option maxRecDepth 100000 in
set_option maxHeartbeats 1600000 in
theorem wrapB_in (ind n : Nat) (hi : ind ≤ 1024) (hn1 : 19 ≤ n) (hn : n ≤ 1048576) (s : ByteArray) (hs : s.size ≤ 4096) (w : World) :
    Calls Try.prog 94 #[.int .i64 ind, .int .i64 ((n : Int) + 5 + ind), .string s] w fun e w' => e = .returned (.string (mkT (linesV ind n s))) ∧ Below w.heap.size w w' := by
  have i0 : (0 : Int) ≤ (ind : Int) := Int.natCast_nonneg _
  have i1 : (ind : Int) ≤ 1024 := by omega
  have i2 : (19 : Int) ≤ (n : Int) := by omega
  have i3 : (n : Int) ≤ 1048576 := by omega
  have HR := fun w => Lib.hid (repeat_any ind hi w)
  have HN := fun w => Lib.hid (wrapN_any n (by omega) hn s hs w)
  obtain ⟨hv1, hv2, _⟩ := wrapV_fits (n := n) (by omega) (s := s)
  have HZ := fun w => Lib.hid (replace_any ind hi (wrapV n s).1 (by omega) w)
  have hf := wrapRel_first (n := n) (ind := ind) (by omega) hi s hs [] (by simp [blk])
  have hz0 := und_size (n := ind) hi (s := (wrapV n s).1) (by omega)
  have hres : mkT (linesV ind n s) = mkT ([] ++ linesV ind n s) := rfl
  rw [hres]
  generalize [] ++ linesV ind n s = tot at hf ⊢
  generalize hU0 : undL ind (wrapV n s).1.data.toList = U0 at HZ hf hz0
  generalize (wrapV n s).1 = L0 at HN HZ
  generalize (wrapV n s).2 = R0 at HN hf hv2
  have hk := blk_size ind
  have k0 : (mkT (blk ind)).size ≤ 1024 := by omega
  clear hv1 hU0 hres hk
  obtain ⟨B, hB⟩ : ∃ B, B = blk ind := ⟨_, rfl⟩
  rw [← hB] at HR HZ k0
  skip
  have HF := Lib.hid hf
  have HEB := Lib.hid hB
  clear hf hB
  have HB := Lib.hid (Below.refl w.heap.size w)
  skip
  clear hv2
  have z0 : ((n : Int) + 5 + ind == 0) = false := by simp; omega
  go_enter Try.func94, Try.ntmps94
  go_wp2_with (first
          | ((with_reducible go_at_call 102); refine ((HR _).out).mono ?_; rintro e w' ⟨rfl, hb⟩; have HB := Lib.hid (below_step HB.out hb); clear hb)
          | ((with_reducible go_at_call 101); refine ((HZ _).out).mono ?_; rintro e w' ⟨rfl, hb⟩; have HB := Lib.hid (below_step HB.out hb); clear hb)
          | ((with_reducible go_at_call 103); refine ((HN _).out).mono ?_; rintro e w' ⟨rfl, hb⟩; have HB := Lib.hid (below_step HB.out hb); clear hb))
  go_loopw [2, 8] (fun S r wr => ∃ (T : ByteArray) (acc : List UInt8), S = .string T ∧ r = .string (mkT acc) ∧ Hid (WrapRel n ind tot acc T) ∧ Below w.heap.size w wr) (fun S _ _ => strSize S)
  case atStart =>
    refine ⟨_, [] ++ U0, rfl, ?_, HF, HB.out⟩
    rfl
  case round =>
    obtain ⟨T, acc, rfl, rfl, HRel, hbel⟩ := hrel
    have hts := HRel.out.1
    have hac := HRel.out.2.1
    clear HN HZ hz0 HF HB
    by_cases hne : 0 < T.size
    · have hemp := nonempty_list hne
      have hemp2 := nonempty_not hne
      have HN2 := fun w => Lib.hid (wrapN_any n (by omega) hn T hts w)
      obtain ⟨hv1, hv2, hv3⟩ := wrapV_fits (n := n) (by omega) (s := T)
      have HV3 := Lib.hid (hv3 hne)
      have HZ2 := fun w => Lib.hid (replace_any ind hi (wrapV n T).1 (by omega) w)
      have HNx := Lib.hid (wrapRel_next (n := n) (ind := ind) (by omega) hi HRel.out hne)
      have u0 := und_size (n := ind) hi (s := (wrapV n T).1) (by omega)
      have a0 : (mkT acc).size ≤ 10000000 := by rw [mkT_size]; exact hac
      have HCAT := Lib.hid (cat_next acc B (undL ind (wrapV n T).1.data.toList))
      rw [← HEB.out] at HZ2 HNx
      generalize undL ind (wrapV n T).1.data.toList = U at HZ2 HNx u0 HCAT
      generalize (wrapV n T).1 = L at HN2 HZ2
      generalize (wrapV n T).2 = R at HN2 HNx HV3
      have HB := Lib.hid hbel
      clear hts hac HRel hv1 hv2 hv3 hbel
      go_wp2_with (first
          | ((with_reducible go_at_call 102); refine ((HR _).out).mono ?_; rintro e w' ⟨rfl, hb⟩; have HB := Lib.hid (below_step HB.out hb); clear hb)
          | ((with_reducible go_at_call 101); refine ((HZ2 _).out).mono ?_; rintro e w' ⟨rfl, hb⟩; have HB := Lib.hid (below_step HB.out hb); clear hb)
          | ((with_reducible go_at_call 103); refine ((HN2 _).out).mono ?_; rintro e w' ⟨rfl, hb⟩; have HB := Lib.hid (below_step HB.out hb); clear hb))
      go_roundw
      case rel => exact ⟨R, _, rfl, (by rw [HCAT.out]), HNx, HB.out⟩
      case measure => exact HV3.out
    · have hemp := empty_list (x := T) (by omega)
      have hemp2 := empty_not (x := T) (by omega)
      have HE := Lib.hid (wrapRel_end HRel.out (by omega))
      have HB := Lib.hid hbel
      clear hne hts hac HRel hbel
      go_wp2
      go_ret
      exact ⟨by rw [← HE.out]; rfl, HB.out⟩

set_option maxRecDepth 100000 in
set_option maxHeartbeats 1600000 in
theorem wrapB_out (a n : Nat) (ha : a ≤ 1024) (hn1 : 19 ≤ n) (hn : n ≤ 1048576) (hlt : n + 21 < a + 24) (s : ByteArray) (hs : s.size ≤ 4096) (w : World) :
    Calls Try.prog 94 #[.int .i64 a, .int .i64 ((n : Int) + 5 + 16), .string s] w fun e w' => e = .returned (.string (mkT (10 :: (blk 16 ++ linesV 16 n s)))) ∧ Below w.heap.size w w' := by
  have i0 : (0 : Int) ≤ (a : Int) := Int.natCast_nonneg _
  have i1 : (a : Int) ≤ 1024 := by omega
  have i2 : (19 : Int) ≤ (n : Int) := by omega
  have i3 : (n : Int) ≤ 1048576 := by omega
  have i4 : (n : Int) + 5 + 16 < (a : Int) + 24 := by omega
  have HR := fun w => Lib.hid (repeat_any 16 (by omega) w)
  have HN := fun w => Lib.hid (wrapN_any n (by omega) hn s hs w)
  obtain ⟨hv1, hv2, _⟩ := wrapV_fits (n := n) (by omega) (s := s)
  have HZ := fun w => Lib.hid (replace_any 16 (by omega) (wrapV n s).1 (by omega) w)
  have hf := wrapRel_first (n := n) (ind := 16) (by omega) (by omega) s hs (10 :: blk 16) (by simp [blk])
  have hz0 := und_size (n := 16) (by omega) (s := (wrapV n s).1) (by omega)
  have hres : mkT (10 :: (blk 16 ++ linesV 16 n s)) = mkT ((10 :: blk 16) ++ linesV 16 n s) := rfl
  rw [hres]
  generalize (10 :: blk 16) ++ linesV 16 n s = tot at hf ⊢
  generalize hU0 : undL 16 (wrapV n s).1.data.toList = U0 at HZ hf hz0
  generalize (wrapV n s).1 = L0 at HN HZ
  generalize (wrapV n s).2 = R0 at HN hf hv2
  have hk := blk_size 16
  have k0 : (mkT (blk 16)).size ≤ 1024 := by omega
  clear hv1 hU0 hres hk
  obtain ⟨B, hB⟩ : ∃ B, B = blk 16 := ⟨_, rfl⟩
  rw [← hB] at HR HZ k0
  rw [← hB] at hf
  have HF := Lib.hid hf
  have HEB := Lib.hid hB
  clear hf hB
  have HB := Lib.hid (Below.refl w.heap.size w)
  skip
  clear hv2
  have z0 : ((n : Int) + 5 + 16 == 0) = false := by simp; omega
  go_enter Try.func94, Try.ntmps94
  go_wp2_with (first
          | ((with_reducible go_at_call 102); refine ((HR _).out).mono ?_; rintro e w' ⟨rfl, hb⟩; have HB := Lib.hid (below_step HB.out hb); clear hb)
          | ((with_reducible go_at_call 101); refine ((HZ _).out).mono ?_; rintro e w' ⟨rfl, hb⟩; have HB := Lib.hid (below_step HB.out hb); clear hb)
          | ((with_reducible go_at_call 103); refine ((HN _).out).mono ?_; rintro e w' ⟨rfl, hb⟩; have HB := Lib.hid (below_step HB.out hb); clear hb))
  go_loopw [2, 8] (fun S r wr => ∃ (T : ByteArray) (acc : List UInt8), S = .string T ∧ r = .string (mkT acc) ∧ Hid (WrapRel n 16 tot acc T) ∧ Below w.heap.size w wr) (fun S _ _ => strSize S)
  case atStart =>
    refine ⟨_, (10 :: B) ++ U0, rfl, ?_, HF, HB.out⟩
    rw [show (10 :: B) ++ U0 = 10 :: (B ++ U0) from rfl, ← cat16]; rfl
  case round =>
    obtain ⟨T, acc, rfl, rfl, HRel, hbel⟩ := hrel
    have hts := HRel.out.1
    have hac := HRel.out.2.1
    clear HN HZ hz0 HF HB
    by_cases hne : 0 < T.size
    · have hemp := nonempty_list hne
      have hemp2 := nonempty_not hne
      have HN2 := fun w => Lib.hid (wrapN_any n (by omega) hn T hts w)
      obtain ⟨hv1, hv2, hv3⟩ := wrapV_fits (n := n) (by omega) (s := T)
      have HV3 := Lib.hid (hv3 hne)
      have HZ2 := fun w => Lib.hid (replace_any 16 (by omega) (wrapV n T).1 (by omega) w)
      have HNx := Lib.hid (wrapRel_next (n := n) (ind := 16) (by omega) (by omega) HRel.out hne)
      have u0 := und_size (n := 16) (by omega) (s := (wrapV n T).1) (by omega)
      have a0 : (mkT acc).size ≤ 10000000 := by rw [mkT_size]; exact hac
      have HCAT := Lib.hid (cat_next acc B (undL 16 (wrapV n T).1.data.toList))
      rw [← HEB.out] at HZ2 HNx
      generalize undL 16 (wrapV n T).1.data.toList = U at HZ2 HNx u0 HCAT
      generalize (wrapV n T).1 = L at HN2 HZ2
      generalize (wrapV n T).2 = R at HN2 HNx HV3
      have HB := Lib.hid hbel
      clear hts hac HRel hv1 hv2 hv3 hbel
      go_wp2_with (first
          | ((with_reducible go_at_call 102); refine ((HR _).out).mono ?_; rintro e w' ⟨rfl, hb⟩; have HB := Lib.hid (below_step HB.out hb); clear hb)
          | ((with_reducible go_at_call 101); refine ((HZ2 _).out).mono ?_; rintro e w' ⟨rfl, hb⟩; have HB := Lib.hid (below_step HB.out hb); clear hb)
          | ((with_reducible go_at_call 103); refine ((HN2 _).out).mono ?_; rintro e w' ⟨rfl, hb⟩; have HB := Lib.hid (below_step HB.out hb); clear hb))
      go_roundw
      case rel => exact ⟨R, _, rfl, (by rw [HCAT.out]), HNx, HB.out⟩
      case measure => exact HV3.out
    · have hemp := empty_list (x := T) (by omega)
      have hemp2 := empty_not (x := T) (by omega)
      have HE := Lib.hid (wrapRel_end HRel.out (by omega))
      have HB := Lib.hid hbel
      clear hne hts hac HRel hbel
      go_wp2
      go_ret
      exact ⟨by rw [← HE.out]; rfl, HB.out⟩
end Go.Proofs.Ytgmhhdpggnmipaa.E.K
