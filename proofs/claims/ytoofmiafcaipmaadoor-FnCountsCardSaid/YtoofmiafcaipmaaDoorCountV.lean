/- internal/strconv.ParseUint, ParseInt and strconv.ParseInt at base 0 and 0 bits, and pflag's count, over this seat's program. Written by gen_count.py. -/
import Derived.Test.YtoofmiafcaipmaaDoorPzA
import Derived.Test.YtoofmiafcaipmaaDoorPzB
import Derived.Test.YtoofmiafcaipmaaDoorIntV
namespace Go.Proofs.YtoofmiafcaipmaaDoor.E
open Go.RowKit Go.Proofs
open Go.Lib (NumEnd)
set_option linter.unusedVariables false
set_option linter.unusedSimpArgs false

theorem inner_zero (t : ByteArray) (hmax : t.size ≤ 9223372036854775806) (M : Nat) (hM : M ≤ 18446744073709551615) (hmv : IntKind.u64.wrap (IntKind.u64.wrap 18446744073709551616 - 1) = (M : Int)) (w : World) :
    Calls Tryd.prog 112 #[.string t, .int .i64 0, .int .i64 0] w fun e w' => e = .returned (Lib.uintTupleM 162 M (puV M t.data.toList)) ∧ Below w.heap.size w w' := by
  by_cases hne : 0 < t.size
  · have hnil : t.data.toList ≠ [] := fun h => by have := size_len t; rw [h] at this; simp at this; omega
    have HX : ∀ k B, preB t.data.toList = (B, k) → Lib.uintTupleM 162 (M : Int) (puV M t.data.toList) = puTup 162 M (uok t.data.toList) (puScan B M 0 false ((t.extract k t.size).data.toList)) := by
      intro k B h
      rw [puTup_eq]; unfold puV
      rw [if_neg hnil, h, extract_list, ← size_len t, List.take_length]
    by_cases h0 : t[0].toNat = 48
    · have hu := fun W => uok_walk t hne hmax (by omega) W
      by_cases h3 : 3 ≤ t.size
      · have hn : 1 < t.size := by omega
        obtain ⟨i1, i2, i3⟩ := lowB_is ⟨t[1].toNat, t[1].toNat_lt⟩
        simp only at i1 i2 i3
        by_cases hbb : lowB t[1].toNat = 98
        · rw [HX 2 2 (by unfold preB; rw [getD_at hne, getD_at hn, size_len, if_pos h0, if_pos ⟨h3, i1.1 hbb⟩])]
          exact pz_b M hM hmv t hne hmax h0 h3 hbb w _ hu
        have nb1 := fun h => hbb (i1.2 h)
        by_cases ho : lowB t[1].toNat = 111
        · rw [HX 2 8 (by unfold preB; rw [getD_at hne, getD_at hn, size_len, if_pos h0, if_neg (fun h => nb1 h.2), if_pos ⟨h3, i2.1 ho⟩])]
          exact pz_o M hM hmv t hne hmax h0 h3 ho w _ hu
        have nb2 := fun h => ho (i2.2 h)
        by_cases hx : lowB t[1].toNat = 120
        · rw [HX 2 16 (by unfold preB; rw [getD_at hne, getD_at hn, size_len, if_pos h0, if_neg (fun h => nb1 h.2), if_neg (fun h => nb2 h.2), if_pos ⟨h3, i3.1 hx⟩])]
          exact pz_x M hM hmv t hne hmax h0 h3 hx w _ hu
        have nb3 := fun h => hx (i3.2 h)
        rw [HX 1 8 (by unfold preB; rw [getD_at hne, getD_at hn, size_len, if_pos h0, if_neg (fun h => nb1 h.2), if_neg (fun h => nb2 h.2), if_neg (fun h => nb3 h.2)])]
        exact pz_z M hM hmv t hne hmax h0 h3 ⟨hbb, ho, hx⟩ w _ hu
      · rw [HX 1 8 (by unfold preB; rw [getD_at hne, size_len, if_pos h0, if_neg (fun h => h3 h.1), if_neg (fun h => h3 h.1), if_neg (fun h => h3 h.1)])]
        exact pz_y M hM hmv t hne hmax h0 (by omega) w _ hu
    · rw [HX 0 10 (by unfold preB; rw [getD_at hne, if_neg h0])]
      have e : t.extract 0 t.size = t := ba_ext (by rw [extract_list, ← size_len t, List.take_length]; rfl)
      rw [e]
      exact pz_d M hM hmv t hne hmax h0 w _ (fun hm W => uok_walk t hne hmax hm W)
  · have ht : t = ⟨#[]⟩ := ByteArray.ext (Array.eq_empty_of_size_eq_zero (by show t.size = 0; omega))
    subst ht
    refine (Tryd.internal_strconv_ParseUint_empty 0 0 w).mono fun e w' ⟨he, hw⟩ => ⟨he.trans rfl, by rw [hw]; exact Below.refl _ _⟩

set_option maxHeartbeats 8000000 in
set_option maxRecDepth 100000 in
theorem pi0 (s : ByteArray) (hne : 0 < s.size) (hmax : s.size ≤ 9223372036854775806) (w : World) :
    Calls Tryd.prog 107 #[.string s, .int .i64 0, .int .i64 0] w fun e w' => e = .returned (intTup 162 (piE 18446744073709551615 9223372036854775808 s.data.toList)) ∧ Below w.heap.size w w' := by
  have hemp : s.toList.isEmpty = false := by
    rw [← decide_eq_emptyBytes]
    exact decide_eq_false (fun h => by rw [h] at hne; exact absurd hne (by decide))
  have hL := drop_at hne
  rw [List.drop_zero] at hL
  have hq2 : ∀ W, (binOp .neq 73 (.iface 162 (.int .i64 2)) (.iface 162 (.int .i64 1))).run Tryd.prog W = .ok (.bool true) W := fun W => Lib.run_neq_iface_int W 2 1 Tryd.underlying73 (by kernel_rfl) Tryd.underlying162
  have hq1 : ∀ W, (binOp .neq 73 (.iface 162 (.int .i64 1)) (.iface 162 (.int .i64 1))).run Tryd.prog W = .ok (.bool false) W := fun W => Lib.run_neq_iface_int W 1 1 Tryd.underlying73 (by kernel_rfl) Tryd.underlying162
  have hmin : wrap64 (-wrap64 9223372036854775808) = -9223372036854775808 := by
    unfold wrap64
    omega
  have hmv0 : IntKind.u64.wrap (IntKind.u64.wrap 18446744073709551616 - 1) = ((18446744073709551615 : Nat) : Int) := by
    rw [IntKind.wrap_u64, IntKind.wrap_u64]
    decide
  by_cases h43 : s[0].toNat = 43
  · have hp : piE 18446744073709551615 9223372036854775808 s.data.toList = plusE 9223372036854775808 (puV 18446744073709551615 (s.data.toList.drop 1)) := by rw [hL, piE, if_pos h43]; rfl
    have b43 : ((s[0].toNat : Int) == 43) = true := by rw [h43]; rfl
    have hsl : ∀ W, (Instr.slice 9 (.string s) (some (.int .i64 1)) none none).run Tryd.prog W = .ok (.string (s.extract 1 s.size)) W := fun W => by rw [run_slice_string_l (P := Tryd.prog) W 9 s Tryd.underlying9 .i64 1 (by omega) (by omega)]; rfl
    have htl : (s.extract 1 s.size).data.toList = s.data.toList.drop 1 := by rw [extract_list, ← size_len s, List.take_length]
    have hts : (s.extract 1 s.size).size ≤ s.size := by simp only [ByteArray.size_extract]; omega
    generalize s.extract 1 s.size = t at hsl htl hts
    have hU0 := inner_zero t (by omega) 18446744073709551615 (by omega) hmv0 w
    have hle := fun n h => puV_le (M := 18446744073709551615) (l := s.data.toList.drop 1) (n := n) h
    rw [htl] at hU0
    rw [hp]
    generalize puV 18446744073709551615 (s.data.toList.drop 1) = r at hU0 hle
    clear hL hp
    rcases r with u | _ | _
    · have hu := hle u rfl
      obtain ⟨a, ha⟩ : ∃ a : Int, a = (u : Int) := ⟨_, rfl⟩
      simp only [Lib.uintTupleM] at hU0
      rw [← ha] at hU0
      have hU := Lib.hid hU0
      clear hU0 hle
      have a0 : 0 ≤ a := by omega
      have a1 : a ≤ 18446744073709551615 := by omega
      by_cases hout : 9223372036854775808 ≤ u
      · have hres : plusE 9223372036854775808 (.ok u) = (.range, 9223372036854775807) := by simp only [plusE]; rw [if_neg (by omega)]; rfl
        rw [hres]; have iout : 9223372036854775808 ≤ a := by omega
        clear hres hout hu ha
        go_enter Tryd.func107, Tryd.ntmps107
        go_wp2_with (go_at_call 112; refine (hU.out).mono ?_; rintro e w1 ⟨rfl, hb1⟩)
        go_wp2
        go_ret2
        exact ⟨by first | rfl | (simp only [hmin]; rfl), hb1⟩
      · have hres : plusE 9223372036854775808 (.ok u) = (.ok a, 0) := by simp only [plusE]; rw [if_pos (by omega), ha]
        rw [hres]; have iin : a < 9223372036854775808 := by omega
        clear hres hout hu ha
        go_enter Tryd.func107, Tryd.ntmps107
        go_wp2_with (go_at_call 112; refine (hU.out).mono ?_; rintro e w1 ⟨rfl, hb1⟩)
        go_wp2
        go_ret2
        exact ⟨by first | rfl | (simp only [intTup]; congr 4; unfold wrap64; omega), hb1⟩
    · simp only [Lib.uintTupleM] at hU0
      have hU := Lib.hid hU0
      clear hU0 hle
      go_enter Tryd.func107, Tryd.ntmps107
      go_wp2_with (go_at_call 112; refine (hU.out).mono ?_; rintro e w1 ⟨rfl, hb1⟩)
      go_wp2
      go_ret2
      exact ⟨rfl, hb1⟩
    · simp only [Lib.uintTupleM] at hU0
      have hU := Lib.hid hU0
      clear hU0 hle
      go_enter Tryd.func107, Tryd.ntmps107
      go_wp2_with (go_at_call 112; refine (hU.out).mono ?_; rintro e w1 ⟨rfl, hb1⟩)
      go_wp2
      go_ret2
      exact ⟨by first | rfl | (simp only [hmin]; rfl), hb1⟩
  by_cases h45 : s[0].toNat = 45
  · have hp : piE 18446744073709551615 9223372036854775808 s.data.toList = minusE 9223372036854775808 (puV 18446744073709551615 (s.data.toList.drop 1)) := by rw [hL, piE, if_neg h43, if_pos h45]; rfl
    have b43 : ((s[0].toNat : Int) == 43) = false := by rw [h45]; rfl
    have b45 : ((s[0].toNat : Int) == 45) = true := by rw [h45]; rfl
    have hsl : ∀ W, (Instr.slice 9 (.string s) (some (.int .i64 1)) none none).run Tryd.prog W = .ok (.string (s.extract 1 s.size)) W := fun W => by rw [run_slice_string_l (P := Tryd.prog) W 9 s Tryd.underlying9 .i64 1 (by omega) (by omega)]; rfl
    have htl : (s.extract 1 s.size).data.toList = s.data.toList.drop 1 := by rw [extract_list, ← size_len s, List.take_length]
    have hts : (s.extract 1 s.size).size ≤ s.size := by simp only [ByteArray.size_extract]; omega
    generalize s.extract 1 s.size = t at hsl htl hts
    have hU0 := inner_zero t (by omega) 18446744073709551615 (by omega) hmv0 w
    have hle := fun n h => puV_le (M := 18446744073709551615) (l := s.data.toList.drop 1) (n := n) h
    rw [htl] at hU0
    rw [hp]
    generalize puV 18446744073709551615 (s.data.toList.drop 1) = r at hU0 hle
    clear hL hp
    rcases r with u | _ | _
    · have hu := hle u rfl
      obtain ⟨a, ha⟩ : ∃ a : Int, a = (u : Int) := ⟨_, rfl⟩
      simp only [Lib.uintTupleM] at hU0
      rw [← ha] at hU0
      have hU := Lib.hid hU0
      clear hU0 hle
      have a0 : 0 ≤ a := by omega
      have a1 : a ≤ 18446744073709551615 := by omega
      by_cases hout : 9223372036854775808 < u
      · have hres : minusE 9223372036854775808 (.ok u) = (.range, -9223372036854775808) := by simp only [minusE]; rw [if_neg (by omega)]; rfl
        rw [hres]; have iout : 9223372036854775808 < a := by omega
        clear hres hout hu ha
        go_enter Tryd.func107, Tryd.ntmps107
        go_wp2_with (go_at_call 112; refine (hU.out).mono ?_; rintro e w1 ⟨rfl, hb1⟩)
        go_wp2
        go_ret2
        exact ⟨by first | rfl | (simp only [hmin]; rfl), hb1⟩
      · have hres : minusE 9223372036854775808 (.ok u) = (.ok (-a), 0) := by simp only [minusE]; rw [if_pos (by omega), ha]
        rw [hres]; have iin : a ≤ 9223372036854775808 := by omega
        by_cases hc : a = 9223372036854775808
        · have hc2 : u = 9223372036854775808 := by omega
          clear hres hout hu ha
          subst hc
          go_enter Tryd.func107, Tryd.ntmps107
          go_wp2_with (go_at_call 112; refine (hU.out).mono ?_; rintro e w1 ⟨rfl, hb1⟩)
          go_wp2
          go_ret2
          exact ⟨by first | rfl | (simp only [hmin]; rfl), hb1⟩
        replace iin : a < 9223372036854775808 := by omega
        clear hres hout hu ha
        go_enter Tryd.func107, Tryd.ntmps107
        go_wp2_with (go_at_call 112; refine (hU.out).mono ?_; rintro e w1 ⟨rfl, hb1⟩)
        go_wp2
        go_ret2
        exact ⟨by first | rfl | (simp only [intTup]; congr 4; unfold wrap64; omega), hb1⟩
    · simp only [Lib.uintTupleM] at hU0
      have hU := Lib.hid hU0
      clear hU0 hle
      go_enter Tryd.func107, Tryd.ntmps107
      go_wp2_with (go_at_call 112; refine (hU.out).mono ?_; rintro e w1 ⟨rfl, hb1⟩)
      go_wp2
      go_ret2
      exact ⟨rfl, hb1⟩
    · simp only [Lib.uintTupleM] at hU0
      have hU := Lib.hid hU0
      clear hU0 hle
      go_enter Tryd.func107, Tryd.ntmps107
      go_wp2_with (go_at_call 112; refine (hU.out).mono ?_; rintro e w1 ⟨rfl, hb1⟩)
      go_wp2
      go_ret2
      exact ⟨by first | rfl | (simp only [hmin]; rfl), hb1⟩
  have hp : piE 18446744073709551615 9223372036854775808 s.data.toList = plusE 9223372036854775808 (puV 18446744073709551615 s.data.toList) := by rw [hL, piE, if_neg h43, if_neg h45]
  have b43 : ((s[0].toNat : Int) == 43) = false := beq_false_of_ne (by omega)
  have b45 : ((s[0].toNat : Int) == 45) = false := beq_false_of_ne (by omega)
  have hU0 := inner_zero s (by omega) 18446744073709551615 (by omega) hmv0 w
  have hle := fun n h => puV_le (M := 18446744073709551615) (l := s.data.toList) (n := n) h
  rw [hp]
  generalize puV 18446744073709551615 (s.data.toList) = r at hU0 hle
  clear hL hp
  rcases r with u | _ | _
  · have hu := hle u rfl
    obtain ⟨a, ha⟩ : ∃ a : Int, a = (u : Int) := ⟨_, rfl⟩
    simp only [Lib.uintTupleM] at hU0
    rw [← ha] at hU0
    have hU := Lib.hid hU0
    clear hU0 hle
    have a0 : 0 ≤ a := by omega
    have a1 : a ≤ 18446744073709551615 := by omega
    by_cases hout : 9223372036854775808 ≤ u
    · have hres : plusE 9223372036854775808 (.ok u) = (.range, 9223372036854775807) := by simp only [plusE]; rw [if_neg (by omega)]; rfl
      rw [hres]; have iout : 9223372036854775808 ≤ a := by omega
      clear hres hout hu ha
      go_enter Tryd.func107, Tryd.ntmps107
      go_wp2_with (go_at_call 112; refine (hU.out).mono ?_; rintro e w1 ⟨rfl, hb1⟩)
      go_wp2
      go_ret2
      exact ⟨by first | rfl | (simp only [hmin]; rfl), hb1⟩
    · have hres : plusE 9223372036854775808 (.ok u) = (.ok a, 0) := by simp only [plusE]; rw [if_pos (by omega), ha]
      rw [hres]; have iin : a < 9223372036854775808 := by omega
      clear hres hout hu ha
      go_enter Tryd.func107, Tryd.ntmps107
      go_wp2_with (go_at_call 112; refine (hU.out).mono ?_; rintro e w1 ⟨rfl, hb1⟩)
      go_wp2
      go_ret2
      exact ⟨by first | rfl | (simp only [intTup]; congr 4; unfold wrap64; omega), hb1⟩
  · simp only [Lib.uintTupleM] at hU0
    have hU := Lib.hid hU0
    clear hU0 hle
    go_enter Tryd.func107, Tryd.ntmps107
    go_wp2_with (go_at_call 112; refine (hU.out).mono ?_; rintro e w1 ⟨rfl, hb1⟩)
    go_wp2
    go_ret2
    exact ⟨rfl, hb1⟩
  · simp only [Lib.uintTupleM] at hU0
    have hU := Lib.hid hU0
    clear hU0 hle
    go_enter Tryd.func107, Tryd.ntmps107
    go_wp2_with (go_at_call 112; refine (hU.out).mono ?_; rintro e w1 ⟨rfl, hb1⟩)
    go_wp2
    go_ret2
    exact ⟨by first | rfl | (simp only [hmin]; rfl), hb1⟩

set_option maxHeartbeats 1600000 in
set_option maxRecDepth 100000 in
theorem parseInt0 (t : ByteArray) (hmax : t.size ≤ 281474976710656) (w : World) (he1 : ErrCell 0 w) (he2 : ErrCell 1 w) :
    Calls Tryd.prog 86 #[.string t, .int .i64 0, .int .i64 0] w fun e w' => IntGot (piE 18446744073709551615 9223372036854775808 t.data.toList) w e w' := by
  have H0 : Calls Tryd.prog 107 #[.string t, .int .i64 0, .int .i64 0] w fun e w' => e = .returned (intTup 162 (piE 18446744073709551615 9223372036854775808 t.data.toList)) ∧ Below w.heap.size w w' := by
    by_cases hne : 0 < t.size
    · exact pi0 t hne (by omega) w
    · have ht : t = ⟨#[]⟩ := ByteArray.ext (Array.eq_empty_of_size_eq_zero (by show t.size = 0; omega))
      subst ht
      exact (Tryd.internal_strconv_ParseInt_empty 0 0 w).mono fun e w' ⟨he, hw⟩ => ⟨he, by rw [hw]; exact Below.refl _ _⟩
  generalize piE 18446744073709551615 9223372036854775808 t.data.toList = v at H0
  have E1 := Lib.hid he1
  have E2 := Lib.hid he2
  clear he1 he2
  unfold IntGot
  rcases v with ⟨v | _ | _, c⟩
  · simp only [intTup] at H0
    have H := Lib.hid H0
    clear H0
    go_enter Tryd.func86, Tryd.ntmps86
    go_wp2_with (go_at_call 107; refine (H.out).mono ?_; rintro e w1 ⟨rfl, hb1⟩)
    go_ret2
    exact ⟨.nilIface, rfl, .inl ⟨rfl, rfl⟩, hb1⟩
  · simp only [intTup] at H0
    have H := Lib.hid H0
    clear H0
    go_enter Tryd.func86, Tryd.ntmps86
    go_wp2_with (first
      | (go_at_call 107; refine (H.out).mono ?_; rintro e w1 ⟨rfl, hb1⟩)
      | (go_at_call 108; obtain ⟨ev, hv, hev⟩ := E1.out.below hb1; refine (Tryd.strconv_toError_syntax _ t 0 0 ev _ hmax hv hev).mono ?_; rintro e w2 ⟨N, rfl, _, _, hb2⟩))
    go_ret2
    exact ⟨_, rfl, .inr ⟨rfl, _, _, rfl⟩, below_step hb1 hb2⟩
  · simp only [intTup] at H0
    have H := Lib.hid H0
    clear H0
    go_enter Tryd.func86, Tryd.ntmps86
    go_wp2_with (first
      | (go_at_call 107; refine (H.out).mono ?_; rintro e w1 ⟨rfl, hb1⟩)
      | (go_at_call 108; obtain ⟨ev, hv, hev⟩ := E2.out.below hb1; refine (Tryd.strconv_toError_range _ t 0 0 ev _ hmax hv hev).mono ?_; rintro e w2 ⟨N, rfl, _, _, hb2⟩))
    go_ret2
    exact ⟨_, rfl, .inr ⟨rfl, _, _, rfl⟩, below_step hb1 hb2⟩


theorem new_count (a : Addr) (b u : Int) (w : World) (hc : w.cell? a = some (.int .i64 u)) (hf : w.frozen? a = false) :
    Calls Tryd.prog 95 #[.int .i64 b, .pointer (some a)] w fun e w' => e = .returned (.pointer (some a)) ∧ w' = w.setCell a (.int .i64 b) := by
  go_enter Tryd.func95, Tryd.ntmps95
  go_wp2
  go_ret
  exact ⟨rfl, rfl⟩

theorem zz_count (a : Addr) (b u : Int) (w : World) (hc : w.cell? a = some (.int .i64 u)) (hf : w.frozen? a = false) :
    Calls Tryd.prog 53 #[.int .i64 b, .pointer (some a)] w fun e w' => e = .returned (.pointer (some a)) ∧ w' = w.setCell a (.int .i64 b) := by
  go_enter Tryd.func53, Tryd.ntmps53
  go_wp2_with (go_at_call 95; refine (new_count a b u _ hc hf).mono ?_; rintro e w' ⟨rfl, rfl⟩)
  go_ret
  exact ⟨rfl, rfl⟩

set_option maxRecDepth 100000 in
theorem string_count (a : Addr) (n : Int) (h0 : -9223372036854775808 ≤ n) (h1 : n ≤ 9223372036854775807) (w : World) (hc : w.cell? a = some (.int .i64 n)) (ht : Pow w) :
    Calls Tryd.prog 55 #[.pointer (some a)] w fun e w' => e = .returned (.string (said n)) ∧ Below w.heap.size w w' := by
  have HT := Lib.hid ht
  clear ht
  go_enter Tryd.func55, Tryd.ntmps55
  go_wp2_with (go_at_call 89; refine (Tryd.strconv_Itoa n (by omega) (by omega) _ HT.out).mono ?_; rintro e w1 ⟨rfl, kk, os, hg⟩)
  go_ret
  exact ⟨rfl, Lib.below_grow _ _ (Nat.le_refl _) _ _⟩

/-- The text that counts one more. -/
def plusOne : ByteArray := ⟨#[43, 49]⟩
def cntP (s : ByteArray) : NumEnd Int × Int := piE 18446744073709551615 9223372036854775808 s.data.toList
/-- What the count is behind a text. -/
def cntV (u : Int) (s : ByteArray) : Int := if s = plusOne then wrap64 (u + 1) else gotV (cntP s)
theorem cntV_in (u : Int) (s : ByteArray) : -9223372036854775808 ≤ cntV u s ∧ cntV u s ≤ 9223372036854775807 := by
  unfold cntV
  split
  · unfold wrap64; omega
  · have := piE_in (M := 18446744073709551615) (C := 9223372036854775808) (by omega) s.data.toList
    unfold cntP; omega
theorem plus_ok : badV (cntP plusOne) = false := by
  have h : cntP plusOne = (.ok 1, 0) := by unfold cntP; decide +kernel
  rw [h]; rfl

set_option maxRecDepth 100000 in
theorem set_count (a : Addr) (s : ByteArray) (u : Int) (w : World) (hc : w.cell? a = some (.int .i64 u)) (hf : w.frozen? a = false) (hs : s.size ≤ 281474976710656) (he1 : ErrCell 0 w) (he2 : ErrCell 1 w) :
    Calls Tryd.prog 54 #[.pointer (some a), .string s] w fun e w' => ∃ E w1, e = .returned E ∧ ((badV (cntP s) = false ∧ E = .nilIface) ∨ (badV (cntP s) = true ∧ ∃ t q, E = .iface t q)) ∧ Below w.heap.size w w1 ∧ w' = w1.setCell a (.int .i64 (cntV u s)) := by
  by_cases hp : s = plusOne
  · have hv : cntV u s = wrap64 (u + 1) := if_pos hp
    rw [hv, hp, plus_ok]
    have HE : ((⟨#[43, 49]⟩ : ByteArray).toList == [43, 49]) = true := by decide +kernel
    clear hv hp hs he1 he2
    unfold plusOne at *
    go_enter Tryd.func54, Tryd.ntmps54
    go_wp2
    go_ret
    exact ⟨_, w, rfl, .inl (by simp), Below.refl _ _, rfl⟩
  · have hv : cntV u s = gotV (cntP s) := if_neg hp
    rw [hv]
    have HE : (s.toList == [43, 49]) = false := by rw [show ([43, 49] : List UInt8) = (⟨#[43, 49]⟩ : ByteArray).toList from by decide +kernel]; exact bytes_ne hp
    have H := Lib.hid (parseInt0 s hs w he1 he2)
    have hi := piE_in (M := 18446744073709551615) (C := 9223372036854775808) (by omega) s.data.toList
    unfold cntP
    clear he1 he2 hv hp
    generalize piE 18446744073709551615 9223372036854775808 s.data.toList = p at H hi ⊢
    unfold IntGot at H
    generalize gotV p = V at H hi ⊢
    generalize badV p = B at H ⊢
    obtain ⟨hi1, hi2⟩ := hi
    have i1 : -9223372036854775808 ≤ V := by omega
    have i2 : V ≤ 9223372036854775807 := by omega
    clear hi1 hi2
    go_enter Tryd.func54, Tryd.ntmps54
    go_wp2_with (go_at_call 86; refine (H.out).mono ?_; rintro e w1 ⟨E, rfl, hE, hb⟩; have HE2 := Lib.hid hE; clear hE; have hc1 := cell_kept hb hc; have hf1 := frozen_kept hb hc hf)
    go_ret
    exact ⟨_, w1, rfl, HE2.out, hb, by first | rfl | (congr 2; go_num)⟩
end Go.Proofs.YtoofmiafcaipmaaDoor.E
