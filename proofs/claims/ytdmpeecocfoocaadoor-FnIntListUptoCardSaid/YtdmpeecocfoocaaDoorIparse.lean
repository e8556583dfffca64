/- internal/strconv.ParseInt at base 0, whole, over this seat's program. Written by gen_parseint.py. -/
import Derived.Test.YtdmpeecocfoocaaDoorUparse
namespace Go.Proofs.YtdmpeecocfoocaaDoor.E
open Go.RowKit Go.Proofs
open Go.Lib (NumEnd)
set_option linter.unusedVariables false
set_option linter.unusedSimpArgs false

def plusE (C : Nat) : NumEnd Nat → NumEnd Int × Int
  | .ok u => if u < C then (.ok u, 0) else (.range, (C : Int) - 1)
  | Go.Lib.NumEnd.syntax => (Go.Lib.NumEnd.syntax, 0)
  | .range => (.range, (C : Int) - 1)
def minusE (C : Nat) : NumEnd Nat → NumEnd Int × Int
  | .ok u => if u ≤ C then (.ok (-(u : Int)), 0) else (.range, -(C : Int))
  | Go.Lib.NumEnd.syntax => (Go.Lib.NumEnd.syntax, 0)
  | .range => (.range, -(C : Int))
/-- What ParseInt says of a text at base 0: numbers up to M without their sign; C: the number of those that are not below 0. -/
def piE (M C : Nat) : List UInt8 → NumEnd Int × Int
  | [] => (Go.Lib.NumEnd.syntax, 0)
  | c :: r => if c.toNat = 43 then plusE C (puV M r) else if c.toNat = 45 then minusE C (puV M r) else plusE C (puV M (c :: r))
def intTup (T : TypeId) : NumEnd Int × Int → Value
  | (.ok v, _) => .tuple #[.int .i64 v, .nilIface]
  | (Go.Lib.NumEnd.syntax, _) => .tuple #[.int .i64 0, .iface T (.int .i64 2)]
  | (.range, c) => .tuple #[.int .i64 c, .iface T (.int .i64 1)]

set_option maxHeartbeats 8000000 in
set_option maxRecDepth 100000 in
theorem pi8 (s : ByteArray) (hne : 0 < s.size) (hmax : s.size ≤ 9223372036854775806) (w : World) :
    Calls Tryd.prog 107 #[.string s, .int .i64 0, .int .i64 8] w fun e w' => e = .returned (intTup 162 (piE 255 128 s.data.toList)) ∧ Below w.heap.size w w' := by
  have hemp : s.toList.isEmpty = false := by
    rw [← decide_eq_emptyBytes]
    exact decide_eq_false (fun h => by rw [h] at hne; exact absurd hne (by decide))
  have hL := drop_at hne
  rw [List.drop_zero] at hL
  have hq2 : ∀ W, (binOp .neq 73 (.iface 162 (.int .i64 2)) (.iface 162 (.int .i64 1))).run Tryd.prog W = .ok (.bool true) W := fun W => Lib.run_neq_iface_int W 2 1 Tryd.underlying73 (by kernel_rfl) Tryd.underlying162
  have hq1 : ∀ W, (binOp .neq 73 (.iface 162 (.int .i64 1)) (.iface 162 (.int .i64 1))).run Tryd.prog W = .ok (.bool false) W := fun W => Lib.run_neq_iface_int W 1 1 Tryd.underlying73 (by kernel_rfl) Tryd.underlying162
  have hmin : wrap64 (-wrap64 128) = -128 := by
    unfold wrap64
    omega
  have hmv : IntKind.u64.wrap (IntKind.u64.wrap (2 ^ 8) - 1) = ((255 : Nat) : Int) := by
    rw [IntKind.wrap_u64, IntKind.wrap_u64]
    decide
  by_cases h43 : s[0].toNat = 43
  · have hp : piE 255 128 s.data.toList = plusE 128 (puV 255 (s.data.toList.drop 1)) := by rw [hL, piE, if_pos h43]; rfl
    have b43 : ((s[0].toNat : Int) == 43) = true := by rw [h43]; rfl
    have hsl : ∀ W, (Instr.slice 9 (.string s) (some (.int .i64 1)) none none).run Tryd.prog W = .ok (.string (s.extract 1 s.size)) W := fun W => by rw [run_slice_string_l (P := Tryd.prog) W 9 s Tryd.underlying9 .i64 1 (by omega) (by omega)]; rfl
    have htl : (s.extract 1 s.size).data.toList = s.data.toList.drop 1 := by rw [extract_list, ← size_len s, List.take_length]
    have hts : (s.extract 1 s.size).size ≤ s.size := by simp only [ByteArray.size_extract]; omega
    generalize s.extract 1 s.size = t at hsl htl hts
    have hU0 := inner_any t (by omega) 8 255 (by omega) (by omega) hmv w
    have hle := fun n h => puV_le (M := 255) (l := s.data.toList.drop 1) (n := n) h
    rw [htl] at hU0
    rw [hp]
    generalize puV 255 (s.data.toList.drop 1) = r at hU0 hle
    clear hL hp
    rcases r with u | _ | _
    · have hu := hle u rfl
      obtain ⟨a, ha⟩ : ∃ a : Int, a = (u : Int) := ⟨_, rfl⟩
      simp only [Lib.uintTupleM] at hU0
      rw [← ha] at hU0
      have hU := Lib.hid hU0
      clear hU0 hle
      have a0 : 0 ≤ a := by omega
      have a1 : a ≤ 255 := by omega
      by_cases hout : 128 ≤ u
      · have hres : plusE 128 (.ok u) = (.range, 127) := by simp only [plusE]; rw [if_neg (by omega)]; rfl
        rw [hres]; have iout : 128 ≤ a := by omega
        clear hres hout hu ha
        go_enter Tryd.func107, Tryd.ntmps107
        go_wp2_with (go_at_call 112; refine (hU.out).mono ?_; rintro e w1 ⟨rfl, hb1⟩)
        go_wp2
        go_ret2
        exact ⟨by first | rfl | (simp only [hmin]; rfl), hb1⟩
      · have hres : plusE 128 (.ok u) = (.ok a, 0) := by simp only [plusE]; rw [if_pos (by omega), ha]
        rw [hres]; have iin : a < 128 := by omega
        clear hres hout hu ha
        go_enter Tryd.func107, Tryd.ntmps107
        go_wp2_with (go_at_call 112; refine (hU.out).mono ?_; rintro e w1 ⟨rfl, hb1⟩)
        go_wp2
        go_ret2
        exact ⟨by first | rfl | (simp only [intTup]; congr 4; unfold wrap64; omega), hb1⟩
    · simp only [Lib.uintTupleM] at hU0
      have hU := Lib.hid hU0
      clear hU0 hle
      go_enter Tryd.func107, Tryd.ntmps107
      go_wp2_with (go_at_call 112; refine (hU.out).mono ?_; rintro e w1 ⟨rfl, hb1⟩)
      go_wp2
      go_ret2
      exact ⟨rfl, hb1⟩
    · simp only [Lib.uintTupleM] at hU0
      have hU := Lib.hid hU0
      clear hU0 hle
      go_enter Tryd.func107, Tryd.ntmps107
      go_wp2_with (go_at_call 112; refine (hU.out).mono ?_; rintro e w1 ⟨rfl, hb1⟩)
      go_wp2
      go_ret2
      exact ⟨by first | rfl | (simp only [hmin]; rfl), hb1⟩
  by_cases h45 : s[0].toNat = 45
  · have hp : piE 255 128 s.data.toList = minusE 128 (puV 255 (s.data.toList.drop 1)) := by rw [hL, piE, if_neg h43, if_pos h45]; rfl
    have b43 : ((s[0].toNat : Int) == 43) = false := by rw [h45]; rfl
    have b45 : ((s[0].toNat : Int) == 45) = true := by rw [h45]; rfl
    have hsl : ∀ W, (Instr.slice 9 (.string s) (some (.int .i64 1)) none none).run Tryd.prog W = .ok (.string (s.extract 1 s.size)) W := fun W => by rw [run_slice_string_l (P := Tryd.prog) W 9 s Tryd.underlying9 .i64 1 (by omega) (by omega)]; rfl
    have htl : (s.extract 1 s.size).data.toList = s.data.toList.drop 1 := by rw [extract_list, ← size_len s, List.take_length]
    have hts : (s.extract 1 s.size).size ≤ s.size := by simp only [ByteArray.size_extract]; omega
    generalize s.extract 1 s.size = t at hsl htl hts
    have hU0 := inner_any t (by omega) 8 255 (by omega) (by omega) hmv w
    have hle := fun n h => puV_le (M := 255) (l := s.data.toList.drop 1) (n := n) h
    rw [htl] at hU0
    rw [hp]
    generalize puV 255 (s.data.toList.drop 1) = r at hU0 hle
    clear hL hp
    rcases r with u | _ | _
    · have hu := hle u rfl
      obtain ⟨a, ha⟩ : ∃ a : Int, a = (u : Int) := ⟨_, rfl⟩
      simp only [Lib.uintTupleM] at hU0
      rw [← ha] at hU0
      have hU := Lib.hid hU0
      clear hU0 hle
      have a0 : 0 ≤ a := by omega
      have a1 : a ≤ 255 := by omega
      by_cases hout : 128 < u
      · have hres : minusE 128 (.ok u) = (.range, -128) := by simp only [minusE]; rw [if_neg (by omega)]; rfl
        rw [hres]; have iout : 128 < a := by omega
        clear hres hout hu ha
        go_enter Tryd.func107, Tryd.ntmps107
        go_wp2_with (go_at_call 112; refine (hU.out).mono ?_; rintro e w1 ⟨rfl, hb1⟩)
        go_wp2
        go_ret2
        exact ⟨by first | rfl | (simp only [hmin]; rfl), hb1⟩
      · have hres : minusE 128 (.ok u) = (.ok (-a), 0) := by simp only [minusE]; rw [if_pos (by omega), ha]
        rw [hres]; have iin : a ≤ 128 := by omega
        clear hres hout hu ha
        go_enter Tryd.func107, Tryd.ntmps107
        go_wp2_with (go_at_call 112; refine (hU.out).mono ?_; rintro e w1 ⟨rfl, hb1⟩)
        go_wp2
        go_ret2
        exact ⟨by first | rfl | (simp only [intTup]; congr 4; unfold wrap64; omega), hb1⟩
    · simp only [Lib.uintTupleM] at hU0
      have hU := Lib.hid hU0
      clear hU0 hle
      go_enter Tryd.func107, Tryd.ntmps107
      go_wp2_with (go_at_call 112; refine (hU.out).mono ?_; rintro e w1 ⟨rfl, hb1⟩)
      go_wp2
      go_ret2
      exact ⟨rfl, hb1⟩
    · simp only [Lib.uintTupleM] at hU0
      have hU := Lib.hid hU0
      clear hU0 hle
      go_enter Tryd.func107, Tryd.ntmps107
      go_wp2_with (go_at_call 112; refine (hU.out).mono ?_; rintro e w1 ⟨rfl, hb1⟩)
      go_wp2
      go_ret2
      exact ⟨by first | rfl | (simp only [hmin]; rfl), hb1⟩
  have hp : piE 255 128 s.data.toList = plusE 128 (puV 255 s.data.toList) := by rw [hL, piE, if_neg h43, if_neg h45]
  have b43 : ((s[0].toNat : Int) == 43) = false := beq_false_of_ne (by omega)
  have b45 : ((s[0].toNat : Int) == 45) = false := beq_false_of_ne (by omega)
  have hU0 := inner_any s (by omega) 8 255 (by omega) (by omega) hmv w
  have hle := fun n h => puV_le (M := 255) (l := s.data.toList) (n := n) h
  rw [hp]
  generalize puV 255 (s.data.toList) = r at hU0 hle
  clear hL hp
  rcases r with u | _ | _
  · have hu := hle u rfl
    obtain ⟨a, ha⟩ : ∃ a : Int, a = (u : Int) := ⟨_, rfl⟩
    simp only [Lib.uintTupleM] at hU0
    rw [← ha] at hU0
    have hU := Lib.hid hU0
    clear hU0 hle
    have a0 : 0 ≤ a := by omega
    have a1 : a ≤ 255 := by omega
    by_cases hout : 128 ≤ u
    · have hres : plusE 128 (.ok u) = (.range, 127) := by simp only [plusE]; rw [if_neg (by omega)]; rfl
      rw [hres]; have iout : 128 ≤ a := by omega
      clear hres hout hu ha
      go_enter Tryd.func107, Tryd.ntmps107
      go_wp2_with (go_at_call 112; refine (hU.out).mono ?_; rintro e w1 ⟨rfl, hb1⟩)
      go_wp2
      go_ret2
      exact ⟨by first | rfl | (simp only [hmin]; rfl), hb1⟩
    · have hres : plusE 128 (.ok u) = (.ok a, 0) := by simp only [plusE]; rw [if_pos (by omega), ha]
      rw [hres]; have iin : a < 128 := by omega
      clear hres hout hu ha
      go_enter Tryd.func107, Tryd.ntmps107
      go_wp2_with (go_at_call 112; refine (hU.out).mono ?_; rintro e w1 ⟨rfl, hb1⟩)
      go_wp2
      go_ret2
      exact ⟨by first | rfl | (simp only [intTup]; congr 4; unfold wrap64; omega), hb1⟩
  · simp only [Lib.uintTupleM] at hU0
    have hU := Lib.hid hU0
    clear hU0 hle
    go_enter Tryd.func107, Tryd.ntmps107
    go_wp2_with (go_at_call 112; refine (hU.out).mono ?_; rintro e w1 ⟨rfl, hb1⟩)
    go_wp2
    go_ret2
    exact ⟨rfl, hb1⟩
  · simp only [Lib.uintTupleM] at hU0
    have hU := Lib.hid hU0
    clear hU0 hle
    go_enter Tryd.func107, Tryd.ntmps107
    go_wp2_with (go_at_call 112; refine (hU.out).mono ?_; rintro e w1 ⟨rfl, hb1⟩)
    go_wp2
    go_ret2
    exact ⟨by first | rfl | (simp only [hmin]; rfl), hb1⟩

set_option maxHeartbeats 8000000 in
set_option maxRecDepth 100000 in
theorem pi16 (s : ByteArray) (hne : 0 < s.size) (hmax : s.size ≤ 9223372036854775806) (w : World) :
    Calls Tryd.prog 107 #[.string s, .int .i64 0, .int .i64 16] w fun e w' => e = .returned (intTup 162 (piE 65535 32768 s.data.toList)) ∧ Below w.heap.size w w' := by
  have hemp : s.toList.isEmpty = false := by
    rw [← decide_eq_emptyBytes]
    exact decide_eq_false (fun h => by rw [h] at hne; exact absurd hne (by decide))
  have hL := drop_at hne
  rw [List.drop_zero] at hL
  have hq2 : ∀ W, (binOp .neq 73 (.iface 162 (.int .i64 2)) (.iface 162 (.int .i64 1))).run Tryd.prog W = .ok (.bool true) W := fun W => Lib.run_neq_iface_int W 2 1 Tryd.underlying73 (by kernel_rfl) Tryd.underlying162
  have hq1 : ∀ W, (binOp .neq 73 (.iface 162 (.int .i64 1)) (.iface 162 (.int .i64 1))).run Tryd.prog W = .ok (.bool false) W := fun W => Lib.run_neq_iface_int W 1 1 Tryd.underlying73 (by kernel_rfl) Tryd.underlying162
  have hmin : wrap64 (-wrap64 32768) = -32768 := by
    unfold wrap64
    omega
  have hmv : IntKind.u64.wrap (IntKind.u64.wrap (2 ^ 16) - 1) = ((65535 : Nat) : Int) := by
    rw [IntKind.wrap_u64, IntKind.wrap_u64]
    decide
  by_cases h43 : s[0].toNat = 43
  · have hp : piE 65535 32768 s.data.toList = plusE 32768 (puV 65535 (s.data.toList.drop 1)) := by rw [hL, piE, if_pos h43]; rfl
    have b43 : ((s[0].toNat : Int) == 43) = true := by rw [h43]; rfl
    have hsl : ∀ W, (Instr.slice 9 (.string s) (some (.int .i64 1)) none none).run Tryd.prog W = .ok (.string (s.extract 1 s.size)) W := fun W => by rw [run_slice_string_l (P := Tryd.prog) W 9 s Tryd.underlying9 .i64 1 (by omega) (by omega)]; rfl
    have htl : (s.extract 1 s.size).data.toList = s.data.toList.drop 1 := by rw [extract_list, ← size_len s, List.take_length]
    have hts : (s.extract 1 s.size).size ≤ s.size := by simp only [ByteArray.size_extract]; omega
    generalize s.extract 1 s.size = t at hsl htl hts
    have hU0 := inner_any t (by omega) 16 65535 (by omega) (by omega) hmv w
    have hle := fun n h => puV_le (M := 65535) (l := s.data.toList.drop 1) (n := n) h
    rw [htl] at hU0
    rw [hp]
    generalize puV 65535 (s.data.toList.drop 1) = r at hU0 hle
    clear hL hp
    rcases r with u | _ | _
    · have hu := hle u rfl
      obtain ⟨a, ha⟩ : ∃ a : Int, a = (u : Int) := ⟨_, rfl⟩
      simp only [Lib.uintTupleM] at hU0
      rw [← ha] at hU0
      have hU := Lib.hid hU0
      clear hU0 hle
      have a0 : 0 ≤ a := by omega
      have a1 : a ≤ 65535 := by omega
      by_cases hout : 32768 ≤ u
      · have hres : plusE 32768 (.ok u) = (.range, 32767) := by simp only [plusE]; rw [if_neg (by omega)]; rfl
        rw [hres]; have iout : 32768 ≤ a := by omega
        clear hres hout hu ha
        go_enter Tryd.func107, Tryd.ntmps107
        go_wp2_with (go_at_call 112; refine (hU.out).mono ?_; rintro e w1 ⟨rfl, hb1⟩)
        go_wp2
        go_ret2
        exact ⟨by first | rfl | (simp only [hmin]; rfl), hb1⟩
      · have hres : plusE 32768 (.ok u) = (.ok a, 0) := by simp only [plusE]; rw [if_pos (by omega), ha]
        rw [hres]; have iin : a < 32768 := by omega
        clear hres hout hu ha
        go_enter Tryd.func107, Tryd.ntmps107
        go_wp2_with (go_at_call 112; refine (hU.out).mono ?_; rintro e w1 ⟨rfl, hb1⟩)
        go_wp2
        go_ret2
        exact ⟨by first | rfl | (simp only [intTup]; congr 4; unfold wrap64; omega), hb1⟩
    · simp only [Lib.uintTupleM] at hU0
      have hU := Lib.hid hU0
      clear hU0 hle
      go_enter Tryd.func107, Tryd.ntmps107
      go_wp2_with (go_at_call 112; refine (hU.out).mono ?_; rintro e w1 ⟨rfl, hb1⟩)
      go_wp2
      go_ret2
      exact ⟨rfl, hb1⟩
    · simp only [Lib.uintTupleM] at hU0
      have hU := Lib.hid hU0
      clear hU0 hle
      go_enter Tryd.func107, Tryd.ntmps107
      go_wp2_with (go_at_call 112; refine (hU.out).mono ?_; rintro e w1 ⟨rfl, hb1⟩)
      go_wp2
      go_ret2
      exact ⟨by first | rfl | (simp only [hmin]; rfl), hb1⟩
  by_cases h45 : s[0].toNat = 45
  · have hp : piE 65535 32768 s.data.toList = minusE 32768 (puV 65535 (s.data.toList.drop 1)) := by rw [hL, piE, if_neg h43, if_pos h45]; rfl
    have b43 : ((s[0].toNat : Int) == 43) = false := by rw [h45]; rfl
    have b45 : ((s[0].toNat : Int) == 45) = true := by rw [h45]; rfl
    have hsl : ∀ W, (Instr.slice 9 (.string s) (some (.int .i64 1)) none none).run Tryd.prog W = .ok (.string (s.extract 1 s.size)) W := fun W => by rw [run_slice_string_l (P := Tryd.prog) W 9 s Tryd.underlying9 .i64 1 (by omega) (by omega)]; rfl
    have htl : (s.extract 1 s.size).data.toList = s.data.toList.drop 1 := by rw [extract_list, ← size_len s, List.take_length]
    have hts : (s.extract 1 s.size).size ≤ s.size := by simp only [ByteArray.size_extract]; omega
    generalize s.extract 1 s.size = t at hsl htl hts
    have hU0 := inner_any t (by omega) 16 65535 (by omega) (by omega) hmv w
    have hle := fun n h => puV_le (M := 65535) (l := s.data.toList.drop 1) (n := n) h
    rw [htl] at hU0
    rw [hp]
    generalize puV 65535 (s.data.toList.drop 1) = r at hU0 hle
    clear hL hp
    rcases r with u | _ | _
    · have hu := hle u rfl
      obtain ⟨a, ha⟩ : ∃ a : Int, a = (u : Int) := ⟨_, rfl⟩
      simp only [Lib.uintTupleM] at hU0
      rw [← ha] at hU0
      have hU := Lib.hid hU0
      clear hU0 hle
      have a0 : 0 ≤ a := by omega
      have a1 : a ≤ 65535 := by omega
      by_cases hout : 32768 < u
      · have hres : minusE 32768 (.ok u) = (.range, -32768) := by simp only [minusE]; rw [if_neg (by omega)]; rfl
        rw [hres]; have iout : 32768 < a := by omega
        clear hres hout hu ha
        go_enter Tryd.func107, Tryd.ntmps107
        go_wp2_with (go_at_call 112; refine (hU.out).mono ?_; rintro e w1 ⟨rfl, hb1⟩)
        go_wp2
        go_ret2
        exact ⟨by first | rfl | (simp only [hmin]; rfl), hb1⟩
      · have hres : minusE 32768 (.ok u) = (.ok (-a), 0) := by simp only [minusE]; rw [if_pos (by omega), ha]
        rw [hres]; have iin : a ≤ 32768 := by omega
        clear hres hout hu ha
        go_enter Tryd.func107, Tryd.ntmps107
        go_wp2_with (go_at_call 112; refine (hU.out).mono ?_; rintro e w1 ⟨rfl, hb1⟩)
        go_wp2
        go_ret2
        exact ⟨by first | rfl | (simp only [intTup]; congr 4; unfold wrap64; omega), hb1⟩
    · simp only [Lib.uintTupleM] at hU0
      have hU := Lib.hid hU0
      clear hU0 hle
      go_enter Tryd.func107, Tryd.ntmps107
      go_wp2_with (go_at_call 112; refine (hU.out).mono ?_; rintro e w1 ⟨rfl, hb1⟩)
      go_wp2
      go_ret2
      exact ⟨rfl, hb1⟩
    · simp only [Lib.uintTupleM] at hU0
      have hU := Lib.hid hU0
      clear hU0 hle
      go_enter Tryd.func107, Tryd.ntmps107
      go_wp2_with (go_at_call 112; refine (hU.out).mono ?_; rintro e w1 ⟨rfl, hb1⟩)
      go_wp2
      go_ret2
      exact ⟨by first | rfl | (simp only [hmin]; rfl), hb1⟩
  have hp : piE 65535 32768 s.data.toList = plusE 32768 (puV 65535 s.data.toList) := by rw [hL, piE, if_neg h43, if_neg h45]
  have b43 : ((s[0].toNat : Int) == 43) = false := beq_false_of_ne (by omega)
  have b45 : ((s[0].toNat : Int) == 45) = false := beq_false_of_ne (by omega)
  have hU0 := inner_any s (by omega) 16 65535 (by omega) (by omega) hmv w
  have hle := fun n h => puV_le (M := 65535) (l := s.data.toList) (n := n) h
  rw [hp]
  generalize puV 65535 (s.data.toList) = r at hU0 hle
  clear hL hp
  rcases r with u | _ | _
  · have hu := hle u rfl
    obtain ⟨a, ha⟩ : ∃ a : Int, a = (u : Int) := ⟨_, rfl⟩
    simp only [Lib.uintTupleM] at hU0
    rw [← ha] at hU0
    have hU := Lib.hid hU0
    clear hU0 hle
    have a0 : 0 ≤ a := by omega
    have a1 : a ≤ 65535 := by omega
    by_cases hout : 32768 ≤ u
    · have hres : plusE 32768 (.ok u) = (.range, 32767) := by simp only [plusE]; rw [if_neg (by omega)]; rfl
      rw [hres]; have iout : 32768 ≤ a := by omega
      clear hres hout hu ha
      go_enter Tryd.func107, Tryd.ntmps107
      go_wp2_with (go_at_call 112; refine (hU.out).mono ?_; rintro e w1 ⟨rfl, hb1⟩)
      go_wp2
      go_ret2
      exact ⟨by first | rfl | (simp only [hmin]; rfl), hb1⟩
    · have hres : plusE 32768 (.ok u) = (.ok a, 0) := by simp only [plusE]; rw [if_pos (by omega), ha]
      rw [hres]; have iin : a < 32768 := by omega
      clear hres hout hu ha
      go_enter Tryd.func107, Tryd.ntmps107
      go_wp2_with (go_at_call 112; refine (hU.out).mono ?_; rintro e w1 ⟨rfl, hb1⟩)
      go_wp2
      go_ret2
      exact ⟨by first | rfl | (simp only [intTup]; congr 4; unfold wrap64; omega), hb1⟩
  · simp only [Lib.uintTupleM] at hU0
    have hU := Lib.hid hU0
    clear hU0 hle
    go_enter Tryd.func107, Tryd.ntmps107
    go_wp2_with (go_at_call 112; refine (hU.out).mono ?_; rintro e w1 ⟨rfl, hb1⟩)
    go_wp2
    go_ret2
    exact ⟨rfl, hb1⟩
  · simp only [Lib.uintTupleM] at hU0
    have hU := Lib.hid hU0
    clear hU0 hle
    go_enter Tryd.func107, Tryd.ntmps107
    go_wp2_with (go_at_call 112; refine (hU.out).mono ?_; rintro e w1 ⟨rfl, hb1⟩)
    go_wp2
    go_ret2
    exact ⟨by first | rfl | (simp only [hmin]; rfl), hb1⟩

set_option maxHeartbeats 8000000 in
set_option maxRecDepth 100000 in
theorem pi32 (s : ByteArray) (hne : 0 < s.size) (hmax : s.size ≤ 9223372036854775806) (w : World) :
    Calls Tryd.prog 107 #[.string s, .int .i64 0, .int .i64 32] w fun e w' => e = .returned (intTup 162 (piE 4294967295 2147483648 s.data.toList)) ∧ Below w.heap.size w w' := by
  have hemp : s.toList.isEmpty = false := by
    rw [← decide_eq_emptyBytes]
    exact decide_eq_false (fun h => by rw [h] at hne; exact absurd hne (by decide))
  have hL := drop_at hne
  rw [List.drop_zero] at hL
  have hq2 : ∀ W, (binOp .neq 73 (.iface 162 (.int .i64 2)) (.iface 162 (.int .i64 1))).run Tryd.prog W = .ok (.bool true) W := fun W => Lib.run_neq_iface_int W 2 1 Tryd.underlying73 (by kernel_rfl) Tryd.underlying162
  have hq1 : ∀ W, (binOp .neq 73 (.iface 162 (.int .i64 1)) (.iface 162 (.int .i64 1))).run Tryd.prog W = .ok (.bool false) W := fun W => Lib.run_neq_iface_int W 1 1 Tryd.underlying73 (by kernel_rfl) Tryd.underlying162
  have hmin : wrap64 (-wrap64 2147483648) = -2147483648 := by
    unfold wrap64
    omega
  have hmv : IntKind.u64.wrap (IntKind.u64.wrap (2 ^ 32) - 1) = ((4294967295 : Nat) : Int) := by
    rw [IntKind.wrap_u64, IntKind.wrap_u64]
    decide
  by_cases h43 : s[0].toNat = 43
  · have hp : piE 4294967295 2147483648 s.data.toList = plusE 2147483648 (puV 4294967295 (s.data.toList.drop 1)) := by rw [hL, piE, if_pos h43]; rfl
    have b43 : ((s[0].toNat : Int) == 43) = true := by rw [h43]; rfl
    have hsl : ∀ W, (Instr.slice 9 (.string s) (some (.int .i64 1)) none none).run Tryd.prog W = .ok (.string (s.extract 1 s.size)) W := fun W => by rw [run_slice_string_l (P := Tryd.prog) W 9 s Tryd.underlying9 .i64 1 (by omega) (by omega)]; rfl
    have htl : (s.extract 1 s.size).data.toList = s.data.toList.drop 1 := by rw [extract_list, ← size_len s, List.take_length]
    have hts : (s.extract 1 s.size).size ≤ s.size := by simp only [ByteArray.size_extract]; omega
    generalize s.extract 1 s.size = t at hsl htl hts
    have hU0 := inner_any t (by omega) 32 4294967295 (by omega) (by omega) hmv w
    have hle := fun n h => puV_le (M := 4294967295) (l := s.data.toList.drop 1) (n := n) h
    rw [htl] at hU0
    rw [hp]
    generalize puV 4294967295 (s.data.toList.drop 1) = r at hU0 hle
    clear hL hp
    rcases r with u | _ | _
    · have hu := hle u rfl
      obtain ⟨a, ha⟩ : ∃ a : Int, a = (u : Int) := ⟨_, rfl⟩
      simp only [Lib.uintTupleM] at hU0
      rw [← ha] at hU0
      have hU := Lib.hid hU0
      clear hU0 hle
      have a0 : 0 ≤ a := by omega
      have a1 : a ≤ 4294967295 := by omega
      by_cases hout : 2147483648 ≤ u
      · have hres : plusE 2147483648 (.ok u) = (.range, 2147483647) := by simp only [plusE]; rw [if_neg (by omega)]; rfl
        rw [hres]; have iout : 2147483648 ≤ a := by omega
        clear hres hout hu ha
        go_enter Tryd.func107, Tryd.ntmps107
        go_wp2_with (go_at_call 112; refine (hU.out).mono ?_; rintro e w1 ⟨rfl, hb1⟩)
        go_wp2
        go_ret2
        exact ⟨by first | rfl | (simp only [hmin]; rfl), hb1⟩
      · have hres : plusE 2147483648 (.ok u) = (.ok a, 0) := by simp only [plusE]; rw [if_pos (by omega), ha]
        rw [hres]; have iin : a < 2147483648 := by omega
        clear hres hout hu ha
        go_enter Tryd.func107, Tryd.ntmps107
        go_wp2_with (go_at_call 112; refine (hU.out).mono ?_; rintro e w1 ⟨rfl, hb1⟩)
        go_wp2
        go_ret2
        exact ⟨by first | rfl | (simp only [intTup]; congr 4; unfold wrap64; omega), hb1⟩
    · simp only [Lib.uintTupleM] at hU0
      have hU := Lib.hid hU0
      clear hU0 hle
      go_enter Tryd.func107, Tryd.ntmps107
      go_wp2_with (go_at_call 112; refine (hU.out).mono ?_; rintro e w1 ⟨rfl, hb1⟩)
      go_wp2
      go_ret2
      exact ⟨rfl, hb1⟩
    · simp only [Lib.uintTupleM] at hU0
      have hU := Lib.hid hU0
      clear hU0 hle
      go_enter Tryd.func107, Tryd.ntmps107
      go_wp2_with (go_at_call 112; refine (hU.out).mono ?_; rintro e w1 ⟨rfl, hb1⟩)
      go_wp2
      go_ret2
      exact ⟨by first | rfl | (simp only [hmin]; rfl), hb1⟩
  by_cases h45 : s[0].toNat = 45
  · have hp : piE 4294967295 2147483648 s.data.toList = minusE 2147483648 (puV 4294967295 (s.data.toList.drop 1)) := by rw [hL, piE, if_neg h43, if_pos h45]; rfl
    have b43 : ((s[0].toNat : Int) == 43) = false := by rw [h45]; rfl
    have b45 : ((s[0].toNat : Int) == 45) = true := by rw [h45]; rfl
    have hsl : ∀ W, (Instr.slice 9 (.string s) (some (.int .i64 1)) none none).run Tryd.prog W = .ok (.string (s.extract 1 s.size)) W := fun W => by rw [run_slice_string_l (P := Tryd.prog) W 9 s Tryd.underlying9 .i64 1 (by omega) (by omega)]; rfl
    have htl : (s.extract 1 s.size).data.toList = s.data.toList.drop 1 := by rw [extract_list, ← size_len s, List.take_length]
    have hts : (s.extract 1 s.size).size ≤ s.size := by simp only [ByteArray.size_extract]; omega
    generalize s.extract 1 s.size = t at hsl htl hts
    have hU0 := inner_any t (by omega) 32 4294967295 (by omega) (by omega) hmv w
    have hle := fun n h => puV_le (M := 4294967295) (l := s.data.toList.drop 1) (n := n) h
    rw [htl] at hU0
    rw [hp]
    generalize puV 4294967295 (s.data.toList.drop 1) = r at hU0 hle
    clear hL hp
    rcases r with u | _ | _
    · have hu := hle u rfl
      obtain ⟨a, ha⟩ : ∃ a : Int, a = (u : Int) := ⟨_, rfl⟩
      simp only [Lib.uintTupleM] at hU0
      rw [← ha] at hU0
      have hU := Lib.hid hU0
      clear hU0 hle
      have a0 : 0 ≤ a := by omega
      have a1 : a ≤ 4294967295 := by omega
      by_cases hout : 2147483648 < u
      · have hres : minusE 2147483648 (.ok u) = (.range, -2147483648) := by simp only [minusE]; rw [if_neg (by omega)]; rfl
        rw [hres]; have iout : 2147483648 < a := by omega
        clear hres hout hu ha
        go_enter Tryd.func107, Tryd.ntmps107
        go_wp2_with (go_at_call 112; refine (hU.out).mono ?_; rintro e w1 ⟨rfl, hb1⟩)
        go_wp2
        go_ret2
        exact ⟨by first | rfl | (simp only [hmin]; rfl), hb1⟩
      · have hres : minusE 2147483648 (.ok u) = (.ok (-a), 0) := by simp only [minusE]; rw [if_pos (by omega), ha]
        rw [hres]; have iin : a ≤ 2147483648 := by omega
        clear hres hout hu ha
        go_enter Tryd.func107, Tryd.ntmps107
        go_wp2_with (go_at_call 112; refine (hU.out).mono ?_; rintro e w1 ⟨rfl, hb1⟩)
        go_wp2
        go_ret2
        exact ⟨by first | rfl | (simp only [intTup]; congr 4; unfold wrap64; omega), hb1⟩
    · simp only [Lib.uintTupleM] at hU0
      have hU := Lib.hid hU0
      clear hU0 hle
      go_enter Tryd.func107, Tryd.ntmps107
      go_wp2_with (go_at_call 112; refine (hU.out).mono ?_; rintro e w1 ⟨rfl, hb1⟩)
      go_wp2
      go_ret2
      exact ⟨rfl, hb1⟩
    · simp only [Lib.uintTupleM] at hU0
      have hU := Lib.hid hU0
      clear hU0 hle
      go_enter Tryd.func107, Tryd.ntmps107
      go_wp2_with (go_at_call 112; refine (hU.out).mono ?_; rintro e w1 ⟨rfl, hb1⟩)
      go_wp2
      go_ret2
      exact ⟨by first | rfl | (simp only [hmin]; rfl), hb1⟩
  have hp : piE 4294967295 2147483648 s.data.toList = plusE 2147483648 (puV 4294967295 s.data.toList) := by rw [hL, piE, if_neg h43, if_neg h45]
  have b43 : ((s[0].toNat : Int) == 43) = false := beq_false_of_ne (by omega)
  have b45 : ((s[0].toNat : Int) == 45) = false := beq_false_of_ne (by omega)
  have hU0 := inner_any s (by omega) 32 4294967295 (by omega) (by omega) hmv w
  have hle := fun n h => puV_le (M := 4294967295) (l := s.data.toList) (n := n) h
  rw [hp]
  generalize puV 4294967295 (s.data.toList) = r at hU0 hle
  clear hL hp
  rcases r with u | _ | _
  · have hu := hle u rfl
    obtain ⟨a, ha⟩ : ∃ a : Int, a = (u : Int) := ⟨_, rfl⟩
    simp only [Lib.uintTupleM] at hU0
    rw [← ha] at hU0
    have hU := Lib.hid hU0
    clear hU0 hle
    have a0 : 0 ≤ a := by omega
    have a1 : a ≤ 4294967295 := by omega
    by_cases hout : 2147483648 ≤ u
    · have hres : plusE 2147483648 (.ok u) = (.range, 2147483647) := by simp only [plusE]; rw [if_neg (by omega)]; rfl
      rw [hres]; have iout : 2147483648 ≤ a := by omega
      clear hres hout hu ha
      go_enter Tryd.func107, Tryd.ntmps107
      go_wp2_with (go_at_call 112; refine (hU.out).mono ?_; rintro e w1 ⟨rfl, hb1⟩)
      go_wp2
      go_ret2
      exact ⟨by first | rfl | (simp only [hmin]; rfl), hb1⟩
    · have hres : plusE 2147483648 (.ok u) = (.ok a, 0) := by simp only [plusE]; rw [if_pos (by omega), ha]
      rw [hres]; have iin : a < 2147483648 := by omega
      clear hres hout hu ha
      go_enter Tryd.func107, Tryd.ntmps107
      go_wp2_with (go_at_call 112; refine (hU.out).mono ?_; rintro e w1 ⟨rfl, hb1⟩)
      go_wp2
      go_ret2
      exact ⟨by first | rfl | (simp only [intTup]; congr 4; unfold wrap64; omega), hb1⟩
  · simp only [Lib.uintTupleM] at hU0
    have hU := Lib.hid hU0
    clear hU0 hle
    go_enter Tryd.func107, Tryd.ntmps107
    go_wp2_with (go_at_call 112; refine (hU.out).mono ?_; rintro e w1 ⟨rfl, hb1⟩)
    go_wp2
    go_ret2
    exact ⟨rfl, hb1⟩
  · simp only [Lib.uintTupleM] at hU0
    have hU := Lib.hid hU0
    clear hU0 hle
    go_enter Tryd.func107, Tryd.ntmps107
    go_wp2_with (go_at_call 112; refine (hU.out).mono ?_; rintro e w1 ⟨rfl, hb1⟩)
    go_wp2
    go_ret2
    exact ⟨by first | rfl | (simp only [hmin]; rfl), hb1⟩

set_option maxHeartbeats 8000000 in
set_option maxRecDepth 100000 in
theorem pi64 (s : ByteArray) (hne : 0 < s.size) (hmax : s.size ≤ 9223372036854775806) (w : World) :
    Calls Tryd.prog 107 #[.string s, .int .i64 0, .int .i64 64] w fun e w' => e = .returned (intTup 162 (piE 18446744073709551615 9223372036854775808 s.data.toList)) ∧ Below w.heap.size w w' := by
  have hemp : s.toList.isEmpty = false := by
    rw [← decide_eq_emptyBytes]
    exact decide_eq_false (fun h => by rw [h] at hne; exact absurd hne (by decide))
  have hL := drop_at hne
  rw [List.drop_zero] at hL
  have hq2 : ∀ W, (binOp .neq 73 (.iface 162 (.int .i64 2)) (.iface 162 (.int .i64 1))).run Tryd.prog W = .ok (.bool true) W := fun W => Lib.run_neq_iface_int W 2 1 Tryd.underlying73 (by kernel_rfl) Tryd.underlying162
  have hq1 : ∀ W, (binOp .neq 73 (.iface 162 (.int .i64 1)) (.iface 162 (.int .i64 1))).run Tryd.prog W = .ok (.bool false) W := fun W => Lib.run_neq_iface_int W 1 1 Tryd.underlying73 (by kernel_rfl) Tryd.underlying162
  have hmin : wrap64 (-wrap64 9223372036854775808) = -9223372036854775808 := by
    unfold wrap64
    omega
  have hmv : IntKind.u64.wrap (IntKind.u64.wrap (2 ^ 64) - 1) = ((18446744073709551615 : Nat) : Int) := by
    rw [IntKind.wrap_u64, IntKind.wrap_u64]
    decide
  by_cases h43 : s[0].toNat = 43
  · have hp : piE 18446744073709551615 9223372036854775808 s.data.toList = plusE 9223372036854775808 (puV 18446744073709551615 (s.data.toList.drop 1)) := by rw [hL, piE, if_pos h43]; rfl
    have b43 : ((s[0].toNat : Int) == 43) = true := by rw [h43]; rfl
    have hsl : ∀ W, (Instr.slice 9 (.string s) (some (.int .i64 1)) none none).run Tryd.prog W = .ok (.string (s.extract 1 s.size)) W := fun W => by rw [run_slice_string_l (P := Tryd.prog) W 9 s Tryd.underlying9 .i64 1 (by omega) (by omega)]; rfl
    have htl : (s.extract 1 s.size).data.toList = s.data.toList.drop 1 := by rw [extract_list, ← size_len s, List.take_length]
    have hts : (s.extract 1 s.size).size ≤ s.size := by simp only [ByteArray.size_extract]; omega
    generalize s.extract 1 s.size = t at hsl htl hts
    have hU0 := inner_any t (by omega) 64 18446744073709551615 (by omega) (by omega) hmv w
    have hle := fun n h => puV_le (M := 18446744073709551615) (l := s.data.toList.drop 1) (n := n) h
    rw [htl] at hU0
    rw [hp]
    generalize puV 18446744073709551615 (s.data.toList.drop 1) = r at hU0 hle
    clear hL hp
    rcases r with u | _ | _
    · have hu := hle u rfl
      obtain ⟨a, ha⟩ : ∃ a : Int, a = (u : Int) := ⟨_, rfl⟩
      simp only [Lib.uintTupleM] at hU0
      rw [← ha] at hU0
      have hU := Lib.hid hU0
      clear hU0 hle
      have a0 : 0 ≤ a := by omega
      have a1 : a ≤ 18446744073709551615 := by omega
      by_cases hout : 9223372036854775808 ≤ u
      · have hres : plusE 9223372036854775808 (.ok u) = (.range, 9223372036854775807) := by simp only [plusE]; rw [if_neg (by omega)]; rfl
        rw [hres]; have iout : 9223372036854775808 ≤ a := by omega
        clear hres hout hu ha
        go_enter Tryd.func107, Tryd.ntmps107
        go_wp2_with (go_at_call 112; refine (hU.out).mono ?_; rintro e w1 ⟨rfl, hb1⟩)
        go_wp2
        go_ret2
        exact ⟨by first | rfl | (simp only [hmin]; rfl), hb1⟩
      · have hres : plusE 9223372036854775808 (.ok u) = (.ok a, 0) := by simp only [plusE]; rw [if_pos (by omega), ha]
        rw [hres]; have iin : a < 9223372036854775808 := by omega
        clear hres hout hu ha
        go_enter Tryd.func107, Tryd.ntmps107
        go_wp2_with (go_at_call 112; refine (hU.out).mono ?_; rintro e w1 ⟨rfl, hb1⟩)
        go_wp2
        go_ret2
        exact ⟨by first | rfl | (simp only [intTup]; congr 4; unfold wrap64; omega), hb1⟩
    · simp only [Lib.uintTupleM] at hU0
      have hU := Lib.hid hU0
      clear hU0 hle
      go_enter Tryd.func107, Tryd.ntmps107
      go_wp2_with (go_at_call 112; refine (hU.out).mono ?_; rintro e w1 ⟨rfl, hb1⟩)
      go_wp2
      go_ret2
      exact ⟨rfl, hb1⟩
    · simp only [Lib.uintTupleM] at hU0
      have hU := Lib.hid hU0
      clear hU0 hle
      go_enter Tryd.func107, Tryd.ntmps107
      go_wp2_with (go_at_call 112; refine (hU.out).mono ?_; rintro e w1 ⟨rfl, hb1⟩)
      go_wp2
      go_ret2
      exact ⟨by first | rfl | (simp only [hmin]; rfl), hb1⟩
  by_cases h45 : s[0].toNat = 45
  · have hp : piE 18446744073709551615 9223372036854775808 s.data.toList = minusE 9223372036854775808 (puV 18446744073709551615 (s.data.toList.drop 1)) := by rw [hL, piE, if_neg h43, if_pos h45]; rfl
    have b43 : ((s[0].toNat : Int) == 43) = false := by rw [h45]; rfl
    have b45 : ((s[0].toNat : Int) == 45) = true := by rw [h45]; rfl
    have hsl : ∀ W, (Instr.slice 9 (.string s) (some (.int .i64 1)) none none).run Tryd.prog W = .ok (.string (s.extract 1 s.size)) W := fun W => by rw [run_slice_string_l (P := Tryd.prog) W 9 s Tryd.underlying9 .i64 1 (by omega) (by omega)]; rfl
    have htl : (s.extract 1 s.size).data.toList = s.data.toList.drop 1 := by rw [extract_list, ← size_len s, List.take_length]
    have hts : (s.extract 1 s.size).size ≤ s.size := by simp only [ByteArray.size_extract]; omega
    generalize s.extract 1 s.size = t at hsl htl hts
    have hU0 := inner_any t (by omega) 64 18446744073709551615 (by omega) (by omega) hmv w
    have hle := fun n h => puV_le (M := 18446744073709551615) (l := s.data.toList.drop 1) (n := n) h
    rw [htl] at hU0
    rw [hp]
    generalize puV 18446744073709551615 (s.data.toList.drop 1) = r at hU0 hle
    clear hL hp
    rcases r with u | _ | _
    · have hu := hle u rfl
      obtain ⟨a, ha⟩ : ∃ a : Int, a = (u : Int) := ⟨_, rfl⟩
      simp only [Lib.uintTupleM] at hU0
      rw [← ha] at hU0
      have hU := Lib.hid hU0
      clear hU0 hle
      have a0 : 0 ≤ a := by omega
      have a1 : a ≤ 18446744073709551615 := by omega
      by_cases hout : 9223372036854775808 < u
      · have hres : minusE 9223372036854775808 (.ok u) = (.range, -9223372036854775808) := by simp only [minusE]; rw [if_neg (by omega)]; rfl
        rw [hres]; have iout : 9223372036854775808 < a := by omega
        clear hres hout hu ha
        go_enter Tryd.func107, Tryd.ntmps107
        go_wp2_with (go_at_call 112; refine (hU.out).mono ?_; rintro e w1 ⟨rfl, hb1⟩)
        go_wp2
        go_ret2
        exact ⟨by first | rfl | (simp only [hmin]; rfl), hb1⟩
      · have hres : minusE 9223372036854775808 (.ok u) = (.ok (-a), 0) := by simp only [minusE]; rw [if_pos (by omega), ha]
        rw [hres]; have iin : a ≤ 9223372036854775808 := by omega
        by_cases hc : a = 9223372036854775808
        · have hc2 : u = 9223372036854775808 := by omega
          clear hres hout hu ha
          subst hc
          go_enter Tryd.func107, Tryd.ntmps107
          go_wp2_with (go_at_call 112; refine (hU.out).mono ?_; rintro e w1 ⟨rfl, hb1⟩)
          go_wp2
          go_ret2
          exact ⟨by first | rfl | (simp only [hmin]; rfl), hb1⟩
        replace iin : a < 9223372036854775808 := by omega
        clear hres hout hu ha
        go_enter Tryd.func107, Tryd.ntmps107
        go_wp2_with (go_at_call 112; refine (hU.out).mono ?_; rintro e w1 ⟨rfl, hb1⟩)
        go_wp2
        go_ret2
        exact ⟨by first | rfl | (simp only [intTup]; congr 4; unfold wrap64; omega), hb1⟩
    · simp only [Lib.uintTupleM] at hU0
      have hU := Lib.hid hU0
      clear hU0 hle
      go_enter Tryd.func107, Tryd.ntmps107
      go_wp2_with (go_at_call 112; refine (hU.out).mono ?_; rintro e w1 ⟨rfl, hb1⟩)
      go_wp2
      go_ret2
      exact ⟨rfl, hb1⟩
    · simp only [Lib.uintTupleM] at hU0
      have hU := Lib.hid hU0
      clear hU0 hle
      go_enter Tryd.func107, Tryd.ntmps107
      go_wp2_with (go_at_call 112; refine (hU.out).mono ?_; rintro e w1 ⟨rfl, hb1⟩)
      go_wp2
      go_ret2
      exact ⟨by first | rfl | (simp only [hmin]; rfl), hb1⟩
  have hp : piE 18446744073709551615 9223372036854775808 s.data.toList = plusE 9223372036854775808 (puV 18446744073709551615 s.data.toList) := by rw [hL, piE, if_neg h43, if_neg h45]
  have b43 : ((s[0].toNat : Int) == 43) = false := beq_false_of_ne (by omega)
  have b45 : ((s[0].toNat : Int) == 45) = false := beq_false_of_ne (by omega)
  have hU0 := inner_any s (by omega) 64 18446744073709551615 (by omega) (by omega) hmv w
  have hle := fun n h => puV_le (M := 18446744073709551615) (l := s.data.toList) (n := n) h
  rw [hp]
  generalize puV 18446744073709551615 (s.data.toList) = r at hU0 hle
  clear hL hp
  rcases r with u | _ | _
  · have hu := hle u rfl
    obtain ⟨a, ha⟩ : ∃ a : Int, a = (u : Int) := ⟨_, rfl⟩
    simp only [Lib.uintTupleM] at hU0
    rw [← ha] at hU0
    have hU := Lib.hid hU0
    clear hU0 hle
    have a0 : 0 ≤ a := by omega
    have a1 : a ≤ 18446744073709551615 := by omega
    by_cases hout : 9223372036854775808 ≤ u
    · have hres : plusE 9223372036854775808 (.ok u) = (.range, 9223372036854775807) := by simp only [plusE]; rw [if_neg (by omega)]; rfl
      rw [hres]; have iout : 9223372036854775808 ≤ a := by omega
      clear hres hout hu ha
      go_enter Tryd.func107, Tryd.ntmps107
      go_wp2_with (go_at_call 112; refine (hU.out).mono ?_; rintro e w1 ⟨rfl, hb1⟩)
      go_wp2
      go_ret2
      exact ⟨by first | rfl | (simp only [hmin]; rfl), hb1⟩
    · have hres : plusE 9223372036854775808 (.ok u) = (.ok a, 0) := by simp only [plusE]; rw [if_pos (by omega), ha]
      rw [hres]; have iin : a < 9223372036854775808 := by omega
      clear hres hout hu ha
      go_enter Tryd.func107, Tryd.ntmps107
      go_wp2_with (go_at_call 112; refine (hU.out).mono ?_; rintro e w1 ⟨rfl, hb1⟩)
      go_wp2
      go_ret2
      exact ⟨by first | rfl | (simp only [intTup]; congr 4; unfold wrap64; omega), hb1⟩
  · simp only [Lib.uintTupleM] at hU0
    have hU := Lib.hid hU0
    clear hU0 hle
    go_enter Tryd.func107, Tryd.ntmps107
    go_wp2_with (go_at_call 112; refine (hU.out).mono ?_; rintro e w1 ⟨rfl, hb1⟩)
    go_wp2
    go_ret2
    exact ⟨rfl, hb1⟩
  · simp only [Lib.uintTupleM] at hU0
    have hU := Lib.hid hU0
    clear hU0 hle
    go_enter Tryd.func107, Tryd.ntmps107
    go_wp2_with (go_at_call 112; refine (hU.out).mono ?_; rintro e w1 ⟨rfl, hb1⟩)
    go_wp2
    go_ret2
    exact ⟨by first | rfl | (simp only [hmin]; rfl), hb1⟩

end Go.Proofs.YtdmpeecocfoocaaDoor.E
