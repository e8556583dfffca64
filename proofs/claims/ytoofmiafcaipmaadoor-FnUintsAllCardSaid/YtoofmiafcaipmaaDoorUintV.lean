/- The values of pflag's unsigned integers: new, Set, String, over this seat's program. Written by gen_uintv.py. -/
import Derived.Test.YtoofmiafcaipmaaDoorFmtU
import Derived.Test.YtoofmiafcaipmaaDoorFits2
namespace Go.Proofs.YtoofmiafcaipmaaDoor.E
open Go.RowKit Go.Proofs
open Go.Lib (NumEnd)
set_option linter.unusedVariables false
set_option linter.unusedSimpArgs false

theorem Tryd.infoUS : (Tryd.prog.info? 61).map (fun i => (i.zero, i.size, i.bytes)) = some (some (.agg #[.bool false, .int .u64 0, .string ⟨#[]⟩]), 3, 32) := by kernel_rfl
def uP (M : Nat) (s : ByteArray) : NumEnd Nat := puV M s.data.toList
def uCells (M : Nat) (s : ByteArray) : List Value := [.bool (badU (uP M s)), .int .u64 (gotU M (uP M s)), .string (saidU (gotU M (uP M s)))]
theorem uCells_len (M : Nat) (s : ByteArray) : (uCells M s).length = 3 := rfl


theorem newU_uint (a : Addr) (b u : Int) (w : World) (hc : w.cell? a = some (.int .u64 u)) (hf : w.frozen? a = false) :
    Calls Tryd.prog 99 #[.int .u64 b, .pointer (some a)] w fun e w' => e = .returned (.pointer (some a)) ∧ w' = w.setCell a (.int .u64 b) := by
  go_enter Tryd.func99, Tryd.ntmps99
  go_wp2
  go_ret
  exact ⟨rfl, rfl⟩

theorem zzU_uint (a : Addr) (b u : Int) (w : World) (hc : w.cell? a = some (.int .u64 u)) (hf : w.frozen? a = false) :
    Calls Tryd.prog 66 #[.int .u64 b, .pointer (some a)] w fun e w' => e = .returned (.pointer (some a)) ∧ w' = w.setCell a (.int .u64 b) := by
  go_enter Tryd.func66, Tryd.ntmps66
  go_wp2_with (go_at_call 99; refine (newU_uint a b u _ hc hf).mono ?_; rintro e w' ⟨rfl, rfl⟩)
  go_ret
  exact ⟨rfl, rfl⟩

set_option maxRecDepth 100000 in
theorem stringU_uint (a : Addr) (n : Nat) (h1 : n ≤ 18446744073709551615) (w : World) (hc : w.cell? a = some (.int .u64 n)) (ht : Pow w) :
    Calls Tryd.prog 68 #[.pointer (some a)] w fun e w' => e = .returned (.string (saidU n)) ∧ Below w.heap.size w w' := by
  have H := fun w ht => Lib.hid (formatUPublic n (by omega) w ht)
  have HT := Lib.hid ht
  have n0 : (0 : Int) ≤ (n : Int) := Int.natCast_nonneg _
  have n1 : (n : Int) ≤ 18446744073709551615 := by omega
  clear ht
  go_enter Tryd.func68, Tryd.ntmps68
  go_wp2_with (go_at_call 101; refine ((H _ HT.out).out).mono ?_; rintro e w1 ⟨rfl, hb⟩)
  go_ret
  exact ⟨rfl, hb⟩

set_option maxRecDepth 100000 in
theorem setU_uint (a : Addr) (s : ByteArray) (u : Int) (w : World) (hc : w.cell? a = some (.int .u64 u)) (hf : w.frozen? a = false) (hs : s.size ≤ 281474976710656) (he1 : ErrCell 0 w) (he2 : ErrCell 1 w) :
    Calls Tryd.prog 67 #[.pointer (some a), .string s] w fun e w' => ∃ E w1, e = .returned E ∧ ((badU (uP 18446744073709551615 s) = false ∧ E = .nilIface) ∨ (badU (uP 18446744073709551615 s) = true ∧ ∃ t q, E = .iface t q)) ∧ Below w.heap.size w w1 ∧ w' = w1.setCell a (.int .u64 (gotU 18446744073709551615 (uP 18446744073709551615 s) : Nat)) := by
  have H := Lib.hid (parseUint0 s hs 64 18446744073709551615 (by omega) (by omega) (by decide +kernel) w he1 he2)
  have hi : gotU 18446744073709551615 (uP 18446744073709551615 s) ≤ 18446744073709551615 := gotU_le _
  clear he1 he2
  unfold uP at hi ⊢
  generalize puV 18446744073709551615 s.data.toList = p at H hi ⊢
  unfold UintGot at H
  generalize gotU 18446744073709551615 p = V at H hi ⊢
  generalize badU p = B at H ⊢
  have i1 : (0 : Int) ≤ (V : Int) := Int.natCast_nonneg _
  have i2 : (V : Int) ≤ 18446744073709551615 := by omega
  clear hi
  go_enter Tryd.func67, Tryd.ntmps67
  go_wp2_with (go_at_call 100; refine (H.out).mono ?_; rintro e w1 ⟨E, rfl, hE, hb⟩; have HE := Lib.hid hE; clear hE; have hc1 := cell_kept hb hc; have hf1 := frozen_kept hb hc hf)
  go_ret
  exact ⟨_, w1, rfl, HE.out, hb, by first | rfl | (congr 2; go_num)⟩


theorem newU_uint8 (a : Addr) (b u : Int) (w : World) (hc : w.cell? a = some (.int .u8 u)) (hf : w.frozen? a = false) :
    Calls Tryd.prog 102 #[.int .u8 b, .pointer (some a)] w fun e w' => e = .returned (.pointer (some a)) ∧ w' = w.setCell a (.int .u8 b) := by
  go_enter Tryd.func102, Tryd.ntmps102
  go_wp2
  go_ret
  exact ⟨rfl, rfl⟩

theorem zzU_uint8 (a : Addr) (b u : Int) (w : World) (hc : w.cell? a = some (.int .u8 u)) (hf : w.frozen? a = false) :
    Calls Tryd.prog 69 #[.int .u8 b, .pointer (some a)] w fun e w' => e = .returned (.pointer (some a)) ∧ w' = w.setCell a (.int .u8 b) := by
  go_enter Tryd.func69, Tryd.ntmps69
  go_wp2_with (go_at_call 102; refine (newU_uint8 a b u _ hc hf).mono ?_; rintro e w' ⟨rfl, rfl⟩)
  go_ret
  exact ⟨rfl, rfl⟩

set_option maxRecDepth 100000 in
theorem stringU_uint8 (a : Addr) (n : Nat) (h1 : n ≤ 255) (w : World) (hc : w.cell? a = some (.int .u8 n)) (ht : Pow w) :
    Calls Tryd.prog 71 #[.pointer (some a)] w fun e w' => e = .returned (.string (saidU n)) ∧ Below w.heap.size w w' := by
  have H := fun w ht => Lib.hid (formatUPublic n (by omega) w ht)
  have HT := Lib.hid ht
  have n0 : (0 : Int) ≤ (n : Int) := Int.natCast_nonneg _
  have n1 : (n : Int) ≤ 255 := by omega
  clear ht
  go_enter Tryd.func71, Tryd.ntmps71
  go_wp2_with (go_at_call 101; refine ((H _ HT.out).out).mono ?_; rintro e w1 ⟨rfl, hb⟩)
  go_ret
  exact ⟨rfl, hb⟩

set_option maxRecDepth 100000 in
theorem setU_uint8 (a : Addr) (s : ByteArray) (u : Int) (w : World) (hc : w.cell? a = some (.int .u8 u)) (hf : w.frozen? a = false) (hs : s.size ≤ 281474976710656) (he1 : ErrCell 0 w) (he2 : ErrCell 1 w) :
    Calls Tryd.prog 70 #[.pointer (some a), .string s] w fun e w' => ∃ E w1, e = .returned E ∧ ((badU (uP 255 s) = false ∧ E = .nilIface) ∨ (badU (uP 255 s) = true ∧ ∃ t q, E = .iface t q)) ∧ Below w.heap.size w w1 ∧ w' = w1.setCell a (.int .u8 (gotU 255 (uP 255 s) : Nat)) := by
  have H := Lib.hid (parseUint0 s hs 8 255 (by omega) (by omega) (by decide +kernel) w he1 he2)
  have hi : gotU 255 (uP 255 s) ≤ 255 := gotU_le _
  clear he1 he2
  unfold uP at hi ⊢
  generalize puV 255 s.data.toList = p at H hi ⊢
  unfold UintGot at H
  generalize gotU 255 p = V at H hi ⊢
  generalize badU p = B at H ⊢
  have i1 : (0 : Int) ≤ (V : Int) := Int.natCast_nonneg _
  have i2 : (V : Int) ≤ 255 := by omega
  clear hi
  go_enter Tryd.func70, Tryd.ntmps70
  go_wp2_with (go_at_call 100; refine (H.out).mono ?_; rintro e w1 ⟨E, rfl, hE, hb⟩; have HE := Lib.hid hE; clear hE; have hc1 := cell_kept hb hc; have hf1 := frozen_kept hb hc hf)
  go_ret
  exact ⟨_, w1, rfl, HE.out, hb, by first | rfl | (congr 2; go_num)⟩


theorem newU_uint16 (a : Addr) (b u : Int) (w : World) (hc : w.cell? a = some (.int .u16 u)) (hf : w.frozen? a = false) :
    Calls Tryd.prog 103 #[.int .u16 b, .pointer (some a)] w fun e w' => e = .returned (.pointer (some a)) ∧ w' = w.setCell a (.int .u16 b) := by
  go_enter Tryd.func103, Tryd.ntmps103
  go_wp2
  go_ret
  exact ⟨rfl, rfl⟩

theorem zzU_uint16 (a : Addr) (b u : Int) (w : World) (hc : w.cell? a = some (.int .u16 u)) (hf : w.frozen? a = false) :
    Calls Tryd.prog 72 #[.int .u16 b, .pointer (some a)] w fun e w' => e = .returned (.pointer (some a)) ∧ w' = w.setCell a (.int .u16 b) := by
  go_enter Tryd.func72, Tryd.ntmps72
  go_wp2_with (go_at_call 103; refine (newU_uint16 a b u _ hc hf).mono ?_; rintro e w' ⟨rfl, rfl⟩)
  go_ret
  exact ⟨rfl, rfl⟩

set_option maxRecDepth 100000 in
theorem stringU_uint16 (a : Addr) (n : Nat) (h1 : n ≤ 65535) (w : World) (hc : w.cell? a = some (.int .u16 n)) (ht : Pow w) :
    Calls Tryd.prog 74 #[.pointer (some a)] w fun e w' => e = .returned (.string (saidU n)) ∧ Below w.heap.size w w' := by
  have H := fun w ht => Lib.hid (formatUPublic n (by omega) w ht)
  have HT := Lib.hid ht
  have n0 : (0 : Int) ≤ (n : Int) := Int.natCast_nonneg _
  have n1 : (n : Int) ≤ 65535 := by omega
  clear ht
  go_enter Tryd.func74, Tryd.ntmps74
  go_wp2_with (go_at_call 101; refine ((H _ HT.out).out).mono ?_; rintro e w1 ⟨rfl, hb⟩)
  go_ret
  exact ⟨rfl, hb⟩

set_option maxRecDepth 100000 in
theorem setU_uint16 (a : Addr) (s : ByteArray) (u : Int) (w : World) (hc : w.cell? a = some (.int .u16 u)) (hf : w.frozen? a = false) (hs : s.size ≤ 281474976710656) (he1 : ErrCell 0 w) (he2 : ErrCell 1 w) :
    Calls Tryd.prog 73 #[.pointer (some a), .string s] w fun e w' => ∃ E w1, e = .returned E ∧ ((badU (uP 65535 s) = false ∧ E = .nilIface) ∨ (badU (uP 65535 s) = true ∧ ∃ t q, E = .iface t q)) ∧ Below w.heap.size w w1 ∧ w' = w1.setCell a (.int .u16 (gotU 65535 (uP 65535 s) : Nat)) := by
  have H := Lib.hid (parseUint0 s hs 16 65535 (by omega) (by omega) (by decide +kernel) w he1 he2)
  have hi : gotU 65535 (uP 65535 s) ≤ 65535 := gotU_le _
  clear he1 he2
  unfold uP at hi ⊢
  generalize puV 65535 s.data.toList = p at H hi ⊢
  unfold UintGot at H
  generalize gotU 65535 p = V at H hi ⊢
  generalize badU p = B at H ⊢
  have i1 : (0 : Int) ≤ (V : Int) := Int.natCast_nonneg _
  have i2 : (V : Int) ≤ 65535 := by omega
  clear hi
  go_enter Tryd.func73, Tryd.ntmps73
  go_wp2_with (go_at_call 100; refine (H.out).mono ?_; rintro e w1 ⟨E, rfl, hE, hb⟩; have HE := Lib.hid hE; clear hE; have hc1 := cell_kept hb hc; have hf1 := frozen_kept hb hc hf)
  go_ret
  exact ⟨_, w1, rfl, HE.out, hb, by first | rfl | (congr 2; go_num)⟩


theorem newU_uint32 (a : Addr) (b u : Int) (w : World) (hc : w.cell? a = some (.int .u32 u)) (hf : w.frozen? a = false) :
    Calls Tryd.prog 104 #[.int .u32 b, .pointer (some a)] w fun e w' => e = .returned (.pointer (some a)) ∧ w' = w.setCell a (.int .u32 b) := by
  go_enter Tryd.func104, Tryd.ntmps104
  go_wp2
  go_ret
  exact ⟨rfl, rfl⟩

theorem zzU_uint32 (a : Addr) (b u : Int) (w : World) (hc : w.cell? a = some (.int .u32 u)) (hf : w.frozen? a = false) :
    Calls Tryd.prog 75 #[.int .u32 b, .pointer (some a)] w fun e w' => e = .returned (.pointer (some a)) ∧ w' = w.setCell a (.int .u32 b) := by
  go_enter Tryd.func75, Tryd.ntmps75
  go_wp2_with (go_at_call 104; refine (newU_uint32 a b u _ hc hf).mono ?_; rintro e w' ⟨rfl, rfl⟩)
  go_ret
  exact ⟨rfl, rfl⟩

set_option maxRecDepth 100000 in
theorem stringU_uint32 (a : Addr) (n : Nat) (h1 : n ≤ 4294967295) (w : World) (hc : w.cell? a = some (.int .u32 n)) (ht : Pow w) :
    Calls Tryd.prog 77 #[.pointer (some a)] w fun e w' => e = .returned (.string (saidU n)) ∧ Below w.heap.size w w' := by
  have H := fun w ht => Lib.hid (formatUPublic n (by omega) w ht)
  have HT := Lib.hid ht
  have n0 : (0 : Int) ≤ (n : Int) := Int.natCast_nonneg _
  have n1 : (n : Int) ≤ 4294967295 := by omega
  clear ht
  go_enter Tryd.func77, Tryd.ntmps77
  go_wp2_with (go_at_call 101; refine ((H _ HT.out).out).mono ?_; rintro e w1 ⟨rfl, hb⟩)
  go_ret
  exact ⟨rfl, hb⟩

set_option maxRecDepth 100000 in
theorem setU_uint32 (a : Addr) (s : ByteArray) (u : Int) (w : World) (hc : w.cell? a = some (.int .u32 u)) (hf : w.frozen? a = false) (hs : s.size ≤ 281474976710656) (he1 : ErrCell 0 w) (he2 : ErrCell 1 w) :
    Calls Tryd.prog 76 #[.pointer (some a), .string s] w fun e w' => ∃ E w1, e = .returned E ∧ ((badU (uP 4294967295 s) = false ∧ E = .nilIface) ∨ (badU (uP 4294967295 s) = true ∧ ∃ t q, E = .iface t q)) ∧ Below w.heap.size w w1 ∧ w' = w1.setCell a (.int .u32 (gotU 4294967295 (uP 4294967295 s) : Nat)) := by
  have H := Lib.hid (parseUint0 s hs 32 4294967295 (by omega) (by omega) (by decide +kernel) w he1 he2)
  have hi : gotU 4294967295 (uP 4294967295 s) ≤ 4294967295 := gotU_le _
  clear he1 he2
  unfold uP at hi ⊢
  generalize puV 4294967295 s.data.toList = p at H hi ⊢
  unfold UintGot at H
  generalize gotU 4294967295 p = V at H hi ⊢
  generalize badU p = B at H ⊢
  have i1 : (0 : Int) ≤ (V : Int) := Int.natCast_nonneg _
  have i2 : (V : Int) ≤ 4294967295 := by omega
  clear hi
  go_enter Tryd.func76, Tryd.ntmps76
  go_wp2_with (go_at_call 100; refine (H.out).mono ?_; rintro e w1 ⟨E, rfl, hE, hb⟩; have HE := Lib.hid hE; clear hE; have hc1 := cell_kept hb hc; have hf1 := frozen_kept hb hc hf)
  go_ret
  exact ⟨_, w1, rfl, HE.out, hb, by first | rfl | (congr 2; go_num)⟩


theorem newU_uint64 (a : Addr) (b u : Int) (w : World) (hc : w.cell? a = some (.int .u64 u)) (hf : w.frozen? a = false) :
    Calls Tryd.prog 105 #[.int .u64 b, .pointer (some a)] w fun e w' => e = .returned (.pointer (some a)) ∧ w' = w.setCell a (.int .u64 b) := by
  go_enter Tryd.func105, Tryd.ntmps105
  go_wp2
  go_ret
  exact ⟨rfl, rfl⟩

theorem zzU_uint64 (a : Addr) (b u : Int) (w : World) (hc : w.cell? a = some (.int .u64 u)) (hf : w.frozen? a = false) :
    Calls Tryd.prog 78 #[.int .u64 b, .pointer (some a)] w fun e w' => e = .returned (.pointer (some a)) ∧ w' = w.setCell a (.int .u64 b) := by
  go_enter Tryd.func78, Tryd.ntmps78
  go_wp2_with (go_at_call 105; refine (newU_uint64 a b u _ hc hf).mono ?_; rintro e w' ⟨rfl, rfl⟩)
  go_ret
  exact ⟨rfl, rfl⟩

set_option maxRecDepth 100000 in
theorem stringU_uint64 (a : Addr) (n : Nat) (h1 : n ≤ 18446744073709551615) (w : World) (hc : w.cell? a = some (.int .u64 n)) (ht : Pow w) :
    Calls Tryd.prog 80 #[.pointer (some a)] w fun e w' => e = .returned (.string (saidU n)) ∧ Below w.heap.size w w' := by
  have H := fun w ht => Lib.hid (formatUPublic n (by omega) w ht)
  have HT := Lib.hid ht
  have n0 : (0 : Int) ≤ (n : Int) := Int.natCast_nonneg _
  have n1 : (n : Int) ≤ 18446744073709551615 := by omega
  clear ht
  go_enter Tryd.func80, Tryd.ntmps80
  go_wp2_with (go_at_call 101; refine ((H _ HT.out).out).mono ?_; rintro e w1 ⟨rfl, hb⟩)
  go_ret
  exact ⟨rfl, hb⟩

set_option maxRecDepth 100000 in
theorem setU_uint64 (a : Addr) (s : ByteArray) (u : Int) (w : World) (hc : w.cell? a = some (.int .u64 u)) (hf : w.frozen? a = false) (hs : s.size ≤ 281474976710656) (he1 : ErrCell 0 w) (he2 : ErrCell 1 w) :
    Calls Tryd.prog 79 #[.pointer (some a), .string s] w fun e w' => ∃ E w1, e = .returned E ∧ ((badU (uP 18446744073709551615 s) = false ∧ E = .nilIface) ∨ (badU (uP 18446744073709551615 s) = true ∧ ∃ t q, E = .iface t q)) ∧ Below w.heap.size w w1 ∧ w' = w1.setCell a (.int .u64 (gotU 18446744073709551615 (uP 18446744073709551615 s) : Nat)) := by
  have H := Lib.hid (parseUint0 s hs 64 18446744073709551615 (by omega) (by omega) (by decide +kernel) w he1 he2)
  have hi : gotU 18446744073709551615 (uP 18446744073709551615 s) ≤ 18446744073709551615 := gotU_le _
  clear he1 he2
  unfold uP at hi ⊢
  generalize puV 18446744073709551615 s.data.toList = p at H hi ⊢
  unfold UintGot at H
  generalize gotU 18446744073709551615 p = V at H hi ⊢
  generalize badU p = B at H ⊢
  have i1 : (0 : Int) ≤ (V : Int) := Int.natCast_nonneg _
  have i2 : (V : Int) ≤ 18446744073709551615 := by omega
  clear hi
  go_enter Tryd.func79, Tryd.ntmps79
  go_wp2_with (go_at_call 100; refine (H.out).mono ?_; rintro e w1 ⟨E, rfl, hE, hb⟩; have HE := Lib.hid hE; clear hE; have hc1 := cell_kept hb hc; have hf1 := frozen_kept hb hc hf)
  go_ret
  exact ⟨_, w1, rfl, HE.out, hb, by first | rfl | (congr 2; go_num)⟩

end Go.Proofs.YtoofmiafcaipmaaDoor.E
