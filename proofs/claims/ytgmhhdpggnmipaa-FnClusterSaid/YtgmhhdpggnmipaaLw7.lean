/- laws.flag14 over this seat's program. -/
import Derived.Test.YtgmhhdpggnmipaaLs
namespace Go.Proofs.Ytgmhhdpggnmipaa.E
open Go.RowKit Go.Proofs
set_option linter.unusedVariables false
set_option linter.unusedSimpArgs false
/-- laws.flag14: is there such a place? -/
theorem flag14_c (w : World) (A : Option Addr) (n cap : Nat) (pl un : Bool) (f i : Int) :
    Calls Try.prog 24 #[.agg #[.slice A n cap, .bool pl, .bool un, .int .i64 f], .int .i64 i] w fun e w' => e = .returned (.bool (decide (0 ≤ i ∧ i < (n : Int)))) ∧ Below w.heap.size w w' := by
  by_cases h0 : 0 ≤ i
  · by_cases h1 : i < (n : Int)
    · rw [decide_eq_true ⟨h0, h1⟩]
      go_enter Try.func24, Try.ntmps24
      go_wp2
      go_ret
      exact ⟨rfl, (Below.refl _ _).alloc (Nat.le_refl _) _⟩
    · rw [decide_eq_false (fun h => h1 h.2)]
      go_enter Try.func24, Try.ntmps24
      go_wp2
      go_ret
      exact ⟨rfl, (Below.refl _ _).alloc (Nat.le_refl _) _⟩
  · rw [decide_eq_false (fun h => h0 h.1)]
    go_enter Try.func24, Try.ntmps24
    go_wp2
    go_ret
    exact ⟨rfl, (Below.refl _ _).alloc (Nat.le_refl _) _⟩
set_option maxRecDepth 100000 in
/-- laws.long14: the long form of a flag with a value. -/
theorem long14_c {w : World} {A : Option Addr} {F : List FlagP} (hA : FlagsAt w A F) (cap : Nat) (pl un : Bool) (f : Int) (i : Nat) (hi : i < F.length) (v : Txt) (hm : F.length ≤ 2147483647) (hn : F[i].name.length ≤ 2147483647) (hv : v.length ≤ 2147483647) :
    Calls Try.prog 28 #[.agg #[.slice A F.length cap, .bool pl, .bool un, .int .i64 f], .int .i64 (i : Int), .string (mkT v)] w fun e w' => ∃ s, e = .returned (.string s) ∧ s.data.toList = longT F[i].name v ∧ Below w.heap.size w w' := by
  obtain ⟨b, o, vv, rfl, c0, -⟩ := hA i hi
  generalize hF : F[i].name = nm at c0 hn ⊢
  clear hF hA
  generalize hl : F.length = ln at hi hm ⊢
  go_enter Try.func28, Try.ntmps28
  go_upto_region 1 with fail
  generalize hWX : w.alloc _ = WX
  have hb : Below w.heap.size w WX := by rw [← hWX]; exact (Below.refl _ _).alloc (Nat.le_refl _) _
  have d0 : WX.cell? ⟨w.heap.size, 0, none⟩ = some (.slice (some ⟨b, o, none⟩) ln cap) := by rw [← hWX]; exact (cell_blk (heap_alloc_new w _) 0).trans rfl
  have c1 := cell_kept hb c0
  clear hWX c0
  have hi2 : (i : Int) < (ln : Int) := by omega
  have z0 : (mkT nm).size ≤ 2147483647 := by rw [mkT_size]; exact hn
  have z1 : (mkT v).size ≤ 2147483647 := by rw [mkT_size]; exact hv
  generalize hx : mkT nm = x at c1 z0
  generalize hy : mkT v = y at z1 ⊢
  have HX := Lib.hid hx
  have HY := Lib.hid hy
  clear hx hy hn hv
  go_wp2
  all_goals try (exfalso; simp at *; omega)
  go_ret
  exact ⟨_, rfl, (by rw [← HX.out, ← HY.out]; simp [longT, mkT]), hb⟩
theorem saysF {w : World} (A : Option Addr) (n cap : Nat) (pl un : Bool) (k : Int) {j : Int} {b : Bool} (h : decide (0 ≤ j ∧ j < (n : Int)) = b) : Says w 24 #[.agg #[.slice A n cap, .bool pl, .bool un, .int .i64 k], .int .i64 j] b := fun W hb => by
  have h2 := flag14_c W A n cap pl un k j
  rw [h] at h2; exact h2
theorem list_ext {s : ByteArray} {t : Txt} (h : s.data.toList = t) : s = mkT t := by rw [← h]; exact (of_list s).symm
theorem saysLong {w : World} {A : Option Addr} {F : List FlagP} (hA : FlagsAt w A F) (cap : Nat) (pl un : Bool) (k : Int) (i : Nat) (hi : i < F.length) (v : Txt) (hm : F.length ≤ 2147483647) (hn : F[i].name.length ≤ 2147483647) (hv : v.length ≤ 2147483647) (W : World) (hb : Below w.heap.size w W) :
    Calls Try.prog 28 #[.agg #[.slice A F.length cap, .bool pl, .bool un, .int .i64 k], .int .i64 (i : Int), .string (mkT v)] W fun e w' => e = .returned (.string (mkT (longT F[i].name v))) ∧ Below W.heap.size W w' :=
  (long14_c (hA.below hb) cap pl un k i hi v hm hn hv).mono fun e w' ⟨s, he, hs, hb2⟩ => ⟨by rw [he, list_ext hs], hb2⟩
theorem says_parse {w : World} {A : Option Addr} {S : SetP} (hS : SetOK w A S) (cap : Nat) (W : World) (hb : Below w.heap.size w W) (v : Value) (L : List Txt) (hv : TextIn W v (L.map mkT)) (hwt : wt L ≤ 1099511627776) (hls : ∀ t ∈ L, t.length ≤ 8589934592) :
    Calls Try.prog 26 #[.agg #[.slice A S.flags.length cap, .bool S.plain, .bool S.unknown, .int .i64 S.fold], v] W fun e w' => ∃ u, e = .returned u ∧ HeardOwn w' (psOf none true (goes S none st0 L)) (goes S none st0 L).err S.flags.length u ∧ Below W.heap.size W w' := parse_c (hS.below hb) cap hv hwt hls
theorem mkT_pos {t : Txt} (h : t ≠ []) : 0 < (mkT t).size := by rw [mkT_size]; exact List.length_pos_iff.2 h
end Go.Proofs.Ytgmhhdpggnmipaa.E
