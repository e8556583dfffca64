/- laws.FnCastNarrow over this seat's program. Written by gen_narl.py. -/
import Derived.Test.YtbcknchbighieaaDoorNvN
import Derived.Test.YtbcknchbighieaaDoorNvP
namespace Go.Proofs.YtbcknchbighieaaDoor.E
open Go.RowKit Go.Proofs
set_option linter.unusedVariables false
set_option linter.unusedSimpArgs false
theorem castLives_any (w : World) : Calls Tryd.prog 10 #[] w fun e w' => e = .returned (.bool true) ∧ Below w.heap.size w w' := by
  have HI := fun W => Lib.hid (impl_int_int 7 0 0 ⟨#[]⟩ W (by decide) (by decide))
  unfold anyOf at HI
  have hst := fun (a : Addr) (m : Mode) (f : Nat) (W : World) => run_store Tryd.prog W a (.float .f64 f) m rfl
  go_enter Tryd.func10, Tryd.ntmps10
  go_wp2_with ((with_reducible go_at_call 17); refine (HI _).out.mono ?_; rintro e w1 ⟨rfl, hb1⟩)
  go_ret
  exact ⟨rfl, hb1⟩
def YesN (w : World) (e : Ending) (w' : World) : Prop := e = .returned (.bool true) ∧ Below w.heap.size w w'
theorem yesN {w : World} {e : Ending} {w' : World} (h : e = .returned (.bool true)) (hb : Below w.heap.size w w') : YesN w e w' := ⟨h, hb⟩
def SomeB (w : World) (e : Ending) (w' : World) : Prop := ∃ b : Bool, e = .returned (.bool b) ∧ Below w.heap.size w w'
theorem someB {w : World} {e : Ending} {w' : World} {b : Bool} (h : e = .returned (.bool b)) (hb : Below w.heap.size w w') : SomeB w e w' := ⟨b, h, hb⟩
theorem zzFits1_any (k n u : Int) (f : Nat) (s : ByteArray) (la ma : Option Addr) (ln lc mn mc : Nat) (w : World) :
    Calls Tryd.prog 4 #[.agg #[.int .i64 k, .int .i64 n, .int .u64 u, .float .f64 f, .string s, .slice la ln lc, .slice ma mn mc]] w (SomeB w) := by
  have hst := fun (a : Addr) (m : Mode) (f : Nat) (W : World) => run_store Tryd.prog W a (.float .f64 f) m rfl
  go_enter Tryd.func4, Tryd.ntmps4
  go_wp2
  all_goals
    go_ret
    exact someB rfl ((Below.refl _ _).alloc (Nat.le_refl _) _)
/-- A number cut to a kind's width. -/
def cutA (a N : Int) : Int := if a = 3 then IntKind.i8.wrap N else if a = 4 then IntKind.i16.wrap N else if a = 5 then IntKind.i32.wrap N else IntKind.i64.wrap N
theorem cutA_eq {a : Int} (ha : 2 ≤ a ∧ a ≤ 6) (N : Int) : cutI a (IntKind.i64.wrap N) = cutA a N := by
  have h : a = 2 ∨ a = 3 ∨ a = 4 ∨ a = 5 ∨ a = 6 := by omega
  rcases h with rfl | rfl | rfl | rfl | rfl <;> simp [cutI, cutA, wrap32, IntKind.wrap, IntKind.bits, IntKind.signed] <;> omega
theorem castInt_num (a kx n u : Int) (ha : 2 ≤ a ∧ a ≤ 6) (f r : Nat) (z12 z13 : Int) (t : ByteArray) (hk : 0 ≤ kx ∧ kx ≤ 13) (w : World) (hn : -9223372036854775808 ≤ n ∧ n ≤ 9223372036854775807) (hu : 0 ≤ u ∧ u ≤ 18446744073709551615) (F : FOK f r z12 z13) :
    Calls Tryd.prog 8 #[.int .i64 a, anyOf kx n u f t] w fun e w' => e = .returned (.tuple #[.int .i64 (cutA a (numV kx n u z12 z13)), .bool true]) ∧ Below w.heap.size w w' := by
  have h : a = 2 ∨ a = 3 ∨ a = 4 ∨ a = 5 ∨ a = 6 := by omega
  rcases h with rfl | rfl | rfl | rfl | rfl
  · exact (castInt_int kx n u f t (fun v b => v = cutA 2 (numV kx n u z12 z13) ∧ b = true) w (fun W _ => (num_int kx n u f r z12 z13 t hk W hn hu F).mono fun e w' ⟨he, hb⟩ => ⟨_, _, he, ⟨rfl, rfl⟩, hb⟩)).mono fun e w' ⟨v, b, he, ⟨h1, h2⟩, hb⟩ => by subst h1; subst h2; exact ⟨he, hb⟩
  · exact (castInt_int8 kx n u f t (fun v b => v = cutA 3 (numV kx n u z12 z13) ∧ b = true) w (fun W _ => (num_int8 kx n u f r z12 z13 t hk W hn hu F).mono fun e w' ⟨he, hb⟩ => ⟨_, _, he, ⟨rfl, rfl⟩, hb⟩)).mono fun e w' ⟨v, b, he, ⟨h1, h2⟩, hb⟩ => by subst h1; subst h2; exact ⟨he, hb⟩
  · exact (castInt_int16 kx n u f t (fun v b => v = cutA 4 (numV kx n u z12 z13) ∧ b = true) w (fun W _ => (num_int16 kx n u f r z12 z13 t hk W hn hu F).mono fun e w' ⟨he, hb⟩ => ⟨_, _, he, ⟨rfl, rfl⟩, hb⟩)).mono fun e w' ⟨v, b, he, ⟨h1, h2⟩, hb⟩ => by subst h1; subst h2; exact ⟨he, hb⟩
  · exact (castInt_int32 kx n u f t (fun v b => v = cutA 5 (numV kx n u z12 z13) ∧ b = true) w (fun W _ => (num_int32 kx n u f r z12 z13 t hk W hn hu F).mono fun e w' ⟨he, hb⟩ => ⟨_, _, he, ⟨rfl, rfl⟩, hb⟩)).mono fun e w' ⟨v, b, he, ⟨h1, h2⟩, hb⟩ => by subst h1; subst h2; exact ⟨he, hb⟩
  · exact (castInt_int64 kx n u f t (fun v b => v = cutA 6 (numV kx n u z12 z13) ∧ b = true) w (fun W _ => (num_int64 kx n u f r z12 z13 t hk W hn hu F).mono fun e w' ⟨he, hb⟩ => ⟨_, _, he, ⟨rfl, rfl⟩, hb⟩)).mono fun e w' ⟨v, b, he, ⟨h1, h2⟩, hb⟩ => by subst h1; subst h2; exact ⟨he, hb⟩
/-- What a door says of a text: something. -/
def GotX (w : World) (e : Ending) (w' : World) : Prop := ∃ (v : Int) (b : Bool), e = .returned (.tuple #[.int .i64 v, .bool b]) ∧ True ∧ Below w.heap.size w w'
theorem gotX {w w' : World} {e : Ending} (h : GotB w e w') : GotX w e w' := by
  obtain ⟨v, E, he, rfl | rfl, hb⟩ := h
  · exact ⟨v, true, he, trivial, hb⟩
  · exact ⟨v, false, he, trivial, hb⟩
theorem castInt_str (a n u : Int) (ha : 2 ≤ a ∧ a ≤ 6) (f : Nat) (t : ByteArray) (ht : t.size ≤ 400) (w : World) (hn : -9223372036854775808 ≤ n ∧ n ≤ 9223372036854775807) (hu : 0 ≤ u ∧ u ≤ 18446744073709551615) (he1 : ErrCell 0 w) (he2 : ErrCell 1 w) :
    Calls Tryd.prog 8 #[.int .i64 a, anyOf 14 n u f t] w (GotX w) := by
  have h : a = 2 ∨ a = 3 ∨ a = 4 ∨ a = 5 ∨ a = 6 := by omega
  rcases h with rfl | rfl | rfl | rfl | rfl
  · exact castInt_int 14 n u f t (fun _ _ => True) w (fun W hW => (impl_int_string n u f t ht W hn hu (he1.below hW) (he2.below hW)).mono fun e w' h => gotX h)
  · exact castInt_int8 14 n u f t (fun _ _ => True) w (fun W hW => (impl_int8_string n u f t ht W hn hu (he1.below hW) (he2.below hW)).mono fun e w' h => gotX h)
  · exact castInt_int16 14 n u f t (fun _ _ => True) w (fun W hW => (impl_int16_string n u f t ht W hn hu (he1.below hW) (he2.below hW)).mono fun e w' h => gotX h)
  · exact castInt_int32 14 n u f t (fun _ _ => True) w (fun W hW => (impl_int32_string n u f t ht W hn hu (he1.below hW) (he2.below hW)).mono fun e w' h => gotX h)
  · exact castInt_int64 14 n u f t (fun _ _ => True) w (fun W hW => (impl_int64_string n u f t ht W hn hu (he1.below hW) (he2.below hW)).mono fun e w' h => gotX h)

set_option maxRecDepth 100000 in
set_option maxHeartbeats 3200000 in
theorem nar_1 (kk k n u : Int) (f : Nat) (s : ByteArray) (la ma : Option Addr) (ln lc mn mc : Nat) (w : World) (hn : -9223372036854775808 ≤ n ∧ n ≤ 9223372036854775807) (hu : 0 ≤ u ∧ u ≤ 18446744073709551615) (hk : kindA k ≠ 14) :
    Calls Tryd.prog 3 #[.int .i64 kk, .agg #[.int .i64 k, .int .i64 n, .int .u64 u, .float .f64 f, .string s, .slice la ln lc, .slice ma mn mc]] w (YesN w) := by
  have hst := fun (a : Addr) (m : Mode) (f : Nat) (W : World) => run_store Tryd.prog W a (.float .f64 f) m rfl
  have HZ1 := fun W => Lib.hid (zzFits1_any k n u f s la ma ln lc mn mc W)
  have HCN := fun W => Lib.hid (castNear_any k n u f s la ma ln lc mn mc W)
  have HKI := fun W => Lib.hid (castKindInt_any kk W)
  have HLV := fun W => Lib.hid (castLives_any W)
  obtain ⟨r0, r1⟩ := kindI_range kk
  have hkx : 0 ≤ kindA k ∧ kindA k ≤ 13 := by unfold kindA at hk ⊢; omega
  obtain ⟨r, z12, z13, hF⟩ := nearF_ok f
  unfold arg7 anyOf at HCN
  go_enter Tryd.func3, Tryd.ntmps3
  go_upto_region 1 with fail
  have q := heap_alloc_new w (.cells #[.int .i64 k, .int .i64 n, .int .u64 u, .float .f64 f, .string s, .slice la ln lc, .slice ma mn mc] 27)
  have hB : Below w.heap.size w (w.alloc (.cells #[.int .i64 k, .int .i64 n, .int .u64 u, .float .f64 f, .string s, .slice la ln lc, .slice ma mn mc] 27)) := (Below.refl _ _).alloc (Nat.le_refl _) _
  generalize w.alloc (.cells #[.int .i64 k, .int .i64 n, .int .u64 u, .float .f64 f, .string s, .slice la ln lc, .slice ma mn mc] 27) = W at q hB ⊢
  have HB := Lib.hid hB
  have c0 : W.cell? ⟨w.heap.size, 0, none⟩ = some (.int .i64 k) := (cell_blk q 0).trans rfl
  have c1 : W.cell? ⟨w.heap.size, 1, none⟩ = some (.int .i64 n) := (cell_blk q 1).trans rfl
  have c2 : W.cell? ⟨w.heap.size, 2, none⟩ = some (.int .u64 u) := (cell_blk q 2).trans rfl
  have c3 : W.cell? ⟨w.heap.size, 3, none⟩ = some (.float .f64 f) := (cell_blk q 3).trans rfl
  have c4 : W.cell? ⟨w.heap.size, 4, none⟩ = some (.string s) := (cell_blk q 4).trans rfl
  have c5 : W.cell? ⟨w.heap.size, 5, none⟩ = some (.slice la ln lc) := (cell_blk q 5).trans rfl
  have c6 : W.cell? ⟨w.heap.size, 6, none⟩ = some (.slice ma mn mc) := (cell_blk q 6).trans rfl
  clear hB
  go_upto_if 12 with ((with_reducible go_at_call 4); refine (HZ1 _).out.mono ?_; rintro e w1 ⟨b, rfl, hb1⟩)
  have q1 := block_kept q hb1
  have HB := Lib.hid (HB.out.trans (hb1.mono HB.out.size))
  clear c0 c1 c2 c3 c4 c5 c6 hb1 q HZ1
  cases b
  · go_wp2
    go_ret
    exact yesN rfl HB.out
  have c0 : w1.cell? ⟨w.heap.size, 0, none⟩ = some (.int .i64 k) := (cell_blk q1 0).trans rfl
  have c1 : w1.cell? ⟨w.heap.size, 1, none⟩ = some (.int .i64 n) := (cell_blk q1 1).trans rfl
  have c2 : w1.cell? ⟨w.heap.size, 2, none⟩ = some (.int .u64 u) := (cell_blk q1 2).trans rfl
  have c3 : w1.cell? ⟨w.heap.size, 3, none⟩ = some (.float .f64 f) := (cell_blk q1 3).trans rfl
  have c4 : w1.cell? ⟨w.heap.size, 4, none⟩ = some (.string s) := (cell_blk q1 4).trans rfl
  have c5 : w1.cell? ⟨w.heap.size, 5, none⟩ = some (.slice la ln lc) := (cell_blk q1 5).trans rfl
  have c6 : w1.cell? ⟨w.heap.size, 6, none⟩ = some (.slice ma mn mc) := (cell_blk q1 6).trans rfl
  go_upto_region 4 with ((with_reducible go_at_call 5); refine (HCN _).out.mono ?_; rintro e w2 ⟨t, rfl, ht, hb2⟩; have HT := Lib.hid ht; clear ht; have q2 := block_kept q1 hb2; have HB := Lib.hid (HB.out.trans (hb2.mono HB.out.size)); clear hb2; have d0 : w2.cell? ⟨w.heap.size, 0, none⟩ = some (.int .i64 k) := (cell_blk q2 0).trans rfl; have d1 : w2.cell? ⟨w.heap.size, 1, none⟩ = some (.int .i64 n) := (cell_blk q2 1).trans rfl; have d2 : w2.cell? ⟨w.heap.size, 2, none⟩ = some (.int .u64 u) := (cell_blk q2 2).trans rfl; have d3 : w2.cell? ⟨w.heap.size, 3, none⟩ = some (.float .f64 f) := (cell_blk q2 3).trans rfl; have d4 : w2.cell? ⟨w.heap.size, 4, none⟩ = some (.string s) := (cell_blk q2 4).trans rfl; have d5 : w2.cell? ⟨w.heap.size, 5, none⟩ = some (.slice la ln lc) := (cell_blk q2 5).trans rfl; have d6 : w2.cell? ⟨w.heap.size, 6, none⟩ = some (.slice ma mn mc) := (cell_blk q2 6).trans rfl; have zf := free_blk q2; have zl := lt_of_block q2)
  clear c0 c1 c2 c3 c4 c5 c6 d0 d1 d2 d3 d4 d5 d6 zf zl q1 HCN
  have g0 : _ = some (Obj.cells #[.int .i64 (kindA k), .int .i64 n, .int .u64 u, .float .f64 f, .string s, .slice la ln lc, .slice ma mn mc] 27 (0, 0)) := blk_set q2 0 (.int .i64 (kindA k))
  have g1 : _ = some (Obj.cells #[.int .i64 (kindA k), .int .i64 n, .int .u64 u, .float .f64 f, .string s, .slice la ln lc, .slice ma mn mc] 27 (0, 0)) := blk_set g0 1 (.int .i64 n)
  have g2 : _ = some (Obj.cells #[.int .i64 (kindA k), .int .i64 n, .int .u64 u, .float .f64 f, .string s, .slice la ln lc, .slice ma mn mc] 27 (0, 0)) := blk_set g1 2 (.int .u64 u)
  have g3 : _ = some (Obj.cells #[.int .i64 (kindA k), .int .i64 n, .int .u64 u, .float .f64 (nearF f), .string s, .slice la ln lc, .slice ma mn mc] 27 (0, 0)) := blk_set g2 3 (.float .f64 (nearF f))
  have g4 : _ = some (Obj.cells #[.int .i64 (kindA k), .int .i64 n, .int .u64 u, .float .f64 (nearF f), .string t, .slice la ln lc, .slice ma mn mc] 27 (0, 0)) := blk_set g3 4 (.string t)
  have g5 : _ = some (Obj.cells #[.int .i64 (kindA k), .int .i64 n, .int .u64 u, .float .f64 (nearF f), .string t, .slice none 0 0, .slice ma mn mc] 27 (0, 0)) := blk_set g4 5 (.slice none 0 0)
  have g6 : _ = some (Obj.cells #[.int .i64 (kindA k), .int .i64 n, .int .u64 u, .float .f64 (nearF f), .string t, .slice none 0 0, .slice none 0 0] 27 (0, 0)) := blk_set g5 6 (.slice none 0 0)
  have HB := Lib.hid (((((((HB.out.setCell (p := ⟨w.heap.size, 0, none⟩) (Nat.le_refl _) (.int .i64 (kindA k))).setCell (p := ⟨w.heap.size, 1, none⟩) (Nat.le_refl _) (.int .i64 n)).setCell (p := ⟨w.heap.size, 2, none⟩) (Nat.le_refl _) (.int .u64 u)).setCell (p := ⟨w.heap.size, 3, none⟩) (Nat.le_refl _) (.float .f64 (nearF f))).setCell (p := ⟨w.heap.size, 4, none⟩) (Nat.le_refl _) (.string t)).setCell (p := ⟨w.heap.size, 5, none⟩) (Nat.le_refl _) (.slice none 0 0)).setCell (p := ⟨w.heap.size, 6, none⟩) (Nat.le_refl _) (.slice none 0 0))
  generalize (((((((w2.setCell ⟨w.heap.size, 0, none⟩ (.int .i64 (kindA k))).setCell ⟨w.heap.size, 1, none⟩ (.int .i64 n)).setCell ⟨w.heap.size, 2, none⟩ (.int .u64 u)).setCell ⟨w.heap.size, 3, none⟩ (.float .f64 (nearF f))).setCell ⟨w.heap.size, 4, none⟩ (.string t)).setCell ⟨w.heap.size, 5, none⟩ (.slice none 0 0)).setCell ⟨w.heap.size, 6, none⟩ (.slice none 0 0)) = w3 at g6 HB ⊢
  have q3 := g6
  clear q2 g0 g1 g2 g3 g4 g5 g6
  have c0 : w3.cell? ⟨w.heap.size, 0, none⟩ = some (.int .i64 (kindA k)) := (cell_blk q3 0).trans rfl
  have c1 : w3.cell? ⟨w.heap.size, 1, none⟩ = some (.int .i64 n) := (cell_blk q3 1).trans rfl
  have c2 : w3.cell? ⟨w.heap.size, 2, none⟩ = some (.int .u64 u) := (cell_blk q3 2).trans rfl
  have c3 : w3.cell? ⟨w.heap.size, 3, none⟩ = some (.float .f64 (nearF f)) := (cell_blk q3 3).trans rfl
  have c4 : w3.cell? ⟨w.heap.size, 4, none⟩ = some (.string t) := (cell_blk q3 4).trans rfl
  have c5 : w3.cell? ⟨w.heap.size, 5, none⟩ = some (.slice none 0 0) := (cell_blk q3 5).trans rfl
  have c6 : w3.cell? ⟨w.heap.size, 6, none⟩ = some (.slice none 0 0) := (cell_blk q3 6).trans rfl
  have HL := fun W => Lib.hid (num_int64 (kindA k) n u (nearF f) r z12 z13 t hkx W hn hu hF)
  have HCI := fun W => Lib.hid (castInt_num (kindI kk) (kindA k) n u ⟨r0, r1⟩ (nearF f) r z12 z13 t hkx W hn hu hF)
  have e1 := cutA_eq ⟨r0, r1⟩ (numV (kindA k) n u z12 z13)
  have hcr : -9223372036854775808 ≤ IntKind.i64.wrap (numV (kindA k) n u z12 z13) ∧ IntKind.i64.wrap (numV (kindA k) n u z12 z13) ≤ 9223372036854775807 := by simp [IntKind.wrap, IntKind.bits, IntKind.signed]; omega
  have HCC := fun W => Lib.hid (castCutInt_any (kindI kk) (IntKind.i64.wrap (numV (kindA k) n u z12 z13)) W ⟨r0, r1⟩ hcr)
  rw [e1] at HCC
  clear e1 hF hcr hkx hn hu HT
  have hk14 : (kindA k == 14) = false := by simpa using hk
  clear hk
  generalize IntKind.i64.wrap (numV (kindA k) n u z12 z13) = c at HL HCC
  generalize cutA (kindI kk) (numV (kindA k) n u z12 z13) = d at HCI HCC
  generalize kindI kk = a at HKI HCI HCC r0 r1
  generalize nearF f = fn at HL HCI c3 q3
  generalize kindA k = kx at HL HCI c0 q3 hk14
  unfold anyOf at HL HCI
  cases hcd : (d == c)
  · have hne : (d != c) = true := by simpa using hcd
    go_wp2_with (first
    | ((with_reducible go_at_call 6); refine (HKI _).out.mono ?_; rintro e w4 ⟨rfl, rfl⟩)
    | ((with_reducible go_at_call 7); refine ((HL _).out).mono ?_; rintro e w4 ⟨rfl, hb4⟩; have HX := hb4; have c0 := cell_kept HX c0; have c1 := cell_kept HX c1; have c2 := cell_kept HX c2; have c3 := cell_kept HX c3; have c4 := cell_kept HX c4; have c5 := cell_kept HX c5; have c6 := cell_kept HX c6; have q3 := block_kept q3 HX; have HB := Lib.hid (HB.out.trans (HX.mono HB.out.size)); clear HX hb4)
    | ((with_reducible go_at_call 8); refine ((HCI _).out).mono ?_; rintro e w4 ⟨rfl, hb4⟩; have HX := hb4; have c0 := cell_kept HX c0; have c1 := cell_kept HX c1; have c2 := cell_kept HX c2; have c3 := cell_kept HX c3; have c4 := cell_kept HX c4; have c5 := cell_kept HX c5; have c6 := cell_kept HX c6; have q3 := block_kept q3 HX; have HB := Lib.hid (HB.out.trans (HX.mono HB.out.size)); clear HX hb4)
    | ((with_reducible go_at_call 9); refine (HCC _).out.mono ?_; rintro e w4 ⟨rfl, rfl⟩)
    | ((with_reducible go_at_call 10); refine (HLV _).out.mono ?_; rintro e w4 ⟨rfl, hb4⟩; have HB := Lib.hid (HB.out.trans (hb4.mono HB.out.size)); clear hb4))
    go_ret
    exact yesN rfl HB.out
  have hne : (d != c) = false := by simpa using hcd
  go_wp2_with (first
  | ((with_reducible go_at_call 6); refine (HKI _).out.mono ?_; rintro e w4 ⟨rfl, rfl⟩)
  | ((with_reducible go_at_call 7); refine ((HL _).out).mono ?_; rintro e w4 ⟨rfl, hb4⟩; have HX := hb4; have c0 := cell_kept HX c0; have c1 := cell_kept HX c1; have c2 := cell_kept HX c2; have c3 := cell_kept HX c3; have c4 := cell_kept HX c4; have c5 := cell_kept HX c5; have c6 := cell_kept HX c6; have q3 := block_kept q3 HX; have HB := Lib.hid (HB.out.trans (HX.mono HB.out.size)); clear HX hb4)
  | ((with_reducible go_at_call 8); refine ((HCI _).out).mono ?_; rintro e w4 ⟨rfl, hb4⟩; have HX := hb4; have c0 := cell_kept HX c0; have c1 := cell_kept HX c1; have c2 := cell_kept HX c2; have c3 := cell_kept HX c3; have c4 := cell_kept HX c4; have c5 := cell_kept HX c5; have c6 := cell_kept HX c6; have q3 := block_kept q3 HX; have HB := Lib.hid (HB.out.trans (HX.mono HB.out.size)); clear HX hb4)
  | ((with_reducible go_at_call 9); refine (HCC _).out.mono ?_; rintro e w4 ⟨rfl, rfl⟩)
  | ((with_reducible go_at_call 10); refine (HLV _).out.mono ?_; rintro e w4 ⟨rfl, hb4⟩; have HB := Lib.hid (HB.out.trans (hb4.mono HB.out.size)); clear hb4))
  go_ret
  exact yesN rfl HB.out

set_option maxRecDepth 100000 in
set_option maxHeartbeats 3200000 in
theorem nar_2 (kk k n u : Int) (f : Nat) (s : ByteArray) (la ma : Option Addr) (ln lc mn mc : Nat) (w : World) (hn : -9223372036854775808 ≤ n ∧ n ≤ 9223372036854775807) (hu : 0 ≤ u ∧ u ≤ 18446744073709551615) (hk : kindA k = 14) (he1 : ErrCell 0 w) (he2 : ErrCell 1 w) :
    Calls Tryd.prog 3 #[.int .i64 kk, .agg #[.int .i64 k, .int .i64 n, .int .u64 u, .float .f64 f, .string s, .slice la ln lc, .slice ma mn mc]] w (YesN w) := by
  have hst := fun (a : Addr) (m : Mode) (f : Nat) (W : World) => run_store Tryd.prog W a (.float .f64 f) m rfl
  have HZ1 := fun W => Lib.hid (zzFits1_any k n u f s la ma ln lc mn mc W)
  have HCN := fun W => Lib.hid (castNear_any k n u f s la ma ln lc mn mc W)
  have HKI := fun W => Lib.hid (castKindInt_any kk W)
  have HLV := fun W => Lib.hid (castLives_any W)
  obtain ⟨r0, r1⟩ := kindI_range kk
  have E1 := Lib.hid he1
  have E2 := Lib.hid he2
  have HK := Lib.hid hk
  clear he1 he2 hk
  unfold arg7 anyOf at HCN
  go_enter Tryd.func3, Tryd.ntmps3
  go_upto_region 1 with fail
  have q := heap_alloc_new w (.cells #[.int .i64 k, .int .i64 n, .int .u64 u, .float .f64 f, .string s, .slice la ln lc, .slice ma mn mc] 27)
  have hB : Below w.heap.size w (w.alloc (.cells #[.int .i64 k, .int .i64 n, .int .u64 u, .float .f64 f, .string s, .slice la ln lc, .slice ma mn mc] 27)) := (Below.refl _ _).alloc (Nat.le_refl _) _
  generalize w.alloc (.cells #[.int .i64 k, .int .i64 n, .int .u64 u, .float .f64 f, .string s, .slice la ln lc, .slice ma mn mc] 27) = W at q hB ⊢
  have HB := Lib.hid hB
  have c0 : W.cell? ⟨w.heap.size, 0, none⟩ = some (.int .i64 k) := (cell_blk q 0).trans rfl
  have c1 : W.cell? ⟨w.heap.size, 1, none⟩ = some (.int .i64 n) := (cell_blk q 1).trans rfl
  have c2 : W.cell? ⟨w.heap.size, 2, none⟩ = some (.int .u64 u) := (cell_blk q 2).trans rfl
  have c3 : W.cell? ⟨w.heap.size, 3, none⟩ = some (.float .f64 f) := (cell_blk q 3).trans rfl
  have c4 : W.cell? ⟨w.heap.size, 4, none⟩ = some (.string s) := (cell_blk q 4).trans rfl
  have c5 : W.cell? ⟨w.heap.size, 5, none⟩ = some (.slice la ln lc) := (cell_blk q 5).trans rfl
  have c6 : W.cell? ⟨w.heap.size, 6, none⟩ = some (.slice ma mn mc) := (cell_blk q 6).trans rfl
  clear hB
  go_upto_if 12 with ((with_reducible go_at_call 4); refine (HZ1 _).out.mono ?_; rintro e w1 ⟨b, rfl, hb1⟩)
  have q1 := block_kept q hb1
  have HB := Lib.hid (HB.out.trans (hb1.mono HB.out.size))
  clear c0 c1 c2 c3 c4 c5 c6 hb1 q HZ1
  cases b
  · go_wp2
    go_ret
    exact yesN rfl HB.out
  have c0 : w1.cell? ⟨w.heap.size, 0, none⟩ = some (.int .i64 k) := (cell_blk q1 0).trans rfl
  have c1 : w1.cell? ⟨w.heap.size, 1, none⟩ = some (.int .i64 n) := (cell_blk q1 1).trans rfl
  have c2 : w1.cell? ⟨w.heap.size, 2, none⟩ = some (.int .u64 u) := (cell_blk q1 2).trans rfl
  have c3 : w1.cell? ⟨w.heap.size, 3, none⟩ = some (.float .f64 f) := (cell_blk q1 3).trans rfl
  have c4 : w1.cell? ⟨w.heap.size, 4, none⟩ = some (.string s) := (cell_blk q1 4).trans rfl
  have c5 : w1.cell? ⟨w.heap.size, 5, none⟩ = some (.slice la ln lc) := (cell_blk q1 5).trans rfl
  have c6 : w1.cell? ⟨w.heap.size, 6, none⟩ = some (.slice ma mn mc) := (cell_blk q1 6).trans rfl
  go_upto_region 4 with ((with_reducible go_at_call 5); refine (HCN _).out.mono ?_; rintro e w2 ⟨t, rfl, ht, hb2⟩; have HT := Lib.hid ht; clear ht; have q2 := block_kept q1 hb2; have HB := Lib.hid (HB.out.trans (hb2.mono HB.out.size)); clear hb2; have d0 : w2.cell? ⟨w.heap.size, 0, none⟩ = some (.int .i64 k) := (cell_blk q2 0).trans rfl; have d1 : w2.cell? ⟨w.heap.size, 1, none⟩ = some (.int .i64 n) := (cell_blk q2 1).trans rfl; have d2 : w2.cell? ⟨w.heap.size, 2, none⟩ = some (.int .u64 u) := (cell_blk q2 2).trans rfl; have d3 : w2.cell? ⟨w.heap.size, 3, none⟩ = some (.float .f64 f) := (cell_blk q2 3).trans rfl; have d4 : w2.cell? ⟨w.heap.size, 4, none⟩ = some (.string s) := (cell_blk q2 4).trans rfl; have d5 : w2.cell? ⟨w.heap.size, 5, none⟩ = some (.slice la ln lc) := (cell_blk q2 5).trans rfl; have d6 : w2.cell? ⟨w.heap.size, 6, none⟩ = some (.slice ma mn mc) := (cell_blk q2 6).trans rfl; have zf := free_blk q2; have zl := lt_of_block q2)
  clear c0 c1 c2 c3 c4 c5 c6 d0 d1 d2 d3 d4 d5 d6 zf zl q1 HCN
  have g0 : _ = some (Obj.cells #[.int .i64 (kindA k), .int .i64 n, .int .u64 u, .float .f64 f, .string s, .slice la ln lc, .slice ma mn mc] 27 (0, 0)) := blk_set q2 0 (.int .i64 (kindA k))
  have g1 : _ = some (Obj.cells #[.int .i64 (kindA k), .int .i64 n, .int .u64 u, .float .f64 f, .string s, .slice la ln lc, .slice ma mn mc] 27 (0, 0)) := blk_set g0 1 (.int .i64 n)
  have g2 : _ = some (Obj.cells #[.int .i64 (kindA k), .int .i64 n, .int .u64 u, .float .f64 f, .string s, .slice la ln lc, .slice ma mn mc] 27 (0, 0)) := blk_set g1 2 (.int .u64 u)
  have g3 : _ = some (Obj.cells #[.int .i64 (kindA k), .int .i64 n, .int .u64 u, .float .f64 (nearF f), .string s, .slice la ln lc, .slice ma mn mc] 27 (0, 0)) := blk_set g2 3 (.float .f64 (nearF f))
  have g4 : _ = some (Obj.cells #[.int .i64 (kindA k), .int .i64 n, .int .u64 u, .float .f64 (nearF f), .string t, .slice la ln lc, .slice ma mn mc] 27 (0, 0)) := blk_set g3 4 (.string t)
  have g5 : _ = some (Obj.cells #[.int .i64 (kindA k), .int .i64 n, .int .u64 u, .float .f64 (nearF f), .string t, .slice none 0 0, .slice ma mn mc] 27 (0, 0)) := blk_set g4 5 (.slice none 0 0)
  have g6 : _ = some (Obj.cells #[.int .i64 (kindA k), .int .i64 n, .int .u64 u, .float .f64 (nearF f), .string t, .slice none 0 0, .slice none 0 0] 27 (0, 0)) := blk_set g5 6 (.slice none 0 0)
  have HB := Lib.hid (((((((HB.out.setCell (p := ⟨w.heap.size, 0, none⟩) (Nat.le_refl _) (.int .i64 (kindA k))).setCell (p := ⟨w.heap.size, 1, none⟩) (Nat.le_refl _) (.int .i64 n)).setCell (p := ⟨w.heap.size, 2, none⟩) (Nat.le_refl _) (.int .u64 u)).setCell (p := ⟨w.heap.size, 3, none⟩) (Nat.le_refl _) (.float .f64 (nearF f))).setCell (p := ⟨w.heap.size, 4, none⟩) (Nat.le_refl _) (.string t)).setCell (p := ⟨w.heap.size, 5, none⟩) (Nat.le_refl _) (.slice none 0 0)).setCell (p := ⟨w.heap.size, 6, none⟩) (Nat.le_refl _) (.slice none 0 0))
  generalize (((((((w2.setCell ⟨w.heap.size, 0, none⟩ (.int .i64 (kindA k))).setCell ⟨w.heap.size, 1, none⟩ (.int .i64 n)).setCell ⟨w.heap.size, 2, none⟩ (.int .u64 u)).setCell ⟨w.heap.size, 3, none⟩ (.float .f64 (nearF f))).setCell ⟨w.heap.size, 4, none⟩ (.string t)).setCell ⟨w.heap.size, 5, none⟩ (.slice none 0 0)).setCell ⟨w.heap.size, 6, none⟩ (.slice none 0 0)) = w3 at g6 HB ⊢
  have q3 := g6
  clear q2 g0 g1 g2 g3 g4 g5 g6
  have c0 : w3.cell? ⟨w.heap.size, 0, none⟩ = some (.int .i64 (kindA k)) := (cell_blk q3 0).trans rfl
  have c1 : w3.cell? ⟨w.heap.size, 1, none⟩ = some (.int .i64 n) := (cell_blk q3 1).trans rfl
  have c2 : w3.cell? ⟨w.heap.size, 2, none⟩ = some (.int .u64 u) := (cell_blk q3 2).trans rfl
  have c3 : w3.cell? ⟨w.heap.size, 3, none⟩ = some (.float .f64 (nearF f)) := (cell_blk q3 3).trans rfl
  have c4 : w3.cell? ⟨w.heap.size, 4, none⟩ = some (.string t) := (cell_blk q3 4).trans rfl
  have c5 : w3.cell? ⟨w.heap.size, 5, none⟩ = some (.slice none 0 0) := (cell_blk q3 5).trans rfl
  have c6 : w3.cell? ⟨w.heap.size, 6, none⟩ = some (.slice none 0 0) := (cell_blk q3 6).trans rfl
  have hk := HK.out
  have HL := Lib.hid (fun (W : World) h1 h2 => impl_int64_string n u (nearF f) t HT.out W hn hu h1 h2)
  have HCI := Lib.hid (fun (W : World) h1 h2 => castInt_str (kindI kk) n u ⟨r0, r1⟩ (nearF f) t HT.out W hn hu h1 h2)
  have hk14 : (kindA k == 14) = true := by rw [hk]; rfl
  rw [← hk] at HL HCI
  clear hk hn hu HT
  generalize kindI kk = a at HKI HCI r0 r1
  generalize nearF f = fn at HL HCI c3 q3
  generalize kindA k = kx at HL HCI c0 q3 hk14
  unfold anyOf at HL HCI
  go_wp2_with (first
  | ((with_reducible go_at_call 6); refine (HKI _).out.mono ?_; rintro e w4 ⟨rfl, rfl⟩)
  | ((with_reducible go_at_call 7); refine (HL.out _ (E1.out.below HB.out) (E2.out.below HB.out)).mono ?_; rintro e w4 ⟨v4, b4, rfl, hE4, hb4⟩; have c0 := cell_kept hb4 c0; have c1 := cell_kept hb4 c1; have c2 := cell_kept hb4 c2; have c3 := cell_kept hb4 c3; have c4 := cell_kept hb4 c4; have c5 := cell_kept hb4 c5; have c6 := cell_kept hb4 c6; have q3 := block_kept q3 hb4; have HB := Lib.hid (HB.out.trans (hb4.mono HB.out.size)); clear hb4)
  | ((with_reducible go_at_call 8); refine (HCI.out _ (E1.out.below HB.out) (E2.out.below HB.out)).mono ?_; rintro e w4 ⟨v4, b4, rfl, _, hb4⟩; have c0 := cell_kept hb4 c0; have c1 := cell_kept hb4 c1; have c2 := cell_kept hb4 c2; have c3 := cell_kept hb4 c3; have c4 := cell_kept hb4 c4; have c5 := cell_kept hb4 c5; have c6 := cell_kept hb4 c6; have q3 := block_kept q3 hb4; have HB := Lib.hid (HB.out.trans (hb4.mono HB.out.size)); clear hb4)
  | ((with_reducible go_at_call 10); refine (HLV _).out.mono ?_; rintro e w4 ⟨rfl, hb4⟩; have HB := Lib.hid (HB.out.trans (hb4.mono HB.out.size)); clear hb4))
  go_ret
  exact yesN rfl HB.out

theorem nar_any (kk k n u : Int) (f : Nat) (s : ByteArray) (la ma : Option Addr) (ln lc mn mc : Nat) (w : World) (hn : -9223372036854775808 ≤ n ∧ n ≤ 9223372036854775807) (hu : 0 ≤ u ∧ u ≤ 18446744073709551615) (he1 : ErrCell 0 w) (he2 : ErrCell 1 w) :
    Calls Tryd.prog 3 #[.int .i64 kk, .agg #[.int .i64 k, .int .i64 n, .int .u64 u, .float .f64 f, .string s, .slice la ln lc, .slice ma mn mc]] w (YesN w) := by
  by_cases hk : kindA k = 14
  · exact nar_2 kk k n u f s la ma ln lc mn mc w hn hu hk he1 he2
  · exact nar_1 kk k n u f s la ma ln lc mn mc w hn hu hk
end Go.Proofs.YtbcknchbighieaaDoor.E
