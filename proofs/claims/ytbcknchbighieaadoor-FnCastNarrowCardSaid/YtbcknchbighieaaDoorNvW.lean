/- laws.FnCastNarrow's own functions. Written by gen_narw.py. -/
import Derived.Test.YtbcknchbighieaaDoorNvK
import Derived.StillTailTactics
import Derived.Deep.DeepCutAuto
namespace Go.Proofs.YtbcknchbighieaaDoor.E
open Go.RowKit Go.Proofs
set_option linter.unusedVariables false
set_option linter.unusedSimpArgs false
theorem cell_blk {w : World} {b : Nat} {cs : Array Value} {t : TypeId} {fr : Nat × Nat} (h : w.heap[b]? = some (.cells cs t fr)) (i : Nat) : w.cell? ⟨b, i, none⟩ = cs[i]? := by
  simp [World.cell?, h]
theorem free_blk {w : World} {b : Nat} {cs : Array Value} {t : TypeId} (h : w.heap[b]? = some (.cells cs t (0, 0))) (i : Nat) : w.frozen? ⟨b, i, none⟩ = false := by
  simp [World.frozen?, h]
theorem blk_set {w : World} {b : Nat} {cs : Array Value} {t : TypeId} {fr : Nat × Nat} (h : w.heap[b]? = some (.cells cs t fr)) (i : Nat) (v : Value) : (w.setCell ⟨b, i, none⟩ v).heap[b]? = some (.cells (cs.setIfInBounds i v) t fr) := by
  show (w.heap.modify b _)[b]? = _
  rw [Array.getElem?_modify, if_pos rfl, h]
  simp
theorem blk_other {w : World} {b : Nat} {a : Addr} {v : Value} (h : b ≠ a.block) : (w.setCell a v).heap[b]? = w.heap[b]? := Below.heap_setCell _ _ _ _ h
def kindA (k : Int) : Int := k % 18446744073709551616 % 15
theorem kindA_eq (k : Int) : IntKind.i64.wrap ((IntKind.u64.wrap k).tmod 15) = kindA k := by
  have e : IntKind.u64.wrap k = k % 18446744073709551616 := by simp [IntKind.wrap, IntKind.bits, IntKind.signed]
  rw [e, Int.tmod_eq_emod_of_nonneg (by omega)]; unfold kindA; simp [IntKind.wrap, IntKind.bits, IntKind.signed]; omega
/-- A float that is not below 127 (its sign aside) is 0. -/
def nearF (f : Nat) : Nat := if (FloatKind.f64.format.order f 13862009284302209024 == some Ordering.gt) && (FloatKind.f64.format.order f 4638637247447433216 == some Ordering.lt) then f else 0
def arg7 (k n u : Int) (f : Nat) (s : ByteArray) (vl vm : Value) : Value := .agg #[.int .i64 k, .int .i64 n, .int .u64 u, .float .f64 f, .string s, vl, vm]
set_option maxRecDepth 100000 in
set_option maxHeartbeats 1600000 in
theorem castWithin_any (k n u : Int) (f : Nat) (s : ByteArray) (la ma : Option Addr) (ln lc mn mc : Nat) (w : World) :
    Calls Tryd.prog 11 #[arg7 k n u f s (.slice la ln lc) (.slice ma mn mc), .float .f64 4638637247447433216] w fun e w' => ∃ t, e = .returned (anyOf (kindA k) n u (nearF f) t) ∧ t.size ≤ 400 ∧ Below w.heap.size w w' := by
  unfold arg7 anyOf
  have hst := fun (a : Addr) (m : Mode) (f : Nat) (W : World) => run_store Tryd.prog W a (.float .f64 f) m rfl
  have hke := kindA_eq k
  have hng : ∀ W, (Op.unary .neg (.float .f64 4638637247447433216)).run Tryd.prog W = .ok (.float .f64 13862009284302209024) W := fun W => rfl
  go_enter Tryd.func11, Tryd.ntmps11
  go_upto_region 1 with fail
  have q := block_kept (heap_alloc_new w (.cells #[.int .i64 k, .int .i64 n, .int .u64 u, .float .f64 f, .string s, .slice la ln lc, .slice ma mn mc] 27)) ((Below.refl _ _).alloc (Nat.le_refl _) (.cells #[.int .i64 0, .int .i64 0, .int .u64 0, .float .f64 0, .string ⟨#[]⟩, .slice none 0 0, .slice none 0 0] 27))
  have qz := heap_alloc_new (w.alloc (.cells #[.int .i64 k, .int .i64 n, .int .u64 u, .float .f64 f, .string s, .slice la ln lc, .slice ma mn mc] 27)) (.cells #[.int .i64 0, .int .i64 0, .int .u64 0, .float .f64 0, .string ⟨#[]⟩, .slice none 0 0, .slice none 0 0] 27)
  have hsz : (w.alloc (.cells #[.int .i64 k, .int .i64 n, .int .u64 u, .float .f64 f, .string s, .slice la ln lc, .slice ma mn mc] 27)).heap.size = w.heap.size + 1 := by simp
  rw [hsz] at qz
  have hB : Below w.heap.size w ((w.alloc (.cells #[.int .i64 k, .int .i64 n, .int .u64 u, .float .f64 f, .string s, .slice la ln lc, .slice ma mn mc] 27)).alloc (.cells #[.int .i64 0, .int .i64 0, .int .u64 0, .float .f64 0, .string ⟨#[]⟩, .slice none 0 0, .slice none 0 0] 27)) := ((Below.refl _ _).alloc (Nat.le_refl _) _).alloc (by simp) _
  generalize (w.alloc (.cells #[.int .i64 k, .int .i64 n, .int .u64 u, .float .f64 f, .string s, .slice la ln lc, .slice ma mn mc] 27)).alloc (.cells #[.int .i64 0, .int .i64 0, .int .u64 0, .float .f64 0, .string ⟨#[]⟩, .slice none 0 0, .slice none 0 0] 27) = W at q qz hB ⊢
  have HB := Lib.hid hB
  have HZ := Lib.hid qz
  have HQ := Lib.hid q
  have c0 : W.cell? ⟨w.heap.size, 0, none⟩ = some (.int .i64 k) := (cell_blk q 0).trans rfl
  have c1 : W.cell? ⟨w.heap.size, 1, none⟩ = some (.int .i64 n) := (cell_blk q 1).trans rfl
  have c2 : W.cell? ⟨w.heap.size, 2, none⟩ = some (.int .u64 u) := (cell_blk q 2).trans rfl
  have c3 : W.cell? ⟨w.heap.size, 3, none⟩ = some (.float .f64 f) := (cell_blk q 3).trans rfl
  have c4 : W.cell? ⟨w.heap.size, 4, none⟩ = some (.string s) := (cell_blk q 4).trans rfl
  clear hB q qz hsz
  have hmin0 : (0 : Int) ≤ (if (400 : Int) < (s.size : Int) then 400 else (s.size : Int)) := by split <;> omega
  have hmin1 : (if (400 : Int) < (s.size : Int) then 400 else (s.size : Int)) ≤ (s.size : Int) := by split <;> omega
  have hmin2 : (if (400 : Int) < (s.size : Int) then 400 else (s.size : Int)) ≤ 400 := by split <;> omega
  have hsl : ∀ W, (Instr.slice 9 (.string s) none (some (.int .i64 (if (400 : Int) < (s.size : Int) then 400 else (s.size : Int)))) none).run Tryd.prog W = .ok (.string (s.extract 0 (if (400 : Int) < (s.size : Int) then 400 else (s.size : Int)).toNat)) W := fun W => by
    rw [run_slice_string_h (P := Tryd.prog) W 9 s Tryd.underlying9 .i64 _ hmin0 hmin1]
  have ht : (s.extract 0 (if (400 : Int) < (s.size : Int) then 400 else (s.size : Int)).toNat).size ≤ 400 := by simp only [ByteArray.size_extract]; omega
  generalize s.extract 0 (if (400 : Int) < (s.size : Int) then 400 else (s.size : Int)).toNat = t at hsl ht
  have HT := Lib.hid ht
  clear hmin0 hmin1 hmin2 ht
  go_still_tail 19, (by kernel_rfl)
  have hd : Below W.heap.size W W.drew := (Below.refl _ _).drew
  change wpList _ _ _ _ _ W.drew
  generalize W.drew = W2 at hd ⊢
  have q2 := block_kept HQ.out hd
  have qz2 := block_kept HZ.out hd
  have HB := Lib.hid (HB.out.trans (hd.mono HB.out.size))
  clear hd c0 c1 c2 c3 c4 HQ HZ
  have d0 : W2.cell? ⟨w.heap.size, 0, none⟩ = some (.int .i64 k) := (cell_blk q2 0).trans rfl
  have d1 : W2.cell? ⟨w.heap.size, 1, none⟩ = some (.int .i64 n) := (cell_blk q2 1).trans rfl
  have d2 : W2.cell? ⟨w.heap.size, 2, none⟩ = some (.int .u64 u) := (cell_blk q2 2).trans rfl
  have d3 : W2.cell? ⟨w.heap.size, 3, none⟩ = some (.float .f64 f) := (cell_blk q2 3).trans rfl
  have d4 : W2.cell? ⟨w.heap.size, 4, none⟩ = some (.string s) := (cell_blk q2 4).trans rfl
  have d5 : W2.cell? ⟨w.heap.size, 5, none⟩ = some (.slice la ln lc) := (cell_blk q2 5).trans rfl
  have d6 : W2.cell? ⟨w.heap.size, 6, none⟩ = some (.slice ma mn mc) := (cell_blk q2 6).trans rfl
  have zf := free_blk q2
  have zl := lt_of_block q2
  go_upto_region 2 with fail
  generalize (if (400 : Int) < (s.size : Int) then 400 else (s.size : Int)) = mn0
  have b0 : _ = some (Obj.cells #[.int .i64 (kindA k), .int .i64 n, .int .u64 u, .float .f64 f, .string s, .slice la ln lc, .slice ma mn mc] 27 (0, 0)) := blk_set q2 0 (.int .i64 (kindA k))
  have b1 : _ = some (Obj.cells #[.int .i64 (kindA k), .int .i64 n, .int .u64 u, .float .f64 f, .string s, .slice la ln lc, .slice ma mn mc] 27 (0, 0)) := blk_set b0 1 (.int .i64 n)
  have b2 : _ = some (Obj.cells #[.int .i64 (kindA k), .int .i64 n, .int .u64 u, .float .f64 f, .string s, .slice la ln lc, .slice ma mn mc] 27 (0, 0)) := blk_set b1 2 (.int .u64 u)
  have b3 : _ = some (Obj.cells #[.int .i64 (kindA k), .int .i64 n, .int .u64 u, .float .f64 f, .string s, .slice la ln lc, .slice ma mn mc] 27 (0, 0)) := blk_set b2 3 (.float .f64 f)
  have b4 : _ = some (Obj.cells #[.int .i64 (kindA k), .int .i64 n, .int .u64 u, .float .f64 f, .string t, .slice la ln lc, .slice ma mn mc] 27 (0, 0)) := blk_set b3 4 (.string t)
  have b5 : _ = some (Obj.cells #[.int .i64 (kindA k), .int .i64 n, .int .u64 u, .float .f64 f, .string t, .slice none 0 0, .slice ma mn mc] 27 (0, 0)) := blk_set b4 5 (.slice none 0 0)
  have b6 : _ = some (Obj.cells #[.int .i64 (kindA k), .int .i64 n, .int .u64 u, .float .f64 f, .string t, .slice none 0 0, .slice none 0 0] 27 (0, 0)) := blk_set b5 6 (.slice none 0 0)
  have qz3 : (((((((W2.setCell ⟨w.heap.size, 0, none⟩ (.int .i64 (kindA k))).setCell ⟨w.heap.size, 1, none⟩ (.int .i64 n)).setCell ⟨w.heap.size, 2, none⟩ (.int .u64 u)).setCell ⟨w.heap.size, 3, none⟩ (.float .f64 f)).setCell ⟨w.heap.size, 4, none⟩ (.string t)).setCell ⟨w.heap.size, 5, none⟩ (.slice none 0 0)).setCell ⟨w.heap.size, 6, none⟩ (.slice none 0 0)).heap[w.heap.size + 1]? = _ := ((blk_other (a := ⟨w.heap.size, 6, none⟩) (Nat.succ_ne_self _)).trans ((blk_other (a := ⟨w.heap.size, 5, none⟩) (Nat.succ_ne_self _)).trans ((blk_other (a := ⟨w.heap.size, 4, none⟩) (Nat.succ_ne_self _)).trans ((blk_other (a := ⟨w.heap.size, 3, none⟩) (Nat.succ_ne_self _)).trans ((blk_other (a := ⟨w.heap.size, 2, none⟩) (Nat.succ_ne_self _)).trans ((blk_other (a := ⟨w.heap.size, 1, none⟩) (Nat.succ_ne_self _)).trans (blk_other (a := ⟨w.heap.size, 0, none⟩) (Nat.succ_ne_self _)))))))).trans qz2
  have HB := Lib.hid (((((((HB.out.setCell (p := ⟨w.heap.size, 0, none⟩) (Nat.le_refl _) (.int .i64 (kindA k))).setCell (p := ⟨w.heap.size, 1, none⟩) (Nat.le_refl _) (.int .i64 n)).setCell (p := ⟨w.heap.size, 2, none⟩) (Nat.le_refl _) (.int .u64 u)).setCell (p := ⟨w.heap.size, 3, none⟩) (Nat.le_refl _) (.float .f64 f)).setCell (p := ⟨w.heap.size, 4, none⟩) (Nat.le_refl _) (.string t)).setCell (p := ⟨w.heap.size, 5, none⟩) (Nat.le_refl _) (.slice none 0 0)).setCell (p := ⟨w.heap.size, 6, none⟩) (Nat.le_refl _) (.slice none 0 0))
  generalize (((((((W2.setCell ⟨w.heap.size, 0, none⟩ (.int .i64 (kindA k))).setCell ⟨w.heap.size, 1, none⟩ (.int .i64 n)).setCell ⟨w.heap.size, 2, none⟩ (.int .u64 u)).setCell ⟨w.heap.size, 3, none⟩ (.float .f64 f)).setCell ⟨w.heap.size, 4, none⟩ (.string t)).setCell ⟨w.heap.size, 5, none⟩ (.slice none 0 0)).setCell ⟨w.heap.size, 6, none⟩ (.slice none 0 0)) = W3 at b6 qz3 HB ⊢
  clear q2 qz2 zf zl d0 d1 d2 d3 d4 d5 d6 b0 b1 b2 b3 b4 b5
  have c0 : W3.cell? ⟨w.heap.size, 0, none⟩ = some (.int .i64 (kindA k)) := (cell_blk b6 0).trans rfl
  have c1 : W3.cell? ⟨w.heap.size, 1, none⟩ = some (.int .i64 n) := (cell_blk b6 1).trans rfl
  have c2 : W3.cell? ⟨w.heap.size, 2, none⟩ = some (.int .u64 u) := (cell_blk b6 2).trans rfl
  have c3 : W3.cell? ⟨w.heap.size, 3, none⟩ = some (.float .f64 f) := (cell_blk b6 3).trans rfl
  have c4 : W3.cell? ⟨w.heap.size, 4, none⟩ = some (.string t) := (cell_blk b6 4).trans rfl
  have c5 : W3.cell? ⟨w.heap.size, 5, none⟩ = some (.slice none 0 0) := (cell_blk b6 5).trans rfl
  have c6 : W3.cell? ⟨w.heap.size, 6, none⟩ = some (.slice none 0 0) := (cell_blk b6 6).trans rfl
  cases h1 : (FloatKind.f64.format.order f 13862009284302209024 == some Ordering.gt)
  · have hnf : nearF f = 0 := by unfold nearF; rw [h1]; rfl
    have z3 := free_blk b6
    have l3 := lt_of_block b6
    go_upto_region 4 with fail
    have b7 : _ = some (Obj.cells #[.int .i64 (kindA k), .int .i64 n, .int .u64 u, .float .f64 0, .string t, .slice none 0 0, .slice none 0 0] 27 (0, 0)) := blk_set b6 3 (.float .f64 0)
    have qz4 := (blk_other (w := W3) (a := ⟨w.heap.size, 3, none⟩) (v := .float .f64 0) (Nat.succ_ne_self _)).trans qz3
    have HB := Lib.hid (HB.out.setCell (p := ⟨w.heap.size, 3, none⟩) (Nat.le_refl _) (.float .f64 0))
    generalize W3.setCell ⟨w.heap.size, 3, none⟩ (.float .f64 0) = W4 at b7 qz4 HB ⊢
    clear z3 l3 c0 c1 c2 c3 c4 c5 c6 b6 qz3
    have e0 : W4.cell? ⟨w.heap.size, 0, none⟩ = some (.int .i64 (kindA k)) := (cell_blk b7 0).trans rfl
    have e1 : W4.cell? ⟨w.heap.size, 1, none⟩ = some (.int .i64 n) := (cell_blk b7 1).trans rfl
    have e2 : W4.cell? ⟨w.heap.size, 2, none⟩ = some (.int .u64 u) := (cell_blk b7 2).trans rfl
    have e3 : W4.cell? ⟨w.heap.size, 3, none⟩ = some (.float .f64 0) := (cell_blk b7 3).trans rfl
    have e4 : W4.cell? ⟨w.heap.size, 4, none⟩ = some (.string t) := (cell_blk b7 4).trans rfl
    have e5 : W4.cell? ⟨w.heap.size, 5, none⟩ = some (.slice none 0 0) := (cell_blk b7 5).trans rfl
    have e6 : W4.cell? ⟨w.heap.size, 6, none⟩ = some (.slice none 0 0) := (cell_blk b7 6).trans rfl
    have f0 : W4.cell? ⟨w.heap.size + 1, 0, none⟩ = some (.int .i64 0) := (cell_blk qz4 0).trans rfl
    have f1 : W4.cell? ⟨w.heap.size + 1, 1, none⟩ = some (.int .i64 0) := (cell_blk qz4 1).trans rfl
    have f2 : W4.cell? ⟨w.heap.size + 1, 2, none⟩ = some (.int .u64 0) := (cell_blk qz4 2).trans rfl
    have f3 : W4.cell? ⟨w.heap.size + 1, 3, none⟩ = some (.float .f64 0) := (cell_blk qz4 3).trans rfl
    have f4 : W4.cell? ⟨w.heap.size + 1, 4, none⟩ = some (.string ⟨#[]⟩) := (cell_blk qz4 4).trans rfl
    have f5 : W4.cell? ⟨w.heap.size + 1, 5, none⟩ = some (.slice none 0 0) := (cell_blk qz4 5).trans rfl
    have f6 : W4.cell? ⟨w.heap.size + 1, 6, none⟩ = some (.slice none 0 0) := (cell_blk qz4 6).trans rfl
    have zf := free_blk qz4
    have zl := lt_of_block qz4
    go_wp2
    have g0 : _ = some (Obj.cells #[.int .i64 (kindA k), .int .i64 0, .int .u64 0, .float .f64 0, .string ⟨#[]⟩, .slice none 0 0, .slice none 0 0] 27 (0, 0)) := blk_set qz4 0 (.int .i64 (kindA k))
    have g1 : _ = some (Obj.cells #[.int .i64 (kindA k), .int .i64 n, .int .u64 0, .float .f64 0, .string ⟨#[]⟩, .slice none 0 0, .slice none 0 0] 27 (0, 0)) := blk_set g0 1 (.int .i64 n)
    have g2 : _ = some (Obj.cells #[.int .i64 (kindA k), .int .i64 n, .int .u64 u, .float .f64 0, .string ⟨#[]⟩, .slice none 0 0, .slice none 0 0] 27 (0, 0)) := blk_set g1 2 (.int .u64 u)
    have g3 : _ = some (Obj.cells #[.int .i64 (kindA k), .int .i64 n, .int .u64 u, .float .f64 0, .string ⟨#[]⟩, .slice none 0 0, .slice none 0 0] 27 (0, 0)) := blk_set g2 3 (.float .f64 0)
    have g4 : _ = some (Obj.cells #[.int .i64 (kindA k), .int .i64 n, .int .u64 u, .float .f64 0, .string t, .slice none 0 0, .slice none 0 0] 27 (0, 0)) := blk_set g3 4 (.string t)
    have g5 : _ = some (Obj.cells #[.int .i64 (kindA k), .int .i64 n, .int .u64 u, .float .f64 0, .string t, .slice none 0 0, .slice none 0 0] 27 (0, 0)) := blk_set g4 5 (.slice none 0 0)
    have g6 : _ = some (Obj.cells #[.int .i64 (kindA k), .int .i64 n, .int .u64 u, .float .f64 0, .string t, .slice none 0 0, .slice none 0 0] 27 (0, 0)) := blk_set g5 6 (.slice none 0 0)
    refine bodyPost_ret (results_cell_row rfl _ _ _ _ _ _ _ rfl g6 Tryd.underlying27 rfl (by kernel_rfl)) rfl ?_
    exact ⟨t, by first | rfl | (rw [hnf]; done) | (rw [hnf]; rfl), HT.out, (((((((HB.out.setCell (p := ⟨w.heap.size + 1, 0, none⟩) (Nat.le_succ _) (.int .i64 (kindA k))).setCell (p := ⟨w.heap.size + 1, 1, none⟩) (Nat.le_succ _) (.int .i64 n)).setCell (p := ⟨w.heap.size + 1, 2, none⟩) (Nat.le_succ _) (.int .u64 u)).setCell (p := ⟨w.heap.size + 1, 3, none⟩) (Nat.le_succ _) (.float .f64 0)).setCell (p := ⟨w.heap.size + 1, 4, none⟩) (Nat.le_succ _) (.string t)).setCell (p := ⟨w.heap.size + 1, 5, none⟩) (Nat.le_succ _) (.slice none 0 0)).setCell (p := ⟨w.heap.size + 1, 6, none⟩) (Nat.le_succ _) (.slice none 0 0))⟩
  · cases h2 : (FloatKind.f64.format.order f 4638637247447433216 == some Ordering.lt)
    · have hnf : nearF f = 0 := by unfold nearF; rw [h1, h2]; rfl
      have z3 := free_blk b6
      have l3 := lt_of_block b6
      go_upto_region 4 with fail
      have b7 : _ = some (Obj.cells #[.int .i64 (kindA k), .int .i64 n, .int .u64 u, .float .f64 0, .string t, .slice none 0 0, .slice none 0 0] 27 (0, 0)) := blk_set b6 3 (.float .f64 0)
      have qz4 := (blk_other (w := W3) (a := ⟨w.heap.size, 3, none⟩) (v := .float .f64 0) (Nat.succ_ne_self _)).trans qz3
      have HB := Lib.hid (HB.out.setCell (p := ⟨w.heap.size, 3, none⟩) (Nat.le_refl _) (.float .f64 0))
      generalize W3.setCell ⟨w.heap.size, 3, none⟩ (.float .f64 0) = W4 at b7 qz4 HB ⊢
      clear z3 l3 c0 c1 c2 c3 c4 c5 c6 b6 qz3
      have e0 : W4.cell? ⟨w.heap.size, 0, none⟩ = some (.int .i64 (kindA k)) := (cell_blk b7 0).trans rfl
      have e1 : W4.cell? ⟨w.heap.size, 1, none⟩ = some (.int .i64 n) := (cell_blk b7 1).trans rfl
      have e2 : W4.cell? ⟨w.heap.size, 2, none⟩ = some (.int .u64 u) := (cell_blk b7 2).trans rfl
      have e3 : W4.cell? ⟨w.heap.size, 3, none⟩ = some (.float .f64 0) := (cell_blk b7 3).trans rfl
      have e4 : W4.cell? ⟨w.heap.size, 4, none⟩ = some (.string t) := (cell_blk b7 4).trans rfl
      have e5 : W4.cell? ⟨w.heap.size, 5, none⟩ = some (.slice none 0 0) := (cell_blk b7 5).trans rfl
      have e6 : W4.cell? ⟨w.heap.size, 6, none⟩ = some (.slice none 0 0) := (cell_blk b7 6).trans rfl
      have f0 : W4.cell? ⟨w.heap.size + 1, 0, none⟩ = some (.int .i64 0) := (cell_blk qz4 0).trans rfl
      have f1 : W4.cell? ⟨w.heap.size + 1, 1, none⟩ = some (.int .i64 0) := (cell_blk qz4 1).trans rfl
      have f2 : W4.cell? ⟨w.heap.size + 1, 2, none⟩ = some (.int .u64 0) := (cell_blk qz4 2).trans rfl
      have f3 : W4.cell? ⟨w.heap.size + 1, 3, none⟩ = some (.float .f64 0) := (cell_blk qz4 3).trans rfl
      have f4 : W4.cell? ⟨w.heap.size + 1, 4, none⟩ = some (.string ⟨#[]⟩) := (cell_blk qz4 4).trans rfl
      have f5 : W4.cell? ⟨w.heap.size + 1, 5, none⟩ = some (.slice none 0 0) := (cell_blk qz4 5).trans rfl
      have f6 : W4.cell? ⟨w.heap.size + 1, 6, none⟩ = some (.slice none 0 0) := (cell_blk qz4 6).trans rfl
      have zf := free_blk qz4
      have zl := lt_of_block qz4
      go_wp2
      have g0 : _ = some (Obj.cells #[.int .i64 (kindA k), .int .i64 0, .int .u64 0, .float .f64 0, .string ⟨#[]⟩, .slice none 0 0, .slice none 0 0] 27 (0, 0)) := blk_set qz4 0 (.int .i64 (kindA k))
      have g1 : _ = some (Obj.cells #[.int .i64 (kindA k), .int .i64 n, .int .u64 0, .float .f64 0, .string ⟨#[]⟩, .slice none 0 0, .slice none 0 0] 27 (0, 0)) := blk_set g0 1 (.int .i64 n)
      have g2 : _ = some (Obj.cells #[.int .i64 (kindA k), .int .i64 n, .int .u64 u, .float .f64 0, .string ⟨#[]⟩, .slice none 0 0, .slice none 0 0] 27 (0, 0)) := blk_set g1 2 (.int .u64 u)
      have g3 : _ = some (Obj.cells #[.int .i64 (kindA k), .int .i64 n, .int .u64 u, .float .f64 0, .string ⟨#[]⟩, .slice none 0 0, .slice none 0 0] 27 (0, 0)) := blk_set g2 3 (.float .f64 0)
      have g4 : _ = some (Obj.cells #[.int .i64 (kindA k), .int .i64 n, .int .u64 u, .float .f64 0, .string t, .slice none 0 0, .slice none 0 0] 27 (0, 0)) := blk_set g3 4 (.string t)
      have g5 : _ = some (Obj.cells #[.int .i64 (kindA k), .int .i64 n, .int .u64 u, .float .f64 0, .string t, .slice none 0 0, .slice none 0 0] 27 (0, 0)) := blk_set g4 5 (.slice none 0 0)
      have g6 : _ = some (Obj.cells #[.int .i64 (kindA k), .int .i64 n, .int .u64 u, .float .f64 0, .string t, .slice none 0 0, .slice none 0 0] 27 (0, 0)) := blk_set g5 6 (.slice none 0 0)
      refine bodyPost_ret (results_cell_row rfl _ _ _ _ _ _ _ rfl g6 Tryd.underlying27 rfl (by kernel_rfl)) rfl ?_
      exact ⟨t, by first | rfl | (rw [hnf]; done) | (rw [hnf]; rfl), HT.out, (((((((HB.out.setCell (p := ⟨w.heap.size + 1, 0, none⟩) (Nat.le_succ _) (.int .i64 (kindA k))).setCell (p := ⟨w.heap.size + 1, 1, none⟩) (Nat.le_succ _) (.int .i64 n)).setCell (p := ⟨w.heap.size + 1, 2, none⟩) (Nat.le_succ _) (.int .u64 u)).setCell (p := ⟨w.heap.size + 1, 3, none⟩) (Nat.le_succ _) (.float .f64 0)).setCell (p := ⟨w.heap.size + 1, 4, none⟩) (Nat.le_succ _) (.string t)).setCell (p := ⟨w.heap.size + 1, 5, none⟩) (Nat.le_succ _) (.slice none 0 0)).setCell (p := ⟨w.heap.size + 1, 6, none⟩) (Nat.le_succ _) (.slice none 0 0))⟩
    · have hnf : nearF f = f := by unfold nearF; rw [h1, h2]; rfl
      go_upto_region 4 with fail
      clear c0 c1 c2 c3 c4 c5 c6
      have e0 : W3.cell? ⟨w.heap.size, 0, none⟩ = some (.int .i64 (kindA k)) := (cell_blk b6 0).trans rfl
      have e1 : W3.cell? ⟨w.heap.size, 1, none⟩ = some (.int .i64 n) := (cell_blk b6 1).trans rfl
      have e2 : W3.cell? ⟨w.heap.size, 2, none⟩ = some (.int .u64 u) := (cell_blk b6 2).trans rfl
      have e3 : W3.cell? ⟨w.heap.size, 3, none⟩ = some (.float .f64 f) := (cell_blk b6 3).trans rfl
      have e4 : W3.cell? ⟨w.heap.size, 4, none⟩ = some (.string t) := (cell_blk b6 4).trans rfl
      have e5 : W3.cell? ⟨w.heap.size, 5, none⟩ = some (.slice none 0 0) := (cell_blk b6 5).trans rfl
      have e6 : W3.cell? ⟨w.heap.size, 6, none⟩ = some (.slice none 0 0) := (cell_blk b6 6).trans rfl
      have f0 : W3.cell? ⟨w.heap.size + 1, 0, none⟩ = some (.int .i64 0) := (cell_blk qz3 0).trans rfl
      have f1 : W3.cell? ⟨w.heap.size + 1, 1, none⟩ = some (.int .i64 0) := (cell_blk qz3 1).trans rfl
      have f2 : W3.cell? ⟨w.heap.size + 1, 2, none⟩ = some (.int .u64 0) := (cell_blk qz3 2).trans rfl
      have f3 : W3.cell? ⟨w.heap.size + 1, 3, none⟩ = some (.float .f64 0) := (cell_blk qz3 3).trans rfl
      have f4 : W3.cell? ⟨w.heap.size + 1, 4, none⟩ = some (.string ⟨#[]⟩) := (cell_blk qz3 4).trans rfl
      have f5 : W3.cell? ⟨w.heap.size + 1, 5, none⟩ = some (.slice none 0 0) := (cell_blk qz3 5).trans rfl
      have f6 : W3.cell? ⟨w.heap.size + 1, 6, none⟩ = some (.slice none 0 0) := (cell_blk qz3 6).trans rfl
      have zf := free_blk qz3
      have zl := lt_of_block qz3
      go_wp2
      have g0 : _ = some (Obj.cells #[.int .i64 (kindA k), .int .i64 0, .int .u64 0, .float .f64 0, .string ⟨#[]⟩, .slice none 0 0, .slice none 0 0] 27 (0, 0)) := blk_set qz3 0 (.int .i64 (kindA k))
      have g1 : _ = some (Obj.cells #[.int .i64 (kindA k), .int .i64 n, .int .u64 0, .float .f64 0, .string ⟨#[]⟩, .slice none 0 0, .slice none 0 0] 27 (0, 0)) := blk_set g0 1 (.int .i64 n)
      have g2 : _ = some (Obj.cells #[.int .i64 (kindA k), .int .i64 n, .int .u64 u, .float .f64 0, .string ⟨#[]⟩, .slice none 0 0, .slice none 0 0] 27 (0, 0)) := blk_set g1 2 (.int .u64 u)
      have g3 : _ = some (Obj.cells #[.int .i64 (kindA k), .int .i64 n, .int .u64 u, .float .f64 f, .string ⟨#[]⟩, .slice none 0 0, .slice none 0 0] 27 (0, 0)) := blk_set g2 3 (.float .f64 f)
      have g4 : _ = some (Obj.cells #[.int .i64 (kindA k), .int .i64 n, .int .u64 u, .float .f64 f, .string t, .slice none 0 0, .slice none 0 0] 27 (0, 0)) := blk_set g3 4 (.string t)
      have g5 : _ = some (Obj.cells #[.int .i64 (kindA k), .int .i64 n, .int .u64 u, .float .f64 f, .string t, .slice none 0 0, .slice none 0 0] 27 (0, 0)) := blk_set g4 5 (.slice none 0 0)
      have g6 : _ = some (Obj.cells #[.int .i64 (kindA k), .int .i64 n, .int .u64 u, .float .f64 f, .string t, .slice none 0 0, .slice none 0 0] 27 (0, 0)) := blk_set g5 6 (.slice none 0 0)
      refine bodyPost_ret (results_cell_row rfl _ _ _ _ _ _ _ rfl g6 Tryd.underlying27 rfl (by kernel_rfl)) rfl ?_
      exact ⟨t, by first | rfl | (rw [hnf]; done) | (rw [hnf]; rfl), HT.out, (((((((HB.out.setCell (p := ⟨w.heap.size + 1, 0, none⟩) (Nat.le_succ _) (.int .i64 (kindA k))).setCell (p := ⟨w.heap.size + 1, 1, none⟩) (Nat.le_succ _) (.int .i64 n)).setCell (p := ⟨w.heap.size + 1, 2, none⟩) (Nat.le_succ _) (.int .u64 u)).setCell (p := ⟨w.heap.size + 1, 3, none⟩) (Nat.le_succ _) (.float .f64 f)).setCell (p := ⟨w.heap.size + 1, 4, none⟩) (Nat.le_succ _) (.string t)).setCell (p := ⟨w.heap.size + 1, 5, none⟩) (Nat.le_succ _) (.slice none 0 0)).setCell (p := ⟨w.heap.size + 1, 6, none⟩) (Nat.le_succ _) (.slice none 0 0))⟩

set_option maxRecDepth 100000 in
set_option maxHeartbeats 1600000 in
theorem castNear_any (k n u : Int) (f : Nat) (s : ByteArray) (la ma : Option Addr) (ln lc mn mc : Nat) (w : World) :
    Calls Tryd.prog 5 #[arg7 k n u f s (.slice la ln lc) (.slice ma mn mc)] w fun e w' => ∃ t, e = .returned (anyOf (kindA k) n u (nearF f) t) ∧ t.size ≤ 400 ∧ Below w.heap.size w w' := by
  have HW := fun W => Lib.hid (castWithin_any k n u f s la ma ln lc mn mc W)
  unfold arg7 anyOf at HW
  unfold arg7 anyOf
  have hst := fun (a : Addr) (m : Mode) (f : Nat) (W : World) => run_store Tryd.prog W a (.float .f64 f) m rfl
  go_enter Tryd.func5, Tryd.ntmps5
  go_upto_region 1 with fail
  have q := block_kept (heap_alloc_new w (.cells #[.int .i64 k, .int .i64 n, .int .u64 u, .float .f64 f, .string s, .slice la ln lc, .slice ma mn mc] 27)) ((Below.refl _ _).alloc (Nat.le_refl _) (.cells #[.int .i64 0, .int .i64 0, .int .u64 0, .float .f64 0, .string ⟨#[]⟩, .slice none 0 0, .slice none 0 0] 27))
  have qz := heap_alloc_new (w.alloc (.cells #[.int .i64 k, .int .i64 n, .int .u64 u, .float .f64 f, .string s, .slice la ln lc, .slice ma mn mc] 27)) (.cells #[.int .i64 0, .int .i64 0, .int .u64 0, .float .f64 0, .string ⟨#[]⟩, .slice none 0 0, .slice none 0 0] 27)
  have hsz : (w.alloc (.cells #[.int .i64 k, .int .i64 n, .int .u64 u, .float .f64 f, .string s, .slice la ln lc, .slice ma mn mc] 27)).heap.size = w.heap.size + 1 := by simp
  rw [hsz] at qz
  have hB : Below w.heap.size w ((w.alloc (.cells #[.int .i64 k, .int .i64 n, .int .u64 u, .float .f64 f, .string s, .slice la ln lc, .slice ma mn mc] 27)).alloc (.cells #[.int .i64 0, .int .i64 0, .int .u64 0, .float .f64 0, .string ⟨#[]⟩, .slice none 0 0, .slice none 0 0] 27)) := ((Below.refl _ _).alloc (Nat.le_refl _) _).alloc (by simp) _
  generalize (w.alloc (.cells #[.int .i64 k, .int .i64 n, .int .u64 u, .float .f64 f, .string s, .slice la ln lc, .slice ma mn mc] 27)).alloc (.cells #[.int .i64 0, .int .i64 0, .int .u64 0, .float .f64 0, .string ⟨#[]⟩, .slice none 0 0, .slice none 0 0] 27) = W at q qz hB ⊢
  have HB := Lib.hid hB
  have HZ := Lib.hid qz
  have c0 : W.cell? ⟨w.heap.size, 0, none⟩ = some (.int .i64 k) := (cell_blk q 0).trans rfl
  have c1 : W.cell? ⟨w.heap.size, 1, none⟩ = some (.int .i64 n) := (cell_blk q 1).trans rfl
  have c2 : W.cell? ⟨w.heap.size, 2, none⟩ = some (.int .u64 u) := (cell_blk q 2).trans rfl
  have c3 : W.cell? ⟨w.heap.size, 3, none⟩ = some (.float .f64 f) := (cell_blk q 3).trans rfl
  have c4 : W.cell? ⟨w.heap.size, 4, none⟩ = some (.string s) := (cell_blk q 4).trans rfl
  have c5 : W.cell? ⟨w.heap.size, 5, none⟩ = some (.slice la ln lc) := (cell_blk q 5).trans rfl
  have c6 : W.cell? ⟨w.heap.size, 6, none⟩ = some (.slice ma mn mc) := (cell_blk q 6).trans rfl
  clear hB q qz hsz
  go_wp2_with ((with_reducible go_at_call 11); refine ((HW _).out).mono ?_; rintro e w1 ⟨t, rfl, ht, hb1⟩; have HT := Lib.hid ht; clear ht; have q1 := block_kept HZ.out hb1; have HB := Lib.hid (HB.out.trans (hb1.mono HB.out.size)); clear hb1; have f0 : w1.cell? ⟨w.heap.size + 1, 0, none⟩ = some (.int .i64 0) := (cell_blk q1 0).trans rfl; have f1 : w1.cell? ⟨w.heap.size + 1, 1, none⟩ = some (.int .i64 0) := (cell_blk q1 1).trans rfl; have f2 : w1.cell? ⟨w.heap.size + 1, 2, none⟩ = some (.int .u64 0) := (cell_blk q1 2).trans rfl; have f3 : w1.cell? ⟨w.heap.size + 1, 3, none⟩ = some (.float .f64 0) := (cell_blk q1 3).trans rfl; have f4 : w1.cell? ⟨w.heap.size + 1, 4, none⟩ = some (.string ⟨#[]⟩) := (cell_blk q1 4).trans rfl; have f5 : w1.cell? ⟨w.heap.size + 1, 5, none⟩ = some (.slice none 0 0) := (cell_blk q1 5).trans rfl; have f6 : w1.cell? ⟨w.heap.size + 1, 6, none⟩ = some (.slice none 0 0) := (cell_blk q1 6).trans rfl; have zf := free_blk q1; have zl := lt_of_block q1; have HQ := Lib.hid q1; clear q1)
  have q1 := HQ.out
  have g0 : _ = some (Obj.cells #[.int .i64 (kindA k), .int .i64 0, .int .u64 0, .float .f64 0, .string ⟨#[]⟩, .slice none 0 0, .slice none 0 0] 27 (0, 0)) := blk_set q1 0 (.int .i64 (kindA k))
  have g1 : _ = some (Obj.cells #[.int .i64 (kindA k), .int .i64 n, .int .u64 0, .float .f64 0, .string ⟨#[]⟩, .slice none 0 0, .slice none 0 0] 27 (0, 0)) := blk_set g0 1 (.int .i64 n)
  have g2 : _ = some (Obj.cells #[.int .i64 (kindA k), .int .i64 n, .int .u64 u, .float .f64 0, .string ⟨#[]⟩, .slice none 0 0, .slice none 0 0] 27 (0, 0)) := blk_set g1 2 (.int .u64 u)
  have g3 : _ = some (Obj.cells #[.int .i64 (kindA k), .int .i64 n, .int .u64 u, .float .f64 (nearF f), .string ⟨#[]⟩, .slice none 0 0, .slice none 0 0] 27 (0, 0)) := blk_set g2 3 (.float .f64 (nearF f))
  have g4 : _ = some (Obj.cells #[.int .i64 (kindA k), .int .i64 n, .int .u64 u, .float .f64 (nearF f), .string t, .slice none 0 0, .slice none 0 0] 27 (0, 0)) := blk_set g3 4 (.string t)
  have g5 : _ = some (Obj.cells #[.int .i64 (kindA k), .int .i64 n, .int .u64 u, .float .f64 (nearF f), .string t, .slice none 0 0, .slice none 0 0] 27 (0, 0)) := blk_set g4 5 (.slice none 0 0)
  have g6 : _ = some (Obj.cells #[.int .i64 (kindA k), .int .i64 n, .int .u64 u, .float .f64 (nearF f), .string t, .slice none 0 0, .slice none 0 0] 27 (0, 0)) := blk_set g5 6 (.slice none 0 0)
  refine bodyPost_ret (results_cell_row rfl _ _ _ _ _ _ _ rfl g6 Tryd.underlying27 rfl (by kernel_rfl)) rfl ?_
  exact ⟨t, rfl, HT.out, (((((((HB.out.setCell (p := ⟨w.heap.size + 1, 0, none⟩) (Nat.le_succ _) (.int .i64 (kindA k))).setCell (p := ⟨w.heap.size + 1, 1, none⟩) (Nat.le_succ _) (.int .i64 n)).setCell (p := ⟨w.heap.size + 1, 2, none⟩) (Nat.le_succ _) (.int .u64 u)).setCell (p := ⟨w.heap.size + 1, 3, none⟩) (Nat.le_succ _) (.float .f64 (nearF f))).setCell (p := ⟨w.heap.size + 1, 4, none⟩) (Nat.le_succ _) (.string t)).setCell (p := ⟨w.heap.size + 1, 5, none⟩) (Nat.le_succ _) (.slice none 0 0)).setCell (p := ⟨w.heap.size + 1, 6, none⟩) (Nat.le_succ _) (.slice none 0 0))⟩

set_option maxRecDepth 100000 in
theorem castInt_int8 (k n u : Int) (f : Nat) (s : ByteArray) (P : Int → Bool → Prop) (w : World) (HF : ∀ W, Below w.heap.size w W → Calls Tryd.prog 14 #[anyOf k n u f s] W fun e w' => ∃ v b, e = .returned (.tuple #[.int .i64 v, .bool b]) ∧ P v b ∧ Below W.heap.size W w') :
    Calls Tryd.prog 8 #[.int .i64 3, anyOf k n u f s] w fun e w' => ∃ v b, e = .returned (.tuple #[.int .i64 v, .bool b]) ∧ P v b ∧ Below w.heap.size w w' := by
  have hst := fun (a : Addr) (m : Mode) (f : Nat) (W : World) => run_store Tryd.prog W a (.float .f64 f) m rfl
  have HF := Lib.hid (HF _ ((Below.refl _ _).alloc (Nat.le_refl _) (.cells #[.int .i64 k, .int .i64 n, .int .u64 u, .float .f64 f, .string s, .slice none 0 0, .slice none 0 0] 27)))
  unfold anyOf at HF ⊢
  go_enter Tryd.func8, Tryd.ntmps8
  go_wp2_with ((with_reducible go_at_call 14); refine HF.out.mono ?_; rintro e w1 ⟨v, b, rfl, hP, hb1⟩)
  go_ret2
  exact ⟨v, b, rfl, hP, below_new hb1⟩

set_option maxRecDepth 100000 in
theorem castInt_int16 (k n u : Int) (f : Nat) (s : ByteArray) (P : Int → Bool → Prop) (w : World) (HF : ∀ W, Below w.heap.size w W → Calls Tryd.prog 15 #[anyOf k n u f s] W fun e w' => ∃ v b, e = .returned (.tuple #[.int .i64 v, .bool b]) ∧ P v b ∧ Below W.heap.size W w') :
    Calls Tryd.prog 8 #[.int .i64 4, anyOf k n u f s] w fun e w' => ∃ v b, e = .returned (.tuple #[.int .i64 v, .bool b]) ∧ P v b ∧ Below w.heap.size w w' := by
  have hst := fun (a : Addr) (m : Mode) (f : Nat) (W : World) => run_store Tryd.prog W a (.float .f64 f) m rfl
  have HF := Lib.hid (HF _ ((Below.refl _ _).alloc (Nat.le_refl _) (.cells #[.int .i64 k, .int .i64 n, .int .u64 u, .float .f64 f, .string s, .slice none 0 0, .slice none 0 0] 27)))
  unfold anyOf at HF ⊢
  go_enter Tryd.func8, Tryd.ntmps8
  go_wp2_with ((with_reducible go_at_call 15); refine HF.out.mono ?_; rintro e w1 ⟨v, b, rfl, hP, hb1⟩)
  go_ret2
  exact ⟨v, b, rfl, hP, below_new hb1⟩

set_option maxRecDepth 100000 in
theorem castInt_int32 (k n u : Int) (f : Nat) (s : ByteArray) (P : Int → Bool → Prop) (w : World) (HF : ∀ W, Below w.heap.size w W → Calls Tryd.prog 16 #[anyOf k n u f s] W fun e w' => ∃ v b, e = .returned (.tuple #[.int .i64 v, .bool b]) ∧ P v b ∧ Below W.heap.size W w') :
    Calls Tryd.prog 8 #[.int .i64 5, anyOf k n u f s] w fun e w' => ∃ v b, e = .returned (.tuple #[.int .i64 v, .bool b]) ∧ P v b ∧ Below w.heap.size w w' := by
  have hst := fun (a : Addr) (m : Mode) (f : Nat) (W : World) => run_store Tryd.prog W a (.float .f64 f) m rfl
  have HF := Lib.hid (HF _ ((Below.refl _ _).alloc (Nat.le_refl _) (.cells #[.int .i64 k, .int .i64 n, .int .u64 u, .float .f64 f, .string s, .slice none 0 0, .slice none 0 0] 27)))
  unfold anyOf at HF ⊢
  go_enter Tryd.func8, Tryd.ntmps8
  go_wp2_with ((with_reducible go_at_call 16); refine HF.out.mono ?_; rintro e w1 ⟨v, b, rfl, hP, hb1⟩)
  go_ret2
  exact ⟨v, b, rfl, hP, below_new hb1⟩

set_option maxRecDepth 100000 in
theorem castInt_int64 (k n u : Int) (f : Nat) (s : ByteArray) (P : Int → Bool → Prop) (w : World) (HF : ∀ W, Below w.heap.size w W → Calls Tryd.prog 7 #[anyOf k n u f s] W fun e w' => ∃ v b, e = .returned (.tuple #[.int .i64 v, .bool b]) ∧ P v b ∧ Below W.heap.size W w') :
    Calls Tryd.prog 8 #[.int .i64 6, anyOf k n u f s] w fun e w' => ∃ v b, e = .returned (.tuple #[.int .i64 v, .bool b]) ∧ P v b ∧ Below w.heap.size w w' := by
  have hst := fun (a : Addr) (m : Mode) (f : Nat) (W : World) => run_store Tryd.prog W a (.float .f64 f) m rfl
  have HF := Lib.hid (HF _ ((Below.refl _ _).alloc (Nat.le_refl _) (.cells #[.int .i64 k, .int .i64 n, .int .u64 u, .float .f64 f, .string s, .slice none 0 0, .slice none 0 0] 27)))
  unfold anyOf at HF ⊢
  go_enter Tryd.func8, Tryd.ntmps8
  go_wp2_with ((with_reducible go_at_call 7); refine HF.out.mono ?_; rintro e w1 ⟨v, b, rfl, hP, hb1⟩)
  go_ret2
  exact ⟨v, b, rfl, hP, below_new hb1⟩

set_option maxRecDepth 100000 in
theorem castInt_int (k n u : Int) (f : Nat) (s : ByteArray) (P : Int → Bool → Prop) (w : World) (HF : ∀ W, Below w.heap.size w W → Calls Tryd.prog 17 #[anyOf k n u f s] W fun e w' => ∃ v b, e = .returned (.tuple #[.int .i64 v, .bool b]) ∧ P v b ∧ Below W.heap.size W w') :
    Calls Tryd.prog 8 #[.int .i64 2, anyOf k n u f s] w fun e w' => ∃ v b, e = .returned (.tuple #[.int .i64 v, .bool b]) ∧ P v b ∧ Below w.heap.size w w' := by
  have hst := fun (a : Addr) (m : Mode) (f : Nat) (W : World) => run_store Tryd.prog W a (.float .f64 f) m rfl
  have HF := Lib.hid (HF _ ((Below.refl _ _).alloc (Nat.le_refl _) (.cells #[.int .i64 k, .int .i64 n, .int .u64 u, .float .f64 f, .string s, .slice none 0 0, .slice none 0 0] 27)))
  unfold anyOf at HF ⊢
  go_enter Tryd.func8, Tryd.ntmps8
  go_wp2_with ((with_reducible go_at_call 17); refine HF.out.mono ?_; rintro e w1 ⟨v, b, rfl, hP, hb1⟩)
  go_ret2
  exact ⟨v, b, rfl, hP, below_new hb1⟩
end Go.Proofs.YtbcknchbighieaaDoor.E
