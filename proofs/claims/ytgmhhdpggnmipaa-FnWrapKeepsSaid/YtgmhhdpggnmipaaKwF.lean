/- impl.Wrap. Written by gen_kw.py. -/
import Derived.Test.YtgmhhdpggnmipaaKwW
import Derived.Defers
import Derived.Recover
import Derived.Tactics2
import Derived.Laws.Pointers
namespace Go.Proofs.Ytgmhhdpggnmipaa.E.K
open Go.RowKit Go.Proofs Go.Proofs.YtgmhhdpggnmipaaW.PrintWords Go.Proofs.YtgmhhdpggnmipaaW.PrintLast
open Go.Proofs.Ytgmhhdpggnmipaa.PK
set_option linter.unusedVariables false
set_option linter.unusedSimpArgs false
set_option maxRecDepth 100000 in
theorem wrapB_low (a x : Nat) (ha : a ≤ 1024) (h0 : 0 < x) (h1 : x < 40) (h2 : x < a + 24) (s : ByteArray) (hs : s.size ≤ 4096) (w : World) :
    Calls Try.prog 94 #[.int .i64 a, .int .i64 x, .string s] w fun e w' => e = .returned (.string (mkT (undL 16 s.data.toList))) ∧ Below w.heap.size w w' := by
  have i0 : (0 : Int) ≤ (a : Int) := Int.natCast_nonneg _
  have i1 : (a : Int) ≤ 1024 := by omega
  have i2 : (0 : Int) < (x : Int) := by omega
  have i3 : (x : Int) < 40 := by omega
  have i4 : (x : Int) - a < 24 := by omega
  have i5 : (x : Int) - 16 < 24 := by omega
  have z0 : ((x : Int) == 0) = false := by simp; omega
  have HR := fun w => Lib.hid (repeat_any 16 (by omega) w)
  have HZ := fun w => Lib.hid (replace_any 16 (by omega) s hs w)
  have k0 : (mkT (blk 16)).size ≤ 1024 := by rw [blk_size]; omega
  obtain ⟨B, hB⟩ : ∃ B, B = blk 16 := ⟨_, rfl⟩
  rw [← hB] at HR HZ k0
  clear hB h0 h1 h2
  have HB := Lib.hid (Below.refl w.heap.size w)
  go_enter Try.func94, Try.ntmps94
  go_wp2_with (first
          | ((with_reducible go_at_call 102); refine ((HR _).out).mono ?_; rintro e w' ⟨rfl, hb⟩; have HB := Lib.hid (below_step HB.out hb); clear hb)
          | ((with_reducible go_at_call 101); refine ((HZ _).out).mono ?_; rintro e w' ⟨rfl, hb⟩; have HB := Lib.hid (below_step HB.out hb); clear hb))
  go_ret
  exact ⟨rfl, HB.out⟩

theorem wrapB_any (ind x : Nat) (hi : ind ≤ 1024) (hx : x ≤ 1048576) (s : ByteArray) (hs : s.size ≤ 4096) (w : World) :
    Calls Try.prog 94 #[.int .i64 ind, .int .i64 x, .string s] w fun e w' => e = .returned (.string (mkT (wrapAll ind x s))) ∧ Below w.heap.size w w' := by
  unfold wrapAll
  by_cases h0 : x = 0
  · subst h0; rw [if_pos rfl]; exact wrap_none ind hi s hs w
  rw [if_neg h0]
  by_cases h1 : x < ind + 24
  · rw [if_pos h1]
    by_cases h2 : x < 40
    · rw [if_pos h2]; exact wrapB_low ind x hi (by omega) h2 h1 s hs w
    · rw [if_neg h2]
      have e : (x : Int) = ((x - 21 : Nat) : Int) + 5 + 16 := by omega
      rw [e]
      exact wrapB_out ind (x - 21) hi (by omega) (by omega) (by omega) s hs w
  · rw [if_neg h1]
    have e : (x : Int) = ((x - ind - 5 : Nat) : Int) + 5 + ind := by omega
    rw [e]
    exact wrapB_in ind (x - ind - 5) hi (by omega) (by omega) s hs w

theorem zzWrap_any (ind x : Nat) (hi : ind ≤ 1024) (hx : x ≤ 1048576) (s : ByteArray) (hs : s.size ≤ 4096) (w : World) :
    Calls Try.prog 68 #[.int .i64 ind, .int .i64 x, .string s] w fun e w' => e = .returned (.string (mkT (wrapAll ind x s))) ∧ Below w.heap.size w w' := by
  have H := fun w => Lib.hid (wrapB_any ind x hi hx s hs w)
  go_enter Try.func68, Try.ntmps68
  go_wp2_with (go_at_call 94; refine ((H _).out).mono ?_; rintro e w' ⟨rfl, hb⟩)
  go_ret
  exact ⟨rfl, hb⟩

theorem lt_of_cell {w : World} {a : Addr} {v : Value} (h : w.cell? a = some v) : a.block < w.heap.size := by
  unfold World.cell? at h
  by_cases hl : a.block < w.heap.size
  · exact hl
  · rw [Array.getElem?_eq_none (by omega)] at h; simp at h

/-- The closure that impl.Wrap hands on. -/
theorem closure_any (ind x : Nat) (hi : ind ≤ 1024) (hx : x ≤ 1048576) (s : ByteArray) (hs : s.size ≤ 4096) (a b c d : Addr) (old : ByteArray) (w : World)
    (ha : w.cell? a = some (.int .i64 ind)) (hb : w.cell? b = some (.int .i64 x)) (hc : w.cell? c = some (.string s)) (hd : w.cell? d = some (.string old)) (hz : w.frozen? d = false) :
    Calls Try.prog 67 #[.pointer (some a), .pointer (some b), .pointer (some c), .pointer (some d)] w fun e w' => e = .returned (.tuple #[]) ∧ ∃ w1, Below w.heap.size w w1 ∧ w' = w1.setCell d (.string (mkT (wrapAll ind x s))) := by
  have H := fun w => Lib.hid (zzWrap_any ind x hi hx s hs w)
  go_enter Try.func67, Try.ntmps67
  go_wp2_with (go_at_call 68; refine ((H _).out).mono ?_; rintro e w1 ⟨rfl, hb1⟩; have hd1 := cell_kept hb1 hd; have hz1 := frozen_kept hb1 hd hz)
  go_end0
  exact ⟨rfl, w1, hb1, rfl⟩

/-- The deferred closure where nothing panics. -/
theorem catch_idle (p : Addr) (w : World) :
    CallsD Try.prog 70 #[.pointer (some p)] .returning w fun e u' w' => e = .returned (.tuple #[]) ∧ u' = .returning ∧ w' = w := by
  refine callsD_of_wpS Try.func70 rfl fun c₀ cs hu => ?_
  apply wpS_seq
  apply wpS_region
  simp [wpOpsS, go_sem, recoverD, hu, Try.ntmps70, Exit.thenS]
  refine wpS_cond (t := false) (by simp [Act.eval, Array.replicate]) ?_
  simp only [Bool.false_eq_true, if_false]
  refine wpS_of_wp (wp_skip ?_)
  cases c₀
  simp_all [bodyPostS, results, Try.results70]

set_option maxRecDepth 100000 in
theorem guarded_any (ind x : Nat) (hi : ind ≤ 1024) (hx : x ≤ 1048576) (s : ByteArray) (hs : s.size ≤ 4096) (a b c d : Addr) (old : ByteArray) (w : World)
    (ha : w.cell? a = some (.int .i64 ind)) (hb : w.cell? b = some (.int .i64 x)) (hc : w.cell? c = some (.string s)) (hd : w.cell? d = some (.string old)) (hz : w.frozen? d = false) :
    Calls Try.prog 46 #[.func (.func 67) #[] #[.pointer (some a), .pointer (some b), .pointer (some c), .pointer (some d)]] w fun e w' => e = .returned (.bool false) ∧ ∃ w1 w2, Below (w.heap.size + 1) (w.alloc (.cells #[.bool false] 4)) w1 ∧ w2 = w1.setCell d (.string (mkT (wrapAll ind x s))) ∧ w' = w2.setCell ⟨w.heap.size, 0, none⟩ (.bool false) := by
  have hmf : ∀ (fn : Fn) (first cap : Array Value) (w : World), (Instr.makeFunc fn first cap).run Try.prog w = .ok (.func fn first cap) w := fun _ _ _ _ => rfl
  have ld := lt_of_cell hd
  have hbW : Below w.heap.size w (w.alloc (.cells #[.bool false] 4)) := (Below.refl _ _).alloc (Nat.le_refl _) _
  have H := Lib.hid (closure_any ind x hi hx s hs a b c d old (w.alloc (.cells #[.bool false] 4)) (cell_kept hbW ha) (cell_kept hbW hb) (cell_kept hbW hc) (cell_kept hbW hd) (frozen_kept hbW hd hz))
  generalize mkT (wrapAll ind x s) = R at H ⊢
  clear hi hx hs hbW ha hb hc hd hz
  go_enter_defers Try.func46, Try.ntmps46
  go_wp2_with (go_at_call 67; refine (H.out).mono ?_; rintro e w' ⟨rfl, w1, hb1, rfl⟩; have hk1 : w1.heap[w.heap.size]? = some (.cells #[.bool false] 4 (0, 0)) := block_kept (heap_alloc_new w _) hb1; have hk2 : (w1.setCell d (.string R)).heap[w.heap.size]? = some (.cells #[.bool false] 4 (0, 0)) := (by rw [Below.heap_setCell _ _ _ _ (by omega)]; exact hk1); have hk3 := cell_of_one hk2; have hk4 := free_of_one hk2)
  refine leaves_cons (f := 70) (args := #[.pointer (some ⟨w.heap.size, 0, none⟩)]) (by simp) (by simp [go_sem]) ?_
  refine (catch_idle ⟨w.heap.size, 0, none⟩ _).mono ?_
  rintro e u' w'' ⟨rfl, rfl, rfl⟩
  have hk5 : ((w1.setCell d (.string R)).setCell ⟨w.heap.size, 0, none⟩ (.bool false)).cell? ⟨w.heap.size, 0, none⟩ = some (.bool false) := cell_of_one (one_setCell hk2)
  simp [Leaves, settle, results, Try.results46, go_sem, hk5]
  exact ⟨w1, by simpa using hb1, rfl⟩

theorem guarded_post (ind x : Nat) (hi : ind ≤ 1024) (hx : x ≤ 1048576) (s : ByteArray) (hs : s.size ≤ 4096) (a b c : Addr) (d B : Nat) (T : TypeId) (old : ByteArray) (w : World)
    (ha : w.cell? a = some (.int .i64 ind)) (hb : w.cell? b = some (.int .i64 x)) (hc : w.cell? c = some (.string s)) (hd : w.heap[d]? = some (.cells #[.string old] T (0, 0))) (hBd : B ≤ d) (hBw : B ≤ w.heap.size) :
    Calls Try.prog 46 #[.func (.func 67) #[] #[.pointer (some a), .pointer (some b), .pointer (some c), .pointer (some ⟨d, 0, none⟩)]] w fun e w' => e = .returned (.bool false) ∧ w'.heap[d]? = some (.cells #[.string (mkT (wrapAll ind x s))] T (0, 0)) ∧ Below B w w' := by
  refine (guarded_any ind x hi hx s hs a b c ⟨d, 0, none⟩ old w ha hb hc (cell_of_one hd) (free_of_one hd)).mono ?_
  rintro e w' ⟨rfl, w1, w2, hb1, rfl, rfl⟩
  have hlt := lt_of_block hd
  have hd0 : (w.alloc (.cells #[.bool false] 4)).heap[d]? = some (.cells #[.string old] T (0, 0)) := by rw [Below.heap_alloc _ _ _ hlt]; exact hd
  have hd1 : w1.heap[d]? = some (.cells #[.string old] T (0, 0)) := by rw [hb1.block d (by omega)]; exact hd0
  refine ⟨rfl, ?_, ?_⟩
  · rw [Below.heap_setCell _ _ _ _ (by show d ≠ w.heap.size; omega)]
    exact one_setCell hd1
  · have h1 : Below B w w1 := ((Below.refl B w).alloc hBw _).trans (hb1.mono (by omega))
    exact (h1.setCell (p := ⟨d, 0, none⟩) hBd _).setCell (p := ⟨w.heap.size, 0, none⟩) hBw _

theorem four_blocks (w : World) (o1 o2 o3 o4 : Obj) : ((((w.alloc o1).alloc o2).alloc o3).alloc o4).heap[w.heap.size]? = some o1 ∧ ((((w.alloc o1).alloc o2).alloc o3).alloc o4).heap[w.heap.size + 1]? = some o2 ∧ ((((w.alloc o1).alloc o2).alloc o3).alloc o4).heap[w.heap.size + 1 + 1]? = some o3 ∧ ((((w.alloc o1).alloc o2).alloc o3).alloc o4).heap[w.heap.size + 1 + 1 + 1]? = some o4 := by
  have s1 : (w.alloc o1).heap.size = w.heap.size + 1 := by simp
  have s2 : ((w.alloc o1).alloc o2).heap.size = w.heap.size + 1 + 1 := by simp
  have s3 : (((w.alloc o1).alloc o2).alloc o3).heap.size = w.heap.size + 1 + 1 + 1 := by simp
  refine ⟨?_, ?_, ?_, ?_⟩
  · rw [Below.heap_alloc _ _ _ (by omega), Below.heap_alloc _ _ _ (by omega), Below.heap_alloc _ _ _ (by omega)]; exact heap_alloc_new w o1
  · rw [Below.heap_alloc _ _ _ (by omega), Below.heap_alloc _ _ _ (by omega), ← s1]; exact heap_alloc_new (w.alloc o1) o2
  · rw [Below.heap_alloc _ _ _ (by omega), ← s2]; exact heap_alloc_new _ o3
  · rw [← s3]; exact heap_alloc_new _ o4

set_option maxRecDepth 100000 in
theorem implWrap_any (ind x : Nat) (hi : ind ≤ 1024) (hx : x ≤ 1048576) (s : ByteArray) (hs : s.size ≤ 4096) (w : World) :
    Calls Try.prog 42 #[.int .i64 ind, .int .i64 x, .string s] w fun e w' => e = .returned (.string (mkT (wrapAll ind x s))) ∧ Below w.heap.size w w' := by
  have hmf : ∀ (fn : Fn) (first cap : Array Value) (w : World), (Instr.makeFunc fn first cap).run Try.prog w = .ok (.func fn first cap) w := fun _ _ _ _ => rfl
  obtain ⟨q1, q2, q3, q4⟩ := four_blocks w (.cells #[.int .i64 ind] 3) (.cells #[.int .i64 x] 3) (.cells #[.string s] 9) (.cells #[.string ⟨#[]⟩] 9)
  have H := Lib.hid (guarded_post ind x hi hx s hs ⟨w.heap.size, 0, none⟩ ⟨w.heap.size + 1, 0, none⟩ ⟨w.heap.size + 1 + 1, 0, none⟩ (w.heap.size + 1 + 1 + 1) w.heap.size 9 ⟨#[]⟩
    ((((w.alloc (.cells #[.int .i64 ind] 3)).alloc (.cells #[.int .i64 x] 3)).alloc (.cells #[.string s] 9)).alloc (.cells #[.string ⟨#[]⟩] 9))
    (cell_of_one q1) (cell_of_one q2) (cell_of_one q3) q4 (by omega) (by simp; omega))
  generalize mkT (wrapAll ind x s) = R at H ⊢
  clear hi hx hs q1 q2 q3 q4
  go_enter Try.func42, Try.ntmps42
  go_wp2_with (go_at_call 46; refine (H.out).mono ?_; rintro e w' ⟨rfl, hd, hb⟩; have hcd := cell_of_one hd; have HB := Lib.hid hb; clear hb)
  go_ret
  exact ⟨rfl, ((((Below.refl _ w).alloc (Nat.le_refl _) _).alloc (by simp) _).alloc (by simp; omega) _ |>.alloc (by simp; omega) _).trans HB.out⟩

theorem wraps_at (a b : Int) (s : ByteArray) : laws_wraps14.f a b s = some (decide (0 ≤ a ∧ a ≤ 1024 ∧ 0 ≤ b ∧ b ≤ 1048576 ∧ s.size ≤ 4096)) := by
  unfold laws_wraps14.f
  by_cases h1 : 0 ≤ a
  · rw [if_pos h1]
    by_cases h2 : a ≤ 1024
    · rw [if_pos h2]
      by_cases h3 : 0 ≤ b
      · rw [if_pos h3]
        by_cases h4 : b ≤ 1048576
        · rw [if_pos h4]; simp [h1, h2, h3, h4]; constructor <;> omega
        · rw [if_neg h4]; simp [h4]
      · rw [if_neg h3]; simp [h3]
    · rw [if_neg h2]; simp [h2]
  · rw [if_neg h1]; simp [h1]
end Go.Proofs.Ytgmhhdpggnmipaa.E.K
