/- Single operations of a drawn region, over a frame of which only some slots are known. -/
import Derived.Test.YtgmhhdpggnmipaaLw2
import Derived.Test.YtgmhhdpggnmipaaInv
namespace Go.Proofs.Ytgmhhdpggnmipaa.E
open Go.RowKit Go.Proofs
set_option linter.unusedVariables false
set_option linter.unusedSimpArgs false

section
variable {o : Oper} {a : Act} {w : World} {K : Act → World → Prop} {Q : Exit → Act → World → Prop}
theorem ow_move {x : Operand} {v : Value} (ho : o.op = .move x) (hx : a.eval x = v) (h : K (a.put o.dst v) w) : Oper.wp Try.prog o a w K Q := by
  unfold Oper.wp
  simp [execOp, ho, hx]
  exact h
theorem ow_assign {x : Operand} {v : Value} (ho : o.op = .assign x) (hx : a.eval x = v) (h : K (a.put o.dst v) w) : Oper.wp Try.prog o a w K Q := by
  unfold Oper.wp
  simp [execOp, ho, hx]
  exact h
theorem ow_load_set {x : Operand} {b : Nat} {x0 x1 x2 x3 : Value} {T : TypeId} (ho : o.op = .load 24 x) (hx : a.eval x = .pointer (some ⟨b, 0, none⟩)) (hb : w.heap[b]? = some (.cells #[x0, x1, x2, x3] T (0, 0))) (h : K (a.put o.dst (.agg #[x0, x1, x2, x3])) w) : Oper.wp Try.prog o a w K Q := by
  have c0 : w.cell? ⟨b, 0, none⟩ = some x0 := (cell_blk hb 0).trans rfl
  have c1 : w.cell? ⟨b, 1, none⟩ = some x1 := (cell_blk hb 1).trans rfl
  have c2 : w.cell? ⟨b, 2, none⟩ = some x2 := (cell_blk hb 2).trans rfl
  have c3 : w.cell? ⟨b, 3, none⟩ = some x3 := (cell_blk hb 3).trans rfl
  unfold Oper.wp
  simp [execOp, ho, hx]
  go_simp
  exact h
theorem ow_field_hd {x : Operand} {b i : Nat} (hi : i < 11) (ho : o.op = .fieldAddr 32 x i) (hx : a.eval x = .pointer (some ⟨b, 0, none⟩)) (h : K (a.put o.dst (.pointer (some ⟨b, i, none⟩))) w) : Oper.wp Try.prog o a w K Q := by
  unfold Oper.wp
  match i, hi with
  | 0, _ => simp [execOp, ho, hx]; go_simp; exact h
  | 1, _ => simp [execOp, ho, hx]; go_simp; exact h
  | 2, _ => simp [execOp, ho, hx]; go_simp; exact h
  | 3, _ => simp [execOp, ho, hx]; go_simp; exact h
  | 4, _ => simp [execOp, ho, hx]; go_simp; exact h
  | 5, _ => simp [execOp, ho, hx]; go_simp; exact h
  | 6, _ => simp [execOp, ho, hx]; go_simp; exact h
  | 7, _ => simp [execOp, ho, hx]; go_simp; exact h
  | 8, _ => simp [execOp, ho, hx]; go_simp; exact h
  | 9, _ => simp [execOp, ho, hx]; go_simp; exact h
  | 10, _ => simp [execOp, ho, hx]; go_simp; exact h
theorem ow_load_int {x : Operand} {b i : Nat} {v : Value} (ho : o.op = .load 3 x) (hx : a.eval x = .pointer (some ⟨b, i, none⟩)) (hb : w.cell? ⟨b, i, none⟩ = some v) (h : K (a.put o.dst v) w) : Oper.wp Try.prog o a w K Q := by
  unfold Oper.wp
  simp [execOp, ho, hx]
  go_simp
  exact h
theorem ow_load_texts {x : Operand} {b i : Nat} {v : Value} (ho : o.op = .load 25 x) (hx : a.eval x = .pointer (some ⟨b, i, none⟩)) (hb : w.cell? ⟨b, i, none⟩ = some v) (h : K (a.put o.dst v) w) : Oper.wp Try.prog o a w K Q := by
  unfold Oper.wp
  simp [execOp, ho, hx]
  go_simp
  exact h
theorem ow_load_given {x : Operand} {b i : Nat} {v : Value} (ho : o.op = .load 29 x) (hx : a.eval x = .pointer (some ⟨b, i, none⟩)) (hb : w.cell? ⟨b, i, none⟩ = some v) (h : K (a.put o.dst v) w) : Oper.wp Try.prog o a w K Q := by
  unfold Oper.wp
  simp [execOp, ho, hx]
  go_simp
  exact h
theorem ow_eql_int {x y : Operand} {m n : Int} (ho : o.op = .binOp .eql 3 x y 3) (hx : a.eval x = .int .i64 m) (hy : a.eval y = .int .i64 n) (h : K (a.put o.dst (.bool (m == n))) w) : Oper.wp Try.prog o a w K Q := by
  unfold Oper.wp
  simp [execOp, ho, hx, hy]
  go_simp
  exact h
theorem ow_pick {c x y : Operand} {v : Value} (ho : o.op = .pick c x y) (hc : a.eval c = .bool true) (hx : a.eval x = v) (h : K (a.put o.dst v) w) : Oper.wp Try.prog o a w K Q := by
  unfold Oper.wp
  simp [execOp, ho, hx, hc]
  go_simp
  exact h
theorem ow_len_texts {x : Operand} {A : Option Addr} {n c : Nat} (ho : o.op = .call { callee := .builtin .len, args := #[x], argTypes := #[25] }) (hx : a.eval x = .slice A n c) (h : K (a.put o.dst (.int .i64 (n : Int))) w) : Oper.wp Try.prog o a w K Q := by
  unfold Oper.wp
  simp [execOp, ho, resolve, invoke, builtin, hx]
  go_simp
  exact h
set_option maxRecDepth 100000 in
theorem ow_alloc_hd (ho : o.op = .alloc 32) (h : K (a.put o.dst (.pointer (some ⟨w.heap.size, 0, none⟩))) (w.alloc (.cells hdZero 32))) : Oper.wp Try.prog o a w K Q := by
  unfold Oper.wp
  simp [execOp, ho]
  go_simp
  exact h
theorem ow_build1 {x : Operand} {v : Value} (ho : o.op = .buildSlice 25 1 #[(0, x)]) {s : ByteArray} (hx : a.eval x = .string s) (h : K (a.put o.dst (.slice (some ⟨w.heap.size, 0, none⟩) 1 1)) (w.alloc (.cells #[.string s] 9))) : Oper.wp Try.prog o a w K Q := by
  unfold Oper.wp
  simp [execOp, ho, hx]
  go_simp
  exact h
theorem ow_rows1 {x : Operand} {A0 : Option Addr} {n0 c0 : Nat} (ho : o.op = .buildSlice 68 1 #[(0, x)]) (hx : a.eval x = .slice A0 n0 c0) (h : K (a.put o.dst (.slice (some ⟨w.heap.size, 0, none⟩) 1 1)) (w.alloc (.cells #[.slice A0 n0 c0] 25))) : Oper.wp Try.prog o a w K Q := by
  unfold Oper.wp
  simp [execOp, ho, hx]
  go_simp
  exact h
theorem ow_rows2 {x y : Operand} {A0 A1 : Option Addr} {n0 c0 n1 c1 : Nat} (ho : o.op = .buildSlice 68 2 #[(0, x), (1, y)]) (hx : a.eval x = .slice A0 n0 c0) (hy : a.eval y = .slice A1 n1 c1) (h : K (a.put o.dst (.slice (some ⟨w.heap.size, 0, none⟩) 2 2)) (w.alloc (.cells #[.slice A0 n0 c0, .slice A1 n1 c1] 25))) : Oper.wp Try.prog o a w K Q := by
  unfold Oper.wp
  simp [execOp, ho, hx, hy]
  go_simp
  exact h
theorem ow_rows3 {x y z : Operand} {A0 A1 A2 : Option Addr} {n0 c0 n1 c1 n2 c2 : Nat} (ho : o.op = .buildSlice 68 3 #[(0, x), (1, y), (2, z)]) (hx : a.eval x = .slice A0 n0 c0) (hy : a.eval y = .slice A1 n1 c1) (hz : a.eval z = .slice A2 n2 c2) (h : K (a.put o.dst (.slice (some ⟨w.heap.size, 0, none⟩) 3 3)) (w.alloc (.cells #[.slice A0 n0 c0, .slice A1 n1 c1, .slice A2 n2 c2] 25))) : Oper.wp Try.prog o a w K Q := by
  unfold Oper.wp
  simp [execOp, ho, hx, hy, hz]
  go_simp
  exact h
/-- A call of a Go function. -/
theorem ow_call (args : Array Operand) (ts : Array TypeId) (F : Nat) {fn : Func} {c : Code} (hf : Try.prog.funcs[F]? = some fn) (hname : (fn.name == "runtime.NumGoroutine") = false) (hb : fn.body = some c)
    (ho : o.op = .call { callee := .value (.func F), args := args, argTypes := ts }) (vs : Array Value) (hx : args.map a.eval = vs) {R : Ending → World → Prop} (hc : Calls Try.prog F vs w R) (h : ∀ e w', R e w' → ∃ v, e = .returned v ∧ K (a.put o.dst v) w') : Oper.wp Try.prog o a w K Q := by
  have hF : a.eval (.func F) = .func (.func F) #[] #[] := rfl
  have hcf := call_enter9 (P := Try.prog) hf hname hb vs w
  unfold Oper.wp
  simp [execOp, ho, resolve, invoke, hx, hF, hcf, Deferred.ofValue]
  unfold Oper.upon
  refine hc.mono ?_
  intro e w' hr
  obtain ⟨v, rfl, hk⟩ := h e w' hr
  exact hk
set_option maxRecDepth 100000 in
theorem ow_store_hd {p x : Operand} {g n : Nat} {s : PS} {er : Er} {GA AA CA : Option Addr} {gn gc an ac cn cc : Nat} (ho : o.op = .store 32 p x) (hdst : o.dst = none) (hp : a.eval p = .pointer (some ⟨g, 0, none⟩)) (hx : a.eval x = .agg (hdCells s er n (.slice GA gn gc) (.slice AA an ac) (.slice CA cn cc)))
    (hb : w.heap[g]? = some (.cells hdZero 32 (0, 0))) (h : K a (hdPut w g s er (.slice GA gn gc) (.slice AA an ac) (.slice CA cn cc))) : Oper.wp Try.prog o a w K Q := by
  obtain ⟨z0, z1, z2, z3, z4, z5, z6, z7, z8, z9, z10⟩ := hd_zeros hb
  have zf := free_blk hb
  have zl := lt_of_block hb
  unfold Oper.wp
  unfold hdCells at hx
  have h9 : K (a.put o.dst undef) (hdPut w g s er (.slice GA gn gc) (.slice AA an ac) (.slice CA cn cc)) := by rw [hdst]; exact h
  simp [execOp, ho, hx, hp]
  go_simp
  first | exact h9 | exact h
end
/-- No operation ahead of m is guarded. -/
def noGuardB (ops : Array Oper) (m : Nat) : Bool := (List.range m).all fun i => match ops[i]? with
  | none => true
  | some o => o.guard.isNone
theorem hgd_none {ops : Array Oper} {m : Nat} (h : noGuardB ops m = true) {R : Nat → Value → World → Prop} : ∀ i, i < m → ∀ o, ops[i]? = some o → ∀ g want, o.guard = some (g, want) → ∀ v w, R g v w → v = .bool want := by
  intro i hi o ho g want hg
  unfold noGuardB at h
  have h := (List.all_eq_true.1 h) i (List.mem_range.2 hi)
  rw [ho] at h
  simp only [hg] at h
  cases h
/-- The last operation of a region. -/
theorem wpAny_last {P : Program} {ops : Array Oper} {Q : Exit → Act → World → Prop} {a : Act} {w : World} {listed : Array Bool} {i : Nat} {o : Oper} (hr : Region.ready .any ops listed = [i]) (ho : ops[i]? = some o) (hg : o.guard = none) (hr2 : Region.ready .any ops (listed.setIfInBounds i true) = []) (h : Oper.wp P o a w (fun a' w' => Q .normal a' w') Q) : wpAny P .any ops Q 1 listed a w := by
  refine ⟨fun e => ?_, fun j hj => ?_⟩
  · rw [hr] at e; cases e
  · rw [hr] at hj
    obtain rfl := List.mem_singleton.1 hj
    unfold wpOp
    rw [ho]
    have hw : Region.wanted o (yielded ops a.tmps) = true := by simp [Region.wanted, hg]
    simp only [hw, if_true]
    exact .inl (Oper.wp_mono (fun a' w' h => ⟨hr2, h⟩) h)
/-- The last but one. -/
theorem wpAny_next {P : Program} {ops : Array Oper} {Q : Exit → Act → World → Prop} {a : Act} {w : World} {listed : Array Bool} {i n : Nat} {o : Oper} (hr : Region.ready .any ops listed = [i]) (ho : ops[i]? = some o) (hg : o.guard = none) (h : Oper.wp P o a w (fun a' w' => wpAny P .any ops Q n (listed.setIfInBounds i true) a' w') Q) : wpAny P .any ops Q (n + 1) listed a w := by
  refine ⟨fun e => ?_, fun j hj => ?_⟩
  · rw [hr] at e; cases e
  · rw [hr] at hj
    obtain rfl := List.mem_singleton.1 hj
    unfold wpOp
    rw [ho]
    have hw : Region.wanted o (yielded ops a.tmps) = true := by simp [Region.wanted, hg]
    simp only [hw, if_true]
    exact .inl h
/-- All have come up. -/
theorem wpAny_end {P : Program} {ops : Array Oper} {Q : Exit → Act → World → Prop} {a : Act} {w : World} {listed : Array Bool} (hr : Region.ready .any ops listed = []) (h : Q .normal a w) : wpAny P .any ops Q 0 listed a w := ⟨hr, h⟩
end Go.Proofs.Ytgmhhdpggnmipaa.E
