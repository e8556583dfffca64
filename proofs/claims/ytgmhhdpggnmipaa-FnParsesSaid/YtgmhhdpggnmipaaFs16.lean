/- What a set tells behind a call: whole.heard, over this seat's program. Written by gen_fs16.py. -/
import Derived.Test.YtgmhhdpggnmipaaFs15
import Derived.Deep.DeepCutAuto
import Derived.Deep.CutBlock
namespace Go.Proofs.Ytgmhhdpggnmipaa.E
open Go.RowKit Go.Proofs
open Go.Maps (Keyed)
set_option linter.unusedVariables false
set_option linter.unusedSimpArgs false

theorem step_append_any {P : Program} {w : World} {ops : Array Oper} {o : Oper} {a : Act} {K : Act → World → Prop} {Q : Exit → Act → World → Prop} {E : Prop} (hgd : o.guard = none) (s x : Operand) (t : TypeId)
    (ho : o.op = .call { callee := .builtin .append, args := #[s, x], argTypes := #[t, t] })
    (base : Nat) (e : TypeId) (i : TypeInfo) (z : Value) (size bytes : Nat) (ht : P.underlying t = some (.slice e)) (hi : P.info? e = some i) (hz : i.zero = some z)
    (hsize : i.size = size) (hby : i.bytes = bytes) (hzs : z.cells.size = size) (hsz : 0 < size)
    (v : Value) (n : Nat) (xs : List Value) (hs : a.eval s = v) (hown : w.ownsRow base e size v n xs)
    (A : Option Addr) (m c : Nat) (news : List Value) (hx : a.eval x = .slice A m c) (hA : A = none → m = 0 ∧ c = 0) (hl : news.length = m * size)
    (hnews : ∀ ad, A = some ad → ∀ j u, news[j]? = some u → w.cell? (ad.add j) = some u) (h1 : ∀ u ∈ news, u.oneCell' = true)
    (h63 : n + m ≤ maxLen) (hbytes : (n + m) * bytes ≤ 140737488355328) (hbase : base ≤ w.heap.size)
    (h : ∀ v' w', w'.ownsRow base e size v' (n + m) (xs ++ news) → w.grownBy w' v.ownBlock → K (a.put o.dst v') w') : if Region.wanted o (yielded ops a.tmps) = true then Oper.wp P o a w K Q else E := by
  have hw : Region.wanted o (yielded ops a.tmps) = true := by simp [Region.wanted, hgd]
  rw [if_pos hw]
  cases A with
  | none =>
    obtain ⟨rfl, rfl⟩ := hA rfl
    have hn : news = [] := by apply List.eq_nil_of_length_eq_zero; simpa using hl
    subst hn
    have hrun := run_append_owned_none (P := P) (w := w) base t o.type e i size ht hi v n xs hown
    unfold Oper.wp
    simp [execOp, ho, resolve, invoke, builtin, hs, hx, hrun, Result.andThen]
    exact h v w (by simpa using hown) ⟨rfl, rfl, rfl, Nat.le_refl _, fun _ _ _ => rfl⟩
  | some ad =>
    exact wp_append_own w s x t ho base e i z size bytes ht hi hz hsize hby hzs hsz v n xs hs hown ad m c news hx hl (hnews ad rfl) h1 h63 hbytes hbase (fun v' w' h2 h3 _ => h v' w' h2 h3)

set_option maxRecDepth 100000 in
theorem get_dash (p : Nat) (v : Int) (w : World) (h : w.cell? ⟨p, 13, none⟩ = some (.int .i64 v)) : Calls Try.prog 79 #[.pointer (some ⟨p, 0, none⟩)] w fun e w' => e = .returned (.int .i64 v) ∧ w = w' := by
  go_enter Try.func79, Try.ntmps79
  go_wp2
  go_ret
  exact ⟨rfl, rfl⟩

set_option maxRecDepth 100000 in
theorem get_parsed (p : Nat) (v : Bool) (w : World) (h : w.cell? ⟨p, 4, none⟩ = some (.bool v)) : Calls Try.prog 80 #[.pointer (some ⟨p, 0, none⟩)] w fun e w' => e = .returned (.bool v) ∧ w = w' := by
  go_enter Try.func80, Try.ntmps80
  go_wp2
  go_ret
  exact ⟨rfl, rfl⟩

set_option maxRecDepth 100000 in
theorem get_neName (p : Nat) (v : ByteArray) (w : World) (h : w.cell? ⟨p, 0, none⟩ = some (.string v)) : Calls Try.prog 81 #[.pointer (some ⟨p, 0, none⟩)] w fun e w' => e = .returned (.string v) ∧ w = w' := by
  go_enter Try.func81, Try.ntmps81
  go_wp2
  go_ret
  exact ⟨rfl, rfl⟩

set_option maxRecDepth 100000 in
theorem get_neShort (p : Nat) (v : ByteArray) (w : World) (h : w.cell? ⟨p, 1, none⟩ = some (.string v)) : Calls Try.prog 82 #[.pointer (some ⟨p, 0, none⟩)] w fun e w' => e = .returned (.string v) ∧ w = w' := by
  go_enter Try.func82, Try.ntmps82
  go_wp2
  go_ret
  exact ⟨rfl, rfl⟩

set_option maxRecDepth 100000 in
theorem get_vrName (p : Nat) (v : ByteArray) (w : World) (h : w.cell? ⟨p, 1, none⟩ = some (.string v)) : Calls Try.prog 83 #[.pointer (some ⟨p, 0, none⟩)] w fun e w' => e = .returned (.string v) ∧ w = w' := by
  go_enter Try.func83, Try.ntmps83
  go_wp2
  go_ret
  exact ⟨rfl, rfl⟩

set_option maxRecDepth 100000 in
theorem get_vrShort (p : Nat) (v : ByteArray) (w : World) (h : w.cell? ⟨p, 2, none⟩ = some (.string v)) : Calls Try.prog 84 #[.pointer (some ⟨p, 0, none⟩)] w fun e w' => e = .returned (.string v) ∧ w = w' := by
  go_enter Try.func84, Try.ntmps84
  go_wp2
  go_ret
  exact ⟨rfl, rfl⟩

set_option maxRecDepth 100000 in
theorem get_vrFlag (p : Nat) (v : Nat) (w : World) (h : w.cell? ⟨p, 0, none⟩ = some (.pointer (some ⟨v, 0, none⟩))) : Calls Try.prog 85 #[.pointer (some ⟨p, 0, none⟩)] w fun e w' => e = .returned (.pointer (some ⟨v, 0, none⟩)) ∧ w = w' := by
  go_enter Try.func85, Try.ntmps85
  go_wp2
  go_ret
  exact ⟨rfl, rfl⟩

set_option maxRecDepth 100000 in
theorem get_ivValue (p : Nat) (v : ByteArray) (w : World) (h : w.cell? ⟨p, 1, none⟩ = some (.string v)) : Calls Try.prog 86 #[.pointer (some ⟨p, 0, none⟩)] w fun e w' => e = .returned (.string v) ∧ w = w' := by
  go_enter Try.func86, Try.ntmps86
  go_wp2
  go_ret
  exact ⟨rfl, rfl⟩

set_option maxRecDepth 100000 in
theorem get_ivFlag (p : Nat) (v : Nat) (w : World) (h : w.cell? ⟨p, 0, none⟩ = some (.pointer (some ⟨v, 0, none⟩))) : Calls Try.prog 87 #[.pointer (some ⟨p, 0, none⟩)] w fun e w' => e = .returned (.pointer (some ⟨v, 0, none⟩)) ∧ w = w' := by
  go_enter Try.func87, Try.ntmps87
  go_wp2
  go_ret
  exact ⟨rfl, rfl⟩

set_option maxRecDepth 100000 in
theorem get_syFlag (p : Nat) (v : ByteArray) (w : World) (h : w.cell? ⟨p, 0, none⟩ = some (.string v)) : Calls Try.prog 88 #[.pointer (some ⟨p, 0, none⟩)] w fun e w' => e = .returned (.string v) ∧ w = w' := by
  go_enter Try.func88, Try.ntmps88
  go_wp2
  go_ret
  exact ⟨rfl, rfl⟩

set_option maxRecDepth 100000 in
theorem get_args (p : Nat) (A : Option Addr) (n c : Nat) (w : World) (h : w.cell? ⟨p, 12, none⟩ = some (.slice A n c)) : Calls Try.prog 89 #[.pointer (some ⟨p, 0, none⟩)] w fun e w' => e = .returned (.slice A n c) ∧ w = w' := by
  go_enter Try.func89, Try.ntmps89
  go_wp2
  go_ret
  exact ⟨rfl, rfl⟩

def eNo : Er → Nat
  | .no => 0 | .help => 1 | .notExist _ _ => 2 | .need _ _ _ => 3 | .invalid _ _ => 4 | .syn _ => 5 | .other => 6
def eName : Er → Txt
  | .notExist n _ => n | .need _ n _ => n | .syn a => a | _ => []
def eShort : Er → Txt
  | .notExist _ s => s | .need _ _ s => s | _ => []
def eVal : Er → Txt
  | .invalid _ v => v | _ => []
def eFlag : Er → Int
  | .need i _ _ => i | .invalid i _ => i | _ => -1
/-- The places of the flags that are changed. -/
def chL (f : Nat → Bool) (k : Nat) : List Nat := (List.range k).filter f
def iCells (l : List Nat) : List Value := l.map fun (i : Nat) => Value.int .i64 (i : Int)
def HeardV (B : Nat) (w : World) (s : PS) (er : Er) (n : Nat) (v : Value) : Prop :=
  ∃ GA gc AA ac CA cc, v = .agg #[.int .i64 (eNo er), .string (mkT (eName er)), .string (mkT (eShort er)), .string (mkT (eVal er)), .int .i64 (eFlag er), .slice GA s.G.length gc, .slice AA s.A.length ac, .int .i64 s.dash, .slice CA (chL s.chg n).length cc, .bool s.parsed, .bool false] ∧
    w.ownsRow B 57 2 (.slice GA s.G.length gc) s.G.length (gCells s.G) ∧ w.ownsRow B 9 1 (.slice AA s.A.length ac) s.A.length (aCells s.A) ∧ w.ownsRow B 3 1 (.slice CA (chL s.chg n).length cc) (chL s.chg n).length (iCells (chL s.chg n))
theorem gCells_one (G : List (Nat × Txt)) : ∀ u ∈ gCells G, u.oneCell' = true := by
  intro u hu
  simp only [gCells, List.mem_flatten, List.mem_map] at hu
  obtain ⟨l, ⟨g, _, rfl⟩, hu⟩ := hu
  simp only [List.mem_cons, List.not_mem_nil, or_false] at hu
  rcases hu with rfl | rfl <;> rfl
theorem row_news {w : World} {A : Option Addr} {cs : List Value} (h : RowAt w A cs) : ∀ ad, A = some ad → ∀ j u, cs[j]? = some u → w.cell? (ad.add j) = some u := by
  rintro ad rfl j u hu
  obtain ⟨g, e, hc⟩ := h j u hu
  cases e
  have hadd : (⟨g, 0, none⟩ : Addr).add j = ⟨g, j, none⟩ := by unfold Addr.add; split <;> simp_all
  rw [hadd]; exact hc
theorem own_row0 {w : World} {base : Nat} {e : TypeId} {size : Nat} {A : Option Addr} {c n : Nat} {xs : List Value} (h : w.ownsRow base e size (.slice A n c) n xs) : A = none → n = 0 ∧ c = 0 := by
  rintro rfl
  rcases h.2 with ⟨h1, h2⟩ | ⟨g, cap, cur, hv, _⟩
  · cases h1; exact ⟨rfl, rfl⟩
  · cases hv
theorem own_row_at9 {w : World} {base : Nat} {e : TypeId} {size : Nat} {A : Option Addr} {c n : Nat} {xs : List Value} (h : w.ownsRow base e size (.slice A n c) n xs) : RowAt w A xs := by
  obtain ⟨A', c', e, hr⟩ := own_row h
  simp only [Value.slice.injEq] at e
  obtain ⟨h1, _⟩ := e
  subst h1
  exact hr
theorem call_enter9 {P : Program} {f : FuncId} {fn : Func} {c : Code} (hf : P.funcs[f]? = some fn) (hname : (fn.name == "runtime.NumGoroutine") = false) (hb : fn.body = some c) (args : Array Value) (w : World) :
    (callFunc f args).run P w = .ok (.enter f args) w := by
  have h1 : fn.name ≠ "runtime.NumGoroutine" := by simpa using hname
  simp [callFunc, hf, h1, hb]
set_option maxRecDepth 100000 in
theorem step_get {w : World} {ops : Array Oper} {o : Oper} {a : Act} {K : Act → World → Prop} {Q : Exit → Act → World → Prop} {E : Prop} (hgd : o.guard = none) (x : Operand) (t : TypeId) (ho : o.op = .call { callee := .value (.func 89), args := #[x], argTypes := #[t] })
    (p v : Value) (hx : a.eval x = p) (hc : Calls Try.prog 89 #[p] w fun e w' => e = .returned v ∧ w = w') (h : K (a.put o.dst v) w) : if Region.wanted o (yielded ops a.tmps) = true then Oper.wp Try.prog o a w K Q else E := by
  have hw : Region.wanted o (yielded ops a.tmps) = true := by simp [Region.wanted, hgd]
  rw [if_pos hw]
  have hF : a.eval (.func 89) = .func (.func 89) #[] #[] := rfl
  have hcf : (callFunc 89 #[p]).run Try.prog w = .ok (.enter 89 #[p]) w := call_enter9 Try.func89 (by kernel_rfl) rfl _ _
  unfold Oper.wp
  simp [execOp, ho, resolve, invoke, hx, hF, hcf]
  unfold Oper.upon
  refine hc.mono ?_
  rintro e w' ⟨rfl, rfl⟩
  exact h
theorem chL_succ (f : Nat → Bool) (k : Nat) : chL f (k + 1) = if f k = true then chL f k ++ [k] else chL f k := by
  unfold chL
  rw [List.range_succ, List.filter_append]
  by_cases h : f k = true
  · simp [h]
  · simp [h]
theorem chL_len (f : Nat → Bool) (k : Nat) : (chL f k).length ≤ k := by
  unfold chL
  have := List.length_filter_le f (List.range k)
  simpa using this
/-- The cells of what is told. -/
def hdC (er : Er) (gv av : Value) (dash : Int) (cv : Value) (parsed : Bool) : Array Value :=
  #[.int .i64 (eNo er), .string (mkT (eName er)), .string (mkT (eShort er)), .string (mkT (eVal er)), .int .i64 (eFlag er), gv, av, .int .i64 dash, cv, .bool parsed, .bool false]

theorem ta_help_ne (v : Value) (w : World) : (Instr.typeAssert (.iface 141 v) 85 135 true).run Try.prog w = .ok (.tuple #[.pointer none, .bool false]) w := by kernel_rfl
theorem ta_help_vr (v : Value) (w : World) : (Instr.typeAssert (.iface 141 v) 85 137 true).run Try.prog w = .ok (.tuple #[.pointer none, .bool false]) w := by kernel_rfl
theorem ta_help_iv (v : Value) (w : World) : (Instr.typeAssert (.iface 141 v) 85 139 true).run Try.prog w = .ok (.tuple #[.pointer none, .bool false]) w := by kernel_rfl
theorem ta_help_sy (v : Value) (w : World) : (Instr.typeAssert (.iface 141 v) 85 140 true).run Try.prog w = .ok (.tuple #[.pointer none, .bool false]) w := by kernel_rfl
theorem ta_oth_ne (v : Value) (w : World) : (Instr.typeAssert (.iface 108 v) 85 135 true).run Try.prog w = .ok (.tuple #[.pointer none, .bool false]) w := by kernel_rfl
theorem ta_oth_vr (v : Value) (w : World) : (Instr.typeAssert (.iface 108 v) 85 137 true).run Try.prog w = .ok (.tuple #[.pointer none, .bool false]) w := by kernel_rfl
theorem ta_oth_iv (v : Value) (w : World) : (Instr.typeAssert (.iface 108 v) 85 139 true).run Try.prog w = .ok (.tuple #[.pointer none, .bool false]) w := by kernel_rfl
theorem ta_oth_sy (v : Value) (w : World) : (Instr.typeAssert (.iface 108 v) 85 140 true).run Try.prog w = .ok (.tuple #[.pointer none, .bool false]) w := by kernel_rfl
theorem ta_ne_ne (v : Value) (w : World) : (Instr.typeAssert (.iface 135 v) 85 135 true).run Try.prog w = .ok (.tuple #[v, .bool true]) w := by kernel_rfl
theorem ta_vr_ne (v : Value) (w : World) : (Instr.typeAssert (.iface 137 v) 85 135 true).run Try.prog w = .ok (.tuple #[.pointer none, .bool false]) w := by kernel_rfl
theorem ta_vr_vr (v : Value) (w : World) : (Instr.typeAssert (.iface 137 v) 85 137 true).run Try.prog w = .ok (.tuple #[v, .bool true]) w := by kernel_rfl
theorem ta_iv_ne (v : Value) (w : World) : (Instr.typeAssert (.iface 139 v) 85 135 true).run Try.prog w = .ok (.tuple #[.pointer none, .bool false]) w := by kernel_rfl
theorem ta_iv_vr (v : Value) (w : World) : (Instr.typeAssert (.iface 139 v) 85 137 true).run Try.prog w = .ok (.tuple #[.pointer none, .bool false]) w := by kernel_rfl
theorem ta_iv_iv (v : Value) (w : World) : (Instr.typeAssert (.iface 139 v) 85 139 true).run Try.prog w = .ok (.tuple #[v, .bool true]) w := by kernel_rfl
theorem ta_sy_ne (v : Value) (w : World) : (Instr.typeAssert (.iface 140 v) 85 135 true).run Try.prog w = .ok (.tuple #[.pointer none, .bool false]) w := by kernel_rfl
theorem ta_sy_vr (v : Value) (w : World) : (Instr.typeAssert (.iface 140 v) 85 137 true).run Try.prog w = .ok (.tuple #[.pointer none, .bool false]) w := by kernel_rfl
theorem ta_sy_iv (v : Value) (w : World) : (Instr.typeAssert (.iface 140 v) 85 139 true).run Try.prog w = .ok (.tuple #[.pointer none, .bool false]) w := by kernel_rfl
theorem ta_sy_sy (v : Value) (w : World) : (Instr.typeAssert (.iface 140 v) 85 140 true).run Try.prog w = .ok (.tuple #[v, .bool true]) w := by kernel_rfl
theorem eq_help (w : World) : (binOp .eql 85 (.iface 141 (.string ⟨#[112, 102, 108, 97, 103, 58, 32, 104, 101, 108, 112, 32, 114, 101, 113, 117, 101, 115, 116, 101, 100]⟩)) (.iface 141 (.string ⟨#[112, 102, 108, 97, 103, 58, 32, 104, 101, 108, 112, 32, 114, 101, 113, 117, 101, 115, 116, 101, 100]⟩))).run Try.prog w = .ok (.bool true) w := by kernel_rfl
theorem eq_oth (v : Value) (w : World) : (binOp .eql 85 (.iface 108 v) (.iface 141 (.string ⟨#[112, 102, 108, 97, 103, 58, 32, 104, 101, 108, 112, 32, 114, 101, 113, 117, 101, 115, 116, 101, 100]⟩))).run Try.prog w = .ok (.bool false) w := by kernel_rfl

/-- A set's telling under way: its two blocks. -/
structure HdAt (w wx : World) (cs : Array Value) : Prop where
  bel : Below w.heap.size w wx
  res : wx.heap[w.heap.size]? = some (.cells #[.int .i64 0, .string ⟨#[]⟩, .string ⟨#[]⟩, .string ⟨#[]⟩, .int .i64 0, .slice none 0 0, .slice none 0 0, .int .i64 0, .slice none 0 0, .bool false, .bool false] 32 (0, 0))
  now : wx.heap[w.heap.size + 1]? = some (.cells cs 32 (0, 0))
theorem HdAt.set {w wx : World} {cs : Array Value} (h : HdAt w wx cs) (j : Nat) (v : Value) : HdAt w (wx.setCell ⟨w.heap.size + 1, j, none⟩ v) (cs.setIfInBounds j v) :=
  ⟨h.bel.setCell (by simp) v, (blk_other (by simp)).trans h.res, blk_set h.now j v⟩
theorem HdAt.below {w wx wy : World} {cs : Array Value} (h : HdAt w wx cs) (hb : Below wx.heap.size wx wy) : HdAt w wy cs :=
  ⟨h.bel.trans (hb.mono h.bel.size), block_kept h.res hb, block_kept h.now hb⟩

theorem HdAt.grow {w wx wy : World} {cs : Array Value} (h : HdAt w wx cs) {e' size' n2 : Nat} {v2 : Value} {xs2 : List Value} (h2 : wx.ownsRow w.heap.size e' size' v2 n2 xs2) (hne : 32 ≠ e') (hg : wx.grownBy wy v2.ownBlock) : HdAt w wy cs :=
  ⟨h.bel.grown hg h.bel.size (fun k e => (h2.lt k e).1), grown_blk hg h.res (fun e => own_far3 h2 h.res hne e.symm), grown_blk hg h.now (fun e => own_far3 h2 h.now hne e.symm)⟩
theorem own_apart {w w' : World} {base base' e e' size size' n n2 : Nat} {v v2 : Value} {xs xs2 : List Value} (h : w.ownsRow base e size v n xs) (h2 : w.ownsRow base' e' size' v2 n2 xs2) (hne : e ≠ e') (hg : w.grownBy w' v2.ownBlock) : w'.ownsRow base e size v n xs :=
  own_of_blk h fun g hg1 => by
    obtain ⟨cur, hc⟩ := own_is h hg1
    exact hg.block g (lt_of_block hc) (fun e2 => own_far3 h2 hc hne e2.symm)
theorem own_set {w : World} {base e size n : Nat} {v : Value} {xs : List Value} (h : w.ownsRow base e size v n xs) {b : Nat} {cs : Array Value} {t : TypeId} {fr : Nat × Nat} (hb : w.heap[b]? = some (.cells cs t fr)) (hne : t ≠ e) (j : Nat) (x : Value) : (w.setCell ⟨b, j, none⟩ x).ownsRow base e size v n xs :=
  own_of_blk h fun g hg => blk_other (fun e2 => by subst e2; exact own_far3 h hb hne hg)
theorem Try.infoI16 : (Try.prog.info? 3).map (fun i => (i.zero, i.size, i.bytes)) = some (some (.int .i64 0), 1, 8) := by kernel_rfl
theorem gCells_drop (G : List (Nat × Txt)) : ∀ k, gCells (G.drop k) = (gCells G).drop (k * 2) := by
  induction G with
  | nil => intro k; simp [gCells]
  | cons a r ih =>
    intro k
    cases k with
    | zero => rfl
    | succ k =>
      rw [List.drop_succ_cons, ih k]
      have e : gCells (a :: r) = .int .i64 (a.1 : Int) :: .string (mkT a.2) :: gCells r := rfl
      rw [e, show (k + 1) * 2 = k * 2 + 1 + 1 by omega, List.drop_succ_cons, List.drop_succ_cons]
theorem slice_from {w : World} {base : Nat} {A : Option Addr} {c : Nat} {G : List (Nat × Txt)} (h : w.ownsRow base 57 2 (.slice A G.length c) G.length (gCells G)) (k : Nat) (hk : k ≤ G.length) :
    ∃ A' c', (∀ W, (Instr.slice 29 (.slice A G.length c) (some (.int .i64 (k : Int))) none none).run Try.prog W = .ok (.slice A' (G.drop k).length c') W) ∧ (A' = none → (G.drop k).length = 0 ∧ c' = 0) ∧ ∀ ad, A' = some ad → ∀ j u, (gCells (G.drop k))[j]? = some u → w.cell? (ad.add j) = some u := by
  have hrun : ∀ W, (Instr.slice 29 (.slice A G.length c) (some (.int .i64 (k : Int))) none none).run Try.prog W = .ok (sliced A k G.length c 2) W := fun W => by
    rw [run_slice_l (P := Try.prog) W 29 A G.length c (by kernel_rfl) .i64 k (by omega) (by omega)]
    have e : (sizeOf (Try.prog.elem 29)).run Try.prog W = .ok 2 W := by kernel_rfl
    rw [e]
    simp only [Result.andThen, Int.toNat_natCast]
  have hl : (G.drop k).length = G.length - k := by simp
  have hat := own_row_at9 h
  have h0 := own_row0 h
  have hc : G.length ≤ c := by
    rcases h.2 with ⟨h1, h2⟩ | ⟨g, cap, cur, hv, _, _, hnc, _⟩
    · simp only [Value.slice.injEq] at h1; omega
    · cases hv; exact hnc
  by_cases e : c = k
  · subst e
    have e0 : (G.drop c).length = 0 := by omega
    refine ⟨A, 0, fun W => by rw [hrun W, hl]; simp [sliced], fun _ => ⟨e0, rfl⟩, fun ad _ j u hu => ?_⟩
    rw [List.eq_nil_of_length_eq_zero e0] at hu
    simp [gCells] at hu
  · refine ⟨A.map (·.add (k * 2)), c - k, fun W => by rw [hrun W, hl]; simp [sliced, e], fun hn => ?_, fun ad hA j u hu => ?_⟩
    · have hA : A = none := by cases A with
        | none => rfl
        | some a => simp at hn
      have := h0 hA
      omega
    · cases A with
      | none => simp at hA
      | some a =>
        simp only [Option.map_some, Option.some.injEq] at hA
        subst hA
        rw [gCells_drop, List.getElem?_drop] at hu
        obtain ⟨g, e1, e2⟩ := hat _ _ hu
        cases e1
        have am : ∀ x y, (⟨g, x, none⟩ : Addr).add y = ⟨g, x + y, none⟩ := fun x y => by unfold Addr.add; split <;> simp_all
        rw [am, am, Nat.zero_add]
        exact e2

set_option maxRecDepth 100000 in
set_option maxHeartbeats 3200000 in
theorem heard_from (C : PC) (V : PV) (s : PS) (er : Er) (E : Value) (w : World) (hp : Pm w C V s) (he : ErrAt C w E er) (hi : ∀ i n t v, er = .need i n t ∨ er = .invalid i v → i < C.S.flags.length) (hn : C.S.flags.length ≤ 17179869184) (fk : Nat) (hfk : fk ≤ s.G.length) (G' : List (Nat × Txt)) (hG' : s.G.drop fk = G') (hG : G'.length ≤ 1099511627776) (hA : s.A.length ≤ 1099511627776) :
    Calls Try.prog 51 #[.pointer (some ⟨C.Wb, 0, none⟩), E, .int .i64 (fk : Int)] w fun e w' => ∃ v, e = .returned v ∧ HeardV w.heap.size w' { s with G := G' } er C.S.flags.length v ∧ Below w.heap.size w w' := by
  have k0 : w.cell? ⟨C.Wb, 0, none⟩ = some (.pointer (some ⟨C.F, 0, none⟩)) := (cell_blk hp.hW 0).trans rfl
  have lF := lt_of_block hp.hF
  have lW := lt_of_block hp.hW
  have f4 : w.cell? ⟨C.F, 4, none⟩ = some (.bool s.parsed) := (cell_blk hp.hF 4).trans rfl
  have f13 : w.cell? ⟨C.F, 13, none⟩ = some (.int .i64 s.dash) := (cell_blk hp.hF 13).trans rfl
  have HP := Lib.hid hp
  have HE := Lib.hid he
  have HI := Lib.hid hi
  have HG' := Lib.hid hG'
  clear hG'
  clear hp he hi
  go_enter Try.func51, Try.ntmps51
  go_wp2
  go_cut [7] (fun s7 wx => s7 = .pointer (some ⟨w.heap.size + 1, 0, none⟩) ∧ Hid (HdAt w wx (hdC .no (.slice none 0 0) (.slice none 0 0) s.dash (.slice none 0 0) s.parsed)))
  case first =>
    go_region_held3 (fun w' => w'.cell? ⟨C.Wb, 0, none⟩ = some (.pointer (some ⟨C.F, 0, none⟩)) ∧ w'.cell? ⟨C.F, 13, none⟩ = some (.int .i64 s.dash) ∧ w'.cell? ⟨C.F, 4, none⟩ = some (.bool s.parsed)) (first | assumption | go_keep)
      (first
        | (go_at_call 79; refine (get_dash _ s.dash _ (by first | exact cell_kept (((Below.refl _ _).alloc (Nat.le_refl _) _).drew) f13 | exact cell_kept ((((Below.refl _ _).alloc (Nat.le_refl _) _).alloc (by simp) _).drew) f13)).mono ?_; rintro e w2 ⟨rfl, rfl⟩)
        | (go_at_call 80; refine (get_parsed _ s.parsed _ (by first | exact cell_kept (((Below.refl _ _).alloc (Nat.le_refl _) _).drew) f4 | exact cell_kept ((((Below.refl _ _).alloc (Nat.le_refl _) _).alloc (by simp) _).drew) f4)).mono ?_; rintro e w2 ⟨rfl, rfl⟩))
    all_goals
      go_wp2_with fail
      go_meet
      refine ⟨rfl, ?_⟩
      show HdAt _ _ _
      exact (HdAt.mk ((((Below.refl _ _).alloc (Nat.le_refl _) _).alloc (by simp) _)) (block_kept (heap_alloc_new w _) ((Below.refl _ _).alloc (Nat.le_refl _) _)) (by have h := heap_alloc_new (w.alloc (.cells #[.int .i64 0, .string ⟨#[]⟩, .string ⟨#[]⟩, .string ⟨#[]⟩, .int .i64 0, .slice none 0 0, .slice none 0 0, .int .i64 0, .slice none 0 0, .bool false, .bool false] 32)) (.cells (hdC .no (.slice none 0 0) (.slice none 0 0) s.dash (.slice none 0 0) s.parsed) 32); have e : (w.alloc (.cells #[.int .i64 0, .string ⟨#[]⟩, .string ⟨#[]⟩, .string ⟨#[]⟩, .int .i64 0, .slice none 0 0, .slice none 0 0, .int .i64 0, .slice none 0 0, .bool false, .bool false] 32)).heap.size = w.heap.size + 1 := (by simp); rw [e] at h; exact h)).below ((Below.refl _ _).drew)
  case rest =>
    obtain ⟨rfl, HD⟩ := hcut
    go_upto_block 0 with fail
    go_cut [] (fun wx2 => Hid (HdAt w wx2 (hdC er (.slice none 0 0) (.slice none 0 0) s.dash (.slice none 0 0) s.parsed)))
    case first =>
      have HPC := Lib.hid (HP.out.below HD.out.bel)
      have d0 : wc.cell? ⟨w.heap.size + 1, 0, none⟩ = some (.int .i64 0) := (cell_blk HD.out.now 0).trans rfl
      have d1 : wc.cell? ⟨w.heap.size + 1, 1, none⟩ = some (.string ⟨#[]⟩) := (cell_blk HD.out.now 1).trans rfl
      have d2 : wc.cell? ⟨w.heap.size + 1, 2, none⟩ = some (.string ⟨#[]⟩) := (cell_blk HD.out.now 2).trans rfl
      have d3 : wc.cell? ⟨w.heap.size + 1, 3, none⟩ = some (.string ⟨#[]⟩) := (cell_blk HD.out.now 3).trans rfl
      have d4 : wc.cell? ⟨w.heap.size + 1, 4, none⟩ = some (.int .i64 (-1)) := (cell_blk HD.out.now 4).trans rfl
      have zD := free_blk HD.out.now
      have lD := lt_of_block HD.out.now
      have he := HE.out
      have hi0 := HI.out
      clear HE HI k0 f4 f13 hG hA
      cases er with
      | no =>
        have hE : E = .nilIface := he
        subst hE
        go_wp2_with fail
        go_meet
        show HdAt _ _ _
        exact HD.out
      | help =>
        have hE : E = .iface 141 (.string ⟨#[112, 102, 108, 97, 103, 58, 32, 104, 101, 108, 112, 32, 114, 101, 113, 117, 101, 115, 116, 101, 100]⟩) := he
        subst hE
        have q0 := ta_help_ne
        have q1 := ta_help_vr
        have q2 := ta_help_iv
        have q3 := ta_help_sy
        have q4 := eq_help
        go_wp2_with fail
        go_meet
        show HdAt _ _ _
        exact ((HD.out.set 0 _).set 0 _)
      | other =>
        have hE : E = .iface 108 (.agg #[]) := he
        subst hE
        have q0 := ta_oth_ne
        have q1 := ta_oth_vr
        have q2 := ta_oth_iv
        have q3 := ta_oth_sy
        have q4 := eq_oth
        go_wp2_with fail
        go_meet
        show HdAt _ _ _
        exact (HD.out.set 0 _)
      | notExist n t =>
        obtain ⟨p, k, hE, hq⟩ := he
        subst hE
        have hq := block_kept hq HD.out.bel
        have e0 : wc.cell? ⟨p, 0, none⟩ = some (.string (mkT n)) := (cell_blk hq 0).trans rfl
        have e1 : wc.cell? ⟨p, 1, none⟩ = some (.string (mkT t)) := (cell_blk hq 1).trans rfl
        clear hq
        have q0 := ta_ne_ne
        go_wp2_with (first
          | (go_at_call 81; refine (get_neName _ (mkT n) _ (by assumption)).mono ?_; rintro e w2 ⟨rfl, rfl⟩)
          | (go_at_call 82; refine (get_neShort _ (mkT t) _ (by assumption)).mono ?_; rintro e w2 ⟨rfl, rfl⟩))
        go_meet
        show HdAt _ _ _
        exact (((HD.out.set 0 _).set 1 _).set 2 _)
      | need i n t =>
        obtain ⟨p, hE, hq⟩ := he
        subst hE
        have hi := hi0 i n t [] (.inl rfl)
        have hq := block_kept hq HD.out.bel
        have e0 : wc.cell? ⟨p, 0, none⟩ = some (.pointer (some ⟨C.FL.getD i 0, 0, none⟩)) := (cell_blk hq 0).trans rfl
        have e1 : wc.cell? ⟨p, 1, none⟩ = some (.string (mkT n)) := (cell_blk hq 1).trans rfl
        have e2 : wc.cell? ⟨p, 2, none⟩ = some (.string (mkT t)) := (cell_blk hq 2).trans rfl
        clear hq hi0
        have q0 := ta_vr_ne
        have q1 := ta_vr_vr
        go_wp2_with (first
          | (go_at_call 83; refine (get_vrName _ (mkT n) _ (by assumption)).mono ?_; rintro e w2 ⟨rfl, rfl⟩)
          | (go_at_call 84; refine (get_vrShort _ (mkT t) _ (by assumption)).mono ?_; rintro e w2 ⟨rfl, rfl⟩)
          | (go_at_call 85; refine (get_vrFlag _ (C.FL.getD i 0) _ (by assumption)).mono ?_; rintro e w2 ⟨rfl, rfl⟩)
          | (go_at_call 64; refine (place_any C V s i _ HPC.out hi hn).mono ?_; rintro e w2 ⟨rfl, rfl⟩))
        go_meet
        show HdAt _ _ _
        exact ((((HD.out.set 0 _).set 1 _).set 2 _).set 4 _)
      | invalid i v =>
        obtain ⟨p, q9, hE, hq⟩ := he
        subst hE
        have hi := hi0 i [] [] v (.inr rfl)
        have hq := block_kept hq HD.out.bel
        have e0 : wc.cell? ⟨p, 0, none⟩ = some (.pointer (some ⟨C.FL.getD i 0, 0, none⟩)) := (cell_blk hq 0).trans rfl
        have e1 : wc.cell? ⟨p, 1, none⟩ = some (.string (mkT v)) := (cell_blk hq 1).trans rfl
        clear hq hi0
        have q0 := ta_iv_ne
        have q1 := ta_iv_vr
        have q2 := ta_iv_iv
        go_wp2_with (first
          | (go_at_call 86; refine (get_ivValue _ (mkT v) _ (by assumption)).mono ?_; rintro e w2 ⟨rfl, rfl⟩)
          | (go_at_call 87; refine (get_ivFlag _ (C.FL.getD i 0) _ (by assumption)).mono ?_; rintro e w2 ⟨rfl, rfl⟩)
          | (go_at_call 64; refine (place_any C V s i _ HPC.out hi hn).mono ?_; rintro e w2 ⟨rfl, rfl⟩))
        go_meet
        show HdAt _ _ _
        exact (((HD.out.set 0 _).set 3 _).set 4 _)
      | syn a =>
        obtain ⟨p, hE, hq⟩ := he
        subst hE
        have hq := block_kept hq HD.out.bel
        have e0 : wc.cell? ⟨p, 0, none⟩ = some (.string (mkT a)) := (cell_blk hq 0).trans rfl
        clear hq
        have q0 := ta_sy_ne
        have q1 := ta_sy_vr
        have q2 := ta_sy_iv
        have q3 := ta_sy_sy
        go_wp2_with (first
          | (go_at_call 88; refine (get_syFlag _ (mkT a) _ (by assumption)).mono ?_; rintro e w2 ⟨rfl, rfl⟩))
        go_meet
        show HdAt _ _ _
        exact ((HD.out.set 0 _).set 1 _)
    case rest =>
      clear HD
      have HD := Lib.hid hcut.out
      clear hcut
      obtain ⟨ti, gi, hz0, hz1, hz2⟩ := info_parts Try.infoG
      obtain ⟨ts, si, sz0, sz1, sz2⟩ := info_parts Try.infoS14
      obtain ⟨tn, ni, nz0, nz1, nz2⟩ := info_parts Try.infoI16
      clear HE HI
      go_upto_region 21 with fail
      go_cut [] (fun wx => ∃ GA gc, Hid (HdAt w wx (hdC er (.slice GA G'.length gc) (.slice none 0 0) s.dash (.slice none 0 0) s.parsed) ∧ wx.ownsRow w.heap.size 57 2 (.slice GA G'.length gc) G'.length (gCells G')))
      case first =>
        have HPC := Lib.hid (HP.out.below HD.out.bel)
        obtain ⟨As, cs9, hsv, hrow⟩ := own_row HPC.out.sdr
        have hsv : V.said = .slice As s.G.length cs9 := hsv
        have hown0 : wc.ownsRow C.B1 57 2 (.slice As s.G.length cs9) s.G.length (gCells s.G) := (by have q := HPC.out.sdr; rw [hsv] at q; exact q)
        obtain ⟨As', cs', hsl, hn0, hnw⟩ := slice_from hown0 fk hfk
        rw [HG'.out] at hsl hn0 hnw
        have HNW := Lib.hid hnw
        have HN0 := Lib.hid hn0
        clear hown0 hn0 hnw
        have c2 : wc.cell? ⟨C.Wb, 2, none⟩ = some (.slice As s.G.length cs9) := (cell_blk HPC.out.hW 2).trans (by show some V.said = _; rw [hsv])
        have d5 : wc.cell? ⟨w.heap.size + 1, 5, none⟩ = some (.slice none 0 0) := (cell_blk HD.out.now 5).trans rfl
        have zD := free_blk HD.out.now
        have lD := lt_of_block HD.out.now
        have HB := Lib.hid HD.out.bel.size
        have HGL : Hid ((gCells G').length = G'.length * 2) := gCells_len G'
        have HG1 : Hid (∀ u ∈ gCells G', u.oneCell' = true) := gCells_one G'
        clear hsv hrow k0 f4 f13 hA hn
        generalize hGC : gCells G' = GC at HNW HGL HG1
        have HGC := Lib.hid hGC
        clear hGC
        go_region_law ((refine step_append_any (by rfl) _ _ _ (by rfl) w.heap.size 57 ti _ 2 24 Try.underlying29 gi hz0 hz1 hz2 rfl (by omega) (.slice none 0 0) 0 [] (by rfl) (World.ownsRow_nil _ _ _ _) As' G'.length cs' GC (by rfl) HN0.out HGL.out HNW.out HG1.out (by unfold maxLen; omega) (by omega) HB.out ?_; intro v2 w2 hown2 hgrow; rw [Nat.zero_add, List.nil_append] at hown2; obtain ⟨A2, c9, hv2, _⟩ := own_row hown2; subst hv2; have HD2 : HdAt w w2 _ := (by first | exact HD.out.grow (World.ownsRow_nil _ w.heap.size 57 2) (by decide) hgrow | exact (HD.out.below ((Below.refl _ _).drew)).grow (World.ownsRow_nil _ w.heap.size 57 2) (by decide) hgrow); have k5 : w2.cell? ⟨w.heap.size + 1, 5, none⟩ = some (.slice none 0 0) := (cell_blk HD2.now 5).trans rfl; have z5 := free_blk HD2.now; have l5 := lt_of_block HD2.now; have HD3 := Lib.hid HD2; have HO3 := Lib.hid hown2; clear HD2 hown2 hgrow))
        all_goals
          go_wp2_with fail
          go_meet
          refine ⟨A2, c9, ?_⟩
          show _ ∧ _
          refine ⟨?_, ?_⟩
          · exact HD3.out.set 5 _
          · rw [HGC.out]; exact own_set HO3.out HD3.out.now (by decide) 5 _
      case rest =>
        clear HD
        obtain ⟨GA, gc, HH⟩ := hcut
        have HD := Lib.hid HH.out.1
        have HOG := Lib.hid HH.out.2
        clear HH
        go_upto_region 22 with fail
        go_cut [] (fun wx => ∃ AA ac, Hid (HdAt w wx (hdC er (.slice GA G'.length gc) (.slice AA s.A.length ac) s.dash (.slice none 0 0) s.parsed) ∧ wx.ownsRow w.heap.size 57 2 (.slice GA G'.length gc) G'.length (gCells G') ∧ wx.ownsRow w.heap.size 9 1 (.slice AA s.A.length ac) s.A.length (aCells s.A)))
        case first =>
          have HPC := Lib.hid (HP.out.below HD.out.bel)
          obtain ⟨As, cs9, hsv, hrow⟩ := own_row HPC.out.avr
          have hsv : V.av = .slice As s.A.length cs9 := hsv
          have HN0 := own_row0 (show wc.ownsRow C.B1 9 1 (.slice As s.A.length cs9) s.A.length (aCells s.A) from (by have q := HPC.out.avr; rw [hsv] at q; exact q))
          have HNW := Lib.hid (fun (W : World) (hb : Below wc.heap.size wc W) => row_news (own_row_at9 (own_kept (show wc.ownsRow C.B1 9 1 (.slice As s.A.length cs9) s.A.length (aCells s.A) from (by have q := HPC.out.avr; rw [hsv] at q; exact q)) hb)))
          have HN0 := Lib.hid HN0
          have g12 : wc.cell? ⟨C.F, 12, none⟩ = some (.slice As s.A.length cs9) := (cell_blk HPC.out.hF 12).trans (by show some V.av = _; rw [hsv])
          have gW : wc.cell? ⟨C.Wb, 0, none⟩ = some (.pointer (some ⟨C.F, 0, none⟩)) := (cell_blk HPC.out.hW 0).trans rfl
          have d6 : wc.cell? ⟨w.heap.size + 1, 6, none⟩ = some (.slice none 0 0) := (cell_blk HD.out.now 6).trans rfl
          have zD := free_blk HD.out.now
          have lD := lt_of_block HD.out.now
          have HB := Lib.hid HD.out.bel.size
          have HGL : Hid ((aCells s.A).length = s.A.length * 1) := by show _ = _; rw [aCells_len, Nat.mul_one]
          have HG1 : Hid (∀ u ∈ aCells s.A, u.oneCell' = true) := by show ∀ u ∈ aCells s.A, _; intro u hu; unfold aCells at hu; obtain ⟨t9, _, rfl⟩ := List.mem_map.1 hu; rfl
          have lFc : C.F < wc.heap.size := lt_of_block HPC.out.hF
          have lWc : C.Wb < wc.heap.size := lt_of_block HPC.out.hW
          clear hsv hrow k0 f4 f13 hG hn
          generalize hGC : aCells s.A = AC at HNW HGL HG1
          have HGC := Lib.hid hGC
          clear hGC
          go_region_law (first
              | (refine step_get (by rfl) _ _ (by rfl) (.pointer (some ⟨C.F, 0, none⟩)) (.slice As s.A.length cs9) (by rfl) (get_args _ As s.A.length cs9 _ (by first | exact g12 | exact cell_kept ((Below.refl _ _).drew) g12)) ?_)
              | ((refine step_append_any (by rfl) _ _ _ (by rfl) w.heap.size 9 ts _ 1 16 Try.underlying25 si sz0 sz1 sz2 rfl (by omega) (.slice none 0 0) 0 [] (by rfl) (World.ownsRow_nil _ _ _ _) As s.A.length cs9 AC (by rfl) HN0.out HGL.out (by first | exact HNW.out _ (Below.refl _ _) | exact HNW.out _ ((Below.refl _ _).drew)) HG1.out (by unfold maxLen; omega) (by omega) HB.out ?_; intro v2 w2 hown2 hgrow; rw [Nat.zero_add, List.nil_append] at hown2; obtain ⟨A2, c9, hv2, _⟩ := own_row hown2; subst hv2; have HD2 : HdAt w w2 _ ∧ w2.ownsRow w.heap.size 57 2 (.slice GA G'.length gc) G'.length (gCells G') ∧ w2.heap[C.Wb]? = some (.cells #[.pointer (some ⟨C.F, 0, none⟩), V.flv, V.said] 90 (0, 0)) := (by first | exact ⟨HD.out.grow (World.ownsRow_nil _ w.heap.size 9 1) (by decide) hgrow, own_apart HOG.out (World.ownsRow_nil _ w.heap.size 9 1) (by decide) hgrow, grown_blk hgrow HPC.out.hW (by simp [Value.ownBlock])⟩ | exact ⟨(HD.out.below ((Below.refl _ _).drew)).grow (World.ownsRow_nil _ w.heap.size 9 1) (by decide) hgrow, own_apart (own_kept HOG.out ((Below.refl _ _).drew)) (World.ownsRow_nil _ w.heap.size 9 1) (by decide) hgrow, grown_blk hgrow (HPC.out.below ((Below.refl _ _).drew)).hW (by simp [Value.ownBlock])⟩); have k6 : w2.cell? ⟨w.heap.size + 1, 6, none⟩ = some (.slice none 0 0) := (cell_blk HD2.1.now 6).trans rfl; have z6 := free_blk HD2.1.now; have l6 := lt_of_block HD2.1.now; have kW : w2.cell? ⟨C.Wb, 0, none⟩ = some (.pointer (some ⟨C.F, 0, none⟩)) := (cell_blk HD2.2.2 0).trans rfl; have kWs : ∀ x, (w2.setCell ⟨w.heap.size + 1, 6, none⟩ x).cell? ⟨C.Wb, 0, none⟩ = some (.pointer (some ⟨C.F, 0, none⟩)) := (fun x => (cell_blk ((blk_other (show C.Wb ≠ w.heap.size + 1 by omega)).trans HD2.2.2) 0).trans rfl); have HD3 := Lib.hid HD2.1; have HG3 := Lib.hid HD2.2.1; have HO3 := Lib.hid hown2; clear HD2 hown2 hgrow)))
          all_goals
            go_wp2_with fail
            go_meet
            refine ⟨A2, c9, ?_⟩
            show _ ∧ _ ∧ _
            refine ⟨?_, ?_, ?_⟩
            · exact HD3.out.set 6 _
            · exact own_set HG3.out HD3.out.now (by decide) 6 _
            · rw [HGC.out]; exact own_set HO3.out HD3.out.now (by decide) 6 _
        case rest =>
          clear HD HOG
          obtain ⟨AA, ac, HH⟩ := hcut
          have HD := Lib.hid HH.out.1
          have HOG := Lib.hid HH.out.2.1
          have HOA := Lib.hid HH.out.2.2
          clear HH k0 f4 f13
          have HPC := Lib.hid (HP.out.below HD.out.bel)
          obtain ⟨Af, cf, hsv, hrow⟩ := own_row HP.out.flr
          have gW1 : wc.cell? ⟨C.Wb, 1, none⟩ = some (.slice Af C.FL.length cf) := (cell_blk HPC.out.hW 1).trans (by show some V.flv = _; rw [hsv])
          have hlen : C.FL.length = C.S.flags.length := HPC.out.len
          have lWc : C.Wb < wc.heap.size := lt_of_block HPC.out.hW
          have HRW := Lib.hid hrow
          clear hsv hrow
          have hn2 : (C.FL.length : Int) ≤ 17179869184 := by omega
          go_wp2_with fail
          go_loopw [102] (fun j wx => ∃ (k : Nat) (CA : Option Addr) (cc : Nat), k ≤ C.FL.length ∧ j = .int .i64 k ∧ Hid (HdAt w wx (hdC er (.slice GA G'.length gc) (.slice AA s.A.length ac) s.dash (.slice CA (chL s.chg k).length cc) s.parsed) ∧ wx.ownsRow w.heap.size 57 2 (.slice GA G'.length gc) G'.length (gCells G') ∧ wx.ownsRow w.heap.size 9 1 (.slice AA s.A.length ac) s.A.length (aCells s.A) ∧ wx.ownsRow w.heap.size 3 1 (.slice CA (chL s.chg k).length cc) (chL s.chg k).length (iCells (chL s.chg k)))) (fun j _ => C.FL.length - (intOf j).toNat)
          case atStart => exact ⟨0, none, 0, Nat.zero_le _, rfl, ⟨HD.out, HOG.out, HOA.out, World.ownsRow_nil _ _ _ _⟩⟩
          case round =>
            clear HD HOG HOA gW1 HPC lWc
            obtain ⟨k, CA, cc, hk, rfl, HR⟩ := hrel
            have HD := Lib.hid HR.out.1
            have HOG := Lib.hid HR.out.2.1
            have HOA := Lib.hid HR.out.2.2.1
            have HOC := Lib.hid HR.out.2.2.2
            clear HR
            have i0 : (0 : Int) ≤ (k : Int) := Int.natCast_nonneg _
            have zD := free_blk HD.out.now
            have lD := lt_of_block HD.out.now
            have hbs : w.heap.size ≤ wr.heap.size := HD.out.bel.size
            by_cases hlt : k < C.FL.length
            · obtain ⟨g, hAf, hc⟩ := ptrsL_at HRW.out hlt
              have i1 : (k : Int) < (C.FL.length : Int) := by omega
              subst hAf
              have c1 := cell_kept HD.out.bel hc
              have c5 : wr.cell? ⟨C.FL.getD k 0, 5, none⟩ = some (.bool (s.chg k)) := cell_kept HD.out.bel ((cell_blk (HP.out.flag k (by rw [← hlen]; exact hlt)) 5).trans rfl)
              have d8 : wr.cell? ⟨w.heap.size + 1, 8, none⟩ = some (.slice CA (chL s.chg k).length cc) := (cell_blk HD.out.now 8).trans rfl
              have hcl := chL_len s.chg k
              have hks := chL_succ s.chg k
              clear HRW hc HP
              generalize C.FL.getD k 0 = p at c1 c5
              by_cases hch : s.chg k = true
              · rw [hch] at c5
                rw [if_pos hch] at hks
                have HKS := Lib.hid hks
                have HOCA : Hid ((wr.alloc (.cells #[.int .i64 k] 3)).ownsRow w.heap.size 3 1 (.slice CA (chL s.chg k).length cc) (chL s.chg k).length (iCells (chL s.chg k))) := own_kept HOC.out ((Below.refl _ _).alloc (Nat.le_refl _) _)
                have HDA := Lib.hid (HD.out.below ((Below.refl _ _).alloc (Nat.le_refl _) (.cells #[.int .i64 k] 3)))
                have HOGA := Lib.hid (own_kept HOG.out ((Below.refl _ _).alloc (Nat.le_refl _) (.cells #[.int .i64 k] 3)))
                have HOAA := Lib.hid (own_kept HOA.out ((Below.refl _ _).alloc (Nat.le_refl _) (.cells #[.int .i64 k] 3)))
                clear hks hch
                generalize hq : (chL s.chg k).length = q at d8 HOCA HDA hcl
                have HQ := Lib.hid hq
                clear hq
                go_wp2_with (at_builtin; refine wpList_append_any rfl (.tmp 112) (.tmp 114) 30 rfl w.heap.size 3 tn _ 1 8 Try.underlying30 ni nz0 nz1 nz2 rfl (by decide) _ q _ rfl HOCA.out (some ⟨wr.heap.size, 0, none⟩) 1 1 [.int .i64 k] rfl (fun h => by cases h) rfl (fun ad e => by cases e; exact World.news_of_block (cs := #[.int .i64 k]) (t := 3) (fr := (0, 0)) (heap_alloc_new wr _)) (by simp [Value.oneCell']) (by unfold maxLen; omega) (by omega) (by simp; omega) ?_; intro v6 w6 hown6 hg6; have HD6 := HDA.out.grow HOCA.out (by decide) hg6; have HG6 := Lib.hid (own_apart HOGA.out HOCA.out (by decide) hg6); have HA6 := Lib.hid (own_apart HOAA.out HOCA.out (by decide) hg6); obtain ⟨A6, c6, hv6, _⟩ := own_row hown6; subst hv6; have k8 : w6.cell? ⟨w.heap.size + 1, 8, none⟩ = some (.slice CA q cc) := (cell_blk HD6.now 8).trans rfl; have z8 := free_blk HD6.now; have l8 := lt_of_block HD6.now; have HD7 := Lib.hid HD6; have HO7 := Lib.hid hown6; clear HD6 hown6 hg6)
                go_roundw
                case rel =>
                  have e1 : (chL s.chg (k + 1)).length = q + 1 := by rw [HKS.out, List.length_append, HQ.out]; rfl
                  have e2 : iCells (chL s.chg (k + 1)) = iCells (chL s.chg k) ++ [.int .i64 k] := by rw [HKS.out]; simp [iCells]
                  refine ⟨k + 1, A6, c6, by omega, by go_num, ?_⟩
                  show _ ∧ _ ∧ _ ∧ _
                  rw [e1, e2]
                  exact ⟨HD7.out.set 8 _, own_set HG6.out HD7.out.now (by decide) 8 _, own_set HA6.out HD7.out.now (by decide) 8 _, own_set HO7.out HD7.out.now (by decide) 8 _⟩
                case measure => simp [intOf]; omega
              · have hch : s.chg k = false := by simpa using hch
                rw [hch] at c5
                rw [if_neg (by rw [hch]; simp)] at hks
                have HKS := Lib.hid hks
                clear hks hch
                go_wp2
                go_roundw
                case rel =>
                  refine ⟨k + 1, CA, cc, by omega, by go_num, ?_⟩
                  show _ ∧ _ ∧ _ ∧ _
                  rw [HKS.out]
                  exact ⟨HD.out, HOG.out, HOA.out, HOC.out⟩
                case measure => simp [intOf]; omega
            · have hke : k = C.FL.length := by omega
              have d0 : wr.cell? ⟨w.heap.size + 1, 0, none⟩ = some (.int .i64 (eNo er)) := (cell_blk HD.out.now 0).trans rfl
              have d1 : wr.cell? ⟨w.heap.size + 1, 1, none⟩ = some (.string (mkT (eName er))) := (cell_blk HD.out.now 1).trans rfl
              have d2 : wr.cell? ⟨w.heap.size + 1, 2, none⟩ = some (.string (mkT (eShort er))) := (cell_blk HD.out.now 2).trans rfl
              have d3 : wr.cell? ⟨w.heap.size + 1, 3, none⟩ = some (.string (mkT (eVal er))) := (cell_blk HD.out.now 3).trans rfl
              have d4 : wr.cell? ⟨w.heap.size + 1, 4, none⟩ = some (.int .i64 (eFlag er)) := (cell_blk HD.out.now 4).trans rfl
              have d5 : wr.cell? ⟨w.heap.size + 1, 5, none⟩ = some (.slice GA G'.length gc) := (cell_blk HD.out.now 5).trans rfl
              have d6 : wr.cell? ⟨w.heap.size + 1, 6, none⟩ = some (.slice AA s.A.length ac) := (cell_blk HD.out.now 6).trans rfl
              have d7 : wr.cell? ⟨w.heap.size + 1, 7, none⟩ = some (.int .i64 s.dash) := (cell_blk HD.out.now 7).trans rfl
              have d8 : wr.cell? ⟨w.heap.size + 1, 8, none⟩ = some (.slice CA (chL s.chg k).length cc) := (cell_blk HD.out.now 8).trans rfl
              have d9 : wr.cell? ⟨w.heap.size + 1, 9, none⟩ = some (.bool s.parsed) := (cell_blk HD.out.now 9).trans rfl
              have d10 : wr.cell? ⟨w.heap.size + 1, 10, none⟩ = some (.bool false) := (cell_blk HD.out.now 10).trans rfl
              have r0 : wr.cell? ⟨w.heap.size, 0, none⟩ = some (.int .i64 0) := (cell_blk HD.out.res 0).trans rfl
              have r1 : wr.cell? ⟨w.heap.size, 1, none⟩ = some (.string ⟨#[]⟩) := (cell_blk HD.out.res 1).trans rfl
              have r2 : wr.cell? ⟨w.heap.size, 2, none⟩ = some (.string ⟨#[]⟩) := (cell_blk HD.out.res 2).trans rfl
              have r3 : wr.cell? ⟨w.heap.size, 3, none⟩ = some (.string ⟨#[]⟩) := (cell_blk HD.out.res 3).trans rfl
              have r4 : wr.cell? ⟨w.heap.size, 4, none⟩ = some (.int .i64 0) := (cell_blk HD.out.res 4).trans rfl
              have r5 : wr.cell? ⟨w.heap.size, 5, none⟩ = some (.slice none 0 0) := (cell_blk HD.out.res 5).trans rfl
              have r6 : wr.cell? ⟨w.heap.size, 6, none⟩ = some (.slice none 0 0) := (cell_blk HD.out.res 6).trans rfl
              have r7 : wr.cell? ⟨w.heap.size, 7, none⟩ = some (.int .i64 0) := (cell_blk HD.out.res 7).trans rfl
              have r8 : wr.cell? ⟨w.heap.size, 8, none⟩ = some (.slice none 0 0) := (cell_blk HD.out.res 8).trans rfl
              have r9 : wr.cell? ⟨w.heap.size, 9, none⟩ = some (.bool false) := (cell_blk HD.out.res 9).trans rfl
              have r10 : wr.cell? ⟨w.heap.size, 10, none⟩ = some (.bool false) := (cell_blk HD.out.res 10).trans rfl
              have zR := free_blk HD.out.res
              have lR := lt_of_block HD.out.res
              go_wp2
              have hkn : k = C.S.flags.length := by omega
              rw [hkn] at HOC
              have HR := HD.out.res
              have b0 : _ = some (Obj.cells #[.int .i64 (eNo er), .string ⟨#[]⟩, .string ⟨#[]⟩, .string ⟨#[]⟩, .int .i64 0, .slice none 0 0, .slice none 0 0, .int .i64 0, .slice none 0 0, .bool false, .bool false] 32 (0, 0)) := blk_set HR 0 (.int .i64 (eNo er))
              have b1 : _ = some (Obj.cells #[.int .i64 (eNo er), .string (mkT (eName er)), .string ⟨#[]⟩, .string ⟨#[]⟩, .int .i64 0, .slice none 0 0, .slice none 0 0, .int .i64 0, .slice none 0 0, .bool false, .bool false] 32 (0, 0)) := blk_set b0 1 (.string (mkT (eName er)))
              have b2 : _ = some (Obj.cells #[.int .i64 (eNo er), .string (mkT (eName er)), .string (mkT (eShort er)), .string ⟨#[]⟩, .int .i64 0, .slice none 0 0, .slice none 0 0, .int .i64 0, .slice none 0 0, .bool false, .bool false] 32 (0, 0)) := blk_set b1 2 (.string (mkT (eShort er)))
              have b3 : _ = some (Obj.cells #[.int .i64 (eNo er), .string (mkT (eName er)), .string (mkT (eShort er)), .string (mkT (eVal er)), .int .i64 0, .slice none 0 0, .slice none 0 0, .int .i64 0, .slice none 0 0, .bool false, .bool false] 32 (0, 0)) := blk_set b2 3 (.string (mkT (eVal er)))
              have b4 : _ = some (Obj.cells #[.int .i64 (eNo er), .string (mkT (eName er)), .string (mkT (eShort er)), .string (mkT (eVal er)), .int .i64 (eFlag er), .slice none 0 0, .slice none 0 0, .int .i64 0, .slice none 0 0, .bool false, .bool false] 32 (0, 0)) := blk_set b3 4 (.int .i64 (eFlag er))
              have b5 : _ = some (Obj.cells #[.int .i64 (eNo er), .string (mkT (eName er)), .string (mkT (eShort er)), .string (mkT (eVal er)), .int .i64 (eFlag er), .slice GA G'.length gc, .slice none 0 0, .int .i64 0, .slice none 0 0, .bool false, .bool false] 32 (0, 0)) := blk_set b4 5 (.slice GA G'.length gc)
              have b6 : _ = some (Obj.cells #[.int .i64 (eNo er), .string (mkT (eName er)), .string (mkT (eShort er)), .string (mkT (eVal er)), .int .i64 (eFlag er), .slice GA G'.length gc, .slice AA s.A.length ac, .int .i64 0, .slice none 0 0, .bool false, .bool false] 32 (0, 0)) := blk_set b5 6 (.slice AA s.A.length ac)
              have b7 : _ = some (Obj.cells #[.int .i64 (eNo er), .string (mkT (eName er)), .string (mkT (eShort er)), .string (mkT (eVal er)), .int .i64 (eFlag er), .slice GA G'.length gc, .slice AA s.A.length ac, .int .i64 s.dash, .slice none 0 0, .bool false, .bool false] 32 (0, 0)) := blk_set b6 7 (.int .i64 s.dash)
              have b8 : _ = some (Obj.cells #[.int .i64 (eNo er), .string (mkT (eName er)), .string (mkT (eShort er)), .string (mkT (eVal er)), .int .i64 (eFlag er), .slice GA G'.length gc, .slice AA s.A.length ac, .int .i64 s.dash, .slice CA (chL s.chg C.S.flags.length).length cc, .bool false, .bool false] 32 (0, 0)) := blk_set b7 8 (.slice CA (chL s.chg C.S.flags.length).length cc)
              have b9 : _ = some (Obj.cells #[.int .i64 (eNo er), .string (mkT (eName er)), .string (mkT (eShort er)), .string (mkT (eVal er)), .int .i64 (eFlag er), .slice GA G'.length gc, .slice AA s.A.length ac, .int .i64 s.dash, .slice CA (chL s.chg C.S.flags.length).length cc, .bool s.parsed, .bool false] 32 (0, 0)) := blk_set b8 9 (.bool s.parsed)
              have b10 : _ = some (Obj.cells #[.int .i64 (eNo er), .string (mkT (eName er)), .string (mkT (eShort er)), .string (mkT (eVal er)), .int .i64 (eFlag er), .slice GA G'.length gc, .slice AA s.A.length ac, .int .i64 s.dash, .slice CA (chL s.chg C.S.flags.length).length cc, .bool s.parsed, .bool false] 32 (0, 0)) := blk_set b9 10 (.bool false)
              refine bodyPost_ret (results_cell_row rfl _ _ w.heap.size 32 #[.int .i64 (eNo er), .string (mkT (eName er)), .string (mkT (eShort er)), .string (mkT (eVal er)), .int .i64 (eFlag er), .slice GA G'.length gc, .slice AA s.A.length ac, .int .i64 s.dash, .slice CA (chL s.chg C.S.flags.length).length cc, .bool s.parsed, .bool false] (0, 0) _ rfl b10 Try.underlying32 rfl (by kernel_rfl)) rfl ⟨_, rfl, ⟨GA, gc, AA, ac, CA, cc, rfl, own_of_blk HOG.out fun g hg => ?_, own_of_blk HOA.out fun g hg => ?_, own_of_blk HOC.out fun g hg => ?_⟩, (((((((((((HD.out.bel.setCell (Nat.le_refl _) _).setCell (Nat.le_refl _) _).setCell (Nat.le_refl _) _).setCell (Nat.le_refl _) _).setCell (Nat.le_refl _) _).setCell (Nat.le_refl _) _).setCell (Nat.le_refl _) _).setCell (Nat.le_refl _) _).setCell (Nat.le_refl _) _).setCell (Nat.le_refl _) _).setCell (Nat.le_refl _) _)⟩
              · have ne : g ≠ w.heap.size := fun e => by subst e; exact own_far3 HOG.out HD.out.res (by decide) hg
                exact (blk_other ne).trans ((blk_other ne).trans ((blk_other ne).trans ((blk_other ne).trans ((blk_other ne).trans ((blk_other ne).trans ((blk_other ne).trans ((blk_other ne).trans ((blk_other ne).trans ((blk_other ne).trans (blk_other ne))))))))))
              · have ne : g ≠ w.heap.size := fun e => by subst e; exact own_far3 HOA.out HD.out.res (by decide) hg
                exact (blk_other ne).trans ((blk_other ne).trans ((blk_other ne).trans ((blk_other ne).trans ((blk_other ne).trans ((blk_other ne).trans ((blk_other ne).trans ((blk_other ne).trans ((blk_other ne).trans ((blk_other ne).trans (blk_other ne))))))))))
              · have ne : g ≠ w.heap.size := fun e => by subst e; exact own_far3 HOC.out HD.out.res (by decide) hg
                exact (blk_other ne).trans ((blk_other ne).trans ((blk_other ne).trans ((blk_other ne).trans ((blk_other ne).trans ((blk_other ne).trans ((blk_other ne).trans ((blk_other ne).trans ((blk_other ne).trans ((blk_other ne).trans (blk_other ne))))))))))
theorem heard_any (C : PC) (V : PV) (s : PS) (er : Er) (E : Value) (w : World) (hp : Pm w C V s) (he : ErrAt C w E er) (hi : ∀ i n t v, er = .need i n t ∨ er = .invalid i v → i < C.S.flags.length) (hn : C.S.flags.length ≤ 17179869184) (hG : s.G.length ≤ 1099511627776) (hA : s.A.length ≤ 1099511627776) :
    Calls Try.prog 51 #[.pointer (some ⟨C.Wb, 0, none⟩), E, .int .i64 0] w fun e w' => ∃ v, e = .returned v ∧ HeardV w.heap.size w' s er C.S.flags.length v ∧ Below w.heap.size w w' :=
  heard_from C V s er E w hp he hi hn 0 (Nat.zero_le _) s.G rfl hG hA
end Go.Proofs.Ytgmhhdpggnmipaa.E
