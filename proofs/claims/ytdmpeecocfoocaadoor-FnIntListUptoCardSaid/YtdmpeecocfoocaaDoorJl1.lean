/- Single operations of drawn regions, for lists of integers. Written by gen_il2.py. -/
import Derived.Test.YtdmpeecocfoocaaDoorInv
import Derived.Test.YtdmpeecocfoocaaDoorJl0
namespace Go.Proofs.YtdmpeecocfoocaaDoor.E
open Go.RowKit Go.Proofs
set_option linter.unusedVariables false
set_option linter.unusedSimpArgs false
theorem call_enter9 {P : Program} {f : FuncId} {fn : Func} {c : Code} (hf : P.funcs[f]? = some fn) (hname : (fn.name == "runtime.NumGoroutine") = false) (hb : fn.body = some c) (args : Array Value) (w : World) :
    (callFunc f args).run P w = .ok (.enter f args) w := by
  have h1 : fn.name ≠ "runtime.NumGoroutine" := by simpa using hname
  simp [callFunc, hf, h1, hb]
section
variable {o : Oper} {a : Act} {w : World} {K : Act → World → Prop} {Q : Exit → Act → World → Prop}
theorem ow_move {x : Operand} {v : Value} (ho : o.op = .move x) (hx : a.eval x = v) (h : K (a.put o.dst v) w) : Oper.wp Tryd.prog o a w K Q := by
  unfold Oper.wp
  simp [execOp, ho, hx]
  exact h
theorem ow_assign {x : Operand} {v : Value} (ho : o.op = .assign x) (hx : a.eval x = v) (h : K (a.put o.dst v) w) : Oper.wp Tryd.prog o a w K Q := by
  unfold Oper.wp
  simp [execOp, ho, hx]
  exact h
/-- A call of a Go function. -/
theorem ow_call (args : Array Operand) (ts : Array TypeId) (F : Nat) {fn : Func} {c : Code} (hf : Tryd.prog.funcs[F]? = some fn) (hname : (fn.name == "runtime.NumGoroutine") = false) (hb : fn.body = some c)
    (ho : o.op = .call { callee := .value (.func F), args := args, argTypes := ts }) (vs : Array Value) (hx : args.map a.eval = vs) {R : Ending → World → Prop} (hc : Calls Tryd.prog F vs w R) (h : ∀ e w', R e w' → ∃ v, e = .returned v ∧ K (a.put o.dst v) w') : Oper.wp Tryd.prog o a w K Q := by
  have hF : a.eval (.func F) = .func (.func F) #[] #[] := rfl
  have hcf := call_enter9 (P := Tryd.prog) hf hname hb vs w
  unfold Oper.wp
  simp [execOp, ho, resolve, invoke, hx, hF, hcf, Deferred.ofValue]
  unfold Oper.upon
  refine hc.mono ?_
  intro e w' hr
  obtain ⟨v, rfl, hk⟩ := h e w' hr
  exact hk
theorem ow_pick {c x y : Operand} {v : Value} (ho : o.op = .pick c x y) (hc : a.eval c = .bool true) (hx : a.eval x = v) (h : K (a.put o.dst v) w) : Oper.wp Tryd.prog o a w K Q := by
  unfold Oper.wp
  simp [execOp, ho, hx, hc]
  go_simp
  exact h
theorem ow_not {x : Operand} {b : Bool} (ho : o.op = .unOp .not 4 x) (hx : a.eval x = .bool b) (h : K (a.put o.dst (.bool (!b))) w) : Oper.wp Tryd.prog o a w K Q := by
  unfold Oper.wp
  simp [execOp, ho, hx]
  go_simp
  exact h
theorem ow_pick_no {c x y : Operand} {v : Value} (ho : o.op = .pick c x y) (hc : a.eval c = .bool false) (hy : a.eval y = v) (h : K (a.put o.dst v) w) : Oper.wp Tryd.prog o a w K Q := by
  unfold Oper.wp
  simp [execOp, ho, hy, hc]
  go_simp
  exact h
theorem ow_nilCheck {x : Operand} {p : Addr} (ho : o.op = .nilCheck x) (hx : a.eval x = .pointer (some p)) (h : K (a.put o.dst (.pointer (some p))) w) : Oper.wp Tryd.prog o a w K Q := by
  unfold Oper.wp
  simp [execOp, ho, hx]
  go_simp
  exact h
theorem ow_neq_bool {x y : Operand} {m n : Bool} (ho : o.op = .binOp .neq 4 x y 4) (hx : a.eval x = .bool m) (hy : a.eval y = .bool n) (h : K (a.put o.dst (.bool (m != n))) w) : Oper.wp Tryd.prog o a w K Q := by
  unfold Oper.wp
  simp [execOp, ho, hx, hy]
  go_simp
  first | exact h | (cases m <;> cases n <;> exact h)
theorem ow_load_bool {x : Operand} {b i : Nat} {v : Value} (ho : o.op = .load 4 x) (hx : a.eval x = .pointer (some ⟨b, i, none⟩)) (hb : w.cell? ⟨b, i, none⟩ = some v) (h : K (a.put o.dst (v)) w) : Oper.wp Tryd.prog o a w K Q := by
  unfold Oper.wp
  simp [execOp, ho, hx]
  go_simp
  exact h
theorem ow_load_ints {x : Operand} {b i : Nat} {v : Value} (ho : o.op = .load 101 x) (hx : a.eval x = .pointer (some ⟨b, i, none⟩)) (hb : w.cell? ⟨b, i, none⟩ = some v) (h : K (a.put o.dst (v)) w) : Oper.wp Tryd.prog o a w K Q := by
  unfold Oper.wp
  simp [execOp, ho, hx]
  go_simp
  exact h
theorem ow_load_i64s {x : Operand} {b i : Nat} {v : Value} (ho : o.op = .load 27 x) (hx : a.eval x = .pointer (some ⟨b, i, none⟩)) (hb : w.cell? ⟨b, i, none⟩ = some v) (h : K (a.put o.dst (v)) w) : Oper.wp Tryd.prog o a w K Q := by
  unfold Oper.wp
  simp [execOp, ho, hx]
  go_simp
  exact h
theorem ow_load_texts {x : Operand} {b i : Nat} {v : Value} (ho : o.op = .load 23 x) (hx : a.eval x = .pointer (some ⟨b, i, none⟩)) (hb : w.cell? ⟨b, i, none⟩ = some v) (h : K (a.put o.dst (v)) w) : Oper.wp Tryd.prog o a w K Q := by
  unfold Oper.wp
  simp [execOp, ho, hx]
  go_simp
  exact h
theorem ow_load_pints {x : Operand} {b i : Nat} {v : Value} (ho : o.op = .load 100 x) (hx : a.eval x = .pointer (some ⟨b, i, none⟩)) (hb : w.cell? ⟨b, i, none⟩ = some v) (h : K (a.put o.dst (v)) w) : Oper.wp Tryd.prog o a w K Q := by
  unfold Oper.wp
  simp [execOp, ho, hx]
  go_simp
  exact h
theorem ow_field_said {x : Operand} {b i f : Nat} (hi : i < 3) (ho : o.op = .fieldAddr 42 x i) (hx : a.eval x = .pointer (some ⟨b, f, none⟩)) (h : K (a.put o.dst (.pointer (some ⟨b, f + i, none⟩))) w) : Oper.wp Tryd.prog o a w K Q := by
  unfold Oper.wp
  match i, hi with
  | 0, _ => simp [execOp, ho, hx]; go_simp; exact h
  | 1, _ => simp [execOp, ho, hx]; go_simp; exact h
  | 2, _ => simp [execOp, ho, hx]; go_simp; exact h
theorem ow_field_want {x : Operand} {b i f : Nat} (hi : i < 2) (ho : o.op = .fieldAddr 53 x i) (hx : a.eval x = .pointer (some ⟨b, f, none⟩)) (h : K (a.put o.dst (.pointer (some ⟨b, f + i, none⟩))) w) : Oper.wp Tryd.prog o a w K Q := by
  unfold Oper.wp
  match i, hi with
  | 0, _ => simp [execOp, ho, hx]; go_simp; exact h
  | 1, _ => simp [execOp, ho, hx]; go_simp; exact h
theorem ow_index_saids {x y : Operand} {b f n c i : Nat} (hi : i < n) (ho : o.op = .indexAddr 30 x y) (hx : a.eval x = .slice (some ⟨b, f, none⟩) n c) (hy : a.eval y = .int .i64 (i : Int)) (h : K (a.put o.dst (.pointer (some ⟨b, f + i * 3, none⟩))) w) : Oper.wp Tryd.prog o a w K Q := by
  have hi2 : (i : Int) < (n : Int) := by omega
  unfold Oper.wp
  simp [execOp, ho, hx, hy]
  go_simp
  exact h
theorem ow_neq_nil {x : Operand} {E : Value} {bad : Bool} (hE : (bad = false ∧ E = .nilIface) ∨ (bad = true ∧ ∃ t y, E = .iface t y)) (ho : o.op = .binOp .neq 73 x (.const .nilIface) 73) (hx : a.eval x = E) (h : K (a.put o.dst (.bool bad)) w) : Oper.wp Tryd.prog o a w K Q := by
  unfold Oper.wp
  rcases hE with ⟨rfl, rfl⟩ | ⟨rfl, t, y, rfl⟩
  all_goals
    simp [execOp, ho, hx]
    go_simp
    exact h
theorem ow_make0 (ho : o.op = .buildSlice 23 0 #[]) (h : K (a.put o.dst (.slice (some ⟨w.heap.size, 0, none⟩) 0 0)) (w.alloc (.cells #[] 9))) : Oper.wp Tryd.prog o a w K Q := by
  unfold Oper.wp
  simp [execOp, ho]
  go_simp
  exact h
theorem ow_build_said {x y z : Operand} {u v p : Value} (ho : o.op = .build 42 #[(0, x), (1, y), (2, z)]) {b : Bool} {A B : Option Addr} {n c m d : Nat} (hx : a.eval x = .bool b) (hy : a.eval y = .slice A n c) (hz : a.eval z = .slice B m d) (h : K (a.put o.dst (.agg #[.bool b, .slice A n c, .slice B m d])) w) : Oper.wp Tryd.prog o a w K Q := by
  unfold Oper.wp
  simp [execOp, ho, hx, hy, hz]
  go_simp
  exact h
theorem ow_one_said {x : Operand} (ho : o.op = .buildSlice 30 1 #[(0, x)]) {b : Bool} {A B : Option Addr} {n c m d : Nat} (hx : a.eval x = .agg #[.bool b, .slice A n c, .slice B m d]) (h : K (a.put o.dst (.slice (some ⟨w.heap.size, 0, none⟩) 1 1)) (w.alloc (.cells #[.bool b, .slice A n c, .slice B m d] 42))) : Oper.wp Tryd.prog o a w K Q := by
  unfold Oper.wp
  simp [execOp, ho, hx]
  go_simp
  exact h
end
/-- No operation ahead of m is guarded. -/
def noGuardB (ops : Array Oper) (m : Nat) : Bool := (List.range m).all fun i => match ops[i]? with
  | none => true
  | some o => o.guard.isNone
theorem hgd_none {ops : Array Oper} {m : Nat} (h : noGuardB ops m = true) {R : Nat → Value → World → Prop} : ∀ i, i < m → ∀ o, ops[i]? = some o → ∀ g want, o.guard = some (g, want) → ∀ v w, R g v w → v = .bool want := by
  intro i hi o ho g want hg
  unfold noGuardB at h
  have h := (List.all_eq_true.1 h) i (List.mem_range.2 hi)
  rw [ho] at h
  simp only [hg] at h
  cases h
/-- The last operation of a region. -/
theorem wpAny_last {P : Program} {ops : Array Oper} {Q : Exit → Act → World → Prop} {a : Act} {w : World} {listed : Array Bool} {i : Nat} {o : Oper} (hr : Region.ready .any ops listed = [i]) (ho : ops[i]? = some o) (hg : o.guard = none) (hr2 : Region.ready .any ops (listed.setIfInBounds i true) = []) (h : Oper.wp P o a w (fun a' w' => Q .normal a' w') Q) : wpAny P .any ops Q 1 listed a w := by
  refine ⟨fun e => ?_, fun j hj => ?_⟩
  · rw [hr] at e; cases e
  · rw [hr] at hj
    obtain rfl := List.mem_singleton.1 hj
    unfold wpOp
    rw [ho]
    have hw : Region.wanted o (yielded ops a.tmps) = true := by simp [Region.wanted, hg]
    simp only [hw, if_true]
    exact .inl (Oper.wp_mono (fun a' w' h => ⟨hr2, h⟩) h)
/-- The last but one. -/
theorem wpAny_next {P : Program} {ops : Array Oper} {Q : Exit → Act → World → Prop} {a : Act} {w : World} {listed : Array Bool} {i n : Nat} {o : Oper} (hr : Region.ready .any ops listed = [i]) (ho : ops[i]? = some o) (hg : o.guard = none) (h : Oper.wp P o a w (fun a' w' => wpAny P .any ops Q n (listed.setIfInBounds i true) a' w') Q) : wpAny P .any ops Q (n + 1) listed a w := by
  refine ⟨fun e => ?_, fun j hj => ?_⟩
  · rw [hr] at e; cases e
  · rw [hr] at hj
    obtain rfl := List.mem_singleton.1 hj
    unfold wpOp
    rw [ho]
    have hw : Region.wanted o (yielded ops a.tmps) = true := by simp [Region.wanted, hg]
    simp only [hw, if_true]
    exact .inl h
/-- All have come up. -/
theorem wpAny_end {P : Program} {ops : Array Oper} {Q : Exit → Act → World → Prop} {a : Act} {w : World} {listed : Array Bool} (hr : Region.ready .any ops listed = []) (h : Q .normal a w) : wpAny P .any ops Q 0 listed a w := ⟨hr, h⟩
end Go.Proofs.YtdmpeecocfoocaaDoor.E

namespace Go.Proofs.YtdmpeecocfoocaaDoor.E
open Go.RowKit Go.Proofs
set_option linter.unusedVariables false
set_option linter.unusedSimpArgs false
theorem i64s_one {V : List Int} : ∀ u ∈ i64s V, u.oneCell' = true := by
  intro u hu
  simp only [i64s, List.mem_map] at hu
  obtain ⟨b, _, rfl⟩ := hu
  rfl
theorem i64s_len (V : List Int) : (i64s V).length = V.length * 1 := by simp [i64s]
theorem row_news {w : World} {A : Option Addr} {cs : List Value} (h : RowAt w A cs) : ∀ ad, A = some ad → ∀ j u, cs[j]? = some u → w.cell? (ad.add j) = some u := by
  intro ad hA j u hu
  obtain ⟨g, e, hc⟩ := h j u hu
  rw [hA] at e
  obtain rfl := Option.some.inj e
  rw [Addr.add_mid, Nat.zero_add]
  exact hc

/-- A list of integers that came in. -/
def IntsIn (w : World) (A : Option Addr) (c : Nat) (V : List Int) : Prop := (A = none → V.length = 0 ∧ c = 0) ∧ V.length ≤ c ∧ ∀ ad, A = some ad → ∀ j u, (i64s V)[j]? = some u → w.cell? (ad.add j) = some u

/-- Append of a list that came in to a list that is made there and empty. -/
theorem wpList_append_made {P : Program} {w : World} {ops : Array Oper} {rest : List Oper} {o : Oper} {a : Act} {Q : Exit → Act → World → Prop} (hgd : o.guard = none) (s x : Operand) (t : TypeId)
    (ho : o.op = .call { callee := .builtin .append, args := #[s, x], argTypes := #[t, t] })
    (base : Nat) (e : TypeId) (i : TypeInfo) (z : Value) (size bytes : Nat) (ht : P.underlying t = some (.slice e)) (hi : P.info? e = some i) (hz : i.zero = some z)
    (hsize : i.size = size) (hby : i.bytes = bytes) (hzs : z.cells.size = size) (hsz : 0 < size)
    (b : Nat) (hs : a.eval s = .slice (some ⟨b, 0, none⟩) 0 0) (hown : w.ownsRow base e size (.slice (some ⟨b, 0, none⟩) 0 0) 0 [])
    (A : Option Addr) (m c : Nat) (news : List Value) (hx : a.eval x = .slice A m c) (hA : A = none → m = 0 ∧ c = 0) (hl : news.length = m * size)
    (hnews : ∀ ad, A = some ad → ∀ j u, news[j]? = some u → w.cell? (ad.add j) = some u) (h1 : ∀ u ∈ news, u.oneCell' = true)
    (h63 : m ≤ maxLen) (hbytes : m * bytes ≤ 140737488355328) (hbase : base ≤ w.heap.size)
    (h : ∀ g c' w', w'.ownsRow base e size (.slice (some ⟨g, 0, none⟩) m c') m news → Below base w w' → wpList P ops Q rest (a.put o.dst (.slice (some ⟨g, 0, none⟩) m c')) w') : wpList P ops Q (o :: rest) a w := by
  cases A with
  | none =>
    obtain ⟨rfl, rfl⟩ := hA rfl
    have hn : news = [] := by apply List.eq_nil_of_length_eq_zero; simpa using hl
    subst hn
    exact wpList_append_own_none hgd s x t ho base e i size ht hi _ 0 [] hs hown hx (h b 0 w hown (Below.refl _ _))
  | some ad =>
    refine wpList_append_own_at w hgd s x t ho base e i z size bytes ht hi hz hsize hby hzs hsz _ 0 [] hs hown ad m c news hx hl (hnews ad rfl) h1 (by omega) (by simpa using hbytes) hbase (fun v' w' h2 h3 h4 _ => ?_)
    rw [Nat.zero_add, List.nil_append] at h2
    have hbw := (Below.refl base w).grown h3 hbase (fun k hk => (hown.lt k hk).1)
    rcases h2.2 with ⟨hv, _⟩ | ⟨g, cap, cur, hv, _⟩
    · have := (h4.1 hv).1
      cases this
    · subst hv
      exact h g cap w' h2 hbw

theorem own_zero {w : World} {base e size n : Nat} {v : Value} {xs : List Value} (h : w.ownsRow base e size v n xs) : w.ownsRow 0 e size v n xs := by
  refine ⟨h.1, ?_⟩
  rcases h.2 with hn | ⟨g, cap, cur, rfl, hbg, r⟩
  · exact .inl hn
  · exact .inr ⟨g, cap, cur, rfl, Nat.zero_le _, r⟩

/-- Numbers of 64 bits. -/
def InR (V : List Int) : Prop := ∀ n ∈ V, -9223372036854775808 ≤ n ∧ n ≤ 9223372036854775807
/-- A row made anew that holds the same numbers. -/
def Apart (t : TypeId) (V : List Int) (w : World) (e : Ending) (w' : World) : Prop := ∃ g c, e = .returned (.slice (some ⟨g, 0, none⟩) V.length c) ∧ w'.ownsRow w.heap.size t 1 (.slice (some ⟨g, 0, none⟩) V.length c) V.length (i64s V) ∧ Below w.heap.size w w'
theorem own_some {w : World} {base : Nat} {e : TypeId} {size n : Nat} {v : Value} {xs : List Value} (h : w.ownsRow base e size v (n + 1) xs) : ∃ g c, v = .slice (some ⟨g, 0, none⟩) (n + 1) c := by
  rcases h.2 with ⟨_, h1⟩ | ⟨g, c, cur, rfl, _⟩
  · omega
  · exact ⟨g, c, rfl⟩
theorem conv_to (n : Int) (h0 : -9223372036854775808 ≤ n) (h1 : n ≤ 9223372036854775807) (w : World) :
    Calls Tryd.prog 58 #[.int .i64 n] w fun e w' => e = .returned (.int .i64 n) ∧ w = w' := by
  have hw : IntKind.i64.wrap n = n := by rw [IntKind.wrap_i64]; omega
  go_enter Tryd.func58, Tryd.ntmps58
  go_wp2
  go_ret
  exact ⟨by first | rfl | (rw [hw]) | go_num, rfl⟩
theorem conv_back (n : Int) (h0 : -9223372036854775808 ≤ n) (h1 : n ≤ 9223372036854775807) (w : World) :
    Calls Tryd.prog 63 #[.int .i64 n] w fun e w' => e = .returned (.int .i64 n) ∧ w = w' := by
  have hw : IntKind.i64.wrap n = n := by rw [IntKind.wrap_i64]; omega
  go_enter Tryd.func63, Tryd.ntmps63
  go_wp2
  go_ret
  exact ⟨by first | rfl | (rw [hw]) | go_num, rfl⟩
set_option maxRecDepth 100000 in
set_option maxHeartbeats 1600000 in
theorem apart_to (A : Option Addr) (c : Nat) (V : List Int) (w : World) (hv : IntsIn w A c V) (hb : InR V) (hV : V.length ≤ 1099511627776) :
    Calls Tryd.prog 57 #[.slice A V.length c, .func (.func 58) #[] #[]] w (Apart 3 V w) := by
  obtain ⟨ti, hi, hz0, hz1, hz2⟩ := info_parts Tryd.infoInt1
  have HMADE : Hid ((w.alloc (.cells #[] 3)).ownsRow w.heap.size 3 1 (.slice (some ⟨w.heap.size, 0, none⟩) 0 0) 0 []) := World.ownsRow_made (base := w.heap.size) (e := 3) (size := 1) w #[] 0 (Nat.le_refl _) (Nat.zero_le _) rfl
  have HV := Lib.hid hv
  have HR := Lib.hid hb
  clear hv hb
  go_enter Tryd.func57, Tryd.ntmps57
  go_wp2
  go_loopw [5, 11] (fun v i wr => ∃ (k g cc : Nat), k ≤ V.length ∧ i = .int .i64 k ∧ v = .slice (some ⟨g, 0, none⟩) k cc ∧ wr.ownsRow w.heap.size 3 1 (.slice (some ⟨g, 0, none⟩) k cc) k (i64s (V.take k)) ∧ Below w.heap.size w wr) (fun _ i _ => V.length - (intOf i).toNat)
  case atStart => exact ⟨0, w.heap.size, 0, Nat.zero_le _, rfl, rfl, HMADE.out, (Below.refl _ _).alloc (Nat.le_refl _) _⟩
  case round =>
    obtain ⟨k, g, cc, hk, rfl, rfl, hown, hbel⟩ := hrel
    have hs0 := hown.lt
    by_cases hlt : k < V.length
    · obtain ⟨ad, rfl⟩ : ∃ ad, A = some ad := by
        cases A with
        | none => have := (HV.out.1 rfl).1; omega
        | some ad => exact ⟨ad, rfl⟩
      have hc0 := HV.out.2.2 ad rfl k (.int .i64 V[k]) (by simp [i64s, hlt])
      obtain ⟨ba, oa, sp⟩ := ad
      obtain rfl : sp = none := by
        have h0 : 0 < V.length := by omega
        simpa [Addr.add] using World.cell?_spot (HV.out.2.2 _ rfl 0 (.int .i64 V[0]) (by simp [i64s, h0]))
      rw [Addr.add_mid] at hc0
      have hc := cell_kept hbel hc0
      have i0 : (0 : Int) ≤ (k : Int) := Int.natCast_nonneg _
      have i1 : (k : Int) < (V.length : Int) := by omega
      obtain ⟨n0, n1⟩ := HR.out V[k] (List.getElem_mem hlt)
      have HT : Hid (i64s (V.take (k + 1)) = i64s (V.take k) ++ [.int .i64 V[k]]) := by
        show _ = _
        rw [List.take_succ_eq_append_getElem hlt, i64s_snoc]
      have HC := fun w => Lib.hid (conv_to V[k] n0 n1 w)
      clear hc0
      generalize V[k] = n at hc HT HC n0 n1
      go_wp2_with (first
        | (go_at_call 58; refine ((HC _).out).mono ?_; rintro e w1 ⟨rfl, rfl⟩)
        | (at_builtin; refine wpList_append_own _ rfl (.tmp 15) (.tmp 19) 101 rfl w.heap.size 3 ti _ 1 8 Tryd.underlying101 hi hz0 hz1 hz2 rfl (by decide) _ k _ rfl (hown.alloc _) ⟨wr.heap.size, 0, none⟩ 1 1 [.int .i64 n] rfl rfl (World.news_of_block (cs := #[.int .i64 n]) (t := 3) (fr := (0, 0)) (heap_alloc_new wr _)) (by simp [Value.oneCell']) (by unfold maxLen; omega) (by omega) (by have := hbel.size; simp; omega) ?_; intro v2 w2 hown2 hgrow hlt2))
      have hb2 : Below w.heap.size w w2 := (hbel.alloc hbel.size _).grown hgrow (by have := hbel.size; simp; omega) (fun b hb => (hs0 b hb).1)
      obtain ⟨g2, c2, rfl⟩ := own_some hown2
      rw [← HT.out] at hown2
      go_roundw
      case rel => exact ⟨k + 1, g2, c2, by omega, by go_num, rfl, hown2, hb2⟩
      case measure => simp [intOf]; omega
    · have hk2 : k = V.length := by omega
      subst hk2
      rw [List.take_length] at hown
      go_wp2
      go_ret
      exact ⟨g, cc, rfl, hown, hbel⟩
set_option maxRecDepth 100000 in
set_option maxHeartbeats 1600000 in
theorem apart_back (A : Option Addr) (c : Nat) (V : List Int) (w : World) (hv : IntsIn w A c V) (hb : InR V) (hV : V.length ≤ 1099511627776) :
    Calls Tryd.prog 62 #[.slice A V.length c, .func (.func 63) #[] #[]] w (Apart 2 V w) := by
  obtain ⟨ti, hi, hz0, hz1, hz2⟩ := info_parts Tryd.infoI64
  have HMADE : Hid ((w.alloc (.cells #[] 2)).ownsRow w.heap.size 2 1 (.slice (some ⟨w.heap.size, 0, none⟩) 0 0) 0 []) := World.ownsRow_made (base := w.heap.size) (e := 2) (size := 1) w #[] 0 (Nat.le_refl _) (Nat.zero_le _) rfl
  have HV := Lib.hid hv
  have HR := Lib.hid hb
  clear hv hb
  go_enter Tryd.func62, Tryd.ntmps62
  go_wp2
  go_loopw [5, 11] (fun v i wr => ∃ (k g cc : Nat), k ≤ V.length ∧ i = .int .i64 k ∧ v = .slice (some ⟨g, 0, none⟩) k cc ∧ wr.ownsRow w.heap.size 2 1 (.slice (some ⟨g, 0, none⟩) k cc) k (i64s (V.take k)) ∧ Below w.heap.size w wr) (fun _ i _ => V.length - (intOf i).toNat)
  case atStart => exact ⟨0, w.heap.size, 0, Nat.zero_le _, rfl, rfl, HMADE.out, (Below.refl _ _).alloc (Nat.le_refl _) _⟩
  case round =>
    obtain ⟨k, g, cc, hk, rfl, rfl, hown, hbel⟩ := hrel
    have hs0 := hown.lt
    by_cases hlt : k < V.length
    · obtain ⟨ad, rfl⟩ : ∃ ad, A = some ad := by
        cases A with
        | none => have := (HV.out.1 rfl).1; omega
        | some ad => exact ⟨ad, rfl⟩
      have hc0 := HV.out.2.2 ad rfl k (.int .i64 V[k]) (by simp [i64s, hlt])
      obtain ⟨ba, oa, sp⟩ := ad
      obtain rfl : sp = none := by
        have h0 : 0 < V.length := by omega
        simpa [Addr.add] using World.cell?_spot (HV.out.2.2 _ rfl 0 (.int .i64 V[0]) (by simp [i64s, h0]))
      rw [Addr.add_mid] at hc0
      have hc := cell_kept hbel hc0
      have i0 : (0 : Int) ≤ (k : Int) := Int.natCast_nonneg _
      have i1 : (k : Int) < (V.length : Int) := by omega
      obtain ⟨n0, n1⟩ := HR.out V[k] (List.getElem_mem hlt)
      have HT : Hid (i64s (V.take (k + 1)) = i64s (V.take k) ++ [.int .i64 V[k]]) := by
        show _ = _
        rw [List.take_succ_eq_append_getElem hlt, i64s_snoc]
      have HC := fun w => Lib.hid (conv_back V[k] n0 n1 w)
      clear hc0
      generalize V[k] = n at hc HT HC n0 n1
      go_wp2_with (first
        | (go_at_call 63; refine ((HC _).out).mono ?_; rintro e w1 ⟨rfl, rfl⟩)
        | (at_builtin; refine wpList_append_own _ rfl (.tmp 15) (.tmp 19) 27 rfl w.heap.size 2 ti _ 1 8 Tryd.underlying27 hi hz0 hz1 hz2 rfl (by decide) _ k _ rfl (hown.alloc _) ⟨wr.heap.size, 0, none⟩ 1 1 [.int .i64 n] rfl rfl (World.news_of_block (cs := #[.int .i64 n]) (t := 2) (fr := (0, 0)) (heap_alloc_new wr _)) (by simp [Value.oneCell']) (by unfold maxLen; omega) (by omega) (by have := hbel.size; simp; omega) ?_; intro v2 w2 hown2 hgrow hlt2))
      have hb2 : Below w.heap.size w w2 := (hbel.alloc hbel.size _).grown hgrow (by have := hbel.size; simp; omega) (fun b hb => (hs0 b hb).1)
      obtain ⟨g2, c2, rfl⟩ := own_some hown2
      rw [← HT.out] at hown2
      go_roundw
      case rel => exact ⟨k + 1, g2, c2, by omega, by go_num, rfl, hown2, hb2⟩
      case measure => simp [intOf]; omega
    · have hk2 : k = V.length := by omega
      subst hk2
      rw [List.take_length] at hown
      go_wp2
      go_ret
      exact ⟨g, cc, rfl, hown, hbel⟩
/-- What GetSlice tells. -/
def GotSlice (V : List Int) (w : World) (e : Ending) (w' : World) : Prop := ∃ g, e = .returned (.slice (some ⟨g, 0, none⟩) V.length V.length) ∧ RowAt w' (some ⟨g, 0, none⟩) (strCells (V.map said)) ∧ Below w.heap.size w w'
theorem row_of_rowIs {w : World} {g n : Nat} {e : TypeId} {L : List ByteArray} (h : w.rowIs g e n (fun j => .string (L.getD j ⟨#[]⟩))) (hl : L.length = n) : RowAt w (some ⟨g, 0, none⟩) (strCells L) := by
  intro i u hu
  have hi : i < L.length := by
    have := (List.getElem?_eq_some_iff.1 hu).1
    simpa [strCells] using this
  refine ⟨g, rfl, ?_⟩
  rw [h.cell (by omega)]
  simp only [strCells, List.getElem?_map] at hu
  rw [List.getElem?_eq_getElem hi] at hu
  simp only [Option.map_some, Option.some.injEq] at hu
  subst hu
  rw [List.getD_eq_getElem?_getD, List.getElem?_eq_getElem hi]; rfl
set_option maxRecDepth 100000 in
set_option maxHeartbeats 1600000 in
theorem getSlice_any (P1 P0 : Nat) (V : List Int) (ch : Bool) (v : Value) (w : World) (h : SV w P1 P0 V ch v) (hb : InR V) (hV : V.length ≤ 1099511627776) (hp : Pow w) :
    Calls Tryd.prog 64 #[.pointer (some ⟨P1, 0, none⟩)] w (GotSlice V w) := by
  have hmk := fun W => run_make_row' (P := Tryd.prog) 23 9 (.string ⟨#[]⟩) 16 Tryd.underlying23 Tryd.infoStr1 rfl .i64 .i64 V.length (by omega) (by omega) W
  have HR := Lib.hid hb
  have HP := Lib.hid hp
  obtain ⟨gv, cv, rfl⟩ := h.sh
  have c10 : w.cell? ⟨P1, 0, none⟩ = some (.pointer (some ⟨P0, 0, none⟩)) := cell_of_row _ _ 0 _ _ _ h.h1
  have c0 : w.cell? ⟨P0, 0, none⟩ = some (.slice (some ⟨gv, 0, none⟩) V.length cv) := cell_of_one h.h0
  have a10 : ∀ o, (w.alloc o).cell? ⟨P1, 0, none⟩ = some (.pointer (some ⟨P0, 0, none⟩)) := fun o => cell_kept ((Below.refl _ _).alloc (Nat.le_refl _) o) c10
  have a0 : ∀ o, (w.alloc o).cell? ⟨P0, 0, none⟩ = some (.slice (some ⟨gv, 0, none⟩) V.length cv) := fun o => cell_kept ((Below.refl _ _).alloc (Nat.le_refl _) o) c0
  have HROW := Lib.hid (own_row_at h.hv)
  clear hb hp h
  go_enter Tryd.func64, Tryd.ntmps64
  go_wp2
  go_loopw [21] (fun i wr => ∃ (k : Nat), k ≤ V.length ∧ i = .int .i64 k ∧ wr.rowIs w.heap.size 9 V.length (fun j => .string (((V.take k).map said).getD j ⟨#[]⟩)) ∧ Below w.heap.size w wr) (fun i _ => V.length - (intOf i).toNat)
  case atStart => exact ⟨0, Nat.zero_le _, rfl, World.rowIs_made w _ _ _, (Below.refl _ _).alloc (Nat.le_refl _) _⟩
  case round =>
    obtain ⟨k, hk, rfl, hri, hbel⟩ := hrel
    by_cases hlt : k < V.length
    · obtain ⟨g', e', hc0⟩ := HROW.out k (.int .i64 V[k]) (by simp [i64s, hlt])
      cases e'
      have hc := cell_kept hbel hc0
      have i0 : (0 : Int) ≤ (k : Int) := Int.natCast_nonneg _
      have i1 : (k : Int) < (V.length : Int) := by omega
      obtain ⟨n0, n1⟩ := HR.out V[k] (List.getElem_mem hlt)
      have HT : Hid ((V.take (k + 1)).map said = (V.take k).map said ++ [said V[k]]) := by
        show _ = _
        rw [List.take_succ_eq_append_getElem hlt, List.map_append]; rfl
      have hI : Calls Tryd.prog 89 #[.int .i64 V[k]] wr fun e w' => e = .returned (.string (said V[k])) ∧ Below wr.heap.size wr w' := (Tryd.strconv_Itoa V[k] n0 n1 wr (Lib.tabBelow_of_tabIs HP.out wr hbel)).mono fun e w' ⟨he, kk, os, hg⟩ => ⟨he, by rw [hg]; exact Lib.below_grow _ _ (Nat.le_refl _) _ _⟩
      have HI := Lib.hid hI
      clear hI
      have hl : ((V.take k).map said).length = k := by simp; omega
      clear hc0
      generalize hn : V[k] = n at hc HT HI n0 n1
      clear hn
      generalize hsd : said n = sd at HT
      have HI : Hid (Calls Tryd.prog 89 #[.int .i64 n] wr fun e w' => e = .returned (.string sd) ∧ Below wr.heap.size wr w') := by rw [← hsd]; exact HI
      go_wp2_with (go_at_call 89; refine (HI.out).mono ?_; rintro e w2 ⟨rfl, hb2⟩; have hri2 := hri.of_block (hb2.block _ hri.lt); have hcz := hri2.cell hlt; have hfz := hri2.frozen k; have hbel2 := below_step hbel hb2)
      have hri3 := (hri2.set k (.string sd)).congr (g := fun j => .string (((V.take (k + 1)).map said).getD j ⟨#[]⟩)) (fun j hj => by
        rw [HT.out]
        by_cases e : j = k
        · subst e
          rw [if_pos rfl, List.getD_eq_getElem?_getD, List.getElem?_append_right (by rw [hl]; exact Nat.le_refl _), hl, Nat.sub_self]; rfl
        · simp only [if_neg e]
          rw [List.getD_eq_getElem?_getD, List.getD_eq_getElem?_getD]
          by_cases h2 : j < k
          · rw [List.getElem?_append_left (by omega)]
          · rw [List.getElem?_eq_none (by omega), List.getElem?_eq_none (by rw [List.length_append, hl]; simp; omega)])
      go_roundw
      case rel => exact ⟨k + 1, by omega, by go_num, hri3, hbel2.setCell (p := ⟨w.heap.size, k, none⟩) (Nat.le_refl _) _⟩
      case measure => simp [intOf]; omega
    · have hk2 : k = V.length := by omega
      subst hk2
      rw [List.take_length] at hri
      go_wp2
      go_ret
      exact ⟨_, rfl, row_of_rowIs hri (by simp), hbel⟩
end Go.Proofs.YtdmpeecocfoocaaDoor.E

namespace Go.Proofs.YtdmpeecocfoocaaDoor.E
open Go.RowKit Go.Proofs
set_option linter.unusedVariables false
set_option linter.unusedSimpArgs false
/-- An append to a list that was made there and is empty: what was there is as it was. -/
theorem run_append_empty {P : Program} (w : World) (base : Nat) (t ty e : TypeId) (i : TypeInfo) (z : Value) (size bytes : Nat) (ht : P.underlying t = some (.slice e)) (hi : P.info? e = some i) (hz : i.zero = some z)
    (hsize : i.size = size) (hby : i.bytes = bytes) (hzs : z.cells.size = size) (hsz : 0 < size) (b : Nat) (hown : w.ownsRow base e size (.slice (some ⟨b, 0, none⟩) 0 0) 0 [])
    (A : Option Addr) (m c : Nat) (hA : A = none → m = 0) (news : List Value) (hl : news.length = m * size) (hnews : ∀ ad, A = some ad → ∀ j u, news[j]? = some u → w.cell? (ad.add j) = some u) (h1 : ∀ u ∈ news, u.oneCell' = true)
    (h63 : m ≤ maxLen) (hbytes : m * bytes ≤ 140737488355328) (hbase : base ≤ w.heap.size) :
    ∃ g c' w', (Builtin.append_ #[t, t] ty #[.slice (some ⟨b, 0, none⟩) 0 0, .slice A m c]).run P w = .ok (.slice (some ⟨g, 0, none⟩) m c') w' ∧ w'.ownsRow base e size (.slice (some ⟨g, 0, none⟩) m c') m news ∧ Below w.heap.size w w' := by
  subst hsize
  subst hby
  have hsmall : m ≤ 9223372036854775807 := by simp only [maxLen] at h63; omega
  by_cases hm : m = 0
  · subst hm
    have hn : news = [] := List.eq_nil_of_length_eq_zero (by simpa using hl)
    subst hn
    refine ⟨b, 0, w, ?_, hown, Below.refl _ _⟩
    cases A with
    | none => simp [Builtin.append_, run_underlying ht, sizeOf, typeInfo, hi, Builtin.lenOf, Builtin.firstCells, storeCells]
    | some ad =>
      have hf := run_firstCells_some (P := P) w i.size 0 ad 0 c [] (by simp) (by simp)
      simp [Builtin.append_, run_underlying ht, sizeOf, typeInfo, hi, Builtin.lenOf, hf, storeCells]
  · obtain ⟨ad, rfl⟩ : ∃ ad, A = some ad := by
      cases A with
      | none => exact absurd (hA rfl) hm
      | some ad => exact ⟨ad, rfl⟩
    have hr := run_append_grow (P := P) w t ty e i z ht hi hz ⟨b, 0, none⟩ 0 0 [] (by simp) (by simp) ad m c news hl (hnews ad rfl) (by omega) (by omega) (growslice_fits (by omega) (by simpa using hbytes))
    simp only [Nat.zero_add, List.nil_append, Array.empty_append] at hr
    have hge := grownCap_ge w m 0 e
    have hcm := grownCap_le_maxLen w m 0 e h63
    refine ⟨w.heap.size, _, _, hr, ⟨hl, .inr ⟨w.heap.size, _, _, rfl, hbase, heap_alloc_new w.drew _, hge, hcm, ?_, ?_⟩⟩, ((Below.refl _ _).drew).alloc (by simp) _⟩
    · simp only [Array.size_append, List.size_toArray, size_zeroCells, hzs, hl, ← Nat.add_mul]
      congr 1
      omega
    · simp only [Array.toList_append]
      rw [← hl]
      exact List.take_left
theorem ow_append_empty {P : Program} {o : Oper} {a : Act} {w : World} {K : Act → World → Prop} {Q : Exit → Act → World → Prop} (s x : Operand) (t : TypeId) (ho : o.op = .call { callee := .builtin .append, args := #[s, x], argTypes := #[t, t] })
    (base : Nat) (e : TypeId) (i : TypeInfo) (z : Value) (size bytes : Nat) (ht : P.underlying t = some (.slice e)) (hi : P.info? e = some i) (hz : i.zero = some z)
    (hsize : i.size = size) (hby : i.bytes = bytes) (hzs : z.cells.size = size) (hsz : 0 < size) (b : Nat) (hs : a.eval s = .slice (some ⟨b, 0, none⟩) 0 0) (hown : w.ownsRow base e size (.slice (some ⟨b, 0, none⟩) 0 0) 0 [])
    (A : Option Addr) (m c : Nat) (hx : a.eval x = .slice A m c) (hA : A = none → m = 0) (news : List Value) (hl : news.length = m * size) (hnews : ∀ ad, A = some ad → ∀ j u, news[j]? = some u → w.cell? (ad.add j) = some u) (h1 : ∀ u ∈ news, u.oneCell' = true)
    (h63 : m ≤ maxLen) (hbytes : m * bytes ≤ 140737488355328) (hbase : base ≤ w.heap.size)
    (h : ∀ g c' w', w'.ownsRow base e size (.slice (some ⟨g, 0, none⟩) m c') m news → Below w.heap.size w w' → K (a.put o.dst (.slice (some ⟨g, 0, none⟩) m c')) w') : Oper.wp P o a w K Q := by
  obtain ⟨g, c', w', hr, h2, h3⟩ := run_append_empty (P := P) w base t o.type e i z size bytes ht hi hz hsize hby hzs hsz b hown A m c hA news hl hnews h1 h63 hbytes hbase
  unfold Oper.wp execOp
  simp only [ho, resolve, invoke, builtin, Sem.run_bind, Sem.run_pure, Result.andThen_ok, List.map_toArray, List.map_cons, List.map_nil, hs, hx, hr]
  exact h g c' w' h2 h3
end Go.Proofs.YtdmpeecocfoocaaDoor.E

namespace Go.Proofs.YtdmpeecocfoocaaDoor.E
open Go.RowKit Go.Proofs
set_option linter.unusedVariables false
set_option linter.unusedSimpArgs false
theorem Tryd.infoSaid3 : (Tryd.prog.info? 42).map (fun i => (i.zero, i.size, i.bytes)) = some (some (.agg #[.bool false, .slice none 0 0, .slice none 0 0]), 3, 56) := by kernel_rfl
theorem own_low {w : World} {base b e size n : Nat} {v : Value} {xs : List Value} (h : w.ownsRow base e size v n xs) (hb : b ≤ base) : w.ownsRow b e size v n xs := by
  refine ⟨h.1, ?_⟩
  rcases h.2 with hn | ⟨g, cap, cur, rfl, hbg, r⟩
  · exact .inl hn
  · exact .inr ⟨g, cap, cur, rfl, Nat.le_trans hb hbg, r⟩
theorem rows_alloc {w : World} {B s : Nat} {vv : Value} {D : List (Bool × List Int)} {cs : List Value} (h : ListRows w B s vv D cs) (o : Obj) : ListRows (w.alloc o) B s vv D cs := h.kept fun v n ys h1 h2 => ⟨h1.alloc o, h2⟩
theorem rows_below {w w' : World} {B s : Nat} {vv : Value} {D : List (Bool × List Int)} {cs : List Value} (h : ListRows w B s vv D cs) (hb : Below w.heap.size w w') : ListRows w' B s vv D cs := h.kept fun v n ys h1 h2 => ⟨own_kept h1 hb, h2⟩
/-- Rows of what is told: their third cells, the texts of the numbers. -/
def TxRows (w : World) (D : List (Bool × List Int)) (cs : List Value) : Prop :=
  ∀ j, j < D.length → ∃ A c, cs[j * 3 + 2]? = some (.slice A (rowD D j).2.length c) ∧ w.ownsRow 0 9 1 (.slice A (rowD D j).2.length c) (rowD D j).2.length (strCells ((rowD D j).2.map said))
theorem TxRows.kept {w w1 : World} {D : List (Bool × List Int)} {cs : List Value} (h : TxRows w D cs) (hk : ∀ (v : Value) (n : Nat) (ys : List Value), w.ownsRow 0 9 1 v n ys → w1.ownsRow 0 9 1 v n ys) : TxRows w1 D cs := by
  intro j hj
  obtain ⟨A, c, h1, h2⟩ := h j hj
  exact ⟨A, c, h1, hk _ _ _ h2⟩
theorem TxRows.snoc {w : World} {D : List (Bool × List Int)} {cs us : List Value} (h : TxRows w D cs) (hl : cs.length = D.length * 3) (x : Bool × List Int) {A : Option Addr} {c : Nat}
    (h2 : us[2]? = some (.slice A x.2.length c)) (ho : w.ownsRow 0 9 1 (.slice A x.2.length c) x.2.length (strCells (x.2.map said))) : TxRows w (D ++ [x]) (cs ++ us) := by
  intro j hj
  by_cases e : j = D.length
  · subst e
    have hx : rowD (D ++ [x]) D.length = x := by simp [rowD]
    rw [hx]
    refine ⟨A, c, ?_, ho⟩
    rw [List.getElem?_append_right (by omega), show D.length * 3 + 2 - cs.length = 2 by omega]; exact h2
  · have hj2 : j < D.length := by simp at hj; omega
    have hx : rowD (D ++ [x]) j = rowD D j := by simp [rowD, List.getElem?_append_left hj2]
    rw [hx]
    obtain ⟨A', c', a1, a2⟩ := h j hj2
    exact ⟨A', c', by rw [List.getElem?_append_left (by omega)]; exact a1, a2⟩
theorem TxRows.nil (w : World) : TxRows w [] [] := fun j hj => by simp at hj
theorem plainC_in {l : List UInt8} {v : Int} (h : plainP l = some v) : -9223372036854775808 ≤ v ∧ v ≤ 9223372036854775807 := Lib.atoiAll_bounds ((plainP_atoi l v).1 h)
theorem nums_in : ∀ {xs : List ByteArray} {N : List Int}, nums64 xs = some N → InR N
  | [], N, h => by simp [nums64] at h; subst h; intro n hn; cases hn
  | t :: r, N, h => by
    simp only [nums64] at h
    cases hp : plainP t.data.toList with
    | none => rw [hp] at h; cases h
    | some n =>
      rw [hp] at h
      cases hr : nums64 r with
      | none => rw [hr] at h; cases h
      | some M =>
        rw [hr] at h
        cases h
        intro m hm
        rcases List.mem_cons.1 hm with rfl | hm
        · exact plainC_in hp
        · exact nums_in hr m hm
theorem InR.app {a b : List Int} (h : InR a) (k : InR b) : InR (a ++ b) := fun n hn => by
  rcases List.mem_append.1 hn with e | e
  · exact h n e
  · exact k n e
theorem stepR_in (x : StepL) {V : List Int} (ch : Bool) (h : InR V) : InR (stepR x V ch).2.1 := by
  unfold stepR
  split
  · rename_i N hN
    have hn : InR N := by
      unfold stepQ at hN
      split at hN
      · exact nums_in (Option.some.inj hN)
      · split at hN
        · exact nums_in (Option.some.inj hN)
        · split at hN
          · exact nums_in (Option.some.inj hN)
          · cases hN
    show InR (nextV x V ch N)
    unfold nextV
    split
    · exact hn
    · split
      · split
        · exact h.app hn
        · exact hn
      · exact h.app hn
  · exact h
/-- How it stands ahead of a round. -/
structure ISt (w wr : World) (P1 : Nat) (V0 : List Int) (L : List StepL) (k : Nat) (V : List Int) (ch : Bool) (vv : Value) (D : List (Bool × List Int)) (cs : List Value) (u7 : Value) : Prop where
  sv : SV wr P1 w.heap.size V ch vv
  own : wr.ownsRow w.heap.size 42 3 u7 D.length cs
  rows : ListRows wr 0 3 (.slice none 0 0) D cs
  txs : TxRows wr D cs
  inr : InR V
  eq : D ++ outs V ch (L.drop k) = outs V0 false L
  len : V.length + wts (L.drop k) ≤ 1099511627776
  dl : D.length ≤ k
  vb : ∀ g, vv.ownBlock = some g → w.heap.size ≤ g
  p1 : w.heap.size ≤ P1
  bel : Below w.heap.size w wr
theorem ISt.alloc {w wr : World} {P1 : Nat} {V0 : List Int} {L : List StepL} {k : Nat} {V : List Int} {ch : Bool} {vv : Value} {D : List (Bool × List Int)} {cs : List Value} {u7 : Value} (h : ISt w wr P1 V0 L k V ch vv D cs u7) (o : Obj) (h1 : outs V ch (L.drop k) = outs V ch (L.drop (k + 1))) (h2 : wts (L.drop (k + 1)) ≤ wts (L.drop k)) : ISt w (wr.alloc o) P1 V0 L (k + 1) V ch vv D cs u7 :=
  ⟨h.sv.kept ((Below.refl _ _).alloc (Nat.le_refl _) o), h.own.alloc o, rows_alloc h.rows o, h.txs.kept fun _ _ _ k => k.alloc o, h.inr, by rw [← h1]; exact h.eq, by have := h.len; omega, by have := h.dl; omega, h.vb, h.p1, h.bel.alloc h.bel.size o⟩
/-- What a step's call leaves of the rest. -/
structure IMid (w w1 : World) (P1 : Nat) (V0 : List Int) (L : List StepL) (k : Nat) (V1 : List Int) (ch1 bad : Bool) (v' : Value) (D : List (Bool × List Int)) (cs : List Value) (u7 : Value) : Prop where
  sv : SV w1 P1 w.heap.size V1 ch1 v'
  own : w1.ownsRow w.heap.size 42 3 u7 D.length cs
  rows : ListRows w1 0 3 (.slice none 0 0) D cs
  txs : TxRows w1 D cs
  inr : InR V1
  eq : (D ++ [(bad, V1)]) ++ outs V1 ch1 (L.drop (k + 1)) = outs V0 false L
  len : V1.length + wts (L.drop (k + 1)) ≤ 1099511627776
  dl : D.length ≤ k
  vb : ∀ g, v'.ownBlock = some g → w.heap.size ≤ g
  p1 : w.heap.size ≤ P1
  bel : Below w.heap.size w w1
theorem ISt.mid {w wr wa w1 : World} {P1 : Nat} {V0 : List Int} {L : List StepL} {k : Nat} {V V1 : List Int} {ch ch1 bad : Bool} {vv v' : Value} {D : List (Bool × List Int)} {cs : List Value} {u7 : Value} (h : ISt w wr P1 V0 L k V ch vv D cs u7) (hba : Below wr.heap.size wr wa) (hs1 : SV w1 P1 w.heap.size V1 ch1 v') (hchg : SvChg wa w1 P1 w.heap.size vv v')
    (hin : InR V1) (ho : outs V ch (L.drop k) = (bad, V1) :: outs V1 ch1 (L.drop (k + 1))) (hl : V1.length + wts (L.drop (k + 1)) ≤ 1099511627776) : IMid w w1 P1 V0 L k V1 ch1 bad v' D cs u7 := by
  have hsvW := h.sv.kept hba
  have hB := h.bel.size
  have hbW : Below w.heap.size w wa := below_step h.bel hba
  refine ⟨hs1, ?_, ?_, ?_, hin, ?_, hl, h.dl, chg_at hchg h.vb hbW.size, h.p1, hbW.trans (chg_below hchg h.p1 (Nat.le_refl _) h.vb hbW.size)⟩
  · exact chg_own hsvW hchg (own_kept h.own hba) (by decide) (by decide) (own_apart (own_kept h.own hba) hsvW.hv (by decide))
  · exact h.rows.kept fun v n ys k1 k2 => ⟨chg_own hsvW hchg (own_kept k1 hba) (by decide) (by decide) (own_apart (own_kept k1 hba) hsvW.hv (by decide)), k2⟩
  · exact h.txs.kept fun v n ys k1 => chg_own hsvW hchg (own_kept k1 hba) (by decide) (by decide) (own_apart (own_kept k1 hba) hsvW.hv (by decide))
  · rw [List.append_assoc, ← h.eq, ho]; rfl
theorem IMid.next {w w1 w3 w2 : World} {P1 : Nat} {V0 : List Int} {L : List StepL} {k : Nat} {V1 : List Int} {ch1 bad : Bool} {v' : Value} {D : List (Bool × List Int)} {cs us : List Value} {u7 u : Value} (h : IMid w w1 P1 V0 L k V1 ch1 bad v' D cs u7) (hb3 : Below w1.heap.size w1 w3) {A A2 : Option Addr} {c c2 : Nat}
    (ha : w3.ownsRow w1.heap.size 2 1 (.slice A V1.length c) V1.length (i64s V1)) (hs : w3.ownsRow w1.heap.size 9 1 (.slice A2 V1.length c2) V1.length (strCells (V1.map said)))
    (hgrow : w3.grownBy w2 u7.ownBlock) (hown2 : w2.ownsRow w.heap.size 42 3 u (D.length + 1) (cs ++ us)) (h0 : us[0]? = some (.bool bad)) (h1 : us[1]? = some (.slice A V1.length c)) (h2 : us[2]? = some (.slice A2 V1.length c2)) :
    ISt w w2 P1 V0 L (k + 1) V1 ch1 v' (D ++ [(bad, V1)]) (cs ++ us) u := by
  have hown3 := own_kept h.own hb3
  have hs3 := h.sv.kept hb3
  have hkeep : ∀ {base e size n : Nat} {v : Value} {ys : List Value}, e ≠ 42 → w3.ownsRow base e size v n ys → w2.ownsRow base e size v n ys := fun hne h => h.kept hgrow (own_apart h hown3 hne)
  have hf1 : u7.ownBlock ≠ some P1 := own_far hown3 hs3.h1 (by decide)
  have hf0 : u7.ownBlock ≠ some w.heap.size := own_far hown3 hs3.h0 (by decide)
  have hB := h.bel.size
  refine ⟨⟨?_, ?_, hkeep (by decide) hs3.hv, h.sv.n1, h.sv.n0, h.sv.ne, h.sv.sh⟩, by rw [List.length_append]; exact hown2, ?_, ?_, h.inr, h.eq, h.len, by have := h.dl; simp; omega, h.vb, h.p1, ?_⟩
  · exact (hgrow.block P1 (lt_of_block hs3.h1) (Ne.symm hf1)).trans hs3.h1
  · exact (hgrow.block w.heap.size (lt_of_block hs3.h0) (Ne.symm hf0)).trans hs3.h0
  · refine ListRows.snoc (h.rows.kept fun x n ys k1 k2 => ⟨hkeep (by decide) (own_kept k1 hb3), k2⟩) (by omega) h.own.1 (bad, V1) h0 h1 (own_low (hkeep (by decide) ha) (Nat.zero_le _)) ?_
    cases (Value.slice A V1.length c).ownBlock with
    | none => exact .inl rfl
    | some g => exact .inr (by simp [Value.ownBlock])
  · exact TxRows.snoc (h.txs.kept fun x n ys k1 => hkeep (by decide) (own_kept k1 hb3)) h.own.1 (bad, V1) h2 (own_low (hkeep (by decide) hs) (Nat.zero_le _))
  · exact (below_step h.bel hb3).grown hgrow (Nat.le_trans hB hb3.size) (fun k hk => (hown3.lt k hk).1)
def T15 (u7 E vv : Value) (P0 P1 : Nat) (bad : Bool) (V : List Int) (B : Nat) : Nat → Value → World → Prop
  | 0, v, _ => v = u7
  | 1, v, _ => v = E
  | 2, v, _ => v = .bool bad
  | 3, v, _ => v = .pointer (some ⟨P0, 0, none⟩)
  | 4, v, _ => v = .pointer (some ⟨P0, 0, none⟩)
  | 5, v, _ => v = vv
  | 6, v, w => ∃ A c, v = .slice A V.length c ∧ w.ownsRow B 2 1 (.slice A V.length c) V.length (i64s V)
  | 7, v, w => ∃ g, v = .slice (some ⟨g, 0, none⟩) 0 0 ∧ w.ownsRow B 9 1 (.slice (some ⟨g, 0, none⟩) 0 0) 0 []
  | 8, v, _ => v = .pointer (some ⟨P1, 0, none⟩)
  | 9, v, w => ∃ g, v = .slice (some ⟨g, 0, none⟩) V.length V.length ∧ RowAt w (some ⟨g, 0, none⟩) (strCells (V.map said))
  | 10, v, w => ∃ A2 c2, v = .slice A2 V.length c2 ∧ w.ownsRow B 9 1 (.slice A2 V.length c2) V.length (strCells (V.map said))
  | 11, v, w => ∃ A c A2 c2, v = .agg #[.bool bad, .slice A V.length c, .slice A2 V.length c2] ∧ w.ownsRow B 2 1 (.slice A V.length c) V.length (i64s V) ∧ w.ownsRow B 9 1 (.slice A2 V.length c2) V.length (strCells (V.map said))
  | 12, v, w => ∃ g A c A2 c2, v = .slice (some ⟨g, 0, none⟩) 1 1 ∧ w.heap[g]? = some (.cells #[.bool bad, .slice A V.length c, .slice A2 V.length c2] 42 (0, 0)) ∧ w.ownsRow B 2 1 (.slice A V.length c) V.length (i64s V) ∧ w.ownsRow B 9 1 (.slice A2 V.length c2) V.length (strCells (V.map said))
  | _, _, _ => True
theorem T15.below {u7 E vv : Value} {P0 P1 : Nat} {bad : Bool} {V : List Int} {B : Nat} {i : Nat} (hi : i < 13) {v : Value} {w w' : World} (h : T15 u7 E vv P0 P1 bad V B i v w) (hb : Below w.heap.size w w') : T15 u7 E vv P0 P1 bad V B i v w' := by
  match i, hi, h with
  | 0, _, h => exact h
  | 1, _, h => exact h
  | 2, _, h => exact h
  | 3, _, h => exact h
  | 4, _, h => exact h
  | 5, _, h => exact h
  | 6, _, h => obtain ⟨A, c, e, h⟩ := h; exact ⟨A, c, e, own_kept h hb⟩
  | 7, _, h => obtain ⟨g, e, h⟩ := h; exact ⟨g, e, own_kept h hb⟩
  | 8, _, h => exact h
  | 9, _, h => obtain ⟨g, e, h⟩ := h; exact ⟨g, e, rowAt_below h hb⟩
  | 10, _, h => obtain ⟨A, c, e, h⟩ := h; exact ⟨A, c, e, own_kept h hb⟩
  | 11, _, h => obtain ⟨A, c, A2, c2, e, h, h2⟩ := h; exact ⟨A, c, A2, c2, e, own_kept h hb, own_kept h2 hb⟩
  | 12, _, h => obtain ⟨g, A, c, A2, c2, e, h0, h, h2⟩ := h; exact ⟨g, A, c, A2, c2, e, block_kept h0 hb, own_kept h hb, own_kept h2 hb⟩
  | k + 13, hi, _ => exact absurd hi (by omega)
theorem ints_of {w : World} {base g c : Nat} {e : TypeId} {V : List Int} (h : w.ownsRow base e 1 (.slice (some ⟨g, 0, none⟩) V.length c) V.length (i64s V)) : IntsIn w (some ⟨g, 0, none⟩) c V := by
  refine ⟨(fun h => by cases h), ?_, fun ad hA j u hu => row_news (own_row_at h) ad hA j u hu⟩
  rcases h.2 with ⟨h1, _⟩ | ⟨g', c', cur, e1, _, _, h2, _⟩
  · cases h1
  · cases e1; exact h2
/-- What IntList leaves. -/
def ITold (D : List (Bool × List Int)) (w : World) (e : Ending) (w' : World) : Prop := ∃ A c cs, e = .returned (.slice A D.length c) ∧ RowAt w' A cs ∧ ListRows w' 0 3 (.slice none 0 0) D cs ∧ TxRows w' D cs ∧ Below w.heap.size w w'
set_option maxRecDepth 100000 in
set_option maxHeartbeats 25600000 in
theorem intList_any (Ad : Option Addr) (cd : Nat) (V0 : List Int) (A : Option Addr) (cap : Nat) (L : List StepL) (w : World) (hv : IntsIn w Ad cd V0) (hv0 : InR V0) (hx : StepsAt w A L) (hm : L.length ≤ 2147483647) (hf : ∀ j (h : j < L.length), fits8 L[j] = true) (hw : V0.length + wts L ≤ 1099511627776) (he1 : ErrCell 0 w) (he2 : ErrCell 1 w) (hp : Pow w) :
    Calls Tryd.prog 20 #[.slice Ad V0.length cd, .slice A L.length cap] w (ITold (outs V0 false L) w) := by
  obtain ⟨ti, hi, hz0, hz1, hz2⟩ := info_parts Tryd.infoSaid3
  obtain ⟨ts, si, sz0, sz1, sz2⟩ := info_parts Tryd.infoStr1
  have E1 := Lib.hid he1
  have E2 := Lib.hid he2
  have HF := Lib.hid hf
  have HPW := Lib.hid hp
  have HW : Hid (V0.length + wts (L.drop 0) ≤ 1099511627776) := by show _ ≤ _; rw [List.drop_zero]; exact hw
  have hV0 : V0.length ≤ 1099511627776 := by omega
  have HB0 : Hid (Below w.heap.size w (w.alloc (.cells #[.slice none 0 0] 101))) := (Below.refl _ _).alloc (Nat.le_refl _) _
  have HP0 : Hid ((w.alloc (.cells #[.slice none 0 0] 101)).heap[w.heap.size]? = some (.cells #[.slice none 0 0] 101 (0, 0))) := heap_alloc_new w _
  have HAP0 := Lib.hid (apart_to Ad cd V0 (w.alloc (.cells #[.slice none 0 0] 101)) ⟨hv.1, hv.2.1, fun ad hA j u hu => cell_kept HB0.out (hv.2.2 ad hA j u hu)⟩ hv0 hV0)
  have HR0 := Lib.hid hv0
  clear he1 he2 hf hv hw hv0 hp
  go_enter Tryd.func20, Tryd.ntmps20
  go_wp2_with (first
    | (go_at_call 57; refine (HAP0.out).mono ?_; rintro e w0 ⟨g0, c0, rfl, hown0, hbel0⟩)
    | (go_at_call 56; refine (zz64_any g0 c0 V0 w.heap.size (.slice none 0 0) w0 (block_kept HP0.out hbel0) ⟨_, _, _, rfl⟩ (own_low hown0 (Nat.zero_le _)) (fun e => by have := (hown0.lt g0 rfl).1; simp at this; omega)).mono ?_; rintro e w1 ⟨rfl, hsv0, hb1⟩))
  have HST0 : ISt w w1 w0.heap.size V0 L 0 V0 false (.slice (some ⟨g0, 0, none⟩) V0.length c0) [] [] (.slice none 0 0) := ⟨hsv0, World.ownsRow_nil _ _ _ _, ListRows.nil _ _ _ _, TxRows.nil _, HR0.out, by simp, HW.out, Nat.le_refl _, (fun g hg => by cases hg; have h9 := (hown0.lt g0 rfl).1; simp at h9; exact Nat.le_of_succ_le h9), by have := hbel0.size; simp at this; omega, (HB0.out.trans (hbel0.mono (by simp))).trans hb1⟩
  clear hsv0 hb1 hown0 hbel0 HP0 HB0 HW HAP0 HR0
  generalize w0.heap.size = P1 at HST0 ⊢
  go_loopw [7, 18] (fun u7 i wr => ∃ (k : Nat) (V : List Int) (ch : Bool) (vv : Value) (D : List (Bool × List Int)) (cs : List Value), k ≤ L.length ∧ i = .int .i64 k ∧ ISt w wr P1 V0 L k V ch vv D cs u7) (fun _ i _ => L.length - (intOf i).toNat)
  case atStart => exact ⟨0, V0, false, _, [], [], Nat.zero_le _, rfl, HST0⟩
  case round =>
    clear HST0
    obtain ⟨k, V, ch, vv, D, cs, hk, rfl, HST⟩ := hrel
    by_cases hlt : k < L.length
    · obtain ⟨b, o, v, rfl, h0, h1, h2, h3⟩ := hx k hlt
      have hbel := HST.bel
      have hB := hbel.size
      have h3 := h3.below hbel
      have c0 := cell_kept hbel h0
      have c1 := cell_kept hbel h1
      have c2 := cell_kept hbel h2
      obtain ⟨At, ct, rfl, hst0, hle, hcap, hnone⟩ := h3
      have i0 : (0 : Int) ≤ (k : Int) := Int.natCast_nonneg _
      have i1 : (k : Int) < (L.length : Int) := by omega
      have HO := fun ht => Lib.hid (outs_told (V := V) (ch := ch) hlt ht)
      have HNT := fun ht => Lib.hid (outs_not (V := V) (ch := ch) hlt ht)
      have HWT := Lib.hid (wts_drop hlt)
      have H8 := Lib.hid (fits8_iff.1 (HF.out k hlt))
      have HTB : Hid (toldB L[k] = decide (0 ≤ L[k].act ∧ L[k].act ≤ 2)) := rfl
      clear h0 h1 h2
      generalize L[k] = x at c0 c1 c2 HO HNT HWT H8 hst0 hle HTB ⊢
      by_cases ht : toldB x = true
      · have HO := HO ht
        have HLEN := Lib.hid (stepR_len x V ch)
        have hact : x.act = 0 ∨ x.act = 1 ∨ x.act = 2 := by have := HTB.out; rw [ht] at this; have := of_decide_eq_true this.symm; omega
        clear HNT HTB ht
        rcases hact with hact | hact | hact
        · rw [hact] at c0
          have hba : Below wr.heap.size wr (wr.alloc (.cells #[.int .i64 0, .string x.text, .slice At x.texts.length ct] 67)) := (Below.refl _ _).alloc (Nat.le_refl _) _
          have H := Lib.hid (set64_did x hact H8.out.1 P1 w.heap.size V ch vv _ (HST.sv.kept hba) (by have := HST.len; omega) (E1.out.below (below_step hbel hba)) (E2.out.below (below_step hbel hba)))
          have HSTM := fun (r : Bool × List Int × Bool) w1 v' (hr : stepR x V ch = r) hs1 hchg => HST.mid (w1 := w1) (v' := v') (V1 := r.2.1) (ch1 := r.2.2) (bad := r.1) hba hs1 hchg (by rw [← hr]; exact stepR_in x ch HST.inr) (by rw [← hr]; exact HO.out) (by have := HLEN.out; have := HWT.out; have := HST.len; rw [← hr]; omega)
          obtain ⟨r, hr⟩ : ∃ r, stepR x V ch = r := ⟨_, rfl⟩
          rw [hr] at H
          obtain ⟨bad, V1, ch1⟩ := r
          have HSTM := Lib.hid (fun w1 v' => HSTM (bad, V1, ch1) w1 v' hr)
          clear hact HST HO HLEN hr
          go_wp2_with (go_at_call 59; refine (H.out).mono ?_; rintro e w1 ⟨E, v', rfl, hE, hs1, hchg⟩)
          have hE : (bad = false ∧ E = .nilIface) ∨ (bad = true ∧ ∃ t y, E = .iface t y) := hE
          have hs1 : SV w1 P1 w.heap.size V1 ch1 v' := hs1
          have HSTM : ∀ (hs1 : SV w1 P1 w.heap.size V1 ch1 v') (hchg : SvChg (wr.alloc (.cells #[.int .i64 0, .string x.text, .slice At x.texts.length ct] 67)) w1 P1 w.heap.size vv v'), IMid w w1 P1 V0 L k V1 ch1 bad v' D cs u7 := fun hs1 hchg => HSTM.out w1 v' hs1 hchg
          clear hba H
          obtain ⟨g1, c1, rfl⟩ := hs1.sh
          have hcp1 : w1.cell? ⟨w.heap.size, 0, none⟩ = some (.slice (some ⟨g1, 0, none⟩) V1.length c1) := cell_of_one hs1.h0
          have HMD := Lib.hid (HSTM hs1 hchg)
          have hV1 : V1.length ≤ 1099511627776 := by have := HMD.out.len; omega
          have hdl := HMD.out.dl
          have hbw1 := HMD.out.bel
          have HEN := Lib.hid hE
          have HAP := Lib.hid (fun u (hb : Below w1.heap.size w1 u) => apart_back (some ⟨g1, 0, none⟩) c1 V1 u (ints_of (own_kept hs1.hv hb)) HMD.out.inr hV1)
          have HGS := Lib.hid (fun u (hb : Below w1.heap.size w1 u) => getSlice_any P1 w.heap.size V1 ch1 _ u (hs1.kept hb) HMD.out.inr hV1 (Lib.tabBelow_of_tabIs HPW.out u (below_step hbw1 hb)))
          have hE0 : ∃ E0, E = E0 := ⟨_, rfl⟩
          clear hE hs1 hchg HSTM
          go_upto_region 15 with fail
          refine region_inv (by kernel_rfl) (fun u v => Below u.heap.size u v) (T15 u7 E (.slice (some ⟨g1, 0, none⟩) V1.length c1) w.heap.size P1 bad V1 w1.heap.size) (fun i => false) (fun i => [44, 45, 46, 47, 48, 49, 50, 51, 52, 53, 54, 55, 56].getD i 0) 13
            (Below.refl _ _) (fun _ _ _ h k => below_step h k) (fun i hi v u u' h hb => T15.below hi h hb) ?_ (hgd_none (by kernel_rfl)) (by kernel_rfl) (by kernel_rfl) (by kernel_rfl) (by kernel_rfl) ?_ ?_
          · intro i hi hA; cases hA
          · intro i hi o ho a u hG hk hd
            have hG9 : Below w1.heap.size w1 u := ((Below.refl _ _).drew).trans hG
            match i, hi with
            | 0, _ =>
              simp only [List.getElem?_toArray, List.getElem?_cons_zero, List.getElem?_cons_succ, Option.some.injEq] at ho
              subst ho
              exact ow_move rfl ((hk 7 (by decide)).trans rfl) ⟨_, rfl, rfl, Below.refl _ _, fun h => by cases h⟩
            | 1, _ =>
              simp only [List.getElem?_toArray, List.getElem?_cons_zero, List.getElem?_cons_succ, Option.some.injEq] at ho
              subst ho
              exact ow_move rfl ((hk 10 (by decide)).trans rfl) ⟨_, rfl, rfl, Below.refl _ _, fun h => by cases h⟩
            | 2, _ =>
              simp only [List.getElem?_toArray, List.getElem?_cons_zero, List.getElem?_cons_succ, Option.some.injEq] at ho
              subst ho
              have e45 : a.eval (.tmp 45) = _ := hd 1 (by kernel_rfl) (by decide)
              exact ow_neq_nil HEN.out rfl e45 ⟨_, rfl, rfl, Below.refl _ _, fun h => by cases h⟩
            | 3, _ =>
              simp only [List.getElem?_toArray, List.getElem?_cons_zero, List.getElem?_cons_succ, Option.some.injEq] at ho
              subst ho
              exact ow_move rfl ((hk 5 (by decide)).trans rfl) ⟨_, rfl, rfl, Below.refl _ _, fun h => by cases h⟩
            | 4, _ =>
              simp only [List.getElem?_toArray, List.getElem?_cons_zero, List.getElem?_cons_succ, Option.some.injEq] at ho
              subst ho
              have e47 : a.eval (.tmp 47) = _ := hd 3 (by kernel_rfl) (by decide)
              exact ow_nilCheck rfl e47 ⟨_, rfl, rfl, Below.refl _ _, fun h => by cases h⟩
            | 5, _ =>
              simp only [List.getElem?_toArray, List.getElem?_cons_zero, List.getElem?_cons_succ, Option.some.injEq] at ho
              subst ho
              have e48 : a.eval (.tmp 48) = _ := hd 4 (by kernel_rfl) (by decide)
              exact ow_load_ints rfl e48 (cell_kept hG9 hcp1) ⟨_, rfl, rfl, Below.refl _ _, fun h => by cases h⟩
            | 6, _ =>
              simp only [List.getElem?_toArray, List.getElem?_cons_zero, List.getElem?_cons_succ, Option.some.injEq] at ho
              subst ho
              have e49 : a.eval (.tmp 49) = .slice (some ⟨g1, 0, none⟩) V1.length c1 := hd 5 (by kernel_rfl) (by decide)
              refine ow_call #[.tmp 49, .func 63] #[101, 107] 62 Tryd.func62 (by kernel_rfl) (by rfl) rfl #[.slice (some ⟨g1, 0, none⟩) V1.length c1, .func (.func 63) #[] #[]] (by simp only [List.map_toArray, List.map_cons, List.map_nil, e49]; rfl) (HAP.out u hG9) ?_
              rintro e u2 ⟨ga, ca, rfl, hoa, hba⟩
              exact ⟨_, rfl, _, rfl, ⟨_, _, rfl, own_low hoa hG9.size⟩, hba, fun h => by cases h⟩
            | 7, _ =>
              simp only [List.getElem?_toArray, List.getElem?_cons_zero, List.getElem?_cons_succ, Option.some.injEq] at ho
              subst ho
              exact ow_make0 rfl ⟨_, rfl, ⟨_, rfl, World.ownsRow_made (e := 9) (size := 1) u #[] 0 hG9.size (Nat.zero_le _) rfl⟩, (Below.refl _ _).alloc (Nat.le_refl _) _, fun h => by cases h⟩
            | 8, _ =>
              simp only [List.getElem?_toArray, List.getElem?_cons_zero, List.getElem?_cons_succ, Option.some.injEq] at ho
              subst ho
              exact ow_move rfl ((hk 6 (by decide)).trans rfl) ⟨_, rfl, rfl, Below.refl _ _, fun h => by cases h⟩
            | 9, _ =>
              simp only [List.getElem?_toArray, List.getElem?_cons_zero, List.getElem?_cons_succ, Option.some.injEq] at ho
              subst ho
              have e52 : a.eval (.tmp 52) = _ := hd 8 (by kernel_rfl) (by decide)
              refine ow_call #[.tmp 52] #[102] 64 Tryd.func64 (by kernel_rfl) (by rfl) rfl #[_] (by simp only [List.map_toArray, List.map_cons, List.map_nil, e52]) (HGS.out u hG9) ?_
              rintro e u2 ⟨gs, rfl, hrs, hbs⟩
              exact ⟨_, rfl, _, rfl, ⟨_, rfl, hrs⟩, hbs, fun h => by cases h⟩
            | 10, _ =>
              simp only [List.getElem?_toArray, List.getElem?_cons_zero, List.getElem?_cons_succ, Option.some.injEq] at ho
              subst ho
              obtain ⟨gm, em, hm⟩ := hd 7 (by kernel_rfl) (by decide)
              obtain ⟨gs, es, hrs⟩ := hd 9 (by kernel_rfl) (by decide)
              have e51 : a.eval (.tmp 51) = _ := em
              have e53 : a.eval (.tmp 53) = _ := es
              refine ow_append_empty (.tmp 51) (.tmp 53) 23 rfl w1.heap.size 9 ts (.string ⟨#[]⟩) 1 16 Tryd.underlying23 si sz0 sz1 sz2 rfl (by decide) gm e51 hm (some ⟨gs, 0, none⟩) V1.length V1.length e53 (fun h => by cases h) (strCells (V1.map said)) (by simp [strCells]) (row_news hrs) strCells_one (by unfold maxLen; omega) (by omega) hG9.size ?_
              intro g2 c2 u2 ho2 hb2
              exact ⟨_, rfl, ⟨_, _, rfl, ho2⟩, hb2, fun h => by cases h⟩
            | 11, _ =>
              simp only [List.getElem?_toArray, List.getElem?_cons_zero, List.getElem?_cons_succ, Option.some.injEq] at ho
              subst ho
              have e46 : a.eval (.tmp 46) = _ := hd 2 (by kernel_rfl) (by decide)
              obtain ⟨Aa, ca, ea, ha⟩ := hd 6 (by kernel_rfl) (by decide)
              obtain ⟨As, cs2, es, hs2⟩ := hd 10 (by kernel_rfl) (by decide)
              have e50 : a.eval (.tmp 50) = _ := ea
              have e54 : a.eval (.tmp 54) = _ := es
              exact ow_build_said (u := .nilIface) (v := .nilIface) (p := .nilIface) rfl e46 e50 e54 ⟨_, rfl, ⟨_, _, _, _, rfl, ha, hs2⟩, Below.refl _ _, fun h => by cases h⟩
            | 12, _ =>
              simp only [List.getElem?_toArray, List.getElem?_cons_zero, List.getElem?_cons_succ, Option.some.injEq] at ho
              subst ho
              obtain ⟨Aa, ca, As, cs2, eb, ha, hs2⟩ := hd 11 (by kernel_rfl) (by decide)
              have e55 : a.eval (.tmp 55) = _ := eb
              exact ow_one_said rfl e55 ⟨_, rfl, ⟨_, _, _, _, _, rfl, heap_alloc_new _ _, own_kept ha ((Below.refl _ _).alloc (Nat.le_refl _) _), own_kept hs2 ((Below.refl _ _).alloc (Nat.le_refl _) _)⟩, (Below.refl _ _).alloc (Nat.le_refl _) _, fun h => by cases h⟩
            | k + 13, hi => exact absurd hi (by omega)
          · intro x u hG hx hdif
            have hG9 : Below w1.heap.size w1 u := ((Below.refl _ _).drew).trans hG
            have e44 : x 0 = u7 := hx 0 (by decide)
            obtain ⟨gb, Aa, ca, As, cs2, e56, hgb, hoa, hos⟩ := hx 12 (by decide)
            simp only [putAll, Act.put, List.getD_cons_zero, List.getD_cons_succ, List.setIfInBounds_toArray, List.set_cons_succ, List.set_cons_zero]
            rw [e44, e56]
            refine wpAny_next (i := 13) (by kernel_rfl) rfl rfl ?_
            refine wp_append_own u (.tmp 44) (.tmp 56) 30 rfl w.heap.size 42 ti _ 3 56 Tryd.underlying30 hi hz0 hz1 hz2 rfl (by decide) u7 D.length cs rfl (own_kept HMD.out.own hG9) ⟨gb, 0, none⟩ 1 1 [.bool bad, .slice Aa V1.length ca, .slice As V1.length cs2] rfl rfl (World.news_of_block hgb) (by simp [Value.oneCell']) (by unfold maxLen; omega) (by omega) (Nat.le_trans hbw1.size hG9.size) ?_
            intro v2 w2 hown2 hgrow hat
            have HST2 := Lib.hid (HMD.out.next hG9 hoa hos hgrow hown2 rfl rfl rfl)
            clear hown2 hgrow hat hoa hos hgb hx hdif e44 e56
            refine wpAny_last (i := 14) (by kernel_rfl) rfl rfl (by kernel_rfl) ?_
            refine ow_assign rfl rfl ?_
            go_wp2
            go_roundw
            case rel => exact ⟨k + 1, V1, ch1, _, _, _, by omega, by go_num, HST2.out⟩
            case measure => simp [intOf]; omega
        · rw [hact] at c0
          have hba : Below wr.heap.size wr (wr.alloc (.cells #[.int .i64 1, .string x.text, .slice At x.texts.length ct] 67)) := (Below.refl _ _).alloc (Nat.le_refl _) _
          have H := Lib.hid (append64_did x hact H8.out.1 P1 w.heap.size V ch vv _ (HST.sv.kept hba) (by have := HST.len; omega) (E1.out.below (below_step hbel hba)) (E2.out.below (below_step hbel hba)))
          have HSTM := fun (r : Bool × List Int × Bool) w1 v' (hr : stepR x V ch = r) hs1 hchg => HST.mid (w1 := w1) (v' := v') (V1 := r.2.1) (ch1 := r.2.2) (bad := r.1) hba hs1 hchg (by rw [← hr]; exact stepR_in x ch HST.inr) (by rw [← hr]; exact HO.out) (by have := HLEN.out; have := HWT.out; have := HST.len; rw [← hr]; omega)
          obtain ⟨r, hr⟩ : ∃ r, stepR x V ch = r := ⟨_, rfl⟩
          rw [hr] at H
          obtain ⟨bad, V1, ch1⟩ := r
          have HSTM := Lib.hid (fun w1 v' => HSTM (bad, V1, ch1) w1 v' hr)
          clear hact HST HO HLEN hr
          go_wp2_with (go_at_call 60; refine (H.out).mono ?_; rintro e w1 ⟨E, v', rfl, hE, hs1, hchg⟩)
          have hE : (bad = false ∧ E = .nilIface) ∨ (bad = true ∧ ∃ t y, E = .iface t y) := hE
          have hs1 : SV w1 P1 w.heap.size V1 ch1 v' := hs1
          have HSTM : ∀ (hs1 : SV w1 P1 w.heap.size V1 ch1 v') (hchg : SvChg (wr.alloc (.cells #[.int .i64 1, .string x.text, .slice At x.texts.length ct] 67)) w1 P1 w.heap.size vv v'), IMid w w1 P1 V0 L k V1 ch1 bad v' D cs u7 := fun hs1 hchg => HSTM.out w1 v' hs1 hchg
          clear hba H
          obtain ⟨g1, c1, rfl⟩ := hs1.sh
          have hcp1 : w1.cell? ⟨w.heap.size, 0, none⟩ = some (.slice (some ⟨g1, 0, none⟩) V1.length c1) := cell_of_one hs1.h0
          have HMD := Lib.hid (HSTM hs1 hchg)
          have hV1 : V1.length ≤ 1099511627776 := by have := HMD.out.len; omega
          have hdl := HMD.out.dl
          have hbw1 := HMD.out.bel
          have HEN := Lib.hid hE
          have HAP := Lib.hid (fun u (hb : Below w1.heap.size w1 u) => apart_back (some ⟨g1, 0, none⟩) c1 V1 u (ints_of (own_kept hs1.hv hb)) HMD.out.inr hV1)
          have HGS := Lib.hid (fun u (hb : Below w1.heap.size w1 u) => getSlice_any P1 w.heap.size V1 ch1 _ u (hs1.kept hb) HMD.out.inr hV1 (Lib.tabBelow_of_tabIs HPW.out u (below_step hbw1 hb)))
          have hE0 : ∃ E0, E = E0 := ⟨_, rfl⟩
          clear hE hs1 hchg HSTM
          go_upto_region 15 with fail
          refine region_inv (by kernel_rfl) (fun u v => Below u.heap.size u v) (T15 u7 E (.slice (some ⟨g1, 0, none⟩) V1.length c1) w.heap.size P1 bad V1 w1.heap.size) (fun i => false) (fun i => [44, 45, 46, 47, 48, 49, 50, 51, 52, 53, 54, 55, 56].getD i 0) 13
            (Below.refl _ _) (fun _ _ _ h k => below_step h k) (fun i hi v u u' h hb => T15.below hi h hb) ?_ (hgd_none (by kernel_rfl)) (by kernel_rfl) (by kernel_rfl) (by kernel_rfl) (by kernel_rfl) ?_ ?_
          · intro i hi hA; cases hA
          · intro i hi o ho a u hG hk hd
            have hG9 : Below w1.heap.size w1 u := ((Below.refl _ _).drew).trans hG
            match i, hi with
            | 0, _ =>
              simp only [List.getElem?_toArray, List.getElem?_cons_zero, List.getElem?_cons_succ, Option.some.injEq] at ho
              subst ho
              exact ow_move rfl ((hk 7 (by decide)).trans rfl) ⟨_, rfl, rfl, Below.refl _ _, fun h => by cases h⟩
            | 1, _ =>
              simp only [List.getElem?_toArray, List.getElem?_cons_zero, List.getElem?_cons_succ, Option.some.injEq] at ho
              subst ho
              exact ow_move rfl ((hk 10 (by decide)).trans rfl) ⟨_, rfl, rfl, Below.refl _ _, fun h => by cases h⟩
            | 2, _ =>
              simp only [List.getElem?_toArray, List.getElem?_cons_zero, List.getElem?_cons_succ, Option.some.injEq] at ho
              subst ho
              have e45 : a.eval (.tmp 45) = _ := hd 1 (by kernel_rfl) (by decide)
              exact ow_neq_nil HEN.out rfl e45 ⟨_, rfl, rfl, Below.refl _ _, fun h => by cases h⟩
            | 3, _ =>
              simp only [List.getElem?_toArray, List.getElem?_cons_zero, List.getElem?_cons_succ, Option.some.injEq] at ho
              subst ho
              exact ow_move rfl ((hk 5 (by decide)).trans rfl) ⟨_, rfl, rfl, Below.refl _ _, fun h => by cases h⟩
            | 4, _ =>
              simp only [List.getElem?_toArray, List.getElem?_cons_zero, List.getElem?_cons_succ, Option.some.injEq] at ho
              subst ho
              have e47 : a.eval (.tmp 47) = _ := hd 3 (by kernel_rfl) (by decide)
              exact ow_nilCheck rfl e47 ⟨_, rfl, rfl, Below.refl _ _, fun h => by cases h⟩
            | 5, _ =>
              simp only [List.getElem?_toArray, List.getElem?_cons_zero, List.getElem?_cons_succ, Option.some.injEq] at ho
              subst ho
              have e48 : a.eval (.tmp 48) = _ := hd 4 (by kernel_rfl) (by decide)
              exact ow_load_ints rfl e48 (cell_kept hG9 hcp1) ⟨_, rfl, rfl, Below.refl _ _, fun h => by cases h⟩
            | 6, _ =>
              simp only [List.getElem?_toArray, List.getElem?_cons_zero, List.getElem?_cons_succ, Option.some.injEq] at ho
              subst ho
              have e49 : a.eval (.tmp 49) = .slice (some ⟨g1, 0, none⟩) V1.length c1 := hd 5 (by kernel_rfl) (by decide)
              refine ow_call #[.tmp 49, .func 63] #[101, 107] 62 Tryd.func62 (by kernel_rfl) (by rfl) rfl #[.slice (some ⟨g1, 0, none⟩) V1.length c1, .func (.func 63) #[] #[]] (by simp only [List.map_toArray, List.map_cons, List.map_nil, e49]; rfl) (HAP.out u hG9) ?_
              rintro e u2 ⟨ga, ca, rfl, hoa, hba⟩
              exact ⟨_, rfl, _, rfl, ⟨_, _, rfl, own_low hoa hG9.size⟩, hba, fun h => by cases h⟩
            | 7, _ =>
              simp only [List.getElem?_toArray, List.getElem?_cons_zero, List.getElem?_cons_succ, Option.some.injEq] at ho
              subst ho
              exact ow_make0 rfl ⟨_, rfl, ⟨_, rfl, World.ownsRow_made (e := 9) (size := 1) u #[] 0 hG9.size (Nat.zero_le _) rfl⟩, (Below.refl _ _).alloc (Nat.le_refl _) _, fun h => by cases h⟩
            | 8, _ =>
              simp only [List.getElem?_toArray, List.getElem?_cons_zero, List.getElem?_cons_succ, Option.some.injEq] at ho
              subst ho
              exact ow_move rfl ((hk 6 (by decide)).trans rfl) ⟨_, rfl, rfl, Below.refl _ _, fun h => by cases h⟩
            | 9, _ =>
              simp only [List.getElem?_toArray, List.getElem?_cons_zero, List.getElem?_cons_succ, Option.some.injEq] at ho
              subst ho
              have e52 : a.eval (.tmp 52) = _ := hd 8 (by kernel_rfl) (by decide)
              refine ow_call #[.tmp 52] #[102] 64 Tryd.func64 (by kernel_rfl) (by rfl) rfl #[_] (by simp only [List.map_toArray, List.map_cons, List.map_nil, e52]) (HGS.out u hG9) ?_
              rintro e u2 ⟨gs, rfl, hrs, hbs⟩
              exact ⟨_, rfl, _, rfl, ⟨_, rfl, hrs⟩, hbs, fun h => by cases h⟩
            | 10, _ =>
              simp only [List.getElem?_toArray, List.getElem?_cons_zero, List.getElem?_cons_succ, Option.some.injEq] at ho
              subst ho
              obtain ⟨gm, em, hm⟩ := hd 7 (by kernel_rfl) (by decide)
              obtain ⟨gs, es, hrs⟩ := hd 9 (by kernel_rfl) (by decide)
              have e51 : a.eval (.tmp 51) = _ := em
              have e53 : a.eval (.tmp 53) = _ := es
              refine ow_append_empty (.tmp 51) (.tmp 53) 23 rfl w1.heap.size 9 ts (.string ⟨#[]⟩) 1 16 Tryd.underlying23 si sz0 sz1 sz2 rfl (by decide) gm e51 hm (some ⟨gs, 0, none⟩) V1.length V1.length e53 (fun h => by cases h) (strCells (V1.map said)) (by simp [strCells]) (row_news hrs) strCells_one (by unfold maxLen; omega) (by omega) hG9.size ?_
              intro g2 c2 u2 ho2 hb2
              exact ⟨_, rfl, ⟨_, _, rfl, ho2⟩, hb2, fun h => by cases h⟩
            | 11, _ =>
              simp only [List.getElem?_toArray, List.getElem?_cons_zero, List.getElem?_cons_succ, Option.some.injEq] at ho
              subst ho
              have e46 : a.eval (.tmp 46) = _ := hd 2 (by kernel_rfl) (by decide)
              obtain ⟨Aa, ca, ea, ha⟩ := hd 6 (by kernel_rfl) (by decide)
              obtain ⟨As, cs2, es, hs2⟩ := hd 10 (by kernel_rfl) (by decide)
              have e50 : a.eval (.tmp 50) = _ := ea
              have e54 : a.eval (.tmp 54) = _ := es
              exact ow_build_said (u := .nilIface) (v := .nilIface) (p := .nilIface) rfl e46 e50 e54 ⟨_, rfl, ⟨_, _, _, _, rfl, ha, hs2⟩, Below.refl _ _, fun h => by cases h⟩
            | 12, _ =>
              simp only [List.getElem?_toArray, List.getElem?_cons_zero, List.getElem?_cons_succ, Option.some.injEq] at ho
              subst ho
              obtain ⟨Aa, ca, As, cs2, eb, ha, hs2⟩ := hd 11 (by kernel_rfl) (by decide)
              have e55 : a.eval (.tmp 55) = _ := eb
              exact ow_one_said rfl e55 ⟨_, rfl, ⟨_, _, _, _, _, rfl, heap_alloc_new _ _, own_kept ha ((Below.refl _ _).alloc (Nat.le_refl _) _), own_kept hs2 ((Below.refl _ _).alloc (Nat.le_refl _) _)⟩, (Below.refl _ _).alloc (Nat.le_refl _) _, fun h => by cases h⟩
            | k + 13, hi => exact absurd hi (by omega)
          · intro x u hG hx hdif
            have hG9 : Below w1.heap.size w1 u := ((Below.refl _ _).drew).trans hG
            have e44 : x 0 = u7 := hx 0 (by decide)
            obtain ⟨gb, Aa, ca, As, cs2, e56, hgb, hoa, hos⟩ := hx 12 (by decide)
            simp only [putAll, Act.put, List.getD_cons_zero, List.getD_cons_succ, List.setIfInBounds_toArray, List.set_cons_succ, List.set_cons_zero]
            rw [e44, e56]
            refine wpAny_next (i := 13) (by kernel_rfl) rfl rfl ?_
            refine wp_append_own u (.tmp 44) (.tmp 56) 30 rfl w.heap.size 42 ti _ 3 56 Tryd.underlying30 hi hz0 hz1 hz2 rfl (by decide) u7 D.length cs rfl (own_kept HMD.out.own hG9) ⟨gb, 0, none⟩ 1 1 [.bool bad, .slice Aa V1.length ca, .slice As V1.length cs2] rfl rfl (World.news_of_block hgb) (by simp [Value.oneCell']) (by unfold maxLen; omega) (by omega) (Nat.le_trans hbw1.size hG9.size) ?_
            intro v2 w2 hown2 hgrow hat
            have HST2 := Lib.hid (HMD.out.next hG9 hoa hos hgrow hown2 rfl rfl rfl)
            clear hown2 hgrow hat hoa hos hgb hx hdif e44 e56
            refine wpAny_last (i := 14) (by kernel_rfl) rfl rfl (by kernel_rfl) ?_
            refine ow_assign rfl rfl ?_
            go_wp2
            go_roundw
            case rel => exact ⟨k + 1, V1, ch1, _, _, _, by omega, by go_num, HST2.out⟩
            case measure => simp [intOf]; omega
        · rw [hact] at c0
          have H := Lib.hid (fun g c w' (hst : StrsAt w' (some ⟨g, 0, none⟩) x.texts) (hb : Below wr.heap.size wr w') => replace64_did x hact (some ⟨g, 0, none⟩) c H8.out.2.1 H8.out.2.2 P1 w.heap.size V ch vv w' hst (HST.sv.kept hb) (E1.out.below (below_step hbel hb)) (E2.out.below (below_step hbel hb)))
          have HSTM := fun (r : Bool × List Int × Bool) wa hba w1 v' (hr : stepR x V ch = r) hs1 hchg => HST.mid (wa := wa) (w1 := w1) (v' := v') (V1 := r.2.1) (ch1 := r.2.2) (bad := r.1) hba hs1 hchg (by rw [← hr]; exact stepR_in x ch HST.inr) (by rw [← hr]; exact HO.out) (by have := HLEN.out; have := HWT.out; have := HST.len; rw [← hr]; omega)
          obtain ⟨r, hr⟩ : ∃ r, stepR x V ch = r := ⟨_, rfl⟩
          rw [hr] at H
          obtain ⟨bad, V1, ch1⟩ := r
          have HSTM := Lib.hid (fun wa hba w1 v' => HSTM (bad, V1, ch1) wa hba w1 v' hr)
          clear hact HST HO HLEN hr
          have HMS : Hid (((wr.alloc (.cells #[.int .i64 2, .string x.text, .slice At x.texts.length ct] 67)).alloc (.cells #[] 9)).ownsRow (wr.heap.size + 1) 9 1 (.slice (some ⟨wr.heap.size + 1, 0, none⟩) 0 0) 0 []) := by
            have h := World.ownsRow_made (base := wr.heap.size + 1) (e := 9) (size := 1) (wr.alloc (.cells #[.int .i64 2, .string x.text, .slice At x.texts.length ct] 67)) #[] 0 (by simp) (Nat.zero_le _) rfl
            rwa [show (wr.alloc (.cells #[.int .i64 2, .string x.text, .slice At x.texts.length ct] 67)).heap.size = wr.heap.size + 1 by simp] at h
          have HBS : Hid (Below wr.heap.size wr ((wr.alloc (.cells #[.int .i64 2, .string x.text, .slice At x.texts.length ct] 67)).alloc (.cells #[] 9))) := ((Below.refl _ _).alloc (Nat.le_refl _) _).alloc (by simp) _
          have HST := Lib.hid hst0
          have hnt := H8.out.2.1
          clear hst0
          go_wp2_with (first
            | (at_builtin; refine wpList_append_made rfl (.tmp 39) (.tmp 41) 23 rfl (wr.heap.size + 1) 9 ts (.string ⟨#[]⟩) 1 16 Tryd.underlying23 si sz0 sz1 sz2 rfl (by decide) (wr.heap.size + 1) rfl HMS.out At x.texts.length ct (strCells x.texts) rfl (fun h => ⟨by have := hnone h; omega, hnone h⟩) (by simp [strCells]) (fun ad hA j u hu => strCells_at (strsAt_below HST.out HBS.out) ad hA j u hu) strCells_one (by unfold maxLen; omega) (by omega) (by simp) ?_; intro gS cS wS hownS hbelS; have hbS : Below wr.heap.size wr wS := HBS.out.trans (hbelS.mono (Nat.le_succ _)))
            | (go_at_call 61; refine (H.out gS cS wS (strs_of_row (own_row_at hownS)) hbS).mono ?_; rintro e w1 ⟨E, v', rfl, hE, hs1, hchg⟩))
          have hE : (bad = false ∧ E = .nilIface) ∨ (bad = true ∧ ∃ t y, E = .iface t y) := hE
          have hs1 : SV w1 P1 w.heap.size V1 ch1 v' := hs1
          have HSTM : ∀ (hs1 : SV w1 P1 w.heap.size V1 ch1 v') (hchg : SvChg wS w1 P1 w.heap.size vv v'), IMid w w1 P1 V0 L k V1 ch1 bad v' D cs u7 := fun hs1 hchg => HSTM.out wS hbS w1 v' hs1 hchg
          clear H HMS HBS HST hownS hbelS hbS
          obtain ⟨g1, c1, rfl⟩ := hs1.sh
          have hcp1 : w1.cell? ⟨w.heap.size, 0, none⟩ = some (.slice (some ⟨g1, 0, none⟩) V1.length c1) := cell_of_one hs1.h0
          have HMD := Lib.hid (HSTM hs1 hchg)
          have hV1 : V1.length ≤ 1099511627776 := by have := HMD.out.len; omega
          have hdl := HMD.out.dl
          have hbw1 := HMD.out.bel
          have HEN := Lib.hid hE
          have HAP := Lib.hid (fun u (hb : Below w1.heap.size w1 u) => apart_back (some ⟨g1, 0, none⟩) c1 V1 u (ints_of (own_kept hs1.hv hb)) HMD.out.inr hV1)
          have HGS := Lib.hid (fun u (hb : Below w1.heap.size w1 u) => getSlice_any P1 w.heap.size V1 ch1 _ u (hs1.kept hb) HMD.out.inr hV1 (Lib.tabBelow_of_tabIs HPW.out u (below_step hbw1 hb)))
          have hE0 : ∃ E0, E = E0 := ⟨_, rfl⟩
          clear hE hs1 hchg HSTM
          go_upto_region 15 with fail
          refine region_inv (by kernel_rfl) (fun u v => Below u.heap.size u v) (T15 u7 E (.slice (some ⟨g1, 0, none⟩) V1.length c1) w.heap.size P1 bad V1 w1.heap.size) (fun i => false) (fun i => [44, 45, 46, 47, 48, 49, 50, 51, 52, 53, 54, 55, 56].getD i 0) 13
            (Below.refl _ _) (fun _ _ _ h k => below_step h k) (fun i hi v u u' h hb => T15.below hi h hb) ?_ (hgd_none (by kernel_rfl)) (by kernel_rfl) (by kernel_rfl) (by kernel_rfl) (by kernel_rfl) ?_ ?_
          · intro i hi hA; cases hA
          · intro i hi o ho a u hG hk hd
            have hG9 : Below w1.heap.size w1 u := ((Below.refl _ _).drew).trans hG
            match i, hi with
            | 0, _ =>
              simp only [List.getElem?_toArray, List.getElem?_cons_zero, List.getElem?_cons_succ, Option.some.injEq] at ho
              subst ho
              exact ow_move rfl ((hk 7 (by decide)).trans rfl) ⟨_, rfl, rfl, Below.refl _ _, fun h => by cases h⟩
            | 1, _ =>
              simp only [List.getElem?_toArray, List.getElem?_cons_zero, List.getElem?_cons_succ, Option.some.injEq] at ho
              subst ho
              exact ow_move rfl ((hk 10 (by decide)).trans rfl) ⟨_, rfl, rfl, Below.refl _ _, fun h => by cases h⟩
            | 2, _ =>
              simp only [List.getElem?_toArray, List.getElem?_cons_zero, List.getElem?_cons_succ, Option.some.injEq] at ho
              subst ho
              have e45 : a.eval (.tmp 45) = _ := hd 1 (by kernel_rfl) (by decide)
              exact ow_neq_nil HEN.out rfl e45 ⟨_, rfl, rfl, Below.refl _ _, fun h => by cases h⟩
            | 3, _ =>
              simp only [List.getElem?_toArray, List.getElem?_cons_zero, List.getElem?_cons_succ, Option.some.injEq] at ho
              subst ho
              exact ow_move rfl ((hk 5 (by decide)).trans rfl) ⟨_, rfl, rfl, Below.refl _ _, fun h => by cases h⟩
            | 4, _ =>
              simp only [List.getElem?_toArray, List.getElem?_cons_zero, List.getElem?_cons_succ, Option.some.injEq] at ho
              subst ho
              have e47 : a.eval (.tmp 47) = _ := hd 3 (by kernel_rfl) (by decide)
              exact ow_nilCheck rfl e47 ⟨_, rfl, rfl, Below.refl _ _, fun h => by cases h⟩
            | 5, _ =>
              simp only [List.getElem?_toArray, List.getElem?_cons_zero, List.getElem?_cons_succ, Option.some.injEq] at ho
              subst ho
              have e48 : a.eval (.tmp 48) = _ := hd 4 (by kernel_rfl) (by decide)
              exact ow_load_ints rfl e48 (cell_kept hG9 hcp1) ⟨_, rfl, rfl, Below.refl _ _, fun h => by cases h⟩
            | 6, _ =>
              simp only [List.getElem?_toArray, List.getElem?_cons_zero, List.getElem?_cons_succ, Option.some.injEq] at ho
              subst ho
              have e49 : a.eval (.tmp 49) = .slice (some ⟨g1, 0, none⟩) V1.length c1 := hd 5 (by kernel_rfl) (by decide)
              refine ow_call #[.tmp 49, .func 63] #[101, 107] 62 Tryd.func62 (by kernel_rfl) (by rfl) rfl #[.slice (some ⟨g1, 0, none⟩) V1.length c1, .func (.func 63) #[] #[]] (by simp only [List.map_toArray, List.map_cons, List.map_nil, e49]; rfl) (HAP.out u hG9) ?_
              rintro e u2 ⟨ga, ca, rfl, hoa, hba⟩
              exact ⟨_, rfl, _, rfl, ⟨_, _, rfl, own_low hoa hG9.size⟩, hba, fun h => by cases h⟩
            | 7, _ =>
              simp only [List.getElem?_toArray, List.getElem?_cons_zero, List.getElem?_cons_succ, Option.some.injEq] at ho
              subst ho
              exact ow_make0 rfl ⟨_, rfl, ⟨_, rfl, World.ownsRow_made (e := 9) (size := 1) u #[] 0 hG9.size (Nat.zero_le _) rfl⟩, (Below.refl _ _).alloc (Nat.le_refl _) _, fun h => by cases h⟩
            | 8, _ =>
              simp only [List.getElem?_toArray, List.getElem?_cons_zero, List.getElem?_cons_succ, Option.some.injEq] at ho
              subst ho
              exact ow_move rfl ((hk 6 (by decide)).trans rfl) ⟨_, rfl, rfl, Below.refl _ _, fun h => by cases h⟩
            | 9, _ =>
              simp only [List.getElem?_toArray, List.getElem?_cons_zero, List.getElem?_cons_succ, Option.some.injEq] at ho
              subst ho
              have e52 : a.eval (.tmp 52) = _ := hd 8 (by kernel_rfl) (by decide)
              refine ow_call #[.tmp 52] #[102] 64 Tryd.func64 (by kernel_rfl) (by rfl) rfl #[_] (by simp only [List.map_toArray, List.map_cons, List.map_nil, e52]) (HGS.out u hG9) ?_
              rintro e u2 ⟨gs, rfl, hrs, hbs⟩
              exact ⟨_, rfl, _, rfl, ⟨_, rfl, hrs⟩, hbs, fun h => by cases h⟩
            | 10, _ =>
              simp only [List.getElem?_toArray, List.getElem?_cons_zero, List.getElem?_cons_succ, Option.some.injEq] at ho
              subst ho
              obtain ⟨gm, em, hm⟩ := hd 7 (by kernel_rfl) (by decide)
              obtain ⟨gs, es, hrs⟩ := hd 9 (by kernel_rfl) (by decide)
              have e51 : a.eval (.tmp 51) = _ := em
              have e53 : a.eval (.tmp 53) = _ := es
              refine ow_append_empty (.tmp 51) (.tmp 53) 23 rfl w1.heap.size 9 ts (.string ⟨#[]⟩) 1 16 Tryd.underlying23 si sz0 sz1 sz2 rfl (by decide) gm e51 hm (some ⟨gs, 0, none⟩) V1.length V1.length e53 (fun h => by cases h) (strCells (V1.map said)) (by simp [strCells]) (row_news hrs) strCells_one (by unfold maxLen; omega) (by omega) hG9.size ?_
              intro g2 c2 u2 ho2 hb2
              exact ⟨_, rfl, ⟨_, _, rfl, ho2⟩, hb2, fun h => by cases h⟩
            | 11, _ =>
              simp only [List.getElem?_toArray, List.getElem?_cons_zero, List.getElem?_cons_succ, Option.some.injEq] at ho
              subst ho
              have e46 : a.eval (.tmp 46) = _ := hd 2 (by kernel_rfl) (by decide)
              obtain ⟨Aa, ca, ea, ha⟩ := hd 6 (by kernel_rfl) (by decide)
              obtain ⟨As, cs2, es, hs2⟩ := hd 10 (by kernel_rfl) (by decide)
              have e50 : a.eval (.tmp 50) = _ := ea
              have e54 : a.eval (.tmp 54) = _ := es
              exact ow_build_said (u := .nilIface) (v := .nilIface) (p := .nilIface) rfl e46 e50 e54 ⟨_, rfl, ⟨_, _, _, _, rfl, ha, hs2⟩, Below.refl _ _, fun h => by cases h⟩
            | 12, _ =>
              simp only [List.getElem?_toArray, List.getElem?_cons_zero, List.getElem?_cons_succ, Option.some.injEq] at ho
              subst ho
              obtain ⟨Aa, ca, As, cs2, eb, ha, hs2⟩ := hd 11 (by kernel_rfl) (by decide)
              have e55 : a.eval (.tmp 55) = _ := eb
              exact ow_one_said rfl e55 ⟨_, rfl, ⟨_, _, _, _, _, rfl, heap_alloc_new _ _, own_kept ha ((Below.refl _ _).alloc (Nat.le_refl _) _), own_kept hs2 ((Below.refl _ _).alloc (Nat.le_refl _) _)⟩, (Below.refl _ _).alloc (Nat.le_refl _) _, fun h => by cases h⟩
            | k + 13, hi => exact absurd hi (by omega)
          · intro x u hG hx hdif
            have hG9 : Below w1.heap.size w1 u := ((Below.refl _ _).drew).trans hG
            have e44 : x 0 = u7 := hx 0 (by decide)
            obtain ⟨gb, Aa, ca, As, cs2, e56, hgb, hoa, hos⟩ := hx 12 (by decide)
            simp only [putAll, Act.put, List.getD_cons_zero, List.getD_cons_succ, List.setIfInBounds_toArray, List.set_cons_succ, List.set_cons_zero]
            rw [e44, e56]
            refine wpAny_next (i := 13) (by kernel_rfl) rfl rfl ?_
            refine wp_append_own u (.tmp 44) (.tmp 56) 30 rfl w.heap.size 42 ti _ 3 56 Tryd.underlying30 hi hz0 hz1 hz2 rfl (by decide) u7 D.length cs rfl (own_kept HMD.out.own hG9) ⟨gb, 0, none⟩ 1 1 [.bool bad, .slice Aa V1.length ca, .slice As V1.length cs2] rfl rfl (World.news_of_block hgb) (by simp [Value.oneCell']) (by unfold maxLen; omega) (by omega) (Nat.le_trans hbw1.size hG9.size) ?_
            intro v2 w2 hown2 hgrow hat
            have HST2 := Lib.hid (HMD.out.next hG9 hoa hos hgrow hown2 rfl rfl rfl)
            clear hown2 hgrow hat hoa hos hgb hx hdif e44 e56
            refine wpAny_last (i := 14) (by kernel_rfl) rfl rfl (by kernel_rfl) ?_
            refine ow_assign rfl rfl ?_
            go_wp2
            go_roundw
            case rel => exact ⟨k + 1, V1, ch1, _, _, _, by omega, by go_num, HST2.out⟩
            case measure => simp [intOf]; omega
      · have HNT := HNT (by simpa using ht)
        have hq : x.act < 0 ∨ 2 < x.act := by
          have h := HTB.out
          have h2 : toldB x = false := by simpa using ht
          rw [h2] at h
          have := of_decide_eq_false h.symm
          omega
        have n0 : (x.act == 0) = false := by simp; omega
        have n1 : (x.act == 1) = false := by simp; omega
        have n2 : (x.act == 2) = false := by simp; omega
        have HAL := fun o => Lib.hid (HST.alloc o HNT.out (by have := HWT.out; omega))
        clear HST HNT HTB ht HO hq H8 HWT
        go_wp2
        go_roundw
        case rel => exact ⟨k + 1, V, ch, vv, D, cs, by omega, by go_num, (HAL _).out⟩
        case measure => simp [intOf]; omega
    · have HK : Hid (outs V0 false L = D) := by
        show _ = _
        have h := HST.eq
        rw [List.drop_eq_nil_of_le (by omega)] at h
        rw [← h]; simp [outs]
      have hrow := HST.rows
      have htx := HST.txs
      have hbel := HST.bel
      obtain ⟨A', c, rfl, hat⟩ := own_row HST.own
      clear HST
      go_wp2
      go_ret
      rw [HK.out]
      exact ⟨A', c, cs, rfl, hat, hrow, htx, hbel⟩
end Go.Proofs.YtdmpeecocfoocaaDoor.E
