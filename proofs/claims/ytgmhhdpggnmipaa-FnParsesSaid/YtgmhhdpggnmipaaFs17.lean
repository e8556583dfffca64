/- The closure of impl.Parse, over this seat's program. Written by gen_fs17.py. -/
import Derived.Test.YtgmhhdpggnmipaaFs16
import Derived.Defers
import Derived.Recover
import Derived.Tactics2
import Derived.Laws.Pointers
namespace Go.Proofs.Ytgmhhdpggnmipaa.E
open Go.RowKit Go.Proofs
open Go.Maps (Keyed)
set_option linter.unusedVariables false
set_option linter.unusedSimpArgs false

/-- A call of a Go function at a step of a region that draws: for go_region_law. -/
theorem step_call {P : Program} {w : World} {ops : Array Oper} {o : Oper} {a : Act} {K : Act → World → Prop} {Q : Exit → Act → World → Prop} {E : Prop} (hgd : o.guard = none) (args : Array Operand) (ts : Array TypeId) (F : Nat) {fn : Func} {c : Code} (hf : P.funcs[F]? = some fn) (hname : (fn.name == "runtime.NumGoroutine") = false) (hb : fn.body = some c)
    (ho : o.op = .call { callee := .value (.func F), args := args, argTypes := ts }) (vs : Array Value) (hx : args.map a.eval = vs) {R : Ending → World → Prop} (hc : Calls P F vs w R) (h : ∀ e w', R e w' → ∃ v, e = .returned v ∧ K (a.put o.dst v) w') : if Region.wanted o (yielded ops a.tmps) = true then Oper.wp P o a w K Q else E := by
  have hw : Region.wanted o (yielded ops a.tmps) = true := by simp [Region.wanted, hgd]
  rw [if_pos hw]
  have hF : a.eval (.func F) = .func (.func F) #[] #[] := rfl
  have hcf := call_enter9 (P := P) hf hname hb vs w
  unfold Oper.wp
  simp [execOp, ho, resolve, invoke, hx, hF, hcf, Deferred.ofValue]
  unfold Oper.upon
  refine hc.mono ?_
  intro e w' hr
  obtain ⟨v, rfl, hk⟩ := h e w' hr
  exact hk

/-- Below a frame that parsing keeps, old blocks stand. -/
theorem Fr.low_of {C : PC} {w w' : World} (h : Fr C w w') {b : Nat} {o : Obj} (hb : b < C.B) (hc : w.heap[b]? = some o) : w'.heap[b]? = some o := (h.low b hb (lt_of_block hc)).trans hc

/-! ### bounds of what parsing comes to -/
theorem goesN_len (S : SetP) (m : Option (List Txt)) : ∀ (n : Nat) (st : St) (L : List Txt), (goesN S m n st L).given.length ≤ st.given.length + wt L ∧ (goesN S m n st L).args.length ≤ st.args.length + L.length
  | 0, st, L => ⟨Nat.le_add_right _ _, Nat.le_add_right _ _⟩
  | _ + 1, st, [] => ⟨Nat.le_add_right _ _, Nat.le_add_right _ _⟩
  | n + 1, st, arg :: rest => by
    have hg := oneP_grow S m st arg rest
    have ha : (oneP S m st arg rest).1.args = st.args := by
      unfold oneP
      split
      · exact longP_args _ _ _ _ _
      · exact shortsP_args _ _ _ _ _ _
    have hw := wt_suf hg.2
    have hl := hg.2.length_le
    simp only [goesN, wt]
    split
    · split
      · simp
      · have ih := goesN_len S m n { st with args := st.args ++ [arg] } rest
        simp only [List.length_append, List.length_cons, List.length_nil] at ih ⊢
        omega
    · split
      · simp
      · split
        · have ih := goesN_len S m n (oneP S m st arg rest).1 (oneP S m st arg rest).2
          rw [ha] at ih
          simp only [List.length_cons] at ih ⊢
          omega
        · rw [ha]; simp only [List.length_cons]; omega
theorem goes_len (S : SetP) (m : Option (List Txt)) (st : St) (L : List Txt) : (goes S m st L).given.length ≤ st.given.length + wt L ∧ (goes S m st L).args.length ≤ st.args.length + L.length := goesN_len S m _ st L
/-- An error tells a flag of the set. -/
def FlagOk (S : SetP) (e : Er) : Prop := ∀ i n t v, e = .need i n t ∨ e = .invalid i v → i < S.flags.length
theorem named_lt {S : SetP} {t : Txt} {i : Nat} (h : named S t = some i) : i < S.flags.length := findIdx_lt h
theorem lettered_lt {S : SetP} {c : UInt8} {i : Nat} (h : lettered S c = some i) : i < S.flags.length := findIdx_lt h
theorem give_ok {S : SetP} {m : Option (List Txt)} {st : St} {i : Nat} {v : Txt} (hi : i < S.flags.length) (h : FlagOk S st.err) : FlagOk S (give S m st i v).err := by
  unfold give
  split
  · split
    · intro j n t u hj
      rcases hj with e | e
      · cases e
      · simp only [Er.invalid.injEq] at e; rw [← e.1]; exact hi
    · exact h
  · split
    · intro j n t u hj
      rcases hj with e | e <;> cases e
    · exact h
theorem ok_none {S : SetP} {e : Er} (h : ∀ i n t v, ¬ (e = .need i n t ∨ e = .invalid i v)) : FlagOk S e := fun i n t v hj => absurd hj (h i n t v)
theorem need_ok {S : SetP} {i : Nat} {n t : Txt} (hi : i < S.flags.length) : FlagOk S (.need i n t) := by
  intro j a b v hj
  rcases hj with e | e
  · simp only [Er.need.injEq] at e; rw [← e.1]; exact hi
  · cases e
theorem longP_ok {S : SetP} {m : Option (List Txt)} {st : St} {arg : Txt} {rest : List Txt} (h : FlagOk S st.err) : FlagOk S (longP S m st arg rest).1.err := by
  unfold longP
  simp only
  split
  · exact ok_none (by simp)
  · split
    · split
      · exact ok_none (by simp)
      · split
        · split <;> exact h
        · exact ok_none (by simp)
    · rename_i i hi
      have hi := named_lt hi
      split
      · exact give_ok hi h
      · split
        · exact give_ok hi h
        · split
          · exact need_ok hi
          · exact give_ok hi h
theorem shortP_ok {S : SetP} {m : Option (List Txt)} {st : St} {c : UInt8} {more : Txt} {rest : List Txt} (h : FlagOk S st.err) : FlagOk S (shortP S m st c more rest).1.err := by
  unfold shortP
  split
  · exact h
  · split
    · split
      · exact ok_none (by simp)
      · split
        · split <;> exact h
        · exact ok_none (by simp)
    · rename_i i hi
      have hi := lettered_lt hi
      split
      · exact give_ok hi h
      · split
        · exact give_ok hi h
        · split
          · exact give_ok hi h
          · split
            · exact need_ok hi
            · exact give_ok hi h
theorem shortsP_ok {S : SetP} {m : Option (List Txt)} {rest : List Txt} : ∀ (t : Txt) (st : St) (left : List Txt), FlagOk S st.err → FlagOk S (shortsP S m rest t st left).1.err
  | [], st, left, h => h
  | c :: more, st, left, h => by
    have h1 := shortP_ok (m := m) (c := c) (more := more) (rest := rest) h
    simp only [shortsP]
    split
    · split
      · exact h1
      · exact shortsP_ok more _ _ h1
    · exact h1
theorem goesN_ok {S : SetP} {m : Option (List Txt)} : ∀ (n : Nat) (st : St) (L : List Txt), FlagOk S st.err → FlagOk S (goesN S m n st L).err
  | 0, st, L, h => h
  | _ + 1, st, [], h => h
  | n + 1, st, arg :: rest, h => by
    have h1 : FlagOk S (oneP S m st arg rest).1.err := by
      unfold oneP
      split
      · exact longP_ok h
      · exact shortsP_ok _ _ _ h
    simp only [goesN]
    split
    · split
      · exact h
      · exact goesN_ok n _ rest h
    · split
      · exact h
      · split
        · exact goesN_ok n _ _ h1
        · exact h1
theorem goes_ok {S : SetP} {m : Option (List Txt)} {L : List Txt} : FlagOk S (goes S m st0 L).err := goesN_ok _ _ _ (ok_none (by simp [st0]))

theorem own_lower {w : World} {base base' : Nat} {e : TypeId} {size n : Nat} {v : Value} {xs : List Value} (h : w.ownsRow base e size v n xs) (hb : base' ≤ base) : w.ownsRow base' e size v n xs := by
  obtain ⟨h1, h2⟩ := h
  refine ⟨h1, ?_⟩
  rcases h2 with h2 | ⟨g, cap, cur, rfl, hg, r⟩
  · exact .inl h2
  · exact .inr ⟨g, cap, cur, rfl, Nat.le_trans hb hg, r⟩
theorem below_fr {C : PC} {w w1 w3 w4 : World} (hCB : C.B = w.heap.size) (h1 : Below w.heap.size w w1) (h2 : Fr C w1 w3) (h3 : Below w3.heap.size w3 w4) : Below w.heap.size w w4 :=
  ⟨h3.os.trans (h2.os.trans h1.os), h3.tape.trans (h2.tape.trans h1.tape), h3.output.trans (h2.output.trans h1.output), Nat.le_trans h1.size (Nat.le_trans h2.size h3.size),
    fun k hk => (h3.block k (Nat.lt_of_lt_of_le hk (Nat.le_trans h1.size h2.size))).trans ((h2.low k (by rw [hCB]; exact hk) (Nat.lt_of_lt_of_le hk h1.size)).trans (h1.block k hk))⟩
/-- The cells of what was heard. -/
def hdCells (s : PS) (er : Er) (n : Nat) (G A C : Value) : Array Value := #[.int .i64 (eNo er), .string (mkT (eName er)), .string (mkT (eShort er)), .string (mkT (eVal er)), .int .i64 (eFlag er), G, A, .int .i64 s.dash, C, .bool s.parsed, .bool false]
def hdZero : Array Value := #[.int .i64 0, .string ⟨#[]⟩, .string ⟨#[]⟩, .string ⟨#[]⟩, .int .i64 0, .slice none 0 0, .slice none 0 0, .int .i64 0, .slice none 0 0, .bool false, .bool false]
/-- The rows of what was heard, of the call's own. -/
def HdRows (B : Nat) (w : World) (s : PS) (n : Nat) (G A C : Value) : Prop :=
  w.ownsRow B 57 2 G s.G.length (gCells s.G) ∧ w.ownsRow B 9 1 A s.A.length (aCells s.A) ∧ w.ownsRow B 3 1 C (chL s.chg n).length (iCells (chL s.chg n))
theorem HdRows.mono {B B' : Nat} {w : World} {s : PS} {n : Nat} {G A C : Value} (h : HdRows B w s n G A C) (hb : B' ≤ B) : HdRows B' w s n G A C := ⟨own_lower h.1 hb, own_lower h.2.1 hb, own_lower h.2.2 hb⟩
theorem HdRows.blk {B : Nat} {w w' : World} {s : PS} {n : Nat} {G A C : Value} (h : HdRows B w s n G A C) (d : Nat) {cs : Array Value} {T : TypeId} {fr : Nat × Nat} (hd : w.heap[d]? = some (.cells cs T fr)) (h1 : T ≠ 57) (h2 : T ≠ 9) (h3 : T ≠ 3) (hb : ∀ b, b < w.heap.size → b ≠ d → w'.heap[b]? = w.heap[b]?) : HdRows B w' s n G A C :=
  ⟨own_of_blk h.1 fun g hg => hb g (h.1.lt g hg).2 (fun e => by subst e; exact own_far3 h.1 hd h1 hg), own_of_blk h.2.1 fun g hg => hb g (h.2.1.lt g hg).2 (fun e => by subst e; exact own_far3 h.2.1 hd h2 hg), own_of_blk h.2.2 fun g hg => hb g (h.2.2.lt g hg).2 (fun e => by subst e; exact own_far3 h.2.2 hd h3 hg)⟩
/-- What stands in a variable of what was heard, behind the stores of its eleven cells. -/
def hdPut (w : World) (d : Nat) (s : PS) (er : Er) (G A C : Value) : World :=
  ((((((((((w.setCell ⟨d, 0, none⟩ (.int .i64 (eNo er))).setCell ⟨d, 1, none⟩ (.string (mkT (eName er)))).setCell ⟨d, 2, none⟩ (.string (mkT (eShort er)))).setCell ⟨d, 3, none⟩ (.string (mkT (eVal er)))).setCell ⟨d, 4, none⟩ (.int .i64 (eFlag er))).setCell ⟨d, 5, none⟩ G).setCell ⟨d, 6, none⟩ A).setCell ⟨d, 7, none⟩ (.int .i64 s.dash)).setCell ⟨d, 8, none⟩ C).setCell ⟨d, 9, none⟩ (.bool s.parsed)).setCell ⟨d, 10, none⟩ (.bool false)
theorem hdPut_blk {w : World} {d : Nat} (s : PS) (er : Er) (n : Nat) (G A C : Value) (h : w.heap[d]? = some (.cells hdZero 32 (0, 0))) : (hdPut w d s er G A C).heap[d]? = some (.cells (hdCells s er n G A C) 32 (0, 0)) := by
  have b0 : _ = some (Obj.cells #[.int .i64 (eNo er), .string ⟨#[]⟩, .string ⟨#[]⟩, .string ⟨#[]⟩, .int .i64 0, .slice none 0 0, .slice none 0 0, .int .i64 0, .slice none 0 0, .bool false, .bool false] 32 (0, 0)) := blk_set h 0 (.int .i64 (eNo er))
  have b1 : _ = some (Obj.cells #[.int .i64 (eNo er), .string (mkT (eName er)), .string ⟨#[]⟩, .string ⟨#[]⟩, .int .i64 0, .slice none 0 0, .slice none 0 0, .int .i64 0, .slice none 0 0, .bool false, .bool false] 32 (0, 0)) := blk_set b0 1 (.string (mkT (eName er)))
  have b2 : _ = some (Obj.cells #[.int .i64 (eNo er), .string (mkT (eName er)), .string (mkT (eShort er)), .string ⟨#[]⟩, .int .i64 0, .slice none 0 0, .slice none 0 0, .int .i64 0, .slice none 0 0, .bool false, .bool false] 32 (0, 0)) := blk_set b1 2 (.string (mkT (eShort er)))
  have b3 : _ = some (Obj.cells #[.int .i64 (eNo er), .string (mkT (eName er)), .string (mkT (eShort er)), .string (mkT (eVal er)), .int .i64 0, .slice none 0 0, .slice none 0 0, .int .i64 0, .slice none 0 0, .bool false, .bool false] 32 (0, 0)) := blk_set b2 3 (.string (mkT (eVal er)))
  have b4 : _ = some (Obj.cells #[.int .i64 (eNo er), .string (mkT (eName er)), .string (mkT (eShort er)), .string (mkT (eVal er)), .int .i64 (eFlag er), .slice none 0 0, .slice none 0 0, .int .i64 0, .slice none 0 0, .bool false, .bool false] 32 (0, 0)) := blk_set b3 4 (.int .i64 (eFlag er))
  have b5 : _ = some (Obj.cells #[.int .i64 (eNo er), .string (mkT (eName er)), .string (mkT (eShort er)), .string (mkT (eVal er)), .int .i64 (eFlag er), G, .slice none 0 0, .int .i64 0, .slice none 0 0, .bool false, .bool false] 32 (0, 0)) := blk_set b4 5 G
  have b6 : _ = some (Obj.cells #[.int .i64 (eNo er), .string (mkT (eName er)), .string (mkT (eShort er)), .string (mkT (eVal er)), .int .i64 (eFlag er), G, A, .int .i64 0, .slice none 0 0, .bool false, .bool false] 32 (0, 0)) := blk_set b5 6 A
  have b7 : _ = some (Obj.cells #[.int .i64 (eNo er), .string (mkT (eName er)), .string (mkT (eShort er)), .string (mkT (eVal er)), .int .i64 (eFlag er), G, A, .int .i64 s.dash, .slice none 0 0, .bool false, .bool false] 32 (0, 0)) := blk_set b6 7 (.int .i64 s.dash)
  have b8 : _ = some (Obj.cells #[.int .i64 (eNo er), .string (mkT (eName er)), .string (mkT (eShort er)), .string (mkT (eVal er)), .int .i64 (eFlag er), G, A, .int .i64 s.dash, C, .bool false, .bool false] 32 (0, 0)) := blk_set b7 8 C
  have b9 : _ = some (Obj.cells #[.int .i64 (eNo er), .string (mkT (eName er)), .string (mkT (eShort er)), .string (mkT (eVal er)), .int .i64 (eFlag er), G, A, .int .i64 s.dash, C, .bool s.parsed, .bool false] 32 (0, 0)) := blk_set b8 9 (.bool s.parsed)
  exact blk_set b9 10 (.bool false)
theorem hdPut_other {w : World} {d : Nat} (s : PS) (er : Er) (G A C : Value) {b : Nat} (ne : b ≠ d) : (hdPut w d s er G A C).heap[b]? = w.heap[b]? :=
  (blk_other ne).trans ((blk_other ne).trans ((blk_other ne).trans ((blk_other ne).trans ((blk_other ne).trans ((blk_other ne).trans ((blk_other ne).trans ((blk_other ne).trans ((blk_other ne).trans ((blk_other ne).trans (blk_other ne))))))))))
theorem hdPut_ch {w0 w : World} {d : Nat} (s : PS) (er : Er) (G A C : Value) (h : Ch w0 w (fun b => b = d)) : Ch w0 (hdPut w d s er G A C) (fun b => b = d) :=
  ((((((((((h.set _ _ (fun _ => rfl)).set _ _ (fun _ => rfl)).set _ _ (fun _ => rfl)).set _ _ (fun _ => rfl)).set _ _ (fun _ => rfl)).set _ _ (fun _ => rfl)).set _ _ (fun _ => rfl)).set _ _ (fun _ => rfl)).set _ _ (fun _ => rfl)).set _ _ (fun _ => rfl)).set _ _ (fun _ => rfl)
/-- A call that leaves what was heard in a variable. -/
def PutEnd (B d : Nat) (w : World) (s : PS) (er : Er) (n : Nat) (w' : World) : Prop :=
  ∃ GA gc AA ac CA cc, w'.heap[d]? = some (.cells (hdCells s er n (.slice GA s.G.length gc) (.slice AA s.A.length ac) (.slice CA (chL s.chg n).length cc)) 32 (0, 0)) ∧
    HdRows B w' s n (.slice GA s.G.length gc) (.slice AA s.A.length ac) (.slice CA (chL s.chg n).length cc) ∧ Ch w w' (fun b => b = d)
theorem PutEnd.of {B B' d : Nat} {w w4 : World} {s : PS} {er : Er} {n : Nat} {GA AA CA : Option Addr} {gc ac cc : Nat} (hd : w4.heap[d]? = some (.cells hdZero 32 (0, 0))) (hr : HdRows B' w4 s n (.slice GA s.G.length gc) (.slice AA s.A.length ac) (.slice CA (chL s.chg n).length cc)) (hB : B ≤ B') (hc : Below w.heap.size w w4) :
    PutEnd B d w s er n (hdPut w4 d s er (.slice GA s.G.length gc) (.slice AA s.A.length ac) (.slice CA (chL s.chg n).length cc)) :=
  ⟨GA, gc, AA, ac, CA, cc, hdPut_blk s er n _ _ _ hd, (hr.mono hB).blk d hd (by decide) (by decide) (by decide) (fun b _ ne => hdPut_other s er _ _ _ ne), hdPut_ch s er _ _ _ (Ch.of_below hc _)⟩

set_option maxRecDepth 100000 in
set_option maxHeartbeats 3200000 in
theorem pclos_any (S : SetP) (hR : Right S) (A : Option Addr) (cap : Nat) (L : List Txt) (Ar : Option Addr) (cr a b d : Nat) (w : World) (hx : StrsAt w Ar (L.map mkT)) (hxc : L.length ≤ cr) (hxm : cr ≤ 9223372036854775807) (hx0 : Ar = none → cr = 0) (hxb : ∀ q, Ar = some q → q.block < w.heap.size) (hwt : wt L ≤ 1099511627776) (hls : ∀ t ∈ L, t.length ≤ 8589934592) (hA : FlagsAt w A S.flags) (hlow : LowBad w A S.flags w.heap.size) (hn : S.flags.length ≤ 17179869184) (hsz : ∀ i (h : i < S.flags.length), (S.flags[i].name).length ≤ 17179869184)
    (ha : w.heap[a]? = some (.cells #[.slice A S.flags.length cap, .bool S.plain, .bool S.unknown, .int .i64 S.fold] 24 (0, 0)))
    (hb : w.heap[b]? = some (.cells #[.slice Ar L.length cr] 25 (0, 0)))
    (hd : w.heap[d]? = some (.cells #[.int .i64 0, .string ⟨#[]⟩, .string ⟨#[]⟩, .string ⟨#[]⟩, .int .i64 0, .slice none 0 0, .slice none 0 0, .int .i64 0, .slice none 0 0, .bool false, .bool false] 32 (0, 0))) :
    Calls Try.prog 57 #[.pointer (some ⟨a, 0, none⟩), .pointer (some ⟨b, 0, none⟩), .pointer (some ⟨d, 0, none⟩)] w fun e w' => e = .returned (.tuple #[]) ∧ PutEnd w.heap.size d w (psOf none true (goes S none st0 L)) (goes S none st0 L).err S.flags.length w' := by
  have hgn : (goes S none st0 L).given.length ≤ 1099511627776 := by have h9 : _ ≤ ([] : List (Nat × Txt)).length + wt L := (goes_len S none st0 L).1; rw [List.length_nil] at h9; omega
  have hga : (goes S none st0 L).args.length ≤ 1099511627776 := by have h9 : _ ≤ ([] : List Txt).length + L.length := (goes_len S none st0 L).2; have h8 := wt_len L; rw [List.length_nil] at h9; omega
  have hgi : FlagOk S (goes S none st0 L).err := goes_ok
  have a0 : w.cell? ⟨a, 0, none⟩ = some (.slice A S.flags.length cap) := (cell_blk ha 0).trans rfl
  have a1 : w.cell? ⟨a, 1, none⟩ = some (.bool S.plain) := (cell_blk ha 1).trans rfl
  have a2 : w.cell? ⟨a, 2, none⟩ = some (.bool S.unknown) := (cell_blk ha 2).trans rfl
  have a3 : w.cell? ⟨a, 3, none⟩ = some (.int .i64 S.fold) := (cell_blk ha 3).trans rfl
  have HM := Lib.hid (made_any S hR A cap w hA hlow hn hsz)
  have HSZ := Lib.hid hsz
  clear hA hlow hsz
  go_enter Try.func57, Try.ntmps57
  go_upto_region 1 with (go_at_call 48; refine (HM.out).mono ?_; rintro e w1 ⟨C, V, hCS, hCB, rfl, hpm, hbel⟩)
  subst hCS
  have HR1 : Hid (RestAt C w1 (.slice Ar L.length cr) L) := by
    refine RestAt.below (w := w) ⟨Ar, cr, rfl, hx, hxc, hxm, hx0, ?_⟩ hbel
    rw [hCB]; exact hxb
  have HPA := Lib.hid (fun (W : World) (hb : Below w1.heap.size w1 W) => parse_any C hR V false st0 L (.slice Ar L.length cr) W (hpm.below hb) HSZ.out (by show 0 + wt L ≤ _; omega) rfl (HR1.out.below hb) hls)
  have HHE := Lib.hid (fun (V3 : PV) (E : Value) (W : World) (hp3 : Pm W C V3 (psOf none true (goes C.S none st0 L))) (he3 : ErrAt C W E (goes C.S none st0 L).err) => heard_any C V3 _ _ E W hp3 he3 hgi hn hgn hga)
  have k0 : w1.cell? ⟨C.Wb, 0, none⟩ = some (.pointer (some ⟨C.F, 0, none⟩)) := (cell_blk hpm.hW 0).trans rfl
  have hb1 := block_kept hb hbel
  have kb : w1.cell? ⟨b, 0, none⟩ = some (.slice Ar L.length cr) := (cell_blk hb1 0).trans rfl
  have hd1 := block_kept hd hbel
  have HB1 := Lib.hid hb1
  have HD1 := Lib.hid hd1
  have hlb : b < C.B := by rw [hCB]; exact lt_of_block hb
  have hld : d < C.B := by rw [hCB]; exact lt_of_block hd
  have HPM := Lib.hid hpm
  have HBL := Lib.hid hbel
  have hne2 : b ≠ d := blk_ne hb hd (by simp)
  have hne1 : C.Wb ≠ d := by have := hpm.low.2.2.1; omega
  clear hpm hbel hb hd hb1 hd1 ha hx hxb hgi hls
  go_region_law (first
      | (refine step_call (by rfl) #[.tmp 10, .tmp 11] #[87, 25] 58 Try.func58 (by kernel_rfl) (by rfl) (by rfl) #[.pointer (some ⟨C.F, 0, none⟩), .slice Ar L.length cr] (by simp [Act.eval]) (HPA.out _ ((Below.refl _ _).drew)) ?_; rintro e w3 ⟨E, V3, rfl, hp3, he3, hf3⟩; refine ⟨_, rfl, ?_⟩; have l0 : w3.cell? ⟨C.Wb, 0, none⟩ = some (.pointer (some ⟨C.F, 0, none⟩)) := (cell_blk hp3.hW 0).trans rfl; have l1 : w3.cell? ⟨b, 0, none⟩ = some (.slice Ar L.length cr) := (cell_blk (hf3.low_of hlb HB1.out) 0).trans rfl; have hd3 := hf3.low_of hld HD1.out; have HD3 := Lib.hid hd3; have HP3 := Lib.hid hp3; have HE3 := Lib.hid he3; have HF3 := Lib.hid hf3; clear hp3 he3 hf3 hd3)
      | (refine step_call (by rfl) #[.tmp 6, .tmp 12, .const (.int .i64 0)] #[82, 85, 3] 51 Try.func51 (by kernel_rfl) (by rfl) (by rfl) #[.pointer (some ⟨C.Wb, 0, none⟩), E, .int .i64 0] (by simp [Act.eval]) (HHE.out V3 E w3 HP3.out HE3.out) ?_; rintro e w4 ⟨v4, rfl, hv4, hb4⟩; refine ⟨_, rfl, ?_⟩; obtain ⟨GA, gc, AA, ac, CA, cc, rfl, o1, o2, o3⟩ := hv4; have m0 := cell_kept hb4 l0; have m1 := cell_kept hb4 l1; have hd4 := block_kept HD3.out hb4; have z4 := free_blk hd4; have l4 := lt_of_block hd4; have n0 : w4.cell? ⟨d, 0, none⟩ = some (.int .i64 0) := (cell_blk hd4 0).trans rfl; have n1 : w4.cell? ⟨d, 1, none⟩ = some (.string ⟨#[]⟩) := (cell_blk hd4 1).trans rfl; have n2 : w4.cell? ⟨d, 2, none⟩ = some (.string ⟨#[]⟩) := (cell_blk hd4 2).trans rfl; have n3 : w4.cell? ⟨d, 3, none⟩ = some (.string ⟨#[]⟩) := (cell_blk hd4 3).trans rfl; have n4 : w4.cell? ⟨d, 4, none⟩ = some (.int .i64 0) := (cell_blk hd4 4).trans rfl; have n5 : w4.cell? ⟨d, 5, none⟩ = some (.slice none 0 0) := (cell_blk hd4 5).trans rfl; have n6 : w4.cell? ⟨d, 6, none⟩ = some (.slice none 0 0) := (cell_blk hd4 6).trans rfl; have n7 : w4.cell? ⟨d, 7, none⟩ = some (.int .i64 0) := (cell_blk hd4 7).trans rfl; have n8 : w4.cell? ⟨d, 8, none⟩ = some (.slice none 0 0) := (cell_blk hd4 8).trans rfl; have n9 : w4.cell? ⟨d, 9, none⟩ = some (.bool false) := (cell_blk hd4 9).trans rfl; have n10 : w4.cell? ⟨d, 10, none⟩ = some (.bool false) := (cell_blk hd4 10).trans rfl; have HD4 := Lib.hid hd4; have HO := Lib.hid (And.intro o1 (And.intro o2 o3)); have HB4 := Lib.hid hb4; clear hd4 o1 o2 o3 hb4))
  all_goals
    go_end0
    refine ⟨rfl, ?_⟩
    exact PutEnd.of HD4.out HO.out (Nat.le_trans HBL.out.size HF3.out.size) (below_fr hCB HBL.out ((Fr.of_below ((Below.refl _ _).drew)).trans HF3.out) HB4.out)

/-- The deferred closure where nothing panics. -/
theorem catch_idle (p : Addr) (w : World) :
    CallsD Try.prog 70 #[.pointer (some p)] .returning w fun e u' w' => e = .returned (.tuple #[]) ∧ u' = .returning ∧ w' = w := by
  refine callsD_of_wpS Try.func70 rfl fun c₀ cs hu => ?_
  apply wpS_seq
  apply wpS_region
  simp [wpOpsS, go_sem, recoverD, hu, Try.ntmps70, Exit.thenS]
  refine wpS_cond (t := false) (by simp [Act.eval, Array.replicate]) ?_
  simp only [Bool.false_eq_true, if_false]
  refine wpS_of_wp (wp_skip ?_)
  cases c₀
  simp_all [bodyPostS, results, Try.results70]

set_option maxRecDepth 100000 in
/-- impl.guarded over the closure of pub-ensign/impl.Parse$1, where nothing panics. -/
theorem guarded_parse (ca : Array Value) (X : Nat → Prop) (R : World → Prop) (w : World) (hX : ¬ X w.heap.size)
    (H0 : Calls Try.prog 57 ca (w.alloc (.cells #[.bool false] 4)) fun e w' => e = .returned (.tuple #[]) ∧ Ch (w.alloc (.cells #[.bool false] 4)) w' X ∧ R w') :
    Calls Try.prog 46 #[.func (.func 57) #[] ca] w fun e w' => e = .returned (.bool false) ∧ ∃ w1, Ch (w.alloc (.cells #[.bool false] 4)) w1 X ∧ R w1 ∧ w' = w1.setCell ⟨w.heap.size, 0, none⟩ (.bool false) := by
  have hmf : ∀ (fn : Fn) (first cap : Array Value) (w : World), (Instr.makeFunc fn first cap).run Try.prog w = .ok (.func fn first cap) w := fun _ _ _ _ => rfl
  have H := Lib.hid H0
  clear H0
  go_enter_defers Try.func46, Try.ntmps46
  go_wp2_with (go_at_call 57; refine (H.out).mono ?_; rintro e w1 ⟨rfl, hb1, hr1⟩; have hk1 : w1.heap[w.heap.size]? = some (.cells #[.bool false] 4 (0, 0)) := (hb1.block w.heap.size (by simp) hX).trans (heap_alloc_new w _); have hk3 := cell_of_one hk1; have hk4 := free_of_one hk1; have HR := Lib.hid (And.intro hb1 hr1); clear hb1 hr1)
  refine leaves_cons (f := 70) (args := #[.pointer (some ⟨w.heap.size, 0, none⟩)]) (by simp) (by simp [go_sem]) ?_
  refine (catch_idle ⟨w.heap.size, 0, none⟩ _).mono ?_
  rintro e u' w'' ⟨rfl, rfl, rfl⟩
  have hk5 : (w1.setCell ⟨w.heap.size, 0, none⟩ (.bool false)).cell? ⟨w.heap.size, 0, none⟩ = some (.bool false) := cell_of_one (one_setCell hk1)
  simp [Leaves, settle, results, Try.results46, go_sem, hk5]
  exact ⟨w1, HR.out.1, HR.out.2, rfl⟩

theorem LowBad.below {w w' : World} {A : Option Addr} {L : List FlagP} {B : Nat} (h : LowBad w A L B) (hA : FlagsAt w A L) (hb : Below w.heap.size w w') : LowBad w' A L B := by
  intro i hi b o v hAe hc
  obtain ⟨b1, o1, v1, e, _, _, _, c3, _⟩ := hA i hi
  rw [hAe] at e
  cases e
  have hk := cell_kept hb c3
  rw [hk] at hc
  obtain rfl := Option.some.inj hc
  exact h i hi _ _ _ hAe c3
theorem LowBad.mono {w : World} {A : Option Addr} {L : List FlagP} {B B' : Nat} (h : LowBad w A L B) (hb : B ≤ B') : LowBad w A L B' := fun i hi b o v hA hc A' n c hv h0 => Nat.lt_of_lt_of_le (h i hi b o v hA hc A' n c hv h0) hb
/-- What a call that tells what was heard leaves. -/
def HearEnd (w : World) (s : PS) (er : Er) (n : Nat) (e : Ending) (w' : World) : Prop :=
  ∃ GA gc AA ac CA cc, e = .returned (.agg (hdCells s er n (.slice GA s.G.length gc) (.slice AA s.A.length ac) (.slice CA (chL s.chg n).length cc))) ∧ HdRows w.heap.size w' s n (.slice GA s.G.length gc) (.slice AA s.A.length ac) (.slice CA (chL s.chg n).length cc) ∧ Below w.heap.size w w'
theorem four_at (w : World) (o1 o2 o3 o4 : Obj) : ((((w.alloc o1).alloc o2).alloc o3).alloc o4).heap[w.heap.size]? = some o1 ∧ ((((w.alloc o1).alloc o2).alloc o3).alloc o4).heap[w.heap.size + 1]? = some o2 ∧ ((((w.alloc o1).alloc o2).alloc o3).alloc o4).heap[w.heap.size + 1 + 1]? = some o3 ∧ ((((w.alloc o1).alloc o2).alloc o3).alloc o4).heap[w.heap.size + 1 + 1 + 1]? = some o4 := by
  have s1 : (w.alloc o1).heap.size = w.heap.size + 1 := by simp
  have s2 : ((w.alloc o1).alloc o2).heap.size = w.heap.size + 1 + 1 := by simp
  have s3 : (((w.alloc o1).alloc o2).alloc o3).heap.size = w.heap.size + 1 + 1 + 1 := by simp
  refine ⟨?_, ?_, ?_, ?_⟩
  · rw [Below.heap_alloc _ _ _ (by omega), Below.heap_alloc _ _ _ (by omega), Below.heap_alloc _ _ _ (by omega)]; exact heap_alloc_new w o1
  · rw [Below.heap_alloc _ _ _ (by omega), Below.heap_alloc _ _ _ (by omega), ← s1]; exact heap_alloc_new (w.alloc o1) o2
  · rw [Below.heap_alloc _ _ _ (by omega), ← s2]; exact heap_alloc_new _ o3
  · rw [← s3]; exact heap_alloc_new _ o4
theorem below_ch {w w1 W : World} {X : Nat → Prop} (hb : Below w.heap.size w W) (hc : Ch W w1 X) (hx : ∀ b, b < w.heap.size → ¬ X b) : Below w.heap.size w w1 := hb.trans (hc.below hb.size hx)

theorem parse_after {w W4 w1 : World} {s : PS} {er : Er} {n : Nat} {GA AA CA : Option Addr} {gc ac cc : Nat} (hs : W4.heap.size = w.heap.size + 1 + 1 + 1 + 1) (hb : Below w.heap.size w W4) (q3 : W4.heap[w.heap.size + 1 + 1]? = some (.cells hdZero 32 (0, 0)))
    (hch : Ch (W4.alloc (.cells #[.bool false] 4)) w1 (fun b => b = w.heap.size + 1 + 1 + 1))
    (h1 : w1.heap[w.heap.size + 1 + 1 + 1]? = some (.cells (hdCells s er n (.slice GA s.G.length gc) (.slice AA s.A.length ac) (.slice CA (chL s.chg n).length cc)) 32 (0, 0)))
    (h2 : HdRows (w.heap.size + 1 + 1 + 1 + 1) w1 s n (.slice GA s.G.length gc) (.slice AA s.A.length ac) (.slice CA (chL s.chg n).length cc)) :
    (w1.setCell ⟨W4.heap.size, 0, none⟩ (.bool false)).heap[w.heap.size + 1 + 1]? = some (.cells hdZero 32 (0, 0)) ∧
    (w1.setCell ⟨W4.heap.size, 0, none⟩ (.bool false)).heap[w.heap.size + 1 + 1 + 1]? = some (.cells (hdCells s er n (.slice GA s.G.length gc) (.slice AA s.A.length ac) (.slice CA (chL s.chg n).length cc)) 32 (0, 0)) ∧
    HdRows w.heap.size (w1.setCell ⟨W4.heap.size, 0, none⟩ (.bool false)) s n (.slice GA s.G.length gc) (.slice AA s.A.length ac) (.slice CA (chL s.chg n).length cc) ∧
    Below w.heap.size w (w1.setCell ⟨W4.heap.size, 0, none⟩ (.bool false)) := by
  have hl : W4.heap.size < (W4.alloc (.cells #[.bool false] 4)).heap.size := by simp
  have hbx : w1.heap[W4.heap.size]? = some (.cells #[.bool false] 4 (0, 0)) := (hch.block W4.heap.size hl (by omega)).trans (heap_alloc_new W4 _)
  have h45 : Below W4.heap.size W4 (W4.alloc (.cells #[.bool false] 4)) := (Below.refl _ _).alloc (Nat.le_refl _) _
  refine ⟨?_, ?_, ?_, ?_⟩
  · rw [blk_other (show w.heap.size + 1 + 1 ≠ W4.heap.size by omega), hch.block _ (by omega) (by omega)]
    exact block_kept q3 h45
  · rw [blk_other (show w.heap.size + 1 + 1 + 1 ≠ W4.heap.size by omega)]; exact h1
  · exact (h2.mono (by omega)).blk W4.heap.size hbx (by decide) (by decide) (by decide) (fun b _ ne => blk_other ne)
  · refine Below.setCell (p := ⟨W4.heap.size, 0, none⟩) ?_ (by show w.heap.size ≤ W4.heap.size; omega) _
    exact below_ch (hb.trans (h45.mono (by omega))) hch (fun b hlt => by omega)
/-- Reading the variable of what was heard, cell by cell. -/
theorem hd_reads {w : World} {d : Nat} {s : PS} {er : Er} {n : Nat} {G A C : Value} (h : w.heap[d]? = some (.cells (hdCells s er n G A C) 32 (0, 0))) :
    w.cell? ⟨d, 0, none⟩ = some (.int .i64 (eNo er)) ∧ w.cell? ⟨d, 1, none⟩ = some (.string (mkT (eName er))) ∧ w.cell? ⟨d, 2, none⟩ = some (.string (mkT (eShort er))) ∧ w.cell? ⟨d, 3, none⟩ = some (.string (mkT (eVal er))) ∧ w.cell? ⟨d, 4, none⟩ = some (.int .i64 (eFlag er)) ∧ w.cell? ⟨d, 5, none⟩ = some G ∧ w.cell? ⟨d, 6, none⟩ = some A ∧ w.cell? ⟨d, 7, none⟩ = some (.int .i64 s.dash) ∧ w.cell? ⟨d, 8, none⟩ = some C ∧ w.cell? ⟨d, 9, none⟩ = some (.bool s.parsed) ∧ w.cell? ⟨d, 10, none⟩ = some (.bool false) :=
  ⟨(cell_blk h 0).trans rfl, (cell_blk h 1).trans rfl, (cell_blk h 2).trans rfl, (cell_blk h 3).trans rfl, (cell_blk h 4).trans rfl, (cell_blk h 5).trans rfl, (cell_blk h 6).trans rfl, (cell_blk h 7).trans rfl, (cell_blk h 8).trans rfl, (cell_blk h 9).trans rfl, (cell_blk h 10).trans rfl⟩
theorem hd_zeros {w : World} {d : Nat} (h : w.heap[d]? = some (.cells hdZero 32 (0, 0))) :
    w.cell? ⟨d, 0, none⟩ = some (.int .i64 0) ∧ w.cell? ⟨d, 1, none⟩ = some (.string ⟨#[]⟩) ∧ w.cell? ⟨d, 2, none⟩ = some (.string ⟨#[]⟩) ∧ w.cell? ⟨d, 3, none⟩ = some (.string ⟨#[]⟩) ∧ w.cell? ⟨d, 4, none⟩ = some (.int .i64 0) ∧ w.cell? ⟨d, 5, none⟩ = some (.slice none 0 0) ∧ w.cell? ⟨d, 6, none⟩ = some (.slice none 0 0) ∧ w.cell? ⟨d, 7, none⟩ = some (.int .i64 0) ∧ w.cell? ⟨d, 8, none⟩ = some (.slice none 0 0) ∧ w.cell? ⟨d, 9, none⟩ = some (.bool false) ∧ w.cell? ⟨d, 10, none⟩ = some (.bool false) :=
  ⟨(cell_blk h 0).trans rfl, (cell_blk h 1).trans rfl, (cell_blk h 2).trans rfl, (cell_blk h 3).trans rfl, (cell_blk h 4).trans rfl, (cell_blk h 5).trans rfl, (cell_blk h 6).trans rfl, (cell_blk h 7).trans rfl, (cell_blk h 8).trans rfl, (cell_blk h 9).trans rfl, (cell_blk h 10).trans rfl⟩
theorem hdPut_below {B : Nat} {w0 w : World} {d : Nat} (s : PS) (er : Er) (G A C : Value) (h : Below B w0 w) (hd : B ≤ d) : Below B w0 (hdPut w d s er G A C) :=
  ((((((((((h.setCell (p := ⟨d, 0, none⟩) hd _).setCell (p := ⟨d, 1, none⟩) hd _).setCell (p := ⟨d, 2, none⟩) hd _).setCell (p := ⟨d, 3, none⟩) hd _).setCell (p := ⟨d, 4, none⟩) hd _).setCell (p := ⟨d, 5, none⟩) hd _).setCell (p := ⟨d, 6, none⟩) hd _).setCell (p := ⟨d, 7, none⟩) hd _).setCell (p := ⟨d, 8, none⟩) hd _).setCell (p := ⟨d, 9, none⟩) hd _).setCell (p := ⟨d, 10, none⟩) hd _

set_option maxRecDepth 100000 in
set_option maxHeartbeats 1600000 in
theorem implParse_any (S : SetP) (hR : Right S) (A : Option Addr) (cap : Nat) (L : List Txt) (Ar : Option Addr) (cr : Nat) (w : World) (hx : StrsAt w Ar (L.map mkT)) (hxc : L.length ≤ cr) (hxm : cr ≤ 9223372036854775807) (hx0 : Ar = none → cr = 0) (hxb : ∀ q, Ar = some q → q.block < w.heap.size) (hwt : wt L ≤ 1099511627776) (hls : ∀ t ∈ L, t.length ≤ 8589934592) (hA : FlagsAt w A S.flags) (hlow : LowBad w A S.flags w.heap.size) (hn : S.flags.length ≤ 17179869184) (hsz : ∀ i (h : i < S.flags.length), (S.flags[i].name).length ≤ 17179869184) :
    Calls Try.prog 26 #[.agg #[.slice A S.flags.length cap, .bool S.plain, .bool S.unknown, .int .i64 S.fold], .slice Ar L.length cr] w (HearEnd w (psOf none true (goes S none st0 L)) (goes S none st0 L).err S.flags.length) := by
  have hmf : ∀ (fn : Fn) (first cap : Array Value) (w : World), (Instr.makeFunc fn first cap).run Try.prog w = .ok (.func fn first cap) w := fun _ _ _ _ => rfl
  obtain ⟨q1, q2, q3, q4⟩ := four_at w (.cells #[.slice A S.flags.length cap, .bool S.plain, .bool S.unknown, .int .i64 S.fold] 24) (.cells #[.slice Ar L.length cr] 25) (.cells hdZero 32) (.cells hdZero 32)
  generalize hW4 : ((((w.alloc (.cells #[.slice A S.flags.length cap, .bool S.plain, .bool S.unknown, .int .i64 S.fold] 24)).alloc (.cells #[.slice Ar L.length cr] 25)).alloc (.cells hdZero 32)).alloc (.cells hdZero 32)) = W4 at q1 q2 q3 q4
  have hs4 : W4.heap.size = w.heap.size + 1 + 1 + 1 + 1 := by rw [← hW4]; simp
  have hb4 : Below w.heap.size w W4 := by rw [← hW4]; exact (((Below.refl _ w).alloc (Nat.le_refl _) _).alloc (by simp) _).alloc (by simp; omega) _ |>.alloc (by simp; omega) _
  have h45 : Below W4.heap.size W4 (W4.alloc (.cells #[.bool false] 4)) := (Below.refl _ _).alloc (Nat.le_refl _) _
  have hb5 : Below w.heap.size w (W4.alloc (.cells #[.bool false] 4)) := hb4.trans (h45.mono hb4.size)
  have hpc := pclos_any S hR A cap L Ar cr w.heap.size (w.heap.size + 1) (w.heap.size + 1 + 1 + 1) (W4.alloc (.cells #[.bool false] 4)) (strsAt_below hx hb5) hxc hxm hx0 (fun q hq => Nat.lt_of_lt_of_le (hxb q hq) hb5.size) hwt hls (hA.below hb5) ((hlow.below hA hb5).mono hb5.size) hn hsz (block_kept q1 h45) (block_kept q2 h45) (block_kept q4 h45)
  have hgu := guarded_parse #[.pointer (some ⟨w.heap.size, 0, none⟩), .pointer (some ⟨w.heap.size + 1, 0, none⟩), .pointer (some ⟨w.heap.size + 1 + 1 + 1, 0, none⟩)] (fun b => b = w.heap.size + 1 + 1 + 1)
    (fun w1 => ∃ GA gc AA ac CA cc, w1.heap[w.heap.size + 1 + 1 + 1]? = some (.cells (hdCells (psOf none true (goes S none st0 L)) (goes S none st0 L).err S.flags.length (.slice GA (psOf none true (goes S none st0 L)).G.length gc) (.slice AA (psOf none true (goes S none st0 L)).A.length ac) (.slice CA (chL (psOf none true (goes S none st0 L)).chg S.flags.length).length cc)) 32 (0, 0)) ∧
      HdRows (w.heap.size + 1 + 1 + 1 + 1) w1 (psOf none true (goes S none st0 L)) S.flags.length (.slice GA (psOf none true (goes S none st0 L)).G.length gc) (.slice AA (psOf none true (goes S none st0 L)).A.length ac) (.slice CA (chL (psOf none true (goes S none st0 L)).chg S.flags.length).length cc)) W4 (by rw [hs4]; omega)
    (hpc.mono fun e w' ⟨he, GA, gc, AA, ac, CA, cc, h1, h2, h3⟩ => ⟨he, h3, GA, gc, AA, ac, CA, cc, h1, h2.mono (by simp [hs4])⟩)
  have HG := Lib.hid hgu
  have HB4 := Lib.hid hb4
  have HS4 := Lib.hid hs4
  have HQ3 := Lib.hid q3
  generalize (goes S none st0 L).err = er at HG ⊢
  generalize psOf none true (goes S none st0 L) = s at HG ⊢
  unfold hdZero at hW4
  clear hgu hpc hb5 h45 hb4 q1 q2 q3 q4 hx hxc hxm hx0 hxb hwt hls hA hlow hn hsz hR hs4
  go_enter Try.func26, Try.ntmps26
  go_wp2_with (go_at_call 46; (first | rw [hW4] | skip); refine (HG.out).mono ?_; rintro e w2 ⟨rfl, w1, hch, ⟨GA, gc, AA, ac, CA, cc, h1, h2⟩, rfl⟩; obtain ⟨t1, t2, t3, t4⟩ := parse_after HS4.out HB4.out HQ3.out hch h1 h2; clear hch h1 h2; generalize (w1.setCell ⟨W4.heap.size, 0, none⟩ (.bool false)) = w2 at t1 t2 t3 t4 ⊢; obtain ⟨c0, c1, c2, c3, c4, c5, c6, c7, c8, c9, c10⟩ := hd_reads t2; obtain ⟨z0, z1, z2, z3, z4, z5, z6, z7, z8, z9, z10⟩ := hd_zeros t1; have zf := free_blk t1; have zl := lt_of_block t1; have H1 := Lib.hid t1; have H3 := Lib.hid t3; have H4 := Lib.hid t4; clear t1 t2 t3 t4)
  refine bodyPost_ret (results_cell_row rfl _ _ (w.heap.size + 1 + 1) 32 (hdCells s er S.flags.length (.slice GA s.G.length gc) (.slice AA s.A.length ac) (.slice CA (chL s.chg S.flags.length).length cc)) (0, 0) _ rfl (hdPut_blk s er S.flags.length _ _ _ H1.out) Try.underlying32 rfl (by kernel_rfl)) rfl ⟨GA, gc, AA, ac, CA, cc, rfl, H3.out.blk (w.heap.size + 1 + 1) H1.out (by decide) (by decide) (by decide) (fun b _ ne => hdPut_other s er _ _ _ ne), hdPut_below s er _ _ _ H4.out (by omega)⟩
end Go.Proofs.Ytgmhhdpggnmipaa.E
