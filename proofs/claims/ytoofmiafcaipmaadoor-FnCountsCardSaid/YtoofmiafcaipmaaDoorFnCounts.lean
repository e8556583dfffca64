/- For every number and list of texts laws.FnCounts returns true, and they read behind the call as before it. The row lists five variables of Go's library with what the text lays; no other condition. -/
import Derived.Test.YtoofmiafcaipmaaDoorCards
import Derived.Test.YtoofmiafcaipmaaDoorTie
import Derived.Test.YtoofmiafcaipmaaDoorRow
import Derived.Test.YtoofmiafcaipmaaDoorCountsW
import Derived.Deep.DeepHandedRow
import Derived.Deep.DeepWitnessRowRef
namespace Go.Proofs.YtoofmiafcaipmaaDoor.E.fnCounts
open Go.ChangeShapes Go.WideShapes Go.ChangeAt Go.RowKit
open Go.ChangeMaps (open_string)
set_option linter.unusedVariables false
set_option linter.unusedSimpArgs false

/-- A world for the witness: the listed variables hold what the text lays. -/
noncomputable def low : Nat := (World.holding Tryd.prog default ⟨#[], #[], []⟩).heap.size
noncomputable def laidWorld (os : Os) : World :=
  let w0 := World.holding Tryd.prog os ⟨#[.cells #[.string { data := #[118, 97, 108, 117, 101, 32, 111, 117, 116, 32, 111, 102, 32, 114, 97, 110, 103, 101] }] 183, .cells #[.string { data := #[105, 110, 118, 97, 108, 105, 100, 32, 115, 121, 110, 116, 97, 120] }] 183], #[], []⟩
  { w0 with heap := (((((w0.heap.modify 3 fun | .cells _ t frozen => .cells #[.int .u8 0, .int .u8 1, .int .u8 28, .int .u8 2, .int .u8 29, .int .u8 14, .int .u8 24, .int .u8 3, .int .u8 30, .int .u8 22, .int .u8 20, .int .u8 15, .int .u8 25, .int .u8 17, .int .u8 4, .int .u8 8, .int .u8 31, .int .u8 27, .int .u8 13, .int .u8 23, .int .u8 21, .int .u8 19, .int .u8 16, .int .u8 7, .int .u8 26, .int .u8 12, .int .u8 18, .int .u8 6, .int .u8 11, .int .u8 5, .int .u8 10, .int .u8 9] t frozen | o => o).modify 4 fun | .cells _ t frozen => .cells #[.int .u8 0, .int .u8 1, .int .u8 56, .int .u8 2, .int .u8 57, .int .u8 49, .int .u8 28, .int .u8 3, .int .u8 61, .int .u8 58, .int .u8 42, .int .u8 50, .int .u8 38, .int .u8 29, .int .u8 17, .int .u8 4, .int .u8 62, .int .u8 47, .int .u8 59, .int .u8 36, .int .u8 45, .int .u8 43, .int .u8 51, .int .u8 22, .int .u8 53, .int .u8 39, .int .u8 33, .int .u8 30, .int .u8 24, .int .u8 18, .int .u8 12, .int .u8 5, .int .u8 63, .int .u8 55, .int .u8 48, .int .u8 27, .int .u8 60, .int .u8 41, .int .u8 37, .int .u8 16, .int .u8 46, .int .u8 35, .int .u8 44, .int .u8 21, .int .u8 52, .int .u8 32, .int .u8 23, .int .u8 11, .int .u8 54, .int .u8 26, .int .u8 40, .int .u8 15, .int .u8 34, .int .u8 20, .int .u8 31, .int .u8 10, .int .u8 25, .int .u8 14, .int .u8 19, .int .u8 9, .int .u8 13, .int .u8 8, .int .u8 7, .int .u8 6] t frozen | o => o).modify 2 fun | .cells _ t frozen => .cells #[.int .u64 1, .int .u64 10, .int .u64 100, .int .u64 1000, .int .u64 10000, .int .u64 100000, .int .u64 1000000, .int .u64 10000000, .int .u64 100000000, .int .u64 1000000000, .int .u64 10000000000, .int .u64 100000000000, .int .u64 1000000000000, .int .u64 10000000000000, .int .u64 100000000000000, .int .u64 1000000000000000, .int .u64 10000000000000000, .int .u64 100000000000000000, .int .u64 1000000000000000000, .int .u64 10000000000000000000] t frozen | o => o).modify 1 fun | .cells _ t frozen => .cells #[.iface 181 (.pointer (some ⟨low + 0, 0, none⟩))] t frozen | o => o).modify 0 fun | .cells _ t frozen => .cells #[.iface 181 (.pointer (some ⟨low + 1, 0, none⟩))] t frozen | o => o) }
theorem laid_met (os : Os) : laidMet Tryd.prog Rows.fnCountsRow.laid ((laidWorld os).forCall (fun _ _ => 0) ⟨#[], #[.int .i64 0, .slice none 0 0], []⟩).memory :=
  laidMet_of_run' 8 (by kernel_rfl) (by kernel_rfl)
theorem reads (os : Os) {H : Type} (enc : TypeId × Value → H) : ∃ places, DataW.whole enc Tryd.prog ((laidWorld os).forCall (fun _ _ => 0) ⟨#[], #[.int .i64 0, .slice none 0 0], []⟩).memory Tryd.f5.params.toList Rows.fnCountsSpec.vars false (#[.int .i64 0, .slice none 0 0] : Array Value).toList 8 = some ([.lit (.int .i64 0), .nil], [], places) :=
  ⟨[], by kernel_rfl⟩

noncomputable abbrev atCall (os : Os) : World := (laidWorld os).forCall (fun _ _ => 0) ⟨#[], #[.int .i64 0, .slice none 0 0], []⟩
theorem c1 : Tryd.checked.prog.inits.idxOf? 5 = none := by kernel_rfl
/-- One variable of the witness. -/
def refAt (P : Program) (w : World) (g : Nat) : Bool :=
    match ((begin P (fun _ _ => 0) default).world.heap[g]?).bind Obj.row? with
    | none => true
    | some (zero, t) =>
      match w.heap[g]? with
      | some (.cells cs t' frozen) => decide (t' = t) && decide (frozen = (0, 0)) && cs.size == zero.size && (!P.buildable t || Row.okRefB P w t cs)
      | _ => false
theorem refAll (P : Program) (w : World) : World.variablesRefB P w = (List.range P.globals.size).all (refAt P w) := rfl
theorem refAt_rep {P : Program} {w : World} {g n : Nat} {z : Value} {u t : TypeId} (h0 : ((begin P (fun _ _ => 0) default).world.heap[g]?).bind Obj.row? = some (Array.replicate n z, t)) (h1 : w.heap[g]? = some (.cells (Array.replicate n z) t (0, 0))) (h2 : P.cellTypes P.depth t = some (List.replicate n u)) (h3 : Cell.okRefB P w u z = true) (hn : 0 < n) : refAt P w g = true := by
  unfold refAt
  rw [h0]
  simp only [h1]
  have hr : Row.okRefB P w t (Array.replicate n z) = true := by
    unfold Row.okRefB
    rw [h2]
    simp only [Array.size_replicate, List.length_replicate, Nat.mod_self, beq_self_eq_true, Bool.true_and, List.all_eq_true, List.mem_range]
    intro i hi
    rw [Array.getElem?_replicate, if_pos hi, Nat.mod_eq_of_lt hi, List.getElem?_replicate, if_pos hi]
    exact h3
  rw [hr]
  simp
theorem r0 (os : Os) : refAt Tryd.checked.prog (atCall os) 0 = true := by kernel_rfl
theorem r1 (os : Os) : refAt Tryd.checked.prog (atCall os) 1 = true := by kernel_rfl
theorem r2 (os : Os) : refAt Tryd.checked.prog (atCall os) 2 = true := by kernel_rfl
theorem r3 (os : Os) : refAt Tryd.checked.prog (atCall os) 3 = true := by kernel_rfl
theorem r4 (os : Os) : refAt Tryd.checked.prog (atCall os) 4 = true := by kernel_rfl
theorem c2 (os : Os) : World.variablesRefB Tryd.checked.prog (atCall os) = true := by
  have hs : Tryd.checked.prog.globals.size = 5 := by kernel_rfl
  rw [refAll, hs]
  rw [show List.range 5 = [0, 1, 2, 3, 4] from rfl]
  simp only [List.all_cons, List.all_nil, Bool.and_true, r0 os, r1 os, r2 os, r3 os, r4 os]
theorem c3 (os : Os) : List.take ((begin Tryd.checked.prog (fun _ _ => 0) default).world.heap.size - Tryd.checked.prog.globals.size) (List.drop Tryd.checked.prog.globals.size (atCall os).heap.toList) = List.drop Tryd.checked.prog.globals.size (begin Tryd.checked.prog (fun _ _ => 0) default).world.heap.toList := by kernel_rfl
theorem c4 (os : Os) : Input.okWideB Tryd.checked.prog (atCall os) 5 ⟨#[], #[.int .i64 0, .slice none 0 0], []⟩ = true := by kernel_rfl
theorem c6 (os : Os) {H : Type} (enc : TypeId × Value → H) : ChangeSpec.sizedB enc Tryd.checked.prog Tryd.f5 (OpenSpec.ofChange Rows.fnCountsSpec).bare false (atCall os).memory #[.int .i64 0, .slice none 0 0] 8 = true := by kernel_rfl
theorem c7 : (Tryd.f5.params.toList.all fun t => Tryd.prog.readableRec t && decide (t < Tryd.prog.types.size)) = true := by kernel_rfl

set_option maxRecDepth 100000 in
theorem lifted (os : Os) (started : os.Started) (H : Type) (enc : TypeId × Value → H) (F : Stop.Interp) :
    ReturnsInHanded {} Tryd.checked os 5 .any ((OpenSpec.ofChange Rows.fnCountsSpec).preRow enc Tryd.prog Tryd.f5 Rows.fnCountsRow.domain false Rows.fnCountsRow.laid) (((OpenSpec.ofChange Rows.fnCountsSpec).at F).post enc Tryd.prog Tryd.f5 false true false false) := by
  obtain ⟨places, hx⟩ := reads os enc
  refine returnsInHanded_of_row (C := Tryd.checked) (s := OpenSpec.ofChange Rows.fnCountsSpec) Tryd.own started c1 Tryd.func5
    (witness_row_atRef (enc := enc) (C := Tryd.checked) false (laidWorld os) #[.int .i64 0, .slice none 0 0] rfl (c2 os) (c3 os) (c4 os)
      (OpenSpec.preRow_of_cond 8 hx (by kernel_rfl) (fun k hk => by cases hk) (c6 os enc) (laid_met os))) ?_
  intro W base args ds gs before hval0 hW _ _ _ hL _ _
  have hval : ∀ (j : Nat) t v, Tryd.f5.params[j]? = some t → args[j]? = some v → Value.okWide Tryd.prog W .any base t v := hval0
  have hpost := fun W' => law_post (W' := W') (s := Rows.fnCountsSpec) Tryd.laidOut c7 (tb := 4) rfl Tryd.underlying4 rfl (fun ds h => by match ds, h with | [_, _], _ => rfl) hW
  obtain ⟨p, q, hA0, hV, rfl, hfz, hnd⟩ := hW
  have hA : DataW.TrodAll enc Tryd.prog W 0 (fun _ => true) true Tryd.f5.params.toList args.toList ds p := hA0
  clear hA0 hval0
  rw [Tryd.params5] at hA hval
  obtain ⟨v0, vs0, d0, ds0, p0, q0, hargs, rfl, rfl, h0, hr0⟩ := trodAll_cons hA
  obtain ⟨v1, vs1, d1, ds1, p1, q1, rfl, rfl, rfl, h1, hr1⟩ := trodAll_cons hr0
  obtain ⟨rfl, rfl, rfl⟩ := trodAll_nil hr1
  obtain rfl : args = #[v0, v1] := by cases args; simp_all
  obtain ⟨a0, rfl, rfl, rfl, hw0⟩ := open_int Tryd.underlying2 (hval 0 2 v0 rfl rfl) h0
  obtain ⟨a1, ht1, hz1⟩ := open_texts Tryd.underlying23 Tryd.underlying9 (by kernel_rfl) (hval 1 23 v1 rfl rfl) h1
  have heErrSyntax : ErrCell 0 W := errCell_of_laid (n := "strconv.ErrSyntax") (Rows.laid_strconv_ErrSyntax) rfl hL (by kernel_rfl) (by kernel_rfl) (by kernel_rfl) (t := 73) (by kernel_rfl) Tryd.underlying73
  have heErrRange : ErrCell 1 W := errCell_of_laid (n := "strconv.ErrRange") (Rows.laid_strconv_ErrRange) rfl hL (by kernel_rfl) (by kernel_rfl) (by kernel_rfl) (t := 73) (by kernel_rfl) Tryd.underlying73
  have htp : Pow W := tab_of_laid (n := "internal/strconv.uint64pow10") (k := .u64) (zs := Lib.pow10Tab) hL (by kernel_rfl) (g := 2) (by kernel_rfl) (t := 177) (by kernel_rfl) Tryd.underlying177 Tryd.underlying22 (by kernel_rfl) (by kernel_rfl)
  refine (fnCounts_any a0 v1 a1 W ht1 heErrSyntax heErrRange htp (wf_i64 hw0)).mono fun e W' ⟨he, hb⟩ => ?_
  subst he
  exact ⟨_, rfl, hpost W' hb⟩

theorem said : Rows.FnCountsSaid :=
  OpenClaim.holds_of_cond 5 Tryd.f5 rfl rfl rfl rfl rfl rfl rfl ⟨rfl, rfl, rfl, rfl, rfl⟩ rfl rfl rfl rfl rfl (by kernel_rfl) Tryd.func5 (by kernel_rfl)
    (of_decide_eq_true (by kernel_rfl)) (by unfold Func.isWrapper; first | (rw [if_pos (by decide +kernel)]; kernel_rfl) | (rw [if_neg (by decide +kernel)]; exact ⟨rfl, rfl⟩))
    (fun os started H enc _ F => by rw [OpenClaim.pre_eq_preRow]; exact lifted os started H enc F)

theorem plain (f : FuncId) (fn : Func) (hf : Tryd.pinned.checked.prog.funcNamed "pub-ensign/laws.FnCounts" = some f) (hfn : Tryd.pinned.checked.prog.funcs[f]? = some fn) :
    true = Tryd.pinned.checked.prog.looks [] ∧ ∀ (j : Nat) t, fn.params[j]? = some t → Tryd.pinned.checked.prog.wantsStandIn t = false := by
  obtain rfl : f = 5 := Option.some.inj ((show Tryd.prog.funcNamed "pub-ensign/laws.FnCounts" = some 5 by kernel_rfl).symm.trans hf) |>.symm
  obtain rfl : fn = Tryd.f5 := (Option.some.inj (Tryd.func5.symm.trans hfn)).symm
  refine ⟨by kernel_rfl, fun j t ht => ?_⟩
  have h : Tryd.f5.params.toList.all (fun t => !Tryd.prog.wantsStandIn t) = true := by kernel_rfl
  have := List.all_eq_true.1 h t (Array.mem_toList_iff.2 (Array.mem_of_getElem? ht))
  have e : Tryd.prog.wantsStandIn t = false := by simpa using this
  exact e

theorem card : Rows.FnCountsCardSaid :=
  Claim7.holds_tied_plain_at .later [] _ _ _ _ said (fun _ h => by cases h) (by kernel_rfl) (fun _ h => by cases h) fnCounts_row_tie rfl ⟨rfl, rfl⟩ (by kernel_rfl) rfl plain (by kernel_rfl)
#print axioms card
end Go.Proofs.YtoofmiafcaipmaaDoor.E.fnCounts
