/- For every list of integers and list of steps, together of bulk at most 1048576, laws.FnIntList returns true, and they read behind the call as before it. The row lists five variables of Go's library with what the text lays. -/
import Derived.Test.YtdmpeecocfoocaaDoorCards
import Derived.Test.YtdmpeecocfoocaaDoorTie
import Derived.Test.YtdmpeecocfoocaaDoorRow
import Derived.Test.YtdmpeecocfoocaaDoorLaidRuns
import Derived.Test.YtdmpeecocfoocaaDoorJl2
import Derived.Deep.DeepHandedRow
import Derived.Deep.DeepWitnessRowRef
namespace Go.Proofs.YtdmpeecocfoocaaDoor.E.fnIntList
open Go.ChangeShapes Go.WideShapes Go.ChangeAt Go.RowKit
open Go.ChangeMaps (open_string)
set_option linter.unusedVariables false
set_option linter.unusedSimpArgs false

/-- A world for the witness: the listed variables hold what the text lays. -/
noncomputable def low : Nat := (World.holding Tryd.prog default ⟨#[], #[], []⟩).heap.size
noncomputable def tab0 : Array Value := #[.int .u8 0, .int .u8 1, .int .u8 28, .int .u8 2, .int .u8 29, .int .u8 14, .int .u8 24, .int .u8 3, .int .u8 30, .int .u8 22, .int .u8 20, .int .u8 15, .int .u8 25, .int .u8 17, .int .u8 4, .int .u8 8, .int .u8 31, .int .u8 27, .int .u8 13, .int .u8 23, .int .u8 21, .int .u8 19, .int .u8 16, .int .u8 7, .int .u8 26, .int .u8 12, .int .u8 18, .int .u8 6, .int .u8 11, .int .u8 5, .int .u8 10, .int .u8 9]
noncomputable def tab1 : Array Value := #[.int .u8 0, .int .u8 1, .int .u8 56, .int .u8 2, .int .u8 57, .int .u8 49, .int .u8 28, .int .u8 3, .int .u8 61, .int .u8 58, .int .u8 42, .int .u8 50, .int .u8 38, .int .u8 29, .int .u8 17, .int .u8 4, .int .u8 62, .int .u8 47, .int .u8 59, .int .u8 36, .int .u8 45, .int .u8 43, .int .u8 51, .int .u8 22, .int .u8 53, .int .u8 39, .int .u8 33, .int .u8 30, .int .u8 24, .int .u8 18, .int .u8 12, .int .u8 5, .int .u8 63, .int .u8 55, .int .u8 48, .int .u8 27, .int .u8 60, .int .u8 41, .int .u8 37, .int .u8 16, .int .u8 46, .int .u8 35, .int .u8 44, .int .u8 21, .int .u8 52, .int .u8 32, .int .u8 23, .int .u8 11, .int .u8 54, .int .u8 26, .int .u8 40, .int .u8 15, .int .u8 34, .int .u8 20, .int .u8 31, .int .u8 10, .int .u8 25, .int .u8 14, .int .u8 19, .int .u8 9, .int .u8 13, .int .u8 8, .int .u8 7, .int .u8 6]
noncomputable def tab2 : Array Value := #[.int .u64 1, .int .u64 10, .int .u64 100, .int .u64 1000, .int .u64 10000, .int .u64 100000, .int .u64 1000000, .int .u64 10000000, .int .u64 100000000, .int .u64 1000000000, .int .u64 10000000000, .int .u64 100000000000, .int .u64 1000000000000, .int .u64 10000000000000, .int .u64 100000000000000, .int .u64 1000000000000000, .int .u64 10000000000000000, .int .u64 100000000000000000, .int .u64 1000000000000000000, .int .u64 10000000000000000000]
noncomputable def tab3 : Array Value := #[.iface 181 (.pointer (some ⟨low + 0, 0, none⟩))]
noncomputable def tab4 : Array Value := #[.iface 181 (.pointer (some ⟨low + 1, 0, none⟩))]
noncomputable def laidWorld (os : Os) : World :=
  let w0 := World.holding Tryd.prog os ⟨#[.cells #[.string { data := #[118, 97, 108, 117, 101, 32, 111, 117, 116, 32, 111, 102, 32, 114, 97, 110, 103, 101] }] 183, .cells #[.string { data := #[105, 110, 118, 97, 108, 105, 100, 32, 115, 121, 110, 116, 97, 120] }] 183], #[], []⟩
  { w0 with heap := (((((w0.heap.modify 3 fun | .cells _ t frozen => .cells tab0 t frozen | o => o).modify 4 fun | .cells _ t frozen => .cells tab1 t frozen | o => o).modify 2 fun | .cells _ t frozen => .cells tab2 t frozen | o => o).modify 1 fun | .cells _ t frozen => .cells tab3 t frozen | o => o).modify 0 fun | .cells _ t frozen => .cells tab4 t frozen | o => o) }
noncomputable abbrev memory (os : Os) : World := ((laidWorld os).forCall (fun _ _ => 0) ⟨#[], #[.slice none 0 0, .slice none 0 0], []⟩).memory
theorem v0a (os : Os) : (memory os).var? Tryd.prog "math/bits.deBruijn32tab" = some tab0 := by kernel_rfl
theorem v0b (os : Os) : ((Tryd.prog.globals[(3 : Nat)]?).map (·.type)).bind (fun t => DataW.trod (fun _ => ()) Tryd.prog (memory os) 0 (fun _ => true) false 8 t tab0.toList) = some (Rows.laid_math_bits_deBruijn32tab, []) := by kernel_rfl
theorem v0 (os : Os) : ∃ g t cs fuel p, Tryd.prog.globalNamed "math/bits.deBruijn32tab" = some g ∧ (Tryd.prog.globals[g]?).map (·.type) = some t ∧ (memory os).var? Tryd.prog "math/bits.deBruijn32tab" = some cs ∧ DataW.trod (fun _ => ()) Tryd.prog (memory os) 0 (fun _ => true) false fuel t cs.toList = some (Rows.laid_math_bits_deBruijn32tab, p) ∧ MemPlace.row ⟨g, 0, none⟩ cs.size ++ p = runsOf [(3, 32)] := by
  obtain ⟨t, ht⟩ := Option.isSome_iff_exists.1 (show ((Tryd.prog.globals[(3 : Nat)]?).map (·.type)).isSome = true by kernel_rfl)
  have h := v0b os
  rw [ht, Option.bind_some] at h
  exact ⟨3, t, tab0, 8, [], by kernel_rfl, ht, v0a os, h, by kernel_rfl⟩

theorem v1a (os : Os) : (memory os).var? Tryd.prog "math/bits.deBruijn64tab" = some tab1 := by kernel_rfl
theorem v1b (os : Os) : ((Tryd.prog.globals[(4 : Nat)]?).map (·.type)).bind (fun t => DataW.trod (fun _ => ()) Tryd.prog (memory os) 0 (fun _ => true) false 8 t tab1.toList) = some (Rows.laid_math_bits_deBruijn64tab, []) := by kernel_rfl
theorem v1 (os : Os) : ∃ g t cs fuel p, Tryd.prog.globalNamed "math/bits.deBruijn64tab" = some g ∧ (Tryd.prog.globals[g]?).map (·.type) = some t ∧ (memory os).var? Tryd.prog "math/bits.deBruijn64tab" = some cs ∧ DataW.trod (fun _ => ()) Tryd.prog (memory os) 0 (fun _ => true) false fuel t cs.toList = some (Rows.laid_math_bits_deBruijn64tab, p) ∧ MemPlace.row ⟨g, 0, none⟩ cs.size ++ p = runsOf [(4, 64)] := by
  obtain ⟨t, ht⟩ := Option.isSome_iff_exists.1 (show ((Tryd.prog.globals[(4 : Nat)]?).map (·.type)).isSome = true by kernel_rfl)
  have h := v1b os
  rw [ht, Option.bind_some] at h
  exact ⟨4, t, tab1, 8, [], by kernel_rfl, ht, v1a os, h, by kernel_rfl⟩

theorem v2a (os : Os) : (memory os).var? Tryd.prog "internal/strconv.uint64pow10" = some tab2 := by kernel_rfl
theorem v2b (os : Os) : ((Tryd.prog.globals[(2 : Nat)]?).map (·.type)).bind (fun t => DataW.trod (fun _ => ()) Tryd.prog (memory os) 0 (fun _ => true) false 8 t tab2.toList) = some (Rows.laid_internal_strconv_uint64pow10, []) := by kernel_rfl
theorem v2 (os : Os) : ∃ g t cs fuel p, Tryd.prog.globalNamed "internal/strconv.uint64pow10" = some g ∧ (Tryd.prog.globals[g]?).map (·.type) = some t ∧ (memory os).var? Tryd.prog "internal/strconv.uint64pow10" = some cs ∧ DataW.trod (fun _ => ()) Tryd.prog (memory os) 0 (fun _ => true) false fuel t cs.toList = some (Rows.laid_internal_strconv_uint64pow10, p) ∧ MemPlace.row ⟨g, 0, none⟩ cs.size ++ p = runsOf [(2, 20)] := by
  obtain ⟨t, ht⟩ := Option.isSome_iff_exists.1 (show ((Tryd.prog.globals[(2 : Nat)]?).map (·.type)).isSome = true by kernel_rfl)
  have h := v2b os
  rw [ht, Option.bind_some] at h
  exact ⟨2, t, tab2, 8, [], by kernel_rfl, ht, v2a os, h, by kernel_rfl⟩

theorem v3a (os : Os) : (memory os).var? Tryd.prog "strconv.ErrRange" = some tab3 := by kernel_rfl
theorem v3b (os : Os) : ((Tryd.prog.globals[(1 : Nat)]?).map (·.type)).bind (fun t => DataW.trod (fun _ => ()) Tryd.prog (memory os) 0 (fun _ => true) false 8 t tab3.toList) = some (Rows.laid_strconv_ErrRange, MemPlace.row ⟨low + 0, 0, none⟩ 1) := by kernel_rfl
theorem v3 (os : Os) : ∃ g t cs fuel p, Tryd.prog.globalNamed "strconv.ErrRange" = some g ∧ (Tryd.prog.globals[g]?).map (·.type) = some t ∧ (memory os).var? Tryd.prog "strconv.ErrRange" = some cs ∧ DataW.trod (fun _ => ()) Tryd.prog (memory os) 0 (fun _ => true) false fuel t cs.toList = some (Rows.laid_strconv_ErrRange, p) ∧ MemPlace.row ⟨g, 0, none⟩ cs.size ++ p = runsOf [(1, 1), (low + 0, 1)] := by
  obtain ⟨t, ht⟩ := Option.isSome_iff_exists.1 (show ((Tryd.prog.globals[(1 : Nat)]?).map (·.type)).isSome = true by kernel_rfl)
  have h := v3b os
  rw [ht, Option.bind_some] at h
  exact ⟨1, t, tab3, 8, MemPlace.row ⟨low + 0, 0, none⟩ 1, by kernel_rfl, ht, v3a os, h, by kernel_rfl⟩

theorem v4a (os : Os) : (memory os).var? Tryd.prog "strconv.ErrSyntax" = some tab4 := by kernel_rfl
theorem v4b (os : Os) : ((Tryd.prog.globals[(0 : Nat)]?).map (·.type)).bind (fun t => DataW.trod (fun _ => ()) Tryd.prog (memory os) 0 (fun _ => true) false 8 t tab4.toList) = some (Rows.laid_strconv_ErrSyntax, MemPlace.row ⟨low + 1, 0, none⟩ 1) := by kernel_rfl
theorem v4 (os : Os) : ∃ g t cs fuel p, Tryd.prog.globalNamed "strconv.ErrSyntax" = some g ∧ (Tryd.prog.globals[g]?).map (·.type) = some t ∧ (memory os).var? Tryd.prog "strconv.ErrSyntax" = some cs ∧ DataW.trod (fun _ => ()) Tryd.prog (memory os) 0 (fun _ => true) false fuel t cs.toList = some (Rows.laid_strconv_ErrSyntax, p) ∧ MemPlace.row ⟨g, 0, none⟩ cs.size ++ p = runsOf [(0, 1), (low + 1, 1)] := by
  obtain ⟨t, ht⟩ := Option.isSome_iff_exists.1 (show ((Tryd.prog.globals[(0 : Nat)]?).map (·.type)).isSome = true by kernel_rfl)
  have h := v4b os
  rw [ht, Option.bind_some] at h
  exact ⟨0, t, tab4, 8, MemPlace.row ⟨low + 1, 0, none⟩ 1, by kernel_rfl, ht, v4a os, h, by kernel_rfl⟩

theorem b0 (os : Os) : blockOk Tryd.prog (memory os) (3) = true := by kernel_rfl
theorem b1 (os : Os) : blockOk Tryd.prog (memory os) (4) = true := by kernel_rfl
theorem b2 (os : Os) : blockOk Tryd.prog (memory os) (2) = true := by kernel_rfl
theorem b3 (os : Os) : blockOk Tryd.prog (memory os) (1) = true := by kernel_rfl
theorem b4 (os : Os) : blockOk Tryd.prog (memory os) (low + 0) = true := by kernel_rfl
theorem b5 (os : Os) : blockOk Tryd.prog (memory os) (0) = true := by kernel_rfl
theorem b6 (os : Os) : blockOk Tryd.prog (memory os) (low + 1) = true := by kernel_rfl
theorem laid_met (os : Os) : laidMet Tryd.prog Rows.fnIntListUptoRow.laid ((laidWorld os).forCall (fun _ _ => 0) ⟨#[], #[.slice none 0 0, .slice none 0 0], []⟩).memory := by
  refine laidMet_runs ([(3, 32)] ++ ([(4, 64)] ++ ([(2, 20)] ++ ([(1, 1), (low + 0, 1)] ++ ([(0, 1), (low + 1, 1)] ++ []))))) (w := memory os) ?_ (by decide +kernel) ?_
  · exact laid_cons (v0 os) (laid_cons (v1 os) (laid_cons (v2 os) (laid_cons (v3 os) (laid_cons (v4 os) (laid_nil)))))
  · show ∀ b ∈ [3, 4, 2, 1, low + 0, 0, low + 1], blockOk Tryd.prog (memory os) b = true
    exact List.forall_mem_cons.2 ⟨b0 os, List.forall_mem_cons.2 ⟨b1 os, List.forall_mem_cons.2 ⟨b2 os, List.forall_mem_cons.2 ⟨b3 os, List.forall_mem_cons.2 ⟨b4 os, List.forall_mem_cons.2 ⟨b5 os, List.forall_mem_cons.2 ⟨b6 os, (fun _ h => by cases h)⟩⟩⟩⟩⟩⟩⟩
theorem reads (os : Os) {H : Type} (enc : TypeId × Value → H) : ∃ places, DataW.whole enc Tryd.prog ((laidWorld os).forCall (fun _ _ => 0) ⟨#[], #[.slice none 0 0, .slice none 0 0], []⟩).memory Tryd.f6.params.toList Rows.fnIntListSpec.vars false (#[.slice none 0 0, .slice none 0 0] : Array Value).toList 8 = some ([.nil, .nil], [], places) :=
  ⟨[], by kernel_rfl⟩

noncomputable abbrev atCall (os : Os) : World := (laidWorld os).forCall (fun _ _ => 0) ⟨#[], #[.slice none 0 0, .slice none 0 0], []⟩
theorem c1 : Tryd.checked.prog.inits.idxOf? 6 = none := by kernel_rfl
/-- One variable of the witness. -/
def refAt (P : Program) (w : World) (g : Nat) : Bool :=
    match ((begin P (fun _ _ => 0) default).world.heap[g]?).bind Obj.row? with
    | none => true
    | some (zero, t) =>
      match w.heap[g]? with
      | some (.cells cs t' frozen) => decide (t' = t) && decide (frozen = (0, 0)) && cs.size == zero.size && (!P.buildable t || Row.okRefB P w t cs)
      | _ => false
theorem refAll (P : Program) (w : World) : World.variablesRefB P w = (List.range P.globals.size).all (refAt P w) := rfl
theorem refAt_all {P : Program} {w : World} {g n : Nat} {z : Value} {cs : Array Value} {u t : TypeId} (h0 : ((begin P (fun _ _ => 0) default).world.heap[g]?).bind Obj.row? = some (Array.replicate n z, t)) (h1 : w.heap[g]? = some (.cells cs t (0, 0))) (h2 : P.cellTypes P.depth t = some (List.replicate n u)) (hn : cs.size = n) (h3 : (cs.toList.all fun v => Cell.okRefB P w u v) = true) : refAt P w g = true := by
  unfold refAt
  rw [h0]
  simp only [h1]
  have hr : Row.okRefB P w t cs = true := by
    unfold Row.okRefB
    rw [h2]
    simp only [List.length_replicate, hn, Nat.mod_self, beq_self_eq_true, Bool.true_and, List.all_eq_true, List.mem_range]
    intro i hi
    have hi2 : i < cs.size := by omega
    rw [Array.getElem?_eq_getElem hi2, Nat.mod_eq_of_lt hi, List.getElem?_replicate, if_pos hi]
    exact List.all_eq_true.1 h3 _ (by rw [Array.mem_toList_iff]; exact Array.getElem_mem hi2)
  rw [hr]
  simp [hn]
theorem refAt_rep {P : Program} {w : World} {g n : Nat} {z : Value} {u t : TypeId} (h0 : ((begin P (fun _ _ => 0) default).world.heap[g]?).bind Obj.row? = some (Array.replicate n z, t)) (h1 : w.heap[g]? = some (.cells (Array.replicate n z) t (0, 0))) (h2 : P.cellTypes P.depth t = some (List.replicate n u)) (h3 : Cell.okRefB P w u z = true) (hn : 0 < n) : refAt P w g = true := by
  unfold refAt
  rw [h0]
  simp only [h1]
  have hr : Row.okRefB P w t (Array.replicate n z) = true := by
    unfold Row.okRefB
    rw [h2]
    simp only [Array.size_replicate, List.length_replicate, Nat.mod_self, beq_self_eq_true, Bool.true_and, List.all_eq_true, List.mem_range]
    intro i hi
    rw [Array.getElem?_replicate, if_pos hi, Nat.mod_eq_of_lt hi, List.getElem?_replicate, if_pos hi]
    exact h3
  rw [hr]
  simp
theorem r0 (os : Os) : refAt Tryd.checked.prog (atCall os) 0 = true := by kernel_rfl
theorem r1 (os : Os) : refAt Tryd.checked.prog (atCall os) 1 = true := by kernel_rfl
theorem r2 (os : Os) : refAt Tryd.checked.prog (atCall os) 2 = true := by kernel_rfl
theorem r3 (os : Os) : refAt Tryd.checked.prog (atCall os) 3 = true := by kernel_rfl
theorem r4 (os : Os) : refAt Tryd.checked.prog (atCall os) 4 = true := by kernel_rfl
theorem c2 (os : Os) : World.variablesRefB Tryd.checked.prog (atCall os) = true := by
  have hs : Tryd.checked.prog.globals.size = 5 := by kernel_rfl
  rw [refAll, hs]
  rw [show List.range 5 = [0, 1, 2, 3, 4] from rfl]
  simp only [List.all_cons, List.all_nil, Bool.and_true, r0 os, r1 os, r2 os, r3 os, r4 os]
theorem c3 (os : Os) : List.take ((begin Tryd.checked.prog (fun _ _ => 0) default).world.heap.size - Tryd.checked.prog.globals.size) (List.drop Tryd.checked.prog.globals.size (atCall os).heap.toList) = List.drop Tryd.checked.prog.globals.size (begin Tryd.checked.prog (fun _ _ => 0) default).world.heap.toList := by kernel_rfl
theorem c4 (os : Os) : Input.okWideB Tryd.checked.prog (atCall os) 6 ⟨#[], #[.slice none 0 0, .slice none 0 0], []⟩ = true := by kernel_rfl
theorem c6 (os : Os) {H : Type} (enc : TypeId × Value → H) : ChangeSpec.sizedB enc Tryd.checked.prog Tryd.f6 (Rows.OpenSpec.upto Rows.fnIntListSpec).bare false (atCall os).memory #[.slice none 0 0, .slice none 0 0] 8 = true := by kernel_rfl
theorem c7 : (Tryd.f6.params.toList.all fun t => Tryd.prog.readableRec t && decide (t < Tryd.prog.types.size)) = true := by kernel_rfl

set_option maxRecDepth 100000 in
theorem lifted (os : Os) (started : os.Started) (H : Type) (enc : TypeId × Value → H) (F : Stop.Interp) :
    ReturnsInHanded {} Tryd.checked os 6 .any ((Rows.OpenSpec.upto Rows.fnIntListSpec).preRow enc Tryd.prog Tryd.f6 Rows.fnIntListUptoRow.domain false Rows.fnIntListUptoRow.laid) (((Rows.OpenSpec.upto Rows.fnIntListSpec).at F).post enc Tryd.prog Tryd.f6 false true false false) := by
  obtain ⟨places, hx⟩ := reads os enc
  refine returnsInHanded_of_row (C := Tryd.checked) (s := Rows.OpenSpec.upto Rows.fnIntListSpec) Tryd.own started c1 Tryd.func6
    (witness_row_atRef (enc := enc) (C := Tryd.checked) false (laidWorld os) #[.slice none 0 0, .slice none 0 0] rfl (c2 os) (c3 os) (c4 os)
      (OpenSpec.preRow_of_cond 8 hx (by kernel_rfl) (fun k hk => by cases hk; kernel_rfl) (c6 os enc) (laid_met os))) ?_
  intro W base args ds gs before hval0 hW _ hcond _ hL _ _
  have hval : ∀ (j : Nat) t v, Tryd.f6.params[j]? = some t → args[j]? = some v → Value.okWide Tryd.prog W .any base t v := hval0
  have hpost := fun W' => law_post (W' := W') (s := Rows.fnIntListSpec) Tryd.laidOut c7 (tb := 4) rfl Tryd.underlying4 rfl (fun ds h => by match ds, h with | [_, _], _ => rfl) hW
  obtain ⟨p, q, hA0, hV, rfl, hfz, hnd⟩ := hW
  have hA : DataW.TrodAll enc Tryd.prog W 0 (fun _ => true) true Tryd.f6.params.toList args.toList ds p := hA0
  clear hA0 hval0
  rw [Tryd.params6] at hA hval
  obtain ⟨v0, vs0, d0, ds0, p0, q0, hargs, rfl, rfl, h0, hr0⟩ := trodAll_cons hA
  obtain ⟨v1, vs1, d1, ds1, p1, q1, rfl, rfl, rfl, h1, hr1⟩ := trodAll_cons hr0
  obtain ⟨rfl, rfl, rfl⟩ := trodAll_nil hr1
  obtain rfl : args = #[v0, v1] := by cases args; simp_all
  obtain ⟨V0, A0, c0, rfl, hin0, hir0, hbk0⟩ := open_ints64 Tryd.underlying27 Tryd.underlying2 (by kernel_rfl) (hval 0 27 v0 rfl rfl) h0
  obtain ⟨L1, A1, cap1, rfl, hst1, hle1, hcap1, hbk1⟩ := open_steps2 Tryd.underlying28 Tryd.underlying67 (by kernel_rfl) rfl rfl rfl (by kernel_rfl) (by kernel_rfl) (by kernel_rfl) Tryd.underlying3 Tryd.underlying9 Tryd.underlying23 Tryd.underlying9 (by kernel_rfl) (hval 1 28 v1 rfl rfl) h1
  have hbk := of_decide_eq_true (hcond _ rfl); simp only [List.cons_append, List.nil_append, Rows.uptoBulkAll] at hbk
  have heErrSyntax : ErrCell 0 W := errCell_of_laid (n := "strconv.ErrSyntax") (Rows.laid_strconv_ErrSyntax) rfl hL (by kernel_rfl) (by kernel_rfl) (by kernel_rfl) (t := 73) (by kernel_rfl) Tryd.underlying73
  have heErrRange : ErrCell 1 W := errCell_of_laid (n := "strconv.ErrRange") (Rows.laid_strconv_ErrRange) rfl hL (by kernel_rfl) (by kernel_rfl) (by kernel_rfl) (t := 73) (by kernel_rfl) Tryd.underlying73
  have htp : Pow W := tab_of_laid (n := "internal/strconv.uint64pow10") (k := .u64) (zs := Lib.pow10Tab) hL (by kernel_rfl) (g := 2) (by kernel_rfl) (t := 177) (by kernel_rfl) Tryd.underlying177 Tryd.underlying22 (by kernel_rfl) (by kernel_rfl)
  refine (fnIntList_any A0 c0 V0 A1 cap1 L1 W hin0 hir0 hst1 (by omega) (by omega) heErrSyntax heErrRange htp).mono fun e W' ⟨he, hb⟩ => ?_
  subst he
  exact ⟨_, rfl, hpost W' hb⟩

theorem said : Rows.FnIntListUptoSaid :=
  OpenClaim.holds_of_cond 6 Tryd.f6 rfl rfl rfl rfl rfl rfl rfl ⟨rfl, rfl, rfl, rfl, rfl⟩ rfl rfl rfl rfl rfl (by kernel_rfl) Tryd.func6 (by kernel_rfl)
    (of_decide_eq_true (by kernel_rfl)) (by unfold Func.isWrapper; first | (rw [if_pos (by decide +kernel)]; kernel_rfl) | (rw [if_neg (by decide +kernel)]; exact ⟨rfl, rfl⟩))
    (fun os started H enc _ F => by rw [OpenClaim.pre_eq_preRow]; exact lifted os started H enc F)

theorem plain (f : FuncId) (fn : Func) (hf : Tryd.pinned.checked.prog.funcNamed "pub-ensign/laws.FnIntList" = some f) (hfn : Tryd.pinned.checked.prog.funcs[f]? = some fn) :
    true = Tryd.pinned.checked.prog.looks [] ∧ ∀ (j : Nat) t, fn.params[j]? = some t → Tryd.pinned.checked.prog.wantsStandIn t = false := by
  obtain rfl : f = 6 := Option.some.inj ((show Tryd.prog.funcNamed "pub-ensign/laws.FnIntList" = some 6 by kernel_rfl).symm.trans hf) |>.symm
  obtain rfl : fn = Tryd.f6 := (Option.some.inj (Tryd.func6.symm.trans hfn)).symm
  refine ⟨by kernel_rfl, fun j t ht => ?_⟩
  have h : Tryd.f6.params.toList.all (fun t => !Tryd.prog.wantsStandIn t) = true := by kernel_rfl
  have := List.all_eq_true.1 h t (Array.mem_toList_iff.2 (Array.mem_of_getElem? ht))
  have e : Tryd.prog.wantsStandIn t = false := by simpa using this
  exact e

theorem card : Rows.FnIntListUptoCardSaid :=
  Claim7.holds_tied_plain_at .later [] _ _ _ _ said (fun _ h => by cases h) (by kernel_rfl) (fun _ h => by cases h) fnIntListUpto_row_tie rfl ⟨rfl, rfl⟩ (by kernel_rfl) rfl plain (by kernel_rfl)
#print axioms card
end Go.Proofs.YtdmpeecocfoocaaDoor.E.fnIntList
