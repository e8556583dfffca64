/- For every kind and pair of integers laws.FnCastIntFloat returns true, and they read behind the call as before it. The row lists thirteen variables of Go's library with what the text lays; no other condition. -/
import Derived.Test.YtcelhnnnaakkeaaDoorCards
import Derived.Test.YtcelhnnnaakkeaaDoorTie
import Derived.Test.YtcelhnnnaakkeaaDoorRow
import Derived.Test.YtcelhnnnaakkeaaDoorLaidRuns
import Derived.Test.YtcelhnnnaakkeaaDoorCastFloat
import Derived.Deep.DeepHandedRow
import Derived.Deep.DeepWitnessRowRef
namespace Go.Proofs.YtcelhnnnaakkeaaDoor.E.fnCastIntFloat
open Go.ChangeShapes Go.WideShapes Go.ChangeAt Go.RowKit
open Go.ChangeMaps (open_string)
set_option linter.unusedVariables false
set_option linter.unusedSimpArgs false

/-- A world for the witness: the listed variables hold what the text lays. -/
noncomputable def low : Nat := (World.holding Tryd.prog default ⟨#[], #[], []⟩).heap.size
noncomputable def tab0 : Array Value := #[.int .u8 0, .int .u8 1, .int .u8 28, .int .u8 2, .int .u8 29, .int .u8 14, .int .u8 24, .int .u8 3, .int .u8 30, .int .u8 22, .int .u8 20, .int .u8 15, .int .u8 25, .int .u8 17, .int .u8 4, .int .u8 8, .int .u8 31, .int .u8 27, .int .u8 13, .int .u8 23, .int .u8 21, .int .u8 19, .int .u8 16, .int .u8 7, .int .u8 26, .int .u8 12, .int .u8 18, .int .u8 6, .int .u8 11, .int .u8 5, .int .u8 10, .int .u8 9]
noncomputable def tab1 : Array Value := #[.int .u8 0, .int .u8 1, .int .u8 56, .int .u8 2, .int .u8 57, .int .u8 49, .int .u8 28, .int .u8 3, .int .u8 61, .int .u8 58, .int .u8 42, .int .u8 50, .int .u8 38, .int .u8 29, .int .u8 17, .int .u8 4, .int .u8 62, .int .u8 47, .int .u8 59, .int .u8 36, .int .u8 45, .int .u8 43, .int .u8 51, .int .u8 22, .int .u8 53, .int .u8 39, .int .u8 33, .int .u8 30, .int .u8 24, .int .u8 18, .int .u8 12, .int .u8 5, .int .u8 63, .int .u8 55, .int .u8 48, .int .u8 27, .int .u8 60, .int .u8 41, .int .u8 37, .int .u8 16, .int .u8 46, .int .u8 35, .int .u8 44, .int .u8 21, .int .u8 52, .int .u8 32, .int .u8 23, .int .u8 11, .int .u8 54, .int .u8 26, .int .u8 40, .int .u8 15, .int .u8 34, .int .u8 20, .int .u8 31, .int .u8 10, .int .u8 25, .int .u8 14, .int .u8 19, .int .u8 9, .int .u8 13, .int .u8 8, .int .u8 7, .int .u8 6]
noncomputable def tab2 : Array Value := #[.int .u64 23, .int .u64 8, .int .i64 (-127)]
noncomputable def tab3 : Array Value := #[.int .u64 52, .int .u64 11, .int .i64 (-1023)]
noncomputable def tab4 : Array Value := #[.bool true]
noncomputable def tab5 : Array Value := #[.slice (some ⟨low + 0, 0, none⟩) 9 9]
noncomputable def tab6 : Array Value := #[.slice (some ⟨low + 1, 0, none⟩) 23 23]
noncomputable def tab7 : Array Value := #[.slice (some ⟨low + 2, 0, none⟩) 11 11]
noncomputable def tab8 : Array Value := #[.int .u64 1, .int .u64 10, .int .u64 100, .int .u64 1000, .int .u64 10000, .int .u64 100000, .int .u64 1000000, .int .u64 10000000, .int .u64 100000000, .int .u64 1000000000, .int .u64 10000000000, .int .u64 100000000000, .int .u64 1000000000000, .int .u64 10000000000000, .int .u64 100000000000000, .int .u64 1000000000000000, .int .u64 10000000000000000, .int .u64 100000000000000000, .int .u64 1000000000000000000, .int .u64 10000000000000000000]
noncomputable def tab9 : Array Value := #[.iface 117 (.pointer (some ⟨low + 3, 0, none⟩))]
noncomputable def tab10 : Array Value := #[.iface 117 (.pointer (some ⟨low + 4, 0, none⟩))]
noncomputable def tab11 : Array Value := #[.slice (some ⟨low + 5, 0, none⟩) 61 61]
noncomputable def tab12 : Array Value := (Go.Pinned.pow10Rows.flatMap fun x => [Value.int .u64 x.1, .int .u64 x.2]).toArray
noncomputable def laidWorld (os : Os) : World :=
  let w0 := World.holding Tryd.prog os ⟨#[.cells #[.int .i64 1, .int .i64 3, .int .i64 6, .int .i64 9, .int .i64 13, .int .i64 16, .int .i64 19, .int .i64 23, .int .i64 26] 3, .cells #[.float .f64 4607182418800017408, .float .f64 4621819117588971520, .float .f64 4636737291354636288, .float .f64 4652007308841189376, .float .f64 4666723172467343360, .float .f64 4681608360884174848, .float .f64 4696837146684686336, .float .f64 4711630319722168320, .float .f64 4726483295884279808, .float .f64 4741671816366391296, .float .f64 4756540486875873280, .float .f64 4771362005757984768, .float .f64 4786511204640096256, .float .f64 4801453603149578240, .float .f64 4816244402031689728, .float .f64 4831355200913801216, .float .f64 4846369599423283200, .float .f64 4861130398305394688, .float .f64 4876203697187506176, .float .f64 4891288408196988160, .float .f64 4906019910204099648, .float .f64 4921056587992461136, .float .f64 4936209963552724370] 23, .cells #[.float .f32 1065353216, .float .f32 1092616192, .float .f32 1120403456, .float .f32 1148846080, .float .f32 1176256512, .float .f32 1203982336, .float .f32 1232348160, .float .f32 1259902592, .float .f32 1287568416, .float .f32 1315859240, .float .f32 1343554297] 73, .cells #[.string { data := #[118, 97, 108, 117, 101, 32, 111, 117, 116, 32, 111, 102, 32, 114, 97, 110, 103, 101] }] 119, .cells #[.string { data := #[105, 110, 118, 97, 108, 105, 100, 32, 115, 121, 110, 116, 97, 120] }] 119, .cells (Go.Pinned.cheatRows.flatMap fun x => [Value.int .i64 x.1, .string ⟨x.2.toArray⟩]).toArray 221], #[], []⟩
  { w0 with heap := (((((((((((((w0.heap.modify 6 fun | .cells _ t frozen => .cells tab0 t frozen | o => o).modify 7 fun | .cells _ t frozen => .cells tab1 t frozen | o => o).modify 8 fun | .cells _ t frozen => .cells tab2 t frozen | o => o).modify 9 fun | .cells _ t frozen => .cells tab3 t frozen | o => o).modify 0 fun | .cells _ t frozen => .cells tab4 t frozen | o => o).modify 11 fun | .cells _ t frozen => .cells tab5 t frozen | o => o).modify 12 fun | .cells _ t frozen => .cells tab6 t frozen | o => o).modify 10 fun | .cells _ t frozen => .cells tab7 t frozen | o => o).modify 1 fun | .cells _ t frozen => .cells tab8 t frozen | o => o).modify 3 fun | .cells _ t frozen => .cells tab9 t frozen | o => o).modify 2 fun | .cells _ t frozen => .cells tab10 t frozen | o => o).modify 5 fun | .cells _ t frozen => .cells tab11 t frozen | o => o).modify 4 fun | .cells _ t frozen => .cells tab12 t frozen | o => o) }
noncomputable abbrev memory (os : Os) : World := ((laidWorld os).forCall (fun _ _ => 0) ⟨#[], #[.int .i64 0, .int .i64 0, .int .u64 0], []⟩).memory
theorem v0a (os : Os) : (memory os).var? Tryd.prog "math/bits.deBruijn32tab" = some tab0 := by kernel_rfl
theorem v0b (os : Os) : ((Tryd.prog.globals[(6 : Nat)]?).map (·.type)).bind (fun t => DataW.trod (fun _ => ()) Tryd.prog (memory os) 0 (fun _ => true) false 8 t tab0.toList) = some (Rows.laid_math_bits_deBruijn32tab, []) := by kernel_rfl
theorem v0 (os : Os) : ∃ g t cs fuel p, Tryd.prog.globalNamed "math/bits.deBruijn32tab" = some g ∧ (Tryd.prog.globals[g]?).map (·.type) = some t ∧ (memory os).var? Tryd.prog "math/bits.deBruijn32tab" = some cs ∧ DataW.trod (fun _ => ()) Tryd.prog (memory os) 0 (fun _ => true) false fuel t cs.toList = some (Rows.laid_math_bits_deBruijn32tab, p) ∧ MemPlace.row ⟨g, 0, none⟩ cs.size ++ p = runsOf [(6, 32)] := by
  obtain ⟨t, ht⟩ := Option.isSome_iff_exists.1 (show ((Tryd.prog.globals[(6 : Nat)]?).map (·.type)).isSome = true by kernel_rfl)
  have h := v0b os
  rw [ht, Option.bind_some] at h
  exact ⟨6, t, tab0, 8, [], by kernel_rfl, ht, v0a os, h, by kernel_rfl⟩

theorem v1a (os : Os) : (memory os).var? Tryd.prog "math/bits.deBruijn64tab" = some tab1 := by kernel_rfl
theorem v1b (os : Os) : ((Tryd.prog.globals[(7 : Nat)]?).map (·.type)).bind (fun t => DataW.trod (fun _ => ()) Tryd.prog (memory os) 0 (fun _ => true) false 8 t tab1.toList) = some (Rows.laid_math_bits_deBruijn64tab, []) := by kernel_rfl
theorem v1 (os : Os) : ∃ g t cs fuel p, Tryd.prog.globalNamed "math/bits.deBruijn64tab" = some g ∧ (Tryd.prog.globals[g]?).map (·.type) = some t ∧ (memory os).var? Tryd.prog "math/bits.deBruijn64tab" = some cs ∧ DataW.trod (fun _ => ()) Tryd.prog (memory os) 0 (fun _ => true) false fuel t cs.toList = some (Rows.laid_math_bits_deBruijn64tab, p) ∧ MemPlace.row ⟨g, 0, none⟩ cs.size ++ p = runsOf [(7, 64)] := by
  obtain ⟨t, ht⟩ := Option.isSome_iff_exists.1 (show ((Tryd.prog.globals[(7 : Nat)]?).map (·.type)).isSome = true by kernel_rfl)
  have h := v1b os
  rw [ht, Option.bind_some] at h
  exact ⟨7, t, tab1, 8, [], by kernel_rfl, ht, v1a os, h, by kernel_rfl⟩

theorem v2a (os : Os) : (memory os).var? Tryd.prog "internal/strconv.float32info" = some tab2 := by kernel_rfl
theorem v2b (os : Os) : ((Tryd.prog.globals[(8 : Nat)]?).map (·.type)).bind (fun t => DataW.trod (fun _ => ()) Tryd.prog (memory os) 0 (fun _ => true) false 8 t tab2.toList) = some (Rows.laid_internal_strconv_float32info, []) := by kernel_rfl
theorem v2 (os : Os) : ∃ g t cs fuel p, Tryd.prog.globalNamed "internal/strconv.float32info" = some g ∧ (Tryd.prog.globals[g]?).map (·.type) = some t ∧ (memory os).var? Tryd.prog "internal/strconv.float32info" = some cs ∧ DataW.trod (fun _ => ()) Tryd.prog (memory os) 0 (fun _ => true) false fuel t cs.toList = some (Rows.laid_internal_strconv_float32info, p) ∧ MemPlace.row ⟨g, 0, none⟩ cs.size ++ p = runsOf [(8, 3)] := by
  obtain ⟨t, ht⟩ := Option.isSome_iff_exists.1 (show ((Tryd.prog.globals[(8 : Nat)]?).map (·.type)).isSome = true by kernel_rfl)
  have h := v2b os
  rw [ht, Option.bind_some] at h
  exact ⟨8, t, tab2, 8, [], by kernel_rfl, ht, v2a os, h, by kernel_rfl⟩

theorem v3a (os : Os) : (memory os).var? Tryd.prog "internal/strconv.float64info" = some tab3 := by kernel_rfl
theorem v3b (os : Os) : ((Tryd.prog.globals[(9 : Nat)]?).map (·.type)).bind (fun t => DataW.trod (fun _ => ()) Tryd.prog (memory os) 0 (fun _ => true) false 8 t tab3.toList) = some (Rows.laid_internal_strconv_float64info, []) := by kernel_rfl
theorem v3 (os : Os) : ∃ g t cs fuel p, Tryd.prog.globalNamed "internal/strconv.float64info" = some g ∧ (Tryd.prog.globals[g]?).map (·.type) = some t ∧ (memory os).var? Tryd.prog "internal/strconv.float64info" = some cs ∧ DataW.trod (fun _ => ()) Tryd.prog (memory os) 0 (fun _ => true) false fuel t cs.toList = some (Rows.laid_internal_strconv_float64info, p) ∧ MemPlace.row ⟨g, 0, none⟩ cs.size ++ p = runsOf [(9, 3)] := by
  obtain ⟨t, ht⟩ := Option.isSome_iff_exists.1 (show ((Tryd.prog.globals[(9 : Nat)]?).map (·.type)).isSome = true by kernel_rfl)
  have h := v3b os
  rw [ht, Option.bind_some] at h
  exact ⟨9, t, tab3, 8, [], by kernel_rfl, ht, v3a os, h, by kernel_rfl⟩

theorem v4a (os : Os) : (memory os).var? Tryd.prog "internal/strconv.optimize" = some tab4 := by kernel_rfl
theorem v4b (os : Os) : ((Tryd.prog.globals[(0 : Nat)]?).map (·.type)).bind (fun t => DataW.trod (fun _ => ()) Tryd.prog (memory os) 0 (fun _ => true) false 8 t tab4.toList) = some (Rows.laid_internal_strconv_optimize, []) := by kernel_rfl
theorem v4 (os : Os) : ∃ g t cs fuel p, Tryd.prog.globalNamed "internal/strconv.optimize" = some g ∧ (Tryd.prog.globals[g]?).map (·.type) = some t ∧ (memory os).var? Tryd.prog "internal/strconv.optimize" = some cs ∧ DataW.trod (fun _ => ()) Tryd.prog (memory os) 0 (fun _ => true) false fuel t cs.toList = some (Rows.laid_internal_strconv_optimize, p) ∧ MemPlace.row ⟨g, 0, none⟩ cs.size ++ p = runsOf [(0, 1)] := by
  obtain ⟨t, ht⟩ := Option.isSome_iff_exists.1 (show ((Tryd.prog.globals[(0 : Nat)]?).map (·.type)).isSome = true by kernel_rfl)
  have h := v4b os
  rw [ht, Option.bind_some] at h
  exact ⟨0, t, tab4, 8, [], by kernel_rfl, ht, v4a os, h, by kernel_rfl⟩

theorem v5a (os : Os) : (memory os).var? Tryd.prog "internal/strconv.powtab" = some tab5 := by kernel_rfl
theorem v5b (os : Os) : ((Tryd.prog.globals[(11 : Nat)]?).map (·.type)).bind (fun t => DataW.trod (fun _ => ()) Tryd.prog (memory os) 0 (fun _ => true) false 8 t tab5.toList) = some (Rows.laid_internal_strconv_powtab, MemPlace.row ⟨low + 0, 0, none⟩ 9) := by kernel_rfl
theorem v5 (os : Os) : ∃ g t cs fuel p, Tryd.prog.globalNamed "internal/strconv.powtab" = some g ∧ (Tryd.prog.globals[g]?).map (·.type) = some t ∧ (memory os).var? Tryd.prog "internal/strconv.powtab" = some cs ∧ DataW.trod (fun _ => ()) Tryd.prog (memory os) 0 (fun _ => true) false fuel t cs.toList = some (Rows.laid_internal_strconv_powtab, p) ∧ MemPlace.row ⟨g, 0, none⟩ cs.size ++ p = runsOf [(11, 1), (low + 0, 9)] := by
  obtain ⟨t, ht⟩ := Option.isSome_iff_exists.1 (show ((Tryd.prog.globals[(11 : Nat)]?).map (·.type)).isSome = true by kernel_rfl)
  have h := v5b os
  rw [ht, Option.bind_some] at h
  exact ⟨11, t, tab5, 8, MemPlace.row ⟨low + 0, 0, none⟩ 9, by kernel_rfl, ht, v5a os, h, by kernel_rfl⟩

theorem v6a (os : Os) : (memory os).var? Tryd.prog "internal/strconv.float64pow10" = some tab6 := by kernel_rfl
theorem v6b (os : Os) : ((Tryd.prog.globals[(12 : Nat)]?).map (·.type)).bind (fun t => DataW.trod (fun _ => ()) Tryd.prog (memory os) 0 (fun _ => true) false 8 t tab6.toList) = some (Rows.laid_internal_strconv_float64pow10, MemPlace.row ⟨low + 1, 0, none⟩ 23) := by kernel_rfl
theorem v6 (os : Os) : ∃ g t cs fuel p, Tryd.prog.globalNamed "internal/strconv.float64pow10" = some g ∧ (Tryd.prog.globals[g]?).map (·.type) = some t ∧ (memory os).var? Tryd.prog "internal/strconv.float64pow10" = some cs ∧ DataW.trod (fun _ => ()) Tryd.prog (memory os) 0 (fun _ => true) false fuel t cs.toList = some (Rows.laid_internal_strconv_float64pow10, p) ∧ MemPlace.row ⟨g, 0, none⟩ cs.size ++ p = runsOf [(12, 1), (low + 1, 23)] := by
  obtain ⟨t, ht⟩ := Option.isSome_iff_exists.1 (show ((Tryd.prog.globals[(12 : Nat)]?).map (·.type)).isSome = true by kernel_rfl)
  have h := v6b os
  rw [ht, Option.bind_some] at h
  exact ⟨12, t, tab6, 8, MemPlace.row ⟨low + 1, 0, none⟩ 23, by kernel_rfl, ht, v6a os, h, by kernel_rfl⟩

theorem v7a (os : Os) : (memory os).var? Tryd.prog "internal/strconv.float32pow10" = some tab7 := by kernel_rfl
theorem v7b (os : Os) : ((Tryd.prog.globals[(10 : Nat)]?).map (·.type)).bind (fun t => DataW.trod (fun _ => ()) Tryd.prog (memory os) 0 (fun _ => true) false 8 t tab7.toList) = some (Rows.laid_internal_strconv_float32pow10, MemPlace.row ⟨low + 2, 0, none⟩ 11) := by kernel_rfl
theorem v7 (os : Os) : ∃ g t cs fuel p, Tryd.prog.globalNamed "internal/strconv.float32pow10" = some g ∧ (Tryd.prog.globals[g]?).map (·.type) = some t ∧ (memory os).var? Tryd.prog "internal/strconv.float32pow10" = some cs ∧ DataW.trod (fun _ => ()) Tryd.prog (memory os) 0 (fun _ => true) false fuel t cs.toList = some (Rows.laid_internal_strconv_float32pow10, p) ∧ MemPlace.row ⟨g, 0, none⟩ cs.size ++ p = runsOf [(10, 1), (low + 2, 11)] := by
  obtain ⟨t, ht⟩ := Option.isSome_iff_exists.1 (show ((Tryd.prog.globals[(10 : Nat)]?).map (·.type)).isSome = true by kernel_rfl)
  have h := v7b os
  rw [ht, Option.bind_some] at h
  exact ⟨10, t, tab7, 8, MemPlace.row ⟨low + 2, 0, none⟩ 11, by kernel_rfl, ht, v7a os, h, by kernel_rfl⟩

theorem v8a (os : Os) : (memory os).var? Tryd.prog "internal/strconv.uint64pow10" = some tab8 := by kernel_rfl
theorem v8b (os : Os) : ((Tryd.prog.globals[(1 : Nat)]?).map (·.type)).bind (fun t => DataW.trod (fun _ => ()) Tryd.prog (memory os) 0 (fun _ => true) false 8 t tab8.toList) = some (Rows.laid_internal_strconv_uint64pow10, []) := by kernel_rfl
theorem v8 (os : Os) : ∃ g t cs fuel p, Tryd.prog.globalNamed "internal/strconv.uint64pow10" = some g ∧ (Tryd.prog.globals[g]?).map (·.type) = some t ∧ (memory os).var? Tryd.prog "internal/strconv.uint64pow10" = some cs ∧ DataW.trod (fun _ => ()) Tryd.prog (memory os) 0 (fun _ => true) false fuel t cs.toList = some (Rows.laid_internal_strconv_uint64pow10, p) ∧ MemPlace.row ⟨g, 0, none⟩ cs.size ++ p = runsOf [(1, 20)] := by
  obtain ⟨t, ht⟩ := Option.isSome_iff_exists.1 (show ((Tryd.prog.globals[(1 : Nat)]?).map (·.type)).isSome = true by kernel_rfl)
  have h := v8b os
  rw [ht, Option.bind_some] at h
  exact ⟨1, t, tab8, 8, [], by kernel_rfl, ht, v8a os, h, by kernel_rfl⟩

theorem v9a (os : Os) : (memory os).var? Tryd.prog "strconv.ErrRange" = some tab9 := by kernel_rfl
theorem v9b (os : Os) : ((Tryd.prog.globals[(3 : Nat)]?).map (·.type)).bind (fun t => DataW.trod (fun _ => ()) Tryd.prog (memory os) 0 (fun _ => true) false 8 t tab9.toList) = some (Rows.laid_strconv_ErrRange, MemPlace.row ⟨low + 3, 0, none⟩ 1) := by kernel_rfl
theorem v9 (os : Os) : ∃ g t cs fuel p, Tryd.prog.globalNamed "strconv.ErrRange" = some g ∧ (Tryd.prog.globals[g]?).map (·.type) = some t ∧ (memory os).var? Tryd.prog "strconv.ErrRange" = some cs ∧ DataW.trod (fun _ => ()) Tryd.prog (memory os) 0 (fun _ => true) false fuel t cs.toList = some (Rows.laid_strconv_ErrRange, p) ∧ MemPlace.row ⟨g, 0, none⟩ cs.size ++ p = runsOf [(3, 1), (low + 3, 1)] := by
  obtain ⟨t, ht⟩ := Option.isSome_iff_exists.1 (show ((Tryd.prog.globals[(3 : Nat)]?).map (·.type)).isSome = true by kernel_rfl)
  have h := v9b os
  rw [ht, Option.bind_some] at h
  exact ⟨3, t, tab9, 8, MemPlace.row ⟨low + 3, 0, none⟩ 1, by kernel_rfl, ht, v9a os, h, by kernel_rfl⟩

theorem v10a (os : Os) : (memory os).var? Tryd.prog "strconv.ErrSyntax" = some tab10 := by kernel_rfl
theorem v10b (os : Os) : ((Tryd.prog.globals[(2 : Nat)]?).map (·.type)).bind (fun t => DataW.trod (fun _ => ()) Tryd.prog (memory os) 0 (fun _ => true) false 8 t tab10.toList) = some (Rows.laid_strconv_ErrSyntax, MemPlace.row ⟨low + 4, 0, none⟩ 1) := by kernel_rfl
theorem v10 (os : Os) : ∃ g t cs fuel p, Tryd.prog.globalNamed "strconv.ErrSyntax" = some g ∧ (Tryd.prog.globals[g]?).map (·.type) = some t ∧ (memory os).var? Tryd.prog "strconv.ErrSyntax" = some cs ∧ DataW.trod (fun _ => ()) Tryd.prog (memory os) 0 (fun _ => true) false fuel t cs.toList = some (Rows.laid_strconv_ErrSyntax, p) ∧ MemPlace.row ⟨g, 0, none⟩ cs.size ++ p = runsOf [(2, 1), (low + 4, 1)] := by
  obtain ⟨t, ht⟩ := Option.isSome_iff_exists.1 (show ((Tryd.prog.globals[(2 : Nat)]?).map (·.type)).isSome = true by kernel_rfl)
  have h := v10b os
  rw [ht, Option.bind_some] at h
  exact ⟨2, t, tab10, 8, MemPlace.row ⟨low + 4, 0, none⟩ 1, by kernel_rfl, ht, v10a os, h, by kernel_rfl⟩

theorem v11a (os : Os) : (memory os).var? Tryd.prog "internal/strconv.leftcheats" = some tab11 := by kernel_rfl
theorem v11b (os : Os) : ((Tryd.prog.globals[(5 : Nat)]?).map (·.type)).bind (fun t => DataW.trod (fun _ => ()) Tryd.prog (memory os) 0 (fun _ => true) false 8 t tab11.toList) = some (Rows.laid_internal_strconv_leftcheats, MemPlace.row ⟨low + 5, 0, none⟩ 122) := by kernel_rfl
theorem v11 (os : Os) : ∃ g t cs fuel p, Tryd.prog.globalNamed "internal/strconv.leftcheats" = some g ∧ (Tryd.prog.globals[g]?).map (·.type) = some t ∧ (memory os).var? Tryd.prog "internal/strconv.leftcheats" = some cs ∧ DataW.trod (fun _ => ()) Tryd.prog (memory os) 0 (fun _ => true) false fuel t cs.toList = some (Rows.laid_internal_strconv_leftcheats, p) ∧ MemPlace.row ⟨g, 0, none⟩ cs.size ++ p = runsOf [(5, 1), (low + 5, 122)] := by
  obtain ⟨t, ht⟩ := Option.isSome_iff_exists.1 (show ((Tryd.prog.globals[(5 : Nat)]?).map (·.type)).isSome = true by kernel_rfl)
  have h := v11b os
  rw [ht, Option.bind_some] at h
  exact ⟨5, t, tab11, 8, MemPlace.row ⟨low + 5, 0, none⟩ 122, by kernel_rfl, ht, v11a os, h, by kernel_rfl⟩

theorem v12a (os : Os) : (memory os).var? Tryd.prog "internal/strconv.pow10Tab" = some tab12 := by kernel_rfl
theorem v12b (os : Os) : ((Tryd.prog.globals[(4 : Nat)]?).map (·.type)).bind (fun t => DataW.trod (fun _ => ()) Tryd.prog (memory os) 0 (fun _ => true) false 8 t tab12.toList) = some (Rows.laid_internal_strconv_pow10Tab, []) := by kernel_rfl
theorem v12 (os : Os) : ∃ g t cs fuel p, Tryd.prog.globalNamed "internal/strconv.pow10Tab" = some g ∧ (Tryd.prog.globals[g]?).map (·.type) = some t ∧ (memory os).var? Tryd.prog "internal/strconv.pow10Tab" = some cs ∧ DataW.trod (fun _ => ()) Tryd.prog (memory os) 0 (fun _ => true) false fuel t cs.toList = some (Rows.laid_internal_strconv_pow10Tab, p) ∧ MemPlace.row ⟨g, 0, none⟩ cs.size ++ p = runsOf [(4, 1392)] := by
  obtain ⟨t, ht⟩ := Option.isSome_iff_exists.1 (show ((Tryd.prog.globals[(4 : Nat)]?).map (·.type)).isSome = true by kernel_rfl)
  have h := v12b os
  rw [ht, Option.bind_some] at h
  exact ⟨4, t, tab12, 8, [], by kernel_rfl, ht, v12a os, h, by kernel_rfl⟩

theorem b0 (os : Os) : blockOk Tryd.prog (memory os) (6) = true := by kernel_rfl
theorem b1 (os : Os) : blockOk Tryd.prog (memory os) (7) = true := by kernel_rfl
theorem b2 (os : Os) : blockOk Tryd.prog (memory os) (8) = true := by kernel_rfl
theorem b3 (os : Os) : blockOk Tryd.prog (memory os) (9) = true := by kernel_rfl
theorem b4 (os : Os) : blockOk Tryd.prog (memory os) (0) = true := by kernel_rfl
theorem b5 (os : Os) : blockOk Tryd.prog (memory os) (11) = true := by kernel_rfl
theorem b6 (os : Os) : blockOk Tryd.prog (memory os) (low + 0) = true := by kernel_rfl
theorem b7 (os : Os) : blockOk Tryd.prog (memory os) (12) = true := by kernel_rfl
theorem b8 (os : Os) : blockOk Tryd.prog (memory os) (low + 1) = true := by kernel_rfl
theorem b9 (os : Os) : blockOk Tryd.prog (memory os) (10) = true := by kernel_rfl
theorem b10 (os : Os) : blockOk Tryd.prog (memory os) (low + 2) = true := by kernel_rfl
theorem b11 (os : Os) : blockOk Tryd.prog (memory os) (1) = true := by kernel_rfl
theorem b12 (os : Os) : blockOk Tryd.prog (memory os) (3) = true := by kernel_rfl
theorem b13 (os : Os) : blockOk Tryd.prog (memory os) (low + 3) = true := by kernel_rfl
theorem b14 (os : Os) : blockOk Tryd.prog (memory os) (2) = true := by kernel_rfl
theorem b15 (os : Os) : blockOk Tryd.prog (memory os) (low + 4) = true := by kernel_rfl
theorem b16 (os : Os) : blockOk Tryd.prog (memory os) (5) = true := by kernel_rfl
theorem b17 (os : Os) : blockOk Tryd.prog (memory os) (low + 5) = true := by kernel_rfl
theorem b18 (os : Os) : blockOk Tryd.prog (memory os) (4) = true := by kernel_rfl
theorem laid_met (os : Os) : laidMet Tryd.prog Rows.fnCastIntFloatRow.laid ((laidWorld os).forCall (fun _ _ => 0) ⟨#[], #[.int .i64 0, .int .i64 0, .int .u64 0], []⟩).memory := by
  refine laidMet_runs ([(6, 32)] ++ ([(7, 64)] ++ ([(8, 3)] ++ ([(9, 3)] ++ ([(0, 1)] ++ ([(11, 1), (low + 0, 9)] ++ ([(12, 1), (low + 1, 23)] ++ ([(10, 1), (low + 2, 11)] ++ ([(1, 20)] ++ ([(3, 1), (low + 3, 1)] ++ ([(2, 1), (low + 4, 1)] ++ ([(5, 1), (low + 5, 122)] ++ ([(4, 1392)] ++ []))))))))))))) (w := memory os) ?_ (by decide +kernel) ?_
  · exact laid_cons (v0 os) (laid_cons (v1 os) (laid_cons (v2 os) (laid_cons (v3 os) (laid_cons (v4 os) (laid_cons (v5 os) (laid_cons (v6 os) (laid_cons (v7 os) (laid_cons (v8 os) (laid_cons (v9 os) (laid_cons (v10 os) (laid_cons (v11 os) (laid_cons (v12 os) (laid_nil)))))))))))))
  · show ∀ b ∈ [6, 7, 8, 9, 0, 11, low + 0, 12, low + 1, 10, low + 2, 1, 3, low + 3, 2, low + 4, 5, low + 5, 4], blockOk Tryd.prog (memory os) b = true
    exact List.forall_mem_cons.2 ⟨b0 os, List.forall_mem_cons.2 ⟨b1 os, List.forall_mem_cons.2 ⟨b2 os, List.forall_mem_cons.2 ⟨b3 os, List.forall_mem_cons.2 ⟨b4 os, List.forall_mem_cons.2 ⟨b5 os, List.forall_mem_cons.2 ⟨b6 os, List.forall_mem_cons.2 ⟨b7 os, List.forall_mem_cons.2 ⟨b8 os, List.forall_mem_cons.2 ⟨b9 os, List.forall_mem_cons.2 ⟨b10 os, List.forall_mem_cons.2 ⟨b11 os, List.forall_mem_cons.2 ⟨b12 os, List.forall_mem_cons.2 ⟨b13 os, List.forall_mem_cons.2 ⟨b14 os, List.forall_mem_cons.2 ⟨b15 os, List.forall_mem_cons.2 ⟨b16 os, List.forall_mem_cons.2 ⟨b17 os, List.forall_mem_cons.2 ⟨b18 os, (fun _ h => by cases h)⟩⟩⟩⟩⟩⟩⟩⟩⟩⟩⟩⟩⟩⟩⟩⟩⟩⟩⟩
theorem reads (os : Os) {H : Type} (enc : TypeId × Value → H) : ∃ places, DataW.whole enc Tryd.prog ((laidWorld os).forCall (fun _ _ => 0) ⟨#[], #[.int .i64 0, .int .i64 0, .int .u64 0], []⟩).memory Tryd.f6.params.toList Rows.fnCastIntFloatSpec.vars false (#[.int .i64 0, .int .i64 0, .int .u64 0] : Array Value).toList 8 = some ([.lit (.int .i64 0), .lit (.int .i64 0), .lit (.int .u64 0)], [], places) :=
  ⟨[], by kernel_rfl⟩

noncomputable abbrev atCall (os : Os) : World := (laidWorld os).forCall (fun _ _ => 0) ⟨#[], #[.int .i64 0, .int .i64 0, .int .u64 0], []⟩
theorem c1 : Tryd.checked.prog.inits.idxOf? 6 = none := by kernel_rfl
/-- One variable of the witness. -/
def refAt (P : Program) (w : World) (g : Nat) : Bool :=
    match ((begin P (fun _ _ => 0) default).world.heap[g]?).bind Obj.row? with
    | none => true
    | some (zero, t) =>
      match w.heap[g]? with
      | some (.cells cs t' frozen) => decide (t' = t) && decide (frozen = (0, 0)) && cs.size == zero.size && (!P.buildable t || Row.okRefB P w t cs)
      | _ => false
theorem refAll (P : Program) (w : World) : World.variablesRefB P w = (List.range P.globals.size).all (refAt P w) := rfl
theorem refAt_all {P : Program} {w : World} {g n : Nat} {z : Value} {cs : Array Value} {u t : TypeId} (h0 : ((begin P (fun _ _ => 0) default).world.heap[g]?).bind Obj.row? = some (Array.replicate n z, t)) (h1 : w.heap[g]? = some (.cells cs t (0, 0))) (h2 : P.cellTypes P.depth t = some (List.replicate n u)) (hn : cs.size = n) (h3 : (cs.toList.all fun v => Cell.okRefB P w u v) = true) : refAt P w g = true := by
  unfold refAt
  rw [h0]
  simp only [h1]
  have hr : Row.okRefB P w t cs = true := by
    unfold Row.okRefB
    rw [h2]
    simp only [List.length_replicate, hn, Nat.mod_self, beq_self_eq_true, Bool.true_and, List.all_eq_true, List.mem_range]
    intro i hi
    have hi2 : i < cs.size := by omega
    rw [Array.getElem?_eq_getElem hi2, Nat.mod_eq_of_lt hi, List.getElem?_replicate, if_pos hi]
    exact List.all_eq_true.1 h3 _ (by rw [Array.mem_toList_iff]; exact Array.getElem_mem hi2)
  rw [hr]
  simp [hn]
theorem refAt_rep {P : Program} {w : World} {g n : Nat} {z : Value} {u t : TypeId} (h0 : ((begin P (fun _ _ => 0) default).world.heap[g]?).bind Obj.row? = some (Array.replicate n z, t)) (h1 : w.heap[g]? = some (.cells (Array.replicate n z) t (0, 0))) (h2 : P.cellTypes P.depth t = some (List.replicate n u)) (h3 : Cell.okRefB P w u z = true) (hn : 0 < n) : refAt P w g = true := by
  unfold refAt
  rw [h0]
  simp only [h1]
  have hr : Row.okRefB P w t (Array.replicate n z) = true := by
    unfold Row.okRefB
    rw [h2]
    simp only [Array.size_replicate, List.length_replicate, Nat.mod_self, beq_self_eq_true, Bool.true_and, List.all_eq_true, List.mem_range]
    intro i hi
    rw [Array.getElem?_replicate, if_pos hi, Nat.mod_eq_of_lt hi, List.getElem?_replicate, if_pos hi]
    exact h3
  rw [hr]
  simp
theorem r0 (os : Os) : refAt Tryd.checked.prog (atCall os) 0 = true := by kernel_rfl
theorem r1 (os : Os) : refAt Tryd.checked.prog (atCall os) 1 = true := by kernel_rfl
theorem r2 (os : Os) : refAt Tryd.checked.prog (atCall os) 2 = true := by kernel_rfl
theorem r3 (os : Os) : refAt Tryd.checked.prog (atCall os) 3 = true := by kernel_rfl
theorem r4 (os : Os) : refAt Tryd.checked.prog (atCall os) 4 = true := refAt_all (n := 1392) (z := .int .u64 0) (cs := tab12) (u := 22) (t := 215) (by kernel_rfl) (by kernel_rfl) (by kernel_rfl) (by kernel_rfl) (by kernel_rfl)
theorem r5 (os : Os) : refAt Tryd.checked.prog (atCall os) 5 = true := by kernel_rfl
theorem r6 (os : Os) : refAt Tryd.checked.prog (atCall os) 6 = true := by kernel_rfl
theorem r7 (os : Os) : refAt Tryd.checked.prog (atCall os) 7 = true := by kernel_rfl
theorem r8 (os : Os) : refAt Tryd.checked.prog (atCall os) 8 = true := by kernel_rfl
theorem r9 (os : Os) : refAt Tryd.checked.prog (atCall os) 9 = true := by kernel_rfl
theorem r10 (os : Os) : refAt Tryd.checked.prog (atCall os) 10 = true := by kernel_rfl
theorem r11 (os : Os) : refAt Tryd.checked.prog (atCall os) 11 = true := by kernel_rfl
theorem r12 (os : Os) : refAt Tryd.checked.prog (atCall os) 12 = true := by kernel_rfl
theorem r13 (os : Os) : refAt Tryd.checked.prog (atCall os) 13 = true := by kernel_rfl
theorem r14 (os : Os) : refAt Tryd.checked.prog (atCall os) 14 = true := by kernel_rfl
theorem r15 (os : Os) : refAt Tryd.checked.prog (atCall os) 15 = true := by kernel_rfl
theorem r16 (os : Os) : refAt Tryd.checked.prog (atCall os) 16 = true := by kernel_rfl
theorem r17 (os : Os) : refAt Tryd.checked.prog (atCall os) 17 = true := by kernel_rfl
theorem r18 (os : Os) : refAt Tryd.checked.prog (atCall os) 18 = true := by kernel_rfl
theorem r19 (os : Os) : refAt Tryd.checked.prog (atCall os) 19 = true := by kernel_rfl
theorem r20 (os : Os) : refAt Tryd.checked.prog (atCall os) 20 = true := by kernel_rfl
theorem r21 (os : Os) : refAt Tryd.checked.prog (atCall os) 21 = true := by kernel_rfl
theorem c2 (os : Os) : World.variablesRefB Tryd.checked.prog (atCall os) = true := by
  have hs : Tryd.checked.prog.globals.size = 22 := by kernel_rfl
  rw [refAll, hs]
  rw [show List.range 22 = [0, 1, 2, 3, 4, 5, 6, 7, 8, 9, 10, 11, 12, 13, 14, 15, 16, 17, 18, 19, 20, 21] from rfl]
  simp only [List.all_cons, List.all_nil, Bool.and_true, r0 os, r1 os, r2 os, r3 os, r4 os, r5 os, r6 os, r7 os, r8 os, r9 os, r10 os, r11 os, r12 os, r13 os, r14 os, r15 os, r16 os, r17 os, r18 os, r19 os, r20 os, r21 os]
theorem c3 (os : Os) : List.take ((begin Tryd.checked.prog (fun _ _ => 0) default).world.heap.size - Tryd.checked.prog.globals.size) (List.drop Tryd.checked.prog.globals.size (atCall os).heap.toList) = List.drop Tryd.checked.prog.globals.size (begin Tryd.checked.prog (fun _ _ => 0) default).world.heap.toList := by kernel_rfl
theorem c4 (os : Os) : Input.okWideB Tryd.checked.prog (atCall os) 6 ⟨#[], #[.int .i64 0, .int .i64 0, .int .u64 0], []⟩ = true := by kernel_rfl
theorem c6 (os : Os) {H : Type} (enc : TypeId × Value → H) : ChangeSpec.sizedB enc Tryd.checked.prog Tryd.f6 (OpenSpec.ofChange Rows.fnCastIntFloatSpec).bare false (atCall os).memory #[.int .i64 0, .int .i64 0, .int .u64 0] 8 = true := by kernel_rfl
theorem c7 : (Tryd.f6.params.toList.all fun t => Tryd.prog.readableRec t && decide (t < Tryd.prog.types.size)) = true := by kernel_rfl

set_option maxRecDepth 100000 in
theorem lifted (os : Os) (started : os.Started) (H : Type) (enc : TypeId × Value → H) (F : Stop.Interp) :
    ReturnsInHanded {} Tryd.checked os 6 .any ((OpenSpec.ofChange Rows.fnCastIntFloatSpec).preRow enc Tryd.prog Tryd.f6 Rows.fnCastIntFloatRow.domain false Rows.fnCastIntFloatRow.laid) (((OpenSpec.ofChange Rows.fnCastIntFloatSpec).at F).post enc Tryd.prog Tryd.f6 false true false false) := by
  obtain ⟨places, hx⟩ := reads os enc
  refine returnsInHanded_of_row (C := Tryd.checked) (s := OpenSpec.ofChange Rows.fnCastIntFloatSpec) Tryd.own started c1 Tryd.func6
    (witness_row_atRef (enc := enc) (C := Tryd.checked) false (laidWorld os) #[.int .i64 0, .int .i64 0, .int .u64 0] rfl (c2 os) (c3 os) (c4 os)
      (OpenSpec.preRow_of_cond 8 hx (by kernel_rfl) (fun k hk => by cases hk) (c6 os enc) (laid_met os))) ?_
  intro W base args ds gs before hval0 hW _ _ _ hL _ _
  have hval : ∀ (j : Nat) t v, Tryd.f6.params[j]? = some t → args[j]? = some v → Value.okWide Tryd.prog W .any base t v := hval0
  have hpost := fun W' => law_post (W' := W') (s := Rows.fnCastIntFloatSpec) Tryd.laidOut c7 (tb := 4) rfl Tryd.underlying4 rfl (fun ds h => by match ds, h with | [_, _, _], _ => rfl) hW
  obtain ⟨p, q, hA0, hV, rfl, hfz, hnd⟩ := hW
  have hA : DataW.TrodAll enc Tryd.prog W 0 (fun _ => true) true Tryd.f6.params.toList args.toList ds p := hA0
  clear hA0 hval0
  rw [Tryd.params6] at hA hval
  obtain ⟨v0, vs0, d0, ds0, p0, q0, hargs, rfl, rfl, h0, hr0⟩ := trodAll_cons hA
  obtain ⟨v1, vs1, d1, ds1, p1, q1, rfl, rfl, rfl, h1, hr1⟩ := trodAll_cons hr0
  obtain ⟨v2, vs2, d2, ds2, p2, q2, rfl, rfl, rfl, h2, hr2⟩ := trodAll_cons hr1
  obtain ⟨rfl, rfl, rfl⟩ := trodAll_nil hr2
  obtain rfl : args = #[v0, v1, v2] := by cases args; simp_all
  obtain ⟨a0, rfl, rfl, rfl, hw0⟩ := open_int Tryd.underlying3 (hval 0 3 v0 rfl rfl) h0
  obtain ⟨a1, rfl, rfl, rfl, hw1⟩ := open_int Tryd.underlying2 (hval 1 2 v1 rfl rfl) h1
  obtain ⟨a2, rfl, rfl, rfl, hw2⟩ := open_int Tryd.underlying22 (hval 2 22 v2 rfl rfl) h2
  refine (fnCastIntFloat_any a0 a1 a2 W (wf_i64 hw1) (wf_u64 hw2)).mono fun e W' ⟨he, hb⟩ => ?_
  subst he
  exact ⟨_, rfl, hpost W' hb⟩

theorem said : Rows.FnCastIntFloatSaid :=
  OpenClaim.holds_of_cond 6 Tryd.f6 rfl rfl rfl rfl rfl rfl rfl ⟨rfl, rfl, rfl, rfl, rfl⟩ rfl rfl rfl rfl rfl (by kernel_rfl) Tryd.func6 (by kernel_rfl)
    (of_decide_eq_true (by kernel_rfl)) (by unfold Func.isWrapper; first | (rw [if_pos (by decide +kernel)]; kernel_rfl) | (rw [if_neg (by decide +kernel)]; exact ⟨rfl, rfl⟩))
    (fun os started H enc _ F => by rw [OpenClaim.pre_eq_preRow]; exact lifted os started H enc F)

theorem plain (f : FuncId) (fn : Func) (hf : Tryd.pinned.checked.prog.funcNamed "pub-ensign/laws.FnCastIntFloat" = some f) (hfn : Tryd.pinned.checked.prog.funcs[f]? = some fn) :
    true = Tryd.pinned.checked.prog.looks [] ∧ ∀ (j : Nat) t, fn.params[j]? = some t → Tryd.pinned.checked.prog.wantsStandIn t = false := by
  obtain rfl : f = 6 := Option.some.inj ((show Tryd.prog.funcNamed "pub-ensign/laws.FnCastIntFloat" = some 6 by kernel_rfl).symm.trans hf) |>.symm
  obtain rfl : fn = Tryd.f6 := (Option.some.inj (Tryd.func6.symm.trans hfn)).symm
  refine ⟨by kernel_rfl, fun j t ht => ?_⟩
  have h : Tryd.f6.params.toList.all (fun t => !Tryd.prog.wantsStandIn t) = true := by kernel_rfl
  have := List.all_eq_true.1 h t (Array.mem_toList_iff.2 (Array.mem_of_getElem? ht))
  have e : Tryd.prog.wantsStandIn t = false := by simpa using this
  exact e

theorem card : Rows.FnCastIntFloatCardSaid :=
  Claim7.holds_tied_plain_at .later [] _ _ _ _ said (fun _ h => by cases h) (by kernel_rfl) (fun _ h => by cases h) fnCastIntFloat_row_tie rfl ⟨rfl, rfl⟩ (by kernel_rfl) rfl plain (by kernel_rfl)
#print axioms card
end Go.Proofs.YtcelhnnnaakkeaaDoor.E.fnCastIntFloat
