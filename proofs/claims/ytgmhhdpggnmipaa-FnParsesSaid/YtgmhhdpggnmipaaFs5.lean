/- A new set of flags, over this seat's program. -/
import Derived.Test.YtgmhhdpggnmipaaFs4
import Derived.Maps.RangeWalk
namespace Go.Proofs.Ytgmhhdpggnmipaa.E
open Go.RowKit Go.Proofs
open Go.Maps (Keyed)
set_option linter.unusedVariables false
set_option linter.unusedSimpArgs false

set_option maxRecDepth 100000 in
theorem newSet_any (w : World) : Calls Try.prog 71 #[.string ⟨#[]⟩, .int .i64 0] w fun e w' => e = .returned (.pointer (some ⟨w.heap.size, 0, none⟩)) ∧ w' = w.alloc (.cells (fsCells false false (.map none) (.slice none 0 0) (.map none) (.slice none 0 0) (.map none) (.slice none 0 0) (-1) true .nilFunc) 131) := by
  go_enter Try.func71, Try.ntmps71
  go_wp2
  go_ret
  exact ⟨rfl, rfl⟩

set_option maxRecDepth 100000 in
theorem setNorm_any (F : Nat) (fn : Fn) (ca : Array Value) (CF : Array Value) (w : World) (h : w.heap[F]? = some (.cells CF 131 (0, 0))) (h10 : CF[10]? = some (.slice none 0 0)) (h8 : CF[8]? = some (.map none)) (h16 : CF[16]? = some .nilFunc) :
    Calls Try.prog 72 #[.pointer (some ⟨F, 0, none⟩), .func fn #[] ca] w fun e w' => e = .returned (.tuple #[]) ∧ w'.heap[F]? = some (.cells ((CF.setIfInBounds 16 (.func fn #[] ca)).setIfInBounds 10 (.slice none 0 0)) 131 (0, 0)) ∧ Ch w w' (fun b => b = F) := by
  have c10 := (cell_blk h 10).trans h10
  have c8 := (cell_blk h 8).trans h8
  have c16 := (cell_blk h 16).trans h16
  have z := free_blk h
  have hB := Lib.hid h
  have lF := lt_of_block h
  have hst := fun a m W => run_store Try.prog W a (.func fn #[] ca) m rfl
  have hrg := fun W => run_range_nilMap (P := Try.prog) W 128 113 104 Try.underlying128
  have hnx : ∀ ty, (Instr.next (.pointer (some ⟨w.heap.size, 0, none⟩)) false ty).run Try.prog (((w.setCell ⟨F, 16, none⟩ (.func fn #[] ca)).setCell ⟨F, 10, none⟩ (.slice none 0 0)).alloc (.mapIter none 0 #[] 0)) = .ok (.tuple #[.bool false]) (((w.setCell ⟨F, 16, none⟩ (.func fn #[] ca)).setCell ⟨F, 10, none⟩ (.slice none 0 0)).alloc (.mapIter none 0 #[] 0)) := by
    intro ty
    have h := run_next_nilMap (P := Try.prog) ((w.setCell ⟨F, 16, none⟩ (.func fn #[] ca)).setCell ⟨F, 10, none⟩ (.slice none 0 0)) ty 0 0 #[]
    rwa [show ((w.setCell ⟨F, 16, none⟩ (.func fn #[] ca)).setCell ⟨F, 10, none⟩ (.slice none 0 0)).heap.size = w.heap.size by simp] at h
  clear h h10 h8 h16
  go_enter Try.func72, Try.ntmps72
  go_wp2
  refine wp_loop_rounds 1 ?_
  rw [rounds_succ]
  go_wp2
  go_end0
  have h2 := blk_set (blk_set hB.out 16 (.func fn #[] ca)) 10 (.slice none 0 0)
  refine ⟨rfl, ?_, (((Ch.refl w (fun b => b = F)).set ⟨F, 16, none⟩ _ (fun _ => rfl)).set ⟨F, 10, none⟩ _ (fun _ => rfl)).alloc _⟩
  rw [Below.heap_alloc _ _ _ (lt_of_block h2)]
  exact h2
end Go.Proofs.Ytgmhhdpggnmipaa.E
