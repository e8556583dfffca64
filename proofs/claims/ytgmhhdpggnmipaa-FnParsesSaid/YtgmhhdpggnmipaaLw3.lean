/- laws.lives14 over this seat's program: true. Written by gen_lw3.py. -/
import Derived.Test.YtgmhhdpggnmipaaLw2
import Derived.Test.YtgmhhdpggnmipaaSp2
namespace Go.Proofs.Ytgmhhdpggnmipaa.E
open Go.RowKit Go.Proofs
set_option linter.unusedVariables false
set_option linter.unusedSimpArgs false

def liveS : SetP := ⟨[⟨[110, 117, 109], [110], [], []⟩], false, false, 0⟩
theorem live_right : Right liveS := right_of (by decide) (by decide +kernel)
theorem live_goes : goes liveS none st0 [[45, 110, 53], [120]] = ⟨[(0, [53])], [[120]], -1, .no⟩ := by kernel_rfl

theorem live_set (w : World) : SetOK ((w.alloc (.cells #[.string ⟨#[110, 117, 109]⟩, .string ⟨#[110]⟩, .string ⟨#[]⟩, .slice none 0 0] 47)).alloc (.cells #[.string ⟨#[45, 110, 53]⟩, .string ⟨#[120]⟩] 9)) (some ⟨w.heap.size, 0, none⟩) liveS := by
  have h0 : ((w.alloc (.cells #[.string ⟨#[110, 117, 109]⟩, .string ⟨#[110]⟩, .string ⟨#[]⟩, .slice none 0 0] 47)).alloc (.cells #[.string ⟨#[45, 110, 53]⟩, .string ⟨#[120]⟩] 9)).heap[w.heap.size]? = some (.cells #[.string ⟨#[110, 117, 109]⟩, .string ⟨#[110]⟩, .string ⟨#[]⟩, .slice none 0 0] 47 (0, 0)) :=
    block_kept (heap_alloc_new w _) ((Below.refl _ _).alloc (Nat.le_refl _) _)
  generalize (w.alloc (.cells #[.string ⟨#[110, 117, 109]⟩, .string ⟨#[110]⟩, .string ⟨#[]⟩, .slice none 0 0] 47)).alloc (.cells #[.string ⟨#[45, 110, 53]⟩, .string ⟨#[120]⟩] 9) = W at h0 ⊢
  have hi : ∀ i, i < liveS.flags.length → i = 0 := fun i h => by have : i < 1 := h; omega
  refine ⟨?_, ?_, live_right, by decide, ?_⟩
  · intro i h
    obtain rfl := hi i h
    exact ⟨w.heap.size, 0, .slice none 0 0, rfl, (cell_blk h0 0).trans rfl, (cell_blk h0 1).trans rfl, (cell_blk h0 2).trans rfl, (cell_blk h0 3).trans rfl, Texts.nil W⟩
  · intro i h b o v e hc A' n c hv
    obtain rfl := hi i h
    cases e
    have := (cell_blk h0 3).symm.trans hc
    subst hv
    cases this
  · intro i h
    obtain rfl := hi i h
    show ([110, 117, 109] : Txt).length ≤ 2147483647
    decide
theorem live_args (w : World) (o : Obj) : TextIn ((w.alloc o).alloc (.cells #[.string ⟨#[45, 110, 53]⟩, .string ⟨#[120]⟩] 9)) (.slice (some ⟨w.heap.size + 1, 0, none⟩) 2 2) ([[45, 110, 53], [120]].map mkT) := by
  have h0 : ((w.alloc o).alloc (.cells #[.string ⟨#[45, 110, 53]⟩, .string ⟨#[120]⟩] 9)).heap[w.heap.size + 1]? = some (.cells #[.string ⟨#[45, 110, 53]⟩, .string ⟨#[120]⟩] 9 (0, 0)) := by
    have h := heap_alloc_new (w.alloc o) (.cells #[.string ⟨#[45, 110, 53]⟩, .string ⟨#[120]⟩] 9)
    have e : (w.alloc o).heap.size = w.heap.size + 1 := by simp
    rw [e] at h; exact h
  refine ⟨_, 2, rfl, ?_, by decide, by decide, (fun h => by cases h), (fun a h => by cases h; exact lt_of_block h0)⟩
  intro i hi
  have hi : i < 2 := hi
  refine ⟨_, 0, rfl, ?_⟩
  match i, hi with
  | 0, _ => exact (cell_blk h0 0).trans rfl
  | 1, _ => exact (cell_blk h0 1).trans rfl

set_option maxRecDepth 100000 in
set_option maxHeartbeats 1600000 in
theorem lives_c (w : World) : Calls Try.prog 25 #[] w fun e w' => e = .returned (.bool true) ∧ Below w.heap.size w w' := by
  have hb2 : Below w.heap.size w ((w.alloc (.cells #[.string ⟨#[110, 117, 109]⟩, .string ⟨#[110]⟩, .string ⟨#[]⟩, .slice none 0 0] 47)).alloc (.cells #[.string ⟨#[45, 110, 53]⟩, .string ⟨#[120]⟩] 9)) := ((Below.refl _ w).alloc (Nat.le_refl _) _).alloc (by simp) _
  have hp := parse_c (live_set w) 1 (live_args w _) (by decide) (by decide)
  rw [live_goes] at hp
  have HP := Lib.hid (hp.mono (R' := fun e w3 => ∃ (gg gc tb t9 tc : Nat) (ca : Option Addr) (cn cc : Nat), e = .returned (.agg #[.int .i64 0, .string ⟨#[]⟩, .string ⟨#[]⟩, .string ⟨#[]⟩, .int .i64 (-1), .slice (some ⟨gg, 0, none⟩) 1 gc, .slice (some ⟨tb, t9, none⟩) 1 tc, .int .i64 (-1), .slice ca cn cc, .bool true, .bool false]) ∧
      w3.cell? ⟨gg, 1, none⟩ = some (.string ⟨#[53]⟩) ∧ w3.cell? ⟨tb, t9, none⟩ = some (.string ⟨#[120]⟩) ∧ Below w.heap.size w w3) (by
    rintro e w3 ⟨u, rfl, ho, hb3⟩
    obtain ⟨G, A, C, rfl, hin⟩ := ho.is
    obtain ⟨⟨ga, gc, rfl, hg, _⟩, ⟨ta, tc, rfl, ht, _⟩, ⟨ca, cc, rfl, _⟩⟩ := hin
    obtain ⟨gg, rfl, q1⟩ := hg 1 (.string (mkT [53])) rfl
    obtain ⟨tb, t9, ht0, q2⟩ := ht 0 (by decide)
    subst ht0
    exact ⟨gg, gc, tb, t9, tc, ca, _, cc, rfl, q1, q2, hb2.trans (hb3.mono hb2.size)⟩))
  clear hp hb2
  go_enter Try.func25, Try.ntmps25
  go_wp2_with ((with_reducible go_at_call 26); go_loud (refine (HP.out).mono ?_; rintro e w3 ⟨gg, gc, tb, t9, tc, ca, cn, cc, rfl, q1, q2, hb3⟩; have l1 : gg < w3.heap.size := (by have := World.block_lt_of_cell? w3 _ q1; simpa using this); have l2 : tb < w3.heap.size := (by have := World.block_lt_of_cell? w3 _ q2; simpa using this); have HB3 := Lib.hid hb3; clear hb3))
  go_ret
  exact ⟨rfl, HB3.out.alloc HB3.out.size _⟩
end Go.Proofs.Ytgmhhdpggnmipaa.E
