/- bare's Parse, over this seat's program. Written by gen_fs15.py. -/
import Derived.Test.YtgmhhdpggnmipaaFs14
namespace Go.Proofs.Ytgmhhdpggnmipaa.E
open Go.RowKit Go.Proofs
open Go.Maps (Keyed)
set_option linter.unusedVariables false
set_option linter.unusedSimpArgs false

set_option maxRecDepth 100000 in
set_option maxHeartbeats 3200000 in
theorem parse_any (C : PC) (hR : Right C.S) (V : PV) (parsed : Bool) (st : St) (L : List Txt) (vr : Value) (w : World) (hp : Pm w C V (psOf none parsed st)) (hsz : ∀ i (h : i < C.S.flags.length), (C.S.flags[i].name).length ≤ 17179869184) (hG : st.given.length + wt L ≤ 1099511627776) (he : st.err = .no) (hr : RestAt C w vr L) (hrs : ∀ a ∈ L, a.length ≤ 8589934592) :
    Calls Try.prog 58 #[.pointer (some ⟨C.F, 0, none⟩), vr] w (GiveEnd none C true (goes C.S none { st with args := [] } L) w) := by
  obtain ⟨ti, gi, hz0, hz1, hz2⟩ := info_parts Try.infoS14
  obtain ⟨Ar, cr, rfl, hr0⟩ := hr
  have hL : L.length ≤ 1099511627776 := by have := wt_len L; omega
  have HB0 := Lib.hid ((Below.refl w.heap.size w).alloc (Nat.le_refl _) (.cells #[.pointer (some ⟨C.F, 0, none⟩)] 87))
  have HP0 := Lib.hid (hp.below HB0.out)
  have lF := lt_of_block hp.hF
  have zF := free_blk hp.hF
  have f4 : w.cell? ⟨C.F, 4, none⟩ = some (.bool parsed) := (cell_blk hp.hF 4).trans rfl
  have f12 : w.cell? ⟨C.F, 12, none⟩ = some V.av := (cell_blk hp.hF 12).trans rfl
  have f14 : w.cell? ⟨C.F, 14, none⟩ = some (.int .i64 0) := (cell_blk hp.hF 14).trans rfl
  have HQ1 := hp.setF (V' := V) (s' := psOf none true st) 4 (.bool true) rfl rfl rfl rfl rfl rfl rfl hp.am hp.odr hp.cnt hp.avr hp.lowm.2.2.2
  have HP1 := Lib.hid (HQ1.1.below ((Below.refl _ _).alloc (Nat.le_refl _) (.cells #[.pointer (some ⟨C.F, 0, none⟩)] 87)))
  have HF1 := Lib.hid (HQ1.2.trans (Fr.of_below ((Below.refl _ _).alloc (Nat.le_refl _) (.cells #[.pointer (some ⟨C.F, 0, none⟩)] 87))))
  have HBX := Lib.hid (heap_alloc_new (w.setCell ⟨C.F, 4, none⟩ (.bool true)) (.cells #[.pointer (some ⟨C.F, 0, none⟩)] 87))
  have hmk : ∃ MC : Array Value, MC.size = L.length ∧ ∀ W, (Instr.makeSlice 25 (.int .i64 0) (.int .i64 (L.length : Int))).run Try.prog W = .ok (.slice (some ⟨W.heap.size, 0, none⟩) 0 L.length) (W.alloc (.cells MC 9)) := by
    refine ⟨madeCells (Value.string ⟨#[]⟩).cells (L.length * ti.size), by rw [hz1, Nat.mul_one]; exact size_madeCells _ _, fun W => ?_⟩
    have h := run_make (P := Try.prog) W 25 9 ti _ Try.underlying25 gi hz0 .i64 .i64 0 L.length (Int.le_refl _) (by omega) (by rw [hz2]; omega) (by omega)
    simpa using h
  obtain ⟨MC, hMC, hmk⟩ := hmk
  have hs1 : ((w.setCell ⟨C.F, 4, none⟩ (.bool true)).alloc (.cells #[.pointer (some ⟨C.F, 0, none⟩)] 87)).heap.size = w.heap.size + 1 := by simp
  have HQ2 := (HP1.out.below ((Below.refl _ _).alloc (Nat.le_refl _) (.cells MC 9))).setF (V' := { V with av := .slice (some ⟨w.heap.size + 1, 0, none⟩) 0 L.length }) (s' := psOf none true { st with args := [] }) 12 (.slice (some ⟨w.heap.size + 1, 0, none⟩) 0 L.length) rfl rfl rfl rfl rfl rfl rfl
    (HP1.out.below ((Below.refl _ _).alloc (Nat.le_refl _) (.cells MC 9))).am (HP1.out.below ((Below.refl _ _).alloc (Nat.le_refl _) (.cells MC 9))).odr HP1.out.cnt
    (by
      have h := World.ownsRow_made (base := C.B1) (e := 9) (size := 1) ((w.setCell ⟨C.F, 4, none⟩ (.bool true)).alloc (.cells #[.pointer (some ⟨C.F, 0, none⟩)] 87)) MC L.length HP1.out.low.2.2.2.2.2.2 (by unfold maxLen; omega) (by rw [hMC, Nat.mul_one])
      rw [hs1] at h
      exact h) HP1.out.lowm.2.2.2 (.inr fun b hk e => by
      simp only [Value.ownBlock, Option.some.injEq] at e
      obtain ⟨cs, T, fr, hc, _⟩ := (HP1.out.kp b hk).1
      have := lt_of_block hc
      rw [hs1] at this
      omega)
  have hW : ((((w.setCell ⟨C.F, 4, none⟩ (.bool true)).alloc (.cells #[.pointer (some ⟨C.F, 0, none⟩)] 87)).alloc (.cells MC 9)).setCell ⟨C.F, 12, none⟩ (.slice (some ⟨w.heap.size + 1, 0, none⟩) 0 L.length)).drew = ((((w.setCell ⟨C.F, 4, none⟩ (.bool true)).setCell ⟨C.F, 12, none⟩ (.slice (some ⟨w.heap.size + 1, 0, none⟩) 0 L.length)).alloc (.cells #[.pointer (some ⟨C.F, 0, none⟩)] 87)).alloc (.cells MC 9)).drew := by
    congr 1
    simp [go_sem, lF, Nat.lt_succ_of_lt lF]
  have hX2 : (((((w.setCell ⟨C.F, 4, none⟩ (.bool true)).alloc (.cells #[.pointer (some ⟨C.F, 0, none⟩)] 87)).alloc (.cells MC 9)).setCell ⟨C.F, 12, none⟩ (.slice (some ⟨w.heap.size + 1, 0, none⟩) 0 L.length)).drew).heap[w.heap.size]? = some (.cells #[.pointer (some ⟨C.F, 0, none⟩)] 87 (0, 0)) := by
    have h := HBX.out
    have e : (w.setCell ⟨C.F, 4, none⟩ (.bool true)).heap.size = w.heap.size := by simp
    rw [e] at h
    have h2 := block_kept h ((Below.refl _ _).alloc (Nat.le_refl _) (.cells MC 9))
    exact (blk_other (by show w.heap.size ≠ C.F; omega)).trans h2
  have HX2 := Lib.hid hX2
  have HP2 := Lib.hid (HQ2.1.below ((Below.refl _ _).drew))
  have HF2 := Lib.hid ((HF1.out.trans (Fr.of_below ((Below.refl _ _).alloc (Nat.le_refl _) (.cells MC 9)))).trans (HQ2.2.trans (Fr.of_below ((Below.refl _ _).drew))))
  rw [hW] at HX2 HP2 HF2
  have HAR := Lib.hid (args_anyP C hR _ true { st with args := [] } L (.slice Ar L.length cr) _ HP2.out hsz hG (by show 0 + L.length ≤ _; omega) he ((show RestAt C w (.slice Ar L.length cr) L from ⟨Ar, cr, rfl, hr0⟩).fr HF2.out) hrs w.heap.size HX2.out)
  generalize hQ : goes C.S none { st with args := [] } L = Q at HAR ⊢
  have HQ := Lib.hid hQ
  clear hQ
  clear hp HQ1 HQ2 hW hX2 hs1 HP1 HF1 HBX hR hsz HB0 HP0 hr0 hrs
  go_enter Try.func58, Try.ntmps58
  go_wp2
  go_region
  go_upto_region 3 with fail
  have HB2 := Lib.hid (cell_blk HX2.out 0)
  cases L with
  | nil =>
    have i0 : ((([] : List Txt).length : Nat) : Int) = 0 := rfl
    go_wp2
    go_ret
    have e := HQ.out
    rw [goes_nil] at e
    subst e
    exact ⟨.nilIface, _, rfl, HP2.out, (by show ErrAt C _ _ st.err; rw [he]; rfl), HF2.out⟩
  | cons a r =>
    have i0 : ((((a :: r).length : Nat) : Int) == 0) = false := by simp only [List.length_cons, beq_eq_false_iff_ne]; omega
    clear HQ
    generalize (a :: r).length = n at hL hMC hmk HX2 HP2 HF2 HAR HB2 i0 ⊢
    by_cases hq : Q.err.isNo = true
    · go_wp2_with (go_at_call 92; refine (HAR.out).mono ?_; rintro e w3 ⟨E, V3, rfl, hp3, he3, hf3⟩; have hE := he3.none (Er.isNo_iff.1 hq); subst hE; have HP3 := Lib.hid hp3; have HF3 := Lib.hid hf3; clear hp3 he3 hf3)
      go_ret
      exact ⟨.nilIface, V3, rfl, HP3.out, (by rw [Er.isNo_iff.1 hq]; rfl), HF2.out.trans HF3.out⟩
    · go_wp2_with (go_at_call 92; refine (HAR.out).mono ?_; rintro e w3 ⟨E, V3, rfl, hp3, he3, hf3⟩; obtain ⟨TE, xE, hE⟩ := he3.shape hq; have HE3 := Lib.hid he3; rw [hE] at HE3; subst hE; have b3 : w3.cell? ⟨w.heap.size, 0, none⟩ = some (.pointer (some ⟨C.F, 0, none⟩)) := ((cell_blk (hf3.keep _ _ _ _ HX2.out (by decide) (by decide) (by decide) (by decide) (by decide) (fun h => absurd h (by decide))) 0).trans rfl); have g14 : w3.cell? ⟨C.F, 14, none⟩ = some (.int .i64 0) := ((cell_blk hp3.hF 14).trans rfl); have HP3 := Lib.hid hp3; have HF3 := Lib.hid hf3; clear hp3 he3 hf3)
      go_ret
      exact ⟨_, V3, rfl, HP3.out, HE3.out, HF2.out.trans HF3.out⟩
end Go.Proofs.Ytgmhhdpggnmipaa.E
