/- The walk of laws.FnBools, over this seat's program. -/
import Derived.Test.YtnlmmkmbgjgdbaaDoorBoolV
import Derived.Test.YtnlmmkmbgjgdbaaDoorTruth
namespace Go.Proofs.YtnlmmkmbgjgdbaaDoor.E
open Go.RowKit Go.Proofs
set_option linter.unusedVariables false
set_option linter.unusedSimpArgs false

/-- What the document promises of a text, of a bool's value. -/
theorem truth_fits (s : ByteArray) (h : truthN s = 1) : boolBad s = false ∧ boolGot s = truthV s := by
  have hs : s.toList = s.data.toList := ByteArray.toList_eq s
  unfold truthN at h
  split at h
  · rename_i h1
    unfold truthV boolBad boolGot
    rw [hs] at h1 ⊢
    unfold truthS at h1 ⊢
    rw [Lib.parseBool_bytes]
    generalize s.data.toList = l at h1 ⊢
    revert h1
    repeat' split
    all_goals (intro h1; simp_all)
  · cases h

theorem truthN_cases (s : ByteArray) : truthN s = 1 ∨ truthN s = 0 := by
  unfold truthN; split
  · exact .inl rfl
  · exact .inr rfl

theorem text_any (b : Bool) (w : World) : Calls Tryd.prog 19 #[.bool b] w fun e w' => e = .returned (.string (boolText b)) ∧ w = w' := by
  cases b with
  | true =>
    go_enter Tryd.func19, Tryd.ntmps19
    go_wp2
    go_ret
    exact ⟨rfl, rfl⟩
  | false =>
    go_enter Tryd.func19, Tryd.ntmps19
    go_wp2
    go_ret
    exact ⟨rfl, rfl⟩

theorem heard_open (b : Bool) (w : World) : Calls Tryd.prog 18 #[.int .i64 0, .bool b] w fun e w' => e = .returned (.bool true) ∧ w = w' := by
  go_enter Tryd.func18, Tryd.ntmps18
  go_wp2
  go_ret
  exact ⟨rfl, rfl⟩

theorem heard_fits (w : World) : Calls Tryd.prog 18 #[.int .i64 1, .bool false] w fun e w' => e = .returned (.bool true) ∧ w = w' := by
  go_enter Tryd.func18, Tryd.ntmps18
  go_wp2
  go_ret
  exact ⟨rfl, rfl⟩

set_option maxRecDepth 100000 in
set_option maxHeartbeats 1600000 in
theorem truths_any (d : Bool) (A : Option Addr) (cap : Nat) (xs : List ByteArray) (w : World) (hx : StrsAt w A xs) (hm : xs.length ≤ 2147483647) (hs : ∀ j, j < xs.length → (tx xs j).size ≤ 2147483647) (he : ErrCell 3 w) :
    Calls Tryd.prog 7 #[.bool d, .slice A xs.length cap, .bool false] w fun e w' => e = .returned (.bool true) ∧ Below w.heap.size w w' := by
  have H := Lib.hid (boolValue_any d A cap xs w hx hm hs he)
  clear hs he
  go_enter Tryd.func7, Tryd.ntmps7
  go_wp2_with (go_at_call 16; refine (H.out).mono ?_; rintro e w1 ⟨A', c, rfl, hrow, hbel⟩)
  go_loopw [22] (fun i wr => ∃ k : Nat, k ≤ xs.length ∧ i = .int .i64 k ∧ Below w1.heap.size w1 wr) (fun i _ => xs.length - (intOf i).toNat)
  case atStart => exact ⟨0, Nat.zero_le _, rfl, Below.refl _ _⟩
  case round =>
    obtain ⟨k, hk, rfl, hb2⟩ := hrel
    by_cases hlt : k < xs.length
    · obtain ⟨ba, oa, rfl, hc0⟩ := hx k hlt
      have s0 : (flat boolCells xs xs.length)[k * 3]? = some (.bool (boolBad (tx xs k))) := flat_at boolCells_len hlt (j := 0) (by omega)
      have s1 : (flat boolCells xs xs.length)[k * 3 + 1]? = some (.bool (boolGot (tx xs k))) := flat_at boolCells_len hlt (j := 1) (by omega)
      have s2 : (flat boolCells xs xs.length)[k * 3 + 2]? = some (.string (boolText (boolGot (tx xs k)))) := flat_at boolCells_len hlt (j := 2) (by omega)
      obtain ⟨g, rfl, c0, c1, c2⟩ := row3 hrow s0 s1 s2
      have d0 := cell_kept hb2 c0
      have d1 := cell_kept hb2 c1
      have d2 := cell_kept hb2 c2
      have hc := cell_kept (below_step hbel hb2) hc0
      have hc' : ∀ o, (wr.alloc o).cell? ⟨ba, oa + k, none⟩ = some (.string (tx xs k)) := fun o => cell_kept ((Below.refl _ _).alloc (Nat.le_refl _) o) hc
      have i0 : (0 : Int) ≤ (k : Int) := Int.natCast_nonneg _
      have i1 : (k : Int) < (xs.length : Int) := by omega
      clear c0 c1 c2 s0 s1 s2 hc0
      have HT := Lib.hid (truth_any (tx xs k))
      rcases truthN_cases (tx xs k) with hn | hn
      · obtain ⟨f1, f2⟩ := truth_fits _ hn
        rw [f1] at d0
        rw [f2] at d1 d2
        rw [hn] at HT
        clear hn f1 f2
        go_wp2_with (go_at_call 17; refine (HT.out _).mono ?_; rintro e w2 ⟨rfl, rfl⟩)
        go_quiet ((first | (go_at_call 18; exact Calls.quiet_of_same ((heard_fits _).mono fun _ _ h => ⟨h.1, h.2.symm⟩)) | (go_at_call 19; exact Calls.quiet_of_same ((text_any _ _).mono fun _ _ h => ⟨h.1, h.2.symm⟩))))
        go_wp2
        go_roundw
        case rel => exact ⟨k + 1, by omega, by go_num, bdrew (hb2.alloc hb2.size _) _⟩
        case measure => simp [intOf]; omega
      · rw [hn] at HT
        clear hn
        go_wp2_with (go_at_call 17; refine (HT.out _).mono ?_; rintro e w2 ⟨rfl, rfl⟩)
        go_quiet ((first | (go_at_call 18; exact Calls.quiet_of_same ((heard_open _ _).mono fun _ _ h => ⟨h.1, h.2.symm⟩)) | (go_at_call 19; exact Calls.quiet_of_same ((text_any _ _).mono fun _ _ h => ⟨h.1, h.2.symm⟩))))
        go_wp2
        go_roundw
        case rel => exact ⟨k + 1, by omega, by go_num, bdrew (hb2.alloc hb2.size _) _⟩
        case measure => simp [intOf]; omega
    · go_wp2
      go_ret
      exact ⟨rfl, below_step hbel hb2⟩

set_option maxHeartbeats 1600000 in
theorem fnBools_any (d : Bool) (v : Value) (xs : List ByteArray) (w : World) (h : Texts w v xs) (he : ErrCell 3 w) :
    Calls Tryd.prog 3 #[.bool d, v] w fun e w' => e = .returned (.bool true) ∧ Below w.heap.size w w' := by
  obtain ⟨A, cap, rfl, hx, hcap, hm, hA⟩ := h
  have hf := fits2_any A cap xs w hx (by omega)
  cases hr : fits2 xs with
  | false =>
    rw [hr] at hf
    go_enter Tryd.func3, Tryd.ntmps3
    go_wp2_with (go_at_call 6; refine hf.mono ?_; rintro e w' ⟨rfl, rfl⟩)
    go_ret
    exact ⟨rfl, Below.refl _ _⟩
  | true =>
    rw [hr] at hf
    have H := Lib.hid (truths_any d A cap xs w hx (fits2_iff.1 hr).1 (fits2_iff.1 hr).2 he)
    clear hr
    go_enter Tryd.func3, Tryd.ntmps3
    go_wp2_with (first | (go_at_call 6; refine hf.mono ?_; rintro e w' ⟨rfl, rfl⟩) | (go_at_call 7; refine (H.out).mono ?_; rintro e w1 ⟨rfl, hb⟩))
    go_ret
    exact ⟨rfl, hb⟩
end Go.Proofs.YtnlmmkmbgjgdbaaDoor.E
