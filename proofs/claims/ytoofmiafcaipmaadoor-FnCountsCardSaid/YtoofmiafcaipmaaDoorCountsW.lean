/- The walk of laws.FnCounts, over this seat's program. Written by gen_counts.py. -/
import Derived.Test.YtoofmiafcaipmaaDoorCountV
import Derived.Test.YtoofmiafcaipmaaDoorNatural
import Derived.Test.YtoofmiafcaipmaaDoorFits2
namespace Go.Proofs.YtoofmiafcaipmaaDoor.E
open Go.RowKit Go.Proofs
open Go.Lib (NumEnd)
set_option linter.unusedVariables false
set_option linter.unusedSimpArgs false

theorem Tryd.infoIS5 : (Tryd.prog.info? 48).map (fun i => (i.zero, i.size, i.bytes)) = some (some (.agg #[.bool false, .int .i64 0, .string ⟨#[]⟩]), 3, 32) := by kernel_rfl
/-- Rows, one of each number. -/
def rng (f : Nat → List Value) (k : Nat) : List Value := ((List.range k).map f).flatten
theorem rng_succ (f : Nat → List Value) (k : Nat) : rng f (k + 1) = rng f k ++ f k := by
  unfold rng
  rw [List.range_succ, List.map_append, List.flatten_append]
  simp
theorem rng_len {f : Nat → List Value} {n : Nat} (hf : ∀ i, (f i).length = n) : ∀ k, (rng f k).length = k * n
  | 0 => by simp [rng]
  | k + 1 => by rw [rng_succ, List.length_append, rng_len hf k, hf, Nat.succ_mul]
theorem rng_at {f : Nat → List Value} {n : Nat} (hf : ∀ i, (f i).length = n) : ∀ {m k j : Nat}, k < m → j < n → (rng f m)[k * n + j]? = (f k)[j]?
  | 0, _, _, h, _ => by omega
  | m + 1, k, j, h, hj => by
    rw [rng_succ]
    by_cases e : k = m
    · subst e
      rw [List.getElem?_append_right (by rw [rng_len hf]; omega), rng_len hf]
      congr 1; omega
    · have hk : k < m := by omega
      have : (k + 1) * n ≤ m * n := Nat.mul_le_mul_right _ hk
      rw [Nat.succ_mul] at this
      rw [List.getElem?_append_left (by rw [rng_len hf]; omega), rng_at hf hk hj]
/-- The count behind the first k texts. -/
def cntS (d : Int) (xs : List ByteArray) (k : Nat) : Int := (xs.take k).foldl cntV d
theorem cntS_succ {d : Int} {xs : List ByteArray} {k : Nat} (h : k < xs.length) : cntS d xs (k + 1) = cntV (cntS d xs k) (tx xs k) := by
  unfold cntS
  rw [List.take_succ_eq_append_getElem h, tx_lt h, List.foldl_append]; rfl
def cntCells (d : Int) (xs : List ByteArray) (i : Nat) : List Value := [.bool (badV (cntP (tx xs i))), .int .i64 (cntS d xs (i + 1)), .string (said (cntS d xs (i + 1)))]
theorem cntCells_len (d : Int) (xs : List ByteArray) (i : Nat) : (cntCells d xs i).length = 3 := rfl

set_option maxRecDepth 400000 in
set_option maxHeartbeats 3200000 in
theorem intValue_count (d : Int) (A : Option Addr) (cap : Nat) (xs : List ByteArray) (w : World) (hx : StrsAt w A xs) (hm : xs.length ≤ 2147483647) (hs : ∀ j, j < xs.length → (tx xs j).size ≤ 2147483647) (he1 : ErrCell 0 w) (he2 : ErrCell 1 w) (ht : Pow w) (hd1 : -9223372036854775808 ≤ d) (hd2 : d ≤ 9223372036854775807) :
    Calls Tryd.prog 18 #[.int .i64 5, .int .i64 d, .slice A xs.length cap] w fun e w' => ∃ A' c, e = .returned (.slice A' xs.length c) ∧ RowAt w' A' (rng (cntCells d xs) xs.length) ∧ Below w.heap.size w w' := by
  obtain ⟨i0, hi, hz0, hz1, hz2⟩ := info_parts Tryd.infoIS5
  have HS := Lib.hid hs
  have E1 := Lib.hid he1
  have E2 := Lib.hid he2
  have HT := Lib.hid ht
  clear hs he1 he2 ht
  go_enter Tryd.func18, Tryd.ntmps18
  go_wp2_with (go_at_call 53; refine (zz_count _ _ 0 _ (by simp) (by simp)).mono ?_; rintro e w' ⟨rfl, rfl⟩)
  go_loopw [7, 188] (fun v i wr => ∃ k : Nat, k ≤ xs.length ∧ i = .int .i64 k ∧ wr.ownsRow (w.heap.size + 1) 48 3 v k (rng (cntCells d xs) k) ∧ wr.heap[w.heap.size]? = some (.cells #[.int .i64 (cntS d xs k)] 3 (0, 0)) ∧ Below w.heap.size w wr) (fun _ i _ => xs.length - (intOf i).toNat)
  case atStart => exact ⟨0, Nat.zero_le _, rfl, World.ownsRow_nil _ _ _ _, heap_alloc_new w _, (Below.refl _ _).alloc (Nat.le_refl _) _⟩
  case round =>
    obtain ⟨k, hk, rfl, hown, hu, hbel⟩ := hrel
    by_cases hlt : k < xs.length
    · obtain ⟨ba, oa, rfl, hc0⟩ := hx k hlt
      have hc := cell_kept hbel hc0
      have hcp : wr.cell? ⟨w.heap.size, 0, none⟩ = some (.int .i64 (cntS d xs k)) := cell_of_one hu
      have hfp : wr.frozen? ⟨w.heap.size, 0, none⟩ = false := free_of_one hu
      have hsz : (tx xs k).size ≤ 281474976710656 := by have := HS.out k hlt; omega
      have H := Lib.hid (set_count ⟨w.heap.size, 0, none⟩ (tx xs k) (cntS d xs k) wr hcp hfp hsz (E1.out.below hbel) (E2.out.below hbel))
      have hi12 := cntV_in (cntS d xs k) (tx xs k)
      rw [← cntS_succ hlt] at H hi12
      have HP : Hid (cntCells d xs k = [.bool (badV (cntP (tx xs k))), .int .i64 (cntS d xs (k + 1)), .string (said (cntS d xs (k + 1)))]) := rfl
      have HV : Hid (cntS d xs (k + 1) = cntS d xs (k + 1)) := rfl
      generalize badV (cntP (tx xs k)) = BB at H HP
      generalize hV : cntS d xs (k + 1) = V at H hi12 HP
      have HVV := Lib.hid hV
      clear hcp hfp hV HV
      obtain ⟨j1, j2⟩ := hi12
      have HW : Hid (IntKind.i64.wrap V = V) := by show IntKind.i64.wrap V = V; rw [IntKind.wrap_i64]; omega
      go_wp2_with (go_at_call 54; refine (H.out).mono ?_; rintro e w1 ⟨E, w0, rfl, hE, hb0, hw1⟩; obtain ⟨hu1, hown1, hbel1, hs1⟩ := set_step (block_kept hu hb0) (own_kept hown hb0) (below_step hbel hb0) hw1; clear hw1)
      have hcp1 : w1.cell? ⟨w.heap.size, 0, none⟩ = some (.int .i64 V) := cell_of_one hu1
      have HT1 : Hid (Pow w1.drew) := Lib.tabBelow_of_tabIs HT.out w1.drew hbel1.drew
      rcases hE with ⟨hB, rfl⟩ | ⟨hB, te, ve, rfl⟩
      all_goals
        have HB := Lib.hid hB
        clear hB
        go_region_held3 (fun w' => w'.cell? ⟨w.heap.size, 0, none⟩ = some (.int .i64 V)) (first | assumption | (rw [hgrow.cell_far _ (by simp; omega) (Ne.symm hne)]; assumption) | go_keep)
          (first
            | (go_at_call 55; refine (string_count _ V j1 j2 _ ?_ HT1.out).mono ?_; (assumption); rintro e w3 ⟨rfl, hb3⟩; replace hb3 : Below w1.heap.size w1 w3 := ((Below.refl w1.heap.size w1).drew).trans hb3; have hcp3 := cell_kept hb3 hcp1; have hu3 := block_kept hu1 hb3; have hown3 := own_kept hown1 hb3; have hbel3 := below_step hbel1 hb3; have hs3 := lt_of_block hu3; have hne := own_ne hown3 (Nat.lt_succ_self _))
            | (refine step_append_lies _ (by rfl) _ _ _ (by rfl) (w.heap.size + 1) 48 i0 _ 3 32 Tryd.underlying45 hi hz0 hz1 hz2 rfl (by omega) _ k _ (by rfl) (hown3.alloc _) ⟨w3.heap.size, 0, none⟩ 1 1 [.bool _, .int .i64 _, .string (said V)] (by rfl) (by rfl) (World.news_of_block (cs := #[.bool _, .int .i64 _, .string (said V)]) (t := 48) (fr := (0, 0)) (heap_alloc_new w3 _)) (by simp [Value.oneCell']) (by omega) (by unfold maxLen; omega) (by omega) (by simp; omega) (w3.heap.size + 1) (by simp) ?_; intro gg cap w2 hown2 hgrow hat hlt2))
        have hbw : Below w.heap.size w w2 := (hbel3.alloc (by omega) _).grown hgrow (by simp; omega) (fun b hb => by have := (hown3.lt b hb).1; omega)
        have huw : w2.heap[w.heap.size]? = some (.cells #[.int .i64 V] 3 (0, 0)) := by
          rw [hgrow.block w.heap.size (by simp; omega) (Ne.symm hne)]
          show (w3.alloc _).heap[w.heap.size]? = _
          rw [Below.heap_alloc w3 _ _ hs3]; exact hu3
        have hown4 : w2.ownsRow (w.heap.size + 1) 48 3 (.slice (some ⟨gg, 0, none⟩) (k + 1) cap) (k + 1) (rng (cntCells d xs) (k + 1)) := by
          rw [rng_succ, HP.out, HB.out]; (try rw [HW.out] at hown2); exact hown2
        clear hown2
        go_wp2
        go_roundw
        case rel => exact ⟨k + 1, by omega, by go_num, hown4, by rw [HVV.out]; exact huw, hbw⟩
        case measure => simp [intOf]; omega
    · have HK : Hid (k = xs.length) := by show k = _; omega
      have hown1 : wr.ownsRow (w.heap.size + 1) 48 3 u7 xs.length (rng (cntCells d xs) xs.length) := by have e := HK.out; rw [e] at hown; exact hown
      clear hown
      obtain ⟨A', c, rfl, hrow⟩ := own_row hown1
      go_wp2
      go_ret
      exact ⟨A', c, rfl, hrow, hbel⟩

theorem pi_zero (M C : Nat) (l : List UInt8) (v c : Int) (h : piE M C l = (.ok v, c)) : c = 0 := by
  have hp : ∀ q, plusE C q = (.ok v, c) → c = 0 := by
    intro q h
    rcases q with u | _ | _ <;> simp only [plusE] at h
    · split at h <;> (injection h with h1 h2; first | exact h2.symm | cases h1)
    · injection h with h1 h2; cases h1
    · injection h with h1 h2; cases h1
  have hm : ∀ q, minusE C q = (.ok v, c) → c = 0 := by
    intro q h
    rcases q with u | _ | _ <;> simp only [minusE] at h
    · split at h <;> (injection h with h1 h2; first | exact h2.symm | cases h1)
    · injection h with h1 h2; cases h1
    · injection h with h1 h2; cases h1
  cases l with
  | nil => simp only [piE] at h; injection h with h1 h2; cases h1
  | cons x r =>
    simp only [piE] at h
    split at h
    · exact hp _ h
    · split at h
      · exact hm _ h
      · exact hp _ h
/-- What spec.Whole says, and what the count says, of a text. -/
theorem whole_cnt (s : ByteArray) : (∀ v, wholeA 9223372036854775808 s.data.toList = some v → badV (cntP s) = false ∧ gotV (cntP s) = v) ∧ (wholeA 9223372036854775808 s.data.toList = none → badV (cntP s) = true) := by
  constructor
  · intro v h
    unfold cntP
    rw [(wholeA_pi s.data.toList v).1 h]; exact ⟨rfl, rfl⟩
  · intro h
    cases hb : badV (cntP s) with
    | true => rfl
    | false =>
      have e : ∃ v c, cntP s = (.ok v, c) := by
        revert hb
        rcases cntP s with ⟨v | _ | _, c⟩
        · intro _; exact ⟨v, c, rfl⟩
        · intro h; cases h
        · intro h; cases h
      obtain ⟨v, c, e⟩ := e
      have h0 : c = 0 := by
        have := pi_zero 18446744073709551615 9223372036854775808 s.data.toList v c e
        exact this
      rw [h0] at e
      have := (wholeA_pi s.data.toList v).2 e
      rw [h] at this; cases this

theorem whole_all64 (s : ByteArray) (hs : s.size ≤ 2147483647) (w : World) :
    Calls Tryd.prog 12 #[.string s, .int .i64 64, .bool true] w fun e w' => e = .returned (.tuple #[.int .i64 (wholeARes (wholeA 9223372036854775808 s.data.toList)).1, .int .i64 (wholeARes (wholeA 9223372036854775808 s.data.toList)).2]) ∧ Below w.heap.size w w' :=
  whole_all 63 9223372036854775808 (by omega) (by omega) (by omega) (by decide +kernel) s hs w
/-- What the loop keeps of the count that it knows. -/
def CntRel (d : Int) (xs : List ByteArray) (k : Nat) (now sure : Value) : Prop := ∃ (nw : Int) (sr : Bool), now = .int .i64 nw ∧ sure = .bool sr ∧ -9223372036854775808 ≤ nw ∧ nw ≤ 9223372036854775807 ∧ Hid (sr = true → nw = cntS d xs k)

set_option maxRecDepth 400000 in
set_option maxHeartbeats 3200000 in
theorem fnCounts_any (d : Int) (v : Value) (xs : List ByteArray) (w : World) (h : Texts w v xs) (he1 : ErrCell 0 w) (he2 : ErrCell 1 w) (ht : Pow w) (hd : -9223372036854775808 ≤ d ∧ d ≤ 9223372036854775807) :
    Calls Tryd.prog 5 #[.int .i64 d, v] w fun e w' => e = .returned (.bool true) ∧ Below w.heap.size w w' := by
  obtain ⟨A, cap, rfl, hx, hcap, hm0, hA⟩ := h
  have hf := fits2_any A cap xs w hx (by omega)
  cases hr : fits2 xs with
  | false =>
    rw [hr] at hf
    go_enter Tryd.func5, Tryd.ntmps5
    go_wp2_with (go_at_call 7; refine hf.mono ?_; rintro e w' ⟨rfl, rfl⟩)
    go_ret
    exact ⟨rfl, Below.refl _ _⟩
  | true =>
  rw [hr] at hf
  have hm := (fits2_iff.1 hr).1
  have hs := (fits2_iff.1 hr).2
  clear hr
  have HF := Lib.hid hf
  have HV := Lib.hid (intValue_count d A cap xs w hx hm hs he1 he2 ht hd.1 hd.2)
  have HS := Lib.hid hs
  obtain ⟨hd1, hd2⟩ := hd
  clear hs he1 he2 ht hf
  go_enter Tryd.func5, Tryd.ntmps5
  go_wp2_with (first
    | (go_at_call 7; refine (HF.out).mono ?_; rintro e w' ⟨rfl, rfl⟩)
    | (go_at_call 18; refine (HV.out).mono ?_; rintro e w1 ⟨A', c, rfl, hrow, hbel⟩))
  go_loopw [6, 7, 26] (fun now sure i wr => ∃ k : Nat, k ≤ xs.length ∧ i = .int .i64 k ∧ CntRel d xs k now sure ∧ Below w1.heap.size w1 wr) (fun _ _ i _ => xs.length - (intOf i).toNat)
  case atStart => exact ⟨0, Nat.zero_le _, rfl, ⟨d, true, rfl, rfl, hd1, hd2, fun _ => rfl⟩, Below.refl _ _⟩
  case round =>
    obtain ⟨k, hk, rfl, ⟨nw, sr, rfl, rfl, nw1, nw2, HSR⟩, hb2⟩ := hrel
    by_cases hlt : k < xs.length
    · obtain ⟨ba, oa, rfl, hc0⟩ := hx k hlt
      have s0 := rng_at (cntCells_len d xs) hlt (j := 0) (by omega)
      have s1 := rng_at (cntCells_len d xs) hlt (j := 1) (by omega)
      have s2 := rng_at (cntCells_len d xs) hlt (j := 2) (by omega)
      obtain ⟨g, rfl, c0, c1, c2⟩ := row3 hrow s0 s1 s2
      have d0 : wr.cell? ⟨g, k * 3, none⟩ = some (.bool (badV (cntP (tx xs k)))) := cell_kept hb2 c0
      have d1 : wr.cell? ⟨g, k * 3 + 1, none⟩ = some (.int .i64 (cntS d xs (k + 1))) := cell_kept hb2 c1
      have d2 : wr.cell? ⟨g, k * 3 + 2, none⟩ = some (.string (said (cntS d xs (k + 1)))) := cell_kept hb2 c2
      have hc := cell_kept (below_step hbel hb2) hc0
      have hc' : ∀ o, (wr.alloc o).cell? ⟨ba, oa + k, none⟩ = some (.string (tx xs k)) := fun o => cell_kept ((Below.refl _ _).alloc (Nat.le_refl _) o) hc
      have i0 : (0 : Int) ≤ (k : Int) := Int.natCast_nonneg _
      have i1 : (k : Int) < (xs.length : Int) := by omega
      have hsz : (tx xs k).size ≤ 2147483647 := HS.out k hlt
      clear c0 c1 c2 s0 s1 s2 hc0
      have HT := fun w => Lib.hid (whole_all64 (tx xs k) hsz w)
      obtain ⟨hok, hno⟩ := whole_cnt (tx xs k)
      have hcv := cntS_succ (d := d) hlt
      have hin := cntV_in (cntS d xs k) (tx xs k)
      rw [← hcv] at hin
      obtain ⟨v2, v3⟩ := hin
      have hp1 := plus_ok
      have hw1 : wholeA 9223372036854775808 plusOne.data.toList = some 1 := by decide +kernel
      obtain ⟨TX, hTX⟩ : ∃ T, T = tx xs k := ⟨_, rfl⟩
      obtain ⟨V, hV⟩ : ∃ V, V = cntS d xs (k + 1) := ⟨_, rfl⟩
      rw [← hTX] at d0 hc hc' HT hok hno hcv hsz
      rw [← hV] at d1 d2 hcv v2 v3
      by_cases hp : TX = plusOne
      · rw [hp] at d0 HT hcv hc hc'
        rw [hp1] at d0
        rw [hw1] at HT
        have hV2 : V = wrap64 (cntS d xs k + 1) := by rw [hcv]; exact if_pos rfl
        simp only [wholeARes] at HT
        have HE : ((⟨#[43, 49]⟩ : ByteArray).toList == [43, 49]) = true := by decide +kernel
        unfold plusOne at hc hc' HT
        clear hok hno hcv hp hTX hp1 hw1 hsz
        have HVV := Lib.hid hV
        have HV2 := Lib.hid hV2
        clear hV hV2
        cases sr with
        | true =>
          have hnw := HSR.out rfl
          rw [← hnw] at HV2
          have hV3 : wrap64 (nw + 1) = V := HV2.out.symm
          clear hnw
          go_wp2_with (go_at_call 12; refine ((HT _).out).mono ?_; rintro e w2 ⟨rfl, hb3⟩; have hb4 : Below w1.heap.size w1 w2 := (hb2.alloc hb2.size _).trans (hb3.mono (by have := hb2.size; simp; omega)); have q0 : w2.cell? ⟨wr.heap.size, 0, none⟩ = some (.bool false) := (cell_kept hb3 (cell_of_row _ _ 0 _ _ _ (heap_alloc_new wr _))); have q1 : w2.cell? ⟨wr.heap.size, 1, none⟩ = some (.int .i64 V) := (cell_kept hb3 (cell_of_row _ _ 1 _ _ _ (heap_alloc_new wr _))); have q2 : w2.cell? ⟨wr.heap.size, 2, none⟩ = some (.string (said V)) := (cell_kept hb3 (cell_of_row _ _ 2 _ _ _ (heap_alloc_new wr _))); have qc : w2.cell? ⟨ba, oa + k, none⟩ = some (.string ⟨#[43, 49]⟩) := (cell_kept hb3 (hc' _)); clear hb3)
          clear d0 d1 d2 hc hc' HT
          go_region_held3 (fun w' => w'.cell? ⟨wr.heap.size, 0, none⟩ = some (.bool false) ∧ w'.cell? ⟨wr.heap.size, 1, none⟩ = some (.int .i64 V) ∧ w'.cell? ⟨wr.heap.size, 2, none⟩ = some (.string (said V))) (first | (exact ⟨by assumption, by assumption, by assumption⟩) | go_keep)
            ((go_at_call 19; refine (numeral_any V v2 v3 _).mono ?_; rintro e w3 ⟨rfl, hb5⟩; have r0 := cell_kept hb5 q0; have r1 := cell_kept hb5 q1; have r2 := cell_kept hb5 q2))
          go_wp2
          go_roundw
          case rel => exact ⟨k + 1, by omega, by go_num, ⟨V, true, rfl, rfl, v2, v3, fun _ => HVV.out⟩, hb4.trans (((Below.refl _ _).drew.trans hb5).mono hb4.size)⟩
          case measure => simp [intOf]; omega
        | false =>
          have n1 : -9223372036854775808 ≤ wrap64 (nw + 1) := by unfold wrap64; omega
          have n2 : wrap64 (nw + 1) ≤ 9223372036854775807 := by unfold wrap64; omega
          have N1 := Lib.hid n1
          have N2 := Lib.hid n2
          clear n1 n2
          go_wp2_with (go_at_call 12; refine ((HT _).out).mono ?_; rintro e w2 ⟨rfl, hb3⟩; have hb4 : Below w1.heap.size w1 w2 := (hb2.alloc hb2.size _).trans (hb3.mono (by have := hb2.size; simp; omega)); have q0 : w2.cell? ⟨wr.heap.size, 0, none⟩ = some (.bool false) := (cell_kept hb3 (cell_of_row _ _ 0 _ _ _ (heap_alloc_new wr _))); have q1 : w2.cell? ⟨wr.heap.size, 1, none⟩ = some (.int .i64 V) := (cell_kept hb3 (cell_of_row _ _ 1 _ _ _ (heap_alloc_new wr _))); have q2 : w2.cell? ⟨wr.heap.size, 2, none⟩ = some (.string (said V)) := (cell_kept hb3 (cell_of_row _ _ 2 _ _ _ (heap_alloc_new wr _))); have qc : w2.cell? ⟨ba, oa + k, none⟩ = some (.string ⟨#[43, 49]⟩) := (cell_kept hb3 (hc' _)); clear hb3)
          go_quiet (fail)
          go_wp2
          go_roundw
          case rel => exact ⟨k + 1, by omega, by go_num, ⟨wrap64 (nw + 1), false, rfl, rfl, N1.out, N2.out, fun h => by cases h⟩, bdrew hb4 _⟩
          case measure => simp [intOf]; omega
      · have hV2 : V = gotV (cntP TX) := by rw [hcv]; exact if_neg hp
        have HE : (TX.toList == [43, 49]) = false := by rw [show ([43, 49] : List UInt8) = (⟨#[43, 49]⟩ : ByteArray).toList from by decide +kernel]; exact bytes_ne hp
        generalize wholeA 9223372036854775808 TX.data.toList = q at HT hok hno
        clear hcv hp hTX hp1 hw1 hsz
        cases q with
        | some x =>
          obtain ⟨f1, f2⟩ := hok x rfl
          rw [f1] at d0
          have hxv : x = V := by rw [hV2, f2]
          rw [hxv] at HT
          have HVV := Lib.hid hV
          simp only [wholeARes] at HT
          clear hok hno f1 f2 hV2 hV hxv
          go_wp2_with (go_at_call 12; refine ((HT _).out).mono ?_; rintro e w2 ⟨rfl, hb3⟩; have hb4 : Below w1.heap.size w1 w2 := (hb2.alloc hb2.size _).trans (hb3.mono (by have := hb2.size; simp; omega)); have q0 : w2.cell? ⟨wr.heap.size, 0, none⟩ = some (.bool false) := (cell_kept hb3 (cell_of_row _ _ 0 _ _ _ (heap_alloc_new wr _))); have q1 : w2.cell? ⟨wr.heap.size, 1, none⟩ = some (.int .i64 V) := (cell_kept hb3 (cell_of_row _ _ 1 _ _ _ (heap_alloc_new wr _))); have q2 : w2.cell? ⟨wr.heap.size, 2, none⟩ = some (.string (said V)) := (cell_kept hb3 (cell_of_row _ _ 2 _ _ _ (heap_alloc_new wr _))); have qc : w2.cell? ⟨ba, oa + k, none⟩ = some (.string TX) := (cell_kept hb3 (hc' _)); clear hb3)
          clear d0 d1 d2 hc hc' HT
          go_region_held3 (fun w' => w'.cell? ⟨wr.heap.size, 0, none⟩ = some (.bool false) ∧ w'.cell? ⟨wr.heap.size, 1, none⟩ = some (.int .i64 V) ∧ w'.cell? ⟨wr.heap.size, 2, none⟩ = some (.string (said V))) (first | (exact ⟨by assumption, by assumption, by assumption⟩) | go_keep)
            ((go_at_call 19; refine (numeral_any V v2 v3 _).mono ?_; rintro e w3 ⟨rfl, hb5⟩; have r0 := cell_kept hb5 q0; have r1 := cell_kept hb5 q1; have r2 := cell_kept hb5 q2))
          go_wp2
          go_roundw
          case rel => exact ⟨k + 1, by omega, by go_num, ⟨V, true, rfl, rfl, v2, v3, fun _ => HVV.out⟩, hb4.trans (((Below.refl _ _).drew.trans hb5).mono hb4.size)⟩
          case measure => simp [intOf]; omega
        | none =>
          have f1 := hno rfl
          rw [f1] at d0
          simp only [wholeARes] at HT
          clear hok hno f1 hV2 hV
          go_wp2_with (go_at_call 12; refine ((HT _).out).mono ?_; rintro e w2 ⟨rfl, hb3⟩; have hb4 : Below w1.heap.size w1 w2 := (hb2.alloc hb2.size _).trans (hb3.mono (by have := hb2.size; simp; omega)); have q0 : w2.cell? ⟨wr.heap.size, 0, none⟩ = some (.bool true) := (cell_kept hb3 (cell_of_row _ _ 0 _ _ _ (heap_alloc_new wr _))); have q1 : w2.cell? ⟨wr.heap.size, 1, none⟩ = some (.int .i64 V) := (cell_kept hb3 (cell_of_row _ _ 1 _ _ _ (heap_alloc_new wr _))); have q2 : w2.cell? ⟨wr.heap.size, 2, none⟩ = some (.string (said V)) := (cell_kept hb3 (cell_of_row _ _ 2 _ _ _ (heap_alloc_new wr _))); have qc : w2.cell? ⟨ba, oa + k, none⟩ = some (.string TX) := (cell_kept hb3 (hc' _)); clear hb3)
          go_roundw
          case rel => exact ⟨k + 1, by omega, by go_num, ⟨nw, false, rfl, rfl, nw1, nw2, fun h => by cases h⟩, hb4⟩
          case measure => simp [intOf]; omega
    · go_wp2
      go_ret
      exact ⟨rfl, below_step hbel hb2⟩
end Go.Proofs.YtoofmiafcaipmaaDoor.E
