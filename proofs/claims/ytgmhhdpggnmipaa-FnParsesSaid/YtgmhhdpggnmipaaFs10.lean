/- The functions that parsing hands flags and values to, over this seat's program. Written by gen_fs10.py. -/
import Derived.Test.YtgmhhdpggnmipaaFs9
import Derived.LaidEql
namespace Go.Proofs.Ytgmhhdpggnmipaa.E
open Go.RowKit Go.Proofs
open Go.Maps (Keyed)
set_option linter.unusedVariables false
set_option linter.unusedSimpArgs false

theorem badOf_at {S : SetP} {i : Nat} (hi : i < S.flags.length) : badOf S i = S.flags[i].bad := by simp [badOf, hi]
/-- FlagSet.Set. -/
theorem set_any (C : PC) (hR : Right C.S) (V : PV) (parsed : Bool) (st : St) (i : Nat) (v : Txt) (w : World) (hp : Pm w C V (psOf none parsed st)) (hi : i < C.S.flags.length) (hs : (C.S.flags[i].name).length ≤ 17179869184) (hG : st.given.length ≤ 1099511627776) (he : st.err = .no) :
    Calls Try.prog 78 #[.pointer (some ⟨C.F, 0, none⟩), .string (mkT (foldT C.S.fold C.S.flags[i].name)), .string (mkT v)] w (GiveEnd none C parsed (give C.S none st i v) w) := by
  unfold give
  simp only
  by_cases hb : v ∈ badOf C.S i
  · rw [if_pos hb]
    rw [badOf_at hi] at hb
    exact set_bad C hR V parsed st i v w hp hi hs hb
  · rw [if_neg hb]
    rw [badOf_at hi] at hb
    by_cases hc : chgM none st.given i = true
    · exact set_again C hR V parsed st i v w hp hi hs hb hG he hc
    · have hc : chgM none st.given i = false := by simpa using hc
      cases ha : V.act with
      | none => exact set_new_none C hR V parsed st i v w hp hi hs hb hG he hc ha
      | some ba => exact set_new_some C hR V parsed st i v w hp hi hs hb hG he hc ba ha
theorem GiveEnd.of_below {m : Option (List Txt)} {C : PC} {parsed : Bool} {st : St} {w w1 : World} {e : Ending} {w' : World} (hb : Below w.heap.size w w1) (h : GiveEnd m C parsed st w1 e w') : GiveEnd m C parsed st w e w' := by
  obtain ⟨E, V, h1, h2, h3, h4⟩ := h
  exact ⟨E, V, h1, h2, h3, (Fr.of_below hb).trans h4⟩

set_option maxRecDepth 100000 in
theorem parse1_any (C : PC) (hR : Right C.S) (V : PV) (parsed : Bool) (st : St) (i : Nat) (v : Txt) (bx : Addr) (w : World) (hp : Pm w C V (psOf none parsed st)) (hi : i < C.S.flags.length) (hs : (C.S.flags[i].name).length ≤ 17179869184) (hG : st.given.length ≤ 1099511627776) (he : st.err = .no) (hbx : w.cell? bx = some (.pointer (some ⟨C.F, 0, none⟩))) :
    Calls Try.prog 91 #[.pointer (some ⟨C.FL.getD i 0, 0, none⟩), .string (mkT v), .pointer (some bx)] w (GiveEnd none C parsed (give C.S none st i v) w) := by
  have HS := Lib.hid (fun (W : World) (hb : Below w.heap.size w W) => set_any C hR V parsed st i v W (hp.below hb) hi hs hG he)
  have l0 : w.cell? ⟨C.FL.getD i 0, 0, none⟩ = some (.string (mkT (foldT C.S.fold C.S.flags[i].name))) := (cell_blk (hp.flag i hi) 0).trans rfl
  clear hp hs hG he hR
  generalize give C.S none st i v = st' at HS ⊢
  generalize mkT (foldT C.S.fold C.S.flags[i].name) = NM at HS l0
  generalize C.FL.getD i 0 = p at l0 ⊢
  generalize mkT v = vv at HS ⊢
  clear hi
  go_enter Try.func91, Try.ntmps91
  go_wp2
  go_region_with (go_at_call 78; refine (HS.out _ ((Below.refl _ _).drew)).mono ?_; rintro e w2 ⟨E, V2, rfl, h2, h3, h4⟩)
  all_goals
    go_wp2
    go_ret
    exact ⟨E, V2, rfl, h2, h3, (Fr.of_below ((Below.refl _ _).drew)).trans h4⟩

set_option maxRecDepth 100000 in
theorem sets_any (C : PC) (hR : Right C.S) (V : PV) (parsed : Bool) (st : St) (i : Nat) (v : Txt) (w : World) (hp : Pm w C V (psOf none parsed st)) (hi : i < C.S.flags.length) (hs : (C.S.flags[i].name).length ≤ 17179869184) (hG : st.given.length ≤ 1099511627776) (he : st.err = .no) :
    Calls Try.prog 50 #[.pointer (some ⟨C.Wb, 0, none⟩), .pointer (some ⟨C.FL.getD i 0, 0, none⟩), .string (mkT v)] w (GiveEnd none C parsed (give C.S none st i v) w) := by
  have HS := Lib.hid (fun (W : World) (hb : Below w.heap.size w W) => set_any C hR V parsed st i v W (hp.below hb) hi hs hG he)
  have l0 : w.cell? ⟨C.FL.getD i 0, 0, none⟩ = some (.string (mkT (foldT C.S.fold C.S.flags[i].name))) := (cell_blk (hp.flag i hi) 0).trans rfl
  have k0 : w.cell? ⟨C.Wb, 0, none⟩ = some (.pointer (some ⟨C.F, 0, none⟩)) := (cell_blk hp.hW 0).trans rfl
  clear hp hs hG he hR
  generalize give C.S none st i v = st' at HS ⊢
  generalize mkT (foldT C.S.fold C.S.flags[i].name) = NM at HS l0
  generalize C.FL.getD i 0 = p at l0 ⊢
  generalize mkT v = vv at HS ⊢
  clear hi
  go_enter Try.func50, Try.ntmps50
  go_wp2
  go_region_with (go_at_call 78; refine (HS.out _ ((Below.refl _ _).drew)).mono ?_; rintro e w2 ⟨E, V2, rfl, h2, h3, h4⟩)
  all_goals
    go_wp2
    go_ret
    exact ⟨E, V2, rfl, h2, h3, (Fr.of_below ((Below.refl _ _).drew)).trans h4⟩

theorem Try.infoFl : ∃ j, Try.prog.info? 124 = some j ∧ j.size ≠ 0 := by
  have h : (Try.prog.info? 124).map (fun i => decide (i.size ≠ 0)) = some true := by kernel_rfl
  cases hq : Try.prog.info? 124 with
  | none => rw [hq] at h; cases h
  | some j => rw [hq] at h; exact ⟨j, rfl, by simpa using h⟩
theorem eqIn_ptr_same (w : World) (d : Nat) (a : Addr) : (Op.equalIn (d + 1) 104 (.pointer (some a)) (.pointer (some a))).run Try.prog w = .ok true w := by
  obtain ⟨j, hj, hs⟩ := Try.infoFl
  simp [Op.equalIn, run_underlying Try.underlying104, typeInfo, sizeOf, hj, hs, run_sameAddr_same]
theorem eq_ptr_same (w : World) (a : Addr) : (binOp .eql 104 (.pointer (some a)) (.pointer (some a))).run Try.prog w = .ok (.bool true) w := by
  simp only [binOp]
  simp [Op.equal, Op.maxDepth, eqIn_ptr_same w 9999]
theorem eqIn_ptr_other (w : World) (d : Nat) {a b : Addr} {ca cb : Array Value} {ta tb : TypeId} (hne : a ≠ b) (ha : w.heap[a.block]? = some (.cells ca ta (0, 0))) (hb : w.heap[b.block]? = some (.cells cb tb (0, 0))) : (Op.equalIn (d + 1) 104 (.pointer (some a)) (.pointer (some b))).run Try.prog w = .ok false w := by
  obtain ⟨j, hj, hs⟩ := Try.infoFl
  simp [Op.equalIn, run_underlying Try.underlying104, typeInfo, sizeOf, hj, hs, run_sameAddr_other w hne ha hb]
theorem eq_ptr_other (w : World) {a b : Addr} {ca cb : Array Value} {ta tb : TypeId} (hne : a ≠ b) (ha : w.heap[a.block]? = some (.cells ca ta (0, 0))) (hb : w.heap[b.block]? = some (.cells cb tb (0, 0))) : (binOp .eql 104 (.pointer (some a)) (.pointer (some b))).run Try.prog w = .ok (.bool false) w := by
  simp only [binOp]
  simp [Op.equal, Op.maxDepth, eqIn_ptr_other w 9999 hne ha hb]
theorem ptrsL_at {w : World} {FL : List Nat} {A : Option Addr} (h : RowAt w A (ptrsL FL)) {k : Nat} (hk : k < FL.length) : ∃ g, A = some ⟨g, 0, none⟩ ∧ w.cell? ⟨g, k, none⟩ = some (.pointer (some ⟨FL.getD k 0, 0, none⟩)) := by
  have e : (ptrsL FL)[k]? = some (.pointer (some ⟨FL.getD k 0, 0, none⟩)) := by
    unfold ptrsL
    rw [List.getElem?_map, List.getElem?_eq_getElem hk, List.getD_eq_getElem?_getD, List.getElem?_eq_getElem hk]; rfl
  exact h k _ e

set_option maxRecDepth 100000 in
theorem place_any (C : PC) (V : PV) (s : PS) (i : Nat) (w : World) (hp : Pm w C V s) (hi : i < C.S.flags.length) (hn : C.S.flags.length ≤ 17179869184) :
    Calls Try.prog 64 #[.pointer (some ⟨C.Wb, 0, none⟩), .pointer (some ⟨C.FL.getD i 0, 0, none⟩)] w fun e w' => e = .returned (.int .i64 (i : Int)) ∧ w = w' := by
  obtain ⟨A, c, hv, hr⟩ := own_row hp.flr
  have k1 : w.cell? ⟨C.Wb, 1, none⟩ = some (.slice A C.FL.length c) := (cell_blk hp.hW 1).trans (by show some V.flv = _; rw [hv])
  have hl : C.FL.length ≤ 17179869184 := by rw [hp.len]; exact hn
  have hil : i < C.FL.length := by rw [hp.len]; exact hi
  have HI := Lib.hid (fun (k : Nat) (hk : k < C.FL.length) (e : C.FL.getD k 0 = C.FL.getD i 0) => (by
    rw [List.getD_eq_getElem?_getD, List.getD_eq_getElem?_getD, List.getElem?_eq_getElem hk, List.getElem?_eq_getElem hil] at e
    exact nodup_inj hp.inj hk hil e : k = i))
  have HRW := Lib.hid hr
  have HBK := Lib.hid (fun (k : Nat) (hk : k < C.FL.length) (hne : C.FL.getD k 0 ≠ C.FL.getD i 0) => eq_ptr_other w (a := ⟨C.FL.getD k 0, 0, none⟩) (b := ⟨C.FL.getD i 0, 0, none⟩) (by simpa using hne) (hp.flag k (by rw [← hp.len]; exact hk)) (hp.flag i hi))
  clear hp hi hn hv hr
  generalize C.FL = FL at HI HRW HBK k1 hl hil ⊢
  go_enter Try.func64, Try.ntmps64
  go_wp2
  go_loop [12] (fun j => ∃ k : Nat, k ≤ i ∧ j = .int .i64 k) (fun j => FL.length - (intOf j).toNat)
  case atStart => exact ⟨0, Nat.zero_le _, rfl⟩
  case round =>
    obtain ⟨k, hk, rfl⟩ := hrel
    have hkl : k < FL.length := by omega
    obtain ⟨g, rfl, hc⟩ := ptrsL_at HRW.out hkl
    have i0 : (0 : Int) ≤ (k : Int) := Int.natCast_nonneg _
    have i1 : (k : Int) < (FL.length : Int) := by omega
    by_cases e : k = i
    · subst e
      clear HI HRW HBK
      generalize FL.getD k 0 = p at hc ⊢
      have hq := eq_ptr_same w ⟨p, 0, none⟩
      go_wp2
      go_ret
      exact ⟨rfl, rfl⟩
    · have hne : FL.getD k 0 ≠ FL.getD i 0 := fun h => e (HI.out k hkl h)
      have hq := HBK.out k hkl hne
      clear HI HRW HBK
      generalize FL.getD k 0 = p at hc hne hq
      generalize FL.getD i 0 = q at hne hq ⊢
      go_wp2
      go_round
      case rel => exact ⟨k + 1, by omega, by go_num⟩
      case measure => simp [intOf]; omega
end Go.Proofs.Ytgmhhdpggnmipaa.E
