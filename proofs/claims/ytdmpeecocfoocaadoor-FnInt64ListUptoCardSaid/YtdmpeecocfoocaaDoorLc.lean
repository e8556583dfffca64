/- pflag's list of integers of 64 bits: Set, over this seat's program. -/
import Derived.Test.YtdmpeecocfoocaaDoorLa
import Derived.Deep.OwnRows
import Derived.Deep.RegionLaw
import Derived.Test.YtdmpeecocfoocaaDoorRow
import Derived.Test.YtdmpeecocfoocaaDoorFits2
import Derived.Test.YtdmpeecocfoocaaDoorRows
namespace Go.Proofs.YtdmpeecocfoocaaDoor.E
open Go.RowKit Go.Proofs
set_option linter.unusedVariables false
set_option linter.unusedSimpArgs false

/-- The value of a list, as it lies in memory: the struct at P1, the list's variable at P0. -/
structure SV (w : World) (P1 P0 : Nat) (V : List Int) (ch : Bool) (v : Value) : Prop where
  h1 : w.heap[P1]? = some (.cells #[.pointer (some ⟨P0, 0, none⟩), .bool ch] 137 (0, 0))
  h0 : w.heap[P0]? = some (.cells #[v] 27 (0, 0))
  hv : w.ownsRow 0 2 1 v V.length (i64s V)
  n1 : v.ownBlock ≠ some P1
  n0 : v.ownBlock ≠ some P0
  ne : P0 ≠ P1
  sh : ∃ g c, v = .slice (some ⟨g, 0, none⟩) V.length c
theorem SV.kept {w w' : World} {P1 P0 : Nat} {V : List Int} {ch : Bool} {v : Value} (h : SV w P1 P0 V ch v) (hb : Below w.heap.size w w') : SV w' P1 P0 V ch v :=
  ⟨block_kept h.h1 hb, block_kept h.h0 hb, own_kept h.hv hb, h.n1, h.n0, h.ne, h.sh⟩
/-- What a step on the value turns: its struct, its variable, its row. -/
structure SvChg (w w' : World) (P1 P0 : Nat) (v v' : Value) : Prop where
  os : w'.os = w.os
  tape : w'.tape = w.tape
  output : w'.output = w.output
  size : w.heap.size ≤ w'.heap.size
  block : ∀ k, k < w.heap.size → k ≠ P1 → k ≠ P0 → v.ownBlock ≠ some k → w'.heap[k]? = w.heap[k]?
  own : v'.ownBlock = v.ownBlock ∨ ∀ g, v'.ownBlock = some g → w.heap.size ≤ g
theorem ne_of_own {v v' : Value} {n P : Nat} (h : v'.ownBlock = v.ownBlock ∨ ∀ g, v'.ownBlock = some g → n ≤ g) (hP : P < n) (hv : v.ownBlock ≠ some P) : v'.ownBlock ≠ some P := by
  intro e
  rcases h with h | h
  · exact hv (h.symm.trans e)
  · have := h P e; omega
theorem own_setCell {w : World} {base e size n : Nat} {v : Value} {xs : List Value} (h : w.ownsRow base e size v n xs) {a : Addr} (ha : v.ownBlock ≠ some a.block) (u : Value) : (w.setCell a u).ownsRow base e size v n xs := by
  refine ⟨h.1, ?_⟩
  rcases h.2 with hn | ⟨g, cap, cur, hv, hb, hh, r⟩
  · exact .inl hn
  · refine .inr ⟨g, cap, cur, hv, hb, ?_, r⟩
    rw [Below.heap_setCell _ _ _ _ (by intro e; rw [hv] at ha; exact ha (by rw [← e]; rfl))]
    exact hh
theorem own_of_rowIs {w : World} {B g n : Nat} {e : TypeId} {L : List Int} (h : w.rowIs g e n (fun j => .int .i64 (L.getD j 0))) (hl : L.length = n) (hB : B ≤ g) (hm : n ≤ maxLen) : w.ownsRow B e 1 (.slice (some ⟨g, 0, none⟩) n n) n (i64s L) := by
  obtain ⟨c, hb, hn, hc⟩ := h
  refine ⟨by simp [i64s, hl], .inr ⟨g, n, c, rfl, hB, hb, Nat.le_refl _, hm, by omega, ?_⟩⟩
  apply List.ext_getElem?
  intro i
  rw [List.getElem?_take]
  by_cases hi : i < n
  · rw [if_pos (by omega)]
    have := hc i hi
    rw [Array.getElem?_toList, this]
    simp [i64s, hl, hi]
  · rw [if_neg (by omega), List.getElem?_eq_none (by simp [i64s, hl]; omega)]

set_option maxRecDepth 100000 in
set_option maxHeartbeats 3200000 in
theorem set64_none (s : ByteArray) (hs : s.size ≤ 2147483647) (P1 P0 : Nat) (V : List Int) (ch : Bool) (v : Value) (w : World) (h : SV w P1 P0 V ch v) (he1 : ErrCell 0 w) (he2 : ErrCell 1 w) (hq : nums64 (partsT s) = none) :
    Calls Tryd.prog 32 #[.pointer (some ⟨P1, 0, none⟩), .string s] w fun e w' => (∃ t x, e = .returned (.iface t x)) ∧ Below w.heap.size w w' := by
  have HS := fun w => Lib.hid (split_any s hs w)
  have HPOS : Hid (0 < (partsT s).length) := by show 0 < (partsT s).length; have := splitC_ne s.data.toList; simp only [partsT, List.length_map]; exact List.length_pos_iff.2 this
  have hl := partsT_len s
  have HZ := fun j hj => Lib.hid (Nat.le_trans (partsT_size s j hj) hs)
  generalize partsT s = xs at HS hl HZ hq HPOS
  have hn : xs.length ≤ 2147483648 := by omega
  have HQ := Lib.hid hq
  have E1 := Lib.hid he1
  have E2 := Lib.hid he2
  have hmk := fun W => run_make_row' (P := Tryd.prog) 27 2 (.int .i64 0) 8 Tryd.underlying27 Tryd.infoI64 rfl .i64 .i64 xs.length (by omega) (by omega) W
  clear hq he1 he2 hl
  go_enter Tryd.func32, Tryd.ntmps32
  go_wp2_with (go_at_call 85; refine ((HS _).out).mono ?_; rintro e w1 ⟨A, c, rfl, hrow, hb1, hfr⟩)
  have hst := strs_of_row hrow
  go_loopw [17] (fun i wr => ∃ (k : Nat) (done : List Int), k ≤ xs.length ∧ i = .int .i64 k ∧ done.length = k ∧ wr.rowIs w1.heap.size 2 xs.length (fun j => .int .i64 (done.getD j 0)) ∧ Hid (nums64 xs = (nums64 (xs.drop k)).map (done ++ ·)) ∧ Below w1.heap.size w1 wr) (fun i _ => xs.length - (intOf i).toNat)
  case atStart => exact ⟨0, [], Nat.zero_le _, rfl, rfl, World.rowIs_made w1 _ _ _, by show _ = _; simp, (Below.refl _ _).alloc (Nat.le_refl _) _⟩
  case round =>
    obtain ⟨k, done, hk, rfl, hdl, hri, HR, hbel⟩ := hrel
    by_cases hlt : k < xs.length
    · obtain ⟨ba, oa, rfl, hc0⟩ := hst k hlt
      have hc := cell_kept hbel hc0
      have i0 : (0 : Int) ≤ (k : Int) := Int.natCast_nonneg _
      have i1 : (k : Int) < (xs.length : Int) := by omega
      have hsz : (tx xs k).size ≤ 281474976710656 := by have := (HZ k hlt).out; omega
      have hbw : Below w.heap.size w wr := below_step hb1 hbel
      have HI := Lib.hid (parseInt64 (tx xs k) hsz wr (E1.out.below hbw) (E2.out.below hbw))
      have hd := nums64_drop hlt
      obtain ⟨hok, hno⟩ := whole_cnt (tx xs k)
      unfold cntP at hok hno
      generalize piE 18446744073709551615 9223372036854775808 (tx xs k).data.toList = p at HI hok hno
      unfold IntGot at HI
      generalize hq : wholeA 9223372036854775808 (tx xs k).data.toList = q at hd hok hno
      clear hq hsz hc0
      cases q with
      | some n =>
        obtain ⟨f1, f2⟩ := hok n rfl
        rw [f1, f2] at HI
        simp only [] at hd
        have HR2 : Hid (nums64 xs = (nums64 (xs.drop (k + 1))).map ((done ++ [n]) ++ ·)) := by
          show _ = _
          rw [HR.out, hd, Option.map_map]; congr 1; funext l; simp
        clear hd HR hok hno f1 f2
        go_wp2_with (go_at_call 86; go_loud (refine (HI.out).mono ?_; rintro e w2 ⟨E, rfl, hE, hb2⟩; have hE2 : E = .nilIface := (hE.resolve_right (fun h => by cases h.1)).2; subst hE2; have hri2 := hri.of_block (hb2.block _ hri.lt); have hcz := hri2.cell hlt; have hfz := hri2.frozen k; have hbel2 := below_step hbel hb2))
        have hri3 := (hri2.set k (.int .i64 n)).congr (g := fun j => .int .i64 ((done ++ [n]).getD j 0)) (fun j hj => by
          by_cases e : j = k
          · subst e; simp [hdl]
          · simp only [if_neg e]
            rw [List.getD_eq_getElem?_getD, List.getD_eq_getElem?_getD]
            by_cases h2 : j < k
            · rw [List.getElem?_append_left (by omega)]
            · rw [List.getElem?_eq_none (by omega), List.getElem?_eq_none (by simp; omega)])
        go_roundw
        case rel => exact ⟨k + 1, done ++ [n], by omega, by go_num, by simp [hdl], hri3, HR2, hbel2.setCell (p := ⟨w1.heap.size, k, none⟩) (Nat.le_refl _) _⟩
        case measure => simp [intOf]; omega
      | none =>
        have f1 := hno rfl
        rw [f1] at HI
        clear hd HR hok hno f1
        go_wp2_with (go_at_call 86; go_loud (refine (HI.out).mono ?_; rintro e w2 ⟨E, rfl, hE, hb2⟩; obtain ⟨te, qe, hE2⟩ := (hE.resolve_left (fun h => by cases h.1)).2; subst hE2; have hri2 := hri.of_block (hb2.block _ hri.lt); have hcz := hri2.cell hlt; have hfz := hri2.frozen k; have hbel2 := below_step hbel hb2))
        go_ret
        exact ⟨⟨_, _, rfl⟩, below_step hb1 (hbel2.setCell (p := ⟨w1.heap.size, k, none⟩) (Nat.le_refl _) _)⟩
    · have HN : Hid (nums64 xs = some done) := by
        show _ = _
        rw [HR.out, List.drop_eq_nil_of_le (by omega)]; simp [nums64]
      have := HQ.out
      rw [HN.out] at this
      cases this

theorem two_setCell {w : World} {b : Nat} {x y z : Value} {t : TypeId} (h : w.heap[b]? = some (.cells #[x, y] t (0, 0))) : (w.setCell ⟨b, 1, none⟩ z).heap[b]? = some (.cells #[x, z] t (0, 0)) := by
  have hlt := lt_of_block h
  show (w.heap.modify b _)[b]? = _
  rw [Array.getElem?_modify, if_pos rfl, h]
  simp
theorem two_free {w : World} {b i : Nat} {x y : Value} {t : TypeId} (h : w.heap[b]? = some (.cells #[x, y] t (0, 0))) : w.frozen? ⟨b, i, none⟩ = false := by simp [World.frozen?, h]
/-- What Set leaves where the text is numbers. -/
def SvSet (N V' : List Int) (P1 P0 : Nat) (ch' : Bool) (v : Value) (w : World) (e : Ending) (w' : World) : Prop := e = .returned .nilIface ∧ ∃ v', SV w' P1 P0 V' ch' v' ∧ SvChg w w' P1 P0 v v'
theorem SvChg.of_below {w w1 w2 : World} {P1 P0 : Nat} {v v' : Value} (hb : Below w.heap.size w w1) (h : SvChg w1 w2 P1 P0 v v') : SvChg w w2 P1 P0 v v' :=
  ⟨h.os.trans hb.os, h.tape.trans hb.tape, h.output.trans hb.output, Nat.le_trans hb.size h.size, fun k hk a b c => (h.block k (Nat.lt_of_lt_of_le hk hb.size) a b c).trans (hb.block k hk), h.own.imp id (fun f g hg => Nat.le_trans hb.size (f g hg))⟩

set_option maxRecDepth 100000 in
set_option maxHeartbeats 3200000 in
theorem set64_some (s : ByteArray) (hs : s.size ≤ 2147483647) (P1 P0 : Nat) (V : List Int) (ch : Bool) (v : Value) (w : World) (h : SV w P1 P0 V ch v) (hV : V.length ≤ 1099511627776) (he1 : ErrCell 0 w) (he2 : ErrCell 1 w) (N V' : List Int) (hq : nums64 (partsT s) = some N) (hV' : Hid (V' = if ch = true then V ++ N else N)) :
    Calls Tryd.prog 32 #[.pointer (some ⟨P1, 0, none⟩), .string s] w (SvSet N V' P1 P0 true v w) := by
  have HS := fun w => Lib.hid (split_any s hs w)
  have HPOS : Hid (0 < (partsT s).length) := by show 0 < (partsT s).length; have := splitC_ne s.data.toList; simp only [partsT, List.length_map]; exact List.length_pos_iff.2 this
  have hl := partsT_len s
  have HZ := fun j hj => Lib.hid (Nat.le_trans (partsT_size s j hj) hs)
  generalize partsT s = xs at HS hl HZ hq HPOS
  have hn : xs.length ≤ 2147483648 := by omega
  have HQ := Lib.hid hq
  have E1 := Lib.hid he1
  have E2 := Lib.hid he2
  have hmk := fun W => run_make_row' (P := Tryd.prog) 27 2 (.int .i64 0) 8 Tryd.underlying27 Tryd.infoI64 rfl .i64 .i64 xs.length (by omega) (by omega) W
  clear hq he1 he2 hl
  go_enter Tryd.func32, Tryd.ntmps32
  go_wp2_with (go_at_call 85; refine ((HS _).out).mono ?_; rintro e w1 ⟨A, c, rfl, hrow, hb1, hfr⟩)
  have hst := strs_of_row hrow
  go_loopw [17] (fun i wr => ∃ (k : Nat) (done : List Int), k ≤ xs.length ∧ i = .int .i64 k ∧ done.length = k ∧ wr.rowIs w1.heap.size 2 xs.length (fun j => .int .i64 (done.getD j 0)) ∧ Hid (nums64 xs = (nums64 (xs.drop k)).map (done ++ ·)) ∧ Below w1.heap.size w1 wr) (fun i _ => xs.length - (intOf i).toNat)
  case atStart => exact ⟨0, [], Nat.zero_le _, rfl, rfl, World.rowIs_made w1 _ _ _, by show _ = _; simp, (Below.refl _ _).alloc (Nat.le_refl _) _⟩
  case round =>
    obtain ⟨k, done, hk, rfl, hdl, hri, HR, hbel⟩ := hrel
    by_cases hlt : k < xs.length
    · obtain ⟨ba, oa, rfl, hc0⟩ := hst k hlt
      have hc := cell_kept hbel hc0
      have i0 : (0 : Int) ≤ (k : Int) := Int.natCast_nonneg _
      have i1 : (k : Int) < (xs.length : Int) := by omega
      have hsz : (tx xs k).size ≤ 281474976710656 := by have := (HZ k hlt).out; omega
      have hbw : Below w.heap.size w wr := below_step hb1 hbel
      have HI := Lib.hid (parseInt64 (tx xs k) hsz wr (E1.out.below hbw) (E2.out.below hbw))
      have hd := nums64_drop hlt
      obtain ⟨hok, hno⟩ := whole_cnt (tx xs k)
      unfold cntP at hok hno
      generalize piE 18446744073709551615 9223372036854775808 (tx xs k).data.toList = p at HI hok hno
      unfold IntGot at HI
      generalize hq : wholeA 9223372036854775808 (tx xs k).data.toList = q at hd hok hno
      clear hq hsz hc0
      cases q with
      | some n =>
        obtain ⟨f1, f2⟩ := hok n rfl
        rw [f1, f2] at HI
        simp only [] at hd
        have HR2 : Hid (nums64 xs = (nums64 (xs.drop (k + 1))).map ((done ++ [n]) ++ ·)) := by
          show _ = _
          rw [HR.out, hd, Option.map_map]; congr 1; funext l; simp
        clear hd HR hok hno f1 f2
        go_wp2_with (go_at_call 86; go_loud (refine (HI.out).mono ?_; rintro e w2 ⟨E, rfl, hE, hb2⟩; have hE2 : E = .nilIface := (hE.resolve_right (fun h => by cases h.1)).2; subst hE2; have hri2 := hri.of_block (hb2.block _ hri.lt); have hcz := hri2.cell hlt; have hfz := hri2.frozen k; have hbel2 := below_step hbel hb2))
        have hri3 := (hri2.set k (.int .i64 n)).congr (g := fun j => .int .i64 ((done ++ [n]).getD j 0)) (fun j hj => by
          by_cases e : j = k
          · subst e; simp [hdl]
          · simp only [if_neg e]
            rw [List.getD_eq_getElem?_getD, List.getD_eq_getElem?_getD]
            by_cases h2 : j < k
            · rw [List.getElem?_append_left (by omega)]
            · rw [List.getElem?_eq_none (by omega), List.getElem?_eq_none (by simp; omega)])
        go_roundw
        case rel => exact ⟨k + 1, done ++ [n], by omega, by go_num, by simp [hdl], hri3, HR2, hbel2.setCell (p := ⟨w1.heap.size, k, none⟩) (Nat.le_refl _) _⟩
        case measure => simp [intOf]; omega
      | none =>
        exfalso
        have h1 := HQ.out
        rw [HR.out, hd] at h1
        cases h1
    · have HN : Hid (nums64 xs = some done) := by
        show _ = _
        rw [HR.out, List.drop_eq_nil_of_le (by omega)]; simp [nums64]
      have hND : done = N := by
        have h1 := HQ.out
        rw [HN.out] at h1
        cases h1; rfl
      subst hND
      have hkn : k = xs.length := by omega
      subst hkn
      have hbw : Below w.heap.size w wr := below_step hb1 hbel
      have hsv := h.kept hbw
      have hown : wr.ownsRow 0 2 1 (.slice (some ⟨w1.heap.size, 0, none⟩) xs.length xs.length) xs.length (i64s done) := own_of_rowIs hri hdl (Nat.zero_le _) (by unfold maxLen; omega)
      have hg := hri.lt
      have c10 : wr.cell? ⟨P1, 0, none⟩ = some (.pointer (some ⟨P0, 0, none⟩)) := cell_of_row _ _ 0 _ _ _ hsv.h1
      have c11 : wr.cell? ⟨P1, 1, none⟩ = some (.bool ch) := cell_of_row _ _ 1 _ _ _ hsv.h1
      have z11 : wr.frozen? ⟨P1, 1, none⟩ = false := two_free hsv.h1
      have c0 : wr.cell? ⟨P0, 0, none⟩ = some v := cell_of_one hsv.h0
      have z0 : wr.frozen? ⟨P0, 0, none⟩ = false := free_of_one hsv.h0
      have hd1 : ∀ x, (wr.setCell ⟨P0, 0, none⟩ x).heap[P1]? = some (.cells #[.pointer (some ⟨P0, 0, none⟩), .bool ch] 137 (0, 0)) := fun x => by rw [Below.heap_setCell _ _ _ _ (by show P1 ≠ P0; exact fun e => h.ne e.symm)]; exact hsv.h1
      have c11' : ∀ x, (wr.setCell ⟨P0, 0, none⟩ x).cell? ⟨P1, 1, none⟩ = some (.bool ch) := fun x => cell_of_row _ _ 1 _ _ _ (hd1 x)
      have c10' : ∀ x, (wr.setCell ⟨P0, 0, none⟩ x).cell? ⟨P1, 0, none⟩ = some (.pointer (some ⟨P0, 0, none⟩)) := fun x => cell_of_row _ _ 0 _ _ _ (hd1 x)
      have z11' : ∀ x, (wr.setCell ⟨P0, 0, none⟩ x).frozen? ⟨P1, 1, none⟩ = false := fun x => two_free (hd1 x)
      cases ch with
      | false =>
        go_wp2
        go_ret
        have hV2 : V' = done := by rw [hV'.out]; rfl
        subst hV2
        have hq1 : (Value.slice (some ⟨w1.heap.size, 0, none⟩) xs.length xs.length).ownBlock ≠ some P1 := fun e => by have e2 : w1.heap.size = P1 := Option.some.inj e; have := lt_of_block h.h1; have := hb1.size; omega
        have hq0 : (Value.slice (some ⟨w1.heap.size, 0, none⟩) xs.length xs.length).ownBlock ≠ some P0 := fun e => by have e2 : w1.heap.size = P0 := Option.some.inj e; have := lt_of_block h.h0; have := hb1.size; omega
        refine ⟨rfl, .slice (some ⟨w1.heap.size, 0, none⟩) xs.length xs.length, ⟨two_setCell (hd1 _), ?_, ?_, hq1, hq0, h.ne, ⟨_, _, by rw [hdl]⟩⟩, ?_⟩
        · rw [Below.heap_setCell _ _ _ _ (by show P0 ≠ P1; exact h.ne)]; exact one_setCell hsv.h0
        · rw [hdl]; exact own_setCell (own_setCell hown (a := ⟨P0, 0, none⟩) hq0 _) (a := ⟨P1, 1, none⟩) hq1 _
        · have hb0 : Below 0 w _ := ((hbw.mono (Nat.zero_le _)).setCell (p := ⟨P0, 0, none⟩) (Nat.zero_le _) (.slice (some ⟨w1.heap.size, 0, none⟩) xs.length xs.length)).setCell (p := ⟨P1, 1, none⟩) (Nat.zero_le _) (.bool true)
          refine ⟨hb0.os, hb0.tape, hb0.output, hb0.size, fun k hk a b _ => ?_, .inr fun g hg => ?_⟩
          · rw [Below.heap_setCell _ _ _ _ (by show k ≠ P1; exact a), Below.heap_setCell _ _ _ _ (by show k ≠ P0; exact b)]
            exact hbw.block k hk
          · cases hg; exact hb1.size
      | true =>
        have hs0 := hsv.hv.lt
        have hpos := HPOS.out
        obtain ⟨i0, hi, hz0, hz1, hz2⟩ := info_parts Tryd.infoI64
        have hone : ∀ u ∈ i64s done, u.oneCell' = true := by
          intro u hu
          obtain ⟨n, _, rfl⟩ := List.mem_map.1 hu
          rfl
        have hnews : ∀ j u, (i64s done)[j]? = some u → wr.cell? ((⟨w1.heap.size, 0, none⟩ : Addr).add j) = some u := by
          intro j u hu
          have hj : j < xs.length := by
            have := (List.getElem?_eq_some_iff.1 hu).1
            simpa [i64s, hdl] using this
          have e := hri.cell hj
          have ha : (⟨w1.heap.size, 0, none⟩ : Addr).add j = ⟨w1.heap.size, j, none⟩ := by rw [Addr.add_mid, Nat.zero_add]
          rw [ha, e]
          simp only [i64s, List.getElem?_map] at hu
          rw [List.getD_eq_getElem?_getD]
          cases hx : done[j]? with
          | none => rw [hx] at hu; cases hu
          | some q => rw [hx] at hu; exact hu
        have hnl : (i64s done).length = xs.length * 1 := by simp [i64s, hdl]
        have hPv0 : v.ownBlock ≠ some P0 := h.n0
        have hPv1 : v.ownBlock ≠ some P1 := h.n1
        have hBr : 0 ≤ wr.heap.size := Nat.zero_le _
        have hne01 := h.ne
        have HV2 : Hid (V' = V ++ done) := by show _ = _; rw [hV'.out]; rfl
        have lP0 := lt_of_block hsv.h0
        have lP1 := lt_of_block hsv.h1
        go_upto_region 13 with (fail)
        go_region_law ((refine step_append_lies _ (by rfl) _ _ _ (by rfl) 0 2 i0 _ 1 8 Tryd.underlying27 hi hz0 hz1 hz2 rfl (by omega) v V.length (i64s V) (by rfl) hsv.hv ⟨w1.heap.size, 0, none⟩ xs.length xs.length (i64s done) (by rfl) hnl hnews hone hpos (by unfold maxLen; omega) (by omega) hBr wr.heap.size (by first | rfl | simp) ?_; intro gg cap w2 hown2 hgrow hat hlt2; have k0 : w2.cell? ⟨P0, 0, none⟩ = some v := ((hgrow.cell_far ⟨P0, 0, none⟩ lP0 (Ne.symm hPv0)).trans c0); have k1 : w2.frozen? ⟨P0, 0, none⟩ = false := ((hgrow.frozen_far ⟨P0, 0, none⟩ lP0 (Ne.symm hPv0)).trans z0); have k2 : w2.cell? ⟨P1, 0, none⟩ = some (.pointer (some ⟨P0, 0, none⟩)) := ((hgrow.cell_far ⟨P1, 0, none⟩ lP1 (Ne.symm hPv1)).trans c10)))
        all_goals
          have e1 : w2.heap[P1]? = some (.cells #[.pointer (some ⟨P0, 0, none⟩), .bool true] 137 (0, 0)) := (hgrow.block P1 lP1 (fun e => hPv1 e.symm)).trans hsv.h1
          have e0 : w2.heap[P0]? = some (.cells #[v] 27 (0, 0)) := (hgrow.block P0 lP0 (fun e => hPv0 e.symm)).trans hsv.h0
          have hd2 : ∀ x, (w2.setCell ⟨P0, 0, none⟩ x).heap[P1]? = some (.cells #[.pointer (some ⟨P0, 0, none⟩), .bool true] 137 (0, 0)) := fun x => by rw [Below.heap_setCell _ _ _ _ (by show P1 ≠ P0; exact fun e => hne01 e.symm)]; exact e1
          have d11 : ∀ x, (w2.setCell ⟨P0, 0, none⟩ x).cell? ⟨P1, 1, none⟩ = some (.bool true) := fun x => cell_of_row _ _ 1 _ _ _ (hd2 x)
          have y11 : ∀ x, (w2.setCell ⟨P0, 0, none⟩ x).frozen? ⟨P1, 1, none⟩ = false := fun x => two_free (hd2 x)
          go_wp2
          go_ret
          have hq1 : (Value.slice (some ⟨gg, 0, none⟩) (V.length + xs.length) cap).ownBlock ≠ some P1 := ne_of_own (v := v) (n := wr.heap.size) (hat.imp (fun e => e.symm) (fun e g hg => by cases hg; exact Nat.le_of_eq e.symm)) lP1 hPv1
          have hq0 : (Value.slice (some ⟨gg, 0, none⟩) (V.length + xs.length) cap).ownBlock ≠ some P0 := ne_of_own (v := v) (n := wr.heap.size) (hat.imp (fun e => e.symm) (fun e g hg => by cases hg; exact Nat.le_of_eq e.symm)) lP0 hPv0
          refine ⟨rfl, .slice (some ⟨gg, 0, none⟩) (V.length + xs.length) cap, ⟨two_setCell (hd2 _), ?_, ?_, hq1, hq0, h.ne, ⟨gg, cap, by rw [HV2.out, List.length_append, hdl]⟩⟩, ?_⟩
          · rw [Below.heap_setCell _ _ _ _ (by show P0 ≠ P1; exact hne01)]; exact one_setCell e0
          · have hl2 : V'.length = V.length + xs.length := by rw [HV2.out, List.length_append, hdl]
            have hi2 : i64s V' = i64s V ++ i64s done := by rw [HV2.out]; simp [i64s]
            rw [hl2, hi2]
            exact own_setCell (own_setCell hown2 (a := ⟨P0, 0, none⟩) hq0 _) (a := ⟨P1, 1, none⟩) hq1 _
          · have hg0 : Below 0 w w2 := ⟨hgrow.os.trans hbw.os, hgrow.tape.trans hbw.tape, hgrow.output.trans hbw.output, Nat.le_trans hbw.size hgrow.size, fun k hk => by omega⟩
            have hb0 : Below 0 w _ := (hg0.setCell (p := ⟨P0, 0, none⟩) (Nat.zero_le _) (.slice (some ⟨gg, 0, none⟩) (V.length + xs.length) cap)).setCell (p := ⟨P1, 1, none⟩) (Nat.zero_le _) (.bool true)
            refine ⟨hb0.os, hb0.tape, hb0.output, hb0.size, fun k hk a b c => ?_, ?_⟩
            · rw [Below.heap_setCell _ _ _ _ (by show k ≠ P1; exact a), Below.heap_setCell _ _ _ _ (by show k ≠ P0; exact b)]
              exact (hgrow.block k (Nat.lt_of_lt_of_le hk hbw.size) (fun e => c e.symm)).trans (hbw.block k hk)
            · rcases hat with h1 | h1
              · exact .inl h1.symm
              · exact .inr fun g hg => by cases hg; rw [h1]; exact hbw.size
end Go.Proofs.YtdmpeecocfoocaaDoor.E

namespace Go.Proofs.YtdmpeecocfoocaaDoor.E
open Go.RowKit Go.Proofs
set_option linter.unusedVariables false
set_option linter.unusedSimpArgs false

theorem from64_any (t : ByteArray) (hmax : t.size ≤ 281474976710656) (r : Value) (w : World) (he1 : ErrCell 0 w) (he2 : ErrCell 1 w) :
    Calls Tryd.prog 87 #[r, .string t] w fun e w' => IntGot (piE 18446744073709551615 9223372036854775808 t.data.toList) w e w' := by
  have H := Lib.hid (parseInt64 t hmax w he1 he2)
  clear he1 he2
  generalize piE 18446744073709551615 9223372036854775808 t.data.toList = p at H ⊢
  unfold IntGot at H ⊢
  go_enter Tryd.func87, Tryd.ntmps87
  go_wp2_with (go_at_call 86; refine (H.out).mono ?_; rintro e w1 ⟨E, rfl, hE, hb⟩; have HE := Lib.hid hE; clear hE)
  go_ret2
  exact ⟨E, rfl, HE.out, hb⟩

set_option maxRecDepth 100000 in
set_option maxHeartbeats 3200000 in
theorem append64_none (s : ByteArray) (hs : s.size ≤ 2147483647) (P1 P0 : Nat) (V : List Int) (ch : Bool) (v : Value) (w : World) (h : SV w P1 P0 V ch v) (he1 : ErrCell 0 w) (he2 : ErrCell 1 w) (hq : nums64 [s] = none) :
    Calls Tryd.prog 33 #[.pointer (some ⟨P1, 0, none⟩), .string s] w fun e w' => (∃ t x, e = .returned (.iface t x)) ∧ Below w.heap.size w w' := by
  have HI := Lib.hid (from64_any s (by omega) (.pointer (some ⟨P1, 0, none⟩)) w he1 he2)
  obtain ⟨hok, hno⟩ := whole_cnt s
  unfold cntP at hok hno
  have hw : wholeA 9223372036854775808 s.data.toList = none := by
    cases hx : wholeA 9223372036854775808 s.data.toList with
    | none => rfl
    | some n => simp [nums64, hx] at hq
  have f1 := hno hw
  unfold IntGot at HI
  rw [f1] at HI
  clear he1 he2 hok hno hw hq f1
  go_enter Tryd.func33, Tryd.ntmps33
  go_wp2_with (go_at_call 87; refine (HI.out).mono ?_; rintro e w2 ⟨E, rfl, hE, hb2⟩; obtain ⟨te, qe, hE2⟩ := (hE.resolve_left (fun h => by cases h.1)).2; subst hE2)
  go_ret
  exact ⟨⟨_, _, rfl⟩, hb2⟩

set_option maxRecDepth 100000 in
set_option maxHeartbeats 3200000 in
theorem append64_some (s : ByteArray) (hs : s.size ≤ 2147483647) (P1 P0 : Nat) (V : List Int) (ch : Bool) (v : Value) (w : World) (h : SV w P1 P0 V ch v) (hV : V.length ≤ 1099511627776) (he1 : ErrCell 0 w) (he2 : ErrCell 1 w) (N : List Int) (hq : nums64 [s] = some N) :
    Calls Tryd.prog 33 #[.pointer (some ⟨P1, 0, none⟩), .string s] w (SvSet N (V ++ N) P1 P0 ch v w) := by
  have HI := Lib.hid (from64_any s (by omega) (.pointer (some ⟨P1, 0, none⟩)) w he1 he2)
  obtain ⟨hok, hno⟩ := whole_cnt s
  unfold cntP at hok hno
  obtain ⟨n, hn, rfl⟩ : ∃ n, wholeA 9223372036854775808 s.data.toList = some n ∧ N = [n] := by
    cases hx : wholeA 9223372036854775808 s.data.toList with
    | none => simp [nums64, hx] at hq
    | some n => simp [nums64, hx] at hq; exact ⟨n, rfl, hq.symm⟩
  obtain ⟨f1, f2⟩ := hok n hn
  unfold IntGot at HI
  rw [f1, f2] at HI
  clear he1 he2 hok hno hn hq f1 f2
  obtain ⟨i0, hi, hz0, hz1, hz2⟩ := info_parts Tryd.infoI64
  have hne01 := h.ne
  go_enter Tryd.func33, Tryd.ntmps33
  go_upto_region 4 with (go_at_call 87; refine (HI.out).mono ?_; rintro e wr ⟨E, rfl, hE, hbw⟩; have hE2 : E = .nilIface := (hE.resolve_right (fun h => by cases h.1)).2; subst hE2)
  have hsv := h.kept hbw
  have c10 : wr.cell? ⟨P1, 0, none⟩ = some (.pointer (some ⟨P0, 0, none⟩)) := cell_of_row _ _ 0 _ _ _ hsv.h1
  have c0 : wr.cell? ⟨P0, 0, none⟩ = some v := cell_of_one hsv.h0
  have z0 : wr.frozen? ⟨P0, 0, none⟩ = false := free_of_one hsv.h0
  have lP0 := lt_of_block hsv.h0
  have lP1 := lt_of_block hsv.h1
  have hPv0 : v.ownBlock ≠ some P0 := h.n0
  have hPv1 : v.ownBlock ≠ some P1 := h.n1
  have hBr : 0 ≤ wr.heap.size := Nat.zero_le _
  have a10 : ∀ o, (wr.alloc o).cell? ⟨P1, 0, none⟩ = some (.pointer (some ⟨P0, 0, none⟩)) := fun o => cell_kept ((Below.refl _ _).alloc (Nat.le_refl _) o) c10
  have a0 : ∀ o, (wr.alloc o).cell? ⟨P0, 0, none⟩ = some v := fun o => cell_kept ((Below.refl _ _).alloc (Nat.le_refl _) o) c0
  have b0 : ∀ o, (wr.alloc o).frozen? ⟨P0, 0, none⟩ = false := fun o => frozen_kept ((Below.refl _ _).alloc (Nat.le_refl _) o) c0 z0
  go_region_law ((refine step_append_lies _ (by rfl) _ _ _ (by rfl) 0 2 i0 _ 1 8 Tryd.underlying27 hi hz0 hz1 hz2 rfl (by omega) v V.length (i64s V) (by rfl) (hsv.hv.alloc _) ⟨wr.heap.size, 0, none⟩ 1 1 [.int .i64 n] (by rfl) (by rfl) (World.news_of_block (cs := #[.int .i64 n]) (t := 2) (fr := (0, 0)) (heap_alloc_new wr _)) (by simp [Value.oneCell']) (by omega) (by unfold maxLen; omega) (by omega) (Nat.zero_le _) (wr.heap.size + 1) (by simp) ?_; intro gg cap w2 hown2 hgrow hat hlt2; have k0 : w2.cell? ⟨P0, 0, none⟩ = some v := ((hgrow.cell_far ⟨P0, 0, none⟩ (by simp; omega) (Ne.symm hPv0)).trans (a0 _)); have k1 : w2.frozen? ⟨P0, 0, none⟩ = false := ((hgrow.frozen_far ⟨P0, 0, none⟩ (by simp; omega) (Ne.symm hPv0)).trans (b0 _)); have k2 : w2.cell? ⟨P1, 0, none⟩ = some (.pointer (some ⟨P0, 0, none⟩)) := ((hgrow.cell_far ⟨P1, 0, none⟩ (by simp; omega) (Ne.symm hPv1)).trans (a10 _))))
  all_goals
    have e1 : w2.heap[P1]? = some (.cells #[.pointer (some ⟨P0, 0, none⟩), .bool ch] 137 (0, 0)) := (hgrow.block P1 (by simp; omega) (fun e => hPv1 e.symm)).trans ((Below.heap_alloc wr _ _ lP1).trans hsv.h1)
    have e0 : w2.heap[P0]? = some (.cells #[v] 27 (0, 0)) := (hgrow.block P0 (by simp; omega) (fun e => hPv0 e.symm)).trans ((Below.heap_alloc wr _ _ lP0).trans hsv.h0)
    go_wp2
    go_ret
    have hq1 : (Value.slice (some ⟨gg, 0, none⟩) (V.length + 1) cap).ownBlock ≠ some P1 := ne_of_own (v := v) (n := wr.heap.size) (hat.imp (fun e => e.symm) (fun e g hg => by cases hg; show wr.heap.size ≤ gg; omega)) lP1 hPv1
    have hq0 : (Value.slice (some ⟨gg, 0, none⟩) (V.length + 1) cap).ownBlock ≠ some P0 := ne_of_own (v := v) (n := wr.heap.size) (hat.imp (fun e => e.symm) (fun e g hg => by cases hg; show wr.heap.size ≤ gg; omega)) lP0 hPv0
    refine ⟨rfl, .slice (some ⟨gg, 0, none⟩) (V.length + 1) cap, ⟨?_, one_setCell e0, ?_, hq1, hq0, h.ne, ⟨gg, cap, by rw [List.length_append]; rfl⟩⟩, ?_⟩
    · rw [Below.heap_setCell _ _ _ _ (by show P1 ≠ P0; exact fun e => hne01 e.symm)]; exact e1
    · rw [List.length_append, i64s_snoc]
      exact own_setCell hown2 (a := ⟨P0, 0, none⟩) hq0 _
    · have hg0 : Below 0 w w2 := ⟨hgrow.os.trans hbw.os, hgrow.tape.trans hbw.tape, hgrow.output.trans hbw.output, Nat.le_trans hbw.size (Nat.le_trans (by simp) hgrow.size), fun k hk => by omega⟩
      have hb0 : Below 0 w _ := (hg0.setCell (p := ⟨P0, 0, none⟩) (Nat.zero_le _) (.slice (some ⟨gg, 0, none⟩) (V.length + 1) cap))
      refine ⟨hb0.os, hb0.tape, hb0.output, hb0.size, fun k hk a b c => ?_, ?_⟩
      · have hk2 : k < wr.heap.size := Nat.lt_of_lt_of_le hk hbw.size
        rw [Below.heap_setCell _ _ _ _ (by show k ≠ P0; exact b)]
        exact (hgrow.block k (by simp; omega) (fun e => c e.symm)).trans ((Below.heap_alloc wr _ _ hk2).trans (hbw.block k hk))
      · rcases hat with h1 | h1
        · exact .inl h1.symm
        · exact .inr fun g hg => by cases hg; show w.heap.size ≤ gg; have := hbw.size; omega

set_option maxRecDepth 100000 in
set_option maxHeartbeats 3200000 in
theorem replace64_none (A : Option Addr) (c : Nat) (xs : List ByteArray) (hn : xs.length ≤ 2147483648) (hs : ∀ j, j < xs.length → (tx xs j).size ≤ 2147483647) (P1 P0 : Nat) (V : List Int) (ch : Bool) (v : Value) (w : World) (hx : StrsAt w A xs) (h : SV w P1 P0 V ch v) (he1 : ErrCell 0 w) (he2 : ErrCell 1 w) (hq : nums64 xs = none) :
    Calls Tryd.prog 34 #[.pointer (some ⟨P1, 0, none⟩), .slice A xs.length c] w fun e w' => (∃ t x, e = .returned (.iface t x)) ∧ Below w.heap.size w w' := by
  have HZ := fun j hj => Lib.hid (hs j hj)
  have hbr : Below w.heap.size w w := Below.refl _ _
  have HQ := Lib.hid hq
  have E1 := Lib.hid he1
  have E2 := Lib.hid he2
  have hmk := fun W => run_make_row' (P := Tryd.prog) 27 2 (.int .i64 0) 8 Tryd.underlying27 Tryd.infoI64 rfl .i64 .i64 xs.length (by omega) (by omega) W
  clear hq he1 he2 hs
  go_enter Tryd.func34, Tryd.ntmps34
  go_wp2
  go_loopw [14] (fun i wr => ∃ (k : Nat) (done : List Int), k ≤ xs.length ∧ i = .int .i64 k ∧ done.length = k ∧ wr.rowIs w.heap.size 2 xs.length (fun j => .int .i64 (done.getD j 0)) ∧ Hid (nums64 xs = (nums64 (xs.drop k)).map (done ++ ·)) ∧ Below w.heap.size w wr) (fun i _ => xs.length - (intOf i).toNat)
  case atStart => exact ⟨0, [], Nat.zero_le _, rfl, rfl, World.rowIs_made w _ _ _, by show _ = _; simp, (Below.refl _ _).alloc (Nat.le_refl _) _⟩
  case round =>
    obtain ⟨k, done, hk, rfl, hdl, hri, HR, hbel⟩ := hrel
    by_cases hlt : k < xs.length
    · obtain ⟨ba, oa, rfl, hc0⟩ := hx k hlt
      have hc := cell_kept hbel hc0
      have i0 : (0 : Int) ≤ (k : Int) := Int.natCast_nonneg _
      have i1 : (k : Int) < (xs.length : Int) := by omega
      have hsz : (tx xs k).size ≤ 281474976710656 := by have := (HZ k hlt).out; omega
      have hbw : Below w.heap.size w wr := below_step hbr hbel
      have HI := Lib.hid (from64_any (tx xs k) hsz (.pointer (some ⟨P1, 0, none⟩)) wr (E1.out.below hbw) (E2.out.below hbw))
      have hd := nums64_drop hlt
      obtain ⟨hok, hno⟩ := whole_cnt (tx xs k)
      unfold cntP at hok hno
      generalize piE 18446744073709551615 9223372036854775808 (tx xs k).data.toList = p at HI hok hno
      unfold IntGot at HI
      generalize hq : wholeA 9223372036854775808 (tx xs k).data.toList = q at hd hok hno
      clear hq hsz hc0
      cases q with
      | some n =>
        obtain ⟨f1, f2⟩ := hok n rfl
        rw [f1, f2] at HI
        simp only [] at hd
        have HR2 : Hid (nums64 xs = (nums64 (xs.drop (k + 1))).map ((done ++ [n]) ++ ·)) := by
          show _ = _
          rw [HR.out, hd, Option.map_map]; congr 1; funext l; simp
        clear hd HR hok hno f1 f2
        go_wp2_with (go_at_call 87; go_loud (refine (HI.out).mono ?_; rintro e w2 ⟨E, rfl, hE, hb2⟩; have hE2 : E = .nilIface := (hE.resolve_right (fun h => by cases h.1)).2; subst hE2; have hri2 := hri.of_block (hb2.block _ hri.lt); have hcz := hri2.cell hlt; have hfz := hri2.frozen k; have hbel2 := below_step hbel hb2))
        have hri3 := (hri2.set k (.int .i64 n)).congr (g := fun j => .int .i64 ((done ++ [n]).getD j 0)) (fun j hj => by
          by_cases e : j = k
          · subst e; simp [hdl]
          · simp only [if_neg e]
            rw [List.getD_eq_getElem?_getD, List.getD_eq_getElem?_getD]
            by_cases h2 : j < k
            · rw [List.getElem?_append_left (by omega)]
            · rw [List.getElem?_eq_none (by omega), List.getElem?_eq_none (by simp; omega)])
        go_roundw
        case rel => exact ⟨k + 1, done ++ [n], by omega, by go_num, by simp [hdl], hri3, HR2, hbel2.setCell (p := ⟨w.heap.size, k, none⟩) (Nat.le_refl _) _⟩
        case measure => simp [intOf]; omega
      | none =>
        have f1 := hno rfl
        rw [f1] at HI
        clear hd HR hok hno f1
        go_wp2_with (go_at_call 87; go_loud (refine (HI.out).mono ?_; rintro e w2 ⟨E, rfl, hE, hb2⟩; obtain ⟨te, qe, hE2⟩ := (hE.resolve_left (fun h => by cases h.1)).2; subst hE2; have hri2 := hri.of_block (hb2.block _ hri.lt); have hcz := hri2.cell hlt; have hfz := hri2.frozen k; have hbel2 := below_step hbel hb2))
        go_ret
        exact ⟨⟨_, _, rfl⟩, below_step hbr (hbel2.setCell (p := ⟨w.heap.size, k, none⟩) (Nat.le_refl _) _)⟩
    · have HN : Hid (nums64 xs = some done) := by
        show _ = _
        rw [HR.out, List.drop_eq_nil_of_le (by omega)]; simp [nums64]
      have := HQ.out
      rw [HN.out] at this
      cases this

set_option maxRecDepth 100000 in
set_option maxHeartbeats 3200000 in
theorem replace64_some (A : Option Addr) (c : Nat) (xs : List ByteArray) (hn : xs.length ≤ 2147483648) (hs : ∀ j, j < xs.length → (tx xs j).size ≤ 2147483647) (P1 P0 : Nat) (V : List Int) (ch : Bool) (v : Value) (w : World) (hx : StrsAt w A xs) (h : SV w P1 P0 V ch v) (he1 : ErrCell 0 w) (he2 : ErrCell 1 w) (N : List Int) (hq : nums64 xs = some N) :
    Calls Tryd.prog 34 #[.pointer (some ⟨P1, 0, none⟩), .slice A xs.length c] w (SvSet N N P1 P0 ch v w) := by
  have HZ := fun j hj => Lib.hid (hs j hj)
  have hbr : Below w.heap.size w w := Below.refl _ _
  have HQ := Lib.hid hq
  have E1 := Lib.hid he1
  have E2 := Lib.hid he2
  have hmk := fun W => run_make_row' (P := Tryd.prog) 27 2 (.int .i64 0) 8 Tryd.underlying27 Tryd.infoI64 rfl .i64 .i64 xs.length (by omega) (by omega) W
  clear hq he1 he2 hs
  go_enter Tryd.func34, Tryd.ntmps34
  go_wp2
  go_loopw [14] (fun i wr => ∃ (k : Nat) (done : List Int), k ≤ xs.length ∧ i = .int .i64 k ∧ done.length = k ∧ wr.rowIs w.heap.size 2 xs.length (fun j => .int .i64 (done.getD j 0)) ∧ Hid (nums64 xs = (nums64 (xs.drop k)).map (done ++ ·)) ∧ Below w.heap.size w wr) (fun i _ => xs.length - (intOf i).toNat)
  case atStart => exact ⟨0, [], Nat.zero_le _, rfl, rfl, World.rowIs_made w _ _ _, by show _ = _; simp, (Below.refl _ _).alloc (Nat.le_refl _) _⟩
  case round =>
    obtain ⟨k, done, hk, rfl, hdl, hri, HR, hbel⟩ := hrel
    by_cases hlt : k < xs.length
    · obtain ⟨ba, oa, rfl, hc0⟩ := hx k hlt
      have hc := cell_kept hbel hc0
      have i0 : (0 : Int) ≤ (k : Int) := Int.natCast_nonneg _
      have i1 : (k : Int) < (xs.length : Int) := by omega
      have hsz : (tx xs k).size ≤ 281474976710656 := by have := (HZ k hlt).out; omega
      have hbw : Below w.heap.size w wr := below_step hbr hbel
      have HI := Lib.hid (from64_any (tx xs k) hsz (.pointer (some ⟨P1, 0, none⟩)) wr (E1.out.below hbw) (E2.out.below hbw))
      have hd := nums64_drop hlt
      obtain ⟨hok, hno⟩ := whole_cnt (tx xs k)
      unfold cntP at hok hno
      generalize piE 18446744073709551615 9223372036854775808 (tx xs k).data.toList = p at HI hok hno
      unfold IntGot at HI
      generalize hq : wholeA 9223372036854775808 (tx xs k).data.toList = q at hd hok hno
      clear hq hsz hc0
      cases q with
      | some n =>
        obtain ⟨f1, f2⟩ := hok n rfl
        rw [f1, f2] at HI
        simp only [] at hd
        have HR2 : Hid (nums64 xs = (nums64 (xs.drop (k + 1))).map ((done ++ [n]) ++ ·)) := by
          show _ = _
          rw [HR.out, hd, Option.map_map]; congr 1; funext l; simp
        clear hd HR hok hno f1 f2
        go_wp2_with (go_at_call 87; go_loud (refine (HI.out).mono ?_; rintro e w2 ⟨E, rfl, hE, hb2⟩; have hE2 : E = .nilIface := (hE.resolve_right (fun h => by cases h.1)).2; subst hE2; have hri2 := hri.of_block (hb2.block _ hri.lt); have hcz := hri2.cell hlt; have hfz := hri2.frozen k; have hbel2 := below_step hbel hb2))
        have hri3 := (hri2.set k (.int .i64 n)).congr (g := fun j => .int .i64 ((done ++ [n]).getD j 0)) (fun j hj => by
          by_cases e : j = k
          · subst e; simp [hdl]
          · simp only [if_neg e]
            rw [List.getD_eq_getElem?_getD, List.getD_eq_getElem?_getD]
            by_cases h2 : j < k
            · rw [List.getElem?_append_left (by omega)]
            · rw [List.getElem?_eq_none (by omega), List.getElem?_eq_none (by simp; omega)])
        go_roundw
        case rel => exact ⟨k + 1, done ++ [n], by omega, by go_num, by simp [hdl], hri3, HR2, hbel2.setCell (p := ⟨w.heap.size, k, none⟩) (Nat.le_refl _) _⟩
        case measure => simp [intOf]; omega
      | none =>
        exfalso
        have h1 := HQ.out
        rw [HR.out, hd] at h1
        cases h1
    · have HN : Hid (nums64 xs = some done) := by
        show _ = _
        rw [HR.out, List.drop_eq_nil_of_le (by omega)]; simp [nums64]
      have hND : done = N := by
        have h1 := HQ.out
        rw [HN.out] at h1
        cases h1; rfl
      subst hND
      have hkn : k = xs.length := by omega
      subst hkn
      have hbw : Below w.heap.size w wr := hbel
      have hsv := h.kept hbw
      have hown : wr.ownsRow 0 2 1 (.slice (some ⟨w.heap.size, 0, none⟩) xs.length xs.length) xs.length (i64s done) := own_of_rowIs hri hdl (Nat.zero_le _) (by unfold maxLen; omega)
      have c10 : wr.cell? ⟨P1, 0, none⟩ = some (.pointer (some ⟨P0, 0, none⟩)) := cell_of_row _ _ 0 _ _ _ hsv.h1
      have c0 : wr.cell? ⟨P0, 0, none⟩ = some v := cell_of_one hsv.h0
      have z0 : wr.frozen? ⟨P0, 0, none⟩ = false := free_of_one hsv.h0
      go_wp2
      go_ret
      have hq1 : (Value.slice (some ⟨w.heap.size, 0, none⟩) xs.length xs.length).ownBlock ≠ some P1 := fun e => by have e2 : w.heap.size = P1 := Option.some.inj e; have := lt_of_block h.h1; omega
      have hq0 : (Value.slice (some ⟨w.heap.size, 0, none⟩) xs.length xs.length).ownBlock ≠ some P0 := fun e => by have e2 : w.heap.size = P0 := Option.some.inj e; have := lt_of_block h.h0; omega
      refine ⟨rfl, .slice (some ⟨w.heap.size, 0, none⟩) xs.length xs.length, ⟨?_, one_setCell hsv.h0, ?_, hq1, hq0, h.ne, ⟨_, _, by rw [hdl]⟩⟩, ?_⟩
      · rw [Below.heap_setCell _ _ _ _ (by show P1 ≠ P0; exact fun e => h.ne e.symm)]; exact hsv.h1
      · rw [hdl]; exact own_setCell hown (a := ⟨P0, 0, none⟩) hq0 _
      · have hb0 : Below 0 w _ := (hbw.mono (Nat.zero_le _)).setCell (p := ⟨P0, 0, none⟩) (Nat.zero_le _) (.slice (some ⟨w.heap.size, 0, none⟩) xs.length xs.length)
        refine ⟨hb0.os, hb0.tape, hb0.output, hb0.size, fun k hk a b _ => ?_, .inr fun g hg => ?_⟩
        · rw [Below.heap_setCell _ _ _ _ (by show k ≠ P0; exact b)]
          exact hbw.block k hk
        · cases hg; exact Nat.le_refl _
end Go.Proofs.YtdmpeecocfoocaaDoor.E

namespace Go.Proofs.YtdmpeecocfoocaaDoor.E
open Go.ChangeShapes Go.WideShapes Go.ChangeAt Go.RowKit
set_option linter.unusedVariables false
set_option linter.unusedSimpArgs false

/-- A step: what is done, its text, its texts. -/
structure StepL where
  act : Int
  text : ByteArray
  texts : List ByteArray
/-- The steps of a list, as they lie in memory. -/
def StepsAt (w : World) (A : Option Addr) (L : List StepL) : Prop :=
  ∀ i (hi : i < L.length), ∃ b o v, A = some ⟨b, o, none⟩ ∧ w.cell? ⟨b, o + i * 3, none⟩ = some (.int .i64 L[i].act) ∧ w.cell? ⟨b, o + i * 3 + 1, none⟩ = some (.string L[i].text) ∧ w.cell? ⟨b, o + i * 3 + 2, none⟩ = some v ∧ Texts w v L[i].texts
theorem StepsAt.below {w w' : World} {A : Option Addr} {L : List StepL} (h : StepsAt w A L) (hb : Below w.heap.size w w') : StepsAt w' A L := by
  intro i hi
  obtain ⟨b, o, v, e, h0, h1, h2, h3⟩ := h i hi
  exact ⟨b, o, v, e, cell_kept hb h0, cell_kept hb h1, cell_kept hb h2, h3.below hb⟩
theorem list_of_each {α : Type} {Q : Nat → α → Prop} : ∀ n, (∀ i, i < n → ∃ x, Q i x) → ∃ L : List α, L.length = n ∧ ∀ i (h : i < L.length), Q i L[i]
  | 0, _ => ⟨[], rfl, fun i h => by simp at h⟩
  | n + 1, h => by
    obtain ⟨L, hl, hq⟩ := list_of_each n (fun i hi => h i (by omega))
    obtain ⟨x, hx⟩ := h n (by omega)
    refine ⟨L ++ [x], by simp [hl], fun i hi => ?_⟩
    by_cases e : i < L.length
    · rw [List.getElem_append_left e]; exact hq i e
    · have : i = n := by simp at hi; omega
      subst this
      rw [List.getElem_append_right (by omega)]
      simpa [hl] using hx

theorem texts_of_trod {H : Type} {enc : TypeId × Value → H} {P : Program} {W : World} {t e : TypeId} {fuel : Nat} {cs : List Value} {x : DataW H × List MemPlace}
    (ht : P.underlying t = some (.slice e)) (he : P.underlying e = some .string) (hc : P.cellsOf e = 1) (h : DataW.trod enc P W 0 (fun _ => true) true fuel t cs = some x) :
    ∃ v xs, cs = [v] ∧ Texts W v xs := by
  rcases open_strings ht he hc h with ⟨hcs, hx⟩ | ⟨a, len', cap', zs, hcs, _, hl, hm, hz, hx, hcell, hwz⟩
  · exact ⟨_, [], hcs, Texts.nil W⟩
  · simp only [if_true] at hz
    unfold maxLen at hm
    have hn : (zs.take len').length = len' := by rw [List.length_take]; omega
    refine ⟨_, zs.take len', hcs, ⟨some a, cap', by rw [hn], ?_, by rw [hn]; omega, by omega, fun h => by cases h⟩⟩
    intro i hi
    rw [hn] at hi
    obtain ⟨b, o, spot⟩ := a
    have hc := hcell i (by omega)
    obtain rfl : spot = none := by simpa [Addr.add] using World.cell?_spot (hcell 0 (by omega))
    refine ⟨b, o, rfl, ?_⟩
    rw [Addr.add_mid] at hc
    rw [hc]
    simp only [tx, List.getD_eq_getElem?_getD, List.getElem?_take]
    rw [if_pos hi]

/-- A list of steps that came in. -/
theorem open_steps {H : Type} {enc : TypeId × Value → H} {P : Program} {W : World} {base : Nat} {t e es : TypeId} {v : Value} {d : DataW H} {p : List MemPlace} {f0 f1 f2 : Field}
    (ht : P.underlying t = some (.slice e)) (he : P.underlying e = some (.struct #[f0, f1, f2])) (h3 : P.cellsOf e = 3)
    (o0 : f0.offset = 0) (o1 : f1.offset = 1) (o2 : f2.offset = 2) (c0 : P.cellsOf f0.type = 1) (c1 : P.cellsOf f1.type = 1) (c2 : P.cellsOf f2.type = 1)
    (u0 : P.underlying f0.type = some (.int .i64)) (u1 : P.underlying f1.type = some .string) (u2 : P.underlying f2.type = some (.slice es)) (us : P.underlying es = some .string) (hcs : P.cellsOf es = 1)
    (hok : Value.okWide P W .any base t v) (h : DataW.Trod enc P W 0 (fun _ => true) true t v d p) :
    ∃ (L : List StepL) (A : Option Addr) (cap : Nat), v = .slice A L.length cap ∧ StepsAt W A L ∧ L.length ≤ cap ∧ cap ≤ 9223372036854775807 := by
  obtain ⟨A0, len, cap, rfl⟩ := okWide_slice ht hok
  obtain ⟨fuel, hf⟩ := h
  rcases DataW.trod_slice ht hf with ⟨hc, hx⟩ | ⟨a, len', cap', elems, rest, n, _, hc, _, hb, hl, hm, hlen, hel, _, _⟩
  · simp [Value.cells] at hc
    obtain ⟨rfl, rfl, rfl⟩ := hc
    exact ⟨[], none, 0, rfl, fun i hi => by simp at hi, by simp, by simp⟩
  · simp [Value.cells] at hc
    obtain ⟨rfl, rfl, rfl⟩ := hc
    have each : ∀ i, i < len → ∃ s : StepL, ∃ v, W.cell? (a.add (i * 3)) = some (.int .i64 s.act) ∧ W.cell? ((a.add (i * 3)).add 1) = some (.string s.text) ∧ W.cell? ((a.add (i * 3)).add 2) = some v ∧ Texts W v s.texts := by
      intro i hi
      have hi2 := hel i hi
      rw [h3, List.getElem?_eq_getElem (by omega), Option.bind_eq_some_iff] at hi2
      obtain ⟨cs', hcs', htr⟩ := hi2
      obtain ⟨xs, m, _, hx1, hl1, hl2, hfl⟩ := DataW.trod_struct he htr
      obtain ⟨hb1, hl3, hcell⟩ := World.cells?_some hcs'
      have y0 := hfl 0 f0 rfl
      have y1 := hfl 1 f1 rfl
      have y2 := hfl 2 f2 rfl
      rw [o0, c0] at y0
      rw [o1, c1] at y1
      rw [o2, c2] at y2
      have hxl : xs.length = 3 := by simpa using hl2
      rw [List.getElem?_eq_getElem (by omega)] at y0 y1 y2
      obtain ⟨q0, q1, q2, rfl⟩ : ∃ q0 q1 q2, cs' = [q0, q1, q2] := by
        match cs', hl3 with
        | [q0, q1, q2], _ => exact ⟨q0, q1, q2, rfl⟩
      simp only [List.drop_zero, List.drop_succ_cons, List.take_succ_cons, List.take_zero] at y0 y1 y2
      obtain ⟨k, e0, _, _⟩ := DataW.trod_int u0 y0
      obtain ⟨s, e1, _, _⟩ := DataW.trod_string u1 y1
      obtain ⟨v, zs, e2, hz⟩ := texts_of_trod u2 us hcs y2
      simp only [List.cons.injEq, and_true] at e0 e1 e2
      subst e0 e1 e2
      refine ⟨⟨k, s, zs⟩, _, ?_, ?_, ?_, hz⟩
      · have := hcell 0 (by omega)
        rw [show (a.add (i * 3)).add 0 = a.add (i * 3) by simp [Addr.add]] at this
        simpa using this
      · have := hcell 1 (by omega); simpa using this
      · have := hcell 2 (by omega); simpa using this
    obtain ⟨L, hL, hQ⟩ := list_of_each len each
    refine ⟨L, some a, cap, by rw [hL], ?_, by rw [hL]; exact hl, by unfold maxLen at hm; omega⟩
    intro i hi
    obtain ⟨v, k0, k1, k2, k3⟩ := hQ i hi
    obtain ⟨vz, z0, _⟩ := hQ 0 (by omega)
    obtain ⟨b, o, spot⟩ := a
    obtain rfl : spot = none := by simpa [Addr.add] using World.cell?_spot z0
    rw [Addr.add_mid] at k0 k1 k2
    rw [Addr.add_mid] at k1 k2
    exact ⟨b, o, v, rfl, k0, k1, k2, k3⟩
end Go.Proofs.YtdmpeecocfoocaaDoor.E

namespace Go.Proofs.YtdmpeecocfoocaaDoor.E
open Go.RowKit Go.Proofs
set_option linter.unusedVariables false
set_option linter.unusedSimpArgs false

/-- Whether a step is told. -/
def toldB (x : StepL) : Bool := decide (0 ≤ x.act ∧ x.act ≤ 2)
def toldN (L : List StepL) : Nat := (L.filter toldB).length
theorem toldN_le (L : List StepL) : toldN L ≤ L.length := List.length_filter_le _ _
theorem toldN_take {L : List StepL} {k : Nat} (h : k < L.length) : toldN (L.take (k + 1)) = toldN (L.take k) + (if toldB L[k] = true then 1 else 0) := by
  unfold toldN
  rw [List.take_succ_eq_append_getElem h, List.filter_append, List.length_append]
  congr 1
  by_cases e : toldB L[k] = true
  · simp [e]
  · simp [e]

set_option maxRecDepth 100000 in
set_option maxHeartbeats 1600000 in
theorem told_any (A : Option Addr) (cap : Nat) (L : List StepL) (w : World) (hx : StepsAt w A L) (hm : L.length ≤ 2147483647) :
    Calls Tryd.prog 13 #[.slice A L.length cap] w fun e w' => e = .returned (.int .i64 (toldN L)) ∧ Below w.heap.size w w' := by
  go_enter Tryd.func13, Tryd.ntmps13
  go_wp2
  go_loopw [3, 8] (fun v i wr => ∃ k : Nat, k ≤ L.length ∧ i = .int .i64 k ∧ v = .int .i64 (toldN (L.take k)) ∧ Below w.heap.size w wr) (fun _ i _ => L.length - (intOf i).toNat)
  case atStart => exact ⟨0, Nat.zero_le _, rfl, rfl, Below.refl _ _⟩
  case round =>
    obtain ⟨k, hk, rfl, rfl, hbel⟩ := hrel
    by_cases hlt : k < L.length
    · obtain ⟨b, o, v, rfl, h0, h1, h2, h3⟩ := hx k hlt
      have c0 := cell_kept hbel h0
      have c1 := cell_kept hbel h1
      have c2 := cell_kept hbel h2
      have HT := Lib.hid (toldN_take hlt)
      have hle := toldN_le (L.take k)
      have hle2 : (L.take k).length ≤ k := by rw [List.length_take]; omega
      have i0 : (0 : Int) ≤ (k : Int) := Int.natCast_nonneg _
      have i1 : (k : Int) < (L.length : Int) := by omega
      have HB : Hid (toldB L[k] = decide (0 ≤ L[k].act ∧ L[k].act ≤ 2)) := rfl
      obtain ⟨At, ct, rfl, _⟩ := h3
      clear h0 h1 h2 hx
      generalize L[k].texts.length = nt at c2
      generalize L[k].act = q at c0 HB
      generalize L[k].text = tq at c1
      generalize toldN (L.take k) = m at HT hle ⊢
      by_cases ha : 0 ≤ q
      · by_cases hb : q ≤ 2
        · have HT2 : Hid (toldN (L.take (k + 1)) = m + 1) := by show _ = _; rw [HT.out, HB.out]; simp [ha, hb]
          clear HT HB
          go_wp2
          go_roundw
          case rel => exact ⟨k + 1, by omega, by go_num, by rw [HT2.out]; go_num, (hbel.alloc hbel.size _)⟩
          case measure => simp [intOf]; omega
        · have HT2 : Hid (toldN (L.take (k + 1)) = m) := by show _ = _; rw [HT.out, HB.out]; simp [hb]
          have hb' : 2 < q := by omega
          clear HT HB
          go_wp2
          go_roundw
          case rel => exact ⟨k + 1, by omega, by go_num, by rw [HT2.out], (hbel.alloc hbel.size _)⟩
          case measure => simp [intOf]; omega
      · have HT2 : Hid (toldN (L.take (k + 1)) = m) := by show _ = _; rw [HT.out, HB.out]; simp [ha]
        have ha' : q < 0 := by omega
        clear HT HB
        go_wp2
        go_roundw
        case rel => exact ⟨k + 1, by omega, by go_num, by rw [HT2.out], (hbel.alloc hbel.size _)⟩
        case measure => simp [intOf]; omega
    · have HK : Hid (L.take k = L) := List.take_of_length_le (by omega)
      go_wp2
      go_ret
      exact ⟨by rw [HK.out]; rfl, hbel⟩

/-- What zzFits8 asks of a step, zzFits7 of a list of steps. -/
def fits8 (x : StepL) : Bool := decide (x.text.size ≤ 2147483647) && fits2 x.texts
def fits7 (L : List StepL) : Bool := decide (L.length ≤ 2147483647) && L.all fits8
theorem fits7_iff {L : List StepL} : fits7 L = true ↔ L.length ≤ 2147483647 ∧ ∀ j (h : j < L.length), fits8 L[j] = true := by
  simp only [fits7, Bool.and_eq_true, decide_eq_true_eq, List.all_eq_true]
  constructor
  · rintro ⟨a, b⟩; exact ⟨a, fun j h => b _ (List.getElem_mem h)⟩
  · rintro ⟨a, b⟩; exact ⟨a, fun x hx => by obtain ⟨j, h, rfl⟩ := List.getElem_of_mem hx; exact b j h⟩
theorem fits7_no {L : List StepL} {k : Nat} (h : k < L.length) (hs : fits8 L[k] = false) : fits7 L = false := by
  rw [Bool.eq_false_iff]; intro hc; rw [(fits7_iff.1 hc).2 k h] at hs; cases hs
theorem fits8_iff {x : StepL} : fits8 x = true ↔ x.text.size ≤ 2147483647 ∧ x.texts.length ≤ 2147483647 ∧ ∀ j, j < x.texts.length → (tx x.texts j).size ≤ 2147483647 := by
  simp only [fits8, Bool.and_eq_true, decide_eq_true_eq, fits2_iff]

set_option maxRecDepth 100000 in
set_option maxHeartbeats 1600000 in
theorem fits8_any (n : Int) (t : ByteArray) (A : Option Addr) (cap : Nat) (xs : List ByteArray) (w : World) (hx : StrsAt w A xs) (hm : xs.length ≤ 9223372036854775807) :
    Calls Tryd.prog 30 #[.agg #[.int .i64 n, .string t, .slice A xs.length cap]] w fun e w' => e = .returned (.bool (fits8 ⟨n, t, xs⟩)) ∧ Below w.heap.size w w' := by
  have hs0 : StrsAt (w.alloc (.cells #[.int .i64 n, .string t, .slice A xs.length cap] 67)) A xs := strsAt_below hx ((Below.refl _ _).alloc (Nat.le_refl _) _)
  have HF := Lib.hid (fits2_any A cap xs _ hs0 hm)
  have H8 : Hid (fits8 ⟨n, t, xs⟩ = (decide (t.size ≤ 2147483647) && fits2 xs)) := rfl
  clear hx hs0 hm
  generalize fits2 xs = f at HF H8
  generalize xs.length = nx at HF ⊢
  by_cases hb : (2147483647 : Int) < (t.size : Int)
  · have HR : Hid (fits8 ⟨n, t, xs⟩ = false) := by show _ = _; rw [H8.out]; simp; omega
    go_enter Tryd.func30, Tryd.ntmps30
    go_wp2
    go_ret
    exact ⟨by rw [HR.out]; rfl, (Below.refl _ _).alloc (Nat.le_refl _) _⟩
  · have HR : Hid (fits8 ⟨n, t, xs⟩ = f) := by show _ = _; rw [H8.out]; have : t.size ≤ 2147483647 := by omega
                                               simp [this]
    go_enter Tryd.func30, Tryd.ntmps30
    cases f with
    | true =>
      go_wp2_with (go_at_call 7; refine (HF.out).mono ?_; rintro e w1 ⟨rfl, rfl⟩)
      go_ret
      exact ⟨by rw [HR.out]; rfl, (Below.refl _ _).alloc (Nat.le_refl _) _⟩
    | false =>
      go_wp2_with (go_at_call 7; refine (HF.out).mono ?_; rintro e w1 ⟨rfl, rfl⟩)
      go_ret
      exact ⟨by rw [HR.out]; rfl, (Below.refl _ _).alloc (Nat.le_refl _) _⟩

set_option maxRecDepth 100000 in
set_option maxHeartbeats 1600000 in
theorem fits7_any (A : Option Addr) (cap : Nat) (L : List StepL) (w : World) (hx : StepsAt w A L) (hm : L.length ≤ 9223372036854775807) :
    Calls Tryd.prog 9 #[.slice A L.length cap] w fun e w' => e = .returned (.bool (fits7 L)) ∧ Below w.heap.size w w' := by
  by_cases hbig : 2147483647 < L.length
  · have hb : ((2147483647 : Int) < (L.length : Int)) := by omega
    have HF : Hid (fits7 L = false) := by show _ = _; rw [Bool.eq_false_iff]; intro hc; have := (fits7_iff.1 hc).1; omega
    go_enter Tryd.func9, Tryd.ntmps9
    go_wp2
    go_ret
    exact ⟨by rw [HF.out]; rfl, Below.refl _ _⟩
  · have hb : ¬ ((2147483647 : Int) < (L.length : Int)) := by omega
    go_enter Tryd.func9, Tryd.ntmps9
    go_wp2
    go_loopw [10] (fun i wr => ∃ k : Nat, k ≤ L.length ∧ i = .int .i64 k ∧ Hid (∀ j (h : j < L.length), j < k → fits8 L[j] = true) ∧ Below w.heap.size w wr) (fun i _ => L.length - (intOf i).toNat)
    case atStart => exact ⟨0, Nat.zero_le _, rfl, fun j _ hj => by omega, Below.refl _ _⟩
    case round =>
      obtain ⟨k, hk, rfl, HP, hbel⟩ := hrel
      by_cases hlt : k < L.length
      · obtain ⟨b, o, v, rfl, h0, h1, h2, h3⟩ := hx k hlt
        have c0 := cell_kept hbel h0
        have c1 := cell_kept hbel h1
        have c2 := cell_kept hbel h2
        obtain ⟨At, ct, rfl, hst0, hle, hcap, _⟩ := h3
        have i0 : (0 : Int) ≤ (k : Int) := Int.natCast_nonneg _
        have i1 : (k : Int) < (L.length : Int) := by omega
        have hst : StrsAt (wr.alloc (.cells #[.int .i64 L[k].act, .string L[k].text, .slice At L[k].texts.length ct] 67)) At L[k].texts := strsAt_below (strsAt_below hst0 hbel) ((Below.refl _ _).alloc (Nat.le_refl _) _)
        have H8 := Lib.hid (fits8_any L[k].act L[k].text At ct L[k].texts _ hst (by omega))
        have HN : Hid (fits8 L[k] = false → fits7 L = false) := fits7_no hlt
        have HY : Hid (fits8 L[k] = true → ∀ j (h : j < L.length), j < k + 1 → fits8 L[j] = true) := by
          intro hy j h hj
          by_cases e : j = k
          · subst e; exact hy
          · exact HP.out j h (by omega)
        clear h0 h1 h2 hx hst hst0
        have HE : Hid (fits8 ⟨L[k].act, L[k].text, L[k].texts⟩ = fits8 L[k]) := rfl
        rw [HE.out] at H8
        generalize fits8 L[k] = f at H8 HN HY
        generalize L[k].act = q at c0 H8
        generalize L[k].text = tq at c1 H8
        generalize L[k].texts.length = nt at c2 H8 hle
        cases f with
        | false =>
          have HF := Lib.hid (HN.out rfl)
          go_wp2_with (go_at_call 30; refine (H8.out).mono ?_; rintro e w1 ⟨rfl, hb1⟩; have hb1 : Below wr.heap.size wr w1 := ((Below.refl _ _).alloc (Nat.le_refl _) _).trans (hb1.mono (by simp)))
          go_ret
          exact ⟨by rw [HF.out]; rfl, below_step hbel hb1⟩
        | true =>
          have HY2 := Lib.hid (HY.out rfl)
          go_wp2_with (go_at_call 30; refine (H8.out).mono ?_; rintro e w1 ⟨rfl, hb1⟩; have hb1 : Below wr.heap.size wr w1 := ((Below.refl _ _).alloc (Nat.le_refl _) _).trans (hb1.mono (by simp)))
          go_roundw
          case rel => exact ⟨k + 1, by omega, by go_num, HY2, below_step hbel hb1⟩
          case measure => simp [intOf]; omega
      · have HF : Hid (fits7 L = true) := fits7_iff.2 ⟨by omega, fun j h => HP.out j h (by omega)⟩
        go_wp2
        go_ret
        exact ⟨by rw [HF.out]; rfl, hbel⟩
end Go.Proofs.YtdmpeecocfoocaaDoor.E

namespace Go.Proofs.YtdmpeecocfoocaaDoor.E
open Go.RowKit Go.Proofs
set_option linter.unusedVariables false
set_option linter.unusedSimpArgs false

/-- What newInt64SliceValue leaves: the struct is new, the variable holds the list. -/
def NewSv (V : List Int) (v : Value) (P0 : Nat) (w : World) (e : Ending) (w' : World) : Prop :=
  e = .returned (.pointer (some ⟨w.heap.size, 0, none⟩)) ∧ SV w' w.heap.size P0 V false v ∧ Below P0 w w'

set_option maxRecDepth 100000 in
set_option maxHeartbeats 1600000 in
theorem new64_any (g c : Nat) (V : List Int) (P0 : Nat) (z : Value) (w : World) (h0 : w.heap[P0]? = some (.cells #[z] 27 (0, 0))) (hz : ∃ a n k, z = .slice a n k) (hv : w.ownsRow 0 2 1 (.slice (some ⟨g, 0, none⟩) V.length c) V.length (i64s V)) (hg : g ≠ P0) :
    Calls Tryd.prog 84 #[.slice (some ⟨g, 0, none⟩) V.length c, .pointer (some ⟨P0, 0, none⟩)] w (NewSv V (.slice (some ⟨g, 0, none⟩) V.length c) P0 w) := by
  obtain ⟨za, zn, zk, rfl⟩ := hz
  have lP0 := lt_of_block h0
  have lg := (hv.lt g rfl).2
  have c0 : ∀ o, (w.alloc o).cell? ⟨P0, 0, none⟩ = some (.slice za zn zk) := fun o => cell_of_one ((Below.heap_alloc w _ _ lP0).trans h0)
  have z0 : ∀ o, (w.alloc o).frozen? ⟨P0, 0, none⟩ = false := fun o => free_of_one ((Below.heap_alloc w _ _ lP0).trans h0)
  go_enter Tryd.func84, Tryd.ntmps84
  go_wp2
  go_ret
  have hsz : ∀ x, (w.setCell ⟨P0, 0, none⟩ x).heap.size = w.heap.size := fun x => by simp [World.setCell]
  have hb1 : Below P0 w ((w.setCell ⟨P0, 0, none⟩ (.slice (some ⟨g, 0, none⟩) V.length c)).alloc (.cells #[.pointer (some ⟨P0, 0, none⟩), .bool false] 137)) := ((Below.refl P0 w).setCell (p := ⟨P0, 0, none⟩) (Nat.le_refl _) _).alloc (by rw [hsz]; omega) _
  refine ⟨rfl, ⟨?_, ?_, ?_, ?_, ?_, ?_, ⟨g, c, rfl⟩⟩, hb1⟩
  · have := heap_alloc_new (w.setCell ⟨P0, 0, none⟩ (.slice (some ⟨g, 0, none⟩) V.length c)) (.cells #[.pointer (some ⟨P0, 0, none⟩), .bool false] 137)
    rwa [hsz] at this
  · rw [Below.heap_alloc _ _ _ (by rw [hsz]; exact lP0)]
    exact one_setCell h0
  · exact (own_setCell hv (a := ⟨P0, 0, none⟩) (by simp [Value.ownBlock]; exact hg) _).alloc _
  · simp [Value.ownBlock]; omega
  · simp [Value.ownBlock]; exact hg
  · omega

set_option maxRecDepth 100000 in
theorem zz64_any (g c : Nat) (V : List Int) (P0 : Nat) (z : Value) (w : World) (h0 : w.heap[P0]? = some (.cells #[z] 27 (0, 0))) (hz : ∃ a n k, z = .slice a n k) (hv : w.ownsRow 0 2 1 (.slice (some ⟨g, 0, none⟩) V.length c) V.length (i64s V)) (hg : g ≠ P0) :
    Calls Tryd.prog 31 #[.slice (some ⟨g, 0, none⟩) V.length c, .pointer (some ⟨P0, 0, none⟩)] w (NewSv V (.slice (some ⟨g, 0, none⟩) V.length c) P0 w) := by
  have H := Lib.hid (new64_any g c V P0 z w h0 hz hv hg)
  clear hz hv
  go_enter Tryd.func31, Tryd.ntmps31
  go_wp2_with (go_at_call 84; refine (H.out).mono ?_; rintro e w1 ⟨rfl, hsv, hb⟩)
  go_ret
  exact ⟨rfl, hsv, hb⟩

/-- Whether two lists are one. -/
theorem i64s_at {V : List Int} {k : Nat} (h : k < V.length) : (i64s V)[k]? = some (.int .i64 (V.getD k 0)) := by simp [i64s, h]

theorem list_eq_getD {a b : List Int} (hl : a.length = b.length) (h : ∀ j, j < a.length → a.getD j 0 = b.getD j 0) : a = b := by
  apply List.ext_getElem hl
  intro i h1 h2
  have := h i h1
  simpa [h1, h2] using this

set_option maxRecDepth 100000 in
set_option maxHeartbeats 1600000 in
theorem alike64_any (A B : Option Addr) (c d : Nat) (a b : List Int) (w : World) (ha : RowAt w A (i64s a)) (hb : RowAt w B (i64s b)) (hm : a.length ≤ 9223372036854775807) :
    Calls Tryd.prog 23 #[.slice A a.length c, .slice B b.length d] w fun e w' => e = .returned (.bool (decide (a = b))) ∧ Below w.heap.size w w' := by
  by_cases hl : a.length = b.length
  · have hL : Hid (b.length = a.length) := hl.symm
    clear hl
    rw [hL.out]
    go_enter Tryd.func23, Tryd.ntmps23
    go_wp2
    go_loopw [13] (fun i wr => ∃ k : Nat, k ≤ a.length ∧ i = .int .i64 k ∧ Hid (∀ j, j < k → a.getD j 0 = b.getD j 0) ∧ Below w.heap.size w wr) (fun i _ => a.length - (intOf i).toNat)
    case atStart => exact ⟨0, Nat.zero_le _, rfl, fun j hj => by omega, Below.refl _ _⟩
    case round =>
      obtain ⟨k, hk, rfl, HP, hbel⟩ := hrel
      by_cases hlt : k < a.length
      · obtain ⟨g, rfl, c0⟩ := ha k _ (i64s_at hlt)
        obtain ⟨g', rfl, d0⟩ := hb k _ (i64s_at (by have := hL.out; omega : k < b.length))
        have c1 := cell_kept hbel c0
        have d1 := cell_kept hbel d0
        have i0 : (0 : Int) ≤ (k : Int) := Int.natCast_nonneg _
        have i1 : (k : Int) < (a.length : Int) := by omega
        have HE : Hid (a.getD k 0 ≠ b.getD k 0 → ¬ a = b) := fun h e => h (by rw [e])
        have HY : Hid (a.getD k 0 = b.getD k 0 → ∀ j, j < k + 1 → a.getD j 0 = b.getD j 0) := by
          intro hy j hj
          by_cases e : j = k
          · subst e; exact hy
          · exact HP.out j (by omega)
        clear c0 d0
        generalize a.getD k 0 = x at c1 HE HY
        generalize b.getD k 0 = y at d1 HE HY
        by_cases hxy : x = y
        · subst hxy
          have HY2 := Lib.hid (HY.out rfl)
          go_wp2
          go_quiet (fail)
          go_wp2
          go_roundw
          case rel => exact ⟨k + 1, by omega, by go_num, HY2, bdrew hbel _⟩
          case measure => simp [intOf]; omega
        · have HN := Lib.hid (HE.out hxy)
          have hne : (x == y) = false := by simpa using hxy
          go_wp2
          go_quiet (fail)
          go_wp2
          go_ret
          exact ⟨by rw [decide_eq_false HN.out]; rfl, bdrew hbel _⟩
      · have HF : Hid (a = b) := list_eq_getD hL.out.symm (fun j h => HP.out j (by omega))
        go_wp2
        go_ret
        exact ⟨by rw [decide_eq_true HF.out]; rfl, hbel⟩
  · have hN : Hid (¬ a = b) := fun e => hl (by rw [e])
    have hq : ((a.length : Int) == (b.length : Int)) = false := by simpa using (by omega : (a.length : Int) ≠ (b.length : Int))
    go_enter Tryd.func23, Tryd.ntmps23
    go_wp2
    go_ret
    exact ⟨by rw [decide_eq_false hN.out]; rfl, Below.refl _ _⟩
end Go.Proofs.YtdmpeecocfoocaaDoor.E

namespace Go.Proofs.YtdmpeecocfoocaaDoor.E
open Go.RowKit Go.Proofs
set_option linter.unusedVariables false
set_option linter.unusedSimpArgs false

/-- One row of what is told. -/
def rowD (D : List (Bool × List Int)) (j : Nat) : Bool × List Int := D.getD j (false, [])
/-- Rows of s cells, the first two whether there was an error and a list, that lies apart from the value vv. -/
def ListRows (w : World) (B s : Nat) (vv : Value) (D : List (Bool × List Int)) (cs : List Value) : Prop :=
  ∀ j, j < D.length → ∃ A c, cs[j * s]? = some (.bool (rowD D j).1) ∧ cs[j * s + 1]? = some (.slice A (rowD D j).2.length c) ∧ w.ownsRow B 2 1 (.slice A (rowD D j).2.length c) (rowD D j).2.length (i64s (rowD D j).2) ∧
    ((Value.slice A (rowD D j).2.length c).ownBlock = none ∨ (Value.slice A (rowD D j).2.length c).ownBlock ≠ vv.ownBlock)
theorem ListRows.kept {w w1 : World} {B s : Nat} {vv vv1 : Value} {D : List (Bool × List Int)} {cs : List Value} (h : ListRows w B s vv D cs)
    (hk : ∀ (v : Value) (n : Nat) (ys : List Value), w.ownsRow B 2 1 v n ys → (v.ownBlock = none ∨ v.ownBlock ≠ vv.ownBlock) → w1.ownsRow B 2 1 v n ys ∧ (v.ownBlock = none ∨ v.ownBlock ≠ vv1.ownBlock)) : ListRows w1 B s vv1 D cs := by
  intro j hj
  obtain ⟨A, c, h1, h2, h3, h4⟩ := h j hj
  obtain ⟨k3, k4⟩ := hk _ _ _ h3 h4
  exact ⟨A, c, h1, h2, k3, k4⟩
theorem ListRows.snoc {w : World} {B s : Nat} {vv : Value} {D : List (Bool × List Int)} {cs us : List Value} (h : ListRows w B s vv D cs) (hs : 2 ≤ s) (hl : cs.length = D.length * s) (x : Bool × List Int) {A : Option Addr} {c : Nat}
    (h0 : us[0]? = some (.bool x.1)) (h1 : us[1]? = some (.slice A x.2.length c)) (ho : w.ownsRow B 2 1 (.slice A x.2.length c) x.2.length (i64s x.2)) (hv : (Value.slice A x.2.length c).ownBlock = none ∨ (Value.slice A x.2.length c).ownBlock ≠ vv.ownBlock) :
    ListRows w B s vv (D ++ [x]) (cs ++ us) := by
  intro j hj
  by_cases e : j = D.length
  · subst e
    have hx : rowD (D ++ [x]) D.length = x := by simp [rowD]
    rw [hx]
    refine ⟨A, c, ?_, ?_, ho, hv⟩
    · rw [List.getElem?_append_right (by omega), show D.length * s - cs.length = 0 by omega]; exact h0
    · rw [List.getElem?_append_right (by omega), show D.length * s + 1 - cs.length = 1 by omega]; exact h1
  · have hj2 : j < D.length := by simp at hj; omega
    have hx : rowD (D ++ [x]) j = rowD D j := by simp [rowD, List.getElem?_append_left hj2]
    rw [hx]
    obtain ⟨A', c', a1, a2, a3, a4⟩ := h j hj2
    have hlt : j * s + 1 < cs.length := by
      have : (j + 1) * s ≤ D.length * s := Nat.mul_le_mul_right _ hj2
      rw [Nat.succ_mul] at this
      omega
    exact ⟨A', c', by rw [List.getElem?_append_left (by omega)]; exact a1, by rw [List.getElem?_append_left hlt]; exact a2, a3, a4⟩
theorem ListRows.nil (w : World) (B s : Nat) (vv : Value) : ListRows w B s vv [] [] := fun j hj => by simp at hj

theorem rowAt_mid {w : World} {A : Option Addr} {cs : List Value} (h : RowAt w A cs) {i : Nat} {u v : Value} (h0 : cs[i]? = some u) (h1 : cs[i + 1]? = some v) :
    ∃ g, A = some ⟨g, 0, none⟩ ∧ w.cell? ⟨g, i, none⟩ = some u ∧ w.cell? ⟨g, i + 1, none⟩ = some v := by
  obtain ⟨g, rfl, c0⟩ := h _ _ h0
  obtain ⟨g', e, c1⟩ := h _ _ h1
  obtain rfl : g = g' := by simpa using e
  exact ⟨g, rfl, c0, c1⟩

theorem own_row_at {w : World} {base : Nat} {e : TypeId} {size : Nat} {A : Option Addr} {c n : Nat} {xs : List Value} (h : w.ownsRow base e size (.slice A n c) n xs) : RowAt w A xs := by
  obtain ⟨A', c', e, hr⟩ := own_row h
  simp only [Value.slice.injEq] at e
  obtain ⟨h1, _⟩ := e
  subst h1
  exact hr

set_option maxRecDepth 100000 in
set_option maxHeartbeats 1600000 in
theorem said64_any (k : Nat) (n c g : Nat) (P : Addr) (b : Bool) (v : Value) (hk : k < n) (w : World) (hP : w.cell? P = some (.slice (some ⟨g, 0, none⟩) n c)) (h0 : w.cell? ⟨g, k * 3, none⟩ = some (.bool b)) (h1 : w.cell? ⟨g, k * 3 + 1, none⟩ = some v) (hv : ∃ A m d, v = .slice A m d) :
    Calls Tryd.prog 17 #[.int .i64 k, .pointer (some P)] w fun e w' => e = .returned (.tuple #[.bool b, v]) ∧ Below w.heap.size w w' := by
  obtain ⟨A, m, d, rfl⟩ := hv
  have i0 : (0 : Int) ≤ (k : Int) := Int.natCast_nonneg _
  have i1 : (k : Int) < (n : Int) := by omega
  go_enter Tryd.func17, Tryd.ntmps17
  go_wp2
  go_quiet (fail)
  go_wp2
  go_ret2
  exact ⟨rfl, bdrew (Below.refl _ _) _⟩

set_option maxRecDepth 100000 in
set_option maxHeartbeats 1600000 in
theorem numbers64_any (A : Option Addr) (c c3 B2 B3 : Nat) (A3 : Option Addr) (P : Addr) (vv2 vv3 : Value) (D : List (Bool × List Int)) (cs2 cs3 : List Value) (w : World) (h2 : RowAt w A cs2) (r2 : ListRows w B2 2 vv2 D cs2) (hP : w.cell? P = some (.slice A3 D.length c3)) (h3 : RowAt w A3 cs3) (r3 : ListRows w B3 3 vv3 D cs3) (hm : D.length ≤ 2147483647) (hz : ∀ j, (rowD D j).2.length ≤ 9223372036854775807) :
    Calls Tryd.prog 14 #[.slice A D.length c, .func (.func 17) #[] #[.pointer (some P)]] w fun e w' => e = .returned (.bool true) ∧ Below w.heap.size w w' := by
  go_enter Tryd.func14, Tryd.ntmps14
  go_wp2
  go_loopw [10] (fun i wr => ∃ k : Nat, k ≤ D.length ∧ i = .int .i64 k ∧ Below w.heap.size w wr) (fun i _ => D.length - (intOf i).toNat)
  case atStart => exact ⟨0, Nat.zero_le _, rfl, Below.refl _ _⟩
  case round =>
    obtain ⟨k, hk, rfl, hbel⟩ := hrel
    by_cases hlt : k < D.length
    · obtain ⟨B, d, b1, b2, b3, _⟩ := r2 k hlt
      obtain ⟨E, f, e1, e2, e3, _⟩ := r3 k hlt
      obtain ⟨g, rfl, x0, x1⟩ := rowAt_mid h2 b1 b2
      obtain ⟨g', rfl, y0, y1⟩ := rowAt_mid h3 e1 e2
      have z0 := cell_kept hbel x0
      have z1 := cell_kept hbel x1
      have HS := Lib.hid (said64_any k D.length c3 g' P (rowD D k).1 (.slice E (rowD D k).2.length f) hlt wr (cell_kept hbel hP) (cell_kept hbel y0) (cell_kept hbel y1) ⟨_, _, _, rfl⟩)
      have hrb := own_row_at b3
      have hre := own_row_at e3
      have HB := Lib.hid (rowAt_below hrb hbel)
      have HE := Lib.hid (rowAt_below hre hbel)
      have HZ := Lib.hid (hz k)
      have i0 : (0 : Int) ≤ (k : Int) := Int.natCast_nonneg _
      have i1 : (k : Int) < (D.length : Int) := by omega
      clear b1 b2 b3 e1 e2 e3 x0 x1 y0 y1 hrb hre h2 r2 h3 r3 hP hz
      generalize (rowD D k).2 = V at HB HE HZ HS z1
      generalize (rowD D k).1 = b at HS z0
      have HA : Hid (∀ w', Below wr.heap.size wr w' → Calls Tryd.prog 23 #[.slice E V.length f, .slice B V.length d] w' fun e w2 => e = .returned (.bool true) ∧ Below w'.heap.size w' w2) := fun w' hb' => (alike64_any E B f d V V w' (rowAt_below HE.out hb') (rowAt_below HB.out hb') HZ.out).mono fun e w2 h => ⟨by rw [h.1]; simp, h.2⟩
      generalize V.length = nv at HA HS z1
      go_wp2_with (first
        | (go_at_call 17; refine (HS.out).mono ?_; rintro e w1 ⟨rfl, hb1⟩; have t0 := cell_kept hb1 z0; have t1 := cell_kept hb1 z1)
        | (go_at_call 23; refine (HA.out w1 hb1).mono ?_; rintro e w2 ⟨rfl, hb2⟩))
      go_roundw
      case rel => exact ⟨k + 1, by omega, by go_num, below_step hbel (below_step hb1 hb2)⟩
      case measure => simp [intOf]; omega
    · go_wp2
      go_ret
      exact ⟨rfl, hbel⟩
end Go.Proofs.YtdmpeecocfoocaaDoor.E

namespace Go.Proofs.YtdmpeecocfoocaaDoor.E
open Go.RowKit Go.Proofs
set_option linter.unusedVariables false
set_option linter.unusedSimpArgs false

/-- What a step asks: none: nothing; else its numbers, or none. -/
def stepQ (x : StepL) : Option (Option (List Int)) := if x.act = 0 then some (nums64 (partsT x.text)) else if x.act = 1 then some (nums64 [x.text]) else if x.act = 2 then some (nums64 x.texts) else none
def nextV (x : StepL) (V : List Int) (ch : Bool) (N : List Int) : List Int := if x.act = 2 then N else if x.act = 0 then (if ch = true then V ++ N else N) else V ++ N
/-- What is told of the steps: whether there was an error, and the list. -/
def outs : List Int → Bool → List StepL → List (Bool × List Int)
  | _, _, [] => []
  | V, ch, x :: r =>
    match stepQ x with
    | none => outs V ch r
    | some none => (true, V) :: outs V ch r
    | some (some N) => (false, nextV x V ch N) :: outs (nextV x V ch N) (ch || decide (x.act = 0)) r
def wt (x : StepL) : Nat := x.text.size + 1 + x.texts.length
def wts : List StepL → Nat
  | [] => 0
  | x :: r => wt x + wts r
theorem nums64_len : ∀ (xs : List ByteArray) (N : List Int), nums64 xs = some N → N.length = xs.length
  | [], N, h => by simp [nums64] at h; subst h; rfl
  | t :: r, N, h => by
    simp only [nums64] at h
    split at h
    · cases h
    · cases hr : nums64 r with
      | none => rw [hr] at h; cases h
      | some M => rw [hr] at h; cases h; simp [nums64_len r M hr]
theorem stepQ_len {x : StepL} {N : List Int} (h : stepQ x = some (some N)) : N.length ≤ wt x := by
  unfold stepQ at h
  unfold wt
  split at h
  · have := nums64_len _ _ (Option.some.inj h); have := partsT_len x.text; omega
  · split at h
    · have := nums64_len _ _ (Option.some.inj h); simp at this; omega
    · split at h
      · have := nums64_len _ _ (Option.some.inj h); omega
      · cases h
theorem nextV_len {x : StepL} {V N : List Int} {ch : Bool} (h : N.length ≤ wt x) : (nextV x V ch N).length ≤ V.length + wt x := by
  unfold nextV
  split
  · omega
  · split
    · split
      · rw [List.length_append]; omega
      · omega
    · rw [List.length_append]; omega
theorem outs_drop {V : List Int} {ch : Bool} {L : List StepL} {k : Nat} (h : k < L.length) : outs V ch (L.drop k) = match stepQ L[k] with
    | none => outs V ch (L.drop (k + 1))
    | some none => (true, V) :: outs V ch (L.drop (k + 1))
    | some (some N) => (false, nextV L[k] V ch N) :: outs (nextV L[k] V ch N) (ch || decide (L[k].act = 0)) (L.drop (k + 1)) := by
  rw [List.drop_eq_getElem_cons h]; rfl
theorem wts_drop {L : List StepL} {k : Nat} (h : k < L.length) : wts (L.drop k) = wt L[k] + wts (L.drop (k + 1)) := by
  rw [List.drop_eq_getElem_cons h]; rfl

/-- What a step leaves: whether it had an error, the list, whether it was changed. -/
def stepR (x : StepL) (V : List Int) (ch : Bool) : Bool × List Int × Bool :=
  match stepQ x with
  | some (some N) => (false, nextV x V ch N, ch || decide (x.act = 0))
  | _ => (true, V, ch)
theorem outs_told {V : List Int} {ch : Bool} {L : List StepL} {k : Nat} (h : k < L.length) (ht : toldB L[k] = true) :
    outs V ch (L.drop k) = ((stepR L[k] V ch).1, (stepR L[k] V ch).2.1) :: outs (stepR L[k] V ch).2.1 (stepR L[k] V ch).2.2 (L.drop (k + 1)) := by
  rw [outs_drop h]
  unfold stepR
  have : ∃ q, stepQ L[k] = some q := by
    unfold toldB at ht
    have ht := of_decide_eq_true ht
    unfold stepQ
    by_cases a : L[k].act = 0
    · exact ⟨_, if_pos a⟩
    · rw [if_neg a]
      by_cases b : L[k].act = 1
      · exact ⟨_, if_pos b⟩
      · rw [if_neg b, if_pos (by omega)]; exact ⟨_, rfl⟩
  obtain ⟨q, hq⟩ := this
  rw [hq]
  cases q <;> rfl
theorem outs_not {V : List Int} {ch : Bool} {L : List StepL} {k : Nat} (h : k < L.length) (ht : toldB L[k] = false) : outs V ch (L.drop k) = outs V ch (L.drop (k + 1)) := by
  rw [outs_drop h]
  have : stepQ L[k] = none := by
    unfold toldB at ht
    have ht := of_decide_eq_false ht
    unfold stepQ
    rw [if_neg (by omega), if_neg (by omega), if_neg (by omega)]
  rw [this]
theorem stepR_len (x : StepL) (V : List Int) (ch : Bool) : (stepR x V ch).2.1.length ≤ V.length + wt x := by
  unfold stepR
  split
  · rename_i N h; exact nextV_len (stepQ_len h)
  · simp
theorem outs_len : ∀ (V : List Int) (ch : Bool) (L : List StepL), (outs V ch L).length = toldN L
  | V, ch, [] => rfl
  | V, ch, x :: r => by
    by_cases ht : toldB x = true
    · have h := outs_told (V := V) (ch := ch) (L := x :: r) (k := 0) (by simp) ht
      simp only [List.drop_zero, List.getElem_cons_zero, List.drop_succ_cons] at h
      rw [h, List.length_cons, outs_len]
      simp [toldN, ht]
    · have hf : toldB x = false := by simpa using ht
      have h := outs_not (V := V) (ch := ch) (L := x :: r) (k := 0) (by simp) hf
      simp only [List.drop_zero, List.drop_succ_cons] at h
      rw [h, outs_len]
      simp [toldN, hf]

/-- What a step's call leaves. -/
def SvDid (r : Bool × List Int × Bool) (P1 P0 : Nat) (v : Value) (w : World) (e : Ending) (w' : World) : Prop :=
  ∃ E v', e = .returned E ∧ ((r.1 = false ∧ E = .nilIface) ∨ (r.1 = true ∧ ∃ t x, E = .iface t x)) ∧ SV w' P1 P0 r.2.1 r.2.2 v' ∧ SvChg w w' P1 P0 v v'
theorem SvChg.of_same {w w' : World} {P1 P0 : Nat} {v : Value} (hb : Below w.heap.size w w') : SvChg w w' P1 P0 v v := ⟨hb.os, hb.tape, hb.output, hb.size, fun k hk _ _ _ => hb.block k hk, .inl rfl⟩
theorem did_none {x : StepL} {P1 P0 : Nat} {V : List Int} {ch : Bool} {v : Value} {w w' : World} {e : Ending} (hq : stepQ x = some none) (h : SV w P1 P0 V ch v) (he : ∃ t y, e = .returned (.iface t y)) (hb : Below w.heap.size w w') : SvDid (stepR x V ch) P1 P0 v w e w' := by
  have hr : stepR x V ch = (true, V, ch) := by unfold stepR; rw [hq]
  rw [hr]
  obtain ⟨t, y, rfl⟩ := he
  exact ⟨_, v, rfl, .inr ⟨rfl, t, y, rfl⟩, h.kept hb, SvChg.of_same hb⟩
theorem did_some {x : StepL} {N : List Int} {P1 P0 : Nat} {V V' : List Int} {ch ch' : Bool} {v : Value} {w w' : World} {e : Ending} (hq : stepQ x = some (some N)) (h1 : V' = nextV x V ch N) (h2 : ch' = (ch || decide (x.act = 0))) (h : SvSet N V' P1 P0 ch' v w e w') : SvDid (stepR x V ch) P1 P0 v w e w' := by
  have hr : stepR x V ch = (false, V', ch') := by unfold stepR; rw [hq, h1, h2]
  rw [hr]
  obtain ⟨rfl, v', hs, hc⟩ := h
  exact ⟨_, v', rfl, .inl ⟨rfl, rfl⟩, hs, hc⟩

theorem set64_did (x : StepL) (ha : x.act = 0) (hs : x.text.size ≤ 2147483647) (P1 P0 : Nat) (V : List Int) (ch : Bool) (v : Value) (w : World) (h : SV w P1 P0 V ch v) (hV : V.length ≤ 1099511627776) (he1 : ErrCell 0 w) (he2 : ErrCell 1 w) :
    Calls Tryd.prog 32 #[.pointer (some ⟨P1, 0, none⟩), .string x.text] w (SvDid (stepR x V ch) P1 P0 v w) := by
  have hsq : stepQ x = some (nums64 (partsT x.text)) := by unfold stepQ; rw [if_pos ha]
  cases hq : nums64 (partsT x.text) with
  | none =>
    rw [hq] at hsq
    exact (set64_none x.text hs P1 P0 V ch v w h he1 he2 hq).mono fun e w' hh => did_none hsq h hh.1 hh.2
  | some N =>
    rw [hq] at hsq
    refine (set64_some x.text hs P1 P0 V ch v w h hV he1 he2 N (if ch = true then V ++ N else N) hq rfl).mono fun e w' hh => did_some hsq ?_ ?_ hh
    · unfold nextV; simp [ha]
    · simp [ha]
theorem append64_did (x : StepL) (ha : x.act = 1) (hs : x.text.size ≤ 2147483647) (P1 P0 : Nat) (V : List Int) (ch : Bool) (v : Value) (w : World) (h : SV w P1 P0 V ch v) (hV : V.length ≤ 1099511627776) (he1 : ErrCell 0 w) (he2 : ErrCell 1 w) :
    Calls Tryd.prog 33 #[.pointer (some ⟨P1, 0, none⟩), .string x.text] w (SvDid (stepR x V ch) P1 P0 v w) := by
  have hsq : stepQ x = some (nums64 [x.text]) := by unfold stepQ; rw [if_neg (by omega), if_pos ha]
  cases hq : nums64 [x.text] with
  | none =>
    rw [hq] at hsq
    exact (append64_none x.text hs P1 P0 V ch v w h he1 he2 hq).mono fun e w' hh => did_none hsq h hh.1 hh.2
  | some N =>
    rw [hq] at hsq
    refine (append64_some x.text hs P1 P0 V ch v w h hV he1 he2 N hq).mono fun e w' hh => did_some hsq ?_ ?_ hh
    · unfold nextV; rw [if_neg (by omega), if_neg (by omega)]
    · simp [ha]
theorem replace64_did (x : StepL) (ha : x.act = 2) (A : Option Addr) (c : Nat) (hn : x.texts.length ≤ 2147483647) (hs : ∀ j, j < x.texts.length → (tx x.texts j).size ≤ 2147483647) (P1 P0 : Nat) (V : List Int) (ch : Bool) (v : Value) (w : World) (hx : StrsAt w A x.texts) (h : SV w P1 P0 V ch v) (he1 : ErrCell 0 w) (he2 : ErrCell 1 w) :
    Calls Tryd.prog 34 #[.pointer (some ⟨P1, 0, none⟩), .slice A x.texts.length c] w (SvDid (stepR x V ch) P1 P0 v w) := by
  have hsq : stepQ x = some (nums64 x.texts) := by unfold stepQ; rw [if_neg (by omega), if_neg (by omega), if_pos ha]
  cases hq : nums64 x.texts with
  | none =>
    rw [hq] at hsq
    exact (replace64_none A c x.texts (by omega) hs P1 P0 V ch v w hx h he1 he2 hq).mono fun e w' hh => did_none hsq h hh.1 hh.2
  | some N =>
    rw [hq] at hsq
    refine (replace64_some A c x.texts (by omega) hs P1 P0 V ch v w hx h he1 he2 N hq).mono fun e w' hh => did_some hsq ?_ ?_ hh
    · unfold nextV; rw [if_pos ha]
    · simp [ha]

/-! What a step leaves as it was. -/
theorem own_same {w w1 : World} {base e size n : Nat} {v : Value} {xs : List Value} (h : w.ownsRow base e size v n xs) (hb : ∀ g, v.ownBlock = some g → w1.heap[g]? = w.heap[g]?) : w1.ownsRow base e size v n xs := by
  refine ⟨h.1, ?_⟩
  rcases h.2 with hn | ⟨g, cap, cur, rfl, hbg, hg, r⟩
  · exact .inl hn
  · exact .inr ⟨g, cap, cur, rfl, hbg, by rw [hb g rfl]; exact hg, r⟩
theorem own_far {w : World} {base e size n : Nat} {v : Value} {xs : List Value} (h : w.ownsRow base e size v n xs) {P : Nat} {cs : Array Value} {t : TypeId} {fr : Nat × Nat} (hP : w.heap[P]? = some (.cells cs t fr)) (hne : t ≠ e) : v.ownBlock ≠ some P := by
  intro hv
  rcases h.2 with ⟨rfl, _⟩ | ⟨g, cap, cur, rfl, _, hg, _⟩
  · cases hv
  · simp only [Value.ownBlock, Option.some.injEq] at hv
    subst hv
    rw [hg] at hP
    simp only [Option.some.injEq, Obj.cells.injEq] at hP
    exact hne hP.2.1.symm
theorem own_apart {w : World} {b e size n : Nat} {v : Value} {xs : List Value} {b' e' size' n' : Nat} {v' : Value} {xs' : List Value} (h : w.ownsRow b e size v n xs) (h' : w.ownsRow b' e' size' v' n' xs') (hne : e ≠ e') : v.ownBlock = none ∨ v.ownBlock ≠ v'.ownBlock := by
  rcases h'.2 with ⟨rfl, _⟩ | ⟨g', cap', cur', rfl, _, hg', _⟩
  · by_cases hv : v.ownBlock = none
    · exact .inl hv
    · exact .inr hv
  · exact .inr (own_far h hg' (fun e' => hne e'.symm))
theorem chg_own {w w1 : World} {P1 P0 : Nat} {V : List Int} {ch : Bool} {v v' : Value} (hs : SV w P1 P0 V ch v) (hc : SvChg w w1 P1 P0 v v') {base e size n : Nat} {u : Value} {xs : List Value} (h : w.ownsRow base e size u n xs) (h1 : 137 ≠ e) (h0 : 27 ≠ e) (hv : u.ownBlock = none ∨ u.ownBlock ≠ v.ownBlock) : w1.ownsRow base e size u n xs := by
  refine own_same h fun g hg => hc.block g (h.lt g hg).2 (fun e => ?_) (fun e => ?_) (fun e => ?_)
  · subst e; exact own_far h hs.h1 h1 hg
  · subst e; exact own_far h hs.h0 h0 hg
  · rcases hv with k | k
    · rw [hg] at k; cases k
    · exact k (hg.trans e.symm)
theorem chg_rows {w w1 : World} {P1 P0 : Nat} {V : List Int} {ch : Bool} {v v' : Value} (hs : SV w P1 P0 V ch v) (hc : SvChg w w1 P1 P0 v v') {D : List (Bool × List Int)} {cs : List Value} (h : ListRows w 0 3 v D cs) : ListRows w1 0 3 v' D cs := by
  refine h.kept fun u n ys hu hv => ⟨chg_own hs hc hu (by decide) (by decide) hv, ?_⟩
  cases hub : u.ownBlock with
  | none => exact .inl rfl
  | some b =>
    right
    rw [hub] at hv
    rcases hc.own with e | e
    · rw [e]; exact hv.resolve_left (by simp)
    · intro e2
      have h1 := e b e2.symm
      have h2 := (hu.lt b hub).2
      omega
theorem chg_below {w w1 : World} {P1 P0 B : Nat} {v v' : Value} (hc : SvChg w w1 P1 P0 v v') (h1 : B ≤ P1) (h0 : B ≤ P0) (hv : ∀ g, v.ownBlock = some g → B ≤ g) (hB : B ≤ w.heap.size) : Below B w w1 :=
  ⟨hc.os, hc.tape, hc.output, hc.size, fun k hk => hc.block k (by omega) (by omega) (by omega) (fun e => by have := hv k e; omega)⟩
theorem chg_at {w w1 : World} {P1 P0 B : Nat} {v v' : Value} (hc : SvChg w w1 P1 P0 v v') (hv : ∀ g, v.ownBlock = some g → B ≤ g) (hB : B ≤ w.heap.size) : ∀ g, v'.ownBlock = some g → B ≤ g := by
  intro g hg
  rcases hc.own with e | e
  · exact hv g (e ▸ hg)
  · have := e g hg; omega
end Go.Proofs.YtdmpeecocfoocaaDoor.E

namespace Go.Proofs.YtdmpeecocfoocaaDoor.E
open Go.RowKit Go.Proofs
set_option linter.unusedVariables false
set_option linter.unusedSimpArgs false

theorem Tryd.infoSaid3 : (Tryd.prog.info? 42).map (fun i => (i.zero, i.size, i.bytes)) = some (some (.agg #[.bool false, .slice none 0 0, .slice none 0 0]), 3, 56) := by kernel_rfl

/-- Append at a step of a region that draws its order: a list that lies anywhere, to a list that is made there and empty: what comes of it is of the call's own. -/
theorem step_append_new {P : Program} {w : World} {ops : Array Oper} {o : Oper} {a : Act} {K : Act → World → Prop} {Q : Exit → Act → World → Prop} {E : Prop} (hgd : o.guard = none) (s x : Operand) (t : TypeId)
    (ho : o.op = .call { callee := .builtin .append, args := #[s, x], argTypes := #[t, t] })
    (base : Nat) (e : TypeId) (i : TypeInfo) (z : Value) (size bytes : Nat) (ht : P.underlying t = some (.slice e)) (hi : P.info? e = some i) (hz : i.zero = some z)
    (hsize : i.size = size) (hby : i.bytes = bytes) (hzs : z.cells.size = size) (hsz : 0 < size)
    (b : Nat) (hs : a.eval s = .slice (some ⟨b, 0, none⟩) 0 0) (hown : w.ownsRow base e size (.slice (some ⟨b, 0, none⟩) 0 0) 0 [])
    (ad : Addr) (m c : Nat) (news : List Value) (hx : a.eval x = .slice (some ad) m c) (hl : news.length = m * size)
    (hnews : ∀ j u, news[j]? = some u → w.cell? (ad.add j) = some u) (h1 : ∀ u ∈ news, u.oneCell' = true)
    (h63 : m ≤ maxLen) (hbytes : m * bytes ≤ 140737488355328) (hbase : base ≤ w.heap.size)
    (h : ∀ A' c' w', w'.ownsRow base e size (.slice A' m c') m news → Below base w w' → K (a.put o.dst (.slice A' m c')) w') :
    if Region.wanted o (yielded ops a.tmps) = true then Oper.wp P o a w K Q else E := by
  have hw : Region.wanted o (yielded ops a.tmps) = true := by simp [Region.wanted, hgd]
  rw [if_pos hw]
  refine wp_append_own w s x t ho base e i z size bytes ht hi hz hsize hby hzs hsz _ 0 [] hs hown ad m c news hx hl hnews h1 (by omega) (by simpa using hbytes) hbase ?_
  intro v' w' h2 h3 _
  rw [Nat.zero_add, List.nil_append] at h2
  obtain ⟨A', c', rfl, _⟩ := own_row h2
  exact h A' c' w' h2 ((Below.refl base w).grown h3 hbase (fun k hk => (hown.lt k hk).1))

theorem i64s_one {V : List Int} : ∀ u ∈ i64s V, u.oneCell' = true := by
  intro u hu
  simp only [i64s, List.mem_map] at hu
  obtain ⟨b, _, rfl⟩ := hu
  rfl
theorem i64s_len (V : List Int) : (i64s V).length = V.length * 1 := by simp [i64s]
theorem row_news {w : World} {A : Option Addr} {cs : List Value} (h : RowAt w A cs) : ∀ ad, A = some ad → ∀ j u, cs[j]? = some u → w.cell? (ad.add j) = some u := by
  intro ad hA j u hu
  obtain ⟨g, e, hc⟩ := h j u hu
  rw [hA] at e
  obtain rfl := Option.some.inj e
  rw [Addr.add_mid, Nat.zero_add]
  exact hc

/-- A list of integers that came in. -/
def IntsIn (w : World) (A : Option Addr) (c : Nat) (V : List Int) : Prop := (A = none → V.length = 0 ∧ c = 0) ∧ V.length ≤ c ∧ ∀ ad, A = some ad → ∀ j u, (i64s V)[j]? = some u → w.cell? (ad.add j) = some u

/-- Append of a list that came in to a list that is made there and empty. -/
theorem wpList_append_made {P : Program} {w : World} {ops : Array Oper} {rest : List Oper} {o : Oper} {a : Act} {Q : Exit → Act → World → Prop} (hgd : o.guard = none) (s x : Operand) (t : TypeId)
    (ho : o.op = .call { callee := .builtin .append, args := #[s, x], argTypes := #[t, t] })
    (base : Nat) (e : TypeId) (i : TypeInfo) (z : Value) (size bytes : Nat) (ht : P.underlying t = some (.slice e)) (hi : P.info? e = some i) (hz : i.zero = some z)
    (hsize : i.size = size) (hby : i.bytes = bytes) (hzs : z.cells.size = size) (hsz : 0 < size)
    (b : Nat) (hs : a.eval s = .slice (some ⟨b, 0, none⟩) 0 0) (hown : w.ownsRow base e size (.slice (some ⟨b, 0, none⟩) 0 0) 0 [])
    (A : Option Addr) (m c : Nat) (news : List Value) (hx : a.eval x = .slice A m c) (hA : A = none → m = 0 ∧ c = 0) (hl : news.length = m * size)
    (hnews : ∀ ad, A = some ad → ∀ j u, news[j]? = some u → w.cell? (ad.add j) = some u) (h1 : ∀ u ∈ news, u.oneCell' = true)
    (h63 : m ≤ maxLen) (hbytes : m * bytes ≤ 140737488355328) (hbase : base ≤ w.heap.size)
    (h : ∀ g c' w', w'.ownsRow base e size (.slice (some ⟨g, 0, none⟩) m c') m news → Below base w w' → wpList P ops Q rest (a.put o.dst (.slice (some ⟨g, 0, none⟩) m c')) w') : wpList P ops Q (o :: rest) a w := by
  cases A with
  | none =>
    obtain ⟨rfl, rfl⟩ := hA rfl
    have hn : news = [] := by apply List.eq_nil_of_length_eq_zero; simpa using hl
    subst hn
    exact wpList_append_own_none hgd s x t ho base e i size ht hi _ 0 [] hs hown hx (h b 0 w hown (Below.refl _ _))
  | some ad =>
    refine wpList_append_own_at w hgd s x t ho base e i z size bytes ht hi hz hsize hby hzs hsz _ 0 [] hs hown ad m c news hx hl (hnews ad rfl) h1 (by omega) (by simpa using hbytes) hbase (fun v' w' h2 h3 h4 _ => ?_)
    rw [Nat.zero_add, List.nil_append] at h2
    have hbw := (Below.refl base w).grown h3 hbase (fun k hk => (hown.lt k hk).1)
    rcases h2.2 with ⟨hv, _⟩ | ⟨g, cap, cur, hv, _⟩
    · have := (h4.1 hv).1
      cases this
    · subst hv
      exact h g cap w' h2 hbw

theorem own_zero {w : World} {base e size n : Nat} {v : Value} {xs : List Value} (h : w.ownsRow base e size v n xs) : w.ownsRow 0 e size v n xs := by
  refine ⟨h.1, ?_⟩
  rcases h.2 with hn | ⟨g, cap, cur, rfl, hbg, r⟩
  · exact .inl hn
  · exact .inr ⟨g, cap, cur, rfl, Nat.zero_le _, r⟩

/-- What a round leaves. -/
theorem said_end {w w1 w3 w2 : World} {b o : Obj} {B P1 P0 : Nat} {V : List Int} {ch : Bool} {v u7 u : Value} {D : List (Bool × List Int)} {cs us : List Value} {bad : Bool} {A3 : Option Addr} {c3 : Nat}
    (hs : SV w1 P1 P0 V ch v) (hown1 : w1.ownsRow B 42 3 u7 D.length cs) (hr : ListRows w1 0 3 v D cs) (hbel : Below B w w1) (hB : B ≤ w1.heap.size)
    (hb3 : Below w1.heap.size (w1.alloc b).drew w3) (hown3 : w3.ownsRow w1.heap.size 2 1 (.slice A3 V.length c3) V.length (i64s V)) (hgrow : (w3.alloc o).grownBy w2 u7.ownBlock)
    (hown2 : w2.ownsRow B 42 3 u (D.length + 1) (cs ++ us)) (hu0 : us[0]? = some (.bool bad)) (hu1 : us[1]? = some (.slice A3 V.length c3)) :
    SV w2 P1 P0 V ch v ∧ ListRows w2 0 3 v (D ++ [(bad, V)]) (cs ++ us) ∧ Below B w w2 := by
  have h13 : Below w1.heap.size w1 w3 := (((Below.refl _ _).alloc (Nat.le_refl _) _).drew).trans hb3
  have hs3 := hs.kept h13
  have hkeep : ∀ {base : Nat} {v : Value} {n : Nat} {ys : List Value}, w3.ownsRow base 2 1 v n ys → w2.ownsRow base 2 1 v n ys := fun h => (h.alloc o).kept hgrow (own_apart h (own_kept hown1 h13) (by decide))
  have hf1 : u7.ownBlock ≠ some P1 := own_far hown1 hs.h1 (by decide)
  have hf0 : u7.ownBlock ≠ some P0 := own_far hown1 hs.h0 (by decide)
  refine ⟨⟨?_, ?_, hkeep hs3.hv, hs.n1, hs.n0, hs.ne, hs.sh⟩, ?_, ?_⟩
  · exact (hgrow.block P1 (by have := lt_of_block hs3.h1; simp; omega) (Ne.symm hf1)).trans ((Below.heap_alloc w3 _ _ (lt_of_block hs3.h1)).trans hs3.h1)
  · exact (hgrow.block P0 (by have := lt_of_block hs3.h0; simp; omega) (Ne.symm hf0)).trans ((Below.heap_alloc w3 _ _ (lt_of_block hs3.h0)).trans hs3.h0)
  · refine ListRows.snoc (hr.kept fun x n ys h hx => ⟨hkeep (own_kept h h13), hx⟩) (by omega) hown1.1 (bad, V) hu0 hu1 (own_zero (hkeep hown3)) ?_
    obtain ⟨g, c, rfl⟩ := hs.sh
    have hg := (hs.hv.lt g rfl).2
    cases hA : (Value.slice A3 V.length c3).ownBlock with
    | none => exact .inl rfl
    | some k =>
      right
      have h1 := (hown3.lt k hA).1
      simp only [Value.ownBlock, ne_eq, Option.some.injEq]
      omega
  · exact ((hbel.trans (h13.mono hB)).alloc (Nat.le_trans hB h13.size) _).grown hgrow (by have := h13.size; simp; omega) (fun k hk => (hown1.lt k hk).1)

/-- What Int64List leaves. -/
def I64Told (D : List (Bool × List Int)) (w : World) (e : Ending) (w' : World) : Prop := ∃ A c cs vv, e = .returned (.slice A D.length c) ∧ RowAt w' A cs ∧ ListRows w' 0 3 vv D cs ∧ Below w.heap.size w w'
/-- How it stands ahead of a round. -/
structure I64St (w wr : World) (P1 : Nat) (V0 : List Int) (L : List StepL) (k : Nat) (V : List Int) (ch : Bool) (vv : Value) (D : List (Bool × List Int)) (cs : List Value) (u7 : Value) : Prop where
  sv : SV wr P1 w.heap.size V ch vv
  own : wr.ownsRow w.heap.size 42 3 u7 D.length cs
  rows : ListRows wr 0 3 vv D cs
  eq : D ++ outs V ch (L.drop k) = outs V0 false L
  len : V.length + wts (L.drop k) ≤ 1099511627776
  dl : D.length ≤ k
  vb : ∀ g, vv.ownBlock = some g → w.heap.size ≤ g
  p1 : w.heap.size ≤ P1
  bel : Below w.heap.size w wr
theorem rows_alloc {w : World} {B s : Nat} {vv : Value} {D : List (Bool × List Int)} {cs : List Value} (h : ListRows w B s vv D cs) (o : Obj) : ListRows (w.alloc o) B s vv D cs := h.kept fun v n ys h1 h2 => ⟨h1.alloc o, h2⟩
theorem rows_below {w w' : World} {B s : Nat} {vv : Value} {D : List (Bool × List Int)} {cs : List Value} (h : ListRows w B s vv D cs) (hb : Below w.heap.size w w') : ListRows w' B s vv D cs := h.kept fun v n ys h1 h2 => ⟨own_kept h1 hb, h2⟩
theorem I64St.alloc {w wr : World} {P1 : Nat} {V0 : List Int} {L : List StepL} {k : Nat} {V : List Int} {ch : Bool} {vv : Value} {D : List (Bool × List Int)} {cs : List Value} {u7 : Value} (h : I64St w wr P1 V0 L k V ch vv D cs u7) (o : Obj) (h1 : outs V ch (L.drop k) = outs V ch (L.drop (k + 1))) (h2 : wts (L.drop (k + 1)) ≤ wts (L.drop k)) : I64St w (wr.alloc o) P1 V0 L (k + 1) V ch vv D cs u7 :=
  ⟨h.sv.kept ((Below.refl _ _).alloc (Nat.le_refl _) o), h.own.alloc o, rows_alloc h.rows o, by rw [← h1]; exact h.eq, by have := h.len; omega, by have := h.dl; omega, h.vb, h.p1, h.bel.alloc h.bel.size o⟩

set_option maxRecDepth 100000 in
set_option maxHeartbeats 12800000 in
theorem int64List_any (Ad : Option Addr) (cd : Nat) (V0 : List Int) (A : Option Addr) (cap : Nat) (L : List StepL) (w : World) (hv : IntsIn w Ad cd V0) (hx : StepsAt w A L) (hm : L.length ≤ 2147483647) (hf : ∀ j (h : j < L.length), fits8 L[j] = true) (hw : V0.length + wts L ≤ 1099511627776) (he1 : ErrCell 0 w) (he2 : ErrCell 1 w) :
    Calls Tryd.prog 10 #[.slice Ad V0.length cd, .slice A L.length cap] w (I64Told (outs V0 false L) w) := by
  obtain ⟨ti, hi, hz0, hz1, hz2⟩ := info_parts Tryd.infoSaid3
  obtain ⟨tb, gi, gz0, gz1, gz2⟩ := info_parts Tryd.infoI64
  obtain ⟨ts, si, sz0, sz1, sz2⟩ := info_parts Tryd.infoStr1
  have E1 := Lib.hid he1
  have E2 := Lib.hid he2
  have HF := Lib.hid hf
  have HV := Lib.hid hv
  have HW : Hid (V0.length + wts (L.drop 0) ≤ 1099511627776) := by show _ ≤ _; rw [List.drop_zero]; exact hw
  have hV0 : V0.length ≤ 1099511627776 := by omega
  have HB0 : Hid (Below w.heap.size w ((w.alloc (.cells #[.slice none 0 0] 27)).alloc (.cells #[] 2))) := ((Below.refl _ _).alloc (Nat.le_refl _) _).alloc (by simp) _
  have HMADE : Hid (((w.alloc (.cells #[.slice none 0 0] 27)).alloc (.cells #[] 2)).ownsRow (w.heap.size + 1) 2 1 (.slice (some ⟨w.heap.size + 1, 0, none⟩) 0 0) 0 []) := by
    have h := World.ownsRow_made (base := w.heap.size + 1) (e := 2) (size := 1) (w.alloc (.cells #[.slice none 0 0] 27)) #[] 0 (by simp) (Nat.zero_le _) rfl
    rwa [show (w.alloc (.cells #[.slice none 0 0] 27)).heap.size = w.heap.size + 1 by simp] at h
  have HP0 : Hid (((w.alloc (.cells #[.slice none 0 0] 27)).alloc (.cells #[] 2)).heap[w.heap.size]? = some (.cells #[.slice none 0 0] 27 (0, 0))) := by
    show ((w.heap.push _).push _)[w.heap.size]? = _
    simp [Array.getElem?_push]
  clear he1 he2 hf hv hw
  go_enter Tryd.func10, Tryd.ntmps10
  go_wp2_with (first
    | (at_builtin; refine wpList_append_made rfl (.tmp 12) (.tmp 13) 27 rfl (w.heap.size + 1) 2 tb (.int .i64 0) 1 8 Tryd.underlying27 gi gz0 gz1 gz2 rfl (by decide) (w.heap.size + 1) rfl HMADE.out Ad V0.length cd (i64s V0) rfl HV.out.1 (i64s_len V0) (fun ad hA j u hu => cell_kept HB0.out (HV.out.2.2 ad hA j u hu)) i64s_one (by unfold maxLen; omega) (by omega) (by simp) ?_; intro g0 c0 w0 hown0 hbel0)
    | (go_at_call 31; refine (zz64_any g0 c0 V0 w.heap.size (.slice none 0 0) w0 ((hbel0.block _ (Nat.lt_succ_self _)).trans HP0.out) ⟨_, _, _, rfl⟩ (own_zero hown0) (fun e => by have := (hown0.lt g0 rfl).1; omega)).mono ?_; rintro e w1 ⟨rfl, hsv0, hb1⟩))
  have HST0 : I64St w w1 w0.heap.size V0 L 0 V0 false (.slice (some ⟨g0, 0, none⟩) V0.length c0) [] [] (.slice none 0 0) := ⟨hsv0, World.ownsRow_nil _ _ _ _, ListRows.nil _ _ _ _, by simp, HW.out, Nat.le_refl _, fun g hg => by cases hg; exact Nat.le_of_succ_le (hown0.lt g0 rfl).1, by have := hbel0.size; simp at this; omega, (HB0.out.trans (hbel0.mono (Nat.le_succ _))).trans hb1⟩
  clear hsv0 hb1 hown0 hbel0 HMADE HP0 HB0 HW HV
  generalize w0.heap.size = P1 at HST0 ⊢
  go_loopw [7, 19] (fun u7 i wr => ∃ (k : Nat) (V : List Int) (ch : Bool) (vv : Value) (D : List (Bool × List Int)) (cs : List Value), k ≤ L.length ∧ i = .int .i64 k ∧ I64St w wr P1 V0 L k V ch vv D cs u7) (fun _ i _ => L.length - (intOf i).toNat)
  case atStart => exact ⟨0, V0, false, _, [], [], Nat.zero_le _, rfl, HST0⟩
  case round =>
    clear HST0
    obtain ⟨k, V, ch, vv, D, cs, hk, rfl, HST⟩ := hrel
    by_cases hlt : k < L.length
    · obtain ⟨b, o, v, rfl, h0, h1, h2, h3⟩ := hx k hlt
      have hbel := HST.bel
      have hB := hbel.size
      have h3 := h3.below hbel
      have c0 := cell_kept hbel h0
      have c1 := cell_kept hbel h1
      have c2 := cell_kept hbel h2
      obtain ⟨At, ct, rfl, hst0, hle, hcap, hnone⟩ := h3
      have i0 : (0 : Int) ≤ (k : Int) := Int.natCast_nonneg _
      have i1 : (k : Int) < (L.length : Int) := by omega
      have HO := fun ht => Lib.hid (outs_told (V := V) (ch := ch) hlt ht)
      have HNT := fun ht => Lib.hid (outs_not (V := V) (ch := ch) hlt ht)
      have HWT := Lib.hid (wts_drop hlt)
      have H8 := Lib.hid (fits8_iff.1 (HF.out k hlt))
      have HTB : Hid (toldB L[k] = decide (0 ≤ L[k].act ∧ L[k].act ≤ 2)) := rfl
      clear h0 h1 h2
      generalize L[k] = x at c0 c1 c2 HO HNT HWT H8 hst0 hle HTB ⊢
      by_cases ht : toldB x = true
      · have HO := HO ht
        have HLEN := Lib.hid (stepR_len x V ch)
        have hact : x.act = 0 ∨ x.act = 1 ∨ x.act = 2 := by have := HTB.out; rw [ht] at this; have := of_decide_eq_true this.symm; omega
        have hsv := HST.sv
        have hown := HST.own
        have hrow := HST.rows
        have HEQ := Lib.hid HST.eq
        have HW := Lib.hid HST.len
        have hdl := HST.dl
        have hvb := HST.vb
        have hP1 := HST.p1
        clear HST HNT HTB ht
        rcases hact with hact | hact | hact
        · rw [hact] at c0
          have hsvW := SV.kept hsv ((Below.refl _ _).alloc (Nat.le_refl _) (.cells #[.int .i64 0, .string x.text, .slice At x.texts.length ct] 67))
          have hbW : Below w.heap.size w (wr.alloc (.cells #[.int .i64 0, .string x.text, .slice At x.texts.length ct] 67)) := hbel.alloc hB _
          have hownW := hown.alloc (.cells #[.int .i64 0, .string x.text, .slice At x.texts.length ct] 67)
          have hrowW := rows_alloc hrow (.cells #[.int .i64 0, .string x.text, .slice At x.texts.length ct] 67)
          have H := Lib.hid (set64_did x hact H8.out.1 P1 w.heap.size V ch vv _ hsvW (by have := HW.out; omega) (E1.out.below hbW) (E2.out.below hbW))
          generalize stepR x V ch = r at H HO HLEN
          obtain ⟨bad, V1, ch1⟩ := r
          have HO : Hid (outs V ch (L.drop k) = (bad, V1) :: outs V1 ch1 (L.drop (k + 1))) := HO.out
          have HLEN : Hid (V1.length ≤ V.length + wt x) := HLEN.out
          clear hact
          go_wp2_with (go_at_call 32; refine (H.out).mono ?_; rintro e w1 ⟨E, v', rfl, hE, hs1, hchg⟩)
          have hE : (bad = false ∧ E = .nilIface) ∨ (bad = true ∧ ∃ t y, E = .iface t y) := hE
          have hs1 : SV w1 P1 w.heap.size V1 ch1 v' := hs1
          obtain ⟨g1, c1, rfl⟩ := hs1.sh
          have hbw1 : Below w.heap.size w w1 := hbW.trans (chg_below hchg hP1 (Nat.le_refl _) hvb hbW.size)
          have hB1 : w.heap.size ≤ w1.heap.size := hbw1.size
          have hown1 := chg_own hsvW hchg hownW (by decide) (by decide) (own_apart hownW hsvW.hv (by decide))
          have hrow1 := chg_rows hsvW hchg hrowW
          have HVB := Lib.hid (chg_at hchg hvb hbW.size)
          have hcp1 : w1.cell? ⟨w.heap.size, 0, none⟩ = some (.slice (some ⟨g1, 0, none⟩) V1.length c1) := cell_of_one hs1.h0
          have hne : u7.ownBlock ≠ some w.heap.size := own_far hown1 hs1.h0 (by decide)
          have hls1 := lt_of_block hs1.h0
          have HMADE1 : Hid ((w1.alloc (.cells #[] 2)).ownsRow w1.heap.size 2 1 (.slice (some ⟨w1.heap.size, 0, none⟩) 0 0) 0 []) := World.ownsRow_made (base := w1.heap.size) (e := 2) (size := 1) w1 #[] 0 (Nat.le_refl _) (Nat.zero_le _) rfl
          have HN : Hid (∀ j u, (i64s V1)[j]? = some u → (w1.alloc (.cells #[] 2)).cell? ((⟨g1, 0, none⟩ : Addr).add j) = some u) := fun j u hj => cell_kept ((Below.refl _ _).alloc (Nat.le_refl _) _) (row_news (own_row_at hs1.hv) _ rfl j u hj)
          have hV1 : V1.length ≤ 1099511627776 := by have := HLEN.out; have := HW.out; have := HWT.out; omega
          rcases hE with ⟨rfl, rfl⟩ | ⟨rfl, te, ve, rfl⟩
          all_goals
            go_region_held3 (fun w' => w'.cell? ⟨w.heap.size, 0, none⟩ = some (.slice (some ⟨g1, 0, none⟩) V1.length c1)) (first | assumption | (rw [hgrow.cell_far _ (by simp; omega) (Ne.symm hne)]; assumption) | go_keep)
              (first
                | (refine step_append_new (by rfl) (.tmp 48) (.tmp 51) 27 (by rfl) w1.heap.size 2 tb (.int .i64 0) 1 8 Tryd.underlying27 gi gz0 gz1 gz2 rfl (by omega) w1.heap.size (by rfl) HMADE1.out ⟨g1, 0, none⟩ V1.length c1 (i64s V1) (by rfl) (i64s_len V1) HN.out i64s_one (by unfold maxLen; omega) (by omega) (by simp) ?_; intro A3 c3 w3 hown3 hb3; have h13 : Below w1.heap.size w1 w3 := (((Below.refl _ _).alloc (Nat.le_refl _) _).drew).trans hb3; have hcp3 := cell_kept h13 hcp1; have hown4 := own_kept hown1 h13; have hls3 := Nat.lt_of_lt_of_le hls1 h13.size)
                | (refine step_append_lies _ (by rfl) _ _ _ (by rfl) w.heap.size 42 ti _ 3 56 Tryd.underlying30 hi hz0 hz1 hz2 rfl (by omega) _ D.length cs (by rfl) (hown4.alloc _) ⟨w3.heap.size, 0, none⟩ 1 1 [.bool _, .slice A3 V1.length c3, .slice none 0 0] (by rfl) (by rfl) (World.news_of_block (cs := #[.bool _, .slice A3 V1.length c3, .slice none 0 0]) (t := 42) (fr := (0, 0)) (heap_alloc_new w3 _)) (by simp [Value.oneCell']) (by omega) (by unfold maxLen; omega) (by omega) (by simp; omega) (w3.heap.size + 1) (by simp) ?_; intro gg cap2 w2 hown2 hgrow hat hlt2))
            obtain ⟨hs2, hr2, hb2⟩ := said_end hs1 hown1 hrow1 hbw1 hB1 hb3 hown3 hgrow hown2 rfl rfl
            have HST2 : I64St w w2 P1 V0 L (k + 1) V1 ch1 (.slice (some ⟨g1, 0, none⟩) V1.length c1) (D ++ [(_, V1)]) _ (.slice (some ⟨gg, 0, none⟩) (D.length + 1) cap2) := ⟨hs2, by rw [List.length_append]; exact hown2, hr2, by rw [List.append_assoc, ← HEQ.out, HO.out]; rfl, by have := HLEN.out; have := HW.out; have := HWT.out; omega, by simp; omega, HVB.out, hP1, hb2⟩
            clear hown2 hgrow hs2 hr2 hb2 hown3 hb3
            go_wp2
            go_roundw
            case rel => exact ⟨k + 1, V1, ch1, _, _, _, by omega, by go_num, HST2⟩
            case measure => simp [intOf]; omega
        · rw [hact] at c0
          have hsvW := SV.kept hsv ((Below.refl _ _).alloc (Nat.le_refl _) (.cells #[.int .i64 1, .string x.text, .slice At x.texts.length ct] 67))
          have hbW : Below w.heap.size w (wr.alloc (.cells #[.int .i64 1, .string x.text, .slice At x.texts.length ct] 67)) := hbel.alloc hB _
          have hownW := hown.alloc (.cells #[.int .i64 1, .string x.text, .slice At x.texts.length ct] 67)
          have hrowW := rows_alloc hrow (.cells #[.int .i64 1, .string x.text, .slice At x.texts.length ct] 67)
          have H := Lib.hid (append64_did x hact H8.out.1 P1 w.heap.size V ch vv _ hsvW (by have := HW.out; omega) (E1.out.below hbW) (E2.out.below hbW))
          generalize stepR x V ch = r at H HO HLEN
          obtain ⟨bad, V1, ch1⟩ := r
          have HO : Hid (outs V ch (L.drop k) = (bad, V1) :: outs V1 ch1 (L.drop (k + 1))) := HO.out
          have HLEN : Hid (V1.length ≤ V.length + wt x) := HLEN.out
          clear hact
          go_wp2_with (go_at_call 33; refine (H.out).mono ?_; rintro e w1 ⟨E, v', rfl, hE, hs1, hchg⟩)
          have hE : (bad = false ∧ E = .nilIface) ∨ (bad = true ∧ ∃ t y, E = .iface t y) := hE
          have hs1 : SV w1 P1 w.heap.size V1 ch1 v' := hs1
          obtain ⟨g1, c1, rfl⟩ := hs1.sh
          have hbw1 : Below w.heap.size w w1 := hbW.trans (chg_below hchg hP1 (Nat.le_refl _) hvb hbW.size)
          have hB1 : w.heap.size ≤ w1.heap.size := hbw1.size
          have hown1 := chg_own hsvW hchg hownW (by decide) (by decide) (own_apart hownW hsvW.hv (by decide))
          have hrow1 := chg_rows hsvW hchg hrowW
          have HVB := Lib.hid (chg_at hchg hvb hbW.size)
          have hcp1 : w1.cell? ⟨w.heap.size, 0, none⟩ = some (.slice (some ⟨g1, 0, none⟩) V1.length c1) := cell_of_one hs1.h0
          have hne : u7.ownBlock ≠ some w.heap.size := own_far hown1 hs1.h0 (by decide)
          have hls1 := lt_of_block hs1.h0
          have HMADE1 : Hid ((w1.alloc (.cells #[] 2)).ownsRow w1.heap.size 2 1 (.slice (some ⟨w1.heap.size, 0, none⟩) 0 0) 0 []) := World.ownsRow_made (base := w1.heap.size) (e := 2) (size := 1) w1 #[] 0 (Nat.le_refl _) (Nat.zero_le _) rfl
          have HN : Hid (∀ j u, (i64s V1)[j]? = some u → (w1.alloc (.cells #[] 2)).cell? ((⟨g1, 0, none⟩ : Addr).add j) = some u) := fun j u hj => cell_kept ((Below.refl _ _).alloc (Nat.le_refl _) _) (row_news (own_row_at hs1.hv) _ rfl j u hj)
          have hV1 : V1.length ≤ 1099511627776 := by have := HLEN.out; have := HW.out; have := HWT.out; omega
          rcases hE with ⟨rfl, rfl⟩ | ⟨rfl, te, ve, rfl⟩
          all_goals
            go_region_held3 (fun w' => w'.cell? ⟨w.heap.size, 0, none⟩ = some (.slice (some ⟨g1, 0, none⟩) V1.length c1)) (first | assumption | (rw [hgrow.cell_far _ (by simp; omega) (Ne.symm hne)]; assumption) | go_keep)
              (first
                | (refine step_append_new (by rfl) (.tmp 48) (.tmp 51) 27 (by rfl) w1.heap.size 2 tb (.int .i64 0) 1 8 Tryd.underlying27 gi gz0 gz1 gz2 rfl (by omega) w1.heap.size (by rfl) HMADE1.out ⟨g1, 0, none⟩ V1.length c1 (i64s V1) (by rfl) (i64s_len V1) HN.out i64s_one (by unfold maxLen; omega) (by omega) (by simp) ?_; intro A3 c3 w3 hown3 hb3; have h13 : Below w1.heap.size w1 w3 := (((Below.refl _ _).alloc (Nat.le_refl _) _).drew).trans hb3; have hcp3 := cell_kept h13 hcp1; have hown4 := own_kept hown1 h13; have hls3 := Nat.lt_of_lt_of_le hls1 h13.size)
                | (refine step_append_lies _ (by rfl) _ _ _ (by rfl) w.heap.size 42 ti _ 3 56 Tryd.underlying30 hi hz0 hz1 hz2 rfl (by omega) _ D.length cs (by rfl) (hown4.alloc _) ⟨w3.heap.size, 0, none⟩ 1 1 [.bool _, .slice A3 V1.length c3, .slice none 0 0] (by rfl) (by rfl) (World.news_of_block (cs := #[.bool _, .slice A3 V1.length c3, .slice none 0 0]) (t := 42) (fr := (0, 0)) (heap_alloc_new w3 _)) (by simp [Value.oneCell']) (by omega) (by unfold maxLen; omega) (by omega) (by simp; omega) (w3.heap.size + 1) (by simp) ?_; intro gg cap2 w2 hown2 hgrow hat hlt2))
            obtain ⟨hs2, hr2, hb2⟩ := said_end hs1 hown1 hrow1 hbw1 hB1 hb3 hown3 hgrow hown2 rfl rfl
            have HST2 : I64St w w2 P1 V0 L (k + 1) V1 ch1 (.slice (some ⟨g1, 0, none⟩) V1.length c1) (D ++ [(_, V1)]) _ (.slice (some ⟨gg, 0, none⟩) (D.length + 1) cap2) := ⟨hs2, by rw [List.length_append]; exact hown2, hr2, by rw [List.append_assoc, ← HEQ.out, HO.out]; rfl, by have := HLEN.out; have := HW.out; have := HWT.out; omega, by simp; omega, HVB.out, hP1, hb2⟩
            clear hown2 hgrow hs2 hr2 hb2 hown3 hb3
            go_wp2
            go_roundw
            case rel => exact ⟨k + 1, V1, ch1, _, _, _, by omega, by go_num, HST2⟩
            case measure => simp [intOf]; omega
        · rw [hact] at c0
          have H := Lib.hid (fun g c w' (hst : StrsAt w' (some ⟨g, 0, none⟩) x.texts) (hb : Below wr.heap.size wr w') => replace64_did x hact (some ⟨g, 0, none⟩) c H8.out.2.1 H8.out.2.2 P1 w.heap.size V ch vv w' hst (hsv.kept hb) (E1.out.below (below_step hbel hb)) (E2.out.below (below_step hbel hb)))
          generalize stepR x V ch = r at H HO HLEN
          obtain ⟨bad, V1, ch1⟩ := r
          have HO : Hid (outs V ch (L.drop k) = (bad, V1) :: outs V1 ch1 (L.drop (k + 1))) := HO.out
          have HLEN : Hid (V1.length ≤ V.length + wt x) := HLEN.out
          clear hact
          have HMS : Hid (((wr.alloc (.cells #[.int .i64 2, .string x.text, .slice At x.texts.length ct] 67)).alloc (.cells #[] 9)).ownsRow (wr.heap.size + 1) 9 1 (.slice (some ⟨wr.heap.size + 1, 0, none⟩) 0 0) 0 []) := by
            have h := World.ownsRow_made (base := wr.heap.size + 1) (e := 9) (size := 1) (wr.alloc (.cells #[.int .i64 2, .string x.text, .slice At x.texts.length ct] 67)) #[] 0 (by simp) (Nat.zero_le _) rfl
            rwa [show (wr.alloc (.cells #[.int .i64 2, .string x.text, .slice At x.texts.length ct] 67)).heap.size = wr.heap.size + 1 by simp] at h
          have HBS : Hid (Below wr.heap.size wr ((wr.alloc (.cells #[.int .i64 2, .string x.text, .slice At x.texts.length ct] 67)).alloc (.cells #[] 9))) := ((Below.refl _ _).alloc (Nat.le_refl _) _).alloc (by simp) _
          have HST := Lib.hid hst0
          have hnt := H8.out.2.1
          clear hst0
          go_wp2_with (first
            | (at_builtin; refine wpList_append_made rfl (.tmp 40) (.tmp 42) 23 rfl (wr.heap.size + 1) 9 ts (.string ⟨#[]⟩) 1 16 Tryd.underlying23 si sz0 sz1 sz2 rfl (by decide) (wr.heap.size + 1) rfl HMS.out At x.texts.length ct (strCells x.texts) rfl (fun h => ⟨by have := hnone h; omega, hnone h⟩) (by simp [strCells]) (fun ad hA j u hu => strCells_at (strsAt_below HST.out HBS.out) ad hA j u hu) strCells_one (by unfold maxLen; omega) (by omega) (by simp) ?_; intro gS cS wS hownS hbelS; have hbS : Below wr.heap.size wr wS := HBS.out.trans (hbelS.mono (Nat.le_succ _)))
            | (go_at_call 34; refine (H.out gS cS wS (strs_of_row (own_row_at hownS)) hbS).mono ?_; rintro e w1 ⟨E, v', rfl, hE, hs1, hchg⟩))
          have hsvW := SV.kept hsv hbS
          have hbW := below_step hbel hbS
          have hownW := own_kept hown hbS
          have hrowW := rows_below hrow hbS
          have hE : (bad = false ∧ E = .nilIface) ∨ (bad = true ∧ ∃ t y, E = .iface t y) := hE
          have hs1 : SV w1 P1 w.heap.size V1 ch1 v' := hs1
          obtain ⟨g1, c1, rfl⟩ := hs1.sh
          have hbw1 : Below w.heap.size w w1 := hbW.trans (chg_below hchg hP1 (Nat.le_refl _) hvb hbW.size)
          have hB1 : w.heap.size ≤ w1.heap.size := hbw1.size
          have hown1 := chg_own hsvW hchg hownW (by decide) (by decide) (own_apart hownW hsvW.hv (by decide))
          have hrow1 := chg_rows hsvW hchg hrowW
          have HVB := Lib.hid (chg_at hchg hvb hbW.size)
          have hcp1 : w1.cell? ⟨w.heap.size, 0, none⟩ = some (.slice (some ⟨g1, 0, none⟩) V1.length c1) := cell_of_one hs1.h0
          have hne : u7.ownBlock ≠ some w.heap.size := own_far hown1 hs1.h0 (by decide)
          have hls1 := lt_of_block hs1.h0
          have HMADE1 : Hid ((w1.alloc (.cells #[] 2)).ownsRow w1.heap.size 2 1 (.slice (some ⟨w1.heap.size, 0, none⟩) 0 0) 0 []) := World.ownsRow_made (base := w1.heap.size) (e := 2) (size := 1) w1 #[] 0 (Nat.le_refl _) (Nat.zero_le _) rfl
          have HN : Hid (∀ j u, (i64s V1)[j]? = some u → (w1.alloc (.cells #[] 2)).cell? ((⟨g1, 0, none⟩ : Addr).add j) = some u) := fun j u hj => cell_kept ((Below.refl _ _).alloc (Nat.le_refl _) _) (row_news (own_row_at hs1.hv) _ rfl j u hj)
          have hV1 : V1.length ≤ 1099511627776 := by have := HLEN.out; have := HW.out; have := HWT.out; omega
          rcases hE with ⟨rfl, rfl⟩ | ⟨rfl, te, ve, rfl⟩
          all_goals
            go_region_held3 (fun w' => w'.cell? ⟨w.heap.size, 0, none⟩ = some (.slice (some ⟨g1, 0, none⟩) V1.length c1)) (first | assumption | (rw [hgrow.cell_far _ (by simp; omega) (Ne.symm hne)]; assumption) | go_keep)
              (first
                | (refine step_append_new (by rfl) (.tmp 48) (.tmp 51) 27 (by rfl) w1.heap.size 2 tb (.int .i64 0) 1 8 Tryd.underlying27 gi gz0 gz1 gz2 rfl (by omega) w1.heap.size (by rfl) HMADE1.out ⟨g1, 0, none⟩ V1.length c1 (i64s V1) (by rfl) (i64s_len V1) HN.out i64s_one (by unfold maxLen; omega) (by omega) (by simp) ?_; intro A3 c3 w3 hown3 hb3; have h13 : Below w1.heap.size w1 w3 := (((Below.refl _ _).alloc (Nat.le_refl _) _).drew).trans hb3; have hcp3 := cell_kept h13 hcp1; have hown4 := own_kept hown1 h13; have hls3 := Nat.lt_of_lt_of_le hls1 h13.size)
                | (refine step_append_lies _ (by rfl) _ _ _ (by rfl) w.heap.size 42 ti _ 3 56 Tryd.underlying30 hi hz0 hz1 hz2 rfl (by omega) _ D.length cs (by rfl) (hown4.alloc _) ⟨w3.heap.size, 0, none⟩ 1 1 [.bool _, .slice A3 V1.length c3, .slice none 0 0] (by rfl) (by rfl) (World.news_of_block (cs := #[.bool _, .slice A3 V1.length c3, .slice none 0 0]) (t := 42) (fr := (0, 0)) (heap_alloc_new w3 _)) (by simp [Value.oneCell']) (by omega) (by unfold maxLen; omega) (by omega) (by simp; omega) (w3.heap.size + 1) (by simp) ?_; intro gg cap2 w2 hown2 hgrow hat hlt2))
            obtain ⟨hs2, hr2, hb2⟩ := said_end hs1 hown1 hrow1 hbw1 hB1 hb3 hown3 hgrow hown2 rfl rfl
            have HST2 : I64St w w2 P1 V0 L (k + 1) V1 ch1 (.slice (some ⟨g1, 0, none⟩) V1.length c1) (D ++ [(_, V1)]) _ (.slice (some ⟨gg, 0, none⟩) (D.length + 1) cap2) := ⟨hs2, by rw [List.length_append]; exact hown2, hr2, by rw [List.append_assoc, ← HEQ.out, HO.out]; rfl, by have := HLEN.out; have := HW.out; have := HWT.out; omega, by simp; omega, HVB.out, hP1, hb2⟩
            clear hown2 hgrow hs2 hr2 hb2 hown3 hb3
            go_wp2
            go_roundw
            case rel => exact ⟨k + 1, V1, ch1, _, _, _, by omega, by go_num, HST2⟩
            case measure => simp [intOf]; omega
      · have HNT := HNT (by simpa using ht)
        have hq : x.act < 0 ∨ 2 < x.act := by
          have h := HTB.out
          have h2 : toldB x = false := by simpa using ht
          rw [h2] at h
          have := of_decide_eq_false h.symm
          omega
        have n0 : (x.act == 0) = false := by simp; omega
        have n1 : (x.act == 1) = false := by simp; omega
        have n2 : (x.act == 2) = false := by simp; omega
        have HAL := fun o => Lib.hid (HST.alloc o HNT.out (by have := HWT.out; omega))
        clear HST HNT HTB ht HO hq H8 HWT
        go_wp2
        go_roundw
        case rel => exact ⟨k + 1, V, ch, vv, D, cs, by omega, by go_num, (HAL _).out⟩
        case measure => simp [intOf]; omega
    · have HK : Hid (outs V0 false L = D) := by
        show _ = _
        have h := HST.eq
        rw [List.drop_eq_nil_of_le (by omega)] at h
        rw [← h]; simp [outs]
      have hrow := HST.rows
      have hbel := HST.bel
      obtain ⟨A', c, rfl, hat⟩ := own_row HST.own
      clear HST
      go_wp2
      go_ret
      rw [HK.out]
      exact ⟨A', c, cs, vv, rfl, hat, hrow, hbel⟩
end Go.Proofs.YtdmpeecocfoocaaDoor.E

namespace Go.Proofs.YtdmpeecocfoocaaDoor.E
open Go.RowKit Go.Proofs
set_option linter.unusedVariables false
set_option linter.unusedSimpArgs false

theorem Tryd.infoW2 : (Tryd.prog.info? 53).map (fun i => (i.zero, i.size, i.bytes)) = some (some (.agg #[.bool false, .slice none 0 0]), 2, 32) := by kernel_rfl

/-- Append of a list that lies anywhere, nil or not, to a list of the call's own that is not nil. -/
theorem wpList_append_more {P : Program} {w : World} {ops : Array Oper} {rest : List Oper} {o : Oper} {a : Act} {Q : Exit → Act → World → Prop} (hgd : o.guard = none) (s x : Operand) (t : TypeId)
    (ho : o.op = .call { callee := .builtin .append, args := #[s, x], argTypes := #[t, t] })
    (base : Nat) (e : TypeId) (i : TypeInfo) (z : Value) (size bytes : Nat) (ht : P.underlying t = some (.slice e)) (hi : P.info? e = some i) (hz : i.zero = some z)
    (hsize : i.size = size) (hby : i.bytes = bytes) (hzs : z.cells.size = size) (hsz : 0 < size)
    (b n k : Nat) (xs : List Value) (hs : a.eval s = .slice (some ⟨b, 0, none⟩) n k) (hown : w.ownsRow base e size (.slice (some ⟨b, 0, none⟩) n k) n xs)
    (A : Option Addr) (m c : Nat) (news : List Value) (hx : a.eval x = .slice A m c) (hA : A = none → m = 0) (hl : news.length = m * size)
    (hnews : ∀ ad, A = some ad → ∀ j u, news[j]? = some u → w.cell? (ad.add j) = some u) (h1 : ∀ u ∈ news, u.oneCell' = true)
    (h63 : n + m ≤ maxLen) (hbytes : (n + m) * bytes ≤ 140737488355328) (hbase : base ≤ w.heap.size)
    (h : ∀ g c' w', w'.ownsRow base e size (.slice (some ⟨g, 0, none⟩) (n + m) c') (n + m) (xs ++ news) → Below base w w' → wpList P ops Q rest (a.put o.dst (.slice (some ⟨g, 0, none⟩) (n + m) c')) w') : wpList P ops Q (o :: rest) a w := by
  cases A with
  | none =>
    obtain rfl := hA rfl
    have hn : news = [] := by apply List.eq_nil_of_length_eq_zero; simpa using hl
    subst hn
    have hrun : (Builtin.append_ #[t, t] o.type #[.slice (some ⟨b, 0, none⟩) n k, .slice none 0 c]).run P w = .ok (.slice (some ⟨b, 0, none⟩) n k) w := by
      rcases hown.2 with ⟨h1, _⟩ | ⟨g, cap, cur, hv, _, _, hnc, _⟩
      · cases h1
      · cases hv
        simp [Builtin.append_, run_underlying ht, sizeOf, typeInfo, hi, Builtin.lenOf, Builtin.firstCells, hnc, storeCells]
    refine wpList_plain hgd fun K hK => ?_
    unfold Oper.wp
    simp [execOp, ho, resolve, invoke, builtin, hs, hx, hrun, Result.andThen]
    exact hK _ _ (h b k w (by simpa using hown) (Below.refl _ _))
  | some ad =>
    refine wpList_append_own_at w hgd s x t ho base e i z size bytes ht hi hz hsize hby hzs hsz _ n xs hs hown ad m c news hx hl (hnews ad rfl) h1 h63 hbytes hbase (fun v' w' h2 h3 h4 _ => ?_)
    have hbw := (Below.refl base w).grown h3 hbase (fun k hk => (hown.lt k hk).1)
    rcases h2.2 with ⟨hv, _⟩ | ⟨g, cap, cur, hv, _⟩
    · have := (h4.1 hv).1
      cases this
    · subst hv
      exact h g cap w' h2 hbw

theorem own_row0 {w : World} {base : Nat} {e : TypeId} {size : Nat} {A : Option Addr} {c n : Nat} {xs : List Value} (h : w.ownsRow base e size (.slice A n c) n xs) : A = none → n = 0 ∧ c = 0 := by
  rintro rfl
  rcases h.2 with ⟨h1, h2⟩ | ⟨g, cap, cur, hv, _⟩
  · cases h1; exact ⟨rfl, rfl⟩
  · cases hv
theorem made64 (w : World) : (w.alloc (.cells #[] 2)).ownsRow w.heap.size 2 1 (.slice (some ⟨w.heap.size, 0, none⟩) 0 0) 0 [] := World.ownsRow_made (base := w.heap.size) (e := 2) (size := 1) w #[] 0 (Nat.le_refl _) (Nat.zero_le _) rfl
theorem i64s_append (a b : List Int) : i64s (a ++ b) = i64s a ++ i64s b := by simp [i64s]

/-- How it stands ahead of a round. -/
structure WSt (w wr : World) (V0 : List Int) (L : List StepL) (k : Nat) (V : List Int) (ch : Bool) (D : List (Bool × List Int)) (cs : List Value) (A : Option Addr) (c : Nat) (u11 : Value) : Prop where
  it : wr.ownsRow w.heap.size 2 1 (.slice A V.length c) V.length (i64s V)
  own : wr.ownsRow w.heap.size 53 2 u11 D.length cs
  rows : ListRows wr 0 2 (.slice none 0 0) D cs
  eq : D ++ outs V ch (L.drop k) = outs V0 false L
  len : V.length + wts (L.drop k) ≤ 1099511627776
  dl : D.length ≤ k
  bel : Below w.heap.size w wr
theorem WSt.alloc {w wr : World} {V0 : List Int} {L : List StepL} {k : Nat} {V : List Int} {ch : Bool} {D : List (Bool × List Int)} {cs : List Value} {A : Option Addr} {c : Nat} {u11 : Value} (h : WSt w wr V0 L k V ch D cs A c u11) (o : Obj) (h1 : outs V ch (L.drop k) = outs V ch (L.drop (k + 1))) (h2 : wts (L.drop (k + 1)) ≤ wts (L.drop k)) : WSt w (wr.alloc o) V0 L (k + 1) V ch D cs A c u11 :=
  ⟨h.it.alloc o, h.own.alloc o, rows_alloc h.rows o, by rw [← h1]; exact h.eq, by have := h.len; omega, by have := h.dl; omega, h.bel.alloc h.bel.size o⟩
theorem want_end {w w3 w4 : World} {o : Obj} {V0 : List Int} {L : List StepL} {k : Nat} {V V1 : List Int} {ch ch1 bad : Bool} {D : List (Bool × List Int)} {cs us : List Value} {A : Option Addr} {c : Nat} {u11 u : Value}
    (hit : w3.ownsRow w.heap.size 2 1 (.slice A V1.length c) V1.length (i64s V1)) (hown : w3.ownsRow w.heap.size 53 2 u11 D.length cs) (hrow : ListRows w3 0 2 (.slice none 0 0) D cs) (hbel : Below w.heap.size w w3)
    (heq : D ++ outs V ch (L.drop k) = outs V0 false L) (ho : outs V ch (L.drop k) = (bad, V1) :: outs V1 ch1 (L.drop (k + 1))) (hlen : V1.length + wts (L.drop (k + 1)) ≤ 1099511627776) (hdl : D.length ≤ k)
    (hgrow : (w3.alloc o).grownBy w4 u11.ownBlock) (hown4 : w4.ownsRow w.heap.size 53 2 u (D.length + 1) (cs ++ us)) (hu0 : us[0]? = some (.bool bad)) (hu1 : us[1]? = some (.slice A V1.length c)) :
    WSt w w4 V0 L (k + 1) V1 ch1 (D ++ [(bad, V1)]) (cs ++ us) A c u := by
  have hkeep : ∀ {base : Nat} {v : Value} {n : Nat} {ys : List Value}, w3.ownsRow base 2 1 v n ys → w4.ownsRow base 2 1 v n ys := fun h => (h.alloc o).kept hgrow (own_apart h hown (by decide))
  refine ⟨hkeep hit, by rw [List.length_append]; exact hown4, ?_, by rw [List.append_assoc, ← heq, ho]; rfl, hlen, by simp; omega, (hbel.alloc hbel.size _).grown hgrow (by have := hbel.size; simp; omega) (fun k hk => (hown.lt k hk).1)⟩
  refine ListRows.snoc (hrow.kept fun x n ys h hx => ⟨hkeep h, hx⟩) (by omega) hown.1 (bad, V1) hu0 hu1 (own_zero (hkeep hit)) ?_
  cases h : (Value.slice A V1.length c).ownBlock with
  | none => exact .inl rfl
  | some g => exact .inr (by simp [Value.ownBlock])
theorem none_len {w : World} {cs : List Value} (h : RowAt w none cs) : cs.length = 0 := by
  cases cs with
  | nil => rfl
  | cons u r => obtain ⟨g, e, _⟩ := h 0 u rfl; cases e
theorem own_low {w : World} {base b e size n : Nat} {v : Value} {xs : List Value} (h : w.ownsRow base e size v n xs) (hb : b ≤ base) : w.ownsRow b e size v n xs := by
  refine ⟨h.1, ?_⟩
  rcases h.2 with hn | ⟨g, cap, cur, rfl, hbg, r⟩
  · exact .inl hn
  · exact .inr ⟨g, cap, cur, rfl, Nat.le_trans hb hbg, r⟩
def WantTold (D : List (Bool × List Int)) (w : World) (e : Ending) (w' : World) : Prop := ∃ A c cs, e = .returned (.slice A D.length c) ∧ RowAt w' A cs ∧ ListRows w' 0 2 (.slice none 0 0) D cs ∧ Below w.heap.size w w'
theorem stepR_some {x : StepL} {N V : List Int} {ch : Bool} (h : stepQ x = some (some N)) : stepR x V ch = (false, nextV x V ch N, ch || decide (x.act = 0)) := by unfold stepR; rw [h]
theorem stepR_none {x : StepL} {V : List Int} {ch : Bool} (h : stepQ x = some none) : stepR x V ch = (true, V, ch) := by unfold stepR; rw [h]
theorem strs_one {w : World} {b : Nat} {t : ByteArray} (h : w.cell? ⟨b, 0, none⟩ = some (.string t)) : StrsAt w (some ⟨b, 0, none⟩) [t] := by
  intro i hi
  have : i = 0 := by simp at hi; omega
  subst this
  exact ⟨b, 0, rfl, h⟩

set_option maxRecDepth 100000 in
set_option maxHeartbeats 12800000 in
theorem wants64_any (Ad : Option Addr) (cd : Nat) (V0 : List Int) (A : Option Addr) (cap : Nat) (L : List StepL) (a : Addr) (w : World) (hv : IntsIn w Ad cd V0) (hx : StepsAt w A L) (hm : L.length ≤ 2147483647) (hf : ∀ j (h : j < L.length), fits8 L[j] = true) (hw : V0.length + wts L ≤ 1099511627776) (ha : w.cell? a = some (.func (.func 11) #[] #[])) :
    Calls Tryd.prog 15 #[.slice Ad V0.length cd, .slice A L.length cap, .func (.func 36) #[] #[.pointer (some a)], .func (.func 11) #[] #[]] w (WantTold (outs V0 false L) w) := by
  obtain ⟨ti, hi, hz0, hz1, hz2⟩ := info_parts Tryd.infoW2
  obtain ⟨tb, gi, gz0, gz1, gz2⟩ := info_parts Tryd.infoI64
  have HF := Lib.hid hf
  have HV := Lib.hid hv
  have HCA := Lib.hid ha
  have HW : Hid (V0.length + wts (L.drop 0) ≤ 1099511627776) := by show _ ≤ _; rw [List.drop_zero]; exact hw
  have hV0 : V0.length ≤ 1099511627776 := by omega
  have HMADE := Lib.hid (made64 w)
  have HB0 : Hid (Below w.heap.size w (w.alloc (.cells #[] 2))) := (Below.refl _ _).alloc (Nat.le_refl _) _
  clear hf hv hw ha
  go_enter Tryd.func15, Tryd.ntmps15
  go_wp2_with (at_builtin; refine wpList_append_made rfl (.tmp 16) (.tmp 17) 27 rfl w.heap.size 2 tb (.int .i64 0) 1 8 Tryd.underlying27 gi gz0 gz1 gz2 rfl (by decide) w.heap.size rfl HMADE.out Ad V0.length cd (i64s V0) rfl HV.out.1 (i64s_len V0) (fun ad hA j u hu => cell_kept HB0.out (HV.out.2.2 ad hA j u hu)) i64s_one (by unfold maxLen; omega) (by omega) (by simp) ?_; intro g0 c0 w0 hown0 hbel0)
  have HST0 : WSt w w0 V0 L 0 V0 false [] [] (some ⟨g0, 0, none⟩) c0 (.slice none 0 0) := ⟨hown0, World.ownsRow_nil _ _ _ _, ListRows.nil _ _ _ _, by simp, HW.out, Nat.le_refl _, HB0.out.trans hbel0⟩
  clear hown0 hbel0 HMADE HB0 HW HV
  go_loopw [9, 10, 11, 21] (fun u9 u10 u11 i wr => ∃ (k : Nat) (V : List Int) (ch : Bool) (D : List (Bool × List Int)) (cs : List Value) (Ai : Option Addr) (ci : Nat), k ≤ L.length ∧ i = .int .i64 k ∧ u9 = .slice Ai V.length ci ∧ u10 = .bool ch ∧ WSt w wr V0 L k V ch D cs Ai ci u11) (fun _ _ _ i _ => L.length - (intOf i).toNat)
  case atStart => exact ⟨0, V0, false, [], [], _, _, Nat.zero_le _, rfl, rfl, rfl, HST0⟩
  case round =>
    clear HST0
    obtain ⟨k, V, ch, D, cs, Ai, ci, hk, rfl, rfl, rfl, HST⟩ := hrel
    by_cases hlt : k < L.length
    · obtain ⟨b, o, v, rfl, h0, h1, h2, h3⟩ := hx k hlt
      have hbel := HST.bel
      have hB := hbel.size
      have h3 := h3.below hbel
      have c0 := cell_kept hbel h0
      have c1 := cell_kept hbel h1
      have c2 := cell_kept hbel h2
      obtain ⟨At, ct, rfl, hst0, hle, hcap, hnone⟩ := h3
      have i0 : (0 : Int) ≤ (k : Int) := Int.natCast_nonneg _
      have i1 : (k : Int) < (L.length : Int) := by omega
      have HO := fun ht => Lib.hid (outs_told (V := V) (ch := ch) hlt ht)
      have HNT := fun ht => Lib.hid (outs_not (V := V) (ch := ch) hlt ht)
      have HWT := Lib.hid (wts_drop hlt)
      have H8 := Lib.hid (fits8_iff.1 (HF.out k hlt))
      have HTB : Hid (toldB L[k] = decide (0 ≤ L[k].act ∧ L[k].act ≤ 2)) := rfl
      clear h0 h1 h2
      generalize L[k] = x at c0 c1 c2 HO HNT HWT H8 hst0 hle HTB ⊢
      by_cases ht : toldB x = true
      · have HO := HO ht
        have HLEN := Lib.hid (stepR_len x V ch)
        have hact : x.act = 0 ∨ x.act = 1 ∨ x.act = 2 := by have := HTB.out; rw [ht] at this; have := of_decide_eq_true this.symm; omega
        have hit := HST.it
        have hown := HST.own
        have hrow := HST.rows
        have HEQ := Lib.hid HST.eq
        have HW := Lib.hid HST.len
        have hdl := HST.dl
        clear HST HNT HTB ht
        rcases hact with hact | hact | hact
        · rw [hact] at c0
          have hbX : Below wr.heap.size wr (wr.alloc (.cells #[.int .i64 0, .string x.text, .slice At x.texts.length ct] 67)) := (Below.refl _ _).alloc (Nat.le_refl _) _
          have HX : Hid ((wr.alloc (.cells #[.int .i64 0, .string x.text, .slice At x.texts.length ct] 67)).cell? ⟨wr.heap.size, 0, none⟩ = some (.int .i64 0)) := cell_of_row _ _ 0 _ _ _ (heap_alloc_new wr _)
          have H := Lib.hid (cuts64_any x.text H8.out.1 a _ (cell_kept (below_step hbel hbX) HCA.out))
          have hsq : stepQ x = some (nums64 (partsT x.text)) := by unfold stepQ; simp [hact]
          have hsR := fun N (h : nums64 (partsT x.text) = some N) => stepR_some (V := V) (ch := ch) (hsq.trans (by rw [h]))
          have hsN := fun (h : nums64 (partsT x.text) = none) => stepR_none (V := V) (ch := ch) (hsq.trans (by rw [h]))
          have HQN : Hid (∀ N, nums64 (partsT x.text) = some N → N.length ≤ 2147483648) := fun N h => by have := nums64_len _ _ h; have := partsT_len x.text; have := H8.out.1; omega
          generalize nums64 (partsT x.text) = q at H hsR hsN HQN
          clear hsq
          cases q with
          | none =>
            rw [hsN rfl] at HO HLEN
            have HO : Hid (outs V ch (L.drop k) = (true, V) :: outs V ch (L.drop (k + 1))) := HO.out
            clear hsR hsN hact
            go_upto_region 16 with (go_at_call 36; refine (H.out).mono ?_; rintro e w1 hE; obtain rfl := hE.2.1 rfl; have hb1 := hE.2.2)
            have hb1 : Below wr.heap.size wr w1 := hbX.trans (hb1.mono hbX.size)
            have hit1 := own_kept hit hb1
            have hown1 := own_kept hown hb1
            have hrow1 := rows_below hrow hb1
            have hbel1 := below_step hbel hb1
            clear HX H hbX
            go_wp2_with (at_builtin; refine wpList_append_lies _ rfl (.tmp 83) (.tmp 88) 37 rfl w.heap.size 53 ti _ 2 32 Tryd.underlying37 hi hz0 hz1 hz2 rfl (by decide) _ D.length cs rfl (hown1.alloc _) ⟨w1.heap.size, 0, none⟩ 1 1 [.bool true, .slice Ai V.length ci] rfl rfl (World.news_of_block (cs := #[.bool true, .slice Ai V.length ci]) (t := 53) (fr := (0, 0)) (heap_alloc_new w1 _)) (by simp [Value.oneCell']) (by omega) (by unfold maxLen; omega) (by omega) (by have := hbel1.size; simp; omega) _ rfl ?_; intro gg cap2 w4 hown4 hgrow hat hlt4)
            have HST2 := want_end hit1 hown1 hrow1 hbel1 HEQ.out HO.out (by have := HW.out; have := HWT.out; omega) hdl hgrow hown4 rfl rfl
            clear hown4 hgrow hit1 hown1 hrow1 hbel1
            go_roundw
            case rel => exact ⟨k + 1, V, ch, _, _, Ai, ci, by omega, by go_num, rfl, rfl, HST2⟩
            case measure => simp [intOf]; omega
          | some N =>
            rw [hsR N rfl] at HO HLEN
            have HLN : Hid ((nextV x V ch N).length ≤ V.length + wt x) := HLEN.out
            have HO : Hid (outs V ch (L.drop k) = (false, nextV x V ch N) :: outs (nextV x V ch N) (ch || decide (x.act = 0)) (L.drop (k + 1))) := HO.out
            have HNV : Hid (nextV x V ch N = if x.act = 2 then N else if x.act = 0 then (if ch = true then V ++ N else N) else V ++ N) := rfl
            rw [hact] at HNV HO
            generalize nextV x V ch N = V1 at HO HLN HNV
            clear hsR hsN hact
            go_upto_region 16 with (go_at_call 36; refine (H.out).mono ?_; rintro e w1 hE; obtain ⟨Aq, cq, rfl, hrq, hfq⟩ := hE.1 N rfl; have hb1 := hE.2.2; have kx1 := cell_kept hb1 HX.out)
            have hb1 : Below wr.heap.size wr w1 := hbX.trans (hb1.mono hbX.size)
            have hit1 := own_kept hit hb1
            have hown1 := own_kept hown hb1
            have hrow1 := rows_below hrow hb1
            have hbel1 := below_step hbel hb1
            have HM1 := Lib.hid (made64 w1)
            have HBM : Hid (Below w1.heap.size w1 (w1.alloc (.cells #[] 2))) := (Below.refl _ _).alloc (Nat.le_refl _) _
            have HRQ := Lib.hid hrq
            have hls := hb1.size
            have hls2 : wr.heap.size < w1.heap.size := by have := World.block_lt_of_cell? w1 _ kx1; simpa using this
            clear HX H hbX hrq
            have hN : N.length ≤ 2147483648 := (HQN.out N rfl)
            have hV : V.length ≤ 1099511627776 := by have := HW.out; omega
            cases ch with
            | true =>
              have HV1 : Hid (V1 = (V ++ N)) := by show _ = _; rw [HNV.out]; simp
              rw [HV1.out] at HO HLN
              clear HNV HV1
              go_wp2_with (first
                | (at_builtin; refine wpList_append_made rfl (.tmp 72) (.tmp 73) 27 rfl w1.heap.size 2 tb (.int .i64 0) 1 8 Tryd.underlying27 gi gz0 gz1 gz2 rfl (by decide) w1.heap.size rfl HM1.out Ai (V).length ci (i64s V) rfl (own_row0 hit1) (i64s_len _) (fun ad h j u hu => cell_kept HBM.out (row_news (own_row_at hit1) ad h j u hu)) i64s_one (by unfold maxLen; first | omega | (simp; done) | (simp; omega)) (by first | omega | (simp; done) | (simp; omega)) (by simp) ?_; intro g2 c2 w2 hown2 hb2; have hb12 := HBM.out.trans hb2; have hls12 := hb12.size)
                | (at_builtin; refine wpList_append_more rfl (.tmp 74) (.tmp 75) 27 rfl w1.heap.size 2 tb (.int .i64 0) 1 8 Tryd.underlying27 gi gz0 gz1 gz2 rfl (by decide) g2 (V).length c2 (i64s V) rfl hown2 Aq N.length cq (i64s N) rfl (fun h => by subst h; have := none_len (rowAt_below HRQ.out hb12); simpa [i64s] using this) (i64s_len _) (row_news (rowAt_below HRQ.out hb12)) i64s_one (by unfold maxLen; first | omega | (simp; done) | (simp; omega)) (by first | omega | (simp; done) | (simp; omega)) hls12 ?_; intro g3 c3 w3 hown3 hb3; have hb13 := hb12.trans hb3; have kx3 := cell_kept hb13 kx1; have hownO := own_kept hown1 hb13; have hls13 := hb13.size)
                | (at_builtin; refine wpList_append_lies _ rfl (.tmp 83) (.tmp 88) 37 rfl w.heap.size 53 ti _ 2 32 Tryd.underlying37 hi hz0 hz1 hz2 rfl (by decide) _ D.length cs rfl (hownO.alloc _) ⟨w3.heap.size, 0, none⟩ 1 1 [.bool false, .slice (some ⟨g3, 0, none⟩) _ c3] rfl rfl (World.news_of_block (cs := #[.bool false, .slice (some ⟨g3, 0, none⟩) _ c3]) (t := 53) (fr := (0, 0)) (heap_alloc_new w3 _)) (by simp [Value.oneCell']) (by omega) (by unfold maxLen; omega) (by omega) (by have := hbel1.size; simp; omega) _ rfl ?_; intro gg cap2 w4 hown4 hgrow hat hlt4))
              have hrowO := rows_below hrow1 hb13
              have hbelO := below_step hbel1 hb13
              have HIT0 : (w3.ownsRow w.heap.size 2 1 (.slice (some ⟨g3, 0, none⟩) ((V ++ N)).length c3) ((V ++ N)).length (i64s ((V ++ N)))) := by
                have h := own_low (b := w.heap.size) hown3 hbel1.size
                rw [← i64s_append] at h
                simpa using h
              have HIT := Lib.hid HIT0
              clear HIT0
              have HST2 := want_end (V1 := (V ++ N)) (c := c3) (A := some ⟨g3, 0, none⟩) (ch1 := true) HIT.out hownO hrowO hbelO HEQ.out (by have := HO.out; simpa using this) (by have := HW.out; have := HWT.out; have := HLN.out; omega) hdl hgrow (by simpa using hown4) rfl (by simp)
              clear hown4 hgrow hit1 hown1 hrow1 hbel1 hown2 hown3 hrowO hbelO hownO
              go_roundw
              case rel => exact ⟨k + 1, _, true, _, _, _, _, by omega, by go_num, by simp, rfl, HST2⟩
              case measure => simp [intOf]; omega
            | false =>
              have HV1 : Hid (V1 = N) := by show _ = _; rw [HNV.out]; simp
              rw [HV1.out] at HO HLN
              clear HNV HV1
              go_wp2_with (first
                | (at_builtin; refine wpList_append_made rfl (.tmp 72) (.tmp 73) 27 rfl w1.heap.size 2 tb (.int .i64 0) 1 8 Tryd.underlying27 gi gz0 gz1 gz2 rfl (by decide) w1.heap.size rfl HM1.out none (([] : List Int)).length 0 (i64s ([] : List Int)) rfl (fun _ => ⟨rfl, rfl⟩) (i64s_len _) (fun ad h => by cases h) i64s_one (by unfold maxLen; first | omega | (simp; done) | (simp; omega)) (by first | omega | (simp; done) | (simp; omega)) (by simp) ?_; intro g2 c2 w2 hown2 hb2; have hb12 := HBM.out.trans hb2; have hls12 := hb12.size)
                | (at_builtin; refine wpList_append_more rfl (.tmp 74) (.tmp 75) 27 rfl w1.heap.size 2 tb (.int .i64 0) 1 8 Tryd.underlying27 gi gz0 gz1 gz2 rfl (by decide) g2 (([] : List Int)).length c2 (i64s ([] : List Int)) rfl hown2 Aq N.length cq (i64s N) rfl (fun h => by subst h; have := none_len (rowAt_below HRQ.out hb12); simpa [i64s] using this) (i64s_len _) (row_news (rowAt_below HRQ.out hb12)) i64s_one (by unfold maxLen; first | omega | (simp; done) | (simp; omega)) (by first | omega | (simp; done) | (simp; omega)) hls12 ?_; intro g3 c3 w3 hown3 hb3; have hb13 := hb12.trans hb3; have kx3 := cell_kept hb13 kx1; have hownO := own_kept hown1 hb13; have hls13 := hb13.size)
                | (at_builtin; refine wpList_append_lies _ rfl (.tmp 83) (.tmp 88) 37 rfl w.heap.size 53 ti _ 2 32 Tryd.underlying37 hi hz0 hz1 hz2 rfl (by decide) _ D.length cs rfl (hownO.alloc _) ⟨w3.heap.size, 0, none⟩ 1 1 [.bool false, .slice (some ⟨g3, 0, none⟩) _ c3] rfl rfl (World.news_of_block (cs := #[.bool false, .slice (some ⟨g3, 0, none⟩) _ c3]) (t := 53) (fr := (0, 0)) (heap_alloc_new w3 _)) (by simp [Value.oneCell']) (by omega) (by unfold maxLen; omega) (by omega) (by have := hbel1.size; simp; omega) _ rfl ?_; intro gg cap2 w4 hown4 hgrow hat hlt4))
              have hrowO := rows_below hrow1 hb13
              have hbelO := below_step hbel1 hb13
              have HIT0 : (w3.ownsRow w.heap.size 2 1 (.slice (some ⟨g3, 0, none⟩) (N).length c3) (N).length (i64s (N))) := by
                have h := own_low (b := w.heap.size) hown3 hbel1.size
                rw [← i64s_append] at h
                simpa using h
              have HIT := Lib.hid HIT0
              clear HIT0
              have HST2 := want_end (V1 := N) (c := c3) (A := some ⟨g3, 0, none⟩) (ch1 := true) HIT.out hownO hrowO hbelO HEQ.out (by have := HO.out; simpa using this) (by have := HW.out; have := HWT.out; have := HLN.out; omega) hdl hgrow (by simpa using hown4) rfl (by simp)
              clear hown4 hgrow hit1 hown1 hrow1 hbel1 hown2 hown3 hrowO hbelO hownO
              go_roundw
              case rel => exact ⟨k + 1, _, true, _, _, _, _, by omega, by go_num, by simp, rfl, HST2⟩
              case measure => simp [intOf]; omega
        · rw [hact] at c0
          have hbX : Below wr.heap.size wr ((wr.alloc (.cells #[.int .i64 1, .string x.text, .slice At x.texts.length ct] 67)).alloc (.cells #[.string x.text] 9)) := ((Below.refl _ _).alloc (Nat.le_refl _) _).alloc (by simp) _
          have HX : Hid (((wr.alloc (.cells #[.int .i64 1, .string x.text, .slice At x.texts.length ct] 67)).alloc (.cells #[.string x.text] 9)).cell? ⟨wr.heap.size, 0, none⟩ = some (.int .i64 1)) := cell_kept ((Below.refl _ _).alloc (Nat.le_refl _) _) (cell_of_row _ _ 0 _ _ _ (heap_alloc_new wr _))
          have H := Lib.hid (each64_any (some ⟨wr.heap.size + 1, 0, none⟩) 1 [x.text] ((wr.alloc (.cells #[.int .i64 1, .string x.text, .slice At x.texts.length ct] 67)).alloc (.cells #[.string x.text] 9)) (strs_one (by have h := heap_alloc_new (wr.alloc (.cells #[.int .i64 1, .string x.text, .slice At x.texts.length ct] 67)) (.cells #[.string x.text] 9); rw [show (wr.alloc (.cells #[.int .i64 1, .string x.text, .slice At x.texts.length ct] 67)).heap.size = wr.heap.size + 1 by simp] at h; exact cell_of_one h)) (by simp) (fun j hj => by have h0 : j = 0 := (by simp at hj; omega); subst h0; exact H8.out.1))
          have hsq : stepQ x = some (nums64 [x.text]) := by unfold stepQ; simp [hact]
          have hsR := fun N (h : nums64 [x.text] = some N) => stepR_some (V := V) (ch := ch) (hsq.trans (by rw [h]))
          have hsN := fun (h : nums64 [x.text] = none) => stepR_none (V := V) (ch := ch) (hsq.trans (by rw [h]))
          have HQN : Hid (∀ N, nums64 [x.text] = some N → N.length ≤ 2147483648) := fun N h => by have := nums64_len _ _ h; simp at this; omega
          generalize nums64 [x.text] = q at H hsR hsN HQN
          clear hsq
          cases q with
          | none =>
            rw [hsN rfl] at HO HLEN
            have HO : Hid (outs V ch (L.drop k) = (true, V) :: outs V ch (L.drop (k + 1))) := HO.out
            clear hsR hsN hact
            go_upto_region 16 with (go_at_call 35; refine (H.out).mono ?_; rintro e w1 hE; obtain rfl := hE.2.1 rfl; have hb1 := hE.2.2)
            have hb1 : Below wr.heap.size wr w1 := hbX.trans (hb1.mono hbX.size)
            have hit1 := own_kept hit hb1
            have hown1 := own_kept hown hb1
            have hrow1 := rows_below hrow hb1
            have hbel1 := below_step hbel hb1
            clear HX H hbX
            go_wp2_with (at_builtin; refine wpList_append_lies _ rfl (.tmp 83) (.tmp 88) 37 rfl w.heap.size 53 ti _ 2 32 Tryd.underlying37 hi hz0 hz1 hz2 rfl (by decide) _ D.length cs rfl (hown1.alloc _) ⟨w1.heap.size, 0, none⟩ 1 1 [.bool true, .slice Ai V.length ci] rfl rfl (World.news_of_block (cs := #[.bool true, .slice Ai V.length ci]) (t := 53) (fr := (0, 0)) (heap_alloc_new w1 _)) (by simp [Value.oneCell']) (by omega) (by unfold maxLen; omega) (by omega) (by have := hbel1.size; simp; omega) _ rfl ?_; intro gg cap2 w4 hown4 hgrow hat hlt4)
            have HST2 := want_end hit1 hown1 hrow1 hbel1 HEQ.out HO.out (by have := HW.out; have := HWT.out; omega) hdl hgrow hown4 rfl rfl
            clear hown4 hgrow hit1 hown1 hrow1 hbel1
            go_roundw
            case rel => exact ⟨k + 1, V, ch, _, _, Ai, ci, by omega, by go_num, rfl, rfl, HST2⟩
            case measure => simp [intOf]; omega
          | some N =>
            rw [hsR N rfl] at HO HLEN
            have HLN : Hid ((nextV x V ch N).length ≤ V.length + wt x) := HLEN.out
            have HO : Hid (outs V ch (L.drop k) = (false, nextV x V ch N) :: outs (nextV x V ch N) (ch || decide (x.act = 0)) (L.drop (k + 1))) := HO.out
            have HNV : Hid (nextV x V ch N = if x.act = 2 then N else if x.act = 0 then (if ch = true then V ++ N else N) else V ++ N) := rfl
            rw [hact] at HNV HO
            generalize nextV x V ch N = V1 at HO HLN HNV
            clear hsR hsN hact
            go_upto_region 16 with (go_at_call 35; refine (H.out).mono ?_; rintro e w1 hE; obtain ⟨Aq, cq, rfl, hrq, hfq⟩ := hE.1 N rfl; have hb1 := hE.2.2; have kx1 := cell_kept hb1 HX.out)
            have hb1 : Below wr.heap.size wr w1 := hbX.trans (hb1.mono hbX.size)
            have hit1 := own_kept hit hb1
            have hown1 := own_kept hown hb1
            have hrow1 := rows_below hrow hb1
            have hbel1 := below_step hbel hb1
            have HM1 := Lib.hid (made64 w1)
            have HBM : Hid (Below w1.heap.size w1 (w1.alloc (.cells #[] 2))) := (Below.refl _ _).alloc (Nat.le_refl _) _
            have HRQ := Lib.hid hrq
            have hls := hb1.size
            have hls2 : wr.heap.size < w1.heap.size := by have := World.block_lt_of_cell? w1 _ kx1; simpa using this
            clear HX H hbX hrq
            have hN : N.length ≤ 2147483648 := (HQN.out N rfl)
            have hV : V.length ≤ 1099511627776 := by have := HW.out; omega
            cases ch with
            | true =>
              have HV1 : Hid (V1 = (V ++ N)) := by show _ = _; rw [HNV.out]; simp
              rw [HV1.out] at HO HLN
              clear HNV HV1
              go_wp2_with (first
                | (at_builtin; refine wpList_append_made rfl (.tmp 72) (.tmp 73) 27 rfl w1.heap.size 2 tb (.int .i64 0) 1 8 Tryd.underlying27 gi gz0 gz1 gz2 rfl (by decide) w1.heap.size rfl HM1.out Ai (V).length ci (i64s V) rfl (own_row0 hit1) (i64s_len _) (fun ad h j u hu => cell_kept HBM.out (row_news (own_row_at hit1) ad h j u hu)) i64s_one (by unfold maxLen; first | omega | (simp; done) | (simp; omega)) (by first | omega | (simp; done) | (simp; omega)) (by simp) ?_; intro g2 c2 w2 hown2 hb2; have hb12 := HBM.out.trans hb2; have hls12 := hb12.size)
                | (at_builtin; refine wpList_append_more rfl (.tmp 74) (.tmp 75) 27 rfl w1.heap.size 2 tb (.int .i64 0) 1 8 Tryd.underlying27 gi gz0 gz1 gz2 rfl (by decide) g2 (V).length c2 (i64s V) rfl hown2 Aq N.length cq (i64s N) rfl (fun h => by subst h; have := none_len (rowAt_below HRQ.out hb12); simpa [i64s] using this) (i64s_len _) (row_news (rowAt_below HRQ.out hb12)) i64s_one (by unfold maxLen; first | omega | (simp; done) | (simp; omega)) (by first | omega | (simp; done) | (simp; omega)) hls12 ?_; intro g3 c3 w3 hown3 hb3; have hb13 := hb12.trans hb3; have kx3 := cell_kept hb13 kx1; have hownO := own_kept hown1 hb13; have hls13 := hb13.size)
                | (at_builtin; refine wpList_append_lies _ rfl (.tmp 83) (.tmp 88) 37 rfl w.heap.size 53 ti _ 2 32 Tryd.underlying37 hi hz0 hz1 hz2 rfl (by decide) _ D.length cs rfl (hownO.alloc _) ⟨w3.heap.size, 0, none⟩ 1 1 [.bool false, .slice (some ⟨g3, 0, none⟩) _ c3] rfl rfl (World.news_of_block (cs := #[.bool false, .slice (some ⟨g3, 0, none⟩) _ c3]) (t := 53) (fr := (0, 0)) (heap_alloc_new w3 _)) (by simp [Value.oneCell']) (by omega) (by unfold maxLen; omega) (by omega) (by have := hbel1.size; simp; omega) _ rfl ?_; intro gg cap2 w4 hown4 hgrow hat hlt4))
              have hrowO := rows_below hrow1 hb13
              have hbelO := below_step hbel1 hb13
              have HIT0 : (w3.ownsRow w.heap.size 2 1 (.slice (some ⟨g3, 0, none⟩) ((V ++ N)).length c3) ((V ++ N)).length (i64s ((V ++ N)))) := by
                have h := own_low (b := w.heap.size) hown3 hbel1.size
                rw [← i64s_append] at h
                simpa using h
              have HIT := Lib.hid HIT0
              clear HIT0
              have HST2 := want_end (V1 := (V ++ N)) (c := c3) (A := some ⟨g3, 0, none⟩) (ch1 := true) HIT.out hownO hrowO hbelO HEQ.out (by have := HO.out; simpa using this) (by have := HW.out; have := HWT.out; have := HLN.out; omega) hdl hgrow (by simpa using hown4) rfl (by simp)
              clear hown4 hgrow hit1 hown1 hrow1 hbel1 hown2 hown3 hrowO hbelO hownO
              go_roundw
              case rel => exact ⟨k + 1, _, true, _, _, _, _, by omega, by go_num, by simp, rfl, HST2⟩
              case measure => simp [intOf]; omega
            | false =>
              have HV1 : Hid (V1 = (V ++ N)) := by show _ = _; rw [HNV.out]; simp
              rw [HV1.out] at HO HLN
              clear HNV HV1
              go_wp2_with (first
                | (at_builtin; refine wpList_append_made rfl (.tmp 72) (.tmp 73) 27 rfl w1.heap.size 2 tb (.int .i64 0) 1 8 Tryd.underlying27 gi gz0 gz1 gz2 rfl (by decide) w1.heap.size rfl HM1.out Ai (V).length ci (i64s V) rfl (own_row0 hit1) (i64s_len _) (fun ad h j u hu => cell_kept HBM.out (row_news (own_row_at hit1) ad h j u hu)) i64s_one (by unfold maxLen; first | omega | (simp; done) | (simp; omega)) (by first | omega | (simp; done) | (simp; omega)) (by simp) ?_; intro g2 c2 w2 hown2 hb2; have hb12 := HBM.out.trans hb2; have hls12 := hb12.size)
                | (at_builtin; refine wpList_append_more rfl (.tmp 74) (.tmp 75) 27 rfl w1.heap.size 2 tb (.int .i64 0) 1 8 Tryd.underlying27 gi gz0 gz1 gz2 rfl (by decide) g2 (V).length c2 (i64s V) rfl hown2 Aq N.length cq (i64s N) rfl (fun h => by subst h; have := none_len (rowAt_below HRQ.out hb12); simpa [i64s] using this) (i64s_len _) (row_news (rowAt_below HRQ.out hb12)) i64s_one (by unfold maxLen; first | omega | (simp; done) | (simp; omega)) (by first | omega | (simp; done) | (simp; omega)) hls12 ?_; intro g3 c3 w3 hown3 hb3; have hb13 := hb12.trans hb3; have kx3 := cell_kept hb13 kx1; have hownO := own_kept hown1 hb13; have hls13 := hb13.size)
                | (at_builtin; refine wpList_append_lies _ rfl (.tmp 83) (.tmp 88) 37 rfl w.heap.size 53 ti _ 2 32 Tryd.underlying37 hi hz0 hz1 hz2 rfl (by decide) _ D.length cs rfl (hownO.alloc _) ⟨w3.heap.size, 0, none⟩ 1 1 [.bool false, .slice (some ⟨g3, 0, none⟩) _ c3] rfl rfl (World.news_of_block (cs := #[.bool false, .slice (some ⟨g3, 0, none⟩) _ c3]) (t := 53) (fr := (0, 0)) (heap_alloc_new w3 _)) (by simp [Value.oneCell']) (by omega) (by unfold maxLen; omega) (by omega) (by have := hbel1.size; simp; omega) _ rfl ?_; intro gg cap2 w4 hown4 hgrow hat hlt4))
              have hrowO := rows_below hrow1 hb13
              have hbelO := below_step hbel1 hb13
              have HIT0 : (w3.ownsRow w.heap.size 2 1 (.slice (some ⟨g3, 0, none⟩) ((V ++ N)).length c3) ((V ++ N)).length (i64s ((V ++ N)))) := by
                have h := own_low (b := w.heap.size) hown3 hbel1.size
                rw [← i64s_append] at h
                simpa using h
              have HIT := Lib.hid HIT0
              clear HIT0
              have HST2 := want_end (V1 := (V ++ N)) (c := c3) (A := some ⟨g3, 0, none⟩) (ch1 := false) HIT.out hownO hrowO hbelO HEQ.out (by have := HO.out; simpa using this) (by have := HW.out; have := HWT.out; have := HLN.out; omega) hdl hgrow (by simpa using hown4) rfl (by simp)
              clear hown4 hgrow hit1 hown1 hrow1 hbel1 hown2 hown3 hrowO hbelO hownO
              go_roundw
              case rel => exact ⟨k + 1, _, false, _, _, _, _, by omega, by go_num, by simp, rfl, HST2⟩
              case measure => simp [intOf]; omega
        · rw [hact] at c0
          have hbX : Below wr.heap.size wr (wr.alloc (.cells #[.int .i64 2, .string x.text, .slice At x.texts.length ct] 67)) := (Below.refl _ _).alloc (Nat.le_refl _) _
          have HX : Hid ((wr.alloc (.cells #[.int .i64 2, .string x.text, .slice At x.texts.length ct] 67)).cell? ⟨wr.heap.size, 0, none⟩ = some (.int .i64 2)) := cell_of_row _ _ 0 _ _ _ (heap_alloc_new wr _)
          have H := Lib.hid (each64_any At ct x.texts (wr.alloc (.cells #[.int .i64 2, .string x.text, .slice At x.texts.length ct] 67)) (strsAt_below hst0 hbX) (by have := H8.out.2.1; omega) H8.out.2.2)
          have hsq : stepQ x = some (nums64 x.texts) := by unfold stepQ; simp [hact]
          have hsR := fun N (h : nums64 x.texts = some N) => stepR_some (V := V) (ch := ch) (hsq.trans (by rw [h]))
          have hsN := fun (h : nums64 x.texts = none) => stepR_none (V := V) (ch := ch) (hsq.trans (by rw [h]))
          have HQN : Hid (∀ N, nums64 x.texts = some N → N.length ≤ 2147483648) := fun N h => by have := nums64_len _ _ h; have := H8.out.2.1; omega
          generalize nums64 x.texts = q at H hsR hsN HQN
          clear hsq
          cases q with
          | none =>
            rw [hsN rfl] at HO HLEN
            have HO : Hid (outs V ch (L.drop k) = (true, V) :: outs V ch (L.drop (k + 1))) := HO.out
            clear hsR hsN hact
            go_upto_region 16 with (go_at_call 35; refine (H.out).mono ?_; rintro e w1 hE; obtain rfl := hE.2.1 rfl; have hb1 := hE.2.2)
            have hb1 : Below wr.heap.size wr w1 := hbX.trans (hb1.mono hbX.size)
            have hit1 := own_kept hit hb1
            have hown1 := own_kept hown hb1
            have hrow1 := rows_below hrow hb1
            have hbel1 := below_step hbel hb1
            clear HX H hbX
            go_wp2_with (at_builtin; refine wpList_append_lies _ rfl (.tmp 83) (.tmp 88) 37 rfl w.heap.size 53 ti _ 2 32 Tryd.underlying37 hi hz0 hz1 hz2 rfl (by decide) _ D.length cs rfl (hown1.alloc _) ⟨w1.heap.size, 0, none⟩ 1 1 [.bool true, .slice Ai V.length ci] rfl rfl (World.news_of_block (cs := #[.bool true, .slice Ai V.length ci]) (t := 53) (fr := (0, 0)) (heap_alloc_new w1 _)) (by simp [Value.oneCell']) (by omega) (by unfold maxLen; omega) (by omega) (by have := hbel1.size; simp; omega) _ rfl ?_; intro gg cap2 w4 hown4 hgrow hat hlt4)
            have HST2 := want_end hit1 hown1 hrow1 hbel1 HEQ.out HO.out (by have := HW.out; have := HWT.out; omega) hdl hgrow hown4 rfl rfl
            clear hown4 hgrow hit1 hown1 hrow1 hbel1
            go_roundw
            case rel => exact ⟨k + 1, V, ch, _, _, Ai, ci, by omega, by go_num, rfl, rfl, HST2⟩
            case measure => simp [intOf]; omega
          | some N =>
            rw [hsR N rfl] at HO HLEN
            have HLN : Hid ((nextV x V ch N).length ≤ V.length + wt x) := HLEN.out
            have HO : Hid (outs V ch (L.drop k) = (false, nextV x V ch N) :: outs (nextV x V ch N) (ch || decide (x.act = 0)) (L.drop (k + 1))) := HO.out
            have HNV : Hid (nextV x V ch N = if x.act = 2 then N else if x.act = 0 then (if ch = true then V ++ N else N) else V ++ N) := rfl
            rw [hact] at HNV HO
            generalize nextV x V ch N = V1 at HO HLN HNV
            clear hsR hsN hact
            go_upto_region 16 with (go_at_call 35; refine (H.out).mono ?_; rintro e w1 hE; obtain ⟨Aq, cq, rfl, hrq, hfq⟩ := hE.1 N rfl; have hb1 := hE.2.2; have kx1 := cell_kept hb1 HX.out)
            have hb1 : Below wr.heap.size wr w1 := hbX.trans (hb1.mono hbX.size)
            have hit1 := own_kept hit hb1
            have hown1 := own_kept hown hb1
            have hrow1 := rows_below hrow hb1
            have hbel1 := below_step hbel hb1
            have HM1 := Lib.hid (made64 w1)
            have HBM : Hid (Below w1.heap.size w1 (w1.alloc (.cells #[] 2))) := (Below.refl _ _).alloc (Nat.le_refl _) _
            have HRQ := Lib.hid hrq
            have hls := hb1.size
            have hls2 : wr.heap.size < w1.heap.size := by have := World.block_lt_of_cell? w1 _ kx1; simpa using this
            clear HX H hbX hrq
            have hN : N.length ≤ 2147483648 := (HQN.out N rfl)
            have hV : V.length ≤ 1099511627776 := by have := HW.out; omega
            cases ch with
            | true =>
              have HV1 : Hid (V1 = N) := by show _ = _; rw [HNV.out]; simp
              rw [HV1.out] at HO HLN
              clear HNV HV1
              go_wp2_with (first
                | (at_builtin; refine wpList_append_made rfl (.tmp 72) (.tmp 73) 27 rfl w1.heap.size 2 tb (.int .i64 0) 1 8 Tryd.underlying27 gi gz0 gz1 gz2 rfl (by decide) w1.heap.size rfl HM1.out none (([] : List Int)).length 0 (i64s ([] : List Int)) rfl (fun _ => ⟨rfl, rfl⟩) (i64s_len _) (fun ad h => by cases h) i64s_one (by unfold maxLen; first | omega | (simp; done) | (simp; omega)) (by first | omega | (simp; done) | (simp; omega)) (by simp) ?_; intro g2 c2 w2 hown2 hb2; have hb12 := HBM.out.trans hb2; have hls12 := hb12.size)
                | (at_builtin; refine wpList_append_more rfl (.tmp 74) (.tmp 75) 27 rfl w1.heap.size 2 tb (.int .i64 0) 1 8 Tryd.underlying27 gi gz0 gz1 gz2 rfl (by decide) g2 (([] : List Int)).length c2 (i64s ([] : List Int)) rfl hown2 Aq N.length cq (i64s N) rfl (fun h => by subst h; have := none_len (rowAt_below HRQ.out hb12); simpa [i64s] using this) (i64s_len _) (row_news (rowAt_below HRQ.out hb12)) i64s_one (by unfold maxLen; first | omega | (simp; done) | (simp; omega)) (by first | omega | (simp; done) | (simp; omega)) hls12 ?_; intro g3 c3 w3 hown3 hb3; have hb13 := hb12.trans hb3; have kx3 := cell_kept hb13 kx1; have hownO := own_kept hown1 hb13; have hls13 := hb13.size)
                | (at_builtin; refine wpList_append_lies _ rfl (.tmp 83) (.tmp 88) 37 rfl w.heap.size 53 ti _ 2 32 Tryd.underlying37 hi hz0 hz1 hz2 rfl (by decide) _ D.length cs rfl (hownO.alloc _) ⟨w3.heap.size, 0, none⟩ 1 1 [.bool false, .slice (some ⟨g3, 0, none⟩) _ c3] rfl rfl (World.news_of_block (cs := #[.bool false, .slice (some ⟨g3, 0, none⟩) _ c3]) (t := 53) (fr := (0, 0)) (heap_alloc_new w3 _)) (by simp [Value.oneCell']) (by omega) (by unfold maxLen; omega) (by omega) (by have := hbel1.size; simp; omega) _ rfl ?_; intro gg cap2 w4 hown4 hgrow hat hlt4))
              have hrowO := rows_below hrow1 hb13
              have hbelO := below_step hbel1 hb13
              have HIT0 : (w3.ownsRow w.heap.size 2 1 (.slice (some ⟨g3, 0, none⟩) (N).length c3) (N).length (i64s (N))) := by
                have h := own_low (b := w.heap.size) hown3 hbel1.size
                rw [← i64s_append] at h
                simpa using h
              have HIT := Lib.hid HIT0
              clear HIT0
              have HST2 := want_end (V1 := N) (c := c3) (A := some ⟨g3, 0, none⟩) (ch1 := true) HIT.out hownO hrowO hbelO HEQ.out (by have := HO.out; simpa using this) (by have := HW.out; have := HWT.out; have := HLN.out; omega) hdl hgrow (by simpa using hown4) rfl (by simp)
              clear hown4 hgrow hit1 hown1 hrow1 hbel1 hown2 hown3 hrowO hbelO hownO
              go_roundw
              case rel => exact ⟨k + 1, _, true, _, _, _, _, by omega, by go_num, by simp, rfl, HST2⟩
              case measure => simp [intOf]; omega
            | false =>
              have HV1 : Hid (V1 = N) := by show _ = _; rw [HNV.out]; simp
              rw [HV1.out] at HO HLN
              clear HNV HV1
              go_wp2_with (first
                | (at_builtin; refine wpList_append_made rfl (.tmp 72) (.tmp 73) 27 rfl w1.heap.size 2 tb (.int .i64 0) 1 8 Tryd.underlying27 gi gz0 gz1 gz2 rfl (by decide) w1.heap.size rfl HM1.out none (([] : List Int)).length 0 (i64s ([] : List Int)) rfl (fun _ => ⟨rfl, rfl⟩) (i64s_len _) (fun ad h => by cases h) i64s_one (by unfold maxLen; first | omega | (simp; done) | (simp; omega)) (by first | omega | (simp; done) | (simp; omega)) (by simp) ?_; intro g2 c2 w2 hown2 hb2; have hb12 := HBM.out.trans hb2; have hls12 := hb12.size)
                | (at_builtin; refine wpList_append_more rfl (.tmp 74) (.tmp 75) 27 rfl w1.heap.size 2 tb (.int .i64 0) 1 8 Tryd.underlying27 gi gz0 gz1 gz2 rfl (by decide) g2 (([] : List Int)).length c2 (i64s ([] : List Int)) rfl hown2 Aq N.length cq (i64s N) rfl (fun h => by subst h; have := none_len (rowAt_below HRQ.out hb12); simpa [i64s] using this) (i64s_len _) (row_news (rowAt_below HRQ.out hb12)) i64s_one (by unfold maxLen; first | omega | (simp; done) | (simp; omega)) (by first | omega | (simp; done) | (simp; omega)) hls12 ?_; intro g3 c3 w3 hown3 hb3; have hb13 := hb12.trans hb3; have kx3 := cell_kept hb13 kx1; have hownO := own_kept hown1 hb13; have hls13 := hb13.size)
                | (at_builtin; refine wpList_append_lies _ rfl (.tmp 83) (.tmp 88) 37 rfl w.heap.size 53 ti _ 2 32 Tryd.underlying37 hi hz0 hz1 hz2 rfl (by decide) _ D.length cs rfl (hownO.alloc _) ⟨w3.heap.size, 0, none⟩ 1 1 [.bool false, .slice (some ⟨g3, 0, none⟩) _ c3] rfl rfl (World.news_of_block (cs := #[.bool false, .slice (some ⟨g3, 0, none⟩) _ c3]) (t := 53) (fr := (0, 0)) (heap_alloc_new w3 _)) (by simp [Value.oneCell']) (by omega) (by unfold maxLen; omega) (by omega) (by have := hbel1.size; simp; omega) _ rfl ?_; intro gg cap2 w4 hown4 hgrow hat hlt4))
              have hrowO := rows_below hrow1 hb13
              have hbelO := below_step hbel1 hb13
              have HIT0 : (w3.ownsRow w.heap.size 2 1 (.slice (some ⟨g3, 0, none⟩) (N).length c3) (N).length (i64s (N))) := by
                have h := own_low (b := w.heap.size) hown3 hbel1.size
                rw [← i64s_append] at h
                simpa using h
              have HIT := Lib.hid HIT0
              clear HIT0
              have HST2 := want_end (V1 := N) (c := c3) (A := some ⟨g3, 0, none⟩) (ch1 := false) HIT.out hownO hrowO hbelO HEQ.out (by have := HO.out; simpa using this) (by have := HW.out; have := HWT.out; have := HLN.out; omega) hdl hgrow (by simpa using hown4) rfl (by simp)
              clear hown4 hgrow hit1 hown1 hrow1 hbel1 hown2 hown3 hrowO hbelO hownO
              go_roundw
              case rel => exact ⟨k + 1, _, false, _, _, _, _, by omega, by go_num, by simp, rfl, HST2⟩
              case measure => simp [intOf]; omega
      · have HNT := HNT (by simpa using ht)
        have hq : x.act < 0 ∨ 2 < x.act := by
          have h := HTB.out
          have h2 : toldB x = false := by simpa using ht
          rw [h2] at h
          have := of_decide_eq_false h.symm
          omega
        have n0 : (x.act == 0) = false := by simp; omega
        have n1 : (x.act == 1) = false := by simp; omega
        have n2 : (x.act == 2) = false := by simp; omega
        have HAL := fun o => Lib.hid (HST.alloc o HNT.out (by have := HWT.out; omega))
        clear HST HNT HTB ht HO hq H8 HWT
        go_wp2
        go_roundw
        case rel => exact ⟨k + 1, V, ch, D, cs, Ai, ci, by omega, by go_num, rfl, rfl, (HAL _).out⟩
        case measure => simp [intOf]; omega
    · have HK : Hid (outs V0 false L = D) := by
        show _ = _
        have h := HST.eq
        rw [List.drop_eq_nil_of_le (by omega)] at h
        rw [← h]; simp [outs]
      have hrow := HST.rows
      have hbel := HST.bel
      obtain ⟨A', c, rfl, hat⟩ := own_row HST.own
      clear HST
      go_wp2
      go_ret
      rw [HK.out]
      exact ⟨A', c, cs, rfl, hat, hrow, hbel⟩
end Go.Proofs.YtdmpeecocfoocaaDoor.E

namespace Go.Proofs.YtdmpeecocfoocaaDoor.E
open Go.RowKit Go.Proofs
set_option linter.unusedVariables false
set_option linter.unusedSimpArgs false

theorem outs_bound : ∀ (L : List StepL) (V : List Int) (ch : Bool) (r : Bool × List Int), r ∈ outs V ch L → r.2.length ≤ V.length + wts L
  | [], V, ch, r, h => by simp [outs] at h
  | x :: q, V, ch, r, h => by
    have hwt : wts (x :: q) = wt x + wts q := rfl
    by_cases ht : toldB x = true
    · have h1 := outs_told (V := V) (ch := ch) (L := x :: q) (k := 0) (by simp) ht
      simp only [List.drop_zero, List.getElem_cons_zero, List.drop_succ_cons] at h1
      rw [h1, List.mem_cons] at h
      have hl := stepR_len x V ch
      rcases h with rfl | h
      · show (stepR x V ch).2.1.length ≤ _; omega
      · have := outs_bound q _ _ r h; omega
    · have hf : toldB x = false := by simpa using ht
      have h1 := outs_not (V := V) (ch := ch) (L := x :: q) (k := 0) (by simp) hf
      simp only [List.drop_zero, List.drop_succ_cons] at h1
      rw [h1] at h
      have := outs_bound q _ _ r h
      omega
theorem outs_small {L : List StepL} {V : List Int} {ch : Bool} (h : V.length + wts L ≤ 1099511627776) (j : Nat) : (rowD (outs V ch L) j).2.length ≤ 9223372036854775807 := by
  unfold rowD
  rw [List.getD_eq_getElem?_getD]
  cases hj : (outs V ch L)[j]? with
  | none => simp
  | some r =>
    have := outs_bound L V ch r (List.mem_of_getElem? hj)
    simp only [Option.getD_some]; omega

set_option maxRecDepth 100000 in
theorem mkcuts64_any (w : World) : Calls Tryd.prog 16 #[.func (.func 11) #[] #[]] w fun e w' => ∃ a, e = .returned (.func (.func 36) #[] #[.pointer (some a)]) ∧ w'.cell? a = some (.func (.func 11) #[] #[]) ∧ Below w.heap.size w w' := by
  go_enter Tryd.func16, Tryd.ntmps16
  go_wp2
  go_ret
  exact ⟨_, rfl, cell_of_one (heap_alloc_new w _), (Below.refl _ _).alloc (Nat.le_refl _) _⟩

set_option maxRecDepth 100000 in
set_option maxHeartbeats 6400000 in
theorem fnInt64List_any (Ad : Option Addr) (cd : Nat) (V0 : List Int) (A : Option Addr) (cap : Nat) (L : List StepL) (w : World) (hv : IntsIn w Ad cd V0) (hx : StepsAt w A L) (hm : L.length ≤ 9223372036854775807) (hw : V0.length + wts L ≤ 1099511627776) (he1 : ErrCell 0 w) (he2 : ErrCell 1 w) :
    Calls Tryd.prog 4 #[.slice Ad V0.length cd, .slice A L.length cap] w fun e w' => e = .returned (.bool true) ∧ Below w.heap.size w w' := by
  have HF := Lib.hid (fits7_any A cap L w hx hm)
  by_cases hbig : (2147483647 : Int) < (V0.length : Int)
  · clear HF
    go_enter Tryd.func4, Tryd.ntmps4
    go_wp2
    go_ret
    exact ⟨rfl, Below.refl _ _⟩
  · by_cases h7 : fits7 L = true
    · obtain ⟨hm7, hf7⟩ := fits7_iff.1 h7
      have HFB := Lib.hid (fun (w' : World) (hb : Below w.heap.size w w') => int64List_any Ad cd V0 A cap L w' ⟨hv.1, hv.2.1, fun ad h j u hu => cell_kept hb (hv.2.2 ad h j u hu)⟩ (hx.below hb) hm7 hf7 hw (he1.below hb) (he2.below hb))
      have HTL := Lib.hid (fun (w' : World) (hb : Below w.heap.size w w') => told_any A cap L w' (hx.below hb) hm7)
      have HWA := Lib.hid (fun (a : Addr) (w' : World) (hb : Below w.heap.size w w') (ha : w'.cell? a = some (.func (.func 11) #[] #[])) => wants64_any Ad cd V0 A cap L a w' ⟨hv.1, hv.2.1, fun ad h j u hu => cell_kept hb (hv.2.2 ad h j u hu)⟩ (hx.below hb) hm7 hf7 hw ha)
      have HLN : Hid ((outs V0 false L).length = toldN L) := outs_len V0 false L
      have HSM := Lib.hid (fun j => outs_small (ch := false) hw j)
      have HTN : Hid (toldN L ≤ 2147483647) := by show _ ≤ _; have := toldN_le L; omega
      rw [h7] at HF
      have HW0 := Lib.hid hw
      clear hv hx hf7 hw he1 he2 h7 hm7
      generalize outs V0 false L = D at HFB HWA HLN HSM
      rw [← HLN.out] at HTL HTN
      go_enter Tryd.func4, Tryd.ntmps4
      go_wp2_with (first
        | (go_at_call 9; refine (HF.out).mono ?_; rintro e w1 ⟨rfl, hb1⟩)
        | (go_at_call 10; refine (HFB.out w1 hb1).mono ?_; rintro e w2 ⟨A2, c2, cs2, vv2, rfl, hrow2, hlr2, hb2⟩))
      have hb02 := below_step hb1 hb2
      have hlt2 : w2.heap.size < (w2.alloc (.cells #[.slice A2 D.length c2] 30)).heap.size := by simp
      have hP : (w2.alloc (.cells #[.slice A2 D.length c2] 30)).cell? ⟨w2.heap.size, 0, none⟩ = some (.slice A2 D.length c2) := cell_of_one (heap_alloc_new w2 _)
      have hb3 : Below w.heap.size w (w2.alloc (.cells #[.slice A2 D.length c2] 30)) := hb02.alloc hb02.size _
      have hrow3 := rowAt_below hrow2 ((Below.refl _ _).alloc (Nat.le_refl _) (.cells #[.slice A2 D.length c2] 30))
      have hlr3 := rows_alloc hlr2 (.cells #[.slice A2 D.length c2] 30)
      clear hrow2 hlr2 HF HFB
      have hB3 : Below (w2.alloc (.cells #[.slice A2 D.length c2] 30)).heap.size (w2.alloc (.cells #[.slice A2 D.length c2] 30)) (w2.alloc (.cells #[.slice A2 D.length c2] 30)) := Below.refl _ _
      go_region_held3 (fun w' => w'.cell? ⟨w2.heap.size, 0, none⟩ = some (.slice A2 D.length c2)) (first | assumption | go_keep)
        (first
          | (go_at_call 13; refine (HTL.out _ hb3.drew).mono ?_; rintro e w3 ⟨rfl, hb4⟩; have hb04 := below_step hb3.drew hb4; have hP4 := cell_kept hb4 hP; have h33 : Below (w2.alloc (.cells #[.slice A2 D.length c2] 30)).heap.size (w2.alloc (.cells #[.slice A2 D.length c2] 30)) w3 := ((Below.refl _ _).drew).trans hb4)
          | (go_at_call 16; refine (mkcuts64_any _).mono ?_; rintro e w4 ⟨ac, rfl, hac, hb5⟩; have hb05 := below_step hb04 hb5; have hP5 := cell_kept hb5 hP4; have h34 := below_step h33 hb5)
          | (go_at_call 15; refine (HWA.out ac w4 hb05 hac).mono ?_; rintro e w5 ⟨A5, c5, cs5, rfl, hrow5, hlr5, hb6⟩; have hb06 := below_step hb05 hb6; have hP6 := cell_kept hb6 hP5; have h35 := below_step h34 hb6)
          | (go_at_call 14; refine (numbers64_any A5 c5 c2 0 0 A2 ⟨w2.heap.size, 0, none⟩ _ _ D cs5 cs2 w5 hrow5 hlr5 hP6 (rowAt_below hrow3 h35) (rows_below hlr3 h35) HTN.out HSM.out).mono ?_; rintro e w6 ⟨rfl, hb7⟩; have hP7 := cell_kept hb7 hP6))
      all_goals
        go_wp2
        go_ret
        exact ⟨rfl, below_step hb06 hb7⟩
    · have h7 : fits7 L = false := by simpa using h7
      rw [h7] at HF
      clear hv hx hw he1 he2
      go_enter Tryd.func4, Tryd.ntmps4
      go_wp2_with (go_at_call 9; refine (HF.out).mono ?_; rintro e w1 ⟨rfl, hb1⟩)
      go_ret
      exact ⟨rfl, hb1⟩
end Go.Proofs.YtdmpeecocfoocaaDoor.E

namespace Go.Proofs.YtdmpeecocfoocaaDoor.E
open Go.ChangeShapes Go.WideShapes Go.ChangeAt Go.RowKit
set_option linter.unusedVariables false
set_option linter.unusedSimpArgs false

theorem bulk_one {H : Type} (d : DataW H) : 1 ≤ Rows.uptoBulk d := by
  cases d with
  | lit l => cases l <;> simp [Rows.uptoBulk]
  | nil => simp [Rows.uptoBulk]
  | ptr d => simp [Rows.uptoBulk]
  | slice elems spare => simp [Rows.uptoBulk]
  | agg parts => simp [Rows.uptoBulk]
  | iface t d => simp [Rows.uptoBulk]
  | map entries => simp [Rows.uptoBulk]
  | held h => simp [Rows.uptoBulk]
theorem bulk_len {H : Type} : ∀ (l : List (DataW H)), l.length ≤ Rows.uptoBulkAll l
  | [] => by simp [Rows.uptoBulkAll]
  | d :: r => by have := bulk_one d; have := bulk_len r; simp only [Rows.uptoBulkAll, List.length_cons]; omega
theorem bulk_append {H : Type} : ∀ (l r : List (DataW H)), Rows.uptoBulkAll (l ++ r) = Rows.uptoBulkAll l + Rows.uptoBulkAll r
  | [], r => by simp [Rows.uptoBulkAll]
  | x :: l, r => by simp only [List.cons_append, Rows.uptoBulkAll, bulk_append l r]; omega

/-- A list of integers that came in. -/
theorem open_ints64 {H : Type} {enc : TypeId × Value → H} {P : Program} {W : World} {base : Nat} {t e : TypeId} {v : Value} {d : DataW H} {p : List MemPlace}
    (ht : P.underlying t = some (.slice e)) (he : P.underlying e = some (.int .i64)) (hc : P.cellsOf e = 1) (hok : Value.okWide P W .any base t v)
    (h : DataW.Trod enc P W 0 (fun _ => true) true t v d p) : ∃ V A c, v = .slice A V.length c ∧ IntsIn W A c V ∧ V.length ≤ Rows.uptoBulk d := by
  obtain ⟨a0, len, cap, rfl⟩ := okWide_slice ht hok
  obtain ⟨fuel, hf⟩ := h
  rcases open_ints ht he hc hf with ⟨hcs, hx⟩ | ⟨a, len', cap', zs, hcs, _, hl, hm, hz, hx, hcell, hwz⟩
  · simp [Value.cells] at hcs
    obtain ⟨rfl, rfl, rfl⟩ := hcs
    exact ⟨[], none, 0, rfl, ⟨fun _ => ⟨rfl, rfl⟩, by simp, fun ad h => by cases h⟩, by simp⟩
  · simp [Value.cells] at hcs
    obtain ⟨rfl, rfl, rfl⟩ := hcs
    simp only [if_true] at hz
    have hn : (zs.take len).length = len := by rw [List.length_take]; omega
    refine ⟨zs.take len, some a, cap, by rw [hn], ⟨(fun h => by cases h), by rw [hn]; exact hl, ?_⟩, ?_⟩
    · intro ad had j u hu
      obtain rfl := Option.some.inj had
      have hj : j < len := by
        have := (List.getElem?_eq_some_iff.1 hu).1
        simp [i64s] at this
        omega
      have hj2 : j < zs.length := by omega
      rw [hcell j hj2]
      have e1 : (i64s (zs.take len))[j]? = some (.int .i64 zs[j]) := by
        unfold i64s
        rw [List.getElem?_map, List.getElem?_take, if_pos hj, List.getElem?_eq_getElem hj2]; rfl
      rw [e1] at hu
      rw [← hu]
      simp [List.getD, hj2]
    · have e1 := congrArg Prod.fst hx
      simp only at e1
      rw [e1, hn]
      simp only [Rows.uptoBulk]
      have := bulk_len (H := H) (lits .i64 (zs.take len))
      simp only [lits, List.length_map, hn] at this
      simp only [lits]
      omega

theorem texts_of_trod2 {H : Type} {enc : TypeId × Value → H} {P : Program} {W : World} {t e : TypeId} {fuel : Nat} {cs : List Value} {x : DataW H × List MemPlace}
    (ht : P.underlying t = some (.slice e)) (he : P.underlying e = some .string) (hc : P.cellsOf e = 1) (h : DataW.trod enc P W 0 (fun _ => true) true fuel t cs = some x) :
    ∃ v xs, cs = [v] ∧ Texts W v xs ∧ xs.length + 1 ≤ Rows.uptoBulk x.1 := by
  rcases open_strings ht he hc h with ⟨hcs, hx⟩ | ⟨a, len', cap', zs, hcs, _, hl, hm, hz, hx, hcell, hwz⟩
  · exact ⟨_, [], hcs, Texts.nil W, by simp [bulk_one]⟩
  · simp only [if_true] at hz
    unfold maxLen at hm
    have hn : (zs.take len').length = len' := by rw [List.length_take]; omega
    refine ⟨_, zs.take len', hcs, ⟨some a, cap', by rw [hn], ?_, by rw [hn]; omega, by omega, fun h => by cases h⟩, ?_⟩
    · intro i hi
      rw [hn] at hi
      obtain ⟨b, o, spot⟩ := a
      have hc := hcell i (by omega)
      obtain rfl : spot = none := by simpa [Addr.add] using World.cell?_spot (hcell 0 (by omega))
      refine ⟨b, o, rfl, ?_⟩
      rw [Addr.add_mid] at hc
      rw [hc]
      simp only [tx, List.getD_eq_getElem?_getD, List.getElem?_take]
      rw [if_pos hi]
    · have e1 := congrArg Prod.fst hx
      simp only at e1
      rw [e1, hn]
      simp only [Rows.uptoBulk]
      have := bulk_len (H := H) (strs (zs.take len'))
      simp only [strs, List.length_map, hn] at this
      simp only [strs]
      omega

theorem wts_le {H : Type} : ∀ (L : List StepL) (ds : List (DataW H)), ds.length = L.length → (∀ i (h : i < L.length) d, ds[i]? = some d → wt L[i] ≤ Rows.uptoBulk d) → wts L ≤ Rows.uptoBulkAll ds
  | [], ds, hl, h => by simp [wts]
  | x :: r, [], hl, h => by simp at hl
  | x :: r, d :: ds, hl, h => by
    have h0 := h 0 (by simp) d rfl
    have h1 := wts_le r ds (by simpa using hl) (fun i hi d' hd => by have := h (i + 1) (by simpa using hi) d' (by simpa using hd); simpa using this)
    simp only [wts, Rows.uptoBulkAll]
    simp at h0
    omega

/-- A list of steps that came in. -/
theorem open_steps2 {H : Type} {enc : TypeId × Value → H} {P : Program} {W : World} {base : Nat} {t e es : TypeId} {v : Value} {d : DataW H} {p : List MemPlace} {f0 f1 f2 : Field}
    (ht : P.underlying t = some (.slice e)) (he : P.underlying e = some (.struct #[f0, f1, f2])) (h3 : P.cellsOf e = 3)
    (o0 : f0.offset = 0) (o1 : f1.offset = 1) (o2 : f2.offset = 2) (c0 : P.cellsOf f0.type = 1) (c1 : P.cellsOf f1.type = 1) (c2 : P.cellsOf f2.type = 1)
    (u0 : P.underlying f0.type = some (.int .i64)) (u1 : P.underlying f1.type = some .string) (u2 : P.underlying f2.type = some (.slice es)) (us : P.underlying es = some .string) (hcs : P.cellsOf es = 1)
    (hok : Value.okWide P W .any base t v) (h : DataW.Trod enc P W 0 (fun _ => true) true t v d p) :
    ∃ (L : List StepL) (A : Option Addr) (cap : Nat), v = .slice A L.length cap ∧ StepsAt W A L ∧ L.length ≤ cap ∧ cap ≤ 9223372036854775807 ∧ wts L ≤ Rows.uptoBulk d := by
  obtain ⟨A0, len, cap, rfl⟩ := okWide_slice ht hok
  obtain ⟨fuel, hf⟩ := h
  rcases DataW.trod_slice ht hf with ⟨hc, hx⟩ | ⟨a, len', cap', elems, rest, n, _, hc, hxx, hb, hl, hm, hlen, hel, _, _⟩
  · simp [Value.cells] at hc
    obtain ⟨rfl, rfl, rfl⟩ := hc
    exact ⟨[], none, 0, rfl, fun i hi => by simp at hi, by simp, by simp, by simp [wts]⟩
  · simp [Value.cells] at hc
    obtain ⟨rfl, rfl, rfl⟩ := hc
    have each : ∀ i, i < len → ∃ s : StepL, ∃ v, W.cell? (a.add (i * 3)) = some (.int .i64 s.act) ∧ W.cell? ((a.add (i * 3)).add 1) = some (.string s.text) ∧ W.cell? ((a.add (i * 3)).add 2) = some v ∧ Texts W v s.texts ∧ ∀ pr, elems[i]? = some pr → wt s ≤ Rows.uptoBulk pr.1 := by
      intro i hi
      have hi2 := hel i hi
      rw [h3, List.getElem?_eq_getElem (by omega), Option.bind_eq_some_iff] at hi2
      obtain ⟨cs', hcs', htr⟩ := hi2
      obtain ⟨xs, m, _, hx1, hl1, hl2, hfl⟩ := DataW.trod_struct he htr
      obtain ⟨hb1, hl3, hcell⟩ := World.cells?_some hcs'
      have y0 := hfl 0 f0 rfl
      have y1 := hfl 1 f1 rfl
      have y2 := hfl 2 f2 rfl
      rw [o0, c0] at y0
      rw [o1, c1] at y1
      rw [o2, c2] at y2
      have hxl : xs.length = 3 := by simpa using hl2
      obtain ⟨p0, p1, p2, rfl⟩ : ∃ p0 p1 p2, xs = [p0, p1, p2] := by
        match xs, hxl with
        | [p0, p1, p2], _ => exact ⟨p0, p1, p2, rfl⟩
      obtain ⟨q0, q1, q2, rfl⟩ : ∃ q0 q1 q2, cs' = [q0, q1, q2] := by
        match cs', hl3 with
        | [q0, q1, q2], _ => exact ⟨q0, q1, q2, rfl⟩
      simp only [List.drop_zero, List.drop_succ_cons, List.take_succ_cons, List.take_zero, List.getElem?_cons_zero, List.getElem?_cons_succ] at y0 y1 y2
      obtain ⟨k, e0, g0, _⟩ := DataW.trod_int u0 y0
      obtain ⟨s, e1, g1, _⟩ := DataW.trod_string u1 y1
      obtain ⟨v, zs, e2, hz, hbz⟩ := texts_of_trod2 u2 us hcs y2
      simp only [List.cons.injEq, and_true] at e0 e1 e2
      subst e0 e1 e2
      refine ⟨⟨k, s, zs⟩, _, ?_, ?_, ?_, hz, ?_⟩
      · have := hcell 0 (by omega)
        rw [show (a.add (i * 3)).add 0 = a.add (i * 3) by simp [Addr.add]] at this
        simpa using this
      · have := hcell 1 (by omega); simpa using this
      · have := hcell 2 (by omega); simpa using this
      · intro pr hpr
        rw [List.getElem?_eq_getElem (by omega)] at hpr
        have hpr := Option.some.inj hpr
        rw [hpr] at hx1
        rw [hx1]
        subst g0 g1
        simp only [List.map_cons, List.map_nil, Rows.uptoBulk, Rows.uptoBulkAll, wt]
        have : s.data.toList.length = s.size := by simp
        omega
    obtain ⟨L, hL, hQ⟩ := list_of_each len each
    refine ⟨L, some a, cap, by rw [hL], ?_, by rw [hL]; exact hl, by unfold maxLen at hm; omega, ?_⟩
    · intro i hi
      obtain ⟨v, k0, k1, k2, k3, _⟩ := hQ i hi
      obtain ⟨vz, z0, _⟩ := hQ 0 (by omega)
      obtain ⟨b, o, spot⟩ := a
      obtain rfl : spot = none := by simpa [Addr.add] using World.cell?_spot z0
      rw [Addr.add_mid] at k0 k1 k2
      rw [Addr.add_mid] at k1 k2
      exact ⟨b, o, v, rfl, k0, k1, k2, k3⟩
    · have e1 := congrArg Prod.fst hxx
      simp only at e1
      rw [e1]
      simp only [Rows.uptoBulk]
      have := wts_le (H := H) L (elems.map (·.1)) (by simp [hlen, hL]) (fun i hi d' hd => by
        obtain ⟨v, _, _, _, _, hw⟩ := hQ i hi
        rw [List.getElem?_map] at hd
        cases he2 : elems[i]? with
        | none => rw [he2] at hd; cases hd
        | some pr => rw [he2] at hd; cases hd; exact hw pr he2)
      omega
end Go.Proofs.YtdmpeecocfoocaaDoor.E
