/- laws.wants29 over lists of integers, over this seat's program. Written by gen_il4.py. -/
import Derived.Test.YtdmpeecocfoocaaDoorJl1
import Derived.Test.YtdmpeecocfoocaaDoorRows
import Derived.Test.YtdmpeecocfoocaaDoorRow
namespace Go.Proofs.YtdmpeecocfoocaaDoor.E
open Go.RowKit Go.Proofs
set_option linter.unusedVariables false
set_option linter.unusedSimpArgs false
theorem Tryd.infoW2 : (Tryd.prog.info? 53).map (fun i => (i.zero, i.size, i.bytes)) = some (some (.agg #[.bool false, .slice none 0 0]), 2, 32) := by kernel_rfl

/-- Append of a list that lies anywhere, nil or not, to a list of the call's own that is not nil. -/
theorem wpList_append_more {P : Program} {w : World} {ops : Array Oper} {rest : List Oper} {o : Oper} {a : Act} {Q : Exit → Act → World → Prop} (hgd : o.guard = none) (s x : Operand) (t : TypeId)
    (ho : o.op = .call { callee := .builtin .append, args := #[s, x], argTypes := #[t, t] })
    (base : Nat) (e : TypeId) (i : TypeInfo) (z : Value) (size bytes : Nat) (ht : P.underlying t = some (.slice e)) (hi : P.info? e = some i) (hz : i.zero = some z)
    (hsize : i.size = size) (hby : i.bytes = bytes) (hzs : z.cells.size = size) (hsz : 0 < size)
    (b n k : Nat) (xs : List Value) (hs : a.eval s = .slice (some ⟨b, 0, none⟩) n k) (hown : w.ownsRow base e size (.slice (some ⟨b, 0, none⟩) n k) n xs)
    (A : Option Addr) (m c : Nat) (news : List Value) (hx : a.eval x = .slice A m c) (hA : A = none → m = 0) (hl : news.length = m * size)
    (hnews : ∀ ad, A = some ad → ∀ j u, news[j]? = some u → w.cell? (ad.add j) = some u) (h1 : ∀ u ∈ news, u.oneCell' = true)
    (h63 : n + m ≤ maxLen) (hbytes : (n + m) * bytes ≤ 140737488355328) (hbase : base ≤ w.heap.size)
    (h : ∀ g c' w', w'.ownsRow base e size (.slice (some ⟨g, 0, none⟩) (n + m) c') (n + m) (xs ++ news) → Below base w w' → wpList P ops Q rest (a.put o.dst (.slice (some ⟨g, 0, none⟩) (n + m) c')) w') : wpList P ops Q (o :: rest) a w := by
  cases A with
  | none =>
    obtain rfl := hA rfl
    have hn : news = [] := by apply List.eq_nil_of_length_eq_zero; simpa using hl
    subst hn
    have hrun : (Builtin.append_ #[t, t] o.type #[.slice (some ⟨b, 0, none⟩) n k, .slice none 0 c]).run P w = .ok (.slice (some ⟨b, 0, none⟩) n k) w := by
      rcases hown.2 with ⟨h1, _⟩ | ⟨g, cap, cur, hv, _, _, hnc, _⟩
      · cases h1
      · cases hv
        simp [Builtin.append_, run_underlying ht, sizeOf, typeInfo, hi, Builtin.lenOf, Builtin.firstCells, hnc, storeCells]
    refine wpList_plain hgd fun K hK => ?_
    unfold Oper.wp
    simp [execOp, ho, resolve, invoke, builtin, hs, hx, hrun, Result.andThen]
    exact hK _ _ (h b k w (by simpa using hown) (Below.refl _ _))
  | some ad =>
    refine wpList_append_own_at w hgd s x t ho base e i z size bytes ht hi hz hsize hby hzs hsz _ n xs hs hown ad m c news hx hl (hnews ad rfl) h1 h63 hbytes hbase (fun v' w' h2 h3 h4 _ => ?_)
    have hbw := (Below.refl base w).grown h3 hbase (fun k hk => (hown.lt k hk).1)
    rcases h2.2 with ⟨hv, _⟩ | ⟨g, cap, cur, hv, _⟩
    · have := (h4.1 hv).1
      cases this
    · subst hv
      exact h g cap w' h2 hbw

theorem own_row0 {w : World} {base : Nat} {e : TypeId} {size : Nat} {A : Option Addr} {c n : Nat} {xs : List Value} (h : w.ownsRow base e size (.slice A n c) n xs) : A = none → n = 0 ∧ c = 0 := by
  rintro rfl
  rcases h.2 with ⟨h1, h2⟩ | ⟨g, cap, cur, hv, _⟩
  · cases h1; exact ⟨rfl, rfl⟩
  · cases hv
theorem made64 (w : World) : (w.alloc (.cells #[] 2)).ownsRow w.heap.size 2 1 (.slice (some ⟨w.heap.size, 0, none⟩) 0 0) 0 [] := World.ownsRow_made (base := w.heap.size) (e := 2) (size := 1) w #[] 0 (Nat.le_refl _) (Nat.zero_le _) rfl
theorem i64s_append (a b : List Int) : i64s (a ++ b) = i64s a ++ i64s b := by simp [i64s]

/-- How it stands ahead of a round. -/
structure WSt (w wr : World) (V0 : List Int) (L : List StepL) (k : Nat) (V : List Int) (ch : Bool) (D : List (Bool × List Int)) (cs : List Value) (A : Option Addr) (c : Nat) (u11 : Value) : Prop where
  it : wr.ownsRow w.heap.size 2 1 (.slice A V.length c) V.length (i64s V)
  own : wr.ownsRow w.heap.size 53 2 u11 D.length cs
  rows : ListRows wr 0 2 (.slice none 0 0) D cs
  eq : D ++ outs V ch (L.drop k) = outs V0 false L
  len : V.length + wts (L.drop k) ≤ 1099511627776
  dl : D.length ≤ k
  bel : Below w.heap.size w wr
theorem WSt.alloc {w wr : World} {V0 : List Int} {L : List StepL} {k : Nat} {V : List Int} {ch : Bool} {D : List (Bool × List Int)} {cs : List Value} {A : Option Addr} {c : Nat} {u11 : Value} (h : WSt w wr V0 L k V ch D cs A c u11) (o : Obj) (h1 : outs V ch (L.drop k) = outs V ch (L.drop (k + 1))) (h2 : wts (L.drop (k + 1)) ≤ wts (L.drop k)) : WSt w (wr.alloc o) V0 L (k + 1) V ch D cs A c u11 :=
  ⟨h.it.alloc o, h.own.alloc o, rows_alloc h.rows o, by rw [← h1]; exact h.eq, by have := h.len; omega, by have := h.dl; omega, h.bel.alloc h.bel.size o⟩
theorem want_end {w w3 w4 : World} {o : Obj} {V0 : List Int} {L : List StepL} {k : Nat} {V V1 : List Int} {ch ch1 bad : Bool} {D : List (Bool × List Int)} {cs us : List Value} {A : Option Addr} {c : Nat} {u11 u : Value}
    (hit : w3.ownsRow w.heap.size 2 1 (.slice A V1.length c) V1.length (i64s V1)) (hown : w3.ownsRow w.heap.size 53 2 u11 D.length cs) (hrow : ListRows w3 0 2 (.slice none 0 0) D cs) (hbel : Below w.heap.size w w3)
    (heq : D ++ outs V ch (L.drop k) = outs V0 false L) (ho : outs V ch (L.drop k) = (bad, V1) :: outs V1 ch1 (L.drop (k + 1))) (hlen : V1.length + wts (L.drop (k + 1)) ≤ 1099511627776) (hdl : D.length ≤ k)
    (hgrow : (w3.alloc o).grownBy w4 u11.ownBlock) (hown4 : w4.ownsRow w.heap.size 53 2 u (D.length + 1) (cs ++ us)) (hu0 : us[0]? = some (.bool bad)) (hu1 : us[1]? = some (.slice A V1.length c)) :
    WSt w w4 V0 L (k + 1) V1 ch1 (D ++ [(bad, V1)]) (cs ++ us) A c u := by
  have hkeep : ∀ {base : Nat} {v : Value} {n : Nat} {ys : List Value}, w3.ownsRow base 2 1 v n ys → w4.ownsRow base 2 1 v n ys := fun h => (h.alloc o).kept hgrow (own_apart h hown (by decide))
  refine ⟨hkeep hit, by rw [List.length_append]; exact hown4, ?_, by rw [List.append_assoc, ← heq, ho]; rfl, hlen, by simp; omega, (hbel.alloc hbel.size _).grown hgrow (by have := hbel.size; simp; omega) (fun k hk => (hown.lt k hk).1)⟩
  refine ListRows.snoc (hrow.kept fun x n ys h hx => ⟨hkeep h, hx⟩) (by omega) hown.1 (bad, V1) hu0 hu1 (own_zero (hkeep hit)) ?_
  cases h : (Value.slice A V1.length c).ownBlock with
  | none => exact .inl rfl
  | some g => exact .inr (by simp [Value.ownBlock])
theorem none_len {w : World} {cs : List Value} (h : RowAt w none cs) : cs.length = 0 := by
  cases cs with
  | nil => rfl
  | cons u r => obtain ⟨g, e, _⟩ := h 0 u rfl; cases e
def WantTold (D : List (Bool × List Int)) (w : World) (e : Ending) (w' : World) : Prop := ∃ A c cs, e = .returned (.slice A D.length c) ∧ RowAt w' A cs ∧ ListRows w' 0 2 (.slice none 0 0) D cs ∧ Below w.heap.size w w'
theorem stepR_some {x : StepL} {N V : List Int} {ch : Bool} (h : stepQ x = some (some N)) : stepR x V ch = (false, nextV x V ch N, ch || decide (x.act = 0)) := by unfold stepR; rw [h]
theorem stepR_none {x : StepL} {V : List Int} {ch : Bool} (h : stepQ x = some none) : stepR x V ch = (true, V, ch) := by unfold stepR; rw [h]
theorem strs_one {w : World} {b : Nat} {t : ByteArray} (h : w.cell? ⟨b, 0, none⟩ = some (.string t)) : StrsAt w (some ⟨b, 0, none⟩) [t] := by
  intro i hi
  have : i = 0 := by simp at hi; omega
  subst this
  exact ⟨b, 0, rfl, h⟩

set_option maxRecDepth 100000 in
set_option maxHeartbeats 12800000 in
theorem wants64_any (Ad : Option Addr) (cd : Nat) (V0 : List Int) (A : Option Addr) (cap : Nat) (L : List StepL) (a : Addr) (w : World) (hv : IntsIn w Ad cd V0) (hx : StepsAt w A L) (hm : L.length ≤ 2147483647) (hf : ∀ j (h : j < L.length), fits8 L[j] = true) (hw : V0.length + wts L ≤ 1099511627776) (ha : w.cell? a = some (.func (.func 21) #[] #[])) :
    Calls Tryd.prog 15 #[.slice Ad V0.length cd, .slice A L.length cap, .func (.func 36) #[] #[.pointer (some a)], .func (.func 21) #[] #[]] w (WantTold (outs V0 false L) w) := by
  obtain ⟨ti, hi, hz0, hz1, hz2⟩ := info_parts Tryd.infoW2
  obtain ⟨tb, gi, gz0, gz1, gz2⟩ := info_parts Tryd.infoI64
  have HF := Lib.hid hf
  have HV := Lib.hid hv
  have HCA := Lib.hid ha
  have HW : Hid (V0.length + wts (L.drop 0) ≤ 1099511627776) := by show _ ≤ _; rw [List.drop_zero]; exact hw
  have hV0 : V0.length ≤ 1099511627776 := by omega
  have HMADE := Lib.hid (made64 w)
  have HB0 : Hid (Below w.heap.size w (w.alloc (.cells #[] 2))) := (Below.refl _ _).alloc (Nat.le_refl _) _
  clear hf hv hw ha
  go_enter Tryd.func15, Tryd.ntmps15
  go_wp2_with (at_builtin; refine wpList_append_made rfl (.tmp 16) (.tmp 17) 27 rfl w.heap.size 2 tb (.int .i64 0) 1 8 Tryd.underlying27 gi gz0 gz1 gz2 rfl (by decide) w.heap.size rfl HMADE.out Ad V0.length cd (i64s V0) rfl HV.out.1 (i64s_len V0) (fun ad hA j u hu => cell_kept HB0.out (HV.out.2.2 ad hA j u hu)) i64s_one (by unfold maxLen; omega) (by omega) (by simp) ?_; intro g0 c0 w0 hown0 hbel0)
  have HST0 : WSt w w0 V0 L 0 V0 false [] [] (some ⟨g0, 0, none⟩) c0 (.slice none 0 0) := ⟨hown0, World.ownsRow_nil _ _ _ _, ListRows.nil _ _ _ _, by simp, HW.out, Nat.le_refl _, HB0.out.trans hbel0⟩
  clear hown0 hbel0 HMADE HB0 HW HV
  go_loopw [9, 10, 11, 21] (fun u9 u10 u11 i wr => ∃ (k : Nat) (V : List Int) (ch : Bool) (D : List (Bool × List Int)) (cs : List Value) (Ai : Option Addr) (ci : Nat), k ≤ L.length ∧ i = .int .i64 k ∧ u9 = .slice Ai V.length ci ∧ u10 = .bool ch ∧ WSt w wr V0 L k V ch D cs Ai ci u11) (fun _ _ _ i _ => L.length - (intOf i).toNat)
  case atStart => exact ⟨0, V0, false, [], [], _, _, Nat.zero_le _, rfl, rfl, rfl, HST0⟩
  case round =>
    clear HST0
    obtain ⟨k, V, ch, D, cs, Ai, ci, hk, rfl, rfl, rfl, HST⟩ := hrel
    by_cases hlt : k < L.length
    · obtain ⟨b, o, v, rfl, h0, h1, h2, h3⟩ := hx k hlt
      have hbel := HST.bel
      have hB := hbel.size
      have h3 := h3.below hbel
      have c0 := cell_kept hbel h0
      have c1 := cell_kept hbel h1
      have c2 := cell_kept hbel h2
      obtain ⟨At, ct, rfl, hst0, hle, hcap, hnone⟩ := h3
      have i0 : (0 : Int) ≤ (k : Int) := Int.natCast_nonneg _
      have i1 : (k : Int) < (L.length : Int) := by omega
      have HO := fun ht => Lib.hid (outs_told (V := V) (ch := ch) hlt ht)
      have HNT := fun ht => Lib.hid (outs_not (V := V) (ch := ch) hlt ht)
      have HWT := Lib.hid (wts_drop hlt)
      have H8 := Lib.hid (fits8_iff.1 (HF.out k hlt))
      have HTB : Hid (toldB L[k] = decide (0 ≤ L[k].act ∧ L[k].act ≤ 2)) := rfl
      clear h0 h1 h2
      generalize L[k] = x at c0 c1 c2 HO HNT HWT H8 hst0 hle HTB ⊢
      by_cases ht : toldB x = true
      · have HO := HO ht
        have HLEN := Lib.hid (stepR_len x V ch)
        have hact : x.act = 0 ∨ x.act = 1 ∨ x.act = 2 := by have := HTB.out; rw [ht] at this; have := of_decide_eq_true this.symm; omega
        have hit := HST.it
        have hown := HST.own
        have hrow := HST.rows
        have HEQ := Lib.hid HST.eq
        have HW := Lib.hid HST.len
        have hdl := HST.dl
        clear HST HNT HTB ht
        rcases hact with hact | hact | hact
        · rw [hact] at c0
          have hbX : Below wr.heap.size wr (wr.alloc (.cells #[.int .i64 0, .string x.text, .slice At x.texts.length ct] 67)) := (Below.refl _ _).alloc (Nat.le_refl _) _
          have HX : Hid ((wr.alloc (.cells #[.int .i64 0, .string x.text, .slice At x.texts.length ct] 67)).cell? ⟨wr.heap.size, 0, none⟩ = some (.int .i64 0)) := cell_of_row _ _ 0 _ _ _ (heap_alloc_new wr _)
          have H := Lib.hid (cuts64_any x.text H8.out.1 a _ (cell_kept (below_step hbel hbX) HCA.out))
          have hsq : stepQ x = some (nums64 (partsT x.text)) := by unfold stepQ; simp [hact]
          have hsR := fun N (h : nums64 (partsT x.text) = some N) => stepR_some (V := V) (ch := ch) (hsq.trans (by rw [h]))
          have hsN := fun (h : nums64 (partsT x.text) = none) => stepR_none (V := V) (ch := ch) (hsq.trans (by rw [h]))
          have HQN : Hid (∀ N, nums64 (partsT x.text) = some N → N.length ≤ 2147483648) := fun N h => by have := nums64_len _ _ h; have := partsT_len x.text; have := H8.out.1; omega
          generalize nums64 (partsT x.text) = q at H hsR hsN HQN
          clear hsq
          cases q with
          | none =>
            rw [hsN rfl] at HO HLEN
            have HO : Hid (outs V ch (L.drop k) = (true, V) :: outs V ch (L.drop (k + 1))) := HO.out
            clear hsR hsN hact
            go_upto_region 16 with (go_at_call 36; refine (H.out).mono ?_; rintro e w1 hE; obtain rfl := hE.2.1 rfl; have hb1 := hE.2.2)
            have hb1 : Below wr.heap.size wr w1 := hbX.trans (hb1.mono hbX.size)
            have hit1 := own_kept hit hb1
            have hown1 := own_kept hown hb1
            have hrow1 := rows_below hrow hb1
            have hbel1 := below_step hbel hb1
            clear HX H hbX
            go_wp2_with (at_builtin; refine wpList_append_lies _ rfl (.tmp 83) (.tmp 88) 37 rfl w.heap.size 53 ti _ 2 32 Tryd.underlying37 hi hz0 hz1 hz2 rfl (by decide) _ D.length cs rfl (hown1.alloc _) ⟨w1.heap.size, 0, none⟩ 1 1 [.bool true, .slice Ai V.length ci] rfl rfl (World.news_of_block (cs := #[.bool true, .slice Ai V.length ci]) (t := 53) (fr := (0, 0)) (heap_alloc_new w1 _)) (by simp [Value.oneCell']) (by omega) (by unfold maxLen; omega) (by omega) (by have := hbel1.size; simp; omega) _ rfl ?_; intro gg cap2 w4 hown4 hgrow hat hlt4)
            have HST2 := want_end hit1 hown1 hrow1 hbel1 HEQ.out HO.out (by have := HW.out; have := HWT.out; omega) hdl hgrow hown4 rfl rfl
            clear hown4 hgrow hit1 hown1 hrow1 hbel1
            go_roundw
            case rel => exact ⟨k + 1, V, ch, _, _, Ai, ci, by omega, by go_num, rfl, rfl, HST2⟩
            case measure => simp [intOf]; omega
          | some N =>
            rw [hsR N rfl] at HO HLEN
            have HLN : Hid ((nextV x V ch N).length ≤ V.length + wt x) := HLEN.out
            have HO : Hid (outs V ch (L.drop k) = (false, nextV x V ch N) :: outs (nextV x V ch N) (ch || decide (x.act = 0)) (L.drop (k + 1))) := HO.out
            have HNV : Hid (nextV x V ch N = if x.act = 2 then N else if x.act = 0 then (if ch = true then V ++ N else N) else V ++ N) := rfl
            rw [hact] at HNV HO
            generalize nextV x V ch N = V1 at HO HLN HNV
            clear hsR hsN hact
            go_upto_region 16 with (go_at_call 36; refine (H.out).mono ?_; rintro e w1 hE; obtain ⟨Aq, cq, rfl, hrq, hfq⟩ := hE.1 N rfl; have hb1 := hE.2.2; have kx1 := cell_kept hb1 HX.out)
            have hb1 : Below wr.heap.size wr w1 := hbX.trans (hb1.mono hbX.size)
            have hit1 := own_kept hit hb1
            have hown1 := own_kept hown hb1
            have hrow1 := rows_below hrow hb1
            have hbel1 := below_step hbel hb1
            have HM1 := Lib.hid (made64 w1)
            have HBM : Hid (Below w1.heap.size w1 (w1.alloc (.cells #[] 2))) := (Below.refl _ _).alloc (Nat.le_refl _) _
            have HRQ := Lib.hid hrq
            have hls := hb1.size
            have hls2 : wr.heap.size < w1.heap.size := by have := World.block_lt_of_cell? w1 _ kx1; simpa using this
            clear HX H hbX hrq
            have hN : N.length ≤ 2147483648 := (HQN.out N rfl)
            have hV : V.length ≤ 1099511627776 := by have := HW.out; omega
            cases ch with
            | true =>
              have HV1 : Hid (V1 = (V ++ N)) := by show _ = _; rw [HNV.out]; simp
              rw [HV1.out] at HO HLN
              clear HNV HV1
              go_wp2_with (first
                | (at_builtin; refine wpList_append_made rfl (.tmp 72) (.tmp 73) 27 rfl w1.heap.size 2 tb (.int .i64 0) 1 8 Tryd.underlying27 gi gz0 gz1 gz2 rfl (by decide) w1.heap.size rfl HM1.out Ai (V).length ci (i64s V) rfl (own_row0 hit1) (i64s_len _) (fun ad h j u hu => cell_kept HBM.out (row_news (own_row_at hit1) ad h j u hu)) i64s_one (by unfold maxLen; first | omega | (simp; done) | (simp; omega)) (by first | omega | (simp; done) | (simp; omega)) (by simp) ?_; intro g2 c2 w2 hown2 hb2; have hb12 := HBM.out.trans hb2; have hls12 := hb12.size)
                | (at_builtin; refine wpList_append_more rfl (.tmp 74) (.tmp 75) 27 rfl w1.heap.size 2 tb (.int .i64 0) 1 8 Tryd.underlying27 gi gz0 gz1 gz2 rfl (by decide) g2 (V).length c2 (i64s V) rfl hown2 Aq N.length cq (i64s N) rfl (fun h => by subst h; have := none_len (rowAt_below HRQ.out hb12); simpa [i64s] using this) (i64s_len _) (row_news (rowAt_below HRQ.out hb12)) i64s_one (by unfold maxLen; first | omega | (simp; done) | (simp; omega)) (by first | omega | (simp; done) | (simp; omega)) hls12 ?_; intro g3 c3 w3 hown3 hb3; have hb13 := hb12.trans hb3; have kx3 := cell_kept hb13 kx1; have hownO := own_kept hown1 hb13; have hls13 := hb13.size)
                | (at_builtin; refine wpList_append_lies _ rfl (.tmp 83) (.tmp 88) 37 rfl w.heap.size 53 ti _ 2 32 Tryd.underlying37 hi hz0 hz1 hz2 rfl (by decide) _ D.length cs rfl (hownO.alloc _) ⟨w3.heap.size, 0, none⟩ 1 1 [.bool false, .slice (some ⟨g3, 0, none⟩) _ c3] rfl rfl (World.news_of_block (cs := #[.bool false, .slice (some ⟨g3, 0, none⟩) _ c3]) (t := 53) (fr := (0, 0)) (heap_alloc_new w3 _)) (by simp [Value.oneCell']) (by omega) (by unfold maxLen; omega) (by omega) (by have := hbel1.size; simp; omega) _ rfl ?_; intro gg cap2 w4 hown4 hgrow hat hlt4))
              have hrowO := rows_below hrow1 hb13
              have hbelO := below_step hbel1 hb13
              have HIT0 : (w3.ownsRow w.heap.size 2 1 (.slice (some ⟨g3, 0, none⟩) ((V ++ N)).length c3) ((V ++ N)).length (i64s ((V ++ N)))) := by
                have h := own_low (b := w.heap.size) hown3 hbel1.size
                rw [← i64s_append] at h
                simpa using h
              have HIT := Lib.hid HIT0
              clear HIT0
              have HST2 := want_end (V1 := (V ++ N)) (c := c3) (A := some ⟨g3, 0, none⟩) (ch1 := true) HIT.out hownO hrowO hbelO HEQ.out (by have := HO.out; simpa using this) (by have := HW.out; have := HWT.out; have := HLN.out; omega) hdl hgrow (by simpa using hown4) rfl (by simp)
              clear hown4 hgrow hit1 hown1 hrow1 hbel1 hown2 hown3 hrowO hbelO hownO
              go_roundw
              case rel => exact ⟨k + 1, _, true, _, _, _, _, by omega, by go_num, by simp, rfl, HST2⟩
              case measure => simp [intOf]; omega
            | false =>
              have HV1 : Hid (V1 = N) := by show _ = _; rw [HNV.out]; simp
              rw [HV1.out] at HO HLN
              clear HNV HV1
              go_wp2_with (first
                | (at_builtin; refine wpList_append_made rfl (.tmp 72) (.tmp 73) 27 rfl w1.heap.size 2 tb (.int .i64 0) 1 8 Tryd.underlying27 gi gz0 gz1 gz2 rfl (by decide) w1.heap.size rfl HM1.out none (([] : List Int)).length 0 (i64s ([] : List Int)) rfl (fun _ => ⟨rfl, rfl⟩) (i64s_len _) (fun ad h => by cases h) i64s_one (by unfold maxLen; first | omega | (simp; done) | (simp; omega)) (by first | omega | (simp; done) | (simp; omega)) (by simp) ?_; intro g2 c2 w2 hown2 hb2; have hb12 := HBM.out.trans hb2; have hls12 := hb12.size)
                | (at_builtin; refine wpList_append_more rfl (.tmp 74) (.tmp 75) 27 rfl w1.heap.size 2 tb (.int .i64 0) 1 8 Tryd.underlying27 gi gz0 gz1 gz2 rfl (by decide) g2 (([] : List Int)).length c2 (i64s ([] : List Int)) rfl hown2 Aq N.length cq (i64s N) rfl (fun h => by subst h; have := none_len (rowAt_below HRQ.out hb12); simpa [i64s] using this) (i64s_len _) (row_news (rowAt_below HRQ.out hb12)) i64s_one (by unfold maxLen; first | omega | (simp; done) | (simp; omega)) (by first | omega | (simp; done) | (simp; omega)) hls12 ?_; intro g3 c3 w3 hown3 hb3; have hb13 := hb12.trans hb3; have kx3 := cell_kept hb13 kx1; have hownO := own_kept hown1 hb13; have hls13 := hb13.size)
                | (at_builtin; refine wpList_append_lies _ rfl (.tmp 83) (.tmp 88) 37 rfl w.heap.size 53 ti _ 2 32 Tryd.underlying37 hi hz0 hz1 hz2 rfl (by decide) _ D.length cs rfl (hownO.alloc _) ⟨w3.heap.size, 0, none⟩ 1 1 [.bool false, .slice (some ⟨g3, 0, none⟩) _ c3] rfl rfl (World.news_of_block (cs := #[.bool false, .slice (some ⟨g3, 0, none⟩) _ c3]) (t := 53) (fr := (0, 0)) (heap_alloc_new w3 _)) (by simp [Value.oneCell']) (by omega) (by unfold maxLen; omega) (by omega) (by have := hbel1.size; simp; omega) _ rfl ?_; intro gg cap2 w4 hown4 hgrow hat hlt4))
              have hrowO := rows_below hrow1 hb13
              have hbelO := below_step hbel1 hb13
              have HIT0 : (w3.ownsRow w.heap.size 2 1 (.slice (some ⟨g3, 0, none⟩) (N).length c3) (N).length (i64s (N))) := by
                have h := own_low (b := w.heap.size) hown3 hbel1.size
                rw [← i64s_append] at h
                simpa using h
              have HIT := Lib.hid HIT0
              clear HIT0
              have HST2 := want_end (V1 := N) (c := c3) (A := some ⟨g3, 0, none⟩) (ch1 := true) HIT.out hownO hrowO hbelO HEQ.out (by have := HO.out; simpa using this) (by have := HW.out; have := HWT.out; have := HLN.out; omega) hdl hgrow (by simpa using hown4) rfl (by simp)
              clear hown4 hgrow hit1 hown1 hrow1 hbel1 hown2 hown3 hrowO hbelO hownO
              go_roundw
              case rel => exact ⟨k + 1, _, true, _, _, _, _, by omega, by go_num, by simp, rfl, HST2⟩
              case measure => simp [intOf]; omega
        · rw [hact] at c0
          have hbX : Below wr.heap.size wr ((wr.alloc (.cells #[.int .i64 1, .string x.text, .slice At x.texts.length ct] 67)).alloc (.cells #[.string x.text] 9)) := ((Below.refl _ _).alloc (Nat.le_refl _) _).alloc (by simp) _
          have HX : Hid (((wr.alloc (.cells #[.int .i64 1, .string x.text, .slice At x.texts.length ct] 67)).alloc (.cells #[.string x.text] 9)).cell? ⟨wr.heap.size, 0, none⟩ = some (.int .i64 1)) := cell_kept ((Below.refl _ _).alloc (Nat.le_refl _) _) (cell_of_row _ _ 0 _ _ _ (heap_alloc_new wr _))
          have H := Lib.hid (each64_any (some ⟨wr.heap.size + 1, 0, none⟩) 1 [x.text] ((wr.alloc (.cells #[.int .i64 1, .string x.text, .slice At x.texts.length ct] 67)).alloc (.cells #[.string x.text] 9)) (strs_one (by have h := heap_alloc_new (wr.alloc (.cells #[.int .i64 1, .string x.text, .slice At x.texts.length ct] 67)) (.cells #[.string x.text] 9); rw [show (wr.alloc (.cells #[.int .i64 1, .string x.text, .slice At x.texts.length ct] 67)).heap.size = wr.heap.size + 1 by simp] at h; exact cell_of_one h)) (by simp) (fun j hj => by have h0 : j = 0 := (by simp at hj; omega); subst h0; exact H8.out.1))
          have hsq : stepQ x = some (nums64 [x.text]) := by unfold stepQ; simp [hact]
          have hsR := fun N (h : nums64 [x.text] = some N) => stepR_some (V := V) (ch := ch) (hsq.trans (by rw [h]))
          have hsN := fun (h : nums64 [x.text] = none) => stepR_none (V := V) (ch := ch) (hsq.trans (by rw [h]))
          have HQN : Hid (∀ N, nums64 [x.text] = some N → N.length ≤ 2147483648) := fun N h => by have := nums64_len _ _ h; simp at this; omega
          generalize nums64 [x.text] = q at H hsR hsN HQN
          clear hsq
          cases q with
          | none =>
            rw [hsN rfl] at HO HLEN
            have HO : Hid (outs V ch (L.drop k) = (true, V) :: outs V ch (L.drop (k + 1))) := HO.out
            clear hsR hsN hact
            go_upto_region 16 with (go_at_call 35; refine (H.out).mono ?_; rintro e w1 hE; obtain rfl := hE.2.1 rfl; have hb1 := hE.2.2)
            have hb1 : Below wr.heap.size wr w1 := hbX.trans (hb1.mono hbX.size)
            have hit1 := own_kept hit hb1
            have hown1 := own_kept hown hb1
            have hrow1 := rows_below hrow hb1
            have hbel1 := below_step hbel hb1
            clear HX H hbX
            go_wp2_with (at_builtin; refine wpList_append_lies _ rfl (.tmp 83) (.tmp 88) 37 rfl w.heap.size 53 ti _ 2 32 Tryd.underlying37 hi hz0 hz1 hz2 rfl (by decide) _ D.length cs rfl (hown1.alloc _) ⟨w1.heap.size, 0, none⟩ 1 1 [.bool true, .slice Ai V.length ci] rfl rfl (World.news_of_block (cs := #[.bool true, .slice Ai V.length ci]) (t := 53) (fr := (0, 0)) (heap_alloc_new w1 _)) (by simp [Value.oneCell']) (by omega) (by unfold maxLen; omega) (by omega) (by have := hbel1.size; simp; omega) _ rfl ?_; intro gg cap2 w4 hown4 hgrow hat hlt4)
            have HST2 := want_end hit1 hown1 hrow1 hbel1 HEQ.out HO.out (by have := HW.out; have := HWT.out; omega) hdl hgrow hown4 rfl rfl
            clear hown4 hgrow hit1 hown1 hrow1 hbel1
            go_roundw
            case rel => exact ⟨k + 1, V, ch, _, _, Ai, ci, by omega, by go_num, rfl, rfl, HST2⟩
            case measure => simp [intOf]; omega
          | some N =>
            rw [hsR N rfl] at HO HLEN
            have HLN : Hid ((nextV x V ch N).length ≤ V.length + wt x) := HLEN.out
            have HO : Hid (outs V ch (L.drop k) = (false, nextV x V ch N) :: outs (nextV x V ch N) (ch || decide (x.act = 0)) (L.drop (k + 1))) := HO.out
            have HNV : Hid (nextV x V ch N = if x.act = 2 then N else if x.act = 0 then (if ch = true then V ++ N else N) else V ++ N) := rfl
            rw [hact] at HNV HO
            generalize nextV x V ch N = V1 at HO HLN HNV
            clear hsR hsN hact
            go_upto_region 16 with (go_at_call 35; refine (H.out).mono ?_; rintro e w1 hE; obtain ⟨Aq, cq, rfl, hrq, hfq⟩ := hE.1 N rfl; have hb1 := hE.2.2; have kx1 := cell_kept hb1 HX.out)
            have hb1 : Below wr.heap.size wr w1 := hbX.trans (hb1.mono hbX.size)
            have hit1 := own_kept hit hb1
            have hown1 := own_kept hown hb1
            have hrow1 := rows_below hrow hb1
            have hbel1 := below_step hbel hb1
            have HM1 := Lib.hid (made64 w1)
            have HBM : Hid (Below w1.heap.size w1 (w1.alloc (.cells #[] 2))) := (Below.refl _ _).alloc (Nat.le_refl _) _
            have HRQ := Lib.hid hrq
            have hls := hb1.size
            have hls2 : wr.heap.size < w1.heap.size := by have := World.block_lt_of_cell? w1 _ kx1; simpa using this
            clear HX H hbX hrq
            have hN : N.length ≤ 2147483648 := (HQN.out N rfl)
            have hV : V.length ≤ 1099511627776 := by have := HW.out; omega
            cases ch with
            | true =>
              have HV1 : Hid (V1 = (V ++ N)) := by show _ = _; rw [HNV.out]; simp
              rw [HV1.out] at HO HLN
              clear HNV HV1
              go_wp2_with (first
                | (at_builtin; refine wpList_append_made rfl (.tmp 72) (.tmp 73) 27 rfl w1.heap.size 2 tb (.int .i64 0) 1 8 Tryd.underlying27 gi gz0 gz1 gz2 rfl (by decide) w1.heap.size rfl HM1.out Ai (V).length ci (i64s V) rfl (own_row0 hit1) (i64s_len _) (fun ad h j u hu => cell_kept HBM.out (row_news (own_row_at hit1) ad h j u hu)) i64s_one (by unfold maxLen; first | omega | (simp; done) | (simp; omega)) (by first | omega | (simp; done) | (simp; omega)) (by simp) ?_; intro g2 c2 w2 hown2 hb2; have hb12 := HBM.out.trans hb2; have hls12 := hb12.size)
                | (at_builtin; refine wpList_append_more rfl (.tmp 74) (.tmp 75) 27 rfl w1.heap.size 2 tb (.int .i64 0) 1 8 Tryd.underlying27 gi gz0 gz1 gz2 rfl (by decide) g2 (V).length c2 (i64s V) rfl hown2 Aq N.length cq (i64s N) rfl (fun h => by subst h; have := none_len (rowAt_below HRQ.out hb12); simpa [i64s] using this) (i64s_len _) (row_news (rowAt_below HRQ.out hb12)) i64s_one (by unfold maxLen; first | omega | (simp; done) | (simp; omega)) (by first | omega | (simp; done) | (simp; omega)) hls12 ?_; intro g3 c3 w3 hown3 hb3; have hb13 := hb12.trans hb3; have kx3 := cell_kept hb13 kx1; have hownO := own_kept hown1 hb13; have hls13 := hb13.size)
                | (at_builtin; refine wpList_append_lies _ rfl (.tmp 83) (.tmp 88) 37 rfl w.heap.size 53 ti _ 2 32 Tryd.underlying37 hi hz0 hz1 hz2 rfl (by decide) _ D.length cs rfl (hownO.alloc _) ⟨w3.heap.size, 0, none⟩ 1 1 [.bool false, .slice (some ⟨g3, 0, none⟩) _ c3] rfl rfl (World.news_of_block (cs := #[.bool false, .slice (some ⟨g3, 0, none⟩) _ c3]) (t := 53) (fr := (0, 0)) (heap_alloc_new w3 _)) (by simp [Value.oneCell']) (by omega) (by unfold maxLen; omega) (by omega) (by have := hbel1.size; simp; omega) _ rfl ?_; intro gg cap2 w4 hown4 hgrow hat hlt4))
              have hrowO := rows_below hrow1 hb13
              have hbelO := below_step hbel1 hb13
              have HIT0 : (w3.ownsRow w.heap.size 2 1 (.slice (some ⟨g3, 0, none⟩) ((V ++ N)).length c3) ((V ++ N)).length (i64s ((V ++ N)))) := by
                have h := own_low (b := w.heap.size) hown3 hbel1.size
                rw [← i64s_append] at h
                simpa using h
              have HIT := Lib.hid HIT0
              clear HIT0
              have HST2 := want_end (V1 := (V ++ N)) (c := c3) (A := some ⟨g3, 0, none⟩) (ch1 := true) HIT.out hownO hrowO hbelO HEQ.out (by have := HO.out; simpa using this) (by have := HW.out; have := HWT.out; have := HLN.out; omega) hdl hgrow (by simpa using hown4) rfl (by simp)
              clear hown4 hgrow hit1 hown1 hrow1 hbel1 hown2 hown3 hrowO hbelO hownO
              go_roundw
              case rel => exact ⟨k + 1, _, true, _, _, _, _, by omega, by go_num, by simp, rfl, HST2⟩
              case measure => simp [intOf]; omega
            | false =>
              have HV1 : Hid (V1 = (V ++ N)) := by show _ = _; rw [HNV.out]; simp
              rw [HV1.out] at HO HLN
              clear HNV HV1
              go_wp2_with (first
                | (at_builtin; refine wpList_append_made rfl (.tmp 72) (.tmp 73) 27 rfl w1.heap.size 2 tb (.int .i64 0) 1 8 Tryd.underlying27 gi gz0 gz1 gz2 rfl (by decide) w1.heap.size rfl HM1.out Ai (V).length ci (i64s V) rfl (own_row0 hit1) (i64s_len _) (fun ad h j u hu => cell_kept HBM.out (row_news (own_row_at hit1) ad h j u hu)) i64s_one (by unfold maxLen; first | omega | (simp; done) | (simp; omega)) (by first | omega | (simp; done) | (simp; omega)) (by simp) ?_; intro g2 c2 w2 hown2 hb2; have hb12 := HBM.out.trans hb2; have hls12 := hb12.size)
                | (at_builtin; refine wpList_append_more rfl (.tmp 74) (.tmp 75) 27 rfl w1.heap.size 2 tb (.int .i64 0) 1 8 Tryd.underlying27 gi gz0 gz1 gz2 rfl (by decide) g2 (V).length c2 (i64s V) rfl hown2 Aq N.length cq (i64s N) rfl (fun h => by subst h; have := none_len (rowAt_below HRQ.out hb12); simpa [i64s] using this) (i64s_len _) (row_news (rowAt_below HRQ.out hb12)) i64s_one (by unfold maxLen; first | omega | (simp; done) | (simp; omega)) (by first | omega | (simp; done) | (simp; omega)) hls12 ?_; intro g3 c3 w3 hown3 hb3; have hb13 := hb12.trans hb3; have kx3 := cell_kept hb13 kx1; have hownO := own_kept hown1 hb13; have hls13 := hb13.size)
                | (at_builtin; refine wpList_append_lies _ rfl (.tmp 83) (.tmp 88) 37 rfl w.heap.size 53 ti _ 2 32 Tryd.underlying37 hi hz0 hz1 hz2 rfl (by decide) _ D.length cs rfl (hownO.alloc _) ⟨w3.heap.size, 0, none⟩ 1 1 [.bool false, .slice (some ⟨g3, 0, none⟩) _ c3] rfl rfl (World.news_of_block (cs := #[.bool false, .slice (some ⟨g3, 0, none⟩) _ c3]) (t := 53) (fr := (0, 0)) (heap_alloc_new w3 _)) (by simp [Value.oneCell']) (by omega) (by unfold maxLen; omega) (by omega) (by have := hbel1.size; simp; omega) _ rfl ?_; intro gg cap2 w4 hown4 hgrow hat hlt4))
              have hrowO := rows_below hrow1 hb13
              have hbelO := below_step hbel1 hb13
              have HIT0 : (w3.ownsRow w.heap.size 2 1 (.slice (some ⟨g3, 0, none⟩) ((V ++ N)).length c3) ((V ++ N)).length (i64s ((V ++ N)))) := by
                have h := own_low (b := w.heap.size) hown3 hbel1.size
                rw [← i64s_append] at h
                simpa using h
              have HIT := Lib.hid HIT0
              clear HIT0
              have HST2 := want_end (V1 := (V ++ N)) (c := c3) (A := some ⟨g3, 0, none⟩) (ch1 := false) HIT.out hownO hrowO hbelO HEQ.out (by have := HO.out; simpa using this) (by have := HW.out; have := HWT.out; have := HLN.out; omega) hdl hgrow (by simpa using hown4) rfl (by simp)
              clear hown4 hgrow hit1 hown1 hrow1 hbel1 hown2 hown3 hrowO hbelO hownO
              go_roundw
              case rel => exact ⟨k + 1, _, false, _, _, _, _, by omega, by go_num, by simp, rfl, HST2⟩
              case measure => simp [intOf]; omega
        · rw [hact] at c0
          have hbX : Below wr.heap.size wr (wr.alloc (.cells #[.int .i64 2, .string x.text, .slice At x.texts.length ct] 67)) := (Below.refl _ _).alloc (Nat.le_refl _) _
          have HX : Hid ((wr.alloc (.cells #[.int .i64 2, .string x.text, .slice At x.texts.length ct] 67)).cell? ⟨wr.heap.size, 0, none⟩ = some (.int .i64 2)) := cell_of_row _ _ 0 _ _ _ (heap_alloc_new wr _)
          have H := Lib.hid (each64_any At ct x.texts (wr.alloc (.cells #[.int .i64 2, .string x.text, .slice At x.texts.length ct] 67)) (strsAt_below hst0 hbX) (by have := H8.out.2.1; omega) H8.out.2.2)
          have hsq : stepQ x = some (nums64 x.texts) := by unfold stepQ; simp [hact]
          have hsR := fun N (h : nums64 x.texts = some N) => stepR_some (V := V) (ch := ch) (hsq.trans (by rw [h]))
          have hsN := fun (h : nums64 x.texts = none) => stepR_none (V := V) (ch := ch) (hsq.trans (by rw [h]))
          have HQN : Hid (∀ N, nums64 x.texts = some N → N.length ≤ 2147483648) := fun N h => by have := nums64_len _ _ h; have := H8.out.2.1; omega
          generalize nums64 x.texts = q at H hsR hsN HQN
          clear hsq
          cases q with
          | none =>
            rw [hsN rfl] at HO HLEN
            have HO : Hid (outs V ch (L.drop k) = (true, V) :: outs V ch (L.drop (k + 1))) := HO.out
            clear hsR hsN hact
            go_upto_region 16 with (go_at_call 35; refine (H.out).mono ?_; rintro e w1 hE; obtain rfl := hE.2.1 rfl; have hb1 := hE.2.2)
            have hb1 : Below wr.heap.size wr w1 := hbX.trans (hb1.mono hbX.size)
            have hit1 := own_kept hit hb1
            have hown1 := own_kept hown hb1
            have hrow1 := rows_below hrow hb1
            have hbel1 := below_step hbel hb1
            clear HX H hbX
            go_wp2_with (at_builtin; refine wpList_append_lies _ rfl (.tmp 83) (.tmp 88) 37 rfl w.heap.size 53 ti _ 2 32 Tryd.underlying37 hi hz0 hz1 hz2 rfl (by decide) _ D.length cs rfl (hown1.alloc _) ⟨w1.heap.size, 0, none⟩ 1 1 [.bool true, .slice Ai V.length ci] rfl rfl (World.news_of_block (cs := #[.bool true, .slice Ai V.length ci]) (t := 53) (fr := (0, 0)) (heap_alloc_new w1 _)) (by simp [Value.oneCell']) (by omega) (by unfold maxLen; omega) (by omega) (by have := hbel1.size; simp; omega) _ rfl ?_; intro gg cap2 w4 hown4 hgrow hat hlt4)
            have HST2 := want_end hit1 hown1 hrow1 hbel1 HEQ.out HO.out (by have := HW.out; have := HWT.out; omega) hdl hgrow hown4 rfl rfl
            clear hown4 hgrow hit1 hown1 hrow1 hbel1
            go_roundw
            case rel => exact ⟨k + 1, V, ch, _, _, Ai, ci, by omega, by go_num, rfl, rfl, HST2⟩
            case measure => simp [intOf]; omega
          | some N =>
            rw [hsR N rfl] at HO HLEN
            have HLN : Hid ((nextV x V ch N).length ≤ V.length + wt x) := HLEN.out
            have HO : Hid (outs V ch (L.drop k) = (false, nextV x V ch N) :: outs (nextV x V ch N) (ch || decide (x.act = 0)) (L.drop (k + 1))) := HO.out
            have HNV : Hid (nextV x V ch N = if x.act = 2 then N else if x.act = 0 then (if ch = true then V ++ N else N) else V ++ N) := rfl
            rw [hact] at HNV HO
            generalize nextV x V ch N = V1 at HO HLN HNV
            clear hsR hsN hact
            go_upto_region 16 with (go_at_call 35; refine (H.out).mono ?_; rintro e w1 hE; obtain ⟨Aq, cq, rfl, hrq, hfq⟩ := hE.1 N rfl; have hb1 := hE.2.2; have kx1 := cell_kept hb1 HX.out)
            have hb1 : Below wr.heap.size wr w1 := hbX.trans (hb1.mono hbX.size)
            have hit1 := own_kept hit hb1
            have hown1 := own_kept hown hb1
            have hrow1 := rows_below hrow hb1
            have hbel1 := below_step hbel hb1
            have HM1 := Lib.hid (made64 w1)
            have HBM : Hid (Below w1.heap.size w1 (w1.alloc (.cells #[] 2))) := (Below.refl _ _).alloc (Nat.le_refl _) _
            have HRQ := Lib.hid hrq
            have hls := hb1.size
            have hls2 : wr.heap.size < w1.heap.size := by have := World.block_lt_of_cell? w1 _ kx1; simpa using this
            clear HX H hbX hrq
            have hN : N.length ≤ 2147483648 := (HQN.out N rfl)
            have hV : V.length ≤ 1099511627776 := by have := HW.out; omega
            cases ch with
            | true =>
              have HV1 : Hid (V1 = N) := by show _ = _; rw [HNV.out]; simp
              rw [HV1.out] at HO HLN
              clear HNV HV1
              go_wp2_with (first
                | (at_builtin; refine wpList_append_made rfl (.tmp 72) (.tmp 73) 27 rfl w1.heap.size 2 tb (.int .i64 0) 1 8 Tryd.underlying27 gi gz0 gz1 gz2 rfl (by decide) w1.heap.size rfl HM1.out none (([] : List Int)).length 0 (i64s ([] : List Int)) rfl (fun _ => ⟨rfl, rfl⟩) (i64s_len _) (fun ad h => by cases h) i64s_one (by unfold maxLen; first | omega | (simp; done) | (simp; omega)) (by first | omega | (simp; done) | (simp; omega)) (by simp) ?_; intro g2 c2 w2 hown2 hb2; have hb12 := HBM.out.trans hb2; have hls12 := hb12.size)
                | (at_builtin; refine wpList_append_more rfl (.tmp 74) (.tmp 75) 27 rfl w1.heap.size 2 tb (.int .i64 0) 1 8 Tryd.underlying27 gi gz0 gz1 gz2 rfl (by decide) g2 (([] : List Int)).length c2 (i64s ([] : List Int)) rfl hown2 Aq N.length cq (i64s N) rfl (fun h => by subst h; have := none_len (rowAt_below HRQ.out hb12); simpa [i64s] using this) (i64s_len _) (row_news (rowAt_below HRQ.out hb12)) i64s_one (by unfold maxLen; first | omega | (simp; done) | (simp; omega)) (by first | omega | (simp; done) | (simp; omega)) hls12 ?_; intro g3 c3 w3 hown3 hb3; have hb13 := hb12.trans hb3; have kx3 := cell_kept hb13 kx1; have hownO := own_kept hown1 hb13; have hls13 := hb13.size)
                | (at_builtin; refine wpList_append_lies _ rfl (.tmp 83) (.tmp 88) 37 rfl w.heap.size 53 ti _ 2 32 Tryd.underlying37 hi hz0 hz1 hz2 rfl (by decide) _ D.length cs rfl (hownO.alloc _) ⟨w3.heap.size, 0, none⟩ 1 1 [.bool false, .slice (some ⟨g3, 0, none⟩) _ c3] rfl rfl (World.news_of_block (cs := #[.bool false, .slice (some ⟨g3, 0, none⟩) _ c3]) (t := 53) (fr := (0, 0)) (heap_alloc_new w3 _)) (by simp [Value.oneCell']) (by omega) (by unfold maxLen; omega) (by omega) (by have := hbel1.size; simp; omega) _ rfl ?_; intro gg cap2 w4 hown4 hgrow hat hlt4))
              have hrowO := rows_below hrow1 hb13
              have hbelO := below_step hbel1 hb13
              have HIT0 : (w3.ownsRow w.heap.size 2 1 (.slice (some ⟨g3, 0, none⟩) (N).length c3) (N).length (i64s (N))) := by
                have h := own_low (b := w.heap.size) hown3 hbel1.size
                rw [← i64s_append] at h
                simpa using h
              have HIT := Lib.hid HIT0
              clear HIT0
              have HST2 := want_end (V1 := N) (c := c3) (A := some ⟨g3, 0, none⟩) (ch1 := true) HIT.out hownO hrowO hbelO HEQ.out (by have := HO.out; simpa using this) (by have := HW.out; have := HWT.out; have := HLN.out; omega) hdl hgrow (by simpa using hown4) rfl (by simp)
              clear hown4 hgrow hit1 hown1 hrow1 hbel1 hown2 hown3 hrowO hbelO hownO
              go_roundw
              case rel => exact ⟨k + 1, _, true, _, _, _, _, by omega, by go_num, by simp, rfl, HST2⟩
              case measure => simp [intOf]; omega
            | false =>
              have HV1 : Hid (V1 = N) := by show _ = _; rw [HNV.out]; simp
              rw [HV1.out] at HO HLN
              clear HNV HV1
              go_wp2_with (first
                | (at_builtin; refine wpList_append_made rfl (.tmp 72) (.tmp 73) 27 rfl w1.heap.size 2 tb (.int .i64 0) 1 8 Tryd.underlying27 gi gz0 gz1 gz2 rfl (by decide) w1.heap.size rfl HM1.out none (([] : List Int)).length 0 (i64s ([] : List Int)) rfl (fun _ => ⟨rfl, rfl⟩) (i64s_len _) (fun ad h => by cases h) i64s_one (by unfold maxLen; first | omega | (simp; done) | (simp; omega)) (by first | omega | (simp; done) | (simp; omega)) (by simp) ?_; intro g2 c2 w2 hown2 hb2; have hb12 := HBM.out.trans hb2; have hls12 := hb12.size)
                | (at_builtin; refine wpList_append_more rfl (.tmp 74) (.tmp 75) 27 rfl w1.heap.size 2 tb (.int .i64 0) 1 8 Tryd.underlying27 gi gz0 gz1 gz2 rfl (by decide) g2 (([] : List Int)).length c2 (i64s ([] : List Int)) rfl hown2 Aq N.length cq (i64s N) rfl (fun h => by subst h; have := none_len (rowAt_below HRQ.out hb12); simpa [i64s] using this) (i64s_len _) (row_news (rowAt_below HRQ.out hb12)) i64s_one (by unfold maxLen; first | omega | (simp; done) | (simp; omega)) (by first | omega | (simp; done) | (simp; omega)) hls12 ?_; intro g3 c3 w3 hown3 hb3; have hb13 := hb12.trans hb3; have kx3 := cell_kept hb13 kx1; have hownO := own_kept hown1 hb13; have hls13 := hb13.size)
                | (at_builtin; refine wpList_append_lies _ rfl (.tmp 83) (.tmp 88) 37 rfl w.heap.size 53 ti _ 2 32 Tryd.underlying37 hi hz0 hz1 hz2 rfl (by decide) _ D.length cs rfl (hownO.alloc _) ⟨w3.heap.size, 0, none⟩ 1 1 [.bool false, .slice (some ⟨g3, 0, none⟩) _ c3] rfl rfl (World.news_of_block (cs := #[.bool false, .slice (some ⟨g3, 0, none⟩) _ c3]) (t := 53) (fr := (0, 0)) (heap_alloc_new w3 _)) (by simp [Value.oneCell']) (by omega) (by unfold maxLen; omega) (by omega) (by have := hbel1.size; simp; omega) _ rfl ?_; intro gg cap2 w4 hown4 hgrow hat hlt4))
              have hrowO := rows_below hrow1 hb13
              have hbelO := below_step hbel1 hb13
              have HIT0 : (w3.ownsRow w.heap.size 2 1 (.slice (some ⟨g3, 0, none⟩) (N).length c3) (N).length (i64s (N))) := by
                have h := own_low (b := w.heap.size) hown3 hbel1.size
                rw [← i64s_append] at h
                simpa using h
              have HIT := Lib.hid HIT0
              clear HIT0
              have HST2 := want_end (V1 := N) (c := c3) (A := some ⟨g3, 0, none⟩) (ch1 := false) HIT.out hownO hrowO hbelO HEQ.out (by have := HO.out; simpa using this) (by have := HW.out; have := HWT.out; have := HLN.out; omega) hdl hgrow (by simpa using hown4) rfl (by simp)
              clear hown4 hgrow hit1 hown1 hrow1 hbel1 hown2 hown3 hrowO hbelO hownO
              go_roundw
              case rel => exact ⟨k + 1, _, false, _, _, _, _, by omega, by go_num, by simp, rfl, HST2⟩
              case measure => simp [intOf]; omega
      · have HNT := HNT (by simpa using ht)
        have hq : x.act < 0 ∨ 2 < x.act := by
          have h := HTB.out
          have h2 : toldB x = false := by simpa using ht
          rw [h2] at h
          have := of_decide_eq_false h.symm
          omega
        have n0 : (x.act == 0) = false := by simp; omega
        have n1 : (x.act == 1) = false := by simp; omega
        have n2 : (x.act == 2) = false := by simp; omega
        have HAL := fun o => Lib.hid (HST.alloc o HNT.out (by have := HWT.out; omega))
        clear HST HNT HTB ht HO hq H8 HWT
        go_wp2
        go_roundw
        case rel => exact ⟨k + 1, V, ch, D, cs, Ai, ci, by omega, by go_num, rfl, rfl, (HAL _).out⟩
        case measure => simp [intOf]; omega
    · have HK : Hid (outs V0 false L = D) := by
        show _ = _
        have h := HST.eq
        rw [List.drop_eq_nil_of_le (by omega)] at h
        rw [← h]; simp [outs]
      have hrow := HST.rows
      have hbel := HST.bel
      obtain ⟨A', c, rfl, hat⟩ := own_row HST.own
      clear HST
      go_wp2
      go_ret
      rw [HK.out]
      exact ⟨A', c, cs, rfl, hat, hrow, hbel⟩
end Go.Proofs.YtdmpeecocfoocaaDoor.E

namespace Go.Proofs.YtdmpeecocfoocaaDoor.E
open Go.RowKit Go.Proofs
set_option linter.unusedVariables false
set_option linter.unusedSimpArgs false

theorem outs_bound : ∀ (L : List StepL) (V : List Int) (ch : Bool) (r : Bool × List Int), r ∈ outs V ch L → r.2.length ≤ V.length + wts L
  | [], V, ch, r, h => by simp [outs] at h
  | x :: q, V, ch, r, h => by
    have hwt : wts (x :: q) = wt x + wts q := rfl
    by_cases ht : toldB x = true
    · have h1 := outs_told (V := V) (ch := ch) (L := x :: q) (k := 0) (by simp) ht
      simp only [List.drop_zero, List.getElem_cons_zero, List.drop_succ_cons] at h1
      rw [h1, List.mem_cons] at h
      have hl := stepR_len x V ch
      rcases h with rfl | h
      · show (stepR x V ch).2.1.length ≤ _; omega
      · have := outs_bound q _ _ r h; omega
    · have hf : toldB x = false := by simpa using ht
      have h1 := outs_not (V := V) (ch := ch) (L := x :: q) (k := 0) (by simp) hf
      simp only [List.drop_zero, List.drop_succ_cons] at h1
      rw [h1] at h
      have := outs_bound q _ _ r h
      omega
theorem outs_small {L : List StepL} {V : List Int} {ch : Bool} (h : V.length + wts L ≤ 1099511627776) (j : Nat) : (rowD (outs V ch L) j).2.length ≤ 9223372036854775807 := by
  unfold rowD
  rw [List.getD_eq_getElem?_getD]
  cases hj : (outs V ch L)[j]? with
  | none => simp
  | some r =>
    have := outs_bound L V ch r (List.mem_of_getElem? hj)
    simp only [Option.getD_some]; omega

set_option maxRecDepth 100000 in
theorem mkcuts64_any (w : World) : Calls Tryd.prog 16 #[.func (.func 21) #[] #[]] w fun e w' => ∃ a, e = .returned (.func (.func 36) #[] #[.pointer (some a)]) ∧ w'.cell? a = some (.func (.func 21) #[] #[]) ∧ Below w.heap.size w w' := by
  go_enter Tryd.func16, Tryd.ntmps16
  go_wp2
  go_ret
  exact ⟨_, rfl, cell_of_one (heap_alloc_new w _), (Below.refl _ _).alloc (Nat.le_refl _) _⟩
end Go.Proofs.YtdmpeecocfoocaaDoor.E

namespace Go.Proofs.YtdmpeecocfoocaaDoor.E
open Go.RowKit Go.Proofs
set_option linter.unusedVariables false
set_option linter.unusedSimpArgs false
theorem outs_in : ∀ (L : List StepL) (V : List Int) (ch : Bool) (r : Bool × List Int), InR V → r ∈ outs V ch L → InR r.2
  | [], V, ch, r, _, h => by simp [outs] at h
  | x :: q, V, ch, r, hV, h => by
    by_cases ht : toldB x = true
    · have h1 := outs_told (V := V) (ch := ch) (L := x :: q) (k := 0) (by simp) ht
      simp only [List.drop_zero, List.getElem_cons_zero, List.drop_succ_cons] at h1
      rw [h1, List.mem_cons] at h
      have hl := stepR_in x ch hV
      rcases h with rfl | h
      · exact hl
      · exact outs_in q _ _ r hl h
    · have hf : toldB x = false := by simpa using ht
      have h1 := outs_not (V := V) (ch := ch) (L := x :: q) (k := 0) (by simp) hf
      simp only [List.drop_zero, List.drop_succ_cons] at h1
      rw [h1] at h
      exact outs_in q _ _ r hV h
theorem rows_in {L : List StepL} {V : List Int} {ch : Bool} (hV : InR V) (j : Nat) : InR (rowD (outs V ch L) j).2 := by
  unfold rowD
  rw [List.getD_eq_getElem?_getD]
  cases hj : (outs V ch L)[j]? with
  | none => intro n hn; simp at hn
  | some r => exact outs_in L V ch r hV (List.mem_of_getElem? hj)
theorem rows_short {L : List StepL} {V : List Int} {ch : Bool} (h : V.length + wts L ≤ 1099511627776) (j : Nat) : (rowD (outs V ch L) j).2.length ≤ 1099511627776 := by
  unfold rowD
  rw [List.getD_eq_getElem?_getD]
  cases hj : (outs V ch L)[j]? with
  | none => simp
  | some r =>
    have := outs_bound L V ch r (List.mem_of_getElem? hj)
    simp only [Option.getD_some]; omega
theorem strs_getD {xs : List ByteArray} {k : Nat} (h : k < xs.length) : (strCells xs)[k]? = some (.string (xs.getD k ⟨#[]⟩)) := by simp [strCells, h]
set_option maxRecDepth 100000 in
set_option maxHeartbeats 1600000 in
theorem alikeS_same (A B : Option Addr) (c d : Nat) (xs : List ByteArray) (w : World) (ha : RowAt w A (strCells xs)) (hb : RowAt w B (strCells xs)) (hm : xs.length ≤ 9223372036854775807) :
    Calls Tryd.prog 24 #[.slice A xs.length c, .slice B xs.length d] w fun e w' => e = .returned (.bool true) ∧ Below w.heap.size w w' := by
  go_enter Tryd.func24, Tryd.ntmps24
  go_wp2
  go_loopw [13] (fun i wr => ∃ k : Nat, k ≤ xs.length ∧ i = .int .i64 k ∧ Below w.heap.size w wr) (fun i _ => xs.length - (intOf i).toNat)
  case atStart => exact ⟨0, Nat.zero_le _, rfl, Below.refl _ _⟩
  case round =>
    obtain ⟨k, hk, rfl, hbel⟩ := hrel
    by_cases hlt : k < xs.length
    · obtain ⟨g, rfl, c0⟩ := ha k _ (strs_getD hlt)
      obtain ⟨g', rfl, d0⟩ := hb k _ (strs_getD hlt)
      have c1 := cell_kept hbel c0
      have d1 := cell_kept hbel d0
      have i0 : (0 : Int) ≤ (k : Int) := Int.natCast_nonneg _
      have i1 : (k : Int) < (xs.length : Int) := by omega
      clear c0 d0
      generalize xs.getD k ⟨#[]⟩ = x at c1 d1
      go_wp2
      go_quiet (fail)
      go_wp2
      go_roundw
      case rel => exact ⟨k + 1, by omega, by go_num, bdrew hbel _⟩
      case measure => simp [intOf]; omega
    · go_wp2
      go_ret
      exact ⟨rfl, hbel⟩
/-- What shown29 tells. -/
def ShownEnd (V : List Int) (w : World) (e : Ending) (w' : World) : Prop := ∃ A c, e = .returned (.slice A V.length c) ∧ RowAt w' A (strCells (V.map said)) ∧ Below w.heap.size w w'
set_option maxRecDepth 100000 in
set_option maxHeartbeats 1600000 in
theorem shown_any (A : Option Addr) (c : Nat) (V : List Int) (w : World) (hv : RowAt w A (i64s V)) (hb : InR V) (hV : V.length ≤ 1099511627776) :
    Calls Tryd.prog 25 #[.slice A V.length c, .func (.func 19) #[] #[]] w (ShownEnd V w) := by
  obtain ⟨ti, hi, hz0, hz1, hz2⟩ := info_parts Tryd.infoStr1
  have HMADE : Hid ((w.alloc (.cells #[] 9)).ownsRow w.heap.size 9 1 (.slice (some ⟨w.heap.size, 0, none⟩) 0 0) 0 []) := World.ownsRow_made (base := w.heap.size) (e := 9) (size := 1) w #[] 0 (Nat.le_refl _) (Nat.zero_le _) rfl
  have HV := Lib.hid hv
  have HR := Lib.hid hb
  clear hv hb
  go_enter Tryd.func25, Tryd.ntmps25
  go_wp2
  go_loopw [5, 11] (fun v i wr => ∃ (k : Nat), k ≤ V.length ∧ i = .int .i64 k ∧ wr.ownsRow w.heap.size 9 1 v k (strCells ((V.take k).map said)) ∧ Below w.heap.size w wr) (fun _ i _ => V.length - (intOf i).toNat)
  case atStart => exact ⟨0, Nat.zero_le _, rfl, HMADE.out, (Below.refl _ _).alloc (Nat.le_refl _) _⟩
  case round =>
    obtain ⟨k, hk, rfl, hown, hbel⟩ := hrel
    have hs0 := hown.lt
    by_cases hlt : k < V.length
    · obtain ⟨ba, rfl, hc0⟩ := HV.out k (.int .i64 V[k]) (by simp [i64s, hlt])
      have hc := cell_kept hbel hc0
      have i0 : (0 : Int) ≤ (k : Int) := Int.natCast_nonneg _
      have i1 : (k : Int) < (V.length : Int) := by omega
      obtain ⟨n0, n1⟩ := HR.out V[k] (List.getElem_mem hlt)
      have HT : Hid (strCells ((V.take (k + 1)).map said) = strCells ((V.take k).map said) ++ [.string (said V[k])]) := by
        show _ = _
        rw [List.take_succ_eq_append_getElem hlt, List.map_append, List.map_cons, List.map_nil, strCells_snoc]
      have HC := fun w => Lib.hid (numeral_any V[k] n0 n1 w)
      clear hc0
      generalize hn : V[k] = n at hc HT HC n0 n1
      clear hn
      generalize said n = sd at HT HC
      go_wp2_with (first
        | (go_at_call 19; refine ((HC _).out).mono ?_; rintro e w1 ⟨rfl, hb1⟩; have hown1 := own_kept hown hb1; have hbel1 := below_step hbel hb1)
        | (at_builtin; refine wpList_append_own _ rfl (.tmp 15) (.tmp 19) 23 rfl w.heap.size 9 ti _ 1 16 Tryd.underlying23 hi hz0 hz1 hz2 rfl (by decide) _ k _ rfl (hown1.alloc _) ⟨w1.heap.size, 0, none⟩ 1 1 [.string sd] rfl rfl (World.news_of_block (cs := #[.string sd]) (t := 9) (fr := (0, 0)) (heap_alloc_new w1 _)) (by simp [Value.oneCell']) (by unfold maxLen; omega) (by omega) (by have := hbel1.size; simp; omega) ?_; intro v2 w2 hown2 hgrow hlt2))
      have hb2 : Below w.heap.size w w2 := (hbel1.alloc hbel1.size _).grown hgrow (by have := hbel1.size; simp; omega) (fun b hb => (hs0 b hb).1)
      rw [← HT.out] at hown2
      go_roundw
      case rel => exact ⟨k + 1, by omega, by go_num, hown2, hb2⟩
      case measure => simp [intOf]; omega
    · have hk2 : k = V.length := by omega
      subst hk2
      rw [List.take_length] at hown
      obtain ⟨A', c', rfl, hrow⟩ := own_row hown
      go_wp2
      go_ret
      exact ⟨A', c', rfl, hrow, hbel⟩
def T10 (u5 x1 x2 y1 : Value) (gs k bx : Nat) (bad : Bool) (V : List Int) : Nat → Value → World → Prop
  | 0, v, _ => v = u5
  | 1, v, _ => v = .int .i64 (k : Int)
  | 2, v, _ => v = .pointer (some ⟨gs, 0 + k * 3, none⟩)
  | 3, v, _ => v = .pointer (some ⟨gs, 0 + k * 3 + 0, none⟩)
  | 4, v, _ => v = .bool bad
  | 5, v, _ => v = .pointer (some ⟨bx, 0 + 0, none⟩)
  | 6, v, _ => v = .bool bad
  | 7, v, _ => v = .bool false
  | 8, v, _ => v = .bool false
  | 9, v, _ => v = u5
  | 10, v, _ => v = .int .i64 (k : Int)
  | 11, v, _ => v = .pointer (some ⟨gs, 0 + k * 3, none⟩)
  | 12, v, _ => v = .pointer (some ⟨gs, 0 + k * 3 + 1, none⟩)
  | 13, v, _ => v = x1
  | 14, v, _ => v = .pointer (some ⟨bx, 0 + 1, none⟩)
  | 15, v, _ => v = y1
  | 16, v, _ => v = .bool true
  | 17, v, _ => v = .bool false
  | 18, v, _ => v = .bool false
  | 19, v, _ => v = .bool false
  | 20, v, _ => v = u5
  | 21, v, _ => v = .int .i64 (k : Int)
  | 22, v, _ => v = .pointer (some ⟨gs, 0 + k * 3, none⟩)
  | 23, v, _ => v = .pointer (some ⟨gs, 0 + k * 3 + 2, none⟩)
  | 24, v, _ => v = x2
  | 25, v, _ => v = .pointer (some ⟨bx, 0 + 1, none⟩)
  | 26, v, _ => v = y1
  | 27, v, w => ∃ A c, v = .slice A V.length c ∧ RowAt w A (strCells (V.map said))
  | 28, v, _ => v = .bool true
  | 29, v, _ => v = .bool false
  | 30, v, _ => v = .bool false
  | _, _, _ => True
theorem T10.below {u5 x1 x2 y1 : Value} {gs k bx : Nat} {bad : Bool} {V : List Int} {i : Nat} (hi : i < 31) {v : Value} {w w' : World} (h : T10 u5 x1 x2 y1 gs k bx bad V i v w) (hb : Below w.heap.size w w') : T10 u5 x1 x2 y1 gs k bx bad V i v w' := by
  match i, hi, h with
  | 0, _, h => exact h
  | 1, _, h => exact h
  | 2, _, h => exact h
  | 3, _, h => exact h
  | 4, _, h => exact h
  | 5, _, h => exact h
  | 6, _, h => exact h
  | 7, _, h => exact h
  | 8, _, h => exact h
  | 9, _, h => exact h
  | 10, _, h => exact h
  | 11, _, h => exact h
  | 12, _, h => exact h
  | 13, _, h => exact h
  | 14, _, h => exact h
  | 15, _, h => exact h
  | 16, _, h => exact h
  | 17, _, h => exact h
  | 18, _, h => exact h
  | 19, _, h => exact h
  | 20, _, h => exact h
  | 21, _, h => exact h
  | 22, _, h => exact h
  | 23, _, h => exact h
  | 24, _, h => exact h
  | 25, _, h => exact h
  | 26, _, h => exact h
  | 27, _, h => obtain ⟨A, c, e, h⟩ := h; exact ⟨A, c, e, rowAt_below h hb⟩
  | 28, _, h => exact h
  | 29, _, h => exact h
  | 30, _, h => exact h
  | k + 31, hi, _ => exact absurd hi (by omega)
set_option maxRecDepth 100000 in
set_option maxHeartbeats 12800000 in
theorem fnIntList_any (Ad : Option Addr) (cd : Nat) (V0 : List Int) (A : Option Addr) (cap : Nat) (L : List StepL) (w : World) (hv : IntsIn w Ad cd V0) (hv0 : InR V0) (hx : StepsAt w A L) (hm : L.length ≤ 9223372036854775807) (hw : V0.length + wts L ≤ 1099511627776) (he1 : ErrCell 0 w) (he2 : ErrCell 1 w) (hp : Pow w) :
    Calls Tryd.prog 6 #[.slice Ad V0.length cd, .slice A L.length cap] w fun e w' => e = .returned (.bool true) ∧ Below w.heap.size w w' := by
  have HF := Lib.hid (fits7_any A cap L w hx hm)
  by_cases hbig : (2147483647 : Int) < (V0.length : Int)
  · clear HF
    go_enter Tryd.func6, Tryd.ntmps6
    go_wp2
    go_ret
    exact ⟨rfl, Below.refl _ _⟩
  · by_cases h7 : fits7 L = true
    · obtain ⟨hm7, hf7⟩ := fits7_iff.1 h7
      have HFB := Lib.hid (fun (w' : World) (hb : Below w.heap.size w w') => intList_any Ad cd V0 A cap L w' ⟨hv.1, hv.2.1, fun ad h j u hu => cell_kept hb (hv.2.2 ad h j u hu)⟩ hv0 (hx.below hb) hm7 hf7 hw (he1.below hb) (he2.below hb) (Lib.tabBelow_of_tabIs hp w' hb))
      have HTL := Lib.hid (fun (w' : World) (hb : Below w.heap.size w w') => told_any A cap L w' (hx.below hb) hm7)
      have HWA := Lib.hid (fun (a : Addr) (w' : World) (hb : Below w.heap.size w w') (ha : w'.cell? a = some (.func (.func 21) #[] #[])) => wants64_any Ad cd V0 A cap L a w' ⟨hv.1, hv.2.1, fun ad h j u hu => cell_kept hb (hv.2.2 ad h j u hu)⟩ (hx.below hb) hm7 hf7 hw ha)
      have HLN : Hid ((outs V0 false L).length = toldN L) := outs_len V0 false L
      have HSM := Lib.hid (fun j => rows_short (ch := false) hw j)
      have HIN := Lib.hid (fun j => rows_in (ch := false) (L := L) hv0 j)
      have HTN : Hid (toldN L ≤ 2147483647) := by show _ ≤ _; have := toldN_le L; omega
      rw [h7] at HF
      clear hv hv0 hx hf7 hw he1 he2 h7 hm7 hp
      generalize outs V0 false L = D at HFB HWA HLN HSM HIN
      rw [← HLN.out] at HTL HTN
      have hD := HTN.out
      go_enter Tryd.func6, Tryd.ntmps6
      go_wp2_with (first
        | (go_at_call 9; refine (HF.out).mono ?_; rintro e w1 ⟨rfl, hb1⟩)
        | (go_at_call 20; refine (HFB.out w1 hb1).mono ?_; rintro e w2 ⟨AS, cS, csS, rfl, hrowS, hlrS, htxS, hb2⟩; have hb02 := below_step hb1 hb2)
        | (go_at_call 13; refine (HTL.out w2 hb02).mono ?_; rintro e w3 ⟨rfl, hb3⟩; have hb03 := below_step hb02 hb3)
        | (go_at_call 16; refine (mkcuts64_any w3).mono ?_; rintro e w4 ⟨ac, rfl, hac, hb4⟩; have hb04 := below_step hb03 hb4)
        | (go_at_call 15; refine (HWA.out ac w4 hb04 hac).mono ?_; rintro e w5 ⟨A5, c5, cs5, rfl, hrow5, hlr5, hb5⟩; have hb05 := below_step hb04 hb5))
      have hb25 : Below w2.heap.size w2 w5 := below_step (below_step hb3 hb4) hb5
      have RS := Lib.hid (rowAt_below hrowS hb25)
      have LS := Lib.hid (rows_below hlrS hb25)
      have TS := Lib.hid (htxS.kept fun v n ys k1 => own_kept k1 hb25)
      have R5 := Lib.hid hrow5
      have L5 := Lib.hid hlr5
      clear hrowS hlrS htxS hrow5 hlr5 hb1 hb2 hb02 hb3 hb03 hb4 hb04 hb5 hb25 hac HF HFB HWA HTL
      go_loopw [32] (fun i wr => ∃ k : Nat, k ≤ D.length ∧ i = .int .i64 k ∧ Below w5.heap.size w5 wr) (fun i _ => D.length - (intOf i).toNat)
      case atStart => exact ⟨0, Nat.zero_le _, rfl, Below.refl _ _⟩
      case round =>
        obtain ⟨k, hk, rfl, hbel⟩ := hrel
        have i0 : (0 : Int) ≤ (k : Int) := Int.natCast_nonneg _
        by_cases hlt : k < D.length
        · have i1 : (k : Int) < (D.length : Int) := by omega
          obtain ⟨A1, c1, a0, a1, a2, _⟩ := LS.out k hlt
          obtain ⟨A2, c2, t0, t1⟩ := TS.out k hlt
          obtain ⟨A3, c3, b0, b1, b2, _⟩ := L5.out k hlt
          obtain ⟨gs, rfl, s0⟩ := RS.out _ _ a0
          obtain ⟨gs', e1, s1⟩ := RS.out _ _ a1
          cases e1
          obtain ⟨gs', e1, s2⟩ := RS.out _ _ t0
          cases e1
          obtain ⟨g5, rfl, z0⟩ := R5.out _ _ b0
          obtain ⟨g5', e1, z1⟩ := R5.out _ _ b1
          cases e1
          have z0 := cell_kept hbel z0
          have z1 := cell_kept hbel z1
          have s0 := cell_kept hbel s0
          have s1 := cell_kept hbel s1
          have s2 := cell_kept hbel s2
          have HSMk := HSM.out k
          have HINk := HIN.out k
          generalize (rowD D k).2 = V at *
          generalize (rowD D k).1 = bad at *
          have m1 := rowAt_below (own_row_at a2) hbel
          have m2 := rowAt_below (own_row_at t1) hbel
          have m3 := rowAt_below (own_row_at b2) hbel
          clear a0 a1 a2 t0 t1 b0 b1 b2
          go_upto_region 10 with fail
          generalize hWQ : wr.alloc _ = wq
          have hbx : Below wr.heap.size wr wq := by rw [← hWQ]; exact (Below.refl _ _).alloc (Nat.le_refl _) _
          have hwb : wq.heap[wr.heap.size]? = some (.cells #[.bool bad, .slice A3 V.length c3] 53 (0, 0)) := by rw [← hWQ]; exact heap_alloc_new wr _
          clear hWQ
          have p0 : wq.cell? ⟨wr.heap.size, 0 + 0, none⟩ = some (.bool bad) := cell_of_row _ _ 0 _ _ _ hwb
          have p1 : wq.cell? ⟨wr.heap.size, 0 + 1, none⟩ = some (.slice A3 V.length c3) := cell_of_row _ _ 1 _ _ _ hwb
          have q0 : wq.cell? ⟨gs, 0 + k * 3 + 0, none⟩ = some (.bool bad) := by rw [Nat.zero_add, Nat.add_zero]; exact cell_kept hbx s0
          have q1 : wq.cell? ⟨gs, 0 + k * 3 + 1, none⟩ = some (.slice A1 V.length c1) := by rw [Nat.zero_add]; exact cell_kept hbx s1
          have q2 : wq.cell? ⟨gs, 0 + k * 3 + 2, none⟩ = some (.slice A2 V.length c2) := by rw [Nat.zero_add]; exact cell_kept hbx s2
          have m1 := rowAt_below m1 hbx
          have m2 := rowAt_below m2 hbx
          have m3 := rowAt_below m3 hbx
          have HA1 := Lib.hid (fun u (hb : Below wq.heap.size wq u) => (alike64_any A1 A3 c1 c3 V V u (rowAt_below m1 hb) (rowAt_below m3 hb) (by omega)).mono fun e w2 h => (⟨by rw [h.1]; simp, h.2⟩ : e = Ending.returned (.bool true) ∧ Below u.heap.size u w2))
          have HSH := Lib.hid (fun u (hb : Below wq.heap.size wq u) => shown_any A3 c3 V u (rowAt_below m3 hb) HINk HSMk)
          have HA2 := Lib.hid (fun u (hb : Below wq.heap.size wq u) (As : Option Addr) (cs9 : Nat) (hrs : RowAt u As (strCells (V.map said))) => (show Calls Tryd.prog 24 #[.slice A2 V.length c2, .slice As V.length cs9] u fun e w' => e = .returned (.bool true) ∧ Below u.heap.size u w' from by
            have h := alikeS_same A2 As c2 cs9 (V.map said) u (rowAt_below m2 hb) hrs (by simp; omega)
            rw [List.length_map] at h
            exact h))
          have hbq := below_step hbel hbx
          clear m1 m2 m3 s0 s1 s2 z0 z1 HINk HSMk hwb hbel hbx
          generalize wr.heap.size = bx at p0 p1
          refine region_inv (by kernel_rfl) (fun u v => Below u.heap.size u v) (T10 (.slice (some ⟨gs, 0, none⟩) D.length cS) (.slice A1 V.length c1) (.slice A2 V.length c2) (.slice A3 V.length c3) gs k bx bad V) (fun i => false) (fun i => [37, 38, 39, 40, 41, 42, 43, 44, 45, 46, 47, 48, 49, 50, 51, 52, 53, 54, 55, 56, 57, 58, 59, 60, 61, 62, 63, 64, 65, 66, 67].getD i 0) 31
            (Below.refl _ _) (fun _ _ _ h k => below_step h k) (fun i hi v u u' h hb => T10.below hi h hb) ?_ ?_ (by kernel_rfl) (by kernel_rfl) (by kernel_rfl) (by kernel_rfl) ?_ ?_
          · intro i hi hA; cases hA
          · intro i hi o ho g want hg v u hR
            match i, hi with
            | 0, _ =>
              simp only [List.getElem?_toArray, List.getElem?_cons_zero, List.getElem?_cons_succ, Option.some.injEq] at ho
              subst ho
              cases hg
            | 1, _ =>
              simp only [List.getElem?_toArray, List.getElem?_cons_zero, List.getElem?_cons_succ, Option.some.injEq] at ho
              subst ho
              cases hg
            | 2, _ =>
              simp only [List.getElem?_toArray, List.getElem?_cons_zero, List.getElem?_cons_succ, Option.some.injEq] at ho
              subst ho
              cases hg
            | 3, _ =>
              simp only [List.getElem?_toArray, List.getElem?_cons_zero, List.getElem?_cons_succ, Option.some.injEq] at ho
              subst ho
              cases hg
            | 4, _ =>
              simp only [List.getElem?_toArray, List.getElem?_cons_zero, List.getElem?_cons_succ, Option.some.injEq] at ho
              subst ho
              cases hg
            | 5, _ =>
              simp only [List.getElem?_toArray, List.getElem?_cons_zero, List.getElem?_cons_succ, Option.some.injEq] at ho
              subst ho
              cases hg
            | 6, _ =>
              simp only [List.getElem?_toArray, List.getElem?_cons_zero, List.getElem?_cons_succ, Option.some.injEq] at ho
              subst ho
              cases hg
            | 7, _ =>
              simp only [List.getElem?_toArray, List.getElem?_cons_zero, List.getElem?_cons_succ, Option.some.injEq] at ho
              subst ho
              cases hg
            | 8, _ =>
              simp only [List.getElem?_toArray, List.getElem?_cons_zero, List.getElem?_cons_succ, Option.some.injEq] at ho
              subst ho
              cases hg
            | 9, _ =>
              simp only [List.getElem?_toArray, List.getElem?_cons_zero, List.getElem?_cons_succ, Option.some.injEq] at ho
              subst ho
              cases hg; exact hR
            | 10, _ =>
              simp only [List.getElem?_toArray, List.getElem?_cons_zero, List.getElem?_cons_succ, Option.some.injEq] at ho
              subst ho
              cases hg; exact hR
            | 11, _ =>
              simp only [List.getElem?_toArray, List.getElem?_cons_zero, List.getElem?_cons_succ, Option.some.injEq] at ho
              subst ho
              cases hg; exact hR
            | 12, _ =>
              simp only [List.getElem?_toArray, List.getElem?_cons_zero, List.getElem?_cons_succ, Option.some.injEq] at ho
              subst ho
              cases hg; exact hR
            | 13, _ =>
              simp only [List.getElem?_toArray, List.getElem?_cons_zero, List.getElem?_cons_succ, Option.some.injEq] at ho
              subst ho
              cases hg; exact hR
            | 14, _ =>
              simp only [List.getElem?_toArray, List.getElem?_cons_zero, List.getElem?_cons_succ, Option.some.injEq] at ho
              subst ho
              cases hg; exact hR
            | 15, _ =>
              simp only [List.getElem?_toArray, List.getElem?_cons_zero, List.getElem?_cons_succ, Option.some.injEq] at ho
              subst ho
              cases hg; exact hR
            | 16, _ =>
              simp only [List.getElem?_toArray, List.getElem?_cons_zero, List.getElem?_cons_succ, Option.some.injEq] at ho
              subst ho
              cases hg; exact hR
            | 17, _ =>
              simp only [List.getElem?_toArray, List.getElem?_cons_zero, List.getElem?_cons_succ, Option.some.injEq] at ho
              subst ho
              cases hg; exact hR
            | 18, _ =>
              simp only [List.getElem?_toArray, List.getElem?_cons_zero, List.getElem?_cons_succ, Option.some.injEq] at ho
              subst ho
              cases hg
            | 19, _ =>
              simp only [List.getElem?_toArray, List.getElem?_cons_zero, List.getElem?_cons_succ, Option.some.injEq] at ho
              subst ho
              cases hg
            | 20, _ =>
              simp only [List.getElem?_toArray, List.getElem?_cons_zero, List.getElem?_cons_succ, Option.some.injEq] at ho
              subst ho
              cases hg; exact hR
            | 21, _ =>
              simp only [List.getElem?_toArray, List.getElem?_cons_zero, List.getElem?_cons_succ, Option.some.injEq] at ho
              subst ho
              cases hg; exact hR
            | 22, _ =>
              simp only [List.getElem?_toArray, List.getElem?_cons_zero, List.getElem?_cons_succ, Option.some.injEq] at ho
              subst ho
              cases hg; exact hR
            | 23, _ =>
              simp only [List.getElem?_toArray, List.getElem?_cons_zero, List.getElem?_cons_succ, Option.some.injEq] at ho
              subst ho
              cases hg; exact hR
            | 24, _ =>
              simp only [List.getElem?_toArray, List.getElem?_cons_zero, List.getElem?_cons_succ, Option.some.injEq] at ho
              subst ho
              cases hg; exact hR
            | 25, _ =>
              simp only [List.getElem?_toArray, List.getElem?_cons_zero, List.getElem?_cons_succ, Option.some.injEq] at ho
              subst ho
              cases hg; exact hR
            | 26, _ =>
              simp only [List.getElem?_toArray, List.getElem?_cons_zero, List.getElem?_cons_succ, Option.some.injEq] at ho
              subst ho
              cases hg; exact hR
            | 27, _ =>
              simp only [List.getElem?_toArray, List.getElem?_cons_zero, List.getElem?_cons_succ, Option.some.injEq] at ho
              subst ho
              cases hg; exact hR
            | 28, _ =>
              simp only [List.getElem?_toArray, List.getElem?_cons_zero, List.getElem?_cons_succ, Option.some.injEq] at ho
              subst ho
              cases hg; exact hR
            | 29, _ =>
              simp only [List.getElem?_toArray, List.getElem?_cons_zero, List.getElem?_cons_succ, Option.some.injEq] at ho
              subst ho
              cases hg; exact hR
            | 30, _ =>
              simp only [List.getElem?_toArray, List.getElem?_cons_zero, List.getElem?_cons_succ, Option.some.injEq] at ho
              subst ho
              cases hg
            | k + 31, hi => exact absurd hi (by omega)
          · intro i hi o ho a u hG hk hd
            have hG9 : Below wq.heap.size wq u := ((Below.refl _ _).drew).trans hG
            match i, hi with
            | 0, _ =>
              simp only [List.getElem?_toArray, List.getElem?_cons_zero, List.getElem?_cons_succ, Option.some.injEq] at ho
              subst ho
              exact ow_move rfl ((hk 5 (by decide)).trans rfl) ⟨_, rfl, rfl, Below.refl _ _, fun h => by cases h⟩
            | 1, _ =>
              simp only [List.getElem?_toArray, List.getElem?_cons_zero, List.getElem?_cons_succ, Option.some.injEq] at ho
              subst ho
              exact ow_move rfl ((hk 7 (by decide)).trans rfl) ⟨_, rfl, rfl, Below.refl _ _, fun h => by cases h⟩
            | 2, _ =>
              simp only [List.getElem?_toArray, List.getElem?_cons_zero, List.getElem?_cons_succ, Option.some.injEq] at ho
              subst ho
              have e37 : a.eval (.tmp 37) = .slice (some ⟨gs, 0, none⟩) D.length cS := hd 0 (by kernel_rfl) (by decide)
              have e38 : a.eval (.tmp 38) = .int .i64 (k : Int) := hd 1 (by kernel_rfl) (by decide)
              exact ow_index_saids hlt rfl e37 e38 ⟨_, rfl, rfl, Below.refl _ _, fun h => by cases h⟩
            | 3, _ =>
              simp only [List.getElem?_toArray, List.getElem?_cons_zero, List.getElem?_cons_succ, Option.some.injEq] at ho
              subst ho
              have e39 : a.eval (.tmp 39) = _ := hd 2 (by kernel_rfl) (by decide)
              exact ow_field_said (i := 0) (by decide) rfl e39 ⟨_, rfl, rfl, Below.refl _ _, fun h => by cases h⟩
            | 4, _ =>
              simp only [List.getElem?_toArray, List.getElem?_cons_zero, List.getElem?_cons_succ, Option.some.injEq] at ho
              subst ho
              have e40 : a.eval (.tmp 40) = _ := hd 3 (by kernel_rfl) (by decide)
              exact ow_load_bool rfl e40 (cell_kept hG9 q0) ⟨_, rfl, rfl, Below.refl _ _, fun h => by cases h⟩
            | 5, _ =>
              simp only [List.getElem?_toArray, List.getElem?_cons_zero, List.getElem?_cons_succ, Option.some.injEq] at ho
              subst ho
              exact ow_field_want (i := 0) (by decide) rfl ((hk 8 (by decide)).trans rfl) ⟨_, rfl, rfl, Below.refl _ _, fun h => by cases h⟩
            | 6, _ =>
              simp only [List.getElem?_toArray, List.getElem?_cons_zero, List.getElem?_cons_succ, Option.some.injEq] at ho
              subst ho
              have e42 : a.eval (.tmp 42) = _ := hd 5 (by kernel_rfl) (by decide)
              exact ow_load_bool rfl e42 (cell_kept hG9 p0) ⟨_, rfl, rfl, Below.refl _ _, fun h => by cases h⟩
            | 7, _ =>
              simp only [List.getElem?_toArray, List.getElem?_cons_zero, List.getElem?_cons_succ, Option.some.injEq] at ho
              subst ho
              have e41 : a.eval (.tmp 41) = _ := hd 4 (by kernel_rfl) (by decide)
              have e43 : a.eval (.tmp 43) = _ := hd 6 (by kernel_rfl) (by decide)
              exact ow_neq_bool rfl e41 e43 ⟨_, rfl, congrArg Value.bool (by simp), Below.refl _ _, fun h => by cases h⟩
            | 8, _ =>
              simp only [List.getElem?_toArray, List.getElem?_cons_zero, List.getElem?_cons_succ, Option.some.injEq] at ho
              subst ho
              have e44 : a.eval (.tmp 44) = _ := hd 7 (by kernel_rfl) (by decide)
              exact ow_move rfl e44 ⟨_, rfl, rfl, Below.refl _ _, fun h => by cases h⟩
            | 9, _ =>
              simp only [List.getElem?_toArray, List.getElem?_cons_zero, List.getElem?_cons_succ, Option.some.injEq] at ho
              subst ho
              exact ow_move rfl ((hk 5 (by decide)).trans rfl) ⟨_, rfl, rfl, Below.refl _ _, fun h => by cases h⟩
            | 10, _ =>
              simp only [List.getElem?_toArray, List.getElem?_cons_zero, List.getElem?_cons_succ, Option.some.injEq] at ho
              subst ho
              exact ow_move rfl ((hk 7 (by decide)).trans rfl) ⟨_, rfl, rfl, Below.refl _ _, fun h => by cases h⟩
            | 11, _ =>
              simp only [List.getElem?_toArray, List.getElem?_cons_zero, List.getElem?_cons_succ, Option.some.injEq] at ho
              subst ho
              have e46 : a.eval (.tmp 46) = .slice (some ⟨gs, 0, none⟩) D.length cS := hd 9 (by kernel_rfl) (by decide)
              have e47 : a.eval (.tmp 47) = .int .i64 (k : Int) := hd 10 (by kernel_rfl) (by decide)
              exact ow_index_saids hlt rfl e46 e47 ⟨_, rfl, rfl, Below.refl _ _, fun h => by cases h⟩
            | 12, _ =>
              simp only [List.getElem?_toArray, List.getElem?_cons_zero, List.getElem?_cons_succ, Option.some.injEq] at ho
              subst ho
              have e48 : a.eval (.tmp 48) = _ := hd 11 (by kernel_rfl) (by decide)
              exact ow_field_said (i := 1) (by decide) rfl e48 ⟨_, rfl, rfl, Below.refl _ _, fun h => by cases h⟩
            | 13, _ =>
              simp only [List.getElem?_toArray, List.getElem?_cons_zero, List.getElem?_cons_succ, Option.some.injEq] at ho
              subst ho
              have e49 : a.eval (.tmp 49) = _ := hd 12 (by kernel_rfl) (by decide)
              exact ow_load_i64s rfl e49 (cell_kept hG9 q1) ⟨_, rfl, rfl, Below.refl _ _, fun h => by cases h⟩
            | 14, _ =>
              simp only [List.getElem?_toArray, List.getElem?_cons_zero, List.getElem?_cons_succ, Option.some.injEq] at ho
              subst ho
              exact ow_field_want (i := 1) (by decide) rfl ((hk 8 (by decide)).trans rfl) ⟨_, rfl, rfl, Below.refl _ _, fun h => by cases h⟩
            | 15, _ =>
              simp only [List.getElem?_toArray, List.getElem?_cons_zero, List.getElem?_cons_succ, Option.some.injEq] at ho
              subst ho
              have e51 : a.eval (.tmp 51) = _ := hd 14 (by kernel_rfl) (by decide)
              exact ow_load_i64s rfl e51 (cell_kept hG9 p1) ⟨_, rfl, rfl, Below.refl _ _, fun h => by cases h⟩
            | 16, _ =>
              simp only [List.getElem?_toArray, List.getElem?_cons_zero, List.getElem?_cons_succ, Option.some.injEq] at ho
              subst ho
              have e50 : a.eval (.tmp 50) = _ := hd 13 (by kernel_rfl) (by decide)
              have e52 : a.eval (.tmp 52) = _ := hd 15 (by kernel_rfl) (by decide)
              refine ow_call #[.tmp 50, .tmp 52] #[27, 27] 23 Tryd.func23 (by kernel_rfl) (by rfl) rfl #[_, _] (by simp only [List.map_toArray, List.map_cons, List.map_nil, e50, e52]) (HA1.out u hG9) ?_
              rintro e u2 ⟨rfl, hb2⟩
              exact ⟨_, rfl, _, rfl, rfl, hb2, fun h => by cases h⟩
            | 17, _ =>
              simp only [List.getElem?_toArray, List.getElem?_cons_zero, List.getElem?_cons_succ, Option.some.injEq] at ho
              subst ho
              have e53 : a.eval (.tmp 53) = _ := hd 16 (by kernel_rfl) (by decide)
              exact ow_not rfl e53 ⟨_, rfl, rfl, Below.refl _ _, fun h => by cases h⟩
            | 18, _ =>
              simp only [List.getElem?_toArray, List.getElem?_cons_zero, List.getElem?_cons_succ, Option.some.injEq] at ho
              subst ho
              have e45 : a.eval (.tmp 45) = _ := hd 8 (by kernel_rfl) (by decide)
              have e54 : a.eval (.tmp 54) = _ := hd 17 (by kernel_rfl) (by decide)
              exact ow_pick_no rfl e45 e54 ⟨_, rfl, rfl, Below.refl _ _, fun h => by cases h⟩
            | 19, _ =>
              simp only [List.getElem?_toArray, List.getElem?_cons_zero, List.getElem?_cons_succ, Option.some.injEq] at ho
              subst ho
              have e55 : a.eval (.tmp 55) = _ := hd 18 (by kernel_rfl) (by decide)
              exact ow_move rfl e55 ⟨_, rfl, rfl, Below.refl _ _, fun h => by cases h⟩
            | 20, _ =>
              simp only [List.getElem?_toArray, List.getElem?_cons_zero, List.getElem?_cons_succ, Option.some.injEq] at ho
              subst ho
              exact ow_move rfl ((hk 5 (by decide)).trans rfl) ⟨_, rfl, rfl, Below.refl _ _, fun h => by cases h⟩
            | 21, _ =>
              simp only [List.getElem?_toArray, List.getElem?_cons_zero, List.getElem?_cons_succ, Option.some.injEq] at ho
              subst ho
              exact ow_move rfl ((hk 7 (by decide)).trans rfl) ⟨_, rfl, rfl, Below.refl _ _, fun h => by cases h⟩
            | 22, _ =>
              simp only [List.getElem?_toArray, List.getElem?_cons_zero, List.getElem?_cons_succ, Option.some.injEq] at ho
              subst ho
              have e57 : a.eval (.tmp 57) = .slice (some ⟨gs, 0, none⟩) D.length cS := hd 20 (by kernel_rfl) (by decide)
              have e58 : a.eval (.tmp 58) = .int .i64 (k : Int) := hd 21 (by kernel_rfl) (by decide)
              exact ow_index_saids hlt rfl e57 e58 ⟨_, rfl, rfl, Below.refl _ _, fun h => by cases h⟩
            | 23, _ =>
              simp only [List.getElem?_toArray, List.getElem?_cons_zero, List.getElem?_cons_succ, Option.some.injEq] at ho
              subst ho
              have e59 : a.eval (.tmp 59) = _ := hd 22 (by kernel_rfl) (by decide)
              exact ow_field_said (i := 2) (by decide) rfl e59 ⟨_, rfl, rfl, Below.refl _ _, fun h => by cases h⟩
            | 24, _ =>
              simp only [List.getElem?_toArray, List.getElem?_cons_zero, List.getElem?_cons_succ, Option.some.injEq] at ho
              subst ho
              have e60 : a.eval (.tmp 60) = _ := hd 23 (by kernel_rfl) (by decide)
              exact ow_load_texts rfl e60 (cell_kept hG9 q2) ⟨_, rfl, rfl, Below.refl _ _, fun h => by cases h⟩
            | 25, _ =>
              simp only [List.getElem?_toArray, List.getElem?_cons_zero, List.getElem?_cons_succ, Option.some.injEq] at ho
              subst ho
              exact ow_field_want (i := 1) (by decide) rfl ((hk 8 (by decide)).trans rfl) ⟨_, rfl, rfl, Below.refl _ _, fun h => by cases h⟩
            | 26, _ =>
              simp only [List.getElem?_toArray, List.getElem?_cons_zero, List.getElem?_cons_succ, Option.some.injEq] at ho
              subst ho
              have e62 : a.eval (.tmp 62) = _ := hd 25 (by kernel_rfl) (by decide)
              exact ow_load_i64s rfl e62 (cell_kept hG9 p1) ⟨_, rfl, rfl, Below.refl _ _, fun h => by cases h⟩
            | 27, _ =>
              simp only [List.getElem?_toArray, List.getElem?_cons_zero, List.getElem?_cons_succ, Option.some.injEq] at ho
              subst ho
              have e63 : a.eval (.tmp 63) = _ := hd 26 (by kernel_rfl) (by decide)
              refine ow_call #[.tmp 63, .func 19] #[27, 49] 25 Tryd.func25 (by kernel_rfl) (by rfl) rfl #[_, .func (.func 19) #[] #[]] (by simp only [List.map_toArray, List.map_cons, List.map_nil, e63]; rfl) (HSH.out u hG9) ?_
              rintro e u2 ⟨As, cs9, rfl, hrs, hb2⟩
              exact ⟨_, rfl, _, rfl, ⟨_, _, rfl, hrs⟩, hb2, fun h => by cases h⟩
            | 28, _ =>
              simp only [List.getElem?_toArray, List.getElem?_cons_zero, List.getElem?_cons_succ, Option.some.injEq] at ho
              subst ho
              have e61 : a.eval (.tmp 61) = _ := hd 24 (by kernel_rfl) (by decide)
              obtain ⟨As, cs9, es, hrs⟩ := hd 27 (by kernel_rfl) (by decide)
              have e64 : a.eval (.tmp 64) = _ := es
              refine ow_call #[.tmp 61, .tmp 64] #[23, 23] 24 Tryd.func24 (by kernel_rfl) (by rfl) rfl #[_, _] (by simp only [List.map_toArray, List.map_cons, List.map_nil, e61, e64]) (HA2.out u hG9 As cs9 hrs) ?_
              rintro e u2 ⟨rfl, hb2⟩
              exact ⟨_, rfl, _, rfl, rfl, hb2, fun h => by cases h⟩
            | 29, _ =>
              simp only [List.getElem?_toArray, List.getElem?_cons_zero, List.getElem?_cons_succ, Option.some.injEq] at ho
              subst ho
              have e65 : a.eval (.tmp 65) = _ := hd 28 (by kernel_rfl) (by decide)
              exact ow_not rfl e65 ⟨_, rfl, rfl, Below.refl _ _, fun h => by cases h⟩
            | 30, _ =>
              simp only [List.getElem?_toArray, List.getElem?_cons_zero, List.getElem?_cons_succ, Option.some.injEq] at ho
              subst ho
              have e56 : a.eval (.tmp 56) = _ := hd 19 (by kernel_rfl) (by decide)
              have e66 : a.eval (.tmp 66) = _ := hd 29 (by kernel_rfl) (by decide)
              exact ow_pick_no rfl e56 e66 ⟨_, rfl, rfl, Below.refl _ _, fun h => by cases h⟩
            | k + 31, hi => exact absurd hi (by omega)
          · intro x u hG hx hdif
            have hG9 : Below wq.heap.size wq u := ((Below.refl _ _).drew).trans hG
            have hlast : x 30 = .bool false := hx 30 (by decide)
            simp only [putAll, Act.put, List.getD_cons_zero, List.getD_cons_succ, List.setIfInBounds_toArray, List.set_cons_succ, List.set_cons_zero]
            refine wpAny_end (by kernel_rfl) ?_
            rw [hlast]
            clear hx hdif
            go_wp2
            go_roundw
            case rel => exact ⟨k + 1, by omega, by go_num, below_step hbq hG9⟩
            case measure => simp [intOf]; omega
        · go_wp2
          go_ret
          exact ⟨rfl, below_step hb05 hbel⟩
    · have h7 : fits7 L = false := by simpa using h7
      rw [h7] at HF
      clear hv hv0 hx hw he1 he2 hp
      go_enter Tryd.func6, Tryd.ntmps6
      go_wp2_with (go_at_call 9; refine (HF.out).mono ?_; rintro e w1 ⟨rfl, hb1⟩)
      go_ret
      exact ⟨rfl, hb1⟩
end Go.Proofs.YtdmpeecocfoocaaDoor.E

namespace Go.Proofs.YtdmpeecocfoocaaDoor.E
open Go.ChangeShapes Go.WideShapes Go.ChangeAt Go.RowKit
set_option linter.unusedVariables false
set_option linter.unusedSimpArgs false
theorem int_wf {n : Int} (h : (Lit.int .i64 n).wf = true) : -9223372036854775808 ≤ n ∧ n ≤ 9223372036854775807 := by
  have h1 : IntKind.i64.min = -9223372036854775808 := rfl
  have h2 : IntKind.i64.max = 9223372036854775807 := rfl
  simp [Lit.wf, h1, h2] at h
  omega

theorem bulk_one {H : Type} (d : DataW H) : 1 ≤ Rows.uptoBulk d := by
  cases d with
  | lit l => cases l <;> simp [Rows.uptoBulk]
  | nil => simp [Rows.uptoBulk]
  | ptr d => simp [Rows.uptoBulk]
  | slice elems spare => simp [Rows.uptoBulk]
  | agg parts => simp [Rows.uptoBulk]
  | iface t d => simp [Rows.uptoBulk]
  | map entries => simp [Rows.uptoBulk]
  | held h => simp [Rows.uptoBulk]
theorem bulk_len {H : Type} : ∀ (l : List (DataW H)), l.length ≤ Rows.uptoBulkAll l
  | [] => by simp [Rows.uptoBulkAll]
  | d :: r => by have := bulk_one d; have := bulk_len r; simp only [Rows.uptoBulkAll, List.length_cons]; omega
theorem bulk_append {H : Type} : ∀ (l r : List (DataW H)), Rows.uptoBulkAll (l ++ r) = Rows.uptoBulkAll l + Rows.uptoBulkAll r
  | [], r => by simp [Rows.uptoBulkAll]
  | x :: l, r => by simp only [List.cons_append, Rows.uptoBulkAll, bulk_append l r]; omega

/-- A list of integers that came in. -/
theorem open_ints64 {H : Type} {enc : TypeId × Value → H} {P : Program} {W : World} {base : Nat} {t e : TypeId} {v : Value} {d : DataW H} {p : List MemPlace}
    (ht : P.underlying t = some (.slice e)) (he : P.underlying e = some (.int .i64)) (hc : P.cellsOf e = 1) (hok : Value.okWide P W .any base t v)
    (h : DataW.Trod enc P W 0 (fun _ => true) true t v d p) : ∃ V A c, v = .slice A V.length c ∧ IntsIn W A c V ∧ InR V ∧ V.length ≤ Rows.uptoBulk d := by
  obtain ⟨a0, len, cap, rfl⟩ := okWide_slice ht hok
  obtain ⟨fuel, hf⟩ := h
  rcases open_ints ht he hc hf with ⟨hcs, hx⟩ | ⟨a, len', cap', zs, hcs, _, hl, hm, hz, hx, hcell, hwz⟩
  · simp [Value.cells] at hcs
    obtain ⟨rfl, rfl, rfl⟩ := hcs
    exact ⟨[], none, 0, rfl, ⟨fun _ => ⟨rfl, rfl⟩, by simp, fun ad h => by cases h⟩, (fun n hn => by cases hn), by simp⟩
  · simp [Value.cells] at hcs
    obtain ⟨rfl, rfl, rfl⟩ := hcs
    simp only [if_true] at hz
    have hn : (zs.take len).length = len := by rw [List.length_take]; omega
    refine ⟨zs.take len, some a, cap, by rw [hn], ⟨(fun h => by cases h), by rw [hn]; exact hl, ?_⟩, fun n hm2 => int_wf (hwz n (List.mem_of_mem_take hm2)), ?_⟩
    · intro ad had j u hu
      obtain rfl := Option.some.inj had
      have hj : j < len := by
        have := (List.getElem?_eq_some_iff.1 hu).1
        simp [i64s] at this
        omega
      have hj2 : j < zs.length := by omega
      rw [hcell j hj2]
      have e1 : (i64s (zs.take len))[j]? = some (.int .i64 zs[j]) := by
        unfold i64s
        rw [List.getElem?_map, List.getElem?_take, if_pos hj, List.getElem?_eq_getElem hj2]; rfl
      rw [e1] at hu
      rw [← hu]
      simp [List.getD, hj2]
    · have e1 := congrArg Prod.fst hx
      simp only at e1
      rw [e1, hn]
      simp only [Rows.uptoBulk]
      have := bulk_len (H := H) (lits .i64 (zs.take len))
      simp only [lits, List.length_map, hn] at this
      simp only [lits]
      omega

theorem texts_of_trod2 {H : Type} {enc : TypeId × Value → H} {P : Program} {W : World} {t e : TypeId} {fuel : Nat} {cs : List Value} {x : DataW H × List MemPlace}
    (ht : P.underlying t = some (.slice e)) (he : P.underlying e = some .string) (hc : P.cellsOf e = 1) (h : DataW.trod enc P W 0 (fun _ => true) true fuel t cs = some x) :
    ∃ v xs, cs = [v] ∧ Texts W v xs ∧ xs.length + 1 ≤ Rows.uptoBulk x.1 := by
  rcases open_strings ht he hc h with ⟨hcs, hx⟩ | ⟨a, len', cap', zs, hcs, _, hl, hm, hz, hx, hcell, hwz⟩
  · exact ⟨_, [], hcs, Texts.nil W, by simp [bulk_one]⟩
  · simp only [if_true] at hz
    unfold maxLen at hm
    have hn : (zs.take len').length = len' := by rw [List.length_take]; omega
    refine ⟨_, zs.take len', hcs, ⟨some a, cap', by rw [hn], ?_, by rw [hn]; omega, by omega, fun h => by cases h⟩, ?_⟩
    · intro i hi
      rw [hn] at hi
      obtain ⟨b, o, spot⟩ := a
      have hc := hcell i (by omega)
      obtain rfl : spot = none := by simpa [Addr.add] using World.cell?_spot (hcell 0 (by omega))
      refine ⟨b, o, rfl, ?_⟩
      rw [Addr.add_mid] at hc
      rw [hc]
      simp only [tx, List.getD_eq_getElem?_getD, List.getElem?_take]
      rw [if_pos hi]
    · have e1 := congrArg Prod.fst hx
      simp only at e1
      rw [e1, hn]
      simp only [Rows.uptoBulk]
      have := bulk_len (H := H) (strs (zs.take len'))
      simp only [strs, List.length_map, hn] at this
      simp only [strs]
      omega

theorem wts_le {H : Type} : ∀ (L : List StepL) (ds : List (DataW H)), ds.length = L.length → (∀ i (h : i < L.length) d, ds[i]? = some d → wt L[i] ≤ Rows.uptoBulk d) → wts L ≤ Rows.uptoBulkAll ds
  | [], ds, hl, h => by simp [wts]
  | x :: r, [], hl, h => by simp at hl
  | x :: r, d :: ds, hl, h => by
    have h0 := h 0 (by simp) d rfl
    have h1 := wts_le r ds (by simpa using hl) (fun i hi d' hd => by have := h (i + 1) (by simpa using hi) d' (by simpa using hd); simpa using this)
    simp only [wts, Rows.uptoBulkAll]
    simp at h0
    omega

/-- A list of steps that came in. -/
theorem open_steps2 {H : Type} {enc : TypeId × Value → H} {P : Program} {W : World} {base : Nat} {t e es : TypeId} {v : Value} {d : DataW H} {p : List MemPlace} {f0 f1 f2 : Field}
    (ht : P.underlying t = some (.slice e)) (he : P.underlying e = some (.struct #[f0, f1, f2])) (h3 : P.cellsOf e = 3)
    (o0 : f0.offset = 0) (o1 : f1.offset = 1) (o2 : f2.offset = 2) (c0 : P.cellsOf f0.type = 1) (c1 : P.cellsOf f1.type = 1) (c2 : P.cellsOf f2.type = 1)
    (u0 : P.underlying f0.type = some (.int .i64)) (u1 : P.underlying f1.type = some .string) (u2 : P.underlying f2.type = some (.slice es)) (us : P.underlying es = some .string) (hcs : P.cellsOf es = 1)
    (hok : Value.okWide P W .any base t v) (h : DataW.Trod enc P W 0 (fun _ => true) true t v d p) :
    ∃ (L : List StepL) (A : Option Addr) (cap : Nat), v = .slice A L.length cap ∧ StepsAt W A L ∧ L.length ≤ cap ∧ cap ≤ 9223372036854775807 ∧ wts L ≤ Rows.uptoBulk d := by
  obtain ⟨A0, len, cap, rfl⟩ := okWide_slice ht hok
  obtain ⟨fuel, hf⟩ := h
  rcases DataW.trod_slice ht hf with ⟨hc, hx⟩ | ⟨a, len', cap', elems, rest, n, _, hc, hxx, hb, hl, hm, hlen, hel, _, _⟩
  · simp [Value.cells] at hc
    obtain ⟨rfl, rfl, rfl⟩ := hc
    exact ⟨[], none, 0, rfl, fun i hi => by simp at hi, by simp, by simp, by simp [wts]⟩
  · simp [Value.cells] at hc
    obtain ⟨rfl, rfl, rfl⟩ := hc
    have each : ∀ i, i < len → ∃ s : StepL, ∃ v, W.cell? (a.add (i * 3)) = some (.int .i64 s.act) ∧ W.cell? ((a.add (i * 3)).add 1) = some (.string s.text) ∧ W.cell? ((a.add (i * 3)).add 2) = some v ∧ Texts W v s.texts ∧ ∀ pr, elems[i]? = some pr → wt s ≤ Rows.uptoBulk pr.1 := by
      intro i hi
      have hi2 := hel i hi
      rw [h3, List.getElem?_eq_getElem (by omega), Option.bind_eq_some_iff] at hi2
      obtain ⟨cs', hcs', htr⟩ := hi2
      obtain ⟨xs, m, _, hx1, hl1, hl2, hfl⟩ := DataW.trod_struct he htr
      obtain ⟨hb1, hl3, hcell⟩ := World.cells?_some hcs'
      have y0 := hfl 0 f0 rfl
      have y1 := hfl 1 f1 rfl
      have y2 := hfl 2 f2 rfl
      rw [o0, c0] at y0
      rw [o1, c1] at y1
      rw [o2, c2] at y2
      have hxl : xs.length = 3 := by simpa using hl2
      obtain ⟨p0, p1, p2, rfl⟩ : ∃ p0 p1 p2, xs = [p0, p1, p2] := by
        match xs, hxl with
        | [p0, p1, p2], _ => exact ⟨p0, p1, p2, rfl⟩
      obtain ⟨q0, q1, q2, rfl⟩ : ∃ q0 q1 q2, cs' = [q0, q1, q2] := by
        match cs', hl3 with
        | [q0, q1, q2], _ => exact ⟨q0, q1, q2, rfl⟩
      simp only [List.drop_zero, List.drop_succ_cons, List.take_succ_cons, List.take_zero, List.getElem?_cons_zero, List.getElem?_cons_succ] at y0 y1 y2
      obtain ⟨k, e0, g0, _⟩ := DataW.trod_int u0 y0
      obtain ⟨s, e1, g1, _⟩ := DataW.trod_string u1 y1
      obtain ⟨v, zs, e2, hz, hbz⟩ := texts_of_trod2 u2 us hcs y2
      simp only [List.cons.injEq, and_true] at e0 e1 e2
      subst e0 e1 e2
      refine ⟨⟨k, s, zs⟩, _, ?_, ?_, ?_, hz, ?_⟩
      · have := hcell 0 (by omega)
        rw [show (a.add (i * 3)).add 0 = a.add (i * 3) by simp [Addr.add]] at this
        simpa using this
      · have := hcell 1 (by omega); simpa using this
      · have := hcell 2 (by omega); simpa using this
      · intro pr hpr
        rw [List.getElem?_eq_getElem (by omega)] at hpr
        have hpr := Option.some.inj hpr
        rw [hpr] at hx1
        rw [hx1]
        subst g0 g1
        simp only [List.map_cons, List.map_nil, Rows.uptoBulk, Rows.uptoBulkAll, wt]
        have : s.data.toList.length = s.size := by simp
        omega
    obtain ⟨L, hL, hQ⟩ := list_of_each len each
    refine ⟨L, some a, cap, by rw [hL], ?_, by rw [hL]; exact hl, by unfold maxLen at hm; omega, ?_⟩
    · intro i hi
      obtain ⟨v, k0, k1, k2, k3, _⟩ := hQ i hi
      obtain ⟨vz, z0, _⟩ := hQ 0 (by omega)
      obtain ⟨b, o, spot⟩ := a
      obtain rfl : spot = none := by simpa [Addr.add] using World.cell?_spot z0
      rw [Addr.add_mid] at k0 k1 k2
      rw [Addr.add_mid] at k1 k2
      exact ⟨b, o, v, rfl, k0, k1, k2, k3⟩
    · have e1 := congrArg Prod.fst hxx
      simp only at e1
      rw [e1]
      simp only [Rows.uptoBulk]
      have := wts_le (H := H) L (elems.map (·.1)) (by simp [hlen, hL]) (fun i hi d' hd => by
        obtain ⟨v, _, _, _, _, hw⟩ := hQ i hi
        rw [List.getElem?_map] at hd
        cases he2 : elems[i]? with
        | none => rw [he2] at hd; cases hd
        | some pr => rw [he2] at hd; cases hd; exact hw pr he2)
      omega
end Go.Proofs.YtdmpeecocfoocaaDoor.E
