/- The contract of impl.HexValue, over this seat's program. -/
import Derived.Test.YtnlmmkmbgjgdbaaDoorHexSet
import Derived.Test.YtnlmmkmbgjgdbaaDoorFits2
namespace Go.Proofs.YtnlmmkmbgjgdbaaDoor.E
open Go.RowKit Go.Proofs
set_option linter.unusedVariables false
set_option linter.unusedSimpArgs false

theorem Tryd.infoHS : (Tryd.prog.info? 53).map (fun i => (i.zero, i.size, i.bytes)) = some (some (.agg #[.bool false, .slice none 0 0]), 2, 32) := by kernel_rfl

/-- Rows of different element types lie apart. -/
theorem own_apart {w : World} {b e size n : Nat} {v : Value} {xs : List Value} {b' e' size' n' : Nat} {v' : Value} {xs' : List Value} (h : w.ownsRow b e size v n xs) (h' : w.ownsRow b' e' size' v' n' xs') (hne : e ≠ e') : v.ownBlock = none ∨ v.ownBlock ≠ v'.ownBlock := by
  rcases h.2 with ⟨rfl, _⟩ | ⟨g, cap, cur, rfl, _, hg, _⟩
  · exact .inl rfl
  · refine .inr ?_
    rcases h'.2 with ⟨rfl, _⟩ | ⟨g', cap', cur', rfl, _, hg', _⟩
    · simp [Value.ownBlock]
    · simp only [Value.ownBlock, ne_eq, Option.some.injEq]
      rintro rfl
      rw [hg] at hg'
      simp only [Option.some.injEq, Obj.cells.injEq] at hg'
      exact hne hg'.2.1

theorem own_setBelow {w w1 : World} {base e size n : Nat} {v u : Value} {xs : List Value} {b : Nat} (h : w.ownsRow base e size v n xs) (hb : b < base) (hw : w1 = w.setCell ⟨b, 0, none⟩ u) : w1.ownsRow base e size v n xs := by
  subst hw
  exact ownsRow_setCell_below h (a := ⟨b, 0, none⟩) hb u

/-- The answers so far: whether a text was refused, and a list of bytes of the call's own; what it is where it was not. -/
def HexRow (w : World) (base : Nat) (xs : List ByteArray) (k : Nat) (cs : List Value) : Prop :=
  ∀ j, j < k → ∃ A n c L, cs[2 * j]? = some (.bool (!hexGood (tx xs j))) ∧ cs[2 * j + 1]? = some (.slice A n c) ∧ w.ownsRow base 5 1 (.slice A n c) n (byteVals L) ∧ (hexGood (tx xs j) = true → L = hexGot (tx xs j))

theorem HexRow.kept {w w1 : World} {base : Nat} {xs : List ByteArray} {k : Nat} {cs : List Value} (h : HexRow w base xs k cs) (hk : ∀ (v : Value) (n : Nat) (ys : List Value), w.ownsRow base 5 1 v n ys → w1.ownsRow base 5 1 v n ys) : HexRow w1 base xs k cs := by
  intro j hj
  obtain ⟨A, n, c, L, h1, h2, h3, h4⟩ := h j hj
  exact ⟨A, n, c, L, h1, h2, hk _ _ _ h3, h4⟩

theorem HexRow.snoc {w : World} {base : Nat} {xs : List ByteArray} {k : Nat} {cs : List Value} (h : HexRow w base xs k cs) (hl : cs.length = k * 2) {A : Option Addr} {n c : Nat} {L : List UInt8}
    (hown : w.ownsRow base 5 1 (.slice A n c) n (byteVals L)) (hL : hexGood (tx xs k) = true → L = hexGot (tx xs k)) : HexRow w base xs (k + 1) (cs ++ [.bool (!hexGood (tx xs k)), .slice A n c]) := by
  intro j hj
  by_cases e : j = k
  · subst e
    refine ⟨A, n, c, L, ?_, ?_, hown, hL⟩
    · rw [List.getElem?_append_right (by omega), show 2 * j - cs.length = 0 by omega]; rfl
    · rw [List.getElem?_append_right (by omega), show 2 * j + 1 - cs.length = 1 by omega]; rfl
  · obtain ⟨A', n', c', L', h1, h2, h3, h4⟩ := h j (by omega)
    exact ⟨A', n', c', L', by rw [List.getElem?_append_left (by omega)]; exact h1, by rw [List.getElem?_append_left (by omega)]; exact h2, h3, h4⟩

/-- Append at a step of a region that draws its order: a list that lies anywhere, to a list of the call's own. -/
theorem step_append_any {P : Program} {w : World} {ops : Array Oper} {o : Oper} {a : Act} {K : Act → World → Prop} {Q : Exit → Act → World → Prop} {E : Prop} (hgd : o.guard = none) (s x : Operand) (t : TypeId)
    (ho : o.op = .call { callee := .builtin .append, args := #[s, x], argTypes := #[t, t] })
    (base : Nat) (e : TypeId) (i : TypeInfo) (z : Value) (size bytes : Nat) (ht : P.underlying t = some (.slice e)) (hi : P.info? e = some i) (hz : i.zero = some z)
    (hsize : i.size = size) (hby : i.bytes = bytes) (hzs : z.cells.size = size) (hsz : 0 < size)
    (v : Value) (n : Nat) (xs : List Value) (hs : a.eval s = v) (hown : w.ownsRow base e size v n xs)
    (A : Option Addr) (m c : Nat) (news : List Value) (hx : a.eval x = .slice A m c) (hA : A = none → m = 0 ∧ c = 0) (hl : news.length = m * size)
    (hnews : ∀ ad, A = some ad → ∀ j u, news[j]? = some u → w.cell? (ad.add j) = some u) (h1 : ∀ u ∈ news, u.oneCell' = true)
    (h63 : n + m ≤ maxLen) (hbytes : (n + m) * bytes ≤ 140737488355328) (hbase : base ≤ w.heap.size)
    (h : ∀ v' w', w'.ownsRow base e size v' (n + m) (xs ++ news) → w.grownBy w' v.ownBlock → K (a.put o.dst v') w') :
    if Region.wanted o (yielded ops a.tmps) = true then Oper.wp P o a w K Q else E := by
  have hw : Region.wanted o (yielded ops a.tmps) = true := by simp [Region.wanted, hgd]
  rw [if_pos hw]
  cases A with
  | none =>
    obtain ⟨rfl, rfl⟩ := hA rfl
    have hn : news = [] := by apply List.eq_nil_of_length_eq_zero; simpa using hl
    subst hn
    have hrun := run_append_owned_none (P := P) (w := w) base t o.type e i size ht hi v n xs hown
    unfold Oper.wp
    simp [execOp, ho, resolve, invoke, builtin, hs, hx, hrun, Result.andThen]
    exact h v w (by simpa using hown) ⟨rfl, rfl, rfl, Nat.le_refl _, fun _ _ _ => rfl⟩
  | some ad =>
    exact wp_append_own w s x t ho base e i z size bytes ht hi hz hsize hby hzs hsz v n xs hs hown ad m c news hx hl (hnews ad rfl) h1 h63 hbytes hbase fun v' w' h2 h3 _ => h v' w' h2 h3

/-- The same, to a list that is made there and empty: what comes of it is of the call's own. -/
theorem step_append_new {P : Program} {w : World} {ops : Array Oper} {o : Oper} {a : Act} {K : Act → World → Prop} {Q : Exit → Act → World → Prop} {E : Prop} (hgd : o.guard = none) (s x : Operand) (t : TypeId)
    (ho : o.op = .call { callee := .builtin .append, args := #[s, x], argTypes := #[t, t] })
    (base : Nat) (e : TypeId) (i : TypeInfo) (z : Value) (size bytes : Nat) (ht : P.underlying t = some (.slice e)) (hi : P.info? e = some i) (hz : i.zero = some z)
    (hsize : i.size = size) (hby : i.bytes = bytes) (hzs : z.cells.size = size) (hsz : 0 < size)
    (b : Nat) (hs : a.eval s = .slice (some ⟨b, 0, none⟩) 0 0) (hown : w.ownsRow base e size (.slice (some ⟨b, 0, none⟩) 0 0) 0 [])
    (A : Option Addr) (m c : Nat) (news : List Value) (hx : a.eval x = .slice A m c) (hA : A = none → m = 0 ∧ c = 0) (hl : news.length = m * size)
    (hnews : ∀ ad, A = some ad → ∀ j u, news[j]? = some u → w.cell? (ad.add j) = some u) (h1 : ∀ u ∈ news, u.oneCell' = true)
    (h63 : m ≤ maxLen) (hbytes : m * bytes ≤ 140737488355328) (hbase : base ≤ w.heap.size)
    (h : ∀ A' c' w', w'.ownsRow base e size (.slice A' m c') m news → Below base w w' → K (a.put o.dst (.slice A' m c')) w') :
    if Region.wanted o (yielded ops a.tmps) = true then Oper.wp P o a w K Q else E := by
  refine step_append_any hgd s x t ho base e i z size bytes ht hi hz hsize hby hzs hsz _ 0 [] hs hown A m c news hx hA hl hnews h1 (by omega) (by simpa using hbytes) hbase ?_
  intro v' w' h2 h3
  rw [Nat.zero_add, List.nil_append] at h2
  obtain ⟨A', c', rfl, _, _, _⟩ := own_slice h2
  exact h A' c' w' h2 ((Below.refl base w).grown h3 hbase (fun k hk => (hown.lt k hk).1))

theorem byteVals_one {l : List UInt8} : ∀ u ∈ byteVals l, u.oneCell' = true := by
  intro u hu
  obtain ⟨b, _, rfl⟩ := List.mem_map.1 hu
  rfl

theorem row_news {w : World} {A : Option Addr} {cs : List Value} (h : RowAt w A cs) : ∀ ad, A = some ad → ∀ j u, cs[j]? = some u → w.cell? (ad.add j) = some u := by
  intro ad hA j u hu
  obtain ⟨g, e, hc⟩ := h j u hu
  rw [hA] at e
  obtain rfl := Option.some.inj e
  rw [Addr.add_mid, Nat.zero_add]
  exact hc
/-- What HexValue leaves. -/
def HexAll (xs : List ByteArray) (w : World) (e : Ending) (w' : World) : Prop := ∃ A c cs, e = .returned (.slice A xs.length c) ∧ cs.length = xs.length * 2 ∧ RowAt w' A cs ∧ HexRow w' (w.heap.size + 1) xs xs.length cs ∧ Below w.heap.size w w'

theorem hex_start {w w0 w1 : World} {A0 : Option Addr} {c0 : Nat} {L : List UInt8} (hp0 : w0.heap[w.heap.size]? = some (.cells #[.slice none 0 0] 26 (0, 0))) (ho : w0.ownsRow (w.heap.size + 1) 5 1 (.slice A0 L.length c0) L.length ([] ++ byteVals L)) (hb : Below w.heap.size w w0)
    (hw : w1 = w0.setCell ⟨w.heap.size, 0, none⟩ (.slice A0 L.length c0)) :
    w1.heap[w.heap.size]? = some (.cells #[.slice A0 L.length c0] 26 (0, 0)) ∧ w1.ownsRow (w.heap.size + 1) 5 1 (.slice A0 L.length c0) L.length (byteVals L) ∧ Below w.heap.size w w1 := by
  subst hw
  exact ⟨one_setCell hp0, ownsRow_setCell_below (by simpa using ho) (a := ⟨w.heap.size, 0, none⟩) (Nat.lt_succ_self _) _, hb.setCell (p := ⟨w.heap.size, 0, none⟩) (Nat.le_refl _) _⟩

/-- What a round's Set leaves, however it ends. -/
theorem hex_step {w wr w1 : World} {xs : List ByteArray} {k : Nat} {E u7 : Value} {cs : List Value} {A1 : Option Addr} {c1 : Nat} {L1 : List UInt8}
    (hset : (hexGood (tx xs k) = true ∧ E = .nilIface ∧ ∃ A c w2, Below wr.heap.size wr w2 ∧ w2.ownsRow wr.heap.size 5 1 (.slice A (hexGot (tx xs k)).length c) (hexGot (tx xs k)).length (byteVals (hexGot (tx xs k))) ∧ w1 = w2.setCell ⟨w.heap.size, 0, none⟩ (.slice A (hexGot (tx xs k)).length c)) ∨
      (hexGood (tx xs k) = false ∧ (∃ t v, E = .iface t v) ∧ Below wr.heap.size wr w1))
    (hs : (tx xs k).size ≤ 2147483647) (hown : wr.ownsRow (w.heap.size + 1) 53 2 u7 k cs) (hrow : HexRow wr (w.heap.size + 1) xs k cs)
    (hu : wr.heap[w.heap.size]? = some (.cells #[.slice A1 L1.length c1] 26 (0, 0))) (hownp : wr.ownsRow (w.heap.size + 1) 5 1 (.slice A1 L1.length c1) L1.length (byteVals L1)) (hL1 : L1.length ≤ 2147483647) (hbel : Below w.heap.size w wr) :
    ∃ A2 c2 L2, ((hexGood (tx xs k) = true ∧ E = .nilIface) ∨ (hexGood (tx xs k) = false ∧ ∃ t v, E = .iface t v)) ∧ w1.heap[w.heap.size]? = some (.cells #[.slice A2 (List.length L2) c2] 26 (0, 0)) ∧ w1.ownsRow (w.heap.size + 1) 5 1 (.slice A2 L2.length c2) L2.length (byteVals L2) ∧ L2.length ≤ 2147483647 ∧
      (hexGood (tx xs k) = true → L2 = hexGot (tx xs k)) ∧ w1.ownsRow (w.heap.size + 1) 53 2 u7 k cs ∧ HexRow w1 (w.heap.size + 1) xs k cs ∧ Below w.heap.size w w1 := by
  rcases hset with ⟨hg, hE, A, c, w2, hb, ho, hw⟩ | ⟨hg, hE, hb⟩
  · have hlt := lt_of_block hu
    refine ⟨A, c, hexGot (tx xs k), .inl ⟨hg, hE⟩, ?_, ?_, ?_, fun _ => rfl, ?_, ?_, ?_⟩
    · subst hw; exact one_setCell (block_kept hu hb)
    · exact own_setBelow (own_base ho hlt) (Nat.lt_succ_self _) hw
    · have := hexGot_len (tx xs k); omega
    · exact own_setBelow (own_kept hown hb) (Nat.lt_succ_self _) hw
    · exact hrow.kept fun v n ys h => own_setBelow (own_kept h hb) (Nat.lt_succ_self _) hw
    · subst hw; exact (below_step hbel hb).setCell (p := ⟨w.heap.size, 0, none⟩) (Nat.le_refl _) _
  · refine ⟨A1, c1, L1, .inr ⟨hg, hE⟩, block_kept hu hb, own_kept hownp hb, hL1, fun h => ?_, own_kept hown hb, hrow.kept fun v n ys h => own_kept h hb, below_step hbel hb⟩
    rw [hg] at h; cases h

theorem hex_mid {w w1 w3 : World} {b : Obj} {xs : List ByteArray} {k n : Nat} {u7 v : Value} {cs ys : List Value} {T : TypeId} (hb3 : Below w1.heap.size (w1.alloc b).drew w3) (hu1 : w1.heap[w.heap.size]? = some (.cells #[v] T (0, 0))) (hownp1 : w1.ownsRow (w.heap.size + 1) 5 1 v n ys)
    (hown1 : w1.ownsRow (w.heap.size + 1) 53 2 u7 k cs) (hrow1 : HexRow w1 (w.heap.size + 1) xs k cs) (hbel1 : Below w.heap.size w w1) :
    w3.cell? ⟨w.heap.size, 0, none⟩ = some v ∧ w3.heap[w.heap.size]? = some (.cells #[v] T (0, 0)) ∧ w3.ownsRow (w.heap.size + 1) 5 1 v n ys ∧ w3.ownsRow (w.heap.size + 1) 53 2 u7 k cs ∧ HexRow w3 (w.heap.size + 1) xs k cs ∧ Below w.heap.size w w3 ∧ w.heap.size < w3.heap.size ∧ u7.ownBlock ≠ some w.heap.size := by
  have hb : Below w1.heap.size w1 w3 := (((Below.refl _ _).alloc (Nat.le_refl _) _).drew).trans hb3
  exact ⟨cell_of_one (block_kept hu1 hb), block_kept hu1 hb, own_kept hownp1 hb, own_kept hown1 hb, hrow1.kept fun v n ys h => own_kept h hb, below_step hbel1 hb, Nat.lt_of_lt_of_le (lt_of_block hu1) hb.size, own_ne hown1 (Nat.lt_succ_self _)⟩

/-- A round's end. -/
theorem hex_end {w w3 w2 : World} {o : Obj} {xs : List ByteArray} {k n : Nat} {u7 v u : Value} {cs ys : List Value} {T : TypeId} {A3 : Option Addr} {c3 : Nat} {L2 : List UInt8}
    (hu : w3.heap[w.heap.size]? = some (.cells #[v] T (0, 0))) (hp : w3.ownsRow (w.heap.size + 1) 5 1 v n ys) (hown : w3.ownsRow (w.heap.size + 1) 53 2 u7 k cs) (hrow : HexRow w3 (w.heap.size + 1) xs k cs) (hbel : Below w.heap.size w w3)
    (h3 : w3.ownsRow (w.heap.size + 1) 5 1 (.slice A3 L2.length c3) L2.length (byteVals L2)) (hL : hexGood (tx xs k) = true → L2 = hexGot (tx xs k)) (hne : u7.ownBlock ≠ some w.heap.size) (hgrow : (w3.alloc o).grownBy w2 u7.ownBlock)
    (h2 : w2.ownsRow (w.heap.size + 1) 53 2 u (k + 1) (cs ++ [.bool (!hexGood (tx xs k)), .slice A3 L2.length c3])) :
    HexRow w2 (w.heap.size + 1) xs (k + 1) (cs ++ [.bool (!hexGood (tx xs k)), .slice A3 L2.length c3]) ∧ w2.heap[w.heap.size]? = some (.cells #[v] T (0, 0)) ∧ w2.ownsRow (w.heap.size + 1) 5 1 v n ys ∧ Below w.heap.size w w2 := by
  have hkeep : ∀ (v : Value) (n : Nat) (ys : List Value), w3.ownsRow (w.heap.size + 1) 5 1 v n ys → w2.ownsRow (w.heap.size + 1) 5 1 v n ys := fun v n ys h => (h.alloc o).kept hgrow (own_apart h hown (by decide))
  have hlt := lt_of_block hu
  refine ⟨(hrow.kept hkeep).snoc hown.1 (hkeep _ _ _ h3) hL, ?_, hkeep _ _ _ hp, (hbel.alloc (by omega) _).grown hgrow (by simp; omega) (fun b hb => by have := (hown.lt b hb).1; omega)⟩
  rw [hgrow.block w.heap.size (by simp; omega) (Ne.symm hne), Below.heap_alloc w3 _ _ hlt]
  exact hu

set_option maxRecDepth 100000 in
set_option maxHeartbeats 3200000 in
theorem hexValue_any (v : Value) (L : List UInt8) (A : Option Addr) (cap : Nat) (xs : List ByteArray) (w : World) (hv : BytesIn w v L) (hL : L.length ≤ 2147483647) (hx : StrsAt w A xs) (hm : xs.length ≤ 2147483647) (hs : ∀ j, j < xs.length → (tx xs j).size ≤ 2147483647) (ht : TrimTabs w) (he : SureErr 1 w) :
    Calls Tryd.prog 9 #[v, .slice A xs.length cap] w (HexAll xs w) := by
  obtain ⟨ti, hi, hz0, hz1, hz2⟩ := info_parts Tryd.infoHS
  obtain ⟨tb, gi, gz0, gz1, gz2⟩ := info_parts Tryd.infoB
  have HS := Lib.hid hs
  have HT := Lib.hid ht
  have HE := Lib.hid he
  clear hs ht he
  obtain ⟨B, cb, rfl, hLc, hB, hBn⟩ := hv
  have HBN := Lib.hid hBn
  clear hBn
  have HB0 : Hid (Below w.heap.size w ((w.alloc (.cells #[.slice none 0 0] 26)).alloc (.cells #[] 5))) := ((Below.refl _ _).alloc (Nat.le_refl _) _).alloc (by simp) _
  have HMADE : Hid (((w.alloc (.cells #[.slice none 0 0] 26)).alloc (.cells #[] 5)).ownsRow (w.heap.size + 1) 5 1 (.slice (some ⟨w.heap.size + 1, 0, none⟩) 0 0) 0 []) := by
    have h := World.ownsRow_made (base := w.heap.size + 1) (e := 5) (size := 1) (w.alloc (.cells #[.slice none 0 0] 26)) #[] 0 (by simp) (Nat.zero_le _) rfl
    rwa [show (w.alloc (.cells #[.slice none 0 0] 26)).heap.size = w.heap.size + 1 by simp] at h
  have HP0 : Hid (((w.alloc (.cells #[.slice none 0 0] 26)).alloc (.cells #[] 5)).heap[w.heap.size]? = some (.cells #[.slice none 0 0] 26 (0, 0))) := by
    show ((w.heap.push _).push _)[w.heap.size]? = _
    simp [Array.getElem?_push]
  go_enter Tryd.func9, Tryd.ntmps9
  go_wp2_with (at_builtin; refine wpList_append_any rfl (.tmp 12) (.tmp 13) 26 rfl (w.heap.size + 1) 5 tb (.int .u8 0) 1 1 Tryd.underlying26 gi gz0 gz1 gz2 rfl (by decide) (.slice (some ⟨w.heap.size + 1, 0, none⟩) 0 0) 0 [] rfl HMADE.out B L.length cb (byteVals L) rfl ?c1 ?c2 ?c6 byteVals_one ?c3 ?c4 ?c5 ?_; rotate_left 6; intro v0 w0 hown0 hgrow0)
  case c1 => exact fun h => ⟨by have := hB h; omega, hB h⟩
  case c2 => simp [byteVals]
  case c3 => unfold maxLen; omega
  case c4 => omega
  case c5 => simp
  case c6 => exact fun ad hA j u hu => cell_kept HB0.out (HBN.out ad hA j u hu)
  obtain ⟨A0, c0, rfl, _, _, _⟩ := own_slice hown0
  have hbel0 : Below w.heap.size w w0 := HB0.out.grown hgrow0 (by simp; omega) (fun b hb => by cases hb; exact Nat.le_succ _)
  have hp0 : w0.heap[w.heap.size]? = some (.cells #[.slice none 0 0] 26 (0, 0)) := by rw [hgrow0.block _ (lt_of_block HP0.out) (by simp [Value.ownBlock])]; exact HP0.out
  have hcp0 : w0.cell? ⟨w.heap.size, 0, none⟩ = some (.slice none 0 0) := cell_of_one hp0
  have hfp0 : w0.frozen? ⟨w.heap.size, 0, none⟩ = false := free_of_one hp0
  clear hgrow0
  have hz : 0 + L.length = L.length := Nat.zero_add _
  rw [hz] at hown0 ⊢
  clear hz
  have HO0 := Lib.hid hown0
  clear hown0
  go_wp2_with (go_at_call 20; refine (zzHex_any _ A0 _ c0 none 0 0 _ hcp0 hfp0).mono ?_; rintro e w1 ⟨rfl, hw1⟩; obtain ⟨hu1, hown1, hbel1⟩ := hex_start hp0 HO0.out hbel0 hw1; clear hw1)
  clear HO0 hcp0 hfp0 hp0 hbel0
  go_loopw [7, 19] (fun v i wr => ∃ (k : Nat) (cs : List Value) (A1 : Option Addr) (c1 : Nat) (L1 : List UInt8), k ≤ xs.length ∧ i = .int .i64 k ∧ wr.ownsRow (w.heap.size + 1) 53 2 v k cs ∧ HexRow wr (w.heap.size + 1) xs k cs ∧
    wr.heap[w.heap.size]? = some (.cells #[.slice A1 L1.length c1] 26 (0, 0)) ∧ wr.ownsRow (w.heap.size + 1) 5 1 (.slice A1 L1.length c1) L1.length (byteVals L1) ∧ L1.length ≤ 2147483647 ∧ Below w.heap.size w wr) (fun _ i _ => xs.length - (intOf i).toNat)
  case atStart => exact ⟨0, [], A0, c0, L, Nat.zero_le _, rfl, World.ownsRow_nil _ _ _ _, fun j hj => by omega, hu1, hown1, hL, hbel1⟩
  case round =>
    clear hu1 hown1 hbel1
    obtain ⟨k, cs, A1, c1, L1, hk, rfl, hown, hrow, hu, hownp, hL1, hbel⟩ := hrel
    by_cases hlt : k < xs.length
    · obtain ⟨ba, oa, rfl, hc0⟩ := hx k hlt
      have hc := cell_kept hbel hc0
      have hcp : wr.cell? ⟨w.heap.size, 0, none⟩ = some (.slice A1 L1.length c1) := cell_of_one hu
      have hfp : wr.frozen? ⟨w.heap.size, 0, none⟩ = false := free_of_one hu
      have H := Lib.hid (setHex_any ⟨w.heap.size, 0, none⟩ (tx xs k) A1 L1.length c1 wr hcp hfp (HS.out k hlt) (HT.out.below hbel) (HE.out.below hbel))
      clear hcp hfp
      go_wp2_with (go_at_call 21; refine H.out.mono ?_; rintro e w1 ⟨E, rfl, hset⟩; obtain ⟨A2, c2, L2, hE, hu1, hownp1, hL2, hg2, hown1, hrow1, hbel1⟩ := hex_step hset (HS.out k hlt) hown hrow hu hownp hL1 hbel)
      clear hset hown hrow hu hownp hL1 hbel H
      have hcp1 : w1.cell? ⟨w.heap.size, 0, none⟩ = some (.slice A2 L2.length c2) := cell_of_one hu1
      have hs1 := lt_of_block hu1
      have HMADE1 : Hid ((w1.alloc (.cells #[] 5)).ownsRow w1.heap.size 5 1 (.slice (some ⟨w1.heap.size, 0, none⟩) 0 0) 0 []) := World.ownsRow_made (base := w1.heap.size) (e := 5) (size := 1) w1 #[] 0 (Nat.le_refl _) (Nat.zero_le _) rfl
      have HA2 : Hid (A2 = none → L2.length = 0 ∧ c2 = 0) := by
        obtain ⟨A', c', e, _, hle, hn⟩ := own_slice hownp1
        simp only [Value.slice.injEq] at e
        obtain ⟨rfl, _, rfl⟩ := e
        exact fun h => ⟨by have := hn h; omega, hn h⟩
      have HN2 : Hid (∀ ad, A2 = some ad → ∀ j u, (byteVals L2)[j]? = some u → (w1.alloc (.cells #[] 5)).cell? (ad.add j) = some u) := by
        obtain ⟨A', c', e, hr, _, _⟩ := own_slice hownp1
        simp only [Value.slice.injEq] at e
        obtain ⟨rfl, _, rfl⟩ := e
        exact fun ad h j u hj => cell_kept ((Below.refl _ _).alloc (Nat.le_refl _) _) (row_news hr ad h j u hj)
      have HL2 := Lib.hid hL2
      rcases hE with ⟨hG, rfl⟩ | ⟨hG, te, ve, rfl⟩
      all_goals
        have HG := Lib.hid hG
        clear hG
        go_region_held3 (fun w' => w'.cell? ⟨w.heap.size, 0, none⟩ = some (.slice A2 L2.length c2)) (first | assumption | (rw [hgrow.cell_far _ (by simp; omega) (Ne.symm hne)]; assumption) | go_keep)
          (first
            | (refine step_append_new (by rfl) (.tmp 29) (.tmp 32) 26 (by rfl) w1.heap.size 5 tb (.int .u8 0) 1 1 Tryd.underlying26 gi gz0 gz1 gz2 rfl (by omega) w1.heap.size (by rfl) HMADE1.out A2 L2.length c2 (byteVals L2) (by rfl) HA2.out (by simp [byteVals]) HN2.out byteVals_one (by unfold maxLen; have := HL2.out; omega) (by have := HL2.out; omega) (by simp) ?_; intro A3 c3 w3 hown3 hb3; obtain ⟨hq3, hu4, hp4, hown4, hrow4, hbel4, hs3, hne⟩ := hex_mid hb3 hu1 hownp1 hown1 hrow1 hbel1; have hown5 := own_base hown3 (Nat.succ_le_of_lt hs1); clear hb3 hown3)
            | (refine step_append_lies _ (by rfl) _ _ _ (by rfl) (w.heap.size + 1) 53 ti _ 2 32 Tryd.underlying28 hi hz0 hz1 hz2 rfl (by omega) _ k _ (by rfl) (hown4.alloc _) ⟨w3.heap.size, 0, none⟩ 1 1 [.bool _, .slice A3 L2.length c3] (by rfl) (by rfl) (World.news_of_block (cs := #[.bool _, .slice A3 L2.length c3]) (t := 53) (fr := (0, 0)) (heap_alloc_new w3 _)) (by simp [Value.oneCell']) (by omega) (by unfold maxLen; omega) (by omega) (by simp; omega) (w3.heap.size + 1) (by simp) ?_; intro gg cap w2 hown2 hgrow hat hlt2))
        have hown6 : w2.ownsRow (w.heap.size + 1) 53 2 (.slice (some ⟨gg, 0, none⟩) (k + 1) cap) (k + 1) (cs ++ [.bool (!hexGood (tx xs k)), .slice A3 L2.length c3]) := by rw [HG.out]; exact hown2
        obtain ⟨hr, hu, hp, hb⟩ := hex_end hu4 hp4 hown4 hrow4 hbel4 hown5 hg2 hne hgrow hown6
        clear hown2 hgrow hu4 hp4 hown4 hrow4 hbel4 hown5 hg2 hown1 hrow1 hbel1 hu1 hownp1
        go_wp2
        go_roundw
        case rel => exact ⟨k + 1, _, A2, c2, L2, by omega, by go_num, hown6, hr, hu, hp, HL2.out, hb⟩
        case measure => simp [intOf]; omega
    · have HK : Hid (k = xs.length) := by show k = _; omega
      have hown1 : wr.ownsRow (w.heap.size + 1) 53 2 u7 xs.length cs := by have e := HK.out; rw [e] at hown; exact hown
      have hrow1 : HexRow wr (w.heap.size + 1) xs xs.length cs := by have e := HK.out; rw [e] at hrow; exact hrow
      clear hown hrow
      have HL := Lib.hid hown1.1
      obtain ⟨A', c, rfl, hat⟩ := own_row hown1
      go_wp2
      go_ret
      exact ⟨A', c, cs, rfl, HL.out, hat, hrow1, hbel⟩
end Go.Proofs.YtnlmmkmbgjgdbaaDoor.E
