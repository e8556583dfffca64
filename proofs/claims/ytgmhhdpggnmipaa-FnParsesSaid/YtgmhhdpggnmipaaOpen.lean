/- A set of flags that came in is opened. -/
import Derived.SliceStrings
import Derived.WideShapes
import Derived.Test.YtgmhhdpggnmipaaFs7
namespace Go.Proofs.Ytgmhhdpggnmipaa.E
open Go.ChangeShapes Go.WideShapes Go.RowKit
set_option linter.unusedVariables false
set_option linter.unusedSimpArgs false

theorem list_of_each9 {α : Type} {Q : Nat → α → Prop} : ∀ n, (∀ i, i < n → ∃ x, Q i x) → ∃ L : List α, L.length = n ∧ ∀ i (h : i < L.length), Q i L[i]
  | 0, _ => ⟨[], rfl, fun i h => by simp at h⟩
  | n + 1, h => by
    obtain ⟨L, hl, hq⟩ := list_of_each9 n (fun i hi => h i (by omega))
    obtain ⟨x, hx⟩ := h n (by omega)
    refine ⟨L ++ [x], by simp [hl], fun i hi => ?_⟩
    by_cases hlt : i < L.length
    · rw [List.getElem_append_left hlt]; exact hq i hlt
    · have : i = n := by simp at hi; omega
      subst this
      rw [List.getElem_append_right (by omega)]
      simpa using hx
theorem lt_of_cell9 {w : World} {a : Addr} {v : Value} (h : w.cell? a = some v) : a.block < w.heap.size := by
  unfold World.cell? at h
  by_cases hl : a.block < w.heap.size
  · exact hl
  · rw [Array.getElem?_eq_none (by omega)] at h; simp at h
theorem add_mid9 (b o j : Nat) : (⟨b, o, none⟩ : Addr).add j = ⟨b, o + j, none⟩ := by unfold Addr.add; split <;> simp_all
theorem texts_of_trod9 {H : Type} {enc : TypeId × Value → H} {P : Program} {W : World} {t e : TypeId} {fuel : Nat} {cs : List Value} {x : DataW H × List MemPlace}
    (ht : P.underlying t = some (.slice e)) (he : P.underlying e = some .string) (hc : P.cellsOf e = 1) (h : DataW.trod enc P W 0 (fun _ => true) true fuel t cs = some x) :
    ∃ v xs, cs = [v] ∧ Texts W v xs := by
  rcases open_strings ht he hc h with ⟨hcs, hx⟩ | ⟨a, len', cap', zs, hcs, _, hl, hm, hz, hx, hcell, hwz⟩
  · exact ⟨_, [], hcs, Texts.nil W⟩
  · simp only [if_true] at hz
    unfold maxLen at hm
    have hn : (zs.take len').length = len' := by rw [List.length_take]; omega
    refine ⟨_, zs.take len', hcs, ⟨some a, cap', by rw [hn], ?_, by rw [hn]; omega, by omega, fun h => by cases h⟩⟩
    intro i hi
    rw [hn] at hi
    obtain ⟨b, o, spot⟩ := a
    have hc := hcell i (by omega)
    obtain rfl : spot = none := by simpa [Addr.add] using World.cell?_spot (hcell 0 (by omega))
    refine ⟨b, o, rfl, ?_⟩
    rw [add_mid9] at hc
    rw [hc]
    simp only [tx, List.getD_eq_getElem?_getD, List.getElem?_take]
    rw [if_pos hi]

/-- A list of flags that came in. -/
theorem flags_of_trod {H : Type} {enc : TypeId × Value → H} {P : Program} {W : World} {t e es : TypeId} {fuel : Nat} {cs : List Value} {x : DataW H × List MemPlace} {f0 f1 f2 f3 : Field}
    (ht : P.underlying t = some (.slice e)) (he : P.underlying e = some (.struct #[f0, f1, f2, f3])) (h4 : P.cellsOf e = 4)
    (o0 : f0.offset = 0) (o1 : f1.offset = 1) (o2 : f2.offset = 2) (o3 : f3.offset = 3) (c0 : P.cellsOf f0.type = 1) (c1 : P.cellsOf f1.type = 1) (c2 : P.cellsOf f2.type = 1) (c3 : P.cellsOf f3.type = 1)
    (u0 : P.underlying f0.type = some .string) (u1 : P.underlying f1.type = some .string) (u2 : P.underlying f2.type = some .string) (u3 : P.underlying f3.type = some (.slice es)) (us : P.underlying es = some .string) (hcs : P.cellsOf es = 1)
    (hf : DataW.trod enc P W 0 (fun _ => true) true fuel t cs = some x) :
    ∃ (F : List FlagP) (A : Option Addr) (cap : Nat), cs = [.slice A F.length cap] ∧ FlagsAt W A F ∧ LowBad W A F W.heap.size ∧ F.length ≤ cap ∧ cap ≤ 9223372036854775807 := by
  rcases DataW.trod_slice ht hf with ⟨hc, hx⟩ | ⟨a, len, cap, elems, rest, n, _, hc, hxx, hb, hl, hm, hlen, hel, _, _⟩
  · exact ⟨[], none, 0, hc, fun i hi => by simp at hi, fun i hi => by simp at hi, by simp, by simp⟩
  · have each : ∀ i, i < len → ∃ s : FlagP, ∃ v, W.cell? (a.add (i * 4)) = some (.string (mkT s.name)) ∧ W.cell? ((a.add (i * 4)).add 1) = some (.string (mkT s.short)) ∧ W.cell? ((a.add (i * 4)).add 2) = some (.string (mkT s.noOpt)) ∧ W.cell? ((a.add (i * 4)).add 3) = some v ∧ Texts W v (s.bad.map mkT) := by
      intro i hi
      have hi2 := hel i hi
      rw [h4, List.getElem?_eq_getElem (by omega), Option.bind_eq_some_iff] at hi2
      obtain ⟨cs', hcs', htr⟩ := hi2
      obtain ⟨xs, m, _, hx1, hl1, hl2, hfl⟩ := DataW.trod_struct he htr
      obtain ⟨hb1, hl3, hcell⟩ := World.cells?_some hcs'
      have y0 := hfl 0 f0 rfl
      have y1 := hfl 1 f1 rfl
      have y2 := hfl 2 f2 rfl
      have y3 := hfl 3 f3 rfl
      rw [o0, c0] at y0
      rw [o1, c1] at y1
      rw [o2, c2] at y2
      rw [o3, c3] at y3
      have hxl : xs.length = 4 := by simpa using hl2
      obtain ⟨p0, p1, p2, p3, rfl⟩ : ∃ p0 p1 p2 p3, xs = [p0, p1, p2, p3] := by
        match xs, hxl with
        | [p0, p1, p2, p3], _ => exact ⟨p0, p1, p2, p3, rfl⟩
      obtain ⟨q0, q1, q2, q3, rfl⟩ : ∃ q0 q1 q2 q3, cs' = [q0, q1, q2, q3] := by
        match cs', hl3 with
        | [q0, q1, q2, q3], _ => exact ⟨q0, q1, q2, q3, rfl⟩
      simp only [List.drop_zero, List.drop_succ_cons, List.take_succ_cons, List.take_zero, List.getElem?_cons_zero, List.getElem?_cons_succ] at y0 y1 y2 y3
      obtain ⟨s0, e0, _, _⟩ := DataW.trod_string u0 y0
      obtain ⟨s1, e1, _, _⟩ := DataW.trod_string u1 y1
      obtain ⟨s2, e2, _, _⟩ := DataW.trod_string u2 y2
      obtain ⟨v, zs, e3, hz⟩ := texts_of_trod9 u3 us hcs y3
      simp only [List.cons.injEq, and_true] at e0 e1 e2 e3
      subst e0 e1 e2 e3
      refine ⟨⟨s0.data.toList, s1.data.toList, s2.data.toList, zs.map fun s => s.data.toList⟩, q3, ?_, ?_, ?_, ?_, ?_⟩
      · have := hcell 0 (by omega)
        rw [show (a.add (i * 4)).add 0 = a.add (i * 4) by simp [Addr.add]] at this
        show _ = some (Value.string (mkT s0.data.toList))
        rw [of_list]
        simpa using this
      · show _ = some (Value.string (mkT s1.data.toList))
        rw [of_list]
        have := hcell 1 (by omega); simpa using this
      · show _ = some (Value.string (mkT s2.data.toList))
        rw [of_list]
        have := hcell 2 (by omega); simpa using this
      · have := hcell 3 (by omega); simpa using this
      · show Texts W _ ((zs.map fun s => s.data.toList).map mkT)
        rw [List.map_map]
        have e : (mkT ∘ fun s : ByteArray => s.data.toList) = id := by funext s; exact of_list s
        rw [e]
        simpa using hz
    obtain ⟨L, hL, hQ⟩ := list_of_each9 len each
    have hAt : FlagsAt W (some a) L := by
      intro i hi
      obtain ⟨v, k0, k1, k2, k3, k4⟩ := hQ i hi
      obtain ⟨vz, z0, _⟩ := hQ 0 (by omega)
      obtain ⟨b, o, spot⟩ := a
      obtain rfl : spot = none := by simpa [Addr.add] using World.cell?_spot z0
      rw [add_mid9] at k0 k1 k2 k3
      rw [add_mid9] at k1 k2 k3
      exact ⟨b, o, v, rfl, k0, k1, k2, k3, k4⟩
    refine ⟨L, some a, cap, by rw [hL]; exact hc, hAt, ?_, by rw [hL]; exact hl, by unfold maxLen at hm; omega⟩
    intro i hi b o v hAe hcv A' m c hv h0
    obtain ⟨b1, o1, v1, e, _, _, _, k3, k4⟩ := hAt i hi
    rw [hAe] at e
    cases e
    rw [k3] at hcv
    obtain rfl := Option.some.inj hcv
    obtain ⟨A9, c9, e9, hs, _⟩ := k4
    rw [hv] at e9
    cases e9
    obtain ⟨b2, o2, e, hc2⟩ := hs 0 h0
    cases e
    exact lt_of_cell9 hc2
/-- A set that came in. -/
theorem open_set {H : Type} {enc : TypeId × Value → H} {P : Program} {W : World} {base : Nat} {t e es : TypeId} {v : Value} {d : DataW H} {p : List MemPlace} {g0 g1 g2 g3 f0 f1 f2 f3 : Field}
    (hs : P.underlying t = some (.struct #[g0, g1, g2, g3])) (hs4 : P.cellsOf t = 4) (a0 : g0.offset = 0) (a1 : g1.offset = 1) (a2 : g2.offset = 2) (a3 : g3.offset = 3) (b0 : P.cellsOf g0.type = 1) (b1 : P.cellsOf g1.type = 1) (b2 : P.cellsOf g2.type = 1) (b3 : P.cellsOf g3.type = 1)
    (ht : P.underlying g0.type = some (.slice e)) (t1 : P.underlying g1.type = some .bool) (t2 : P.underlying g2.type = some .bool) (t3 : P.underlying g3.type = some (.int .i64))
    (he : P.underlying e = some (.struct #[f0, f1, f2, f3])) (h4 : P.cellsOf e = 4)
    (o0 : f0.offset = 0) (o1 : f1.offset = 1) (o2 : f2.offset = 2) (o3 : f3.offset = 3) (c0 : P.cellsOf f0.type = 1) (c1 : P.cellsOf f1.type = 1) (c2 : P.cellsOf f2.type = 1) (c3 : P.cellsOf f3.type = 1)
    (u0 : P.underlying f0.type = some .string) (u1 : P.underlying f1.type = some .string) (u2 : P.underlying f2.type = some .string) (u3 : P.underlying f3.type = some (.slice es)) (us : P.underlying es = some .string) (hcs : P.cellsOf es = 1)
    (hok : Value.okWide P W .any base t v) (h : DataW.Trod enc P W 0 (fun _ => true) true t v d p) :
    ∃ (F : List FlagP) (A : Option Addr) (cap : Nat) (pl un : Bool) (k : Int), v = .agg #[.slice A F.length cap, .bool pl, .bool un, .int .i64 k] ∧ FlagsAt W A F ∧ LowBad W A F W.heap.size ∧ F.length ≤ cap ∧ cap ≤ 9223372036854775807 := by
  obtain ⟨cs, rfl, hsz⟩ := okWide_struct hs hok
  obtain ⟨fuel, hf⟩ := h
  obtain ⟨xs, m, _, hx1, hl1, hl2, hfl⟩ := DataW.trod_struct hs hf
  have hcl : Value.cells (.agg cs) = cs := by simp [Value.cells]
  rw [hcl] at hfl
  rw [hs4] at hsz
  obtain ⟨q0, q1, q2, q3, hq⟩ : ∃ q0 q1 q2 q3, cs.toList = [q0, q1, q2, q3] := by
    have hl3 : cs.toList.length = 4 := by simpa using hsz
    match cs.toList, hl3 with
    | [q0, q1, q2, q3], _ => exact ⟨q0, q1, q2, q3, rfl⟩
  have hxl : xs.length = 4 := by simpa using hl2
  obtain ⟨p0, p1, p2, p3, rfl⟩ : ∃ p0 p1 p2 p3, xs = [p0, p1, p2, p3] := by
    match xs, hxl with
    | [p0, p1, p2, p3], _ => exact ⟨p0, p1, p2, p3, rfl⟩
  have y0 := hfl 0 g0 rfl
  have y1 := hfl 1 g1 rfl
  have y2 := hfl 2 g2 rfl
  have y3 := hfl 3 g3 rfl
  rw [a0, b0, hq] at y0
  rw [a1, b1, hq] at y1
  rw [a2, b2, hq] at y2
  rw [a3, b3, hq] at y3
  simp only [List.drop_zero, List.drop_succ_cons, List.take_succ_cons, List.take_zero, List.getElem?_cons_zero, List.getElem?_cons_succ] at y0 y1 y2 y3
  obtain ⟨F, A, cap, e0, r1, r2, r3, r4⟩ := flags_of_trod ht he h4 o0 o1 o2 o3 c0 c1 c2 c3 u0 u1 u2 u3 us hcs y0
  obtain ⟨pl, e1, _⟩ := DataW.trod_bool t1 y1
  obtain ⟨un, e2, _⟩ := DataW.trod_bool t2 y2
  obtain ⟨k, e3, _⟩ := DataW.trod_int t3 y3
  simp only [List.cons.injEq, and_true] at e0 e1 e2 e3
  subst e0 e1 e2 e3
  obtain rfl : cs = #[_, _, _, _] := by
    cases cs; simp at hq; subst hq; rfl
  exact ⟨F, A, cap, pl, un, k, rfl, r1, r2, r3, r4⟩
/-- A list that came in lies in memory. -/
theorem okWide_block {P : Program} {W : World} {base : Nat} {t e : TypeId} {a : Addr} {n c : Nat} (ht : P.underlying t = some (.slice e)) (h : Value.okWide P W .any base t (.slice (some a) n c)) : a.block < W.heap.size := by
  simp only [Value.okWide, ht, Cell.okWide, Cell.ok, World.has] at h
  obtain ⟨_, _, _, _, row, cells, hsh, _⟩ := h
  unfold World.shape? at hsh
  by_cases hl : a.block < W.heap.size
  · exact hl
  · rw [Array.getElem?_eq_none (by omega)] at hsh; simp at hsh
end Go.Proofs.Ytgmhhdpggnmipaa.E
