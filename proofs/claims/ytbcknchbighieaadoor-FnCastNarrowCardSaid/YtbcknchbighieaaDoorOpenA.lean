/- An impl.Any that came in is opened. Written by gen_opena.py. -/
import Derived.SliceStrings
import Derived.WideShapes
import Derived.Test.YtbcknchbighieaaDoorKit
namespace Go.Proofs.YtbcknchbighieaaDoor.E
open Go.ChangeShapes Go.WideShapes Go.RowKit
set_option linter.unusedVariables false
set_option linter.unusedSimpArgs false
theorem trod_float9 {H : Type} {enc : TypeId × Value → H} {P : Program} {w : World} {base : Nat} {spare : Nat → Bool} {held : Bool} {fuel : Nat} {t : TypeId} {cs : List Value} {x : DataW H × List MemPlace} {k : FloatKind} (ht : P.underlying t = some (.float k)) (h : DataW.trod enc P w base spare held fuel t cs = some x) : ∃ n, cs = [.float k n] := by
  cases fuel with
  | zero => simp [DataW.trod] at h
  | succ n =>
    unfold DataW.trod at h
    rw [ht] at h
    split at h <;> simp_all
theorem trod_slice9 {H : Type} {enc : TypeId × Value → H} {P : Program} {w : World} {base : Nat} {spare : Nat → Bool} {held : Bool} {fuel : Nat} {t e : TypeId} {cs : List Value} {x : DataW H × List MemPlace} (ht : P.underlying t = some (.slice e)) (h : DataW.trod enc P w base spare held fuel t cs = some x) : ∃ a n c, cs = [.slice a n c] := by
  rcases DataW.trod_slice ht h with ⟨hc, _⟩ | ⟨a, len, cap, _, _, _, _, hc, _⟩
  · exact ⟨_, _, _, hc⟩
  · exact ⟨_, _, _, hc⟩
theorem open_any {H : Type} {enc : TypeId × Value → H} {P : Program} {W : World} {base : Nat} {t e5 e6 : TypeId} {v : Value} {d : DataW H} {p : List MemPlace} {g0 g1 g2 g3 g4 g5 g6 : Field}
    (hs : P.underlying t = some (.struct #[g0, g1, g2, g3, g4, g5, g6])) (hs7 : P.cellsOf t = 7) (a0 : g0.offset = 0) (a1 : g1.offset = 1) (a2 : g2.offset = 2) (a3 : g3.offset = 3) (a4 : g4.offset = 4) (a5 : g5.offset = 5) (a6 : g6.offset = 6) (b0 : P.cellsOf g0.type = 1) (b1 : P.cellsOf g1.type = 1) (b2 : P.cellsOf g2.type = 1) (b3 : P.cellsOf g3.type = 1) (b4 : P.cellsOf g4.type = 1) (b5 : P.cellsOf g5.type = 1) (b6 : P.cellsOf g6.type = 1)
    (t0 : P.underlying g0.type = some (.int .i64)) (t1 : P.underlying g1.type = some (.int .i64)) (t2 : P.underlying g2.type = some (.int .u64)) (t3 : P.underlying g3.type = some (.float .f64)) (t4 : P.underlying g4.type = some .string) (t5 : P.underlying g5.type = some (.slice e5)) (t6 : P.underlying g6.type = some (.slice e6))
    (hok : Value.okWide P W .any base t v) (h : DataW.Trod enc P W 0 (fun _ => true) true t v d p) :
    ∃ (k n u : Int) (f : Nat) (s : ByteArray) (la : Option Addr) (ln lc : Nat) (ma : Option Addr) (mn mc : Nat), v = .agg #[.int .i64 k, .int .i64 n, .int .u64 u, .float .f64 f, .string s, .slice la ln lc, .slice ma mn mc] ∧ (-9223372036854775808 ≤ n ∧ n ≤ 9223372036854775807) ∧ (0 ≤ u ∧ u ≤ 18446744073709551615) := by
  obtain ⟨cs, rfl, hsz⟩ := okWide_struct hs hok
  obtain ⟨fuel, hf⟩ := h
  obtain ⟨xs, m, _, hx1, hl1, hl2, hfl⟩ := DataW.trod_struct hs hf
  have hcl : Value.cells (.agg cs) = cs := by simp [Value.cells]
  rw [hcl] at hfl
  rw [hs7] at hsz
  obtain ⟨q0, q1, q2, q3, q4, q5, q6, hq⟩ : ∃ q0 q1 q2 q3 q4 q5 q6, cs.toList = [q0, q1, q2, q3, q4, q5, q6] := by
    have hl3 : cs.toList.length = 7 := by simpa using hsz
    match cs.toList, hl3 with
    | [q0, q1, q2, q3, q4, q5, q6], _ => exact ⟨q0, q1, q2, q3, q4, q5, q6, rfl⟩
  have hxl : xs.length = 7 := by simpa using hl2
  obtain ⟨p0, p1, p2, p3, p4, p5, p6, rfl⟩ : ∃ p0 p1 p2 p3 p4 p5 p6, xs = [p0, p1, p2, p3, p4, p5, p6] := by
    match xs, hxl with
    | [p0, p1, p2, p3, p4, p5, p6], _ => exact ⟨p0, p1, p2, p3, p4, p5, p6, rfl⟩
  have y0 := hfl 0 g0 rfl
  have y1 := hfl 1 g1 rfl
  have y2 := hfl 2 g2 rfl
  have y3 := hfl 3 g3 rfl
  have y4 := hfl 4 g4 rfl
  have y5 := hfl 5 g5 rfl
  have y6 := hfl 6 g6 rfl
  rw [a0, b0, hq] at y0
  rw [a1, b1, hq] at y1
  rw [a2, b2, hq] at y2
  rw [a3, b3, hq] at y3
  rw [a4, b4, hq] at y4
  rw [a5, b5, hq] at y5
  rw [a6, b6, hq] at y6
  simp only [List.drop_zero, List.drop_succ_cons, List.take_succ_cons, List.take_zero, List.getElem?_cons_zero, List.getElem?_cons_succ] at y0 y1 y2 y3 y4 y5 y6
  obtain ⟨k, e0, _, _⟩ := DataW.trod_int t0 y0
  obtain ⟨n, e1, _, w1⟩ := DataW.trod_int t1 y1
  obtain ⟨u, e2, _, w2⟩ := DataW.trod_int t2 y2
  obtain ⟨f, e3⟩ := trod_float9 t3 y3
  obtain ⟨s, e4, _, _⟩ := DataW.trod_string t4 y4
  obtain ⟨la, ln, lc, e5⟩ := trod_slice9 t5 y5
  obtain ⟨ma, mn, mc, e6⟩ := trod_slice9 t6 y6
  simp only [List.cons.injEq, and_true] at e0 e1 e2 e3 e4 e5 e6
  subst e0 e1 e2 e3 e4 e5 e6
  obtain rfl : cs = #[_, _, _, _, _, _, _] := by
    cases cs; simp at hq; subst hq; rfl
  refine ⟨k, n, u, f, s, la, ln, lc, ma, mn, mc, rfl, ?_, ?_⟩
  · simp [Lit.wf, IntKind.min, IntKind.max, IntKind.signed, IntKind.bits] at w1; omega
  · simp [Lit.wf, IntKind.min, IntKind.max, IntKind.signed, IntKind.bits] at w2; omega
end Go.Proofs.YtbcknchbighieaaDoor.E
