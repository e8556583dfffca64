/- What the laws of parsing share: their readers' answers as facts for the walk, and single operations of their regions. -/
import Derived.Test.YtgmhhdpggnmipaaSp2
import Derived.Test.YtgmhhdpggnmipaaLw3
import Derived.Test.YtgmhhdpggnmipaaRt
import Derived.Test.YtgmhhdpggnmipaaInvS
import Derived.Test.YtgmhhdpggnmipaaOpen
namespace Go.Proofs.Ytgmhhdpggnmipaa.E
open Go.RowKit Go.Proofs
set_option linter.unusedVariables false
set_option linter.unusedSimpArgs false

theorem wt_map (L : List Txt) : wtB (L.map mkT) = wt L := by
  induction L with
  | nil => rfl
  | cons a r ih => simp only [List.map_cons, wtB, wt, ih, mkT_size]; omega
theorem wt_mem {X : List Txt} {t : Txt} (h : t ∈ X) : t.length ≤ wt X := by
  have := wtB_mem (List.mem_map_of_mem (f := mkT) h)
  rw [wt_map, mkT_size] at this; omega
/-- A law that answers true. -/
def YesEnd (w : World) (e : Ending) (w' : World) : Prop := e = .returned (.bool true) ∧ Below w.heap.size w w'
theorem yesEnd {w : World} {e : Ending} {w' : World} (h : e = .returned (.bool true)) (hb : Below w.heap.size w w') : YesEnd w e w' := ⟨h, hb⟩
theorem TextIn.slice {w : World} {v : Value} {xs : List ByteArray} (h : TextIn w v xs) : ∃ a n c, v = .slice a n c := by obtain ⟨a, c, e, _⟩ := h; exact ⟨_, _, _, e⟩
theorem textIn_of {P : Program} {W : World} {base : Nat} {t e : TypeId} {v : Value} {xs : List ByteArray} (ht : P.underlying t = some (.slice e)) (hok : Value.okWide P W .any base t v) (h : Texts W v xs) : TextIn W v xs := by
  obtain ⟨A, c, rfl, h1, h2, h3, h4⟩ := h
  exact ⟨A, c, rfl, h1, h2, h3, h4, fun a e => by subst e; exact okWide_block ht hok⟩
theorem texts_back (xs : List ByteArray) : ((xs.map fun s => s.data.toList) : List Txt).map mkT = xs := by
  rw [List.map_map]
  have e : (mkT ∘ fun s : ByteArray => s.data.toList) = id := by funext s; exact of_list s
  rw [e]; simp
/-- fits20 over flags. -/
theorem fits20_F {F : List FlagP} (h : fits20 (F.map ofFlag) = true) : F.length ≤ 2147483647 ∧ ∀ f ∈ F, f.name.length ≤ 2147483647 ∧ f.short.length ≤ 2147483647 ∧ f.noOpt.length ≤ 2147483647 := by
  unfold fits20 at h
  simp only [Bool.and_eq_true, decide_eq_true_eq, List.length_map, List.all_eq_true, List.mem_map] at h
  refine ⟨h.1, fun f hf => ?_⟩
  have h2 := h.2 (ofFlag f) ⟨f, hf, rfl⟩
  unfold fits21 at h2
  simp only [Bool.and_eq_true, decide_eq_true_eq] at h2
  have e1 : (ofFlag f).f0.size = f.name.length := mkT_size _
  have e2 : (ofFlag f).f1.size = f.short.length := mkT_size _
  have e3 : (ofFlag f).f2.size = f.noOpt.length := mkT_size _
  omega
/-- A reader that answers a truth. -/
abbrev Says (w : World) (f : Nat) (args : Array Value) (b : Bool) : Prop := ∀ (W : World), Below w.heap.size w W → Calls Try.prog f args W fun e w' => e = .returned (.bool b) ∧ Below W.heap.size W w'
theorem says19 {w : World} {A : Option Addr} {F : List FlagP} (hA : FlagsAt w A F) {cap : Nat} (hc : F.length ≤ cap) (hm : cap ≤ 9223372036854775807) (pl un : Bool) (k : Int) {b : Bool} (h : fits20 (F.map ofFlag) = b) : Says w 14 #[.agg #[.slice A F.length cap, .bool pl, .bool un, .int .i64 k]] b := fun W hb => by
  have h2 := zz19_c (hA.below hb) (by omega) cap hc pl un k
  rw [h] at h2; exact h2
theorem says2 {w : World} {v : Value} {xs : List ByteArray} (hv : TextIn w v xs) {b : Bool} (h : fits2 xs = b) : Says w 15 #[v] b := fun W hb => by
  have h2 := zz2_c (hv.below hb)
  rw [h] at h2; exact h2
theorem saysR {w : World} {A : Option Addr} {F : List FlagP} (hA : FlagsAt w A F) (cap : Nat) (pl un : Bool) (k : Int) (hf : fits20 (F.map ofFlag) = true) {b : Bool} (h : (rightL (foldGT (bits BinOp.and IntKind.i64 k 1 == 1) (bits BinOp.and IntKind.i64 k 2 == 2)) [] [] F && decide (0 ≤ k ∧ k ≤ 3)) = b) : Says w 16 #[.agg #[.slice A F.length cap, .bool pl, .bool un, .int .i64 k]] b := fun W hb => by
  have hfl := fits20_F hf
  have h2 := right_any F A cap pl un k _ _ rfl rfl W (hA.below hb) hfl.1 (fun f hf => ⟨(hfl.2 f hf).1, (hfl.2 f hf).2.1⟩)
  rw [h] at h2; exact h2
theorem saysL (w : World) : Says w 25 #[] true := fun W hb => lives_c W
/-- What a set must be for spec.Right. -/
def RightK (F : List FlagP) (k : Int) : Bool := rightL (foldGT (bits BinOp.and IntKind.i64 k 1 == 1) (bits BinOp.and IntKind.i64 k 2 == 2)) [] [] F && decide (0 ≤ k ∧ k ≤ 3)
/-- A set that fits and is right. -/
theorem setOK_of {w : World} {A : Option Addr} {F : List FlagP} (hA : FlagsAt w A F) (hlow : LowBad w A F w.heap.size) (pl un : Bool) {k : Int} (hf : fits20 (F.map ofFlag) = true) (h : RightK F k = true) : ∃ n : Nat, k = (n : Int) ∧ n ≤ 3 ∧ SetOK w A ⟨F, pl, un, n⟩ := by
  unfold RightK at h
  simp only [Bool.and_eq_true, decide_eq_true_eq] at h
  obtain ⟨h4, h5, h6⟩ := h
  obtain ⟨n, rfl⟩ := Int.eq_ofNat_of_zero_le h5
  have hn : n ≤ 3 := by omega
  have hfl := fits20_F hf
  have hfold : foldGT (bits BinOp.and IntKind.i64 (n : Int) 1 == 1) (bits BinOp.and IntKind.i64 (n : Int) 2 == 2) = foldT n := by
    rw [(foldBits n hn).1, (foldBits n hn).2]
    funext t
    exact foldGT_eq n t
  rw [hfold] at h4
  exact ⟨n, rfl, hn, hA, hlow, right_of (S := ⟨F, pl, un, n⟩) hn h4, hfl.1, fun i h => (hfl.2 _ (List.getElem_mem h)).1⟩
theorem fit14_1 {w W : World} (hb : Below w.heap.size w W) {va0 : Option Addr} {van vac : Nat} {xs : List ByteArray} (ha : TextIn w (.slice va0 van vac) xs) (hf : fits2 xs = true) {b : Bool} (h : decide (wtBB [xs] ≤ 1048576) = b) :
    Calls Try.prog 17 #[.slice (some ⟨W.heap.size, 0, none⟩) 1 1] (W.alloc (.cells #[.slice va0 van vac] 25)) fun e w' => e = .returned (.bool b) ∧ Below W.heap.size W w' := by
  subst h
  have h := fits14_c (w := W.alloc (.cells #[.slice va0 van vac] 25)) (ls := [xs]) (rows1 (heap_alloc_new W _) ((ha.below hb).below ((Below.refl _ _).alloc (Nat.le_refl _) _))) (by (show 1 ≤ 2147483647; decide)) (Nat.le_refl 1) (fun zs hz => by rw [List.mem_singleton] at hz; rw [hz]; exact hf)
  refine h.mono ?_
  rintro e w' ⟨he, hb2⟩
  exact ⟨he, ((Below.refl _ _).alloc (Nat.le_refl _) _).trans (hb2.mono (by simp))⟩
theorem mkT_app (a b : Txt) : mkT a ++ mkT b = mkT (a ++ b) := by
  apply ByteArray.ext
  simp [mkT, ByteArray.data_append]
section
variable {o : Oper} {a : Act} {w : World} {K : Act → World → Prop} {Q : Exit → Act → World → Prop}
theorem ow_field_set {x : Operand} {b i : Nat} (hi : i < 4) (ho : o.op = .fieldAddr 24 x i) (hx : a.eval x = .pointer (some ⟨b, 0, none⟩)) (h : K (a.put o.dst (.pointer (some ⟨b, i, none⟩))) w) : Oper.wp Try.prog o a w K Q := by
  unfold Oper.wp
  match i, hi with
  | 0, _ => simp [execOp, ho, hx]; go_simp; exact h
  | 1, _ => simp [execOp, ho, hx]; go_simp; exact h
  | 2, _ => simp [execOp, ho, hx]; go_simp; exact h
  | 3, _ => simp [execOp, ho, hx]; go_simp; exact h
theorem ow_load_flags {x : Operand} {b i : Nat} {v : Value} (ho : o.op = .load 22 x) (hx : a.eval x = .pointer (some ⟨b, i, none⟩)) (hb : w.cell? ⟨b, i, none⟩ = some v) (h : K (a.put o.dst v) w) : Oper.wp Try.prog o a w K Q := by
  unfold Oper.wp
  simp [execOp, ho, hx]
  go_simp
  exact h
theorem ow_load_string {x : Operand} {b i : Nat} {v : Value} (ho : o.op = .load 9 x) (hx : a.eval x = .pointer (some ⟨b, i, none⟩)) (hb : w.cell? ⟨b, i, none⟩ = some v) (h : K (a.put o.dst v) w) : Oper.wp Try.prog o a w K Q := by
  unfold Oper.wp
  simp [execOp, ho, hx]
  go_simp
  exact h
theorem ow_index_flags {x y : Operand} {b f n c i : Nat} (hi : i < n) (ho : o.op = .indexAddr 22 x y) (hx : a.eval x = .slice (some ⟨b, f, none⟩) n c) (hy : a.eval y = .int .i64 (i : Int)) (h : K (a.put o.dst (.pointer (some ⟨b, f + i * 4, none⟩))) w) : Oper.wp Try.prog o a w K Q := by
  have hi2 : (i : Int) < (n : Int) := by omega
  unfold Oper.wp
  simp [execOp, ho, hx, hy]
  go_simp
  exact h
theorem ow_field_flag {x : Operand} {b i f : Nat} (hi : i < 4) (ho : o.op = .fieldAddr 47 x i) (hx : a.eval x = .pointer (some ⟨b, f, none⟩)) (h : K (a.put o.dst (.pointer (some ⟨b, f + i, none⟩))) w) : Oper.wp Try.prog o a w K Q := by
  unfold Oper.wp
  match i, hi with
  | 0, _ => simp [execOp, ho, hx]; go_simp; exact h
  | 1, _ => simp [execOp, ho, hx]; go_simp; exact h
  | 2, _ => simp [execOp, ho, hx]; go_simp; exact h
  | 3, _ => simp [execOp, ho, hx]; go_simp; exact h
theorem ow_cat {x y : Operand} {s t : Txt} (hz : s.length + t.length ≤ 9223372036854775807) (ho : o.op = .binOp .add 9 x y 9) (hx : a.eval x = .string (mkT s)) (hy : a.eval y = .string (mkT t)) (h : K (a.put o.dst (.string (mkT (s ++ t)))) w) : Oper.wp Try.prog o a w K Q := by
  unfold Oper.wp
  have hz2 : ¬ 9223372036854775807 < (mkT s).size + (mkT t).size := by rw [mkT_size, mkT_size]; omega
  simp [execOp, ho, hx, hy]
  go_simp
  rw [mkT_app]
  exact h
theorem ow_not {x : Operand} {b : Bool} (ho : o.op = .unOp .not 4 x) (hx : a.eval x = .bool b) (h : K (a.put o.dst (.bool (!b))) w) : Oper.wp Try.prog o a w K Q := by
  unfold Oper.wp
  simp [execOp, ho, hx]
  go_simp
  exact h
theorem ow_pick_no {c x y : Operand} {v : Value} (ho : o.op = .pick c x y) (hc : a.eval c = .bool false) (hy : a.eval y = v) (h : K (a.put o.dst v) w) : Oper.wp Try.prog o a w K Q := by
  unfold Oper.wp
  simp [execOp, ho, hy, hc]
  go_simp
  exact h
theorem ow_build2 {x y : Operand} (ho : o.op = .buildSlice 25 2 #[(0, x), (1, y)]) {s t : ByteArray} (hx : a.eval x = .string s) (hy : a.eval y = .string t) (h : K (a.put o.dst (.slice (some ⟨w.heap.size, 0, none⟩) 2 2)) (w.alloc (.cells #[.string s, .string t] 9))) : Oper.wp Try.prog o a w K Q := by
  unfold Oper.wp
  simp [execOp, ho, hx, hy]
  go_simp
  exact h
theorem ow_neq_string {x y : Operand} {s t : ByteArray} (ho : o.op = .binOp .neq 9 x y 9) (hx : a.eval x = .string s) (hy : a.eval y = .string t) (h : K (a.put o.dst (.bool (!(s.toList == t.toList)))) w) : Oper.wp Try.prog o a w K Q := by
  unfold Oper.wp
  simp [execOp, ho, hx, hy]
  go_simp
  exact h
end
theorem mkT_toList (t : Txt) : (mkT t).toList = t := by rw [ByteArray.toList_eq, mkT_list]
end Go.Proofs.Ytgmhhdpggnmipaa.E
