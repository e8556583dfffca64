/- spec.Begin, spec.Changed over this seat's program. Written by gen_bg.py. -/
import Derived.Test.YtgmhhdpggnmipaaMpa
import Derived.Test.YtgmhhdpggnmipaaPQx5
import Derived.Test.YtgmhhdpggnmipaaHds
import Derived.Test.YtgmhhdpggnmipaaOpen
import Derived.Test.YtgmhhdpggnmipaaLs
import Derived.Test.YtgmhhdpggnmipaaAp
namespace Go.Proofs.Ytgmhhdpggnmipaa.E
open Go.RowKit Go.Proofs
open Go.Proofs.Ytgmhhdpggnmipaa.PQ Go.Proofs.YtgmhhdpggnmipaaW.PrintWords Go.Proofs.YtgmhhdpggnmipaaW.PrintLast
set_option linter.unusedVariables false
set_option linter.unusedSimpArgs false
set_option maxRecDepth 100000 in
set_option maxHeartbeats 1600000 in
theorem begin_c {w : World} {A : Option Addr} {S : SetP} (cap : Nat) :
    Calls Try.prog 19 #[.agg #[.slice A S.flags.length cap, .bool S.plain, .bool S.unknown, .int .i64 (S.fold : Int)]] w fun e w' => ∃ x, e = .returned (.pointer (some ⟨x, 0, none⟩)) ∧ RunAt w w' x S A cap st0 (.slice none 0 0) (.slice none 0 0) false := by
  go_enter Try.func19, Try.ntmps19
  go_wp2
  go_ret
  have h1 : Below w.heap.size w (w.alloc (.cells #[.slice A S.flags.length cap, .bool S.plain, .bool S.unknown, .int .i64 (S.fold : Int)] 24)) := (Below.refl _ _).alloc (Nat.le_refl _) _
  refine ⟨_, rfl, h1.alloc h1.size _, Nat.le_succ _, World.ownsRow_nil _ _ _ _, none, 0, ?_, World.ownsRow_nil _ _ _ _⟩
  have h := heap_alloc_new (w.alloc (.cells #[.slice A S.flags.length cap, .bool S.plain, .bool S.unknown, .int .i64 (S.fold : Int)] 24)) (.cells (rnCells S A cap st0 (.slice none 0 0) (.slice none 0 0) (.slice none 0 0) false) 41)
  have hs : (w.alloc (.cells #[.slice A S.flags.length cap, .bool S.plain, .bool S.unknown, .int .i64 (S.fold : Int)] 24)).heap.size = w.heap.size + 1 := by simp
  rw [hs] at h
  exact h
theorem reps_given {w : World} {base : Nat} {ok : Nat → Prop} : ∀ {G : List (Nat × Txt)} {inner : List Value}, Reps (k57.M w base ok) 2 (G.map ofG) inner → inner = gCells G := by
  intro G inner h
  obtain ⟨h1, h2⟩ := h
  have hlen : inner.length = G.length * 2 := by rw [h1, List.length_map]
  have hgl : ∀ G : List (Nat × Txt), (gCells G).length = G.length * 2 := by
    intro G
    induction G with
    | nil => rfl
    | cons a r ih =>
      unfold gCells at ih ⊢
      simp only [List.map_cons, List.flatten_cons, List.length_append, List.length_cons, List.length_nil, ih]; omega
  apply List.ext_getElem?
  intro q
  by_cases hq : q < G.length * 2
  · obtain ⟨j, i, hi, rfl⟩ : ∃ j i, i < 2 ∧ q = j * 2 + i := ⟨q / 2, q % 2, Nat.mod_lt _ (by decide), by omega⟩
    have hj : j < G.length := by omega
    have h3 := k57_openM (h2 j (ofG G[j]) (by rw [List.getElem?_map, List.getElem?_eq_getElem hj]; rfl))
    have h4 := gCells_at G j i hj hi
    rw [h4]
    have h5 : ((inner.drop (j * 2)).take 2)[i]? = inner[j * 2 + i]? := by rw [List.getElem?_take, if_pos hi, List.getElem?_drop]
    rw [← h5, h3]; rfl
  · rw [List.getElem?_eq_none (by omega), List.getElem?_eq_none (by rw [hgl]; omega)]
theorem reps_int {w : World} {base : Nat} {ok : Nat → Prop} {C : List Nat} {inner : List Value} (h : Reps ((Kd.int .i64).M w base ok) 1 (C.map fun (i : Nat) => (i : Int)) inner) : inner = iCells C := by
  obtain ⟨h1, h2⟩ := h
  have hl : inner.length = C.length := by rw [h1, List.length_map, Nat.mul_one]
  apply List.ext_getElem?
  intro j
  by_cases hj : j < C.length
  · have h3 : (inner.drop (j * 1)).take 1 = [.int .i64 (C[j] : Int)] := h2 j (C[j] : Int) (by rw [List.getElem?_map, List.getElem?_eq_getElem hj]; rfl)
    have h4 : inner[j]? = some (.int .i64 (C[j] : Int)) := by
      have := congrArg (fun l => l[0]?) h3
      simpa using this
    rw [h4]
    unfold iCells
    rw [List.getElem?_map, List.getElem?_eq_getElem hj]; rfl
  · rw [List.getElem?_eq_none (by omega), List.getElem?_eq_none (by unfold iCells; simp; omega)]
/-! ### spec.Changed -/
theorem changed_in (G : List S57) (hm : G.length ≤ 1099511627776) (out : List Int) (i n : Nat) (hi : i < 9223372036854775806) (ho : out.length < 17592186044416) (k0 : Nat) (A B : List Int)
    (hA : ∀ k, k0 ≤ k → spec_Changed.l0 k G (out ++ [(i : Int)]) (n : Int) ((i + 1 : Nat) : Int) = some A) (hB : ∀ k, k0 ≤ k → spec_Changed.l0 k G out (n : Int) ((i + 1 : Nat) : Int) = some B) :
    ∀ (d j k : Nat), G.length - j = d → j ≤ G.length → k0 + d < k → spec_Changed.l1 k G out (i : Int) (n : Int) (i : Int) G (G.length : Int) (j : Int) = some (if ((G.drop j).any fun g => decide (g.f0 = (i : Int))) = true then A else B) := by
  intro d
  induction d with
  | zero =>
    intro j k hd hj hk
    obtain ⟨k, rfl⟩ : ∃ m, k = m + 1 := ⟨k - 1, by omega⟩
    simp only [spec_Changed.l1]
    rw [if_neg (by omega), List.drop_eq_nil_of_le (by omega), wrapN (by omega), hB k (by omega)]; rfl
  | succ d ih =>
    intro j k hd hj hk
    obtain ⟨k, rfl⟩ : ∃ m, k = m + 1 := ⟨k - 1, by omega⟩
    have ha : j < G.length := by omega
    simp only [spec_Changed.l1]
    rw [if_pos (by omega), if_pos (by omega), if_pos (by omega), rdG_nat G ha, List.drop_eq_getElem_cons ha, List.any_cons]
    by_cases h : G[j].f0 = (i : Int)
    · rw [if_pos h, if_pos ho, decide_eq_true h, wrapN (by omega), hA k (by omega)]; rfl
    · rw [if_neg h, decide_eq_false h, wrapN (by omega), ih (j + 1) k (by omega) (by omega) (by omega)]; rfl
theorem changed_from (G : List S57) (hm : G.length ≤ 1099511627776) (n : Nat) (hn : n ≤ 2147483647) : ∀ (d i : Nat) (out : List Int), n - i = d → i ≤ n → out.length ≤ i →
    ∃ k0, ∀ k, k0 ≤ k → spec_Changed.l0 k G out (n : Int) (i : Int) = some (out ++ (((List.range n).drop i).filter fun (i : Nat) => G.any fun g => decide (g.f0 = (i : Int))).map fun (i : Nat) => (i : Int)) := by
  intro d
  induction d with
  | zero =>
    intro i out hd hi ho
    refine ⟨1, fun k hk => ?_⟩
    obtain ⟨k, rfl⟩ : ∃ m, k = m + 1 := ⟨k - 1, by omega⟩
    simp only [spec_Changed.l0]
    rw [if_neg (by omega), List.drop_eq_nil_of_le (by simp; omega)]; simp
  | succ d ih =>
    intro i out hd hi ho
    obtain ⟨ka, hA⟩ := ih (i + 1) (out ++ [(i : Int)]) (by omega) (by omega) (by simp; omega)
    obtain ⟨kb, hB⟩ := ih (i + 1) out (by omega) (by omega) (by omega)
    refine ⟨ka + kb + G.length + 2, fun k hk => ?_⟩
    obtain ⟨k, rfl⟩ : ∃ m, k = m + 1 := ⟨k - 1, by omega⟩
    simp only [spec_Changed.l0]
    have h := changed_in G hm out i n (by omega) (by omega) (ka + kb) _ _ (fun k h => hA k (by omega)) (fun k h => hB k (by omega)) G.length 0 k (by omega) (by omega) (by omega)
    rw [Int.natCast_zero, List.drop_zero] at h
    rw [if_pos (by omega), h]
    have hr : (List.range n).drop i = i :: (List.range n).drop (i + 1) := by
      rw [List.drop_eq_getElem_cons (by simp; omega), List.getElem_range]
    rw [hr, List.filter_cons]
    by_cases q : (G.any fun g => decide (g.f0 = (i : Int))) = true
    · rw [if_pos q, if_pos q]; simp
    · rw [if_neg q, if_neg q]
theorem changed_f (F : List S47) (p q : Bool) (f : Int) (G : List (Nat × Txt)) (hm : G.length ≤ 1099511627776) (hn : F.length ≤ 2147483647) : ∃ k, spec_Changed.f k F p q f (G.map ofG) = some ((chL (fun j => G.any fun g => g.1 == j) F.length).map fun (i : Nat) => (i : Int)) := by
  obtain ⟨k, h⟩ := changed_from (G.map ofG) (by rw [List.length_map]; exact hm) F.length hn F.length 0 [] (by omega) (by omega) (by simp)
  refine ⟨k, ?_⟩
  have h := h k (Nat.le_refl k)
  rw [Int.natCast_zero, List.drop_zero, List.nil_append] at h
  unfold spec_Changed.f
  rw [h]
  congr 2
  unfold chL
  congr 1
  funext j
  rw [List.any_map]
  congr 1
  funext g
  show decide (((g.1 : Nat) : Int) = (j : Int)) = (g.1 == j)
  by_cases e : g.1 = j
  · rw [decide_eq_true (by rw [e]), e]; simp
  · rw [decide_eq_false (by omega)]; simp [e]
/-! ### their contracts -/
/-- A list of what was given, the call's own. -/
def OwnG (w : World) (v : Value) (G : List (Nat × Txt)) : Prop := ∃ a c, v = .slice a G.length c ∧ w.ownsRow 0 57 2 v G.length (gCells G)
def OwnI (w : World) (v : Value) (C : List Nat) : Prop := ∃ a c, v = .slice a C.length c ∧ w.ownsRow 0 3 1 v C.length (iCells C)
theorem ownG_R {w : World} {base : Nat} {ok : Nat → Prop} {v : Value} {G : List (Nat × Txt)} (h : Kd.R k57 57 w base ok v (G.map ofG)) : OwnG w v G := by
  obtain ⟨_, inner, ho, hr⟩ := h
  have e := reps_given hr
  subst e
  have hl : (G.map ofG).length = G.length := List.length_map _
  rw [hl] at ho
  obtain ⟨A, c, e, _⟩ := own_row ho
  exact ⟨A, c, e, own_lower ho (Nat.zero_le _)⟩
theorem ownI_R {w : World} {base : Nat} {ok : Nat → Prop} {v : Value} {C : List Nat} (h : Kd.R (Kd.int .i64) 3 w base ok v (C.map fun (i : Nat) => (i : Int))) : OwnI w v C := by
  obtain ⟨_, inner, ho, hr⟩ := h
  have e := reps_int hr
  subst e
  have hl : (C.map fun (i : Nat) => (i : Int)).length = C.length := List.length_map _
  rw [hl] at ho
  obtain ⟨A, c, e, _⟩ := own_row ho
  exact ⟨A, c, e, own_lower ho (Nat.zero_le _)⟩
theorem changed_c {w : World} {A : Option Addr} {F : List FlagP} (hA : FlagsAt w A F) (cap : Nat) (hc : F.length ≤ cap) (pl un : Bool) (k : Int) {a : Option Addr} {c : Nat} {G : List (Nat × Txt)} (hn : F.length ≤ 2147483647) (h : RowAt w a (gCells G)) (hl : G.length ≤ c) (hm : G.length ≤ 1099511627776) :
    Calls Try.prog 21 #[.agg #[.slice A F.length cap, .bool pl, .bool un, .int .i64 k], .slice a G.length c] w fun e w' => ∃ v, e = .returned v ∧ OwnI w' v (chL (fun j => G.any fun g => g.1 == j) F.length) ∧ Below w.heap.size w w' := by
  have hfl : (F.map ofFlag).length = F.length := List.length_map _
  have hgl : (G.map ofG).length = G.length := List.length_map _
  obtain ⟨kk, hk⟩ := changed_f (F.map ofFlag) pl un k G hm (by rw [hfl]; exact hn)
  have h2 := spec_Changed.calls kk A cap (F.map ofFlag) pl un k a c (G.map ofG) _ w (kd_flags hA (by omega)) (by rw [hfl]; exact hc) (kd_given h (by omega)) (by rw [hgl]; exact hl) hk
  rw [hfl, hgl] at h2
  exact h2.mono fun e w' ⟨v, he, hr, hb⟩ => ⟨v, he, ownI_R hr, hb⟩
end Go.Proofs.Ytgmhhdpggnmipaa.E

namespace Go.Proofs.Ytgmhhdpggnmipaa.E
open Go.RowKit Go.Proofs Go.ChangeShapes Go.WideShapes
open Go.Proofs.Ytgmhhdpggnmipaa.PQ Go.Proofs.YtgmhhdpggnmipaaW.PrintWords Go.Proofs.YtgmhhdpggnmipaaW.PrintLast
set_option linter.unusedVariables false
set_option linter.unusedSimpArgs false
/-- Whether lists of texts fit. -/
def fits22 (ls : List (List ByteArray)) : Bool := decide (ls.length ≤ 2147483647) && ls.all fits2
theorem fits22_from (ls : List (List ByteArray)) (hn : ls.length ≤ 2147483647) (M : Nat) (hM : ∀ xs ∈ ls, xs.length < M) : ∀ (d j k : Nat), ls.length - j = d → j ≤ ls.length → k = M + d + 1 → laws_zzFits22.l0 k ls (ls.length : Int) (j : Int) = some ((ls.drop j).all fits2) := by
  intro d
  induction d with
  | zero =>
    intro j k hd hj hk
    obtain ⟨k, rfl⟩ : ∃ m, k = m + 1 := ⟨k - 1, by omega⟩
    rw [List.drop_eq_nil_of_le (by omega)]
    simp only [laws_zzFits22.l0]
    rw [if_neg (by omega)]; rfl
  | succ d ih =>
    intro j k hd hj hk
    obtain ⟨k, rfl⟩ : ∃ m, k = m + 1 := ⟨k - 1, by omega⟩
    have hlt : j < ls.length := by omega
    have hm := hM ls[j] (List.getElem_mem hlt)
    simp only [laws_zzFits22.l0]
    rw [if_pos (by omega), if_pos (by omega), if_pos (by omega), rdL_nat ls hlt, fits2_f ls[j] k (by omega), Option.bind_some, List.drop_eq_getElem_cons hlt, List.all_cons]
    cases hf : fits2 ls[j] with
    | false => rw [if_neg (by simp)]; rfl
    | true => rw [if_pos rfl, wrapN (by omega), ih (j + 1) k (by omega) (by omega) (by omega)]; rfl
theorem len_bound (ls : List (List ByteArray)) : ∃ M, ∀ xs ∈ ls, xs.length < M := by
  induction ls with
  | nil => exact ⟨0, fun _ h => by cases h⟩
  | cons a r ih =>
    obtain ⟨M, hM⟩ := ih
    refine ⟨M + a.length + 1, fun xs hx => ?_⟩
    rcases List.mem_cons.1 hx with rfl | h
    · omega
    · have := hM xs h; omega
theorem fits22_f (ls : List (List ByteArray)) : ∃ k, laws_zzFits22.f k ls = some (fits22 ls) := by
  obtain ⟨M, hM⟩ := len_bound ls
  refine ⟨M + ls.length + 1, ?_⟩
  unfold laws_zzFits22.f fits22
  by_cases h : ls.length ≤ 2147483647
  · rw [if_neg (by omega), decide_eq_true h]
    have h2 := fits22_from ls h M hM ls.length 0 _ (by omega) (by omega) rfl
    rw [List.drop_zero] at h2
    exact h2
  · rw [if_pos (by omega), decide_eq_false h]; rfl
/-- A list of lists of texts, as it comes in. -/
def TextsW (w : World) (v : Value) (ls : List (List Txt)) : Prop := ∃ A c, v = .slice A ls.length c ∧ ls.length ≤ c ∧ c ≤ 9223372036854775807 ∧ ∀ i (h : i < ls.length), ∃ b o u, A = some ⟨b, o, none⟩ ∧ w.cell? ⟨b, o + i, none⟩ = some u ∧ Texts w u (ls[i].map mkT)
theorem TextsW.below {w w' : World} {v : Value} {ls : List (List Txt)} (h : TextsW w v ls) (hb : Below w.heap.size w w') : TextsW w' v ls := by
  obtain ⟨A, c, e, h1, h2, h3⟩ := h
  refine ⟨A, c, e, h1, h2, fun i hi => ?_⟩
  obtain ⟨b, o, u, e1, e2, e3⟩ := h3 i hi
  exact ⟨b, o, u, e1, cell_kept hb e2, e3.below hb⟩
theorem Texts.inn {w : World} {u : Value} {xs : List ByteArray} (h : Texts w u xs) (h0 : xs ≠ []) : TextIn w u xs := by
  obtain ⟨A, c, e, h1, h2, h3, h4⟩ := h
  refine ⟨A, c, e, h1, h2, h3, h4, fun a ha => ?_⟩
  obtain ⟨b, o, e2, hc⟩ := h1 0 (List.length_pos_iff.2 h0)
  rw [ha] at e2
  cases e2
  exact lt_of_cell9 hc
theorem TextsW.inn {w : World} {v : Value} {ls : List (List Txt)} (h : TextsW w v ls) (h0 : ∀ L ∈ ls, L ≠ []) : TextsIn w v ls := by
  obtain ⟨A, c, e, h1, h2, h3⟩ := h
  refine ⟨A, c, e, h1, h2, fun i hi => ?_⟩
  obtain ⟨b, o, u, e1, e2, e3⟩ := h3 i hi
  exact ⟨b, o, u, e1, e2, e3.inn (by have := h0 ls[i] (List.getElem_mem hi); simpa using this)⟩
theorem TextsW.kd {w : World} {v : Value} {ls : List (List Txt)} (h : TextsW w v ls) : ∃ A c, v = .slice A ls.length c ∧ Kd.C (Kd.slice 9 Kd.string) w A (ls.map (·.map mkT)).length (ls.map (·.map mkT)) ∧ (ls.map (·.map mkT)).length ≤ c := by
  obtain ⟨A, c, rfl, h1, h2, h3⟩ := h
  have hl : (ls.map (·.map mkT)).length = ls.length := List.length_map _
  refine ⟨A, c, rfl, ⟨rfl, by omega, fun h0 => ?_⟩, by omega⟩
  rw [hl] at h0
  obtain ⟨b, o, _, hA, _⟩ := h3 0 h0
  subst hA
  refine ⟨_, rfl, fun j p hp => ?_⟩
  have hj : j < ls.length := by have := (List.getElem?_eq_some_iff.1 hp).1; omega
  obtain ⟨b', o', u, e1, e2, A, c', rfl, hs, hc, hm, _⟩ := h3 j hj
  cases e1
  have hp2 : ls[j].map mkT = p := by
    rw [List.getElem?_map, List.getElem?_eq_getElem hj] at hp
    exact Option.some.inj hp
  rw [hp2] at e2 hs hc
  refine ⟨[.slice A p.length c'], rfl, ⟨A, c', rfl, hc, kd_str hs (by omega)⟩, fun i u hu => ?_⟩
  have hi : i = 0 := by
    have := (List.getElem?_eq_some_iff.1 hu).1
    simp at this; exact this
  subst hi
  show w.cell? ((⟨b, o, none⟩ : Addr).add (j * 1 + 0)) = some u
  rw [addr_add, Nat.mul_one, Nat.add_zero, e2]
  exact hu
theorem zz22_c {w : World} {v : Value} {ls : List (List Txt)} (h : TextsW w v ls) : Calls Try.prog 36 #[v] w fun e w' => e = .returned (.bool (fits22 (ls.map (·.map mkT)))) ∧ Below w.heap.size w w' := by
  obtain ⟨A, c, rfl, h1, h2⟩ := h.kd
  obtain ⟨k, hk⟩ := fits22_f (ls.map (·.map mkT))
  have hx := (laws_zzFits22.calls k A c _ _ w h1 h2 hk).mono fun e w' ⟨he, hd⟩ => (⟨he, hd.below⟩ : e = Ending.returned (.bool (fits22 (ls.map (fun L : List Txt => L.map mkT)))) ∧ Below w.heap.size w w')
  rw [List.length_map] at hx
  exact hx
theorem fits22_iff {ls : List (List ByteArray)} : fits22 ls = true ↔ ls.length ≤ 2147483647 ∧ ∀ xs ∈ ls, fits2 xs = true := by
  unfold fits22; simp
theorem fits14w_c {w : World} {v : Value} {ls : List (List Txt)} (h : TextsW w v ls) (hf : fits22 (ls.map (·.map mkT)) = true) {b : Bool} (hb : decide (wtBB (ls.map (·.map mkT)) ≤ 1048576) = b) : Calls Try.prog 17 #[v] w fun e w' => e = .returned (.bool b) ∧ Below w.heap.size w w' := by
  subst hb
  obtain ⟨A, c, rfl, h1, h2⟩ := h.kd
  obtain ⟨hn, hs⟩ := fits22_iff.1 hf
  have hx := (laws_fits14.calls _ A c _ _ w h1 h2 (fits14_f _ hn (fun xs hx => fits2_iff.1 (hs xs hx)))).mono fun e w' ⟨he, hd⟩ => (⟨he, hd.below⟩ : e = Ending.returned (.bool (decide (wtBB (ls.map (fun L : List Txt => L.map mkT)) ≤ 1048576))) ∧ Below w.heap.size w w')
  rw [List.length_map] at hx
  exact hx
theorem wts_map (ls : List (List Txt)) : wtBB (ls.map (·.map mkT)) = wts ls := by
  induction ls with
  | nil => rfl
  | cons a r ih =>
    show wtB (a.map mkT) + wtBB (r.map (·.map mkT)) = wts (a :: r)
    rw [ih, wt_map]
    simp [wts]
theorem wt_le_wts {ls : List (List Txt)} {L : List Txt} (h : L ∈ ls) : wt L ≤ wts ls := by
  induction ls with
  | nil => cases h
  | cons a r ih =>
    have e : wts (a :: r) = wt a + wts r := by simp [wts]
    rcases List.mem_cons.1 h with rfl | h
    · omega
    · have := ih h; omega
/-- A list of lists of texts that came in. -/
theorem lists_of_trod {H : Type} {enc : TypeId × Value → H} {P : Program} {W : World} {t e es : TypeId} {fuel : Nat} {cs : List Value} {x : DataW H × List MemPlace}
    (ht : P.underlying t = some (.slice e)) (hc1 : P.cellsOf e = 1) (he : P.underlying e = some (.slice es)) (hes : P.underlying es = some .string) (hcs : P.cellsOf es = 1) (hf : DataW.trod enc P W 0 (fun _ => true) true fuel t cs = some x) :
    ∃ (ls : List (List Txt)) (v : Value), cs = [v] ∧ TextsW W v ls := by
  rcases DataW.trod_slice ht hf with ⟨hc, hx⟩ | ⟨a, len, cap, elems, rest, n, _, hc, hxx, hb, hl, hm, hlen, hel, _, _⟩
  · exact ⟨[], _, hc, none, 0, rfl, Nat.le_refl _, by simp, fun i hi => by simp at hi⟩
  · have each : ∀ i, i < len → ∃ L : List Txt, ∃ u, W.cell? (a.add i) = some u ∧ Texts W u (L.map mkT) := by
      intro i hi
      have hi2 := hel i hi
      rw [hc1, List.getElem?_eq_getElem (by omega), Option.bind_eq_some_iff, Nat.mul_one] at hi2
      obtain ⟨cs', hcs', htr⟩ := hi2
      obtain ⟨hb1, hl3, hcell⟩ := World.cells?_some hcs'
      obtain ⟨u, xs, rfl, htx⟩ := texts_of_trod9 he hes hcs htr
      refine ⟨xs.map fun s => s.data.toList, u, ?_, by rw [texts_back]; exact htx⟩
      have h0 := hcell 0 (by omega)
      rw [show (a.add i).add 0 = a.add i by simp [Addr.add]] at h0
      simpa using h0
    obtain ⟨L, hL, hQ⟩ := list_of_each9 len each
    refine ⟨L, _, hc, some a, cap, by rw [hL], by rw [hL]; exact hl, by unfold maxLen at hm; omega, fun i hi => ?_⟩
    obtain ⟨u, k0, k1⟩ := hQ i hi
    obtain ⟨b, o, spot⟩ := a
    obtain ⟨u0, z0, _⟩ := hQ 0 (by omega)
    obtain rfl : spot = none := by simpa [Addr.add] using World.cell?_spot z0
    rw [add_mid9] at k0
    exact ⟨b, o, u, rfl, k0, k1⟩
theorem hds_at {E : PS → Value → Value → Value → Prop} {n : Nat} : ∀ {hs : List (PS × Er)} {xs : List Value}, HdsAt E n hs xs → ∀ i (h : i < hs.length), ∃ (GA : Option Addr) (gc : Nat) (AA : Option Addr) (ac : Nat) (CA : Option Addr) (cc : Nat), E hs[i].1 (.slice GA hs[i].1.G.length gc) (.slice AA hs[i].1.A.length ac) (.slice CA (chL hs[i].1.chg n).length cc) ∧ ∀ j u, (hdCells hs[i].1 hs[i].2 n (.slice GA hs[i].1.G.length gc) (.slice AA hs[i].1.A.length ac) (.slice CA (chL hs[i].1.chg n).length cc)).toList[j]? = some u → xs[i * 11 + j]? = some u
  | [], _, _, i, h => absurd h (by simp)
  | p :: r, xs, hx, 0, _ => by
    obtain ⟨GA, gc, AA, ac, CA, cc, ys, rfl, he, _⟩ := hx
    refine ⟨GA, gc, AA, ac, CA, cc, he, fun j u hu => ?_⟩
    have hu : (hdCells p.1 p.2 n (.slice GA p.1.G.length gc) (.slice AA p.1.A.length ac) (.slice CA (chL p.1.chg n).length cc)).toList[j]? = some u := hu
    rw [Nat.zero_mul, Nat.zero_add, List.getElem?_append_left (List.getElem?_eq_some_iff.1 hu).1]
    exact hu
  | p :: r, xs, hx, i + 1, h => by
    obtain ⟨GA, gc, AA, ac, CA, cc, ys, rfl, he, hr⟩ := hx
    obtain ⟨GA', gc', AA', ac', CA', cc', he', hj⟩ := hds_at hr i (by simpa using h)
    refine ⟨GA', gc', AA', ac', CA', cc', he', fun j u hu => ?_⟩
    have hl : (hdCells p.1 p.2 n (.slice GA p.1.G.length gc) (.slice AA p.1.A.length ac) (.slice CA (chL p.1.chg n).length cc)).toList.length = 11 := by simp [hdCells]
    rw [List.getElem?_append_right (by rw [hl]; omega), hl, show (i + 1) * 11 + j - 11 = i * 11 + j by omega]
    exact hj j u hu
/-- What calls of Parse left, wherever it lies. -/
def ParsIs (w : World) (v : Value) (n : Nat) (Q : List (PS × Er)) : Prop := ∃ xs, w.ownsRow 0 32 11 v Q.length xs ∧ HdsAt (fun s G A C => HdRows 0 w s n G A C) n Q xs
theorem ParsIs.below {w w' : World} {v : Value} {n : Nat} {Q : List (PS × Er)} (h : ParsIs w v n Q) (hb : Below w.heap.size w w') : ParsIs w' v n Q := by
  obtain ⟨xs, h1, h2⟩ := h
  exact ⟨xs, own_kept h1 hb, HdsAt.imp (fun _ _ _ _ k => HdRows.below k hb) h2⟩
def ParsE (w : World) (n : Nat) (Q : List (PS × Er)) (e : Ending) (w' : World) : Prop := ∃ v, e = .returned v ∧ ParsIs w' v n Q ∧ Below w.heap.size w w'
theorem ParsesEnd.is {w w' : World} {n : Nat} {Q : List (PS × Er)} {e : Ending} (h : ParsesEnd w n Q e w') : ParsE w n Q e w' := by
  obtain ⟨v, xs, e, h1, h2, hb⟩ := h
  exact ⟨v, e, ⟨xs, own_lower h1 (Nat.zero_le _), h2⟩, hb⟩
/-- One element, its eleven cells under names. -/
def El11 (w : World) (g j : Nat) (p : PS × Er) (n : Nat) : Prop := ∃ x0 x1 x2 x3 x4 x5 x6 x7 x8 x9 x10 : Value, w.cell? ⟨g, j, none⟩ = some x0 ∧ w.cell? ⟨g, j + 1, none⟩ = some x1 ∧ w.cell? ⟨g, j + 2, none⟩ = some x2 ∧ w.cell? ⟨g, j + 3, none⟩ = some x3 ∧ w.cell? ⟨g, j + 4, none⟩ = some x4 ∧ w.cell? ⟨g, j + 5, none⟩ = some x5 ∧ w.cell? ⟨g, j + 6, none⟩ = some x6 ∧ w.cell? ⟨g, j + 7, none⟩ = some x7 ∧ w.cell? ⟨g, j + 8, none⟩ = some x8 ∧ w.cell? ⟨g, j + 9, none⟩ = some x9 ∧ w.cell? ⟨g, j + 10, none⟩ = some x10 ∧ HeardIs w p.1 p.2 n (.agg #[x0, x1, x2, x3, x4, x5, x6, x7, x8, x9, x10])
theorem ParsIs.read {w : World} {v : Value} {n : Nat} {Q : List (PS × Er)} (h : ParsIs w v n Q) : ∃ A c, v = .slice A Q.length c ∧ ∀ i (hi : i < Q.length), ∃ g, A = some ⟨g, 0, none⟩ ∧ El11 w g (i * 11) Q[i] n := by
  obtain ⟨xs, h1, h2⟩ := h
  obtain ⟨A, c, rfl, hr⟩ := own_row h1
  refine ⟨A, c, rfl, fun i hi => ?_⟩
  obtain ⟨GA, gc, AA, ac, CA, cc, he, hj⟩ := hds_at h2 i hi
  obtain ⟨g, hA, _⟩ := hr _ _ (hj 0 _ rfl)
  refine ⟨g, hA, ?_⟩
  have hk : ∀ j u, (hdCells Q[i].1 Q[i].2 n (.slice GA Q[i].1.G.length gc) (.slice AA Q[i].1.A.length ac) (.slice CA (chL Q[i].1.chg n).length cc)).toList[j]? = some u → w.cell? ⟨g, i * 11 + j, none⟩ = some u := fun j u hu => by
    obtain ⟨g', hA', hc⟩ := hr _ _ (hj j u hu)
    rw [hA] at hA'
    cases hA'
    exact hc
  exact ⟨_, _, _, _, _, _, _, _, _, _, _, hk 0 _ rfl, hk 1 _ rfl, hk 2 _ rfl, hk 3 _ rfl, hk 4 _ rfl, hk 5 _ rfl, hk 6 _ rfl, hk 7 _ rfl, hk 8 _ rfl, hk 9 _ rfl, hk 10 _ rfl, _, _, _, rfl, he.hdIn⟩
theorem parsesL_mem {S : SetP} : ∀ {ls : List (List Txt)} {all : List (Nat × Txt)} {d : Int} {p : PS × Er}, p ∈ parsesL S ls all d → p.1.G.length ≤ wts ls ∧ p.1.A.length ≤ wts ls
  | [], _, _, _, h => by cases h
  | L :: Ls, all, d, p, h => by
    have e : wts (L :: Ls) = wt L + wts Ls := by simp [wts]
    rcases List.mem_cons.1 h with rfl | h
    · have hg := goes_len S none (stD d) L
      have hw := wt_len L
      have h1 : (stD d).given.length = 0 := rfl
      have h2 : (stD d).args.length = 0 := rfl
      show (goes S none (stD d) L).given.length ≤ _ ∧ (goes S none (stD d) L).args.length ≤ _
      omega
    · have := parsesL_mem h
      omega
theorem open_lists {H : Type} {enc : TypeId × Value → H} {P : Program} {W : World} {base : Nat} {t e es : TypeId} {v : Value} {d : DataW H} {p : List MemPlace}
    (ht : P.underlying t = some (.slice e)) (hc1 : P.cellsOf e = 1) (he : P.underlying e = some (.slice es)) (hes : P.underlying es = some .string) (hcs : P.cellsOf es = 1) (hok : Value.okWide P W .any base t v) (h : DataW.Trod enc P W 0 (fun _ => true) true t v d p) : ∃ ls : List (List Txt), TextsW W v ls := by
  obtain ⟨a0, len, cap, rfl⟩ := okWide_slice ht hok
  obtain ⟨fuel, hf⟩ := h
  obtain ⟨ls, u, hcu, hu⟩ := lists_of_trod ht hc1 he hes hcs hf
  simp [Value.cells] at hcu
  subst hcu
  exact ⟨ls, hu⟩
end Go.Proofs.Ytgmhhdpggnmipaa.E

namespace Go.Proofs.Ytgmhhdpggnmipaa.E
open Go.RowKit Go.Proofs
set_option linter.unusedVariables false
set_option linter.unusedSimpArgs false
theorem Pm.withK {w : World} {C : PC} {V : PV} {s : PS} (h : Pm w C V s) (K : Nat → Prop) (hK : ∀ b, K b → (∃ cs T fr, w.heap[b]? = some (.cells cs T fr) ∧ (T = 9 ∨ T = 57)) ∧ V.av.ownBlock ≠ some b ∧ V.said.ownBlock ≠ some b) : Pm w { C with K := K } V s :=
  ⟨h.hF, h.hW, h.fm, h.sm, h.am, h.odr, h.cnt, h.flr, h.avr, h.sdr, h.flag, h.own, h.inj, h.len, h.norm, h.low, h.lowm, hK⟩
/-- Rows of texts and of what was given, but those that the set itself lays on. -/
def keptB (w : World) (V : PV) : Nat → Prop := fun b => (∃ cs T fr, w.heap[b]? = some (.cells cs T fr) ∧ (T = 9 ∨ T = 57)) ∧ V.av.ownBlock ≠ some b ∧ V.said.ownBlock ≠ some b
def MadeK (S : SetP) (w : World) (e : Ending) (w' : World) : Prop :=
  ∃ C V, C.S = S ∧ C.B = w.heap.size ∧ C.K = (fun _ => False) ∧ e = .returned (.pointer (some ⟨C.Wb, 0, none⟩)) ∧ Pm w' C V s0 ∧ Below w.heap.size w w'
theorem MadeEnd.k {S : SetP} {w w' : World} {e : Ending} (h : MadeEnd S w e w') : MadeK S w e w' := by
  obtain ⟨C, V, h1, h2, h3, h4, h5⟩ := h
  exact ⟨{ C with K := fun _ => False }, V, h1, h2, rfl, h3, h4.withK _ (fun b hk => hk.elim), h5⟩
theorem Pm.backK {w : World} {C : PC} {V : PV} {s : PS} {K : Nat → Prop} (hC : C.K = fun _ => False) (h : Pm w { C with K := K } V s) : Pm w C V s :=
  ⟨h.hF, h.hW, h.fm, h.sm, h.am, h.odr, h.cnt, h.flr, h.avr, h.sdr, h.flag, h.own, h.inj, h.len, h.norm, h.low, h.lowm, fun b hk => by rw [hC] at hk; exact hk.elim⟩
/-- One element of a row of what was heard: its rows are none that the set lays on. -/
def HdEi (V : PV) (w : World) (n : Nat) (s : PS) (G A C : Value) : Prop := HdRows 0 w s n G A C ∧ (∀ b, G.ownBlock = some b → V.said.ownBlock ≠ some b) ∧ (∀ b, A.ownBlock = some b → V.av.ownBlock ≠ some b)
theorem HdEi.blk {V : PV} {w w' : World} {n : Nat} {s : PS} {G A C : Value} (h : HdEi V w n s G A C) (k : ∀ (b : Nat) (cs : Array Value) (T : TypeId) (fr : Nat × Nat), w.heap[b]? = some (Obj.cells cs T fr) → (T = 57 ∨ T = 9 ∨ T = 3) → w'.heap[b]? = w.heap[b]?) : HdEi V w' n s G A C := by
  obtain ⟨⟨h1, h2, h3⟩, h4⟩ := h
  refine ⟨⟨own_of_blk h1 (fun g hg => ?_), own_of_blk h2 (fun g hg => ?_), own_of_blk h3 (fun g hg => ?_)⟩, h4⟩
  · obtain ⟨cur, hc⟩ := own_is h1 hg
    exact k _ _ _ _ hc (.inl rfl)
  · obtain ⟨cur, hc⟩ := own_is h2 hg
    exact k _ _ _ _ hc (.inr (.inl rfl))
  · obtain ⟨cur, hc⟩ := own_is h3 hg
    exact k _ _ _ _ hc (.inr (.inr rfl))
theorem HdEi.below {V : PV} {w w' : World} {n : Nat} {s : PS} {G A C : Value} (h : HdEi V w n s G A C) (hb : Below w.heap.size w w') : HdEi V w' n s G A C := h.blk fun b cs T fr hc _ => hb.block b (lt_of_block hc)
theorem HdEi.fr {C : PC} {V V3 : PV} {w w3 : World} {s0 s3 : PS} {n : Nat} {s : PS} {G A Cv : Value} (h : HdEi V w n s G A Cv) (hp : Pm w C V s0) (hf : Fr { C with K := keptB w V } w w3) (hp3 : Pm w3 { C with K := keptB w V } V3 s3) : HdEi V3 w3 n s G A Cv := by
  obtain ⟨⟨h1, h2, h3⟩, h4, h5⟩ := h
  have k1 : ∀ b, G.ownBlock = some b → keptB w V b := fun b hb => by
    obtain ⟨cur, hc⟩ := own_is h1 hb
    exact ⟨⟨_, _, _, hc, .inr rfl⟩, own_far3 hp.avr hc (by decide), h4 b hb⟩
  have k2 : ∀ b, A.ownBlock = some b → keptB w V b := fun b hb => by
    obtain ⟨cur, hc⟩ := own_is h2 hb
    exact ⟨⟨_, _, _, hc, .inl rfl⟩, h5 b hb, own_far3 hp.sdr hc (by decide)⟩
  refine ⟨⟨own_of_blk h1 (fun b hb => hf.keepK b (k1 b hb) (h1.lt b hb).2), own_of_blk h2 (fun b hb => hf.keepK b (k2 b hb) (h2.lt b hb).2), own_of_blk h3 (fun b hb => ?_)⟩, fun b hb => (hp3.kp b (k1 b hb)).2.2, fun b hb => (hp3.kp b (k2 b hb)).2.1⟩
  obtain ⟨cur, hc⟩ := own_is h3 hb
  rw [hc]; exact hf.keep _ _ _ _ hc (by decide) (by decide) (by decide) (by decide) (by decide) (fun e => absurd e (by decide))
/-- Between two calls of Parse. -/
structure IqRel (w0 wr : World) (S : SetP) (d : Nat) (ls : List (List Txt)) (Q : List (PS × Er)) (k : Nat) (all : List (Nat × Txt)) (ds : Int) (C : PC) (V : PV) (outv : Value) : Prop where
  ch : Ch w0 wr (fun b => b = d)
  box : wr.heap[d]? = some (.cells #[outv] 70 (0, 0))
  pm : ∃ pb A, Pm wr C V (psOf none pb ⟨all, A, ds, .no⟩)
  els : ∃ hs xs, hs.length = k ∧ wr.ownsRow w0.heap.size 32 11 outv k xs ∧ HdsAt (HdEi V wr S.flags.length) S.flags.length hs xs ∧ hs ++ parsesL S (ls.drop k) all ds = Q
  cnt : all.length + wts (ls.drop k) ≤ 1099511627776
/-- What one call gives, whatever was given ahead of it. -/
theorem goes_again (S : SetP) (all : List (Nat × Txt)) (A : List Txt) (d : Int) (L : List Txt) : goes S none { (⟨all, A, d, .no⟩ : St) with args := [] } L = { goes S none (stD d) L with given := all ++ (goes S none (stD d) L).given } := by
  have h := goes_shift S none all _ (stD d) L (Nat.le_refl _)
  have e : ({ (stD d) with given := all ++ (stD d).given } : St) = { (⟨all, A, d, .no⟩ : St) with args := [] } := by simp [stD]
  rw [e] at h
  exact h
/-- Behind a call of Parse and the telling of it. -/
structure IqMid (w0 w4 : World) (S : SetP) (d : Nat) (Q : List (PS × Er)) (ls : List (List Txt)) (k : Nat) (q : St) (G8 : List (Nat × Txt)) (C : PC) (V : PV) (outv : Value) (hs : List (PS × Er)) (xs : List Value) (G A Cv : Value) : Prop where
  ch : Ch w0 w4 (fun b => b = d)
  box : w4.heap[d]? = some (.cells #[outv] 70 (0, 0))
  pm : Pm w4 C V (psOf none true ⟨G8, q.args, q.dash, .no⟩)
  len : hs.length = k
  out : w4.ownsRow w0.heap.size 32 11 outv k xs
  els : HdsAt (HdEi V w4 S.flags.length) S.flags.length hs xs
  el : HdEi V w4 S.flags.length (hpOf q G8) G A Cv
  res : hs ++ [(hpOf q G8, q.err)] ++ parsesL S (ls.drop (k + 1)) G8 q.dash = Q
theorem IqRel.mid {w0 wr w3 w4 : World} {S : SetP} {d : Nat} {ls : List (List Txt)} {Q : List (PS × Er)} {k : Nat} {all : List (Nat × Txt)} {ds : Int} {C : PC} {V V3 : PV} {outv : Value} (h : IqRel w0 wr S d ls Q k all ds C V outv) (hk : k < ls.length) (hC : C.K = fun _ => False) (hCB : C.B = w0.heap.size) (hd : d < w0.heap.size) {q : St} (hq : goes S none (stD ds) ls[k] = q)
    (hf : Fr { C with K := keptB wr V } wr w3) (hp3 : Pm w3 { C with K := keptB wr V } V3 (psOf none true { q with given := all ++ q.given })) (hb : Below w3.heap.size w3 w4) {GA AA CA : Option Addr} {gc ac cc : Nat}
    (hG : w4.ownsRow w3.heap.size 57 2 (.slice GA q.given.length gc) q.given.length (gCells q.given)) (hA : w4.ownsRow w3.heap.size 9 1 (.slice AA q.args.length ac) q.args.length (aCells q.args))
    (hI : w4.ownsRow w3.heap.size 3 1 (.slice CA (chL (chgM none (all ++ q.given)) S.flags.length).length cc) (chL (chgM none (all ++ q.given)) S.flags.length).length (iCells (chL (chgM none (all ++ q.given)) S.flags.length))) :
    ∃ hs xs, IqMid w0 w4 S d Q ls k q (all ++ q.given) C V3 outv hs xs (.slice GA q.given.length gc) (.slice AA q.args.length ac) (.slice CA (chL (chgM none (all ++ q.given)) S.flags.length).length cc) := by
  obtain ⟨hs, xs, e1, e2, e3, e4⟩ := h.els
  obtain ⟨pb, A, hp⟩ := h.pm
  refine ⟨hs, xs, ⟨?_, ?_, (hp3.below hb).backK hC, e1, ?_, ?_, ⟨⟨own_lower hG (Nat.zero_le _), own_lower hA (Nat.zero_le _), own_lower hI (Nat.zero_le _)⟩, ?_, ?_⟩, ?_⟩⟩
  · refine ⟨(hb.os.trans hf.os).trans h.ch.os, (hb.tape.trans hf.tape).trans h.ch.tape, (hb.output.trans hf.output).trans h.ch.output, Nat.le_trans h.ch.size (Nat.le_trans hf.size hb.size), fun b hl hX => ?_⟩
    have l1 := Nat.lt_of_lt_of_le hl h.ch.size
    exact (hb.block b (Nat.lt_of_lt_of_le l1 hf.size)).trans ((hf.low b (by show b < C.B; omega) l1).trans (h.ch.block b hl hX))
  · exact block_kept (hf.low_of (by show d < C.B; omega) h.box) hb
  · refine own_kept (own_of_blk e2 fun b hb2 => ?_) hb
    obtain ⟨cur, hc⟩ := own_is e2 hb2
    rw [hc]; exact hf.keep _ _ _ _ hc (by decide) (by decide) (by decide) (by decide) (by decide) (fun e => absurd e (by decide))
  · exact e3.imp fun _ _ _ _ x => (x.fr hp hf hp3).below hb
  · intro b hb2 e
    have l1 := (hG.lt b hb2).1
    have l2 := (hp3.sdr.lt b e).2
    omega
  · intro b hb2 e
    have l1 := (hA.lt b hb2).1
    have l2 := (hp3.avr.lt b e).2
    omega
  · rw [← e4, List.drop_eq_getElem_cons hk]
    simp only [parsesL]
    rw [hq, List.append_assoc]
    rfl
theorem lt_of_cellQ {w : World} {a : Addr} {v : Value} (h : w.cell? a = some v) : a.block < w.heap.size := by
  unfold World.cell? at h
  by_cases hl : a.block < w.heap.size
  · exact hl
  · rw [Array.getElem?_eq_none (by omega)] at h; simp at h
/-- A set of which no block turned: rows of what was heard, and the variable that holds them, did. -/
theorem Pm.aside {w w' : World} {C : PC} {V : PV} {s : PS} (h : Pm w C V s) (hsz : w.heap.size ≤ w'.heap.size) (X : Nat → Prop) (hk : ∀ b, b < w.heap.size → ¬ X b → w'.heap[b]? = w.heap[b]?)
    (hx : ∀ b, X b → ∃ cs T fr, w.heap[b]? = some (.cells cs T fr) ∧ (T = 32 ∨ T = 70) ∧ (b < C.B → ∀ (j : Nat) (t : ByteArray), cs[j]? ≠ some (Value.string t))) : Pm w' C V s := by
  have key : ∀ {b : Nat} {cs : Array Value} {T : TypeId} {fr : Nat × Nat}, w.heap[b]? = some (.cells cs T fr) → T ≠ 32 → T ≠ 70 → w'.heap[b]? = w.heap[b]? := by
    intro b cs T fr hb h1 h2
    refine hk b (lt_of_block hb) (fun hX => ?_)
    obtain ⟨cs', T', fr', e, q, _⟩ := hx b hX
    rw [hb] at e
    simp only [Option.some.injEq, Obj.cells.injEq] at e
    obtain ⟨_, rfl, _⟩ := e
    exact q.elim h1 h2
  have keyM : ∀ {b : Nat}, b < w.heap.size → (∀ (cs : Array Value) (T : TypeId) (fr : Nat × Nat), w.heap[b]? ≠ some (Obj.cells cs T fr)) → w'.heap[b]? = w.heap[b]? := fun hl hn => hk _ hl (fun hX => by
    obtain ⟨cs', T', fr', e, _⟩ := hx _ hX
    exact hn _ _ _ e)
  obtain ⟨n1, hm1⟩ := h.fm
  obtain ⟨n2, hm2⟩ := h.sm
  obtain ⟨f3, hm3⟩ := h.am
  obtain ⟨xs4, ho4⟩ := h.odr
  have kr : ∀ {e size n base : Nat} {v : Value} {xs : List Value}, w.ownsRow base e size v n xs → e ≠ 32 → e ≠ 70 → w'.ownsRow base e size v n xs := fun ho h1 h2 => own_of_blk ho fun g hg => by
    obtain ⟨cur, hc⟩ := own_is ho hg
    exact key hc h1 h2
  refine ⟨(key h.hF (by decide) (by decide)).trans h.hF, (key h.hW (by decide) (by decide)).trans h.hW, ⟨n1, hm1.kept fun b e => ?_⟩, ⟨n2, hm2.kept fun b e => ?_⟩, ⟨f3, hm3.kept fun b e => ?_⟩, ⟨xs4, kr ho4 (by decide) (by decide)⟩, h.cnt, kr h.flr (by decide) (by decide), kr h.avr (by decide) (by decide), kr h.sdr (by decide) (by decide), fun i hi => (key (h.flag i hi) (by decide) (by decide)).trans (h.flag i hi), fun i hi => ?_, h.inj, h.len, h.norm.kept (fun cs fr e => key e (by decide) (by decide)), ⟨h.low.1, h.low.2.1, h.low.2.2.1, h.low.2.2.2.1, h.low.2.2.2.2.1, h.low.2.2.2.2.2.1, Nat.le_trans h.low.2.2.2.2.2.2 hsz⟩, h.lowm, fun b hb => ?_⟩
  · rw [e] at hm1; exact keyM hm1.lt (fun cs T fr hc => map_ne hm1 hc rfl)
  · rw [e] at hm2; exact keyM hm2.lt (fun cs T fr hc => map_ne hm2 hc rfl)
  · rw [e] at hm3; exact keyM hm3.lt (fun cs T fr hc => map_ne hm3 hc rfl)
  · obtain ⟨v, e1, e2, e3⟩ := h.own i hi
    refine ⟨v, (key e1 (by decide) (by decide)).trans e1, ?_, e3⟩
    obtain ⟨A, cap, rfl, hs, r⟩ := e2
    refine ⟨A, cap, rfl, fun j hj => ?_, r⟩
    obtain ⟨b, o, e, hc⟩ := hs j hj
    subst e
    refine ⟨b, o, rfl, ?_⟩
    have hnX : ¬ X b := fun hX => by
      obtain ⟨cs, T, fr, hb, _, hn⟩ := hx b hX
      rw [cell_blk hb] at hc
      exact hn (e3 _ _ _ rfl (by omega)) _ _ hc
    rw [World.cell?_of_block (hk b (lt_of_cellQ hc) hnX)]
    exact hc
  · obtain ⟨⟨cs, T, fr, hc, hT⟩, q⟩ := h.kp b hb
    exact ⟨⟨cs, T, fr, (key hc (by rcases hT with rfl | rfl <;> decide) (by rcases hT with rfl | rfl <;> decide)).trans hc, hT⟩, q⟩
theorem IqMid.next {w0 w4 wa wb : World} {S : SetP} {d : Nat} {Q : List (PS × Er)} {ls : List (List Txt)} {k : Nat} {q : St} {G8 : List (Nat × Txt)} {C : PC} {V : PV} {outv vb : Value} {hs : List (PS × Er)} {xs : List Value} {GA AA CA : Option Addr} {gc ac cc : Nat} (h : IqMid w0 w4 S d Q ls k q G8 C V outv hs xs (.slice GA q.given.length gc) (.slice AA q.args.length ac) (.slice CA (chL (hpOf q G8).chg S.flags.length).length cc))
    (hal : Below w4.heap.size w4 wa) (hg : wa.grownBy wb outv.ownBlock) (ho : wb.ownsRow w0.heap.size 32 11 vb (k + 1) (xs ++ (hdCells (hpOf q G8) q.err S.flags.length (.slice GA q.given.length gc) (.slice AA q.args.length ac) (.slice CA (chL (hpOf q G8).chg S.flags.length).length cc)).toList)) (hd : d < w0.heap.size) (hCB : C.B = w0.heap.size) (hc : G8.length + wts (ls.drop (k + 1)) ≤ 1099511627776) :
    IqRel w0 (wb.setCell ⟨d, 0, none⟩ vb) S d ls Q (k + 1) G8 q.dash C V vb := by
  have keep : ∀ (b : Nat) (cs : Array Value) (T : TypeId) (fr : Nat × Nat), w4.heap[b]? = some (Obj.cells cs T fr) → T ≠ 32 → wb.heap[b]? = some (Obj.cells cs T fr) := fun b cs T fr hb hT => grown_blk hg (block_kept hb hal) (fun e => own_far3 h.out hb hT e.symm)
  have hbox := keep _ _ _ _ h.box (by decide)
  have nd : ∀ {b : Nat} {cs : Array Value} {T : TypeId} {fr : Nat × Nat}, w4.heap[b]? = some (Obj.cells cs T fr) → T ≠ 70 → b ≠ d := fun hb hT e => by
    subst e
    have := h.box.symm.trans hb
    simp only [Option.some.injEq, Obj.cells.injEq] at this
    exact hT this.2.1.symm
  have hch : Ch w4 (wb.setCell ⟨d, 0, none⟩ vb) (fun b => b = d ∨ outv.ownBlock = some b) := ((Ch.of_below hal _).grown hg (fun b _ e => .inr e.symm)).set _ _ (fun _ => .inl rfl)
  have hE : ∀ s G A Cv, HdEi V w4 S.flags.length s G A Cv → HdEi V (wb.setCell ⟨d, 0, none⟩ vb) S.flags.length s G A Cv := fun s G A Cv he => he.blk fun b cs T fr hb hT => by
    have h1 : T ≠ 32 := by rcases hT with rfl | rfl | rfl <;> decide
    have h2 : T ≠ 70 := by rcases hT with rfl | rfl | rfl <;> decide
    rw [blk_other (nd hb h2), keep _ _ _ _ hb h1, hb]
  refine ⟨?_, blk_set hbox 0 vb, ⟨true, q.args, ?_⟩, ⟨hs ++ [(hpOf q G8, q.err)], _, by rw [List.length_append, h.len]; rfl, own_of_blk ho (fun b hb => blk_other (fun e => by subst e; exact own_far3 ho hbox (by decide) hb)), hdsAt_snoc (p := (hpOf q G8, q.err)) (hE _ _ _ _ h.el) (h.els.imp hE), h.res⟩, hc⟩
  · refine ⟨hch.os.trans h.ch.os, hch.tape.trans h.ch.tape, hch.output.trans h.ch.output, Nat.le_trans h.ch.size hch.size, fun b hl hX => ?_⟩
    refine (hch.block b (Nat.lt_of_lt_of_le hl h.ch.size) (fun e => ?_)).trans (h.ch.block b hl hX)
    rcases e with e | e
    · exact hX e
    · have := (h.out.lt b e).1; omega
  · refine h.pm.aside hch.size _ (fun b hl hX => hch.block b hl hX) (fun b hX => ?_)
    rcases hX with rfl | e
    · exact ⟨_, _, _, h.box, .inr rfl, fun _ j t e => by
        cases j with
        | zero =>
          have e : some outv = some (.string t) := e
          obtain ⟨A, c, hv, _⟩ := own_row h.out
          rw [hv] at e
          cases e
        | succ j => simp at e⟩
    · obtain ⟨cur, hc⟩ := own_is h.out e
      exact ⟨_, _, _, hc, .inl rfl, fun hl => by have := (h.out.lt b e).1; omega⟩
theorem restAt_in {C : PC} {w : World} {v : Value} {L : List Txt} (h : TextIn w v (L.map mkT)) (hB : w.heap.size ≤ C.B) : RestAt C w v L := by
  obtain ⟨A, c, rfl, h1, h2, h3, h4, h5⟩ := h
  have hl : (L.map mkT).length = L.length := List.length_map _
  exact ⟨A, c, by rw [hl], h1, by rw [hl] at h2; exact h2, h3, h4, fun a ha => Nat.lt_of_lt_of_le (h5 a ha) hB⟩
theorem RestAt.up {C C' : PC} {w : World} {v : Value} {L : List Txt} (h : RestAt C w v L) (hB : C.B ≤ C'.B) : RestAt C' w v L := by
  obtain ⟨A, c, e, h1, h2, h3, h4, h5⟩ := h
  exact ⟨A, c, e, h1, h2, h3, h4, fun a ha => Nat.lt_of_lt_of_le (h5 a ha) hB⟩
/-- What the closure leaves. -/
def IqEnd (w : World) (d n : Nat) (Q : List (PS × Er)) (w' : World) : Prop := ∃ outv xs, w'.heap[d]? = some (.cells #[outv] 70 (0, 0)) ∧ w'.ownsRow w.heap.size 32 11 outv Q.length xs ∧ HdsAt (fun s G A C => HdRows 0 w' s n G A C) n Q xs
theorem IqRel.fin {w0 wr : World} {S : SetP} {d : Nat} {ls : List (List Txt)} {Q : List (PS × Er)} {k : Nat} {all : List (Nat × Txt)} {ds : Int} {C : PC} {V : PV} {outv : Value} (h : IqRel w0 wr S d ls Q k all ds C V outv) (hk : k = ls.length) : IqEnd w0 d S.flags.length Q wr := by
  obtain ⟨hs, xs, h1, h2, h3, h4⟩ := h.els
  subst hk
  rw [List.drop_length] at h4
  have h4 : hs ++ [] = Q := h4
  rw [List.append_nil] at h4
  subst h4
  exact ⟨outv, xs, h.box, by rw [h1]; exact h2, h3.imp (fun _ _ _ _ q => q.1)⟩
/-- The call of Parse in a round. -/
theorem iq_parse {w0 wr : World} {d : Nat} {ls : List (List Txt)} {Q : List (PS × Er)} {k : Nat} {all : List (Nat × Txt)} {ds : Int} {C : PC} {V : PV} {outv : Value} (h : IqRel w0 wr C.S d ls Q k all ds C V outv) (hR : Right C.S) (hsz : ∀ i (h : i < C.S.flags.length), (C.S.flags[i].name).length ≤ 17179869184) (hk : k < ls.length) {q : St} (hq : goes C.S none (stD ds) ls[k] = q) {vr : Value} (hr : RestAt C wr vr ls[k]) (hls : ∀ t ∈ ls[k], t.length ≤ 8589934592) (W : World) (hb : Below wr.heap.size wr W) :
    Calls Try.prog 58 #[.pointer (some ⟨C.F, 0, none⟩), vr] W (fun e w3 => ∃ E V3, e = .returned E ∧ Pm w3 { C with K := keptB wr V } V3 (psOf none true { q with given := all ++ q.given }) ∧ ErrAt C w3 E q.err ∧ Fr { C with K := keptB wr V } wr w3) := by
  obtain ⟨pb, A, hp⟩ := h.pm
  have hc := h.cnt
  rw [wts_drop hk] at hc
  have hp1 := hp.withK (keptB wr V) (fun b hb => hb)
  have hx := parse_any { C with K := keptB wr V } hR V pb ⟨all, A, ds, .no⟩ ls[k] vr W (hp1.below hb) hsz (by show all.length + _ ≤ _; omega) rfl (RestAt.up (C' := { C with K := keptB wr V }) (hr.below hb) (Nat.le_refl _)) hls
  rw [show goes ({ C with K := keptB wr V } : PC).S none { (⟨all, A, ds, .no⟩ : St) with args := [] } ls[k] = { q with given := all ++ q.given } by rw [← hq]; exact goes_again _ _ _ _ _] at hx
  refine hx.mono ?_
  rintro e w3 ⟨E, V3, e1, h2, h3, h4⟩
  exact ⟨E, V3, e1, h2, h3, (Fr.of_below hb).trans h4⟩
set_option maxRecDepth 100000 in
set_option maxHeartbeats 6400000 in
theorem iclos_any (S : SetP) (hR : Right S) (A : Option Addr) (cap : Nat) (ls : List (List Txt)) (lA : Option Addr) (lc a b d : Nat) (wb w : World) (hbw : Below wb.heap.size wb w) (hld : wb.heap.size ≤ d) (hl : TextsIn wb (.slice lA ls.length lc) ls) (hls : ls.length ≤ 1048576) (hwt : wts ls ≤ 1099511627776) (hlen : ∀ L ∈ ls, wt L ≤ 1099511627776 ∧ ∀ t ∈ L, t.length ≤ 8589934592) (hA : FlagsAt wb A S.flags) (hlow : LowBad wb A S.flags wb.heap.size) (hn : S.flags.length ≤ 17179869184) (hsz : ∀ i (h : i < S.flags.length), (S.flags[i].name).length ≤ 17179869184)
    (ha : w.heap[a]? = some (.cells #[.slice A S.flags.length cap, .bool S.plain, .bool S.unknown, .int .i64 S.fold] 24 (0, 0)))
    (hb : w.heap[b]? = some (.cells #[.slice lA ls.length lc] 68 (0, 0)))
    (hd : w.heap[d]? = some (.cells #[.slice none 0 0] 70 (0, 0))) :
    Calls Try.prog 59 #[.pointer (some ⟨a, 0, none⟩), .pointer (some ⟨b, 0, none⟩), .pointer (some ⟨d, 0, none⟩)] w fun e w' => e = .returned (.tuple #[]) ∧ Ch w w' (fun b => b = d) ∧ IqEnd w d S.flags.length (parsesL S ls [] (-1)) w' := by
  obtain ⟨th, gh, hz0, hz1, hz2⟩ := info_parts Try.infoHD
  have a0 : w.cell? ⟨a, 0, none⟩ = some (.slice A S.flags.length cap) := (cell_blk ha 0).trans rfl
  have a1 : w.cell? ⟨a, 1, none⟩ = some (.bool S.plain) := (cell_blk ha 1).trans rfl
  have a2 : w.cell? ⟨a, 2, none⟩ = some (.bool S.unknown) := (cell_blk ha 2).trans rfl
  have a3 : w.cell? ⟨a, 3, none⟩ = some (.int .i64 S.fold) := (cell_blk ha 3).trans rfl
  have HM := Lib.hid (made_any S hR A cap w (hA.below hbw) ((hlow.below hA hbw).mono hbw.size) hn hsz)
  have HSZ := Lib.hid hsz
  have HLN := Lib.hid hlen
  obtain ⟨_, _, hle, hlc, hlm, hli⟩ := hl
  cases hle
  have HLI := Lib.hid hli
  have HBW := Lib.hid hbw
  have HA := Lib.hid (And.intro ha (And.intro hb hd))
  have ldw : d < w.heap.size := lt_of_block hd
  clear hA hlow hsz hlen hli hbw ha hb hd
  generalize hQ : parsesL S ls [] (-1) = Q
  go_enter Try.func59, Try.ntmps59
  go_upto_region 1 with (go_at_call 48; refine (HM.out).mono ?_; rintro e w1 h; obtain ⟨C, V, hCS, hCB, hCK, rfl, hpm, hbel⟩ := h.k)
  subst hCS
  have hb1 := block_kept HA.out.2.1 hbel
  have kb : w1.cell? ⟨b, 0, none⟩ = some (.slice lA ls.length lc) := (cell_blk hb1 0).trans rfl
  have HR0 : Hid (IqRel w w1 C.S d ls Q 0 [] (-1) C V (.slice none 0 0)) := Lib.hid ⟨Ch.of_below hbel _, block_kept HA.out.2.2 hbel, ⟨false, [], hpm⟩, ⟨[], [], rfl, World.ownsRow_nil _ _ _ _, rfl, by rw [List.drop_zero]; exact hQ⟩, by rw [List.drop_zero, List.length_nil, Nat.zero_add]; exact hwt⟩
  have HCB := Lib.hid hCB
  have HCK := Lib.hid hCK
  clear hQ hwt hpm hbel hb1 HM a0 a1 a2 a3 hCB hCK
  go_upto_region 2 with fail
  clear kb
  go_loopw [11] (fun i wr => ∃ (k : Nat) (all : List (Nat × Txt)) (ds : Int) (V : PV) (outv : Value), k ≤ ls.length ∧ i = .int .i64 (k : Int) ∧ Hid (IqRel w wr C.S d ls Q k all ds C V outv)) (fun i _ => ls.length - (intOf i).toNat)
  case atStart => exact ⟨0, [], -1, V, _, Nat.zero_le _, rfl, HR0⟩
  case round =>
    clear HR0
    clear V
    obtain ⟨k, all, ds, V, outv, hk, rfl, HX⟩ := hrel
    have i0 : (0 : Int) ≤ (k : Int) := Int.natCast_nonneg _
    by_cases hlt : k < ls.length
    case neg =>
      have i1 : ¬ (k : Int) < (ls.length : Int) := by omega
      go_wp2
      go_end0
      exact ⟨rfl, HX.out.ch, HX.out.fin (by omega)⟩
    have i1 : (k : Int) < (ls.length : Int) := by omega
    obtain ⟨bb, o, uv, hlAe, hcu, htx⟩ := HLI.out k hlt
    subst hlAe
    have hbr : Below wb.heap.size wb wr := HBW.out.trans (HX.out.ch.below HBW.out.size (fun x hx e => by omega))
    have HTX := Lib.hid ((restAt_in (C := C) htx (by rw [HCB.out]; exact HBW.out.size)).below hbr)
    obtain ⟨Lb, Ln, Lc, huv⟩ : ∃ A n c, uv = .slice A n c := by obtain ⟨A, c, e, _⟩ := htx; exact ⟨A, _, c, e⟩
    clear htx
    subst huv
    have d0 := cell_kept hbr hcu
    clear hcu
    obtain ⟨q, hq⟩ : ∃ q, goes C.S none (stD ds) ls[k] = q := ⟨_, rfl⟩
    have hwl := HLN.out ls[k] (List.getElem_mem hlt)
    have HPA := Lib.hid (iq_parse HX.out hR HSZ.out hlt hq HTX.out hwl.2)
    have hcn := HX.out.cnt
    rw [wts_drop hlt] at hcn
    have hwln := wt_len ls[k]
    have hgl := goes_len C.S none (stD ds) ls[k]
    rw [hq] at hgl
    have hgl1 : q.given.length ≤ wt ls[k] := by have := hgl.1; simp [stD] at this; omega
    have hgl2 : q.args.length ≤ ls[k].length := by have := hgl.2; simp [stD] at this; omega
    clear hgl
    have hgi : FlagOk C.S q.err := by rw [← hq]; exact goesN_ok _ _ _ (ok_none (by simp [stD]))
    have HHE : Hid (∀ (V3 : PV) (E : Value) (W : World), Pm W { C with K := keptB wr V } V3 (psOf none true { q with given := all ++ q.given }) → ErrAt C W E q.err → Calls Try.prog 51 #[.pointer (some ⟨C.Wb, 0, none⟩), E, .int .i64 (all.length : Int)] W (fun e w4 => ∃ GA gc AA ac CA cc, e = .returned (.agg #[.int .i64 (eNo q.err), .string (mkT (eName q.err)), .string (mkT (eShort q.err)), .string (mkT (eVal q.err)), .int .i64 (eFlag q.err), .slice GA q.given.length gc, .slice AA q.args.length ac, .int .i64 q.dash, .slice CA (chL (chgM none (all ++ q.given)) C.S.flags.length).length cc, .bool true, .bool false]) ∧
        w4.ownsRow W.heap.size 57 2 (.slice GA q.given.length gc) q.given.length (gCells q.given) ∧ w4.ownsRow W.heap.size 9 1 (.slice AA q.args.length ac) q.args.length (aCells q.args) ∧ w4.ownsRow W.heap.size 3 1 (.slice CA (chL (chgM none (all ++ q.given)) C.S.flags.length).length cc) (chL (chgM none (all ++ q.given)) C.S.flags.length).length (iCells (chL (chgM none (all ++ q.given)) C.S.flags.length)) ∧ Below W.heap.size W w4)) := Lib.hid (fun V3 E W hp3 he3 => (heard_from { C with K := keptB wr V } V3 _ _ E W hp3 he3 hgi hn all.length (by show all.length ≤ (all ++ q.given).length; simp) q.given (by show (all ++ q.given).drop all.length = q.given; simp) (by omega) (by show q.args.length ≤ _; omega)).mono (by
        rintro e w4 ⟨v, rfl, ⟨GA, gc, AA, ac, CA, cc, rfl, o1, o2, o3⟩, hb⟩
        exact ⟨GA, gc, AA, ac, CA, cc, rfl, o1, o2, o3, hb⟩))
    obtain ⟨pb, A9, hp⟩ := HX.out.pm
    obtain ⟨As, cs9, hsv, _⟩ := own_row hp.sdr
    have hsv : V.said = .slice As all.length cs9 := hsv
    have k0 : wr.cell? ⟨C.Wb, 0, none⟩ = some (.pointer (some ⟨C.F, 0, none⟩)) := (cell_blk hp.hW 0).trans rfl
    have k2 : wr.cell? ⟨C.Wb, 2, none⟩ = some (.slice As all.length cs9) := (cell_blk hp.hW 2).trans (by show some V.said = _; rw [hsv])
    have l0 : wr.cell? ⟨d, 0, none⟩ = some outv := (cell_blk HX.out.box 0).trans rfl
    clear hp hsv hgi hwl
    go_upto_region 5 with fail
    clear d0 k2
    have HQ := Lib.hid hq
    clear hq
    go_region_law (first | (refine step_call (by rfl) #[.tmp 25, .tmp 26] #[87, 25] 58 Try.func58 (by kernel_rfl) (by rfl) (by rfl) #[.pointer (some ⟨C.F, 0, none⟩), .slice Lb Ln Lc] (by simp [Act.eval]) (HPA.out _ ((Below.refl _ _).drew)) ?_; rintro e w3 ⟨E, V3, rfl, hp3, he3, hf3⟩; refine ⟨_, rfl, ?_⟩; have hd3 := hf3.low_of (by show d < C.B; rw [HCB.out]; exact ldw) HX.out.box; have l3 : w3.cell? ⟨d, 0, none⟩ = some outv := (cell_blk hd3 0).trans rfl; have HP3 := Lib.hid hp3; have HE3 := Lib.hid he3; have HF3 := Lib.hid hf3; have HD3 := Lib.hid hd3; clear hp3 he3 hf3 hd3) | (refine step_call (by rfl) #[.tmp 21, .tmp 27, .tmp 28] #[82, 85, 3] 51 Try.func51 (by kernel_rfl) (by rfl) (by rfl) #[.pointer (some ⟨C.Wb, 0, none⟩), E, .int .i64 (all.length : Int)] (by simp [Act.eval]) (HHE.out V3 E w3 HP3.out HE3.out) ?_; rintro e w4 ⟨GA, gc, AA, ac, CA, cc, rfl, o1, o2, o3, hb4⟩; refine ⟨_, rfl, ?_⟩; obtain ⟨hs, xs, hmid⟩ := HX.out.mid hlt HCK.out HCB.out ldw HQ.out HF3.out HP3.out hb4 o1 o2 o3; have l4 : ∀ o, (w4.alloc o).cell? ⟨d, 0, none⟩ = some outv := (fun o => cell_kept ((Below.refl _ _).alloc (Nat.le_refl _) o) ((cell_blk hmid.box 0).trans rfl)); have l4' : w4.cell? ⟨d, 0, none⟩ = some outv := (cell_blk hmid.box 0).trans rfl; have HMD := Lib.hid hmid; clear hmid o1 o2 o3 hb4) | (refine step_append_any (by rfl) _ _ _ (by rfl) w.heap.size 32 th _ 11 152 Try.underlying70 gh hz0 hz1 hz2 rfl (by omega) outv k xs (by rfl) (own_kept HMD.out.out ((Below.refl _ _).alloc (Nat.le_refl _) (.cells #[.int .i64 (eNo q.err), .string (mkT (eName q.err)), .string (mkT (eShort q.err)), .string (mkT (eVal q.err)), .int .i64 (eFlag q.err), .slice GA q.given.length gc, .slice AA q.args.length ac, .int .i64 q.dash, .slice CA (chL (chgM none (all ++ q.given)) C.S.flags.length).length cc, .bool true, .bool false] 32))) (some ⟨w4.heap.size, 0, none⟩) 1 1 [.int .i64 (eNo q.err), .string (mkT (eName q.err)), .string (mkT (eShort q.err)), .string (mkT (eVal q.err)), .int .i64 (eFlag q.err), .slice GA q.given.length gc, .slice AA q.args.length ac, .int .i64 q.dash, .slice CA (chL (chgM none (all ++ q.given)) C.S.flags.length).length cc, .bool true, .bool false] (by rfl) (fun h => by cases h) (by rfl) (fun ad e => by cases e; exact World.news_of_block (cs := #[.int .i64 (eNo q.err), .string (mkT (eName q.err)), .string (mkT (eShort q.err)), .string (mkT (eVal q.err)), .int .i64 (eFlag q.err), .slice GA q.given.length gc, .slice AA q.args.length ac, .int .i64 q.dash, .slice CA (chL (chgM none (all ++ q.given)) C.S.flags.length).length cc, .bool true, .bool false]) (t := 32) (fr := (0, 0)) (heap_alloc_new w4 _)) (by simp [Value.oneCell']) (by unfold maxLen; omega) (by omega) (by have := HMD.out.ch.size; simp; omega) ?_; intro vb wc hown hgw; obtain ⟨Ab, cb, hvb, _⟩ := own_row hown; subst hvb; have HOW := Lib.hid hown; have HGW := Lib.hid hgw; have hdc := grown_blk hgw (block_kept HMD.out.box ((Below.refl _ _).alloc (Nat.le_refl _) (.cells #[.int .i64 (eNo q.err), .string (mkT (eName q.err)), .string (mkT (eShort q.err)), .string (mkT (eVal q.err)), .int .i64 (eFlag q.err), .slice GA q.given.length gc, .slice AA q.args.length ac, .int .i64 q.dash, .slice CA (chL (chgM none (all ++ q.given)) C.S.flags.length).length cc, .bool true, .bool false] 32))) (fun e => own_far3 HMD.out.out HMD.out.box (by decide) e.symm); have l6 : wc.cell? ⟨d, 0, none⟩ = some outv := (cell_blk hdc 0).trans rfl; have zf := free_blk hdc; have lx := lt_of_block hdc; clear hown hgw hdc))
    all_goals
      have HRB := Lib.hid (HMD.out.next ((Below.refl _ _).alloc (Nat.le_refl _) (.cells #[.int .i64 (eNo q.err), .string (mkT (eName q.err)), .string (mkT (eShort q.err)), .string (mkT (eVal q.err)), .int .i64 (eFlag q.err), .slice GA q.given.length gc, .slice AA q.args.length ac, .int .i64 q.dash, .slice CA (chL (chgM none (all ++ q.given)) C.S.flags.length).length cc, .bool true, .bool false] 32)) HGW.out HOW.out ldw HCB.out (by rw [List.length_append]; omega))
      clear HMD HGW HOW HPA HHE l0 l3 l4 l4' l6 zf lx k0
      go_wp2
      go_roundw
      · exact ⟨k + 1, all ++ q.given, q.dash, V3, _, hlt, rfl, HRB⟩
      · simp only [intOf]; omega

set_option maxRecDepth 100000 in
/-- impl.guarded over the closure of pub-ensign/impl.Parses$1, where nothing panics. -/
theorem guarded_parses (ca : Array Value) (X : Nat → Prop) (R : World → Prop) (w : World) (hX : ¬ X w.heap.size)
    (H0 : Calls Try.prog 59 ca (w.alloc (.cells #[.bool false] 4)) fun e w' => e = .returned (.tuple #[]) ∧ Ch (w.alloc (.cells #[.bool false] 4)) w' X ∧ R w') :
    Calls Try.prog 46 #[.func (.func 59) #[] ca] w fun e w' => e = .returned (.bool false) ∧ ∃ w1, Ch (w.alloc (.cells #[.bool false] 4)) w1 X ∧ R w1 ∧ w' = w1.setCell ⟨w.heap.size, 0, none⟩ (.bool false) := by
  have hmf : ∀ (fn : Fn) (first cap : Array Value) (w : World), (Instr.makeFunc fn first cap).run Try.prog w = .ok (.func fn first cap) w := fun _ _ _ _ => rfl
  have H := Lib.hid H0
  clear H0
  go_enter_defers Try.func46, Try.ntmps46
  go_wp2_with (go_at_call 59; refine (H.out).mono ?_; rintro e w1 ⟨rfl, hb1, hr1⟩; have hk1 : w1.heap[w.heap.size]? = some (.cells #[.bool false] 4 (0, 0)) := (hb1.block w.heap.size (by simp) hX).trans (heap_alloc_new w _); have hk3 := cell_of_one hk1; have hk4 := free_of_one hk1; have HR := Lib.hid (And.intro hb1 hr1); clear hb1 hr1)
  refine leaves_cons (f := 70) (args := #[.pointer (some ⟨w.heap.size, 0, none⟩)]) (by simp) (by simp [go_sem]) ?_
  refine (catch_idle ⟨w.heap.size, 0, none⟩ _).mono ?_
  rintro e u' w'' ⟨rfl, rfl, rfl⟩
  have hk5 : (w1.setCell ⟨w.heap.size, 0, none⟩ (.bool false)).cell? ⟨w.heap.size, 0, none⟩ = some (.bool false) := cell_of_one (one_setCell hk1)
  simp [Leaves, settle, results, Try.results46, go_sem, hk5]
  exact ⟨w1, HR.out.1, HR.out.2, rfl⟩

theorem three_at (w : World) (o1 o2 o3 : Obj) : (((w.alloc o1).alloc o2).alloc o3).heap[w.heap.size]? = some o1 ∧ (((w.alloc o1).alloc o2).alloc o3).heap[w.heap.size + 1]? = some o2 ∧ (((w.alloc o1).alloc o2).alloc o3).heap[w.heap.size + 1 + 1]? = some o3 := by
  have s1 : (w.alloc o1).heap.size = w.heap.size + 1 := by simp
  have s2 : ((w.alloc o1).alloc o2).heap.size = w.heap.size + 1 + 1 := by simp
  refine ⟨?_, ?_, ?_⟩
  · rw [Below.heap_alloc _ _ _ (by omega), Below.heap_alloc _ _ _ (by omega)]; exact heap_alloc_new w o1
  · rw [Below.heap_alloc _ _ _ (by omega), ← s1]; exact heap_alloc_new (w.alloc o1) o2
  · rw [← s2]; exact heap_alloc_new _ o3
theorem parses_after {w W3 w1 : World} {n : Nat} {Q : List (PS × Er)} (hs : W3.heap.size = w.heap.size + 1 + 1 + 1) (hb : Below w.heap.size w W3)
    (hch : Ch (W3.alloc (.cells #[.bool false] 4)) w1 (fun b => b = w.heap.size + 1 + 1)) (h : IqEnd (W3.alloc (.cells #[.bool false] 4)) (w.heap.size + 1 + 1) n Q w1) :
    ∃ outv, (w1.setCell ⟨W3.heap.size, 0, none⟩ (.bool false)).cell? ⟨w.heap.size + 1 + 1, 0, none⟩ = some outv ∧ ParsesEnd w n Q (.returned outv) (w1.setCell ⟨W3.heap.size, 0, none⟩ (.bool false)) := by
  obtain ⟨outv, xs, h1, h2, h3⟩ := h
  have hl : W3.heap.size < (W3.alloc (.cells #[.bool false] 4)).heap.size := by simp
  have hbx : w1.heap[W3.heap.size]? = some (.cells #[.bool false] 4 (0, 0)) := (hch.block W3.heap.size hl (by omega)).trans (heap_alloc_new W3 _)
  have h45 : Below W3.heap.size W3 (W3.alloc (.cells #[.bool false] 4)) := (Below.refl _ _).alloc (Nat.le_refl _) _
  refine ⟨outv, (cell_blk ((blk_other (show w.heap.size + 1 + 1 ≠ W3.heap.size by omega)).trans h1) 0).trans rfl, outv, xs, rfl, ?_, h3.imp (fun s G A C q => q.blk W3.heap.size hbx (by decide) (by decide) (by decide) (fun b _ ne => blk_other ne)), ?_⟩
  · refine own_lower (own_of_blk h2 fun g hg => blk_other fun e => ?_) (by simp; omega)
    subst e
    exact own_far3 h2 hbx (by decide) hg
  · refine Below.setCell (p := ⟨W3.heap.size, 0, none⟩) ?_ (by show w.heap.size ≤ W3.heap.size; omega) _
    exact below_ch (hb.trans (h45.mono (by omega))) hch (fun b hlt => by omega)
set_option maxRecDepth 100000 in
set_option maxHeartbeats 6400000 in
theorem implParses_any (S : SetP) (hR : Right S) (A : Option Addr) (cap : Nat) (ls : List (List Txt)) (lA : Option Addr) (lc : Nat) (w : World) (hl : TextsIn w (.slice lA ls.length lc) ls) (hls : ls.length ≤ 1048576) (hwt : wts ls ≤ 1099511627776) (hlen : ∀ L ∈ ls, wt L ≤ 1099511627776 ∧ ∀ t ∈ L, t.length ≤ 8589934592) (hA : FlagsAt w A S.flags) (hlow : LowBad w A S.flags w.heap.size) (hn : S.flags.length ≤ 17179869184) (hsz : ∀ i (h : i < S.flags.length), (S.flags[i].name).length ≤ 17179869184) :
    Calls Try.prog 37 #[.agg #[.slice A S.flags.length cap, .bool S.plain, .bool S.unknown, .int .i64 S.fold], .slice lA ls.length lc] w (ParsesEnd w S.flags.length (parsesL S ls [] (-1))) := by
  have hmf : ∀ (fn : Fn) (first cap : Array Value) (w : World), (Instr.makeFunc fn first cap).run Try.prog w = .ok (.func fn first cap) w := fun _ _ _ _ => rfl
  obtain ⟨q1, q2, q3⟩ := three_at w (.cells #[.slice A S.flags.length cap, .bool S.plain, .bool S.unknown, .int .i64 S.fold] 24) (.cells #[.slice lA ls.length lc] 68) (.cells #[.slice none 0 0] 70)
  generalize hW3 : (((w.alloc (.cells #[.slice A S.flags.length cap, .bool S.plain, .bool S.unknown, .int .i64 S.fold] 24)).alloc (.cells #[.slice lA ls.length lc] 68)).alloc (.cells #[.slice none 0 0] 70)) = W3 at q1 q2 q3
  have hs3 : W3.heap.size = w.heap.size + 1 + 1 + 1 := by rw [← hW3]; simp
  have hb3 : Below w.heap.size w W3 := by rw [← hW3]; exact (((Below.refl _ w).alloc (Nat.le_refl _) _).alloc (by simp) _).alloc (by simp; omega) _
  have h45 : Below W3.heap.size W3 (W3.alloc (.cells #[.bool false] 4)) := (Below.refl _ _).alloc (Nat.le_refl _) _
  have hb5 : Below w.heap.size w (W3.alloc (.cells #[.bool false] 4)) := hb3.trans (h45.mono hb3.size)
  have hpc := iclos_any S hR A cap ls lA lc w.heap.size (w.heap.size + 1) (w.heap.size + 1 + 1) w (W3.alloc (.cells #[.bool false] 4)) hb5 (by omega) hl hls hwt hlen hA hlow hn hsz (block_kept q1 h45) (block_kept q2 h45) (block_kept q3 h45)
  have hgu := guarded_parses #[.pointer (some ⟨w.heap.size, 0, none⟩), .pointer (some ⟨w.heap.size + 1, 0, none⟩), .pointer (some ⟨w.heap.size + 1 + 1, 0, none⟩)] (fun b => b = w.heap.size + 1 + 1) (IqEnd (W3.alloc (.cells #[.bool false] 4)) (w.heap.size + 1 + 1) S.flags.length (parsesL S ls [] (-1))) W3 (by rw [hs3]; omega) (hpc.mono fun e w' h => h)
  have HG := Lib.hid hgu
  have HB3 := Lib.hid hb3
  have HS3 := Lib.hid hs3
  generalize parsesL S ls [] (-1) = Q at HG ⊢
  clear hgu hpc hb5 h45 hb3 q1 q2 q3 hl hls hwt hlen hA hlow hn hsz hR hs3
  go_enter Try.func37, Try.ntmps37
  go_wp2_with (go_at_call 46; (first | rw [hW3] | skip); refine (HG.out).mono ?_; rintro e w2 ⟨rfl, w1, hch, hr, rfl⟩; obtain ⟨outv, c0, hend⟩ := parses_after HS3.out HB3.out hch hr; clear hch hr; generalize (w1.setCell ⟨W3.heap.size, 0, none⟩ (.bool false)) = w2 at c0 hend ⊢; have HE := Lib.hid hend; clear hend)
  go_ret
  exact HE.out
end Go.Proofs.Ytgmhhdpggnmipaa.E

namespace Go.Proofs.Ytgmhhdpggnmipaa.E
open Go.RowKit Go.Proofs
set_option linter.unusedVariables false
set_option linter.unusedSimpArgs false
/-- One element of a row of what was heard: its rows lie apart from the row of all that was given. -/
def HdEl (all : Value) (w : World) (n : Nat) (s : PS) (G A C : Value) : Prop := HdRows 0 w s n G A C ∧ ∀ b, G.ownBlock = some b → all.ownBlock ≠ some b
/-- Rows of texts, ints, and of what was given (but all's own) are as they were. -/
def KeepH (all : Value) (w w' : World) : Prop := w.heap.size ≤ w'.heap.size ∧ ∀ b cs T fr, w.heap[b]? = some (.cells cs T fr) → (T = 9 ∨ T = 3 ∨ (T = 57 ∧ all.ownBlock ≠ some b)) → w'.heap[b]? = some (.cells cs T fr)
theorem KeepH.trans {all : Value} {w1 w2 w3 : World} (h : KeepH all w1 w2) (k : KeepH all w2 w3) : KeepH all w1 w3 := ⟨Nat.le_trans h.1 k.1, fun b cs T fr hb hT => k.2 b cs T fr (h.2 b cs T fr hb hT) hT⟩
theorem KeepH.of_below {all : Value} {w w' : World} (h : Below w.heap.size w w') : KeepH all w w' := ⟨h.size, fun b cs T fr hb _ => block_kept hb h⟩
theorem KeepH.of_set {all : Value} {w : World} {x j : Nat} {cs : Array Value} {T : TypeId} {fr : Nat × Nat} (hx : w.heap[x]? = some (.cells cs T fr)) (h1 : T ≠ 9) (h2 : T ≠ 3) (h3 : T ≠ 57) (v : Value) : KeepH all w (w.setCell ⟨x, j, none⟩ v) := ⟨by simp, fun b cs' T' fr' hb hT => by
  rw [blk_other (show b ≠ x from fun e => ?_)]
  · exact hb
  · subst e
    rw [hx] at hb
    simp only [Option.some.injEq, Obj.cells.injEq] at hb
    obtain ⟨_, rfl, _⟩ := hb
    rcases hT with q | q | ⟨q, _⟩
    · exact h1 q
    · exact h2 q
    · exact h3 q⟩
theorem KeepH.of_all {all : Value} {w w' : World} {base n : Nat} {xs : List Value} (ho : w.ownsRow base 57 2 all n xs) (hg : w.grownBy w' all.ownBlock) : KeepH all w w' := ⟨hg.size, fun b cs T fr hb hT => by
  rw [hg.block b (lt_of_block hb) (fun e => ?_)]
  · exact hb
  · rcases hT with q | q | ⟨_, q⟩
    · subst q; exact own_far3 ho hb (by decide) e.symm
    · subst q; exact own_far3 ho hb (by decide) e.symm
    · exact q e.symm⟩
theorem KeepH.of_out {all out : Value} {w w' : World} {base n : Nat} {xs : List Value} (ho : w.ownsRow base 32 11 out n xs) (hg : w.grownBy w' out.ownBlock) : KeepH all w w' := ⟨hg.size, fun b cs T fr hb hT => by
  rw [hg.block b (lt_of_block hb) (fun e => ?_)]
  · exact hb
  · rcases hT with q | q | ⟨q, _⟩
    · subst q; exact own_far3 ho hb (by decide) e.symm
    · subst q; exact own_far3 ho hb (by decide) e.symm
    · subst q; exact own_far3 ho hb (by decide) e.symm⟩
theorem HdEl.keep {all : Value} {w w' : World} {n : Nat} {s : PS} {G A C : Value} (h : HdEl all w n s G A C) (k : KeepH all w w') : HdEl all w' n s G A C := by
  obtain ⟨⟨h1, h2, h3⟩, h4⟩ := h
  refine ⟨⟨own_of_blk h1 (fun g hg => ?_), own_of_blk h2 (fun g hg => ?_), own_of_blk h3 (fun g hg => ?_)⟩, h4⟩
  · obtain ⟨cur, hc⟩ := own_is h1 hg
    rw [hc]; exact k.2 _ _ _ _ hc (.inr (.inr ⟨rfl, h4 _ hg⟩))
  · obtain ⟨cur, hc⟩ := own_is h2 hg
    rw [hc]; exact k.2 _ _ _ _ hc (.inl rfl)
  · obtain ⟨cur, hc⟩ := own_is h3 hg
    rw [hc]; exact k.2 _ _ _ _ hc (.inr (.inl rfl))
theorem HdEl.all {all all' : Value} {w : World} {n : Nat} {s : PS} {G A C : Value} (h : HdEl all w n s G A C) (k : ∀ b, all'.ownBlock = some b → all.ownBlock = some b ∨ w.heap.size ≤ b) : HdEl all' w n s G A C := by
  refine ⟨h.1, fun b hb e => ?_⟩
  rcases k b e with q | q
  · exact h.2 b hb q
  · have := (h.1.1.lt b hb).2; omega
theorem HdEl.grow {all all' : Value} {w w' : World} {n : Nat} {s : PS} {G A C : Value} (h : HdEl all w n s G A C) (k : KeepH all w w') (k2 : ∀ b, all'.ownBlock = some b → all.ownBlock = some b ∨ w.heap.size ≤ b) : HdEl all' w' n s G A C := ⟨(h.keep k).1, (h.all k2).2⟩
structure PsRel (w : World) (S : SetP) (A : Option Addr) (cap : Nat) (ls : List (List Txt)) (Q : List (PS × Er)) (k : Nat) (all : List (Nat × Txt)) (d : Int) (outv allv : Value) (wr : World) : Prop where
  box : wr.heap[w.heap.size]? = some (.cells #[.slice A S.flags.length cap, .bool S.plain, .bool S.unknown, .int .i64 (S.fold : Int)] 24 (0, 0))
  bel : Below w.heap.size w wr
  alr : wr.ownsRow w.heap.size 57 2 allv all.length (gCells all)
  els : ∃ hs xs, hs.length = k ∧ wr.ownsRow w.heap.size 32 11 outv k xs ∧ HdsAt (HdEl allv wr S.flags.length) S.flags.length hs xs ∧ hs ++ parsesL S (ls.drop k) all d = Q
  cnt : all.length + wts (ls.drop k) ≤ 1099511627776
theorem PsRel.fin {w wr : World} {S : SetP} {A : Option Addr} {cap : Nat} {ls : List (List Txt)} {Q : List (PS × Er)} {k : Nat} {all : List (Nat × Txt)} {d : Int} {outv allv : Value} {e : Ending} (h : PsRel w S A cap ls Q k all d outv allv wr) (hk : k = ls.length) (he : e = .returned outv) : ParsesEnd w S.flags.length Q e wr := by
  obtain ⟨hs, xs, h1, h2, h3, h4⟩ := h.els
  subst hk
  rw [List.drop_length] at h4
  have h4 : hs ++ [] = Q := h4
  rw [List.append_nil] at h4
  subst h4
  exact ⟨outv, xs, he, by rw [h1]; exact h2, h3.imp (fun _ _ _ _ q => q.1), h.bel⟩
set_option maxRecDepth 100000 in
set_option maxHeartbeats 6400000 in
theorem parsesS_any {w : World} {A : Option Addr} {S : SetP} (hA : FlagsAt w A S.flags) (hR : Right S) (hn : S.flags.length ≤ 2147483647) (hsz : ∀ f ∈ S.flags, f.name.length ≤ 2147483647) (cap : Nat) (hcap : S.flags.length ≤ cap) {vl : Value} {ls : List (List Txt)} (hl : TextsIn w vl ls) (hls : ls.length ≤ 1048576) (hwt : wts ls ≤ 1099511627776) (hlen : ∀ L ∈ ls, wt L ≤ 1099511627776 ∧ ∀ a ∈ L, a.length ≤ 2147483600) :
    Calls Try.prog 38 #[.agg #[.slice A S.flags.length cap, .bool S.plain, .bool S.unknown, .int .i64 (S.fold : Int)], vl] w (ParsesEnd w S.flags.length (parsesL S ls [] (-1))) := by
  obtain ⟨tg, gg, gz0, gz1, gz2⟩ := info_parts Try.infoG
  obtain ⟨th, gh, hz0, hz1, hz2⟩ := info_parts Try.infoHD
  obtain ⟨lA, lc, rfl, hlc, hlm, hli⟩ := hl
  have HLI := Lib.hid hli
  have HA := Lib.hid hA
  have HGO := Lib.hid (fun (w0 W : World) (x : Nat) (st : St) (CH : Value) (pr : Bool) (hb : Below w.heap.size w w0) (h : RunAt w0 W x S A cap st (.slice none st.args.length 0) CH pr) (he : st.err = .no) (vr : Value) (L : List Txt) (hr : RestAt (pcB S w0.heap.size) w0 vr L) (hG : st.given.length + wt L ≤ 1099511627776) (hGA : st.args.length + L.length ≤ 1099511627776) (hls : ∀ a ∈ L, a.length ≤ 2147483600) => goesS_any h he (hA.below hb) hR hn hsz hr hG hGA hls)
  have HCH := Lib.hid (fun (W : World) (hb : Below w.heap.size w W) (a : Option Addr) (c : Nat) (G : List (Nat × Txt)) (h : RowAt W a (gCells G)) (hl : G.length ≤ c) (hm : G.length ≤ 1099511627776) => changed_c (hA.below hb) cap hcap S.plain S.unknown S.fold hn h hl hm)
  have HLN := Lib.hid hlen
  clear hA hR hsz hli hlen
  generalize hQ : parsesL S ls [] (-1) = Q
  go_enter Try.func38, Try.ntmps38
  go_wp2
  have HR0 : Hid (PsRel w S A cap ls Q 0 [] (-1) (.slice none 0 0) (.slice none 0 0) (w.alloc (.cells #[.slice A S.flags.length cap, .bool S.plain, .bool S.unknown, .int .i64 (S.fold : Int)] 24))) := Lib.hid ⟨heap_alloc_new w _, (Below.refl _ _).alloc (Nat.le_refl _) _, World.ownsRow_nil _ _ _ _, ⟨[], [], rfl, World.ownsRow_nil _ _ _ _, rfl, by rw [List.drop_zero]; exact hQ⟩, by rw [List.drop_zero, List.length_nil, Nat.zero_add]; exact hwt⟩
  generalize w.alloc _ = w1 at HR0 ⊢
  clear hQ hwt
  go_loopw [5, 6, 7, 13] (fun u0 u1 dv i wr => ∃ (k : Nat) (all : List (Nat × Txt)) (d : Int) (outv allv : Value), k ≤ ls.length ∧ outv = u0 ∧ allv = u1 ∧ i = .int .i64 (k : Int) ∧ dv = .int .i64 d ∧ Hid (PsRel w S A cap ls Q k all d outv allv wr)) (fun _ _ _ i _ => ls.length - (intOf i).toNat)
  case atStart => exact ⟨0, [], -1, _, _, Nat.zero_le _, rfl, rfl, rfl, rfl, HR0⟩
  case round =>
    clear HR0
    obtain ⟨k, all, d, outv, allv, hk, rfl, rfl, rfl, rfl, HX⟩ := hrel
    have i0 : (0 : Int) ≤ (k : Int) := Int.natCast_nonneg _
    by_cases hlt : k < ls.length
    case neg =>
      have i1 : ¬ (k : Int) < (ls.length : Int) := by omega
      go_wp2
      go_ret
      exact HX.out.fin (by omega) rfl
    have i1 : (k : Int) < (ls.length : Int) := by omega
    obtain ⟨b, o, uv, hlAe, hcu, htx⟩ := HLI.out k hlt
    subst hlAe
    have HTX := Lib.hid htx
    obtain ⟨Lb, Ln, Lc, huv⟩ := htx.slice
    clear htx
    subst huv
    have h := HX.out
    have d0 := cell_kept h.bel hcu
    clear hcu
    have hcn := h.cnt
    rw [wts_drop hlt] at hcn
    have hwl := HLN.out ls[k] (List.getElem_mem hlt)
    have hwln := wt_len ls[k]
    have lt0 : w.heap.size < wr.heap.size := lt_of_block h.box
    have HBW := Lib.hid h.bel
    have HT2 := Lib.hid (HTX.out.below h.bel)
    have c0 : wr.cell? ⟨w.heap.size, 0, none⟩ = some (.slice A S.flags.length cap) := (cell_blk h.box 0).trans rfl
    have c1 : wr.cell? ⟨w.heap.size, 1, none⟩ = some (.bool S.plain) := (cell_blk h.box 1).trans rfl
    have c2 : wr.cell? ⟨w.heap.size, 2, none⟩ = some (.bool S.unknown) := (cell_blk h.box 2).trans rfl
    have c3 : wr.cell? ⟨w.heap.size, 3, none⟩ = some (.int .i64 (S.fold : Int)) := (cell_blk h.box 3).trans rfl
    clear h
    go_upto_region 8 with ((with_reducible go_at_call 19); (with_reducible refine Calls.mono (begin_c cap) ?_); rintro e w4 ⟨xr, rfl, hrun⟩)
    clear d0 c0 c1 c2 c3
    have HRN := Lib.hid (hrun.set (st' := stD d) 11 (.int .i64 d) (fun G => rfl) rfl rfl)
    obtain ⟨_, hlx, _, G4, g4, hx4, _⟩ := hrun
    have y11 : w4.cell? ⟨xr, 11, none⟩ = some (.int .i64 (-1)) := (cell_blk hx4 11).trans rfl
    have zf := free_blk hx4
    have lx := lt_of_block hx4
    go_upto_region 9 with fail
    generalize w4.setCell ⟨xr, 11, none⟩ (.int .i64 d) = w5 at HRN ⊢
    clear y11 zf lx hx4
    obtain ⟨q, hq⟩ : ∃ q, goes S none (stD d) ls[k] = q := ⟨_, rfl⟩
    have hgl := goes_len S none (stD d) ls[k]
    rw [hq] at hgl
    have hgl1 : q.given.length ≤ wt ls[k] := by have := hgl.1; simp [stD] at this; omega
    have hgl2 : q.args.length ≤ ls[k].length := by have := hgl.2; simp [stD] at this; omega
    clear hgl
    have HGX := Lib.hid (HGO.out wr w5 xr (stD d) _ _ HBW.out HRN.out rfl _ ls[k] (restAt_of (S := S) HT2.out) (by show 0 + _ ≤ _; omega) (by show 0 + _ ≤ _; omega) hwl.2)
    rw [hq] at HGX
    go_upto_region 10 with ((with_reducible go_at_call 60); (with_reducible refine Calls.mono HGX.out ?_); rintro e w6 ⟨rfl, AA, ac, hrun6⟩)
    obtain ⟨hb6, _, hao, GA, gc, hx6, hgo⟩ := hrun6
    have hx6 : w6.heap[xr]? = some (.cells #[.slice A S.flags.length cap, .bool S.plain, .bool S.unknown, .int .i64 (S.fold : Int), .int .i64 (eNo q.err), .string (mkT (eName q.err)), .string (mkT (eShort q.err)), .string (mkT (eVal q.err)), .int .i64 (eFlag q.err), .slice GA q.given.length gc, .slice AA q.args.length ac, .int .i64 q.dash, .slice none 0 0, .bool true, .bool false, .bool false, .slice none 0 0, .nilFunc] 41 (0, 0)) := hx6
    have y9 : w6.cell? ⟨xr, 9, none⟩ = some (.slice GA q.given.length gc) := (cell_blk hx6 9).trans rfl
    have y11 : w6.cell? ⟨xr, 11, none⟩ = some (.int .i64 q.dash) := (cell_blk hx6 11).trans rfl
    go_upto_region 11 with fail
    obtain ⟨hs, xs, hsl, hout, hds, hpl⟩ := HX.out.els
    have halr := HX.out.alr
    have hap : ∀ bb, (Value.slice GA q.given.length gc).ownBlock = some bb → allv.ownBlock ≠ some bb := fun bb hb e => by
      have h1 := (hgo.lt bb hb).1
      have h2 := (halr.lt bb e).2
      omega
    have ALR := Lib.hid (own_kept halr hb6)
    have OUT := Lib.hid (own_kept hout hb6)
    have HDS := Lib.hid (hds.imp (fun _ _ _ _ q => q.keep (KeepH.of_below hb6)))
    have BOX := Lib.hid (block_kept HX.out.box hb6)
    have BEL := Lib.hid (HBW.out.trans (hb6.mono HBW.out.size))
    have HAP := Lib.hid hap
    have HGO6 := Lib.hid hgo
    have HAO6 := Lib.hid hao
    have HX6 := Lib.hid hx6
    have NWS := Lib.hid (news_own hgo)
    have HSL := Lib.hid hsl
    have HPL := Lib.hid hpl
    obtain ⟨G8, hG8⟩ : ∃ G8, all ++ q.given = G8 := ⟨_, rfl⟩
    have HG8 := Lib.hid hG8
    have hn8 : all.length + q.given.length = G8.length := by rw [← hG8, List.length_append]
    clear hap hgo hao hx6 hsl hpl hds hout halr hb6 hG8 HX
    go_upto_region 12 with (at_builtin; refine wpList_append_far rfl (.tmp 32) (.tmp 37) 29 rfl w.heap.size 57 tg _ 2 24 Try.underlying29 gg gz0 gz1 gz2 rfl (by decide) _ all.length _ rfl ALR.out GA q.given.length gc (gCells q.given) rfl NWS.out.1 (by rw [gCells_len]) NWS.out.2 (gCells_one _) (by unfold maxLen; omega) (by omega) BEL.out.size ?_; intro v8 w8 hown8 hg8 hfar8; rw [hn8, ← gCells_app, HG8.out] at hown8)
    have ALR8 := Lib.hid hown8
    have HX8 := Lib.hid (grown_blk hg8 HX6.out (fun e => own_far3 ALR.out HX6.out (by decide) e.symm))
    have BOX8 := Lib.hid (grown_blk hg8 BOX.out (fun e => own_far3 ALR.out BOX.out (by decide) e.symm))
    have HGO8 := Lib.hid (own_of_blk HGO6.out (fun bb hb => hg8.block bb (HGO6.out.lt bb hb).2 (fun e => HAP.out bb hb e.symm)))
    have HAO8 := Lib.hid (own_of_blk HAO6.out (fun bb hb => hg8.block bb (HAO6.out.lt bb hb).2 (fun e => by obtain ⟨cur, hc⟩ := own_is HAO6.out hb; exact own_far3 ALR.out hc (by decide) e.symm)))
    have OUT8 := Lib.hid (own_of_blk OUT.out (fun bb hb => hg8.block bb (OUT.out.lt bb hb).2 (fun e => by obtain ⟨cur, hc⟩ := own_is OUT.out hb; exact own_far3 ALR.out hc (by decide) e.symm)))
    have HDS8 := Lib.hid (HDS.out.imp (fun _ _ _ _ q => q.grow (KeepH.of_all ALR.out hg8) (fun bb hb => (hfar8 bb hb).imp id (fun e => by rw [e]; exact Nat.le_refl _))))
    have FAR8 : Hid (∀ bb, (Value.slice GA q.given.length gc).ownBlock = some bb → v8.ownBlock ≠ some bb) := Lib.hid (fun bb hb e => by
      rcases hfar8 bb e with h | h
      · exact HAP.out bb hb h
      · have := (HGO6.out.lt bb hb).2; omega)
    have BEL8 := Lib.hid (BEL.out.grown hg8 BEL.out.size (fun bb hb => (ALR.out.lt bb hb).1))
    obtain ⟨A8, c8, hv8, _⟩ := own_row hown8
    subst hv8
    obtain ⟨_, hrw8, hgc8, _⟩ := own_full hown8
    have hG8l : G8.length ≤ 1099511627776 := by omega
    have HCX := Lib.hid (HCH.out w8 BEL8.out A8 c8 G8 hrw8 hgc8 hG8l)
    clear hown8 hg8 hfar8 ALR HX6 BOX HGO6 HAO6 OUT HDS HAP BEL NWS y9 y11 hrw8 hgc8
    have c0 : w8.cell? ⟨w.heap.size, 0, none⟩ = some (.slice A S.flags.length cap) := (cell_blk BOX8.out 0).trans rfl
    have c1 : w8.cell? ⟨w.heap.size, 1, none⟩ = some (.bool S.plain) := (cell_blk BOX8.out 1).trans rfl
    have c2 : w8.cell? ⟨w.heap.size, 2, none⟩ = some (.bool S.unknown) := (cell_blk BOX8.out 2).trans rfl
    have c3 : w8.cell? ⟨w.heap.size, 3, none⟩ = some (.int .i64 (S.fold : Int)) := (cell_blk BOX8.out 3).trans rfl
    go_upto_region 13 with ((with_reducible go_at_call 21); (with_reducible refine Calls.mono HCX.out ?_); rintro e w9 ⟨v9, rfl, ho9, hb9⟩; obtain ⟨CA, cc, hv9, ho9⟩ := ho9; subst hv9; have hx9 := block_kept HX8.out hb9; have y12 : w9.cell? ⟨xr, 12, none⟩ = some (.slice none 0 0) := (cell_blk hx9 12).trans rfl; have zf := free_blk hx9; have lx := lt_of_block hx9)
    obtain ⟨CV, hCV⟩ : ∃ CV, Value.slice CA (chL (fun j => G8.any fun g => g.fst == j) S.flags.length).length cc = CV := ⟨_, rfl⟩
    have k9 : KeepH (.slice A8 G8.length c8) w9 (w9.setCell ⟨xr, 12, none⟩ (.slice CA (chL (fun j => G8.any fun g => g.fst == j) S.flags.length).length cc)) := KeepH.of_set hx9 (by decide) (by decide) (by decide) _
    have hr9 : HdRows 0 w9 (hpOf q G8) S.flags.length (.slice GA q.given.length gc) (.slice AA q.args.length ac) (.slice CA (chL (fun j => G8.any fun g => g.fst == j) S.flags.length).length cc) := ⟨own_lower (own_kept HGO8.out hb9) (Nat.zero_le _), own_lower (own_kept HAO8.out hb9) (Nat.zero_le _), ho9⟩
    have HEL : Hid (HdEl (.slice A8 G8.length c8) (w9.setCell ⟨xr, 12, none⟩ (.slice CA (chL (fun j => G8.any fun g => g.fst == j) S.flags.length).length cc)) S.flags.length (hpOf q G8) (.slice GA (hpOf q G8).G.length gc) (.slice AA (hpOf q G8).A.length ac) (.slice CA (chL (hpOf q G8).chg S.flags.length).length cc)) := Lib.hid (HdEl.keep ⟨hr9, FAR8.out⟩ k9)
    have HDS : Hid (HdsAt (HdEl (.slice A8 G8.length c8) (w9.setCell ⟨xr, 12, none⟩ (.slice CA (chL (fun j => G8.any fun g => g.fst == j) S.flags.length).length cc)) S.flags.length) S.flags.length hs xs) := Lib.hid (HDS8.out.imp (fun _ _ _ _ q => q.keep ((KeepH.of_below hb9).trans k9)))
    have OUT : Hid ((w9.setCell ⟨xr, 12, none⟩ (.slice CA (chL (fun j => G8.any fun g => g.fst == j) S.flags.length).length cc)).ownsRow w.heap.size 32 11 outv k xs) := Lib.hid (own_of_blk (own_kept OUT8.out hb9) (fun g hg => blk_other (fun e => by subst e; exact own_far3 (own_kept OUT8.out hb9) hx9 (by decide) hg)))
    have ALR : Hid ((w9.setCell ⟨xr, 12, none⟩ (.slice CA (chL (fun j => G8.any fun g => g.fst == j) S.flags.length).length cc)).ownsRow w.heap.size 57 2 (.slice A8 G8.length c8) G8.length (gCells G8)) := Lib.hid (own_of_blk (own_kept ALR8.out hb9) (fun g hg => blk_other (fun e => by subst e; exact own_far3 (own_kept ALR8.out hb9) hx9 (by decide) hg)))
    have BOX : Hid ((w9.setCell ⟨xr, 12, none⟩ (.slice CA (chL (fun j => G8.any fun g => g.fst == j) S.flags.length).length cc)).heap[w.heap.size]? = some (.cells #[.slice A S.flags.length cap, .bool S.plain, .bool S.unknown, .int .i64 (S.fold : Int)] 24 (0, 0))) := Lib.hid ((blk_other (show w.heap.size ≠ xr by omega)).trans (block_kept BOX8.out hb9))
    have BEL : Hid (Below w.heap.size w (w9.setCell ⟨xr, 12, none⟩ (.slice CA (chL (fun j => G8.any fun g => g.fst == j) S.flags.length).length cc))) := Lib.hid ((BEL8.out.trans (hb9.mono BEL8.out.size)).setCell (p := ⟨xr, 12, none⟩) (show w.heap.size ≤ xr by omega) _)
    have hx10 : (w9.setCell ⟨xr, 12, none⟩ (.slice CA (chL (fun j => G8.any fun g => g.fst == j) S.flags.length).length cc)).heap[xr]? = some (.cells #[.slice A S.flags.length cap, .bool S.plain, .bool S.unknown, .int .i64 (S.fold : Int), .int .i64 (eNo q.err), .string (mkT (eName q.err)), .string (mkT (eShort q.err)), .string (mkT (eVal q.err)), .int .i64 (eFlag q.err), .slice GA q.given.length gc, .slice AA q.args.length ac, .int .i64 q.dash, .slice CA (chL (fun j => G8.any fun g => g.fst == j) S.flags.length).length cc, .bool true, .bool false, .bool false, .slice none 0 0, .nilFunc] 41 (0, 0)) := blk_set hx9 12 _
    generalize hw10 : w9.setCell ⟨xr, 12, none⟩ (.slice CA (chL (fun j => G8.any fun g => g.fst == j) S.flags.length).length cc) = w10 at HEL HDS OUT ALR BOX BEL hx10 ⊢
    clear hw10 k9 hr9 HX8 HGO8 HAO8 OUT8 BEL8 ALR8 HDS8 FAR8 HCX c0 c1 c2 c3 hb9 ho9 hx9 y12 zf lx BOX8 hCV
    have y4 : w10.cell? ⟨xr, 4, none⟩ = some (.int .i64 (eNo q.err)) := (cell_blk hx10 4).trans rfl
    have y5 : w10.cell? ⟨xr, 5, none⟩ = some (.string (mkT (eName q.err))) := (cell_blk hx10 5).trans rfl
    have y6 : w10.cell? ⟨xr, 6, none⟩ = some (.string (mkT (eShort q.err))) := (cell_blk hx10 6).trans rfl
    have y7 : w10.cell? ⟨xr, 7, none⟩ = some (.string (mkT (eVal q.err))) := (cell_blk hx10 7).trans rfl
    have y8 : w10.cell? ⟨xr, 8, none⟩ = some (.int .i64 (eFlag q.err)) := (cell_blk hx10 8).trans rfl
    have y9 : w10.cell? ⟨xr, 9, none⟩ = some (.slice GA q.given.length gc) := (cell_blk hx10 9).trans rfl
    have y10 : w10.cell? ⟨xr, 10, none⟩ = some (.slice AA q.args.length ac) := (cell_blk hx10 10).trans rfl
    have y11 : w10.cell? ⟨xr, 11, none⟩ = some (.int .i64 q.dash) := (cell_blk hx10 11).trans rfl
    have y12 : w10.cell? ⟨xr, 12, none⟩ = some (.slice CA (chL (fun j => G8.any fun g => g.fst == j) S.flags.length).length cc) := (cell_blk hx10 12).trans rfl
    have y13 : w10.cell? ⟨xr, 13, none⟩ = some (.bool true) := (cell_blk hx10 13).trans rfl
    have y14 : w10.cell? ⟨xr, 14, none⟩ = some (.bool false) := (cell_blk hx10 14).trans rfl
    clear hx10
    generalize hCV : chL (fun j => G8.any fun g => g.fst == j) S.flags.length = CV at HEL y12 ⊢
    have AL := Lib.hid (Below.refl w10.heap.size w10 |>.alloc (Nat.le_refl _) (.cells #[.int .i64 (eNo q.err), .string (mkT (eName q.err)), .string (mkT (eShort q.err)), .string (mkT (eVal q.err)), .int .i64 (eFlag q.err), .slice GA q.given.length gc, .slice AA q.args.length ac, .int .i64 q.dash, .slice CA CV.length cc, .bool true, .bool false] 32))
    have NB := Lib.hid (heap_alloc_new w10 (.cells #[.int .i64 (eNo q.err), .string (mkT (eName q.err)), .string (mkT (eShort q.err)), .string (mkT (eVal q.err)), .int .i64 (eFlag q.err), .slice GA q.given.length gc, .slice AA q.args.length ac, .int .i64 q.dash, .slice CA CV.length cc, .bool true, .bool false] 32))
    go_wp2_with (at_builtin; refine wpList_append_far rfl (.tmp 46) (.tmp 51) 70 rfl w.heap.size 32 th _ 11 152 Try.underlying70 gh hz0 hz1 hz2 rfl (by decide) _ k _ rfl (own_kept OUT.out AL.out) (some ⟨w10.heap.size, 0, none⟩) 1 1 [.int .i64 (eNo q.err), .string (mkT (eName q.err)), .string (mkT (eShort q.err)), .string (mkT (eVal q.err)), .int .i64 (eFlag q.err), .slice GA q.given.length gc, .slice AA q.args.length ac, .int .i64 q.dash, .slice CA CV.length cc, .bool true, .bool false] rfl (fun h => by cases h) rfl (fun ad e => by cases e; exact World.news_of_block (cs := #[.int .i64 (eNo q.err), .string (mkT (eName q.err)), .string (mkT (eShort q.err)), .string (mkT (eVal q.err)), .int .i64 (eFlag q.err), .slice GA q.given.length gc, .slice AA q.args.length ac, .int .i64 q.dash, .slice CA CV.length cc, .bool true, .bool false]) (t := 32) (fr := (0, 0)) NB.out) (by simp [Value.oneCell']) (by unfold maxLen; omega) (by omega) (by have := BEL.out.size; simp; omega) ?_; intro vb wb hownb hgb hfarb)
    subst hCV
    have KB := Lib.hid ((KeepH.of_below (all := .slice A8 G8.length c8) AL.out).trans (KeepH.of_out (own_kept OUT.out AL.out) hgb))
    have HRB : Hid (PsRel w S A cap ls Q (k + 1) G8 q.dash vb (.slice A8 G8.length c8) wb) := Lib.hid ⟨grown_blk hgb (block_kept BOX.out AL.out) (fun e => own_far3 OUT.out BOX.out (by decide) e.symm),
      (BEL.out.trans (AL.out.mono BEL.out.size)).grown hgb (Nat.le_trans BEL.out.size AL.out.size) (fun bb hb => (OUT.out.lt bb hb).1),
      own_of_blk (own_kept ALR.out AL.out) (fun bb hb => hgb.block bb (Nat.lt_of_lt_of_le (ALR.out.lt bb hb).2 AL.out.size) (fun e => by obtain ⟨cur, hc⟩ := own_is ALR.out hb; exact own_far3 OUT.out hc (by decide) e.symm)),
      ⟨hs ++ [(hpOf q G8, q.err)], _, by rw [List.length_append, HSL.out]; rfl, hownb, hdsAt_snoc (p := (hpOf q G8, q.err)) (HEL.out.keep KB.out) (HDS.out.imp (fun _ _ _ _ q => q.keep KB.out)), by
        rw [← HPL.out, List.drop_eq_getElem_cons hlt]
        simp only [parsesL]
        rw [hq, HG8.out, List.append_assoc]
        rfl⟩,
      by omega⟩
    clear hownb hgb hfarb KB HEL HDS OUT ALR BOX BEL AL NB HPL HSL HG8
    go_roundw
    · exact ⟨k + 1, G8, q.dash, vb, .slice A8 G8.length c8, hlt, rfl, rfl, rfl, rfl, HRB⟩
    · simp only [intOf]; omega
end Go.Proofs.Ytgmhhdpggnmipaa.E

namespace Go.Proofs.Ytgmhhdpggnmipaa.E
open Go.RowKit Go.Proofs
set_option linter.unusedVariables false
set_option linter.unusedSimpArgs false
theorem says22 {w : World} {v : Value} {ls : List (List Txt)} (hv : TextsW w v ls) {b : Bool} (h : fits22 (ls.map (·.map mkT)) = b) : Says w 36 #[v] b := fun W hb => by
  have h2 := zz22_c (hv.below hb)
  rw [h] at h2; exact h2

set_option maxRecDepth 100000 in
set_option maxHeartbeats 6400000 in
theorem ps_1 {w : World} {A : Option Addr} {F : List FlagP} (hA : FlagsAt w A F) {cap : Nat} (hc : F.length ≤ cap) (hm : cap ≤ 9223372036854775807) (pl un : Bool) (k : Int) {vl : Value} {ls : List (List Txt)} (hvl : TextsW w vl ls) (h1 : fits20 (F.map ofFlag) = false)  :
    Calls Try.prog 11 #[.agg #[.slice A F.length cap, .bool pl, .bool un, .int .i64 k], vl] w (YesEnd w) := by
  have H19 := Lib.hid (says19 hA hc hm pl un k h1)
  have HVL := Lib.hid hvl
  obtain ⟨la, lc, hvle, hlc, hlm, hli⟩ := hvl
  subst hvle
  clear hli hlm hlc
  go_enter Try.func11, Try.ntmps11
  go_upto_region 1 with fail
  generalize hWX : w.alloc _ = WX
  have HB : Hid (Below w.heap.size w WX) := Lib.hid (by rw [← hWX]; exact (Below.refl _ _).alloc (Nat.le_refl _) _)
  have q3 : WX.heap[w.heap.size]? = some (.cells #[.slice A F.length cap, .bool pl, .bool un, .int .i64 k] 24 (0, 0)) := by rw [← hWX]; exact heap_alloc_new w _
  clear hWX
  have c0 : WX.cell? ⟨w.heap.size, 0, none⟩ = some (.slice A F.length cap) := (cell_blk q3 0).trans rfl
  have c1 : WX.cell? ⟨w.heap.size, 1, none⟩ = some (.bool pl) := (cell_blk q3 1).trans rfl
  have c2 : WX.cell? ⟨w.heap.size, 2, none⟩ = some (.bool un) := (cell_blk q3 2).trans rfl
  have c3 : WX.cell? ⟨w.heap.size, 3, none⟩ = some (.int .i64 k) := (cell_blk q3 3).trans rfl
  go_wp2_with (first | ((with_reducible go_at_call 14); (with_reducible refine Calls.mono (H19.out _ HB.out) ?_); rintro e w3 ⟨rfl, hb3⟩; have q3 := block_kept q3 hb3; have c0 := cell_kept hb3 c0; have c1 := cell_kept hb3 c1; have c2 := cell_kept hb3 c2; have c3 := cell_kept hb3 c3; have HB := Lib.hid (HB.out.trans (hb3.mono HB.out.size)); clear hb3) | ((with_reducible go_at_call 36); (with_reducible refine Calls.mono (H22.out _ HB.out) ?_); rintro e w3 ⟨rfl, hb3⟩; have q3 := block_kept q3 hb3; have c0 := cell_kept hb3 c0; have c1 := cell_kept hb3 c1; have c2 := cell_kept hb3 c2; have c3 := cell_kept hb3 c3; have HB := Lib.hid (HB.out.trans (hb3.mono HB.out.size)); clear hb3) | ((with_reducible go_at_call 16); (with_reducible refine Calls.mono (HRT.out _ HB.out) ?_); rintro e w3 ⟨rfl, hb3⟩; have q3 := block_kept q3 hb3; have c0 := cell_kept hb3 c0; have c1 := cell_kept hb3 c1; have c2 := cell_kept hb3 c2; have c3 := cell_kept hb3 c3; have HB := Lib.hid (HB.out.trans (hb3.mono HB.out.size)); clear hb3) | ((with_reducible go_at_call 17); (with_reducible refine Calls.mono (HF14.out _ HB.out) ?_); rintro e w3 ⟨rfl, hb3⟩; have q3 := block_kept q3 hb3; have c0 := cell_kept hb3 c0; have c1 := cell_kept hb3 c1; have c2 := cell_kept hb3 c2; have c3 := cell_kept hb3 c3; have HB := Lib.hid (HB.out.trans (hb3.mono HB.out.size)); clear hb3))
  go_ret
  exact yesEnd rfl HB.out

set_option maxRecDepth 100000 in
set_option maxHeartbeats 6400000 in
theorem ps_2 {w : World} {A : Option Addr} {F : List FlagP} (hA : FlagsAt w A F) {cap : Nat} (hc : F.length ≤ cap) (hm : cap ≤ 9223372036854775807) (pl un : Bool) (k : Int) {vl : Value} {ls : List (List Txt)} (hvl : TextsW w vl ls) (h1 : fits20 (F.map ofFlag) = true) (h2 : fits22 (ls.map (·.map mkT)) = false)  :
    Calls Try.prog 11 #[.agg #[.slice A F.length cap, .bool pl, .bool un, .int .i64 k], vl] w (YesEnd w) := by
  have H19 := Lib.hid (says19 hA hc hm pl un k h1)
  have H22 := Lib.hid (says22 hvl h2)
  have HVL := Lib.hid hvl
  obtain ⟨la, lc, hvle, hlc, hlm, hli⟩ := hvl
  subst hvle
  clear hli hlm hlc
  go_enter Try.func11, Try.ntmps11
  go_upto_region 1 with fail
  generalize hWX : w.alloc _ = WX
  have HB : Hid (Below w.heap.size w WX) := Lib.hid (by rw [← hWX]; exact (Below.refl _ _).alloc (Nat.le_refl _) _)
  have q3 : WX.heap[w.heap.size]? = some (.cells #[.slice A F.length cap, .bool pl, .bool un, .int .i64 k] 24 (0, 0)) := by rw [← hWX]; exact heap_alloc_new w _
  clear hWX
  have c0 : WX.cell? ⟨w.heap.size, 0, none⟩ = some (.slice A F.length cap) := (cell_blk q3 0).trans rfl
  have c1 : WX.cell? ⟨w.heap.size, 1, none⟩ = some (.bool pl) := (cell_blk q3 1).trans rfl
  have c2 : WX.cell? ⟨w.heap.size, 2, none⟩ = some (.bool un) := (cell_blk q3 2).trans rfl
  have c3 : WX.cell? ⟨w.heap.size, 3, none⟩ = some (.int .i64 k) := (cell_blk q3 3).trans rfl
  go_wp2_with (first | ((with_reducible go_at_call 14); (with_reducible refine Calls.mono (H19.out _ HB.out) ?_); rintro e w3 ⟨rfl, hb3⟩; have q3 := block_kept q3 hb3; have c0 := cell_kept hb3 c0; have c1 := cell_kept hb3 c1; have c2 := cell_kept hb3 c2; have c3 := cell_kept hb3 c3; have HB := Lib.hid (HB.out.trans (hb3.mono HB.out.size)); clear hb3) | ((with_reducible go_at_call 36); (with_reducible refine Calls.mono (H22.out _ HB.out) ?_); rintro e w3 ⟨rfl, hb3⟩; have q3 := block_kept q3 hb3; have c0 := cell_kept hb3 c0; have c1 := cell_kept hb3 c1; have c2 := cell_kept hb3 c2; have c3 := cell_kept hb3 c3; have HB := Lib.hid (HB.out.trans (hb3.mono HB.out.size)); clear hb3) | ((with_reducible go_at_call 16); (with_reducible refine Calls.mono (HRT.out _ HB.out) ?_); rintro e w3 ⟨rfl, hb3⟩; have q3 := block_kept q3 hb3; have c0 := cell_kept hb3 c0; have c1 := cell_kept hb3 c1; have c2 := cell_kept hb3 c2; have c3 := cell_kept hb3 c3; have HB := Lib.hid (HB.out.trans (hb3.mono HB.out.size)); clear hb3) | ((with_reducible go_at_call 17); (with_reducible refine Calls.mono (HF14.out _ HB.out) ?_); rintro e w3 ⟨rfl, hb3⟩; have q3 := block_kept q3 hb3; have c0 := cell_kept hb3 c0; have c1 := cell_kept hb3 c1; have c2 := cell_kept hb3 c2; have c3 := cell_kept hb3 c3; have HB := Lib.hid (HB.out.trans (hb3.mono HB.out.size)); clear hb3))
  go_ret
  exact yesEnd rfl HB.out

set_option maxRecDepth 100000 in
set_option maxHeartbeats 6400000 in
theorem ps_3 {w : World} {A : Option Addr} {F : List FlagP} (hA : FlagsAt w A F) {cap : Nat} (hc : F.length ≤ cap) (hm : cap ≤ 9223372036854775807) (pl un : Bool) (k : Int) {vl : Value} {ls : List (List Txt)} (hvl : TextsW w vl ls) (h1 : fits20 (F.map ofFlag) = true) (h2 : fits22 (ls.map (·.map mkT)) = true) (h3 : RightK F k = false)  :
    Calls Try.prog 11 #[.agg #[.slice A F.length cap, .bool pl, .bool un, .int .i64 k], vl] w (YesEnd w) := by
  have H19 := Lib.hid (says19 hA hc hm pl un k h1)
  have H22 := Lib.hid (says22 hvl h2)
  have HRT := Lib.hid (saysR hA cap pl un k h1 h3)
  have HVL := Lib.hid hvl
  obtain ⟨la, lc, hvle, hlc, hlm, hli⟩ := hvl
  subst hvle
  clear hli hlm hlc
  go_enter Try.func11, Try.ntmps11
  go_upto_region 1 with fail
  generalize hWX : w.alloc _ = WX
  have HB : Hid (Below w.heap.size w WX) := Lib.hid (by rw [← hWX]; exact (Below.refl _ _).alloc (Nat.le_refl _) _)
  have q3 : WX.heap[w.heap.size]? = some (.cells #[.slice A F.length cap, .bool pl, .bool un, .int .i64 k] 24 (0, 0)) := by rw [← hWX]; exact heap_alloc_new w _
  clear hWX
  have c0 : WX.cell? ⟨w.heap.size, 0, none⟩ = some (.slice A F.length cap) := (cell_blk q3 0).trans rfl
  have c1 : WX.cell? ⟨w.heap.size, 1, none⟩ = some (.bool pl) := (cell_blk q3 1).trans rfl
  have c2 : WX.cell? ⟨w.heap.size, 2, none⟩ = some (.bool un) := (cell_blk q3 2).trans rfl
  have c3 : WX.cell? ⟨w.heap.size, 3, none⟩ = some (.int .i64 k) := (cell_blk q3 3).trans rfl
  go_wp2_with (first | ((with_reducible go_at_call 14); (with_reducible refine Calls.mono (H19.out _ HB.out) ?_); rintro e w3 ⟨rfl, hb3⟩; have q3 := block_kept q3 hb3; have c0 := cell_kept hb3 c0; have c1 := cell_kept hb3 c1; have c2 := cell_kept hb3 c2; have c3 := cell_kept hb3 c3; have HB := Lib.hid (HB.out.trans (hb3.mono HB.out.size)); clear hb3) | ((with_reducible go_at_call 36); (with_reducible refine Calls.mono (H22.out _ HB.out) ?_); rintro e w3 ⟨rfl, hb3⟩; have q3 := block_kept q3 hb3; have c0 := cell_kept hb3 c0; have c1 := cell_kept hb3 c1; have c2 := cell_kept hb3 c2; have c3 := cell_kept hb3 c3; have HB := Lib.hid (HB.out.trans (hb3.mono HB.out.size)); clear hb3) | ((with_reducible go_at_call 16); (with_reducible refine Calls.mono (HRT.out _ HB.out) ?_); rintro e w3 ⟨rfl, hb3⟩; have q3 := block_kept q3 hb3; have c0 := cell_kept hb3 c0; have c1 := cell_kept hb3 c1; have c2 := cell_kept hb3 c2; have c3 := cell_kept hb3 c3; have HB := Lib.hid (HB.out.trans (hb3.mono HB.out.size)); clear hb3) | ((with_reducible go_at_call 17); (with_reducible refine Calls.mono (HF14.out _ HB.out) ?_); rintro e w3 ⟨rfl, hb3⟩; have q3 := block_kept q3 hb3; have c0 := cell_kept hb3 c0; have c1 := cell_kept hb3 c1; have c2 := cell_kept hb3 c2; have c3 := cell_kept hb3 c3; have HB := Lib.hid (HB.out.trans (hb3.mono HB.out.size)); clear hb3))
  go_ret
  exact yesEnd rfl HB.out

set_option maxRecDepth 100000 in
set_option maxHeartbeats 6400000 in
theorem ps_4 {w : World} {A : Option Addr} {F : List FlagP} (hA : FlagsAt w A F) {cap : Nat} (hc : F.length ≤ cap) (hm : cap ≤ 9223372036854775807) (pl un : Bool) (k : Int) {vl : Value} {ls : List (List Txt)} (hvl : TextsW w vl ls) (h1 : fits20 (F.map ofFlag) = true) (h2 : fits22 (ls.map (·.map mkT)) = true) (h3 : RightK F k = true) (h4 : decide (wtBB (ls.map (·.map mkT)) ≤ 1048576) = false)  :
    Calls Try.prog 11 #[.agg #[.slice A F.length cap, .bool pl, .bool un, .int .i64 k], vl] w (YesEnd w) := by
  have H19 := Lib.hid (says19 hA hc hm pl un k h1)
  have H22 := Lib.hid (says22 hvl h2)
  have HRT := Lib.hid (saysR hA cap pl un k h1 h3)
  have HF14 := Lib.hid (fun (W : World) (hb : Below w.heap.size w W) => fits14w_c (hvl.below hb) h2 h4)
  have HVL := Lib.hid hvl
  obtain ⟨la, lc, hvle, hlc, hlm, hli⟩ := hvl
  subst hvle
  clear hli hlm hlc
  go_enter Try.func11, Try.ntmps11
  go_upto_region 1 with fail
  generalize hWX : w.alloc _ = WX
  have HB : Hid (Below w.heap.size w WX) := Lib.hid (by rw [← hWX]; exact (Below.refl _ _).alloc (Nat.le_refl _) _)
  have q3 : WX.heap[w.heap.size]? = some (.cells #[.slice A F.length cap, .bool pl, .bool un, .int .i64 k] 24 (0, 0)) := by rw [← hWX]; exact heap_alloc_new w _
  clear hWX
  have c0 : WX.cell? ⟨w.heap.size, 0, none⟩ = some (.slice A F.length cap) := (cell_blk q3 0).trans rfl
  have c1 : WX.cell? ⟨w.heap.size, 1, none⟩ = some (.bool pl) := (cell_blk q3 1).trans rfl
  have c2 : WX.cell? ⟨w.heap.size, 2, none⟩ = some (.bool un) := (cell_blk q3 2).trans rfl
  have c3 : WX.cell? ⟨w.heap.size, 3, none⟩ = some (.int .i64 k) := (cell_blk q3 3).trans rfl
  go_wp2_with (first | ((with_reducible go_at_call 14); (with_reducible refine Calls.mono (H19.out _ HB.out) ?_); rintro e w3 ⟨rfl, hb3⟩; have q3 := block_kept q3 hb3; have c0 := cell_kept hb3 c0; have c1 := cell_kept hb3 c1; have c2 := cell_kept hb3 c2; have c3 := cell_kept hb3 c3; have HB := Lib.hid (HB.out.trans (hb3.mono HB.out.size)); clear hb3) | ((with_reducible go_at_call 36); (with_reducible refine Calls.mono (H22.out _ HB.out) ?_); rintro e w3 ⟨rfl, hb3⟩; have q3 := block_kept q3 hb3; have c0 := cell_kept hb3 c0; have c1 := cell_kept hb3 c1; have c2 := cell_kept hb3 c2; have c3 := cell_kept hb3 c3; have HB := Lib.hid (HB.out.trans (hb3.mono HB.out.size)); clear hb3) | ((with_reducible go_at_call 16); (with_reducible refine Calls.mono (HRT.out _ HB.out) ?_); rintro e w3 ⟨rfl, hb3⟩; have q3 := block_kept q3 hb3; have c0 := cell_kept hb3 c0; have c1 := cell_kept hb3 c1; have c2 := cell_kept hb3 c2; have c3 := cell_kept hb3 c3; have HB := Lib.hid (HB.out.trans (hb3.mono HB.out.size)); clear hb3) | ((with_reducible go_at_call 17); (with_reducible refine Calls.mono (HF14.out _ HB.out) ?_); rintro e w3 ⟨rfl, hb3⟩; have q3 := block_kept q3 hb3; have c0 := cell_kept hb3 c0; have c1 := cell_kept hb3 c1; have c2 := cell_kept hb3 c2; have c3 := cell_kept hb3 c3; have HB := Lib.hid (HB.out.trans (hb3.mono HB.out.size)); clear hb3))
  go_ret
  exact yesEnd rfl HB.out

set_option maxRecDepth 100000 in
set_option maxHeartbeats 6400000 in
theorem ps_5 {w : World} {A : Option Addr} {F : List FlagP} (hA : FlagsAt w A F) {cap : Nat} (hc : F.length ≤ cap) (hm : cap ≤ 9223372036854775807) (pl un : Bool) (k : Int) {vl : Value} {ls : List (List Txt)} (hvl : TextsW w vl ls) (h1 : fits20 (F.map ofFlag) = true) (h2 : fits22 (ls.map (·.map mkT)) = true) (h3 : RightK F k = true) (h4 : decide (wtBB (ls.map (·.map mkT)) ≤ 1048576) = true) (h5 : ¬ ls.length ≤ 1048576) :
    Calls Try.prog 11 #[.agg #[.slice A F.length cap, .bool pl, .bool un, .int .i64 k], vl] w (YesEnd w) := by
  have H19 := Lib.hid (says19 hA hc hm pl un k h1)
  have H22 := Lib.hid (says22 hvl h2)
  have HRT := Lib.hid (saysR hA cap pl un k h1 h3)
  have HF14 := Lib.hid (fun (W : World) (hb : Below w.heap.size w W) => fits14w_c (hvl.below hb) h2 h4)
  have HVL := Lib.hid hvl
  obtain ⟨la, lc, hvle, hlc, hlm, hli⟩ := hvl
  subst hvle
  clear hli hlm hlc
  have hz5 : (1048576 : Int) < (ls.length : Int) := by omega
  go_enter Try.func11, Try.ntmps11
  go_upto_region 1 with fail
  generalize hWX : w.alloc _ = WX
  have HB : Hid (Below w.heap.size w WX) := Lib.hid (by rw [← hWX]; exact (Below.refl _ _).alloc (Nat.le_refl _) _)
  have q3 : WX.heap[w.heap.size]? = some (.cells #[.slice A F.length cap, .bool pl, .bool un, .int .i64 k] 24 (0, 0)) := by rw [← hWX]; exact heap_alloc_new w _
  clear hWX
  have c0 : WX.cell? ⟨w.heap.size, 0, none⟩ = some (.slice A F.length cap) := (cell_blk q3 0).trans rfl
  have c1 : WX.cell? ⟨w.heap.size, 1, none⟩ = some (.bool pl) := (cell_blk q3 1).trans rfl
  have c2 : WX.cell? ⟨w.heap.size, 2, none⟩ = some (.bool un) := (cell_blk q3 2).trans rfl
  have c3 : WX.cell? ⟨w.heap.size, 3, none⟩ = some (.int .i64 k) := (cell_blk q3 3).trans rfl
  go_wp2_with (first | ((with_reducible go_at_call 14); (with_reducible refine Calls.mono (H19.out _ HB.out) ?_); rintro e w3 ⟨rfl, hb3⟩; have q3 := block_kept q3 hb3; have c0 := cell_kept hb3 c0; have c1 := cell_kept hb3 c1; have c2 := cell_kept hb3 c2; have c3 := cell_kept hb3 c3; have HB := Lib.hid (HB.out.trans (hb3.mono HB.out.size)); clear hb3) | ((with_reducible go_at_call 36); (with_reducible refine Calls.mono (H22.out _ HB.out) ?_); rintro e w3 ⟨rfl, hb3⟩; have q3 := block_kept q3 hb3; have c0 := cell_kept hb3 c0; have c1 := cell_kept hb3 c1; have c2 := cell_kept hb3 c2; have c3 := cell_kept hb3 c3; have HB := Lib.hid (HB.out.trans (hb3.mono HB.out.size)); clear hb3) | ((with_reducible go_at_call 16); (with_reducible refine Calls.mono (HRT.out _ HB.out) ?_); rintro e w3 ⟨rfl, hb3⟩; have q3 := block_kept q3 hb3; have c0 := cell_kept hb3 c0; have c1 := cell_kept hb3 c1; have c2 := cell_kept hb3 c2; have c3 := cell_kept hb3 c3; have HB := Lib.hid (HB.out.trans (hb3.mono HB.out.size)); clear hb3) | ((with_reducible go_at_call 17); (with_reducible refine Calls.mono (HF14.out _ HB.out) ?_); rintro e w3 ⟨rfl, hb3⟩; have q3 := block_kept q3 hb3; have c0 := cell_kept hb3 c0; have c1 := cell_kept hb3 c1; have c2 := cell_kept hb3 c2; have c3 := cell_kept hb3 c3; have HB := Lib.hid (HB.out.trans (hb3.mono HB.out.size)); clear hb3))
  go_ret
  exact yesEnd rfl HB.out
def P11 (sv : Value) (vl : Value) (n : Nat) (Q : List (PS × Er)) : Nat → Value → World → Prop
  | 0, v, _ => v = sv
  | 1, v, _ => v = vl
  | 2, v, w => ParsIs w v n Q
  | 3, v, _ => v = sv
  | 4, v, _ => v = vl
  | 5, v, w => ParsIs w v n Q
  | 6, v, w => ParsIs w v n Q
  | 7, v, w => ParsIs w v n Q
  | _, _, _ => True
theorem P11.below {sv : Value} {vl : Value} {n : Nat} {Q : List (PS × Er)} {ix : Nat} (hix : ix < 8) {v : Value} {w w' : World} (h : P11 sv vl n Q ix v w) (hb : Below w.heap.size w w') : P11 sv vl n Q ix v w' := by
  match ix, hix, h with
  | 0, _, h => exact h
  | 1, _, h => exact h
  | 2, _, h => exact ParsIs.below h hb
  | 3, _, h => exact h
  | 4, _, h => exact h
  | 5, _, h => exact ParsIs.below h hb
  | 6, _, h => exact ParsIs.below h hb
  | 7, _, h => exact ParsIs.below h hb

set_option maxRecDepth 100000 in
set_option maxHeartbeats 12800000 in
theorem ps_6 {w : World} {A : Option Addr} {S : SetP} (hS : SetOK w A S) {cap : Nat} (hc : S.flags.length ≤ cap) (hm : cap ≤ 9223372036854775807) {vl : Value} {ls : List (List Txt)} (hvl : TextsW w vl ls) (h1 : fits20 (S.flags.map ofFlag) = true) (h2 : fits22 (ls.map (·.map mkT)) = true) (h3 : RightK S.flags S.fold = true) (h4 : decide (wtBB (ls.map (·.map mkT)) ≤ 1048576) = true) (h5 : ls.length ≤ 1048576) :
    Calls Try.prog 11 #[.agg #[.slice A S.flags.length cap, .bool S.plain, .bool S.unknown, .int .i64 S.fold], vl] w (YesEnd w) := by
  have hwt : wts ls ≤ 1048576 := by
    have h := of_decide_eq_true h4
    rw [wts_map] at h; exact h
  have H19 := Lib.hid (says19 hS.flg hc hm S.plain S.unknown S.fold h1)
  have H22 := Lib.hid (says22 hvl h2)
  have HRT := Lib.hid (saysR hS.flg cap S.plain S.unknown S.fold h1 h3)
  have HF14 := Lib.hid (fun (W : World) (hb : Below w.heap.size w W) => fits14w_c (hvl.below hb) h2 h4)
  have HVL := Lib.hid hvl
  obtain ⟨la, lc, hvle, hlc, hlm, hli⟩ := hvl
  subst hvle
  have hQm : ∀ p ∈ parsesL S ls [] (-1), p.1.G.length ≤ 1048576 ∧ p.1.A.length ≤ 1048576 := fun p hp => by
    have := parsesL_mem hp; omega
  have hQl := parsesL_len S ls [] (-1)
  have HPI := Lib.hid (fun (hne : ∀ L ∈ ls, L ≠ []) (W : World) (hb : Below w.heap.size w W) => (implParses_any S hS.right A cap ls la lc W ((HVL.out.inn hne).below hb) (by omega) (by omega) (fun L hL => by
    have h9 := wt_le_wts hL
    exact ⟨by omega, fun t ht => by have := wt_mem ht; omega⟩) (hS.below hb).flg (hS.below hb).low (Nat.le_trans hS.num (by decide)) (fun i hi => Nat.le_trans (hS.nsz i hi) (by decide))).mono fun e w' h => h.is)
  have HPS := Lib.hid (fun (hne : ∀ L ∈ ls, L ≠ []) (W : World) (hb : Below w.heap.size w W) => (parsesS_any (hS.below hb).flg hS.right hS.num (fun f hf => by obtain ⟨i, hi, rfl⟩ := List.mem_iff_getElem.1 hf; exact hS.nsz i hi) cap hc ((HVL.out.inn hne).below hb) (by omega) (by omega) (fun L hL => by
    have h9 := wt_le_wts hL
    exact ⟨by omega, fun t ht => by have := wt_mem ht; omega⟩)).mono fun e w' h => h.is)
  generalize parsesL S ls [] (-1) = Q at hQm hQl HPI HPS
  have hz5 : ¬ (1048576 : Int) < (ls.length : Int) := by omega
  have HLI := Lib.hid hli
  have HQ := Lib.hid (And.intro hQm (And.intro hQl (And.intro h5 hS.num)))
  clear hS h1 h2 h3 h4 hwt hQm hQl hli hlc hlm
  go_enter Try.func11, Try.ntmps11
  go_upto_region 1 with fail
  generalize hWX : w.alloc _ = WX
  have HB : Hid (Below w.heap.size w WX) := Lib.hid (by rw [← hWX]; exact (Below.refl _ _).alloc (Nat.le_refl _) _)
  have q3 : WX.heap[w.heap.size]? = some (.cells #[.slice A S.flags.length cap, .bool S.plain, .bool S.unknown, .int .i64 S.fold] 24 (0, 0)) := by rw [← hWX]; exact heap_alloc_new w _
  clear hWX
  have c0 : WX.cell? ⟨w.heap.size, 0, none⟩ = some (.slice A S.flags.length cap) := (cell_blk q3 0).trans rfl
  have c1 : WX.cell? ⟨w.heap.size, 1, none⟩ = some (.bool S.plain) := (cell_blk q3 1).trans rfl
  have c2 : WX.cell? ⟨w.heap.size, 2, none⟩ = some (.bool S.unknown) := (cell_blk q3 2).trans rfl
  have c3 : WX.cell? ⟨w.heap.size, 3, none⟩ = some (.int .i64 S.fold) := (cell_blk q3 3).trans rfl
  go_wp2_with (first | ((with_reducible go_at_call 14); (with_reducible refine Calls.mono (H19.out _ HB.out) ?_); rintro e w3 ⟨rfl, hb3⟩; have q3 := block_kept q3 hb3; have c0 := cell_kept hb3 c0; have c1 := cell_kept hb3 c1; have c2 := cell_kept hb3 c2; have c3 := cell_kept hb3 c3; have HB := Lib.hid (HB.out.trans (hb3.mono HB.out.size)); clear hb3) | ((with_reducible go_at_call 36); (with_reducible refine Calls.mono (H22.out _ HB.out) ?_); rintro e w3 ⟨rfl, hb3⟩; have q3 := block_kept q3 hb3; have c0 := cell_kept hb3 c0; have c1 := cell_kept hb3 c1; have c2 := cell_kept hb3 c2; have c3 := cell_kept hb3 c3; have HB := Lib.hid (HB.out.trans (hb3.mono HB.out.size)); clear hb3) | ((with_reducible go_at_call 16); (with_reducible refine Calls.mono (HRT.out _ HB.out) ?_); rintro e w3 ⟨rfl, hb3⟩; have q3 := block_kept q3 hb3; have c0 := cell_kept hb3 c0; have c1 := cell_kept hb3 c1; have c2 := cell_kept hb3 c2; have c3 := cell_kept hb3 c3; have HB := Lib.hid (HB.out.trans (hb3.mono HB.out.size)); clear hb3) | ((with_reducible go_at_call 17); (with_reducible refine Calls.mono (HF14.out _ HB.out) ?_); rintro e w3 ⟨rfl, hb3⟩; have q3 := block_kept q3 hb3; have c0 := cell_kept hb3 c0; have c1 := cell_kept hb3 c1; have c2 := cell_kept hb3 c2; have c3 := cell_kept hb3 c3; have HB := Lib.hid (HB.out.trans (hb3.mono HB.out.size)); clear hb3))
  have Q3 := Lib.hid q3
  clear q3 c0 c1 c2 c3
  go_loop [33] (fun i => ∃ k : Nat, k ≤ ls.length ∧ i = .int .i64 k ∧ Hid (∀ L ∈ ls.take k, L ≠ [])) (fun i => ls.length - (intOf i).toNat)
  case atStart => exact ⟨0, Nat.zero_le _, rfl, Lib.hid (by simp)⟩
  case round =>
    obtain ⟨k, hk, rfl, HN⟩ := hrel
    have i0 : (0 : Int) ≤ (k : Int) := Int.natCast_nonneg _
    by_cases hlt : k < ls.length
    · have i1 : (k : Int) < (ls.length : Int) := by omega
      obtain ⟨b, o, u, hAe, f0, ht⟩ := HLI.out k hlt
      subst hAe
      obtain ⟨Av, cv, hve, _⟩ := ht
      rw [List.length_map] at hve
      subst hve
      have d0 := cell_kept HB.out f0
      have HTK : Hid (ls.take (k + 1) = ls.take k ++ [ls[k]]) := Lib.hid (List.take_succ_eq_append_getElem hlt)
      clear f0
      generalize ls[k] = L at d0 HTK
      by_cases hbd : L = []
      · subst hbd
        rw [List.length_nil] at d0
        go_wp2
        go_ret
        exact yesEnd rfl HB.out
      · have hz : 0 < L.length := List.length_pos_iff.2 hbd
        have hz2 : ((L.length : Int) == 0) = false := by
          rw [beq_eq_false_iff_ne]; omega
        generalize L.length = nb at d0 hz hz2
        go_wp2
        go_round
        case rel => exact ⟨k + 1, by omega, by go_num, Lib.hid (by
          rw [HTK.out]
          intro g hg
          rcases List.mem_append.1 hg with h | h
          · exact HN.out g h
          · rw [List.mem_singleton] at h; subst h; exact hbd)⟩
        case measure => simp [intOf]; omega
    have hke : k = ls.length := by omega
    have i1 : ¬ (k : Int) < (ls.length : Int) := by omega
    have hne : ∀ L ∈ ls, L ≠ [] := fun f hf => HN.out f (by rw [hke, List.take_length]; exact hf)
    have HPI := Lib.hid (HPI.out hne)
    have HPS := Lib.hid (HPS.out hne)
    have hbx := HB.out
    have q3 := Q3.out
    clear hne HN hlt Q3
    go_upto_region 11 with fail
    refine region_inv (by kernel_rfl) (fun u v => Below u.heap.size u v) (P11 (.agg #[.slice A S.flags.length cap, .bool S.plain, .bool S.unknown, .int .i64 S.fold]) (.slice la ls.length lc) (S.flags.length) (Q)) (fun i => false) (fun i => [41, 42, 43, 44, 45, 46, 7, 8].getD i 0) 8
      (Below.refl _ _) (fun _ _ _ h k => below_step h k) (fun i hi v u u' h hb => P11.below hi h hb) ?_ (hgd_none (by kernel_rfl)) (by kernel_rfl) (by kernel_rfl) (by kernel_rfl) (by kernel_rfl) ?_ ?_
    · intro i hi hA; cases hA
    · intro i hi o ho a u hG hk hd
      have hG9 : Below w3.heap.size w3 u := ((Below.refl _ _).drew).trans hG
      match i, hi with
      | 0, _ =>
        cases ho
        exact ow_load_set rfl ((hk 2 (by decide)).trans rfl) (block_kept q3 hG9) ⟨_, rfl, rfl, Below.refl _ _, fun h => by cases h⟩
      | 1, _ =>
        cases ho
        exact ow_move rfl ((hk 1 (by decide)).trans rfl) ⟨_, rfl, rfl, Below.refl _ _, fun h => by cases h⟩
      | 2, _ =>
        cases ho
        have e41 : a.eval (.tmp 41) = _ := hd 0 (by kernel_rfl) (by decide)
        have e42 : a.eval (.tmp 42) = _ := hd 1 (by kernel_rfl) (by decide)
        refine ow_call #[.tmp 41, .tmp 42] #[24, 68] 37 Try.func37 (by kernel_rfl) (by rfl) rfl #[_, _] (by simp only [List.map_toArray, List.map_cons, List.map_nil, e41, e42]) (HPI.out u (hbx.trans (hG9.mono hbx.size))) ?_
        rintro e u2 ⟨v, rfl, hv2, hb2⟩
        exact ⟨v, rfl, _, rfl, hv2, hb2, fun h => by cases h⟩
      | 3, _ =>
        cases ho
        exact ow_load_set rfl ((hk 2 (by decide)).trans rfl) (block_kept q3 hG9) ⟨_, rfl, rfl, Below.refl _ _, fun h => by cases h⟩
      | 4, _ =>
        cases ho
        exact ow_move rfl ((hk 1 (by decide)).trans rfl) ⟨_, rfl, rfl, Below.refl _ _, fun h => by cases h⟩
      | 5, _ =>
        cases ho
        have e44 : a.eval (.tmp 44) = _ := hd 3 (by kernel_rfl) (by decide)
        have e45 : a.eval (.tmp 45) = _ := hd 4 (by kernel_rfl) (by decide)
        refine ow_call #[.tmp 44, .tmp 45] #[24, 68] 38 Try.func38 (by kernel_rfl) (by rfl) rfl #[_, _] (by simp only [List.map_toArray, List.map_cons, List.map_nil, e44, e45]) (HPS.out u (hbx.trans (hG9.mono hbx.size))) ?_
        rintro e u2 ⟨v, rfl, hv2, hb2⟩
        exact ⟨v, rfl, _, rfl, hv2, hb2, fun h => by cases h⟩
      | 6, _ =>
        cases ho
        have e43 : ParsIs u (a.eval (.tmp 43)) S.flags.length Q := hd 2 (by kernel_rfl) (by decide)
        exact ow_assign rfl rfl ⟨_, rfl, e43, Below.refl _ _, fun h => by cases h⟩
      | 7, _ =>
        cases ho
        have e46 : ParsIs u (a.eval (.tmp 46)) S.flags.length Q := hd 5 (by kernel_rfl) (by decide)
        exact ow_assign rfl rfl ⟨_, rfl, e46, Below.refl _ _, fun h => by cases h⟩
    · intro x u hG hx hdif
      have hG9 : Below w3.heap.size w3 u := ((Below.refl _ _).drew).trans hG
      have h1 : ParsIs u (x 6) S.flags.length Q := hx 6 (by decide)
      have h2 : ParsIs u (x 7) S.flags.length Q := hx 7 (by decide)
      obtain ⟨aa, ac, e1, r1⟩ := h1.read
      obtain ⟨ba, bc, e2, r2⟩ := h2.read
      simp only [putAll, Act.put, List.getD_cons_zero, List.getD_cons_succ, List.setIfInBounds_toArray, List.set_cons_succ, List.set_cons_zero]
      refine wpAny_end (by kernel_rfl) ?_
      rw [e1, e2]
      have HB := Lib.hid (HB.out.trans (hG9.mono HB.out.size))
      have R1 := Lib.hid r1
      have R2 := Lib.hid r2
      have hl5 : (Q.length : Int) ≤ 1048576 := by have := HQ.out.2.1; have := HQ.out.2.2.1; omega
      clear r1 r2 e1 e2 h1 h2 hx hdif hG hG9 hbx q3 HPI HPS HLI HVL
      go_wp2
      go_loopw [54] (fun i wr => ∃ k : Nat, k ≤ Q.length ∧ i = .int .i64 k ∧ Hid (Below u.heap.size u wr)) (fun i _ => Q.length - (intOf i).toNat)
      case atStart => exact ⟨0, Nat.zero_le _, rfl, Lib.hid (Below.refl _ _)⟩
      case round =>
        obtain ⟨j, hj, rfl, HU⟩ := hrel
        have j0 : (0 : Int) ≤ (j : Int) := Int.natCast_nonneg _
        by_cases hlt : j < Q.length
        · have j1 : (j : Int) < (Q.length : Int) := by omega
          obtain ⟨gx, hAx, x0, x1, x2, x3, x4, x5, x6, x7, x8, x9, x10, c0, c1, c2, c3, c4, c5, c6, c7, c8, c9, c10, hx⟩ := R1.out j hlt
          obtain ⟨gy, hAy, y0, y1, y2, y3, y4, y5, y6, y7, y8, y9, y10, d0, d1, d2, d3, d4, d5, d6, d7, d8, d9, d10, hy⟩ := R2.out j hlt
          subst hAx
          subst hAy
          have X0 := bq_cell (cell_kept HU.out c0)
          have Y0 := bq_cell (cell_kept HU.out d0)
          have X1 := bq_cell (cell_kept HU.out c1)
          have Y1 := bq_cell (cell_kept HU.out d1)
          have X2 := bq_cell (cell_kept HU.out c2)
          have Y2 := bq_cell (cell_kept HU.out d2)
          have X3 := bq_cell (cell_kept HU.out c3)
          have Y3 := bq_cell (cell_kept HU.out d3)
          have X4 := bq_cell (cell_kept HU.out c4)
          have Y4 := bq_cell (cell_kept HU.out d4)
          have X5 := bq_cell (cell_kept HU.out c5)
          have Y5 := bq_cell (cell_kept HU.out d5)
          have X6 := bq_cell (cell_kept HU.out c6)
          have Y6 := bq_cell (cell_kept HU.out d6)
          have X7 := bq_cell (cell_kept HU.out c7)
          have Y7 := bq_cell (cell_kept HU.out d7)
          have X8 := bq_cell (cell_kept HU.out c8)
          have Y8 := bq_cell (cell_kept HU.out d8)
          have X9 := bq_cell (cell_kept HU.out c9)
          have Y9 := bq_cell (cell_kept HU.out d9)
          have X10 := bq_cell (cell_kept HU.out c10)
          have Y10 := bq_cell (cell_kept HU.out d10)
          have HSM : Hid (∀ W, Below wr.heap.size wr W → Calls Try.prog 22 #[.agg #[x0, x1, x2, x3, x4, x5, x6, x7, x8, x9, x10], .agg #[y0, y1, y2, y3, y4, y5, y6, y7, y8, y9, y10]] W fun e w' => e = .returned (.bool true) ∧ Below W.heap.size W w') := Lib.hid (fun W hb => by
            obtain ⟨q1, q2, q3, q4⟩ := HQ.out
            have q1 := q1 _ (List.getElem_mem hlt)
            exact same_c ((hx.below HU.out).below hb) ((hy.below HU.out).below hb) (by omega) (by omega) q4)
          clear hx hy c0 d0 c1 d1 c2 d2 c3 d3 c4 d4 c5 d5 c6 d6 c7 d7 c8 d8 c9 d9 c10 d10
          go_upto_region 17 with fail
          refine wp_region_bq (by kernel_rfl) (by kernel_rfl) ?_
          repeat (refine WQ.step (fun K hK => ?_); go_simp; first | (refine hK _ ?_; clear hK K) | (apply Exists.intro; refine ⟨fun p9 => ?_, hK _ ?_⟩; (exact bq_below (HSM.out p9.W p9.h)); clear hK K))
          refine WQ.nil ?_
          intro wq HBQ
          clear X0 Y0 X1 Y1 X2 Y2 X3 Y3 X4 Y4 X5 Y5 X6 Y6 X7 Y7 X8 Y8 X9 Y9 X10 Y10
          go_wp2
          go_roundw
          case rel => exact ⟨j + 1, by omega, by go_num, Lib.hid (HU.out.trans (HBQ.mono HU.out.size))⟩
          case measure => simp [intOf]; omega
        · have j1 : ¬ (j : Int) < (Q.length : Int) := by omega
          go_wp2
          go_ret
          exact yesEnd rfl (HB.out.trans (HU.out.mono HB.out.size))
theorem fnParses_any {w : World} {A : Option Addr} {F : List FlagP} (hA : FlagsAt w A F) (hlow : LowBad w A F w.heap.size) {cap : Nat} (hc : F.length ≤ cap) (hcm : cap ≤ 9223372036854775807) (pl un : Bool) (k : Int) {vl : Value} {ls : List (List Txt)} (hvl : TextsW w vl ls) :
    Calls Try.prog 11 #[.agg #[.slice A F.length cap, .bool pl, .bool un, .int .i64 k], vl] w (YesEnd w) := by
  cases h1 : fits20 (F.map ofFlag) with
  | false => exact ps_1 hA hc hcm pl un k hvl h1
  | true =>
  cases h2 : fits22 (ls.map (·.map mkT)) with
  | false => exact ps_2 hA hc hcm pl un k hvl h1 h2
  | true =>
  cases h3 : RightK F k with
  | false => exact ps_3 hA hc hcm pl un k hvl h1 h2 h3
  | true =>
  cases h4 : decide (wtBB (ls.map (·.map mkT)) ≤ 1048576) with
  | false => exact ps_4 hA hc hcm pl un k hvl h1 h2 h3 h4
  | true =>
  by_cases h5 : ls.length ≤ 1048576
  · obtain ⟨n, rfl, hn, hS⟩ := setOK_of hA hlow pl un h1 h3
    exact ps_6 hS hc hcm hvl h1 h2 h3 h4 h5
  · exact ps_5 hA hc hcm pl un k hvl h1 h2 h3 h4 h5
end Go.Proofs.Ytgmhhdpggnmipaa.E
