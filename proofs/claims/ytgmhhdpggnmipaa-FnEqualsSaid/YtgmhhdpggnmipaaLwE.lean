/- laws.takes14, laws.given14, spec.Changed: what they answer. -/
import Derived.Test.YtgmhhdpggnmipaaLw7
import Derived.Test.YtgmhhdpggnmipaaPQx5
namespace Go.Proofs.Ytgmhhdpggnmipaa.E
open Go.RowKit Go.Proofs
open Go.Proofs.Ytgmhhdpggnmipaa.PQ Go.Proofs.YtgmhhdpggnmipaaW.PrintWords Go.Proofs.YtgmhhdpggnmipaaW.PrintLast
set_option linter.unusedVariables false
set_option linter.unusedSimpArgs false
theorem takes14_from (x : ByteArray) (xs : List ByteArray) (hn : xs.length ≤ 9223372036854775806) : ∀ (d i k : Nat), xs.length - i = d → i ≤ xs.length → d < k → laws_takes14.l0 k x xs (xs.length : Int) (i : Int) = some (!(xs.drop i).any fun y => decide (y = x)) := by
  intro d
  induction d with
  | zero =>
    intro i k hd hi hk
    obtain ⟨k, rfl⟩ : ∃ m, k = m + 1 := ⟨k - 1, by omega⟩
    simp only [laws_takes14.l0]
    rw [if_neg (by omega), List.drop_eq_nil_of_le (by omega)]; rfl
  | succ d ih =>
    intro i k hd hi hk
    obtain ⟨k, rfl⟩ : ∃ m, k = m + 1 := ⟨k - 1, by omega⟩
    have ha : i < xs.length := by omega
    simp only [laws_takes14.l0]
    rw [if_pos (by omega), if_pos (by omega), if_pos (by omega), rdOf_nat xs ha, List.drop_eq_getElem_cons ha, List.any_cons]
    by_cases h : xs[i] = x
    · rw [if_pos (by rw [h]), decide_eq_true h]; rfl
    · rw [if_neg (fun e => h (bytes_eq_iff.1 e)), decide_eq_false h, wrapN (by omega), ih (i + 1) k (by omega) (by omega) (by omega)]; rfl
theorem takes14_f (F : List FlagP) (p q : Bool) (f : Int) (i : Nat) (hi : i < F.length) (v : Txt) (hm : F[i].bad.length ≤ 9223372036854775806) : laws_takes14.f (F[i].bad.length + 1) (F.map ofFlag) p q f (i : Int) (mkT v) = some (decide (v ∉ F[i].bad)) := by
  unfold laws_takes14.f
  have hl : (F.map ofFlag).length = F.length := List.length_map _
  rw [if_pos (by omega), if_pos (by omega), rdT_nat (F.map ofFlag) (by omega), List.getElem_map]
  have e : (ofFlag F[i]).f3 = F[i].bad.map mkT := rfl
  rw [e]
  have h := takes14_from (mkT v) (F[i].bad.map mkT) (by simpa using hm) F[i].bad.length 0 (F[i].bad.length + 1) (by simp) (by omega) (by omega)
  rw [Int.natCast_zero] at h
  refine h.trans ?_
  congr 1
  rw [List.drop_zero, List.any_map]
  generalize F[i].bad = l
  induction l with
  | nil => rfl
  | cons a r ih =>
    rw [List.any_cons]
    by_cases h : a = v
    · subst h; simp
    · have : decide (mkT a = mkT v) = false := decide_eq_false (fun e => h (by rw [← mkT_list a, e, mkT_list]))
      simp only [Function.comp, this, Bool.false_or] at ih ⊢
      rw [ih]
      apply decide_eq_decide.2
      simp only [List.mem_cons, not_or]
      exact ⟨fun q => ⟨fun e => h e.symm, q⟩, fun q => q.2⟩
theorem takes_c {w : World} {A : Option Addr} {F : List FlagP} (hA : FlagsAt w A F) (cap : Nat) (hc : F.length ≤ cap) (pl un : Bool) (k : Int) (i : Nat) (hi : i < F.length) (v : Txt) (hn : F.length ≤ 2147483647) (hm : F[i].bad.length ≤ 9223372036854775806) :
    Calls Try.prog 29 #[.agg #[.slice A F.length cap, .bool pl, .bool un, .int .i64 k], .int .i64 (i : Int), .string (mkT v)] w fun e w' => e = .returned (.bool (decide (v ∉ F[i].bad))) ∧ Below w.heap.size w w' := by
  have hl : (F.map ofFlag).length = F.length := List.length_map _
  have h := laws_takes14.calls _ A cap (F.map ofFlag) pl un k (i : Int) (mkT v) _ w (kd_flags hA (by omega)) (by rw [hl]; exact hc) (takes14_f F pl un k i hi v hm)
  rw [hl] at h
  exact h
theorem rdL5_nat (xs : List (List S57)) {i : Nat} (h : i < xs.length) : rd_L5 xs (i : Int) = xs[i] := by
  unfold rd_L5; rw [Int.toNat_natCast, getD_at _ h]
theorem given14_from (ls : List (List S57)) (hn : ls.length ≤ 2147483647) (hb : (ls.flatten).length < 5864062014805) : ∀ (d j : Nat), ls.length - j = d → j ≤ ls.length →
    laws_given14.l0 (d + 1) ((ls.take j).flatten) ls (ls.length : Int) (j : Int) = some ls.flatten := by
  intro d
  induction d with
  | zero =>
    intro j hd hj
    simp only [laws_given14.l0]
    rw [if_neg (by omega), List.take_of_length_le (by omega)]
  | succ d ih =>
    intro j hd hj
    have hlt : j < ls.length := by omega
    simp only [laws_given14.l0]
    have e : (ls.take j).flatten ++ ls[j] = (ls.take (j + 1)).flatten := by rw [List.take_succ_eq_append_getElem hlt, List.flatten_append]; simp
    have hl : ((ls.take (j + 1)).flatten).length ≤ ls.flatten.length := by
      conv => rhs; rw [← List.take_append_drop (j + 1) ls]
      rw [List.flatten_append, List.length_append]; omega
    have hl2 : ((ls.take j).flatten).length + ls[j].length = ((ls.take (j + 1)).flatten).length := by rw [← e, List.length_append]
    rw [if_pos (by omega), if_pos (by omega), if_pos (by omega), rdL5_nat ls hlt, if_pos (by omega), e, wrapN (by omega)]
    exact ih (j + 1) (by omega) (by omega)
theorem given14_f (ls : List (List S57)) (hn : ls.length ≤ 2147483647) (hb : (ls.flatten).length < 5864062014805) : laws_given14.f (ls.length + 1) ls = some ls.flatten := given14_from ls hn hb ls.length 0 (by omega) (by omega)
theorem reps_given {w : World} {base : Nat} {ok : Nat → Prop} : ∀ {G : List (Nat × Txt)} {inner : List Value}, Reps (k57.M w base ok) 2 (G.map ofG) inner → inner = gCells G := by
  intro G inner h
  obtain ⟨h1, h2⟩ := h
  have hlen : inner.length = G.length * 2 := by rw [h1, List.length_map]
  have hgl : ∀ G : List (Nat × Txt), (gCells G).length = G.length * 2 := by
    intro G
    induction G with
    | nil => rfl
    | cons a r ih =>
      unfold gCells at ih ⊢
      simp only [List.map_cons, List.flatten_cons, List.length_append, List.length_cons, List.length_nil, ih]; omega
  apply List.ext_getElem?
  intro q
  by_cases hq : q < G.length * 2
  · obtain ⟨j, i, hi, rfl⟩ : ∃ j i, i < 2 ∧ q = j * 2 + i := ⟨q / 2, q % 2, Nat.mod_lt _ (by decide), by omega⟩
    have hj : j < G.length := by omega
    have h3 := k57_openM (h2 j (ofG G[j]) (by rw [List.getElem?_map, List.getElem?_eq_getElem hj]; rfl))
    have h4 := gCells_at G j i hj hi
    rw [h4]
    have h5 : ((inner.drop (j * 2)).take 2)[i]? = inner[j * 2 + i]? := by rw [List.getElem?_take, if_pos hi, List.getElem?_drop]
    rw [← h5, h3]; rfl
  · rw [List.getElem?_eq_none (by omega), List.getElem?_eq_none (by rw [hgl]; omega)]
theorem reps_int {w : World} {base : Nat} {ok : Nat → Prop} {C : List Nat} {inner : List Value} (h : Reps ((Kd.int .i64).M w base ok) 1 (C.map fun (i : Nat) => (i : Int)) inner) : inner = iCells C := by
  obtain ⟨h1, h2⟩ := h
  have hl : inner.length = C.length := by rw [h1, List.length_map, Nat.mul_one]
  apply List.ext_getElem?
  intro j
  by_cases hj : j < C.length
  · have h3 : (inner.drop (j * 1)).take 1 = [.int .i64 (C[j] : Int)] := h2 j (C[j] : Int) (by rw [List.getElem?_map, List.getElem?_eq_getElem hj]; rfl)
    have h4 : inner[j]? = some (.int .i64 (C[j] : Int)) := by
      have := congrArg (fun l => l[0]?) h3
      simpa using this
    rw [h4]
    unfold iCells
    rw [List.getElem?_map, List.getElem?_eq_getElem hj]; rfl
  · rw [List.getElem?_eq_none (by omega), List.getElem?_eq_none (by unfold iCells; simp; omega)]
/-! ### spec.Changed -/
theorem changed_in (G : List S57) (hm : G.length ≤ 1099511627776) (out : List Int) (i n : Nat) (hi : i < 9223372036854775806) (ho : out.length < 17592186044416) (k0 : Nat) (A B : List Int)
    (hA : ∀ k, k0 ≤ k → spec_Changed.l0 k G (out ++ [(i : Int)]) (n : Int) ((i + 1 : Nat) : Int) = some A) (hB : ∀ k, k0 ≤ k → spec_Changed.l0 k G out (n : Int) ((i + 1 : Nat) : Int) = some B) :
    ∀ (d j k : Nat), G.length - j = d → j ≤ G.length → k0 + d < k → spec_Changed.l1 k G out (i : Int) (n : Int) (i : Int) G (G.length : Int) (j : Int) = some (if ((G.drop j).any fun g => decide (g.f0 = (i : Int))) = true then A else B) := by
  intro d
  induction d with
  | zero =>
    intro j k hd hj hk
    obtain ⟨k, rfl⟩ : ∃ m, k = m + 1 := ⟨k - 1, by omega⟩
    simp only [spec_Changed.l1]
    rw [if_neg (by omega), List.drop_eq_nil_of_le (by omega), wrapN (by omega), hB k (by omega)]; rfl
  | succ d ih =>
    intro j k hd hj hk
    obtain ⟨k, rfl⟩ : ∃ m, k = m + 1 := ⟨k - 1, by omega⟩
    have ha : j < G.length := by omega
    simp only [spec_Changed.l1]
    rw [if_pos (by omega), if_pos (by omega), if_pos (by omega), rdG_nat G ha, List.drop_eq_getElem_cons ha, List.any_cons]
    by_cases h : G[j].f0 = (i : Int)
    · rw [if_pos h, if_pos ho, decide_eq_true h, wrapN (by omega), hA k (by omega)]; rfl
    · rw [if_neg h, decide_eq_false h, wrapN (by omega), ih (j + 1) k (by omega) (by omega) (by omega)]; rfl
theorem changed_from (G : List S57) (hm : G.length ≤ 1099511627776) (n : Nat) (hn : n ≤ 2147483647) : ∀ (d i : Nat) (out : List Int), n - i = d → i ≤ n → out.length ≤ i →
    ∃ k0, ∀ k, k0 ≤ k → spec_Changed.l0 k G out (n : Int) (i : Int) = some (out ++ (((List.range n).drop i).filter fun (i : Nat) => G.any fun g => decide (g.f0 = (i : Int))).map fun (i : Nat) => (i : Int)) := by
  intro d
  induction d with
  | zero =>
    intro i out hd hi ho
    refine ⟨1, fun k hk => ?_⟩
    obtain ⟨k, rfl⟩ : ∃ m, k = m + 1 := ⟨k - 1, by omega⟩
    simp only [spec_Changed.l0]
    rw [if_neg (by omega), List.drop_eq_nil_of_le (by simp; omega)]; simp
  | succ d ih =>
    intro i out hd hi ho
    obtain ⟨ka, hA⟩ := ih (i + 1) (out ++ [(i : Int)]) (by omega) (by omega) (by simp; omega)
    obtain ⟨kb, hB⟩ := ih (i + 1) out (by omega) (by omega) (by omega)
    refine ⟨ka + kb + G.length + 2, fun k hk => ?_⟩
    obtain ⟨k, rfl⟩ : ∃ m, k = m + 1 := ⟨k - 1, by omega⟩
    simp only [spec_Changed.l0]
    have h := changed_in G hm out i n (by omega) (by omega) (ka + kb) _ _ (fun k h => hA k (by omega)) (fun k h => hB k (by omega)) G.length 0 k (by omega) (by omega) (by omega)
    rw [Int.natCast_zero, List.drop_zero] at h
    rw [if_pos (by omega), h]
    have hr : (List.range n).drop i = i :: (List.range n).drop (i + 1) := by
      rw [List.drop_eq_getElem_cons (by simp; omega), List.getElem_range]
    rw [hr, List.filter_cons]
    by_cases q : (G.any fun g => decide (g.f0 = (i : Int))) = true
    · rw [if_pos q, if_pos q]; simp
    · rw [if_neg q, if_neg q]
theorem changed_f (F : List S47) (p q : Bool) (f : Int) (G : List (Nat × Txt)) (hm : G.length ≤ 1099511627776) (hn : F.length ≤ 2147483647) : ∃ k, spec_Changed.f k F p q f (G.map ofG) = some ((chL (fun j => G.any fun g => g.1 == j) F.length).map fun (i : Nat) => (i : Int)) := by
  obtain ⟨k, h⟩ := changed_from (G.map ofG) (by rw [List.length_map]; exact hm) F.length hn F.length 0 [] (by omega) (by omega) (by simp)
  refine ⟨k, ?_⟩
  have h := h k (Nat.le_refl k)
  rw [Int.natCast_zero, List.drop_zero, List.nil_append] at h
  unfold spec_Changed.f
  rw [h]
  congr 2
  unfold chL
  congr 1
  funext j
  rw [List.any_map]
  congr 1
  funext g
  show decide (((g.1 : Nat) : Int) = (j : Int)) = (g.1 == j)
  by_cases e : g.1 = j
  · rw [decide_eq_true (by rw [e]), e]; simp
  · rw [decide_eq_false (by omega)]; simp [e]
/-! ### their contracts -/
/-- A list of what was given, the call's own. -/
def OwnG (w : World) (v : Value) (G : List (Nat × Txt)) : Prop := ∃ a c, v = .slice a G.length c ∧ w.ownsRow 0 57 2 v G.length (gCells G)
def OwnI (w : World) (v : Value) (C : List Nat) : Prop := ∃ a c, v = .slice a C.length c ∧ w.ownsRow 0 3 1 v C.length (iCells C)
theorem ownG_R {w : World} {base : Nat} {ok : Nat → Prop} {v : Value} {G : List (Nat × Txt)} (h : Kd.R k57 57 w base ok v (G.map ofG)) : OwnG w v G := by
  obtain ⟨_, inner, ho, hr⟩ := h
  have e := reps_given hr
  subst e
  have hl : (G.map ofG).length = G.length := List.length_map _
  rw [hl] at ho
  obtain ⟨A, c, e, _⟩ := own_row ho
  exact ⟨A, c, e, own_lower ho (Nat.zero_le _)⟩
theorem ownI_R {w : World} {base : Nat} {ok : Nat → Prop} {v : Value} {C : List Nat} (h : Kd.R (Kd.int .i64) 3 w base ok v (C.map fun (i : Nat) => (i : Int))) : OwnI w v C := by
  obtain ⟨_, inner, ho, hr⟩ := h
  have e := reps_int hr
  subst e
  have hl : (C.map fun (i : Nat) => (i : Int)).length = C.length := List.length_map _
  rw [hl] at ho
  obtain ⟨A, c, e, _⟩ := own_row ho
  exact ⟨A, c, e, own_lower ho (Nat.zero_le _)⟩
theorem changed_c {w : World} {A : Option Addr} {F : List FlagP} (hA : FlagsAt w A F) (cap : Nat) (hc : F.length ≤ cap) (pl un : Bool) (k : Int) {a : Option Addr} {c : Nat} {G : List (Nat × Txt)} (hn : F.length ≤ 2147483647) (h : RowAt w a (gCells G)) (hl : G.length ≤ c) (hm : G.length ≤ 1099511627776) :
    Calls Try.prog 21 #[.agg #[.slice A F.length cap, .bool pl, .bool un, .int .i64 k], .slice a G.length c] w fun e w' => ∃ v, e = .returned v ∧ OwnI w' v (chL (fun j => G.any fun g => g.1 == j) F.length) ∧ Below w.heap.size w w' := by
  have hfl : (F.map ofFlag).length = F.length := List.length_map _
  have hgl : (G.map ofG).length = G.length := List.length_map _
  obtain ⟨kk, hk⟩ := changed_f (F.map ofFlag) pl un k G hm (by rw [hfl]; exact hn)
  have h2 := spec_Changed.calls kk A cap (F.map ofFlag) pl un k a c (G.map ofG) _ w (kd_flags hA (by omega)) (by rw [hfl]; exact hc) (kd_given h (by omega)) (by rw [hgl]; exact hl) hk
  rw [hfl, hgl] at h2
  exact h2.mono fun e w' ⟨v, he, hr, hb⟩ => ⟨v, he, ownI_R hr, hb⟩
/-- Two lists of what was given, side by side. -/
theorem given_rows {w : World} {g : Nat} {T : TypeId} {a1 a2 : Option Addr} {c1 c2 : Nat} {G H : List (Nat × Txt)} (hg : w.heap[g]? = some (.cells #[.slice a1 G.length c1, .slice a2 H.length c2] T (0, 0))) (h1 : RowAt w a1 (gCells G)) (l1 : G.length ≤ c1) (m1 : G.length ≤ 1099511627776) (h2 : RowAt w a2 (gCells H)) (l2 : H.length ≤ c2) (m2 : H.length ≤ 1099511627776) :
    Kd.C (Kd.slice 57 k57) w (some ⟨g, 0, none⟩) 2 [G.map ofG, H.map ofG] := by
  have hgl : ∀ G : List (Nat × Txt), (G.map ofG).length = G.length := fun G => List.length_map _
  refine ⟨rfl, by (show 2 ≤ 9223372036854775807; decide), fun h0 => ⟨_, rfl, fun j p hp => ?_⟩⟩
  have key : ∀ (a : Option Addr) (c : Nat) (G : List (Nat × Txt)) (j : Nat), RowAt w a (gCells G) → G.length ≤ c → G.length ≤ 1099511627776 → w.cell? ⟨g, j, none⟩ = some (.slice a G.length c) → ∃ cs, cs.length = 1 ∧ (Kd.slice 57 k57).K w (G.map ofG) cs ∧ ∀ i u, cs[i]? = some u → w.cell? ((⟨g, 0, none⟩ : Addr).add (j * 1 + i)) = some u := by
    intro a c G j h l m hc
    refine ⟨[.slice a (G.map ofG).length c], rfl, ⟨a, c, rfl, by rw [hgl]; exact l, kd_given h (by omega)⟩, fun i u hu => ?_⟩
    have hi : i = 0 := by
      have := (List.getElem?_eq_some_iff.1 hu).1
      simp at this; exact this
    subst hi
    rw [addr_add, Nat.mul_one, Nat.add_zero, Nat.zero_add, hc]
    rw [hgl] at hu
    exact hu
  match j, hp with
  | 0, hp => obtain rfl := Option.some.inj hp; obtain ⟨cs, hs, h, hh⟩ := key a1 c1 G 0 h1 l1 m1 ((cell_blk hg 0).trans rfl); exact ⟨cs, hs, h, hh⟩
  | 1, hp => obtain rfl := Option.some.inj hp; obtain ⟨cs, hs, h, hh⟩ := key a2 c2 H 1 h2 l2 m2 ((cell_blk hg 1).trans rfl); exact ⟨cs, hs, h, hh⟩
  | j + 2, hp => simp at hp
theorem given_c {w : World} {g c : Nat} {T : TypeId} {a1 a2 : Option Addr} {c1 c2 : Nat} {G H : List (Nat × Txt)} (hg : w.heap[g]? = some (.cells #[.slice a1 G.length c1, .slice a2 H.length c2] T (0, 0))) (h1 : RowAt w a1 (gCells G)) (l1 : G.length ≤ c1) (m1 : G.length ≤ 1099511627776) (h2 : RowAt w a2 (gCells H)) (l2 : H.length ≤ c2) (m2 : H.length ≤ 1099511627776) (hc : 2 ≤ c) :
    Calls Try.prog 30 #[.slice (some ⟨g, 0, none⟩) 2 c] w fun e w' => ∃ v, e = .returned v ∧ OwnG w' v (G ++ H) ∧ Below w.heap.size w w' := by
  have hfl : [G.map ofG, H.map ofG].flatten = (G ++ H).map ofG := by simp
  have h := laws_given14.calls 3 _ c [G.map ofG, H.map ofG] _ w (given_rows hg h1 l1 m1 h2 l2 m2) hc (given14_f [G.map ofG, H.map ofG] (by (show 2 ≤ 2147483647; decide)) (by rw [hfl]; simp; omega))
  rw [hfl] at h
  exact h.mono fun e w' ⟨v, he, hr, hb⟩ => ⟨v, he, ownG_R hr, hb⟩
end Go.Proofs.Ytgmhhdpggnmipaa.E
