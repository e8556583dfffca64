/- Texts, flags and what was heard, as the printed readers of the laws want them. -/
import Derived.Test.YtgmhhdpggnmipaaLw1
import Derived.Test.YtgmhhdpggnmipaaFs17
namespace Go.Proofs.Ytgmhhdpggnmipaa.E
open Go.RowKit Go.Proofs
open Go.Proofs.Ytgmhhdpggnmipaa.PQ Go.Proofs.YtgmhhdpggnmipaaW.PrintWords Go.Proofs.YtgmhhdpggnmipaaW.PrintLast
set_option linter.unusedVariables false
set_option linter.unusedSimpArgs false

/-- A list of texts, with all that is known of a list. -/
def TextIn (w : World) (v : Value) (xs : List ByteArray) : Prop := ∃ A c, v = .slice A xs.length c ∧ StrsAt w A xs ∧ xs.length ≤ c ∧ c ≤ 9223372036854775807 ∧ (A = none → c = 0) ∧ ∀ a, A = some a → a.block < w.heap.size
theorem TextIn.below {w w' : World} {v : Value} {xs : List ByteArray} (h : TextIn w v xs) (hb : Below w.heap.size w w') : TextIn w' v xs := by
  obtain ⟨A, c, rfl, h1, h2, h3, h4, h5⟩ := h
  exact ⟨A, c, rfl, strsAt_below h1 hb, h2, h3, h4, fun a e => Nat.lt_of_lt_of_le (h5 a e) hb.size⟩
theorem addr_add (b o j : Nat) : (⟨b, o, none⟩ : Addr).add j = ⟨b, o + j, none⟩ := by unfold Addr.add; split <;> simp_all
theorem kd_str {w : World} {A : Option Addr} {xs : List ByteArray} (h : StrsAt w A xs) (hn : xs.length ≤ 9223372036854775807) : Kd.C Kd.string w A xs.length xs := by
  refine ⟨rfl, hn, fun h0 => ?_⟩
  obtain ⟨b, o, rfl, _⟩ := h 0 h0
  refine ⟨_, rfl, fun j p hp => ⟨[.string p], rfl, rfl, fun i u hu => ?_⟩⟩
  have hj : j < xs.length := (List.getElem?_eq_some_iff.1 hp).1
  have hi : i = 0 := by
    have := (List.getElem?_eq_some_iff.1 hu).1
    simp at this; exact this
  subst hi
  obtain ⟨b', o', e, hc⟩ := h j hj
  cases e
  show w.cell? ((⟨b, o, none⟩ : Addr).add (j * 1 + 0)) = some u
  rw [addr_add, Nat.mul_one, Nat.add_zero, hc]
  rw [tx_lt hj]
  rw [List.getElem?_eq_getElem hj] at hp
  rw [Option.some.inj hp]; exact hu
theorem TextIn.kd {w : World} {v : Value} {xs : List ByteArray} (h : TextIn w v xs) : ∃ A c, v = .slice A xs.length c ∧ Kd.C Kd.string w A xs.length xs ∧ xs.length ≤ c := by
  obtain ⟨A, c, rfl, h1, h2, h3, _⟩ := h
  exact ⟨A, c, rfl, kd_str h1 (by omega), h2⟩
theorem own_full {w : World} {base e size n m c : Nat} {A : Option Addr} {xs : List Value} (h : w.ownsRow base e size (.slice A n c) m xs) : n = m ∧ RowAt w A xs ∧ n ≤ c ∧ c ≤ 9223372036854775807 ∧ (A = none → c = 0) ∧ ∀ a, A = some a → a.block < w.heap.size := by
  have hl := h.1
  rcases h.2 with ⟨e1, e2⟩ | ⟨g, cap, cur, e1, hb, hg, hn, hm, hs, ht⟩
  · simp only [Value.slice.injEq] at e1
    obtain ⟨rfl, rfl, rfl⟩ := e1
    subst e2
    refine ⟨rfl, ?_, Nat.le_refl _, by omega, fun _ => rfl, fun a h => by cases h⟩
    intro i u hu
    have : xs = [] := List.eq_nil_of_length_eq_zero (by rw [hl]; simp)
    subst this
    simp at hu
  · simp only [Value.slice.injEq] at e1
    obtain ⟨rfl, rfl, rfl⟩ := e1
    refine ⟨rfl, ?_, hn, by unfold maxLen at hm; exact hm, (fun h => by cases h), (fun a h => by cases h; exact lt_of_block hg)⟩
    intro i u hu
    refine ⟨g, rfl, ?_⟩
    rw [cell_of_row w g i cur e (0, 0) hg]
    rw [← ht, List.getElem?_take] at hu
    split at hu
    · simpa using hu
    · cases hu
theorem strsAt_row {w : World} {A : Option Addr} {xs : List ByteArray} (h : RowAt w A (strCells xs)) : StrsAt w A xs := by
  intro i hi
  have hu : (strCells xs)[i]? = some (.string (tx xs i)) := by
    unfold strCells
    rw [List.getElem?_map, List.getElem?_eq_getElem hi, tx_lt hi]; rfl
  obtain ⟨g, rfl, hc⟩ := h i _ hu
  exact ⟨g, 0, rfl, by rw [Nat.zero_add]; exact hc⟩
theorem textIn_own {w : World} {base n : Nat} {v : Value} {xs : List ByteArray} (h : w.ownsRow base 9 1 v n (strCells xs)) : TextIn w v xs := by
  obtain ⟨A, c, rfl, _⟩ := own_row h
  obtain ⟨_, h2, h3, h4, h5, h6⟩ := own_full h
  have hl : xs.length = n := by have := h.1; simpa [strCells] using this
  exact ⟨A, c, by rw [hl], strsAt_row h2, by omega, h4, h5, h6⟩
theorem reps_str {w : World} {base : Nat} {ok : Nat → Prop} {xs : List ByteArray} {inner : List Value} (h : Reps (Kd.string.M w base ok) 1 xs inner) : inner = strCells xs := by
  obtain ⟨h1, h2⟩ := h
  apply List.ext_getElem?
  intro j
  by_cases hj : j < xs.length
  · have h3 : (inner.drop (j * 1)).take 1 = [.string xs[j]] := h2 j xs[j] (List.getElem?_eq_getElem hj)
    have h4 : inner[j]? = some (.string xs[j]) := by
      have := congrArg (fun l => l[0]?) h3
      simpa using this
    rw [h4]
    unfold strCells
    rw [List.getElem?_map, List.getElem?_eq_getElem hj]; rfl
  · rw [List.getElem?_eq_none (by omega), List.getElem?_eq_none (by unfold strCells; simp; omega)]
theorem textIn_R {w : World} {base : Nat} {ok : Nat → Prop} {v : Value} {xs : List ByteArray} (h : Kd.R Kd.string 9 w base ok v xs) : TextIn w v xs := by
  obtain ⟨_, inner, ho, hr⟩ := h
  rw [reps_str hr] at ho
  exact textIn_own ho
/-- Lists of texts, as they lie side by side in a block. -/
def RowsIn (w : World) (g : Nat) (vs : List Value) (ls : List (List ByteArray)) : Prop := (∃ T, w.heap[g]? = some (.cells vs.toArray T (0, 0))) ∧ vs.length = ls.length ∧ ∀ i (h : i < vs.length) (h2 : i < ls.length), TextIn w vs[i] ls[i]
theorem RowsIn.kd {w : World} {g : Nat} {vs : List Value} {ls : List (List ByteArray)} (h : RowsIn w g vs ls) (hn : ls.length ≤ 9223372036854775807) : Kd.C (Kd.slice 9 Kd.string) w (some ⟨g, 0, none⟩) ls.length ls := by
  obtain ⟨⟨T, hg⟩, hl, hv⟩ := h
  refine ⟨rfl, hn, fun h0 => ⟨_, rfl, fun j p hp => ?_⟩⟩
  have hj : j < ls.length := (List.getElem?_eq_some_iff.1 hp).1
  have hp2 : ls[j] = p := (List.getElem?_eq_some_iff.1 hp).2
  obtain ⟨A, c, e, hk, hc⟩ := (hv j (by omega) hj).kd
  rw [hp2] at e hk hc
  refine ⟨[.slice A p.length c], rfl, ⟨A, c, rfl, hc, hk⟩, fun i u hu => ?_⟩
  have hi : i = 0 := by
    have := (List.getElem?_eq_some_iff.1 hu).1
    simp at this; exact this
  subst hi
  show w.cell? ((⟨g, 0, none⟩ : Addr).add (j * 1 + 0)) = some u
  rw [addr_add, cell_blk hg]
  simp only [Nat.zero_add, Nat.mul_one, Nat.add_zero, List.getElem?_toArray]
  rw [List.getElem?_eq_getElem (by omega), e]
  exact hu
/-- A flag as the printed readers have it. -/
def ofFlag (f : FlagP) : S47 := ⟨mkT f.name, mkT f.short, mkT f.noOpt, f.bad.map mkT⟩
theorem kd_flags {w : World} {A : Option Addr} {L : List FlagP} (h : FlagsAt w A L) (hn : L.length ≤ 9223372036854775807) : Kd.C k47 w A (L.map ofFlag).length (L.map ofFlag) := by
  have hl : (L.map ofFlag).length = L.length := List.length_map _
  refine ⟨rfl, by rw [hl]; exact hn, fun h0 => ?_⟩
  rw [hl] at h0
  obtain ⟨b, o, _, rfl, _⟩ := h 0 h0
  refine ⟨_, rfl, fun j p hp => ?_⟩
  rw [List.getElem?_map] at hp
  have hj : j < L.length := by
    by_cases q : j < L.length
    · exact q
    · rw [List.getElem?_eq_none (by omega)] at hp; cases hp
  rw [List.getElem?_eq_getElem hj] at hp
  obtain rfl := Option.some.inj hp
  obtain ⟨b', o', v, e, c0, c1, c2, c3, A3, cp, rfl, hs, hle, hm, hnn⟩ := h j hj
  cases e
  refine ⟨[.string (mkT L[j].name), .string (mkT L[j].short), .string (mkT L[j].noOpt), .slice A3 (L[j].bad.map mkT).length cp], rfl, k47_mk w (ofFlag L[j]) hle (kd_str hs (Nat.le_trans hle hm)), fun i u hu => ?_⟩
  show w.cell? ((⟨b, o, none⟩ : Addr).add (j * 4 + i)) = some u
  rw [addr_add, ← Nat.add_assoc]
  match i, hu with
  | 0, hu => rw [Nat.add_zero, c0]; exact hu
  | 1, hu => rw [c1]; exact hu
  | 2, hu => rw [c2]; exact hu
  | 3, hu => rw [c3]; exact hu
  | i + 4, hu => simp at hu
def ofG (g : Nat × Txt) : S57 := ⟨(g.1 : Int), mkT g.2⟩
theorem gCells_at (G : List (Nat × Txt)) (j i : Nat) (hj : j < G.length) (hi : i < 2) : (gCells G)[j * 2 + i]? = ([Value.int .i64 (G[j].1 : Int), .string (mkT G[j].2)])[i]? := by
  unfold gCells
  induction G generalizing j with
  | nil => simp at hj
  | cons g r ih =>
    cases j with
    | zero =>
      simp only [Nat.zero_mul, Nat.zero_add, List.map_cons, List.flatten_cons, List.getElem_cons_zero]
      rw [List.getElem?_append_left (by simpa using hi)]
    | succ j =>
      simp only [List.map_cons, List.flatten_cons, List.getElem_cons_succ]
      rw [List.getElem?_append_right (by simp; omega)]
      have e : (j + 1) * 2 + i - [Value.int .i64 (g.1 : Int), .string (mkT g.2)].length = j * 2 + i := by simp; omega
      rw [e]
      exact ih j (by simpa using hj)
theorem kd_given {w : World} {A : Option Addr} {G : List (Nat × Txt)} (h : RowAt w A (gCells G)) (hn : G.length ≤ 9223372036854775807) : Kd.C k57 w A (G.map ofG).length (G.map ofG) := by
  have hl : (G.map ofG).length = G.length := List.length_map _
  refine ⟨rfl, by rw [hl]; exact hn, fun h0 => ?_⟩
  rw [hl] at h0
  obtain ⟨g, rfl, _⟩ := h 0 _ (by have := gCells_at G 0 0 h0 (by omega); simpa using this)
  refine ⟨_, rfl, fun j p hp => ?_⟩
  rw [List.getElem?_map] at hp
  have hj : j < G.length := by
    by_cases q : j < G.length
    · exact q
    · rw [List.getElem?_eq_none (by omega)] at hp; cases hp
  rw [List.getElem?_eq_getElem hj] at hp
  obtain rfl := Option.some.inj hp
  refine ⟨[.int .i64 (G[j].1 : Int), .string (mkT G[j].2)], rfl, k57_mk w (ofG G[j]), fun i u hu => ?_⟩
  have hi : i < 2 := by have := (List.getElem?_eq_some_iff.1 hu).1; simpa using this
  obtain ⟨g', e, hc⟩ := h (j * 2 + i) u ((gCells_at G j i hj hi).trans hu)
  cases e
  show w.cell? ((⟨g, 0, none⟩ : Addr).add (j * 2 + i)) = some u
  rw [addr_add, Nat.zero_add]; exact hc
theorem kd_ints {w : World} {A : Option Addr} {C : List Nat} (h : RowAt w A (iCells C)) (hn : C.length ≤ 9223372036854775807) : Kd.C (Kd.int .i64) w A (C.map fun (i : Nat) => (i : Int)).length (C.map fun (i : Nat) => (i : Int)) := by
  have hl : (C.map fun (i : Nat) => (i : Int)).length = C.length := List.length_map _
  have hat : ∀ j (hj : j < C.length), (iCells C)[j]? = some (.int .i64 (C[j] : Int)) := by
    intro j hj
    unfold iCells
    rw [List.getElem?_map, List.getElem?_eq_getElem hj]; rfl
  refine ⟨rfl, by rw [hl]; exact hn, fun h0 => ?_⟩
  rw [hl] at h0
  obtain ⟨g, rfl, _⟩ := h 0 _ (hat 0 h0)
  refine ⟨_, rfl, fun j p hp => ?_⟩
  rw [List.getElem?_map] at hp
  have hj : j < C.length := by
    by_cases q : j < C.length
    · exact q
    · rw [List.getElem?_eq_none (by omega)] at hp; cases hp
  rw [List.getElem?_eq_getElem hj] at hp
  obtain rfl := Option.some.inj hp
  refine ⟨[.int .i64 (C[j] : Int)], rfl, rfl, fun i u hu => ?_⟩
  have hi : i = 0 := by
    have := (List.getElem?_eq_some_iff.1 hu).1
    simp at this; exact this
  subst hi
  obtain ⟨g', e, hc⟩ := h j _ (hat j hj)
  cases e
  show w.cell? ((⟨g, 0, none⟩ : Addr).add (j * 1 + 0)) = some u
  rw [addr_add, Nat.zero_add, Nat.mul_one, Nat.add_zero, hc]; exact hu

/-- What was heard, to be read. -/
def HdIn (w : World) (s : PS) (n : Nat) (G A C : Value) : Prop :=
  (∃ a c, G = .slice a s.G.length c ∧ RowAt w a (gCells s.G) ∧ s.G.length ≤ c ∧ c ≤ 9223372036854775807) ∧ TextIn w A (s.A.map mkT) ∧ (∃ a c, C = .slice a (chL s.chg n).length c ∧ RowAt w a (iCells (chL s.chg n)) ∧ (chL s.chg n).length ≤ c ∧ c ≤ 9223372036854775807)
theorem HdIn.below {w w' : World} {s : PS} {n : Nat} {G A C : Value} (h : HdIn w s n G A C) (hb : Below w.heap.size w w') : HdIn w' s n G A C := by
  obtain ⟨⟨a, c, e, h1, h2⟩, h3, ⟨a', c', e', h4, h5⟩⟩ := h
  exact ⟨⟨a, c, e, rowAt_below h1 hb, h2⟩, h3.below hb, ⟨a', c', e', rowAt_below h4 hb, h5⟩⟩
theorem HdRows.hdIn {B : Nat} {w : World} {s : PS} {n gc ac cc : Nat} {GA AA CA : Option Addr} (h : HdRows B w s n (.slice GA s.G.length gc) (.slice AA s.A.length ac) (.slice CA (chL s.chg n).length cc)) : HdIn w s n (.slice GA s.G.length gc) (.slice AA s.A.length ac) (.slice CA (chL s.chg n).length cc) := by
  obtain ⟨_, g2, g3, g4, _⟩ := own_full h.1
  obtain ⟨_, c2, c3, c4, _⟩ := own_full h.2.2
  refine ⟨⟨GA, gc, rfl, g2, g3, g4⟩, textIn_own (n := s.A.length) (base := B) ?_, ⟨CA, cc, rfl, c2, c3, c4⟩⟩
  have e : strCells (s.A.map mkT) = aCells s.A := by unfold strCells aCells; rw [List.map_map]; rfl
  rw [e]; exact h.2.1
/-- A value that was heard. -/
def HeardIs (w : World) (s : PS) (er : Er) (n : Nat) (v : Value) : Prop := ∃ G A C, v = .agg (hdCells s er n G A C) ∧ HdIn w s n G A C
theorem HeardIs.below {w w' : World} {s : PS} {er : Er} {n : Nat} {v : Value} (h : HeardIs w s er n v) (hb : Below w.heap.size w w') : HeardIs w' s er n v := by
  obtain ⟨G, A, C, e, h⟩ := h
  exact ⟨G, A, C, e, h.below hb⟩
/-- .. whose rows are the call's own. -/
def HeardOwn (w : World) (s : PS) (er : Er) (n : Nat) (v : Value) : Prop := ∃ (GA : Option Addr) (gc : Nat) (AA : Option Addr) (ac : Nat) (CA : Option Addr) (cc : Nat), v = .agg (hdCells s er n (.slice GA s.G.length gc) (.slice AA s.A.length ac) (.slice CA (chL s.chg n).length cc)) ∧ HdRows 0 w s n (.slice GA s.G.length gc) (.slice AA s.A.length ac) (.slice CA (chL s.chg n).length cc)
theorem HdRows.below {B : Nat} {w w' : World} {s : PS} {n : Nat} {G A C : Value} (h : HdRows B w s n G A C) (hb : Below w.heap.size w w') : HdRows B w' s n G A C := ⟨own_kept h.1 hb, own_kept h.2.1 hb, own_kept h.2.2 hb⟩
theorem HeardOwn.below {w w' : World} {s : PS} {er : Er} {n : Nat} {v : Value} (h : HeardOwn w s er n v) (hb : Below w.heap.size w w') : HeardOwn w' s er n v := by
  obtain ⟨GA, gc, AA, ac, CA, cc, e, h⟩ := h
  exact ⟨GA, gc, AA, ac, CA, cc, e, h.below hb⟩
theorem HeardOwn.is {w : World} {s : PS} {er : Er} {n : Nat} {v : Value} (h : HeardOwn w s er n v) : HeardIs w s er n v := by
  obtain ⟨GA, gc, AA, ac, CA, cc, e, h⟩ := h
  exact ⟨_, _, _, e, h.hdIn⟩
/-- The rows stay where a variable of what was heard is written. -/
theorem HdRows.put {B : Nat} {w : World} {s t : PS} {er : Er} {n : Nat} {G A C G' A' C' : Value} (h : HdRows B w s n G A C) {g : Nat} (hg : w.heap[g]? = some (.cells hdZero 32 (0, 0))) : HdRows B (hdPut w g t er G' A' C') s n G A C :=
  h.blk g hg (by decide) (by decide) (by decide) (fun b _ ne => hdPut_other t er G' A' C' ne)

/-! ### the readers' contracts, over these forms -/
theorem zz2_c {w : World} {v : Value} {xs : List ByteArray} (h : TextIn w v xs) : Calls Try.prog 15 #[v] w fun e w' => e = .returned (.bool (fits2 xs)) ∧ Below w.heap.size w w' := by
  obtain ⟨A, c, rfl, h1, h2⟩ := h.kd
  exact (laws_zzFits2.calls _ A c xs _ w h1 h2 (fits2_f xs (xs.length + 1) (by omega))).mono fun e w' ⟨he, hd⟩ => ⟨he, hd.below⟩
theorem zz19_c {w : World} {A : Option Addr} {L : List FlagP} (h : FlagsAt w A L) (hn : L.length ≤ 9223372036854775807) (cap : Nat) (hc : L.length ≤ cap) (p q : Bool) (f : Int) : Calls Try.prog 14 #[.agg #[.slice A L.length cap, .bool p, .bool q, .int .i64 f]] w fun e w' => e = .returned (.bool (fits20 (L.map ofFlag))) ∧ Below w.heap.size w w' := by
  obtain ⟨k, hk⟩ := fits19_f (L.map ofFlag) p q f
  have hl : (L.map ofFlag).length = L.length := List.length_map _
  have h := laws_zzFits19.calls k A cap (L.map ofFlag) p q f _ w (kd_flags h hn) (by rw [hl]; exact hc) hk
  rw [hl] at h
  exact h
theorem fits14_c {w : World} {g c : Nat} {vs : List Value} {ls : List (List ByteArray)} (h : RowsIn w g vs ls) (hn : ls.length ≤ 2147483647) (hc : ls.length ≤ c) (hs : ∀ xs ∈ ls, fits2 xs = true) : Calls Try.prog 17 #[.slice (some ⟨g, 0, none⟩) ls.length c] w fun e w' => e = .returned (.bool (decide (wtBB ls ≤ 1048576))) ∧ Below w.heap.size w w' :=
  (laws_fits14.calls _ _ c ls _ w (h.kd (by omega)) hc (fits14_f ls hn (fun xs hx => fits2_iff.1 (hs xs hx)))).mono fun e w' ⟨he, hd⟩ => ⟨he, hd.below⟩
theorem list14_c {w : World} {g c : Nat} {vs : List Value} {ls : List (List ByteArray)} (h : RowsIn w g vs ls) (hn : ls.length ≤ 2147483647) (hc : ls.length ≤ c) (hb : ls.flatten.length < 8796093022208) : Calls Try.prog 27 #[.slice (some ⟨g, 0, none⟩) ls.length c] w fun e w' => ∃ v, e = .returned v ∧ TextIn w' v ls.flatten ∧ Below w.heap.size w w' :=
  (laws_list14.calls _ _ c ls _ w (h.kd (by omega)) hc (list14_f ls hn hb)).mono fun e w' ⟨v, he, hr, hb⟩ => ⟨v, he, textIn_R hr, hb⟩
theorem sameTexts_c {w : World} {v u : Value} {xs ys : List ByteArray} (h : TextIn w v xs) (k : TextIn w u ys) (hn : xs.length ≤ 9223372036854775806) : Calls Try.prog 23 #[v, u] w fun e w' => e = .returned (.bool (decide (xs = ys))) ∧ Below w.heap.size w w' := by
  obtain ⟨A, c, rfl, h1, h2⟩ := h.kd
  obtain ⟨B, d, rfl, k1, k2⟩ := k.kd
  exact (spec_SameTexts.calls _ A c xs B d ys _ w h1 h2 k1 k2 (sameTexts_f xs ys hn (xs.length + 1) (by omega))).mono fun e w' ⟨he, hd⟩ => ⟨he, hd.below⟩
theorem ofG_inj {a b : List (Nat × Txt)} (h : a.map ofG = b.map ofG) : a = b := by
  induction a generalizing b with
  | nil => cases b with
    | nil => rfl
    | cons => simp at h
  | cons x r ih =>
    cases b with
    | nil => simp at h
    | cons y t =>
      simp only [List.map_cons, List.cons.injEq] at h
      obtain ⟨h1, h2⟩ := h
      unfold ofG at h1
      simp only [S57.mk.injEq, Int.natCast_inj] at h1
      have e : x.2 = y.2 := by have := congrArg (fun s : ByteArray => s.data.toList) h1.2; simpa [mkT_list] using this
      rw [ih h2]
      congr 1
      exact Prod.ext h1.1 e
theorem sameGiven_c {w : World} {a b : Option Addr} {c d : Nat} {G H : List (Nat × Txt)} (h : RowAt w a (gCells G)) (hc : G.length ≤ c) (hm : G.length ≤ 1099511627776) (k : RowAt w b (gCells H)) (kc : H.length ≤ d) (km : H.length ≤ 1099511627776) : Calls Try.prog 34 #[.slice a G.length c, .slice b H.length d] w fun e w' => e = .returned (.bool (decide (G = H))) ∧ Below w.heap.size w w' := by
  have hl : ∀ G : List (Nat × Txt), (G.map ofG).length = G.length := fun G => List.length_map _
  obtain ⟨r, e1, e2⟩ := sameGiven_f (G.map ofG) (H.map ofG) (by rw [hl]; omega) (G.length + 1) (by rw [hl]; omega)
  have h3 := spec_SameGiven.calls _ a c (G.map ofG) b d (H.map ofG) r w (kd_given h (by omega)) (by rw [hl]; exact hc) (kd_given k (by omega)) (by rw [hl]; exact kc) e1
  rw [hl, hl] at h3
  have er : r = decide (G = H) := by
    by_cases q : G = H
    · rw [decide_eq_true q]; exact e2.2 (by rw [q])
    · rw [decide_eq_false q]
      cases hr : r with
      | false => rfl
      | true => exact absurd (ofG_inj (e2.1 hr)) q
  rw [er] at h3
  exact h3.mono fun e w' ⟨he, hd⟩ => ⟨he, hd.below⟩
theorem same_c {w : World} {s : PS} {er : Er} {n : Nat} {v u : Value} (h : HeardIs w s er n v) (k : HeardIs w s er n u) (hg : s.G.length ≤ 1099511627776) (ha : s.A.length ≤ 1099511627776) (hn : n ≤ 2147483647) : Calls Try.prog 22 #[v, u] w fun e w' => e = .returned (.bool true) ∧ Below w.heap.size w w' := by
  obtain ⟨_, _, _, rfl, ⟨a1, c1, rfl, g1, l1, _⟩, t1, ⟨b1, d1, rfl, i1, m1, _⟩⟩ := h
  obtain ⟨_, _, _, rfl, ⟨a2, c2, rfl, g2, l2, _⟩, t2, ⟨b2, d2, rfl, i2, m2, _⟩⟩ := k
  obtain ⟨A1, e1, rfl, k1, n1⟩ := t1.kd
  obtain ⟨A2, e2, rfl, k2, n2⟩ := t2.kd
  have hl : (s.G.map ofG).length = s.G.length := List.length_map _
  have hi : ((chL s.chg n).map fun (i : Nat) => (i : Int)).length = (chL s.chg n).length := List.length_map _
  have hch : (chL s.chg n).length ≤ n := by unfold chL; exact Nat.le_trans (List.length_filter_le _ _) (by simp)
  have hal : (s.A.map mkT).length = s.A.length := List.length_map _
  have h3 := spec_Same.calls _ (eNo er) (mkT (eName er)) (mkT (eShort er)) (mkT (eVal er)) (eFlag er) a1 c1 (s.G.map ofG) A1 e1 (s.A.map mkT) s.dash b1 d1 ((chL s.chg n).map fun (i : Nat) => (i : Int)) s.parsed false
    (eNo er) (mkT (eName er)) (mkT (eShort er)) (mkT (eVal er)) (eFlag er) a2 c2 (s.G.map ofG) A2 e2 (s.A.map mkT) s.dash b2 d2 ((chL s.chg n).map fun (i : Nat) => (i : Int)) s.parsed false true w
    (kd_given g1 (by omega)) (by rw [hl]; exact l1) k1 n1 (kd_ints i1 (by omega)) (by rw [hi]; exact m1) (kd_given g2 (by omega)) (by rw [hl]; exact l2) k2 n2 (kd_ints i2 (by omega)) (by rw [hi]; exact m2)
    (same_f _ _ _ _ _ _ _ _ _ _ _ (by rw [hl]; omega) (by rw [hal]; omega) (by rw [hi]; omega))
  rw [hl, hi] at h3
  exact h3
/-- A set that may be defined, as it lies in memory. -/
structure SetOK (w : World) (A : Option Addr) (S : SetP) : Prop where
  flg : FlagsAt w A S.flags
  low : LowBad w A S.flags w.heap.size
  right : Right S
  num : S.flags.length ≤ 2147483647
  nsz : ∀ i (h : i < S.flags.length), (S.flags[i].name).length ≤ 2147483647
theorem SetOK.below {w w' : World} {A : Option Addr} {S : SetP} (h : SetOK w A S) (hb : Below w.heap.size w w') : SetOK w' A S := ⟨h.flg.below hb, (h.low.below h.flg hb).mono hb.size, h.right, h.num, h.nsz⟩
theorem parse_c {w : World} {A : Option Addr} {S : SetP} (h : SetOK w A S) (cap : Nat) {v : Value} {L : List Txt} (hv : TextIn w v (L.map mkT)) (hwt : wt L ≤ 1099511627776) (hls : ∀ t ∈ L, t.length ≤ 8589934592) :
    Calls Try.prog 26 #[.agg #[.slice A S.flags.length cap, .bool S.plain, .bool S.unknown, .int .i64 S.fold], v] w fun e w' => ∃ u, e = .returned u ∧ HeardOwn w' (psOf none true (goes S none st0 L)) (goes S none st0 L).err S.flags.length u ∧ Below w.heap.size w w' := by
  obtain ⟨Ar, cr, rfl, h1, h2, h3, h4, h5⟩ := hv
  have hl : (L.map mkT).length = L.length := List.length_map _
  rw [hl] at h2
  have hp := implParse_any S h.right A cap L Ar cr w h1 h2 h3 h4 h5 hwt hls h.flg h.low (Nat.le_trans h.num (by decide)) (fun i hi => Nat.le_trans (h.nsz i hi) (by decide))
  rw [hl]
  refine hp.mono ?_
  rintro e w' ⟨GA, gc, AA, ac, CA, cc, rfl, hr, hb⟩
  exact ⟨_, rfl, ⟨GA, gc, AA, ac, CA, cc, rfl, hr.mono (Nat.zero_le _)⟩, hb⟩
end Go.Proofs.Ytgmhhdpggnmipaa.E
