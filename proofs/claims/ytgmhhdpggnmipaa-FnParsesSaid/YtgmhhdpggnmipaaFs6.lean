/- impl.made: a set of flags as it was asked for, over this seat's program. -/
import Derived.Test.YtgmhhdpggnmipaaFs5
namespace Go.Proofs.Ytgmhhdpggnmipaa.E
open Go.RowKit Go.Proofs
open Go.Maps (Keyed)
set_option linter.unusedVariables false
set_option linter.unusedSimpArgs false

/-- Flags as they lie in memory. -/
def FlagsAt (w : World) (A : Option Addr) (L : List FlagP) : Prop := ∀ i (h : i < L.length), ∃ b o v, A = some ⟨b, o, none⟩ ∧ w.cell? ⟨b, o + i * 4, none⟩ = some (.string (mkT L[i].name)) ∧ w.cell? ⟨b, o + i * 4 + 1, none⟩ = some (.string (mkT L[i].short)) ∧ w.cell? ⟨b, o + i * 4 + 2, none⟩ = some (.string (mkT L[i].noOpt)) ∧ w.cell? ⟨b, o + i * 4 + 3, none⟩ = some v ∧ Texts w v (L[i].bad.map mkT)
theorem FlagsAt.below {w w' : World} {A : Option Addr} {L : List FlagP} (h : FlagsAt w A L) (hb : Below w.heap.size w w') : FlagsAt w' A L := by
  intro i hi
  obtain ⟨b, o, v, e, h0, h1, h2, h3, h4⟩ := h i hi
  exact ⟨b, o, v, e, cell_kept hb h0, cell_kept hb h1, cell_kept hb h2, cell_kept hb h3, h4.below hb⟩

def ptrsL (FL : List Nat) : List Value := FL.map fun b => .pointer (some ⟨b, 0, none⟩)
theorem ptrsL_snoc (FL : List Nat) (p : Nat) : ptrsL (FL ++ [p]) = ptrsL FL ++ [.pointer (some ⟨p, 0, none⟩)] := by simp [ptrsL]
def nmF (S : SetP) (FL : List Nat) : Txt → Option Nat := fun t => ((S.flags.take FL.length).findIdx? fun f => decide (foldT S.fold f.name = t)).map fun i => FL.getD i 0
def shFs (S : SetP) (FL : List Nat) : UInt8 → Option Nat := fun c => ((S.flags.take FL.length).findIdx? fun f => decide (f.short = [c])).map fun i => FL.getD i 0
theorem getD_snoc_lt (FL : List Nat) (p i : Nat) (h : i < FL.length) : (FL ++ [p]).getD i 0 = FL.getD i 0 := by simp [List.getD, List.getElem?_append_left h]
theorem getD_snoc_eq (FL : List Nat) (p : Nat) : (FL ++ [p]).getD FL.length 0 = p := by simp [List.getD]
theorem findIdx_lt {α : Type} {p : α → Bool} {l : List α} {i : Nat} (h : l.findIdx? p = some i) : i < l.length := by
  obtain ⟨hi, _⟩ := List.findIdx?_eq_some_iff_getElem.1 h
  exact hi
theorem look_snoc {α : Type} (q : α → Bool) (l : List α) (x : α) (FL : List Nat) (p : Nat) (hl : l.length = FL.length) (hn : q x = true → l.findIdx? q = none) :
    ((l ++ [x]).findIdx? q).map (fun i => (FL ++ [p]).getD i 0) = if q x = true then some p else (l.findIdx? q).map (fun i => FL.getD i 0) := by
  rw [List.findIdx?_append]
  by_cases hx : q x = true
  · rw [if_pos hx, hn hx]
    simp [List.findIdx?_cons, hx, hl]
  · rw [if_neg hx]
    cases h : l.findIdx? q with
    | none => simp [List.findIdx?_cons, hx]
    | some i =>
      have := findIdx_lt h
      simp only [Option.some_or, Option.map_some]
      rw [getD_snoc_lt _ _ _ (by omega)]
theorem nmF_none {S : SetP} (hR : Right S) (FL : List Nat) (hk : FL.length < S.flags.length) : nmF S FL (foldT S.fold S.flags[FL.length].name) = none := by
  unfold nmF
  rw [Option.map_eq_none_iff, List.findIdx?_eq_none_iff]
  intro f hf
  obtain ⟨i, hi, rfl⟩ := List.getElem_of_mem hf
  have hi2 : i < FL.length := by simp at hi; omega
  rw [List.getElem_take]
  simp only [decide_eq_false_iff_not]
  intro e
  have := hR.dist i FL.length (by omega) hk e
  omega
theorem shFs_none {S : SetP} (hR : Right S) (FL : List Nat) (hk : FL.length < S.flags.length) (c : UInt8) (hc : S.flags[FL.length].short = [c]) : shFs S FL c = none := by
  unfold shFs
  rw [Option.map_eq_none_iff, List.findIdx?_eq_none_iff]
  intro f hf
  obtain ⟨i, hi, rfl⟩ := List.getElem_of_mem hf
  have hi2 : i < FL.length := by simp at hi; omega
  rw [List.getElem_take]
  simp only [decide_eq_false_iff_not]
  intro e
  have := hR.sdist i FL.length (by omega) hk (by rw [e]; simp) (by rw [e, hc])
  omega
theorem take_succ' {α : Type} (l : List α) (k : Nat) (h : k < l.length) : l.take (k + 1) = l.take k ++ [l[k]] := by rw [List.take_succ_eq_append_getElem h]
theorem nmF_snoc {S : SetP} (hR : Right S) (FL : List Nat) (p : Nat) (hk : FL.length < S.flags.length) : nmF S (FL ++ [p]) = fun z => if z = foldT S.fold S.flags[FL.length].name then some p else nmF S FL z := by
  funext z
  have hl : (FL ++ [p]).length = FL.length + 1 := by simp
  have hn := nmF_none hR FL hk
  unfold nmF at hn ⊢
  rw [hl, take_succ' _ _ hk, look_snoc _ _ _ _ _ (by simp; omega) (fun e => by
    have e : foldT S.fold S.flags[FL.length].name = z := by simpa using e
    rw [← e]; simpa using hn)]
  by_cases e : z = foldT S.fold S.flags[FL.length].name
  · rw [if_pos e, if_pos (by simp [e])]
  · rw [if_neg e, if_neg (by simpa using fun h => e h.symm)]
theorem shFs_snoc {S : SetP} (hR : Right S) (FL : List Nat) (p : Nat) (hk : FL.length < S.flags.length) : shFs S (FL ++ [p]) = shF (mkT S.flags[FL.length].short) p (shFs S FL) := by
  funext z
  have hl : (FL ++ [p]).length = FL.length + 1 := by simp
  have hn := fun c h => shFs_none hR FL hk c h
  unfold shF
  rw [mkT_list]
  unfold shFs at hn ⊢
  rw [hl, take_succ' _ _ hk, look_snoc _ _ _ _ _ (by simp; omega) (fun e => by
    have e : S.flags[FL.length].short = [z] := by simpa using e
    simpa using hn z e)]
  by_cases e : S.flags[FL.length].short = [z]
  · rw [if_pos e, if_pos (by simp [e])]
  · rw [if_neg e, if_neg (by simpa using e)]

/-- Where the set's own translation comes from. -/
def NormSrc (w : World) (f sc : Nat) (nf : Value) : Prop := (f = 0 ∧ nf = .nilFunc) ∨ ((f = 1 ∨ f = 2 ∨ f = 3) ∧ nf = .func (.func 73) #[] #[.pointer (some ⟨sc, 0, none⟩)] ∧ ∃ cs, w.heap[sc]? = some (.cells cs 24 (0, 0)) ∧ cs[3]? = some (.int .i64 f))
theorem NormSrc.at {w : World} {f sc F : Nat} {nf : Value} (h : NormSrc w f sc nf) (hc : w.cell? ⟨F, 16, none⟩ = some nf) : NormAt w F f := by
  rcases h with ⟨e, rfl⟩ | ⟨e, rfl, cs, h1, h2⟩
  · exact .inl ⟨e, hc⟩
  · exact .inr ⟨e, sc, hc, (cell_blk h1 3).trans h2⟩
theorem NormSrc.kept {w w' : World} {f sc : Nat} {nf : Value} (h : NormSrc w f sc nf) (hb : ∀ cs fr, w.heap[sc]? = some (.cells cs 24 fr) → w'.heap[sc]? = w.heap[sc]?) : NormSrc w' f sc nf := by
  rcases h with h | ⟨e, e2, cs, h1, h2⟩
  · exact .inl h
  · exact .inr ⟨e, e2, cs, (hb _ _ h1).trans h1, h2⟩

def ownCells (i : Nat) (v : Value) (Wb : Nat) : Array Value := #[.int .i64 i, v, .pointer (some ⟨Wb, 2, none⟩)]
/-- A set whose first flags are defined. -/
structure Made (w : World) (B : Nat) (S : SetP) (F Wb sc : Nat) (FL OW : List Nat) (orf : Value) (fmo smo : Option Nat) (nf : Value) : Prop where
  fs : ∃ n1 n2, FsM w B F (fsCells false false (.map none) (.slice none 0 0) (.map fmo) orf (.map smo) (.slice none 0 0) (-1) true nf) fmo smo n1 n2 (nmF S FL) (shFs S FL) orf FL.length (ptrsL FL) ∧ n1 ≤ FL.length ∧ n2 ≤ FL.length
  len : FL.length ≤ S.flags.length
  olen : OW.length = FL.length
  flag : ∀ i (h : i < S.flags.length), i < FL.length → w.heap[FL.getD i 0]? = some (.cells (flCells (mkT (foldT S.fold S.flags[i].name)) (mkT S.flags[i].short) (OW.getD i 0) false (mkT S.flags[i].noOpt)) 124 (0, 0))
  own : ∀ i (h : i < S.flags.length), i < FL.length → ∃ v, w.heap[OW.getD i 0]? = some (.cells (ownCells i v Wb) 119 (0, 0)) ∧ Texts w v (S.flags[i].bad.map mkT) ∧ ∀ A n c, v = .slice (some A) n c → 0 < n → A.block < B
  inj : FL.Nodup
  norm : NormSrc w S.fold sc nf
  low : B ≤ F ∧ (∀ b ∈ FL, B ≤ b) ∧ (∀ b ∈ OW, B ≤ b) ∧ (∀ b, fmo = some b → B ≤ b) ∧ (∀ b, smo = some b → B ≤ b)
theorem getD_mem {l : List Nat} {i : Nat} (h : i < l.length) : l.getD i 0 ∈ l := by
  rw [List.getD_eq_getElem?_getD, List.getElem?_eq_getElem h]; exact List.getElem_mem h
/-- The texts that a flag refuses lie where they lay. -/
theorem texts_blk {w w' : World} {B : Nat} {v : Value} {xs : List ByteArray} (h : Texts w v xs) (hb : ∀ b, b < B → w'.heap[b]? = w.heap[b]?) (hB : ∀ A n c, v = .slice (some A) n c → 0 < n → A.block < B) : Texts w' v xs := by
  obtain ⟨A, cap, rfl, hs, r⟩ := h
  refine ⟨A, cap, rfl, ?_, r⟩
  intro i hi
  obtain ⟨b, o, e, hc⟩ := hs i hi
  subst e
  refine ⟨b, o, rfl, ?_⟩
  rw [World.cell?_of_block (hb b (hB _ _ _ rfl (by omega)))]; exact hc
theorem Made.kept {w w' : World} {B : Nat} {S : SetP} {F Wb sc : Nat} {FL OW : List Nat} {orf : Value} {fmo smo : Option Nat} {nf : Value} {X : Nat → Prop} (h : Made w B S F Wb sc FL OW orf fmo smo nf) (hBs : B ≤ w.heap.size) (ch : Ch w w' X)
    (hx : ∀ b, b < w.heap.size → X b → B ≤ b ∧ orf.ownBlock ≠ some b ∧ ∃ cs T fr, w.heap[b]? = some (.cells cs T fr) ∧ (T = 90 ∨ T = 104)) : Made w' B S F Wb sc FL OW orf fmo smo nf := by
  have key : ∀ {b : Nat} {cs : Array Value} {T : TypeId} {fr : Nat × Nat}, w.heap[b]? = some (.cells cs T fr) → T ≠ 90 → T ≠ 104 → w'.heap[b]? = some (.cells cs T fr) := by
    intro b cs T fr hb h1 h2
    rw [ch.block b (lt_of_block hb) (fun hX => ?_)]
    · exact hb
    · obtain ⟨_, _, cs', T', fr', e, q⟩ := hx b (lt_of_block hb) hX
      rw [hb] at e
      simp only [Option.some.injEq, Obj.cells.injEq] at e
      obtain ⟨_, rfl, _⟩ := e
      rcases q with q | q
      · exact h1 q
      · exact h2 q
  have kmap : ∀ {k : TypeId} {κ : Type} {en : κ → Lit} {mo : Option Nat} {n : Nat} {f : κ → Option Nat}, PMap w Try.prog k en mo n f → PMap w' Try.prog k en mo n f := by
    intro k κ en mo n f hm
    refine hm.kept fun b e => ?_
    subst e
    obtain ⟨es, c, e⟩ := hm.is
    rw [ch.block b hm.lt (fun hX => ?_)]
    obtain ⟨_, _, cs', T', fr', e2, _⟩ := hx b hm.lt hX
    rw [e] at e2; cases e2
  have klow : ∀ b, b < B → w'.heap[b]? = w.heap[b]? := fun b hb => ch.block b (by omega) (fun hX => by have := (hx b (by omega) hX).1; omega)
  obtain ⟨n1, n2, ⟨f0, f1, f2, f3, f4⟩, f5, f6⟩ := h.fs
  refine ⟨⟨n1, n2, ⟨key f0 (by decide) (by decide), kmap f1, kmap f2, own_of_blk f3 (fun g hg => ch.block g (f3.lt g hg).2 (fun hX => (hx g (f3.lt g hg).2 hX).2.1 hg)), f4⟩, f5, f6⟩, h.len, h.olen, ?_, ?_, h.inj, ?_, h.low⟩
  · intro i hi hk
    exact key (h.flag i hi hk) (by decide) (by decide)
  · intro i hi hk
    obtain ⟨v, e1, e2, e3⟩ := h.own i hi hk
    exact ⟨v, key e1 (by decide) (by decide), texts_blk e2 klow e3, e3⟩
  · refine h.norm.kept fun cs fr e => ?_
    rw [key e (by decide) (by decide), e]
theorem Made.below {w w' : World} {B : Nat} {S : SetP} {F Wb sc : Nat} {FL OW : List Nat} {orf : Value} {fmo smo : Option Nat} {nf : Value} (h : Made w B S F Wb sc FL OW orf fmo smo nf) (hBs : B ≤ w.heap.size) (hb : Below w.heap.size w w') : Made w' B S F Wb sc FL OW orf fmo smo nf :=
  h.kept hBs (Ch.of_below hb (fun _ => False)) (fun b _ hf => hf.elim)

/-- One more flag. -/
theorem Made.step {w w2 : World} {B : Nat} {S : SetP} {F Wb sc : Nat} {FL OW : List Nat} {orf : Value} {fmo smo : Option Nat} {nf : Value} (h : Made w B S F Wb sc FL OW orf fmo smo nf) (hR : Right S) (hBs : B ≤ w.heap.size) (hk : FL.length < S.flags.length)
    {ow : Nat} {v : Value} (hown : w.heap[ow]? = some (.cells (ownCells FL.length v Wb) 119 (0, 0))) (how : B ≤ ow) (htx : Texts w v (S.flags[FL.length].bad.map mkT)) (hvB : ∀ A n c, v = .slice (some A) n c → 0 < n → A.block < B)
    {fmo' smo' : Option Nat} {orf' : Value} {n1 n2 : Nat}
    (hb : Bun w2 B F w.heap.size (fsCells false false (.map none) (.slice none 0 0) (.map fmo') orf' (.map smo') (.slice none 0 0) (-1) true nf) (flCells (mkT (foldT S.fold S.flags[FL.length].name)) (mkT S.flags[FL.length].short) ow false ⟨#[]⟩) fmo' smo' n1 n2
      (fun z => if z = foldT S.fold S.flags[FL.length].name then some w.heap.size else nmF S FL z) (shF (mkT S.flags[FL.length].short) w.heap.size (shFs S FL)) orf' (FL.length + 1) (ptrsL FL ++ [.pointer (some ⟨w.heap.size, 0, none⟩)]))
    (hn1 : n1 ≤ FL.length + 1) (hn2 : n2 ≤ FL.length + 1) (hf : ∀ b, fmo' = some b → fmo = some b ∨ w.heap.size ≤ b) (hs : ∀ b, smo' = some b → smo = some b ∨ w.heap.size ≤ b) (hch : Ch w w2 (AddX F w.heap.size fmo smo orf)) :
    Made (w2.setCell ⟨w.heap.size, 6, none⟩ (.string (mkT S.flags[FL.length].noOpt))) B S F Wb sc (FL ++ [w.heap.size]) (OW ++ [ow]) orf' fmo' smo' nf := by
  obtain ⟨m1, m2, hfs, _, _⟩ := h.fs
  have key : ∀ {b : Nat} {cs : Array Value} {T : TypeId} {fr : Nat × Nat}, w.heap[b]? = some (.cells cs T fr) → T ≠ 131 → T ≠ 104 → (w2.setCell ⟨w.heap.size, 6, none⟩ (.string (mkT S.flags[FL.length].noOpt))).heap[b]? = some (.cells cs T fr) := by
    intro b cs T fr hb1 h1 h2
    have hlt := lt_of_block hb1
    rw [blk_other (by show b ≠ w.heap.size; omega), hch.block b hlt ?_]
    · exact hb1
    · rintro (rfl | rfl | e | e | e)
      · rw [hfs.hF] at hb1; simp only [Option.some.injEq, Obj.cells.injEq] at hb1; exact h1 hb1.2.1.symm
      · omega
      · subst e; exact map_ne hfs.h1 hb1 rfl
      · subst e; exact map_ne hfs.h2 hb1 rfl
      · obtain ⟨cur, hc⟩ := own_is hfs.ho e
        rw [hc] at hb1; simp only [Option.some.injEq, Obj.cells.injEq] at hb1; exact h2 hb1.2.1.symm
  have klow : ∀ b, b < B → (w2.setCell ⟨w.heap.size, 6, none⟩ (.string (mkT S.flags[FL.length].noOpt))).heap[b]? = w.heap[b]? := by
    intro b hb1
    rw [blk_other (by show b ≠ w.heap.size; omega), hch.block b (by omega) ?_]
    rintro (rfl | rfl | e | e | e)
    · have := h.low.1; omega
    · omega
    · have := h.low.2.2.2.1 b e; omega
    · have := h.low.2.2.2.2 b e; omega
    · have := (hfs.ho.lt b e).1; omega
  have hb6 := hb.setP 6 (.string (mkT S.flags[FL.length].noOpt))
  have hl : (FL ++ [w.heap.size]).length = FL.length + 1 := by simp
  have ge : (OW ++ [ow]).getD FL.length 0 = ow := by have := getD_snoc_eq OW ow; rwa [h.olen] at this
  have fl0 : ∀ i, i < FL.length → FL.getD i 0 < w.heap.size := fun i hi => lt_of_block (h.flag i (by omega) hi)
  refine ⟨⟨n1, n2, ?_, by omega, by omega⟩, by omega, by simp [h.olen], ?_, ?_, ?_, ?_, ?_⟩
  · have := hb6.fsm
    rw [nmF_snoc hR FL _ hk, shFs_snoc hR FL _ hk, ptrsL_snoc, hl]
    exact this
  · intro i hi hi2
    by_cases e : i = FL.length
    · subst e
      rw [getD_snoc_eq, ge]
      exact hb6.hp
    · have hlt : i < FL.length := by omega
      rw [getD_snoc_lt _ _ _ hlt, getD_snoc_lt _ _ _ (by rw [h.olen]; exact hlt)]
      exact key (h.flag i hi hlt) (by decide) (by decide)
  · intro i hi hi2
    by_cases e : i = FL.length
    · subst e
      rw [ge]
      exact ⟨v, key hown (by decide) (by decide), texts_blk htx klow hvB, hvB⟩
    · have hlt : i < FL.length := by omega
      rw [getD_snoc_lt _ _ _ (by rw [h.olen]; exact hlt)]
      obtain ⟨v', e1, e2, e3⟩ := h.own i hi hlt
      exact ⟨v', key e1 (by decide) (by decide), texts_blk e2 klow e3, e3⟩
  · rw [List.nodup_append]
    refine ⟨h.inj, by simp, ?_⟩
    intro a ha b hb1
    simp only [List.mem_singleton] at hb1
    subst hb1
    obtain ⟨i, hi, rfl⟩ := List.getElem_of_mem ha
    have := fl0 i hi
    rw [List.getD_eq_getElem?_getD, List.getElem?_eq_getElem hi] at this
    simp only [Option.getD_some] at this
    omega
  · refine h.norm.kept fun cs fr e => ?_
    rw [key e (by decide) (by decide), e]
  · obtain ⟨l1, l2, l3, l4, l5⟩ := h.low
    refine ⟨l1, ?_, ?_, ?_, ?_⟩
    · intro b hb1
      rcases List.mem_append.1 hb1 with h1 | h1
      · exact l2 b h1
      · simp only [List.mem_singleton] at h1; omega
    · intro b hb1
      rcases List.mem_append.1 hb1 with h1 | h1
      · exact l3 b h1
      · simp only [List.mem_singleton] at h1; omega
    · intro b e
      rcases hf b e with q | q
      · exact l4 b q
      · omega
    · intro b e
      rcases hs b e with q | q
      · exact l5 b q
      · omega
end Go.Proofs.Ytgmhhdpggnmipaa.E
