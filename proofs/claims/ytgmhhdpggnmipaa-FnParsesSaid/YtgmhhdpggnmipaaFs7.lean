/- impl.made: a set of flags as it was asked for, walked over this seat's program. Written by gen_fs7.py. -/
import Derived.Test.YtgmhhdpggnmipaaFs6
import Derived.Deep.RegionHeld3
namespace Go.Proofs.Ytgmhhdpggnmipaa.E
open Go.RowKit Go.Proofs
open Go.Maps (Keyed)
set_option linter.unusedVariables false
set_option linter.unusedSimpArgs false

/-- How it stands ahead of a round of made. -/
structure MadeR (w wr : World) (S : SetP) (A : Option Addr) (cap F Wb sc : Nat) (FL OW : List Nat) (flv orf : Value) (fmo smo : Option Nat) (nf : Value) : Prop where
  made : Made wr w.heap.size S F Wb sc FL OW orf fmo smo nf
  wh : wr.heap[Wb]? = some (.cells #[.pointer (some ⟨F, 0, none⟩), flv, .slice none 0 0] 90 (0, 0))
  flr : wr.ownsRow w.heap.size 104 1 flv FL.length (ptrsL FL)
  nfo : ∀ g, flv.ownBlock = some g → orf.ownBlock ≠ some g
  scb : wr.heap[sc]? = some (.cells #[.slice A S.flags.length cap, .bool S.plain, .bool S.unknown, .int .i64 S.fold] 24 (0, 0))
  bel : Below w.heap.size w wr
  ge : w.heap.size ≤ Wb ∧ w.heap.size ≤ sc

/-- What stays as it is while arguments are parsed. -/
structure PC where
  S : SetP
  B : Nat
  B1 : Nat
  F : Nat
  Wb : Nat
  sc : Nat
  FL : List Nat
  OW : List Nat
  nf : Value
  K : Nat → Prop
/-- What turns: the maps and rows of the set. -/
structure PV where
  act : Option Nat
  fmo : Option Nat
  smo : Option Nat
  ord : Value
  orf : Value
  av : Value
  flv : Value
  said : Value
  na : Nat
  no : Nat
/-- What it comes to. -/
structure PS where
  parsed : Bool
  G : List (Nat × Txt)
  A : List Txt
  dash : Int
  chg : Nat → Bool
def gCells (G : List (Nat × Txt)) : List Value := (G.map fun g => [Value.int .i64 (g.1 : Int), .string (mkT g.2)]).flatten
def aCells (A : List Txt) : List Value := A.map fun t => Value.string (mkT t)
/-- A set of flags while arguments are parsed. -/
structure Pm (w : World) (C : PC) (V : PV) (s : PS) : Prop where
  hF : w.heap[C.F]? = some (.cells (fsCells C.S.unknown s.parsed (.map V.act) V.ord (.map V.fmo) V.orf (.map V.smo) V.av s.dash (!C.S.plain) C.nf) 131 (0, 0))
  hW : w.heap[C.Wb]? = some (.cells #[.pointer (some ⟨C.F, 0, none⟩), V.flv, V.said] 90 (0, 0))
  fm : ∃ n, PMap w Try.prog 113 enT V.fmo n (nmF C.S C.FL)
  sm : ∃ n, PMap w Try.prog 5 enB V.smo n (shFs C.S C.FL)
  am : ∃ f, PMap w Try.prog 113 enT V.act V.na f
  odr : ∃ xs, w.ownsRow C.B1 104 1 V.ord V.no xs
  cnt : V.na ≤ s.G.length ∧ V.no ≤ s.G.length
  flr : w.ownsRow C.B 104 1 V.flv C.FL.length (ptrsL C.FL)
  avr : w.ownsRow C.B1 9 1 V.av s.A.length (aCells s.A)
  sdr : w.ownsRow C.B1 57 2 V.said s.G.length (gCells s.G)
  flag : ∀ i (h : i < C.S.flags.length), w.heap[C.FL.getD i 0]? = some (.cells (flCells (mkT (foldT C.S.fold C.S.flags[i].name)) (mkT C.S.flags[i].short) (C.OW.getD i 0) (s.chg i) (mkT C.S.flags[i].noOpt)) 124 (0, 0))
  own : ∀ i (h : i < C.S.flags.length), ∃ v, w.heap[C.OW.getD i 0]? = some (.cells (ownCells i v C.Wb) 119 (0, 0)) ∧ Texts w v (C.S.flags[i].bad.map mkT) ∧ ∀ A n c, v = .slice (some A) n c → 0 < n → A.block < C.B
  inj : C.FL.Nodup
  len : C.FL.length = C.S.flags.length
  norm : NormSrc w C.S.fold C.sc C.nf
  low : C.B ≤ C.F ∧ C.F < C.B1 ∧ C.B ≤ C.Wb ∧ C.Wb < C.B1 ∧ (∀ b ∈ C.FL, C.B ≤ b ∧ b < C.B1) ∧ C.B ≤ C.B1 ∧ C.B1 ≤ w.heap.size
  lowm : (∀ b, V.fmo = some b → b < C.B1) ∧ (∀ b, V.smo = some b → b < C.B1) ∧ (∀ b, V.flv.ownBlock = some b → b < C.B1) ∧ (∀ b, V.act = some b → C.B1 ≤ b)
  kp : ∀ b, C.K b → (∃ cs T fr, w.heap[b]? = some (.cells cs T fr) ∧ (T = 9 ∨ T = 57)) ∧ V.av.ownBlock ≠ some b ∧ V.said.ownBlock ≠ some b
theorem Pm.below {w w' : World} {C : PC} {V : PV} {s : PS} (h : Pm w C V s) (hb : Below w.heap.size w w') : Pm w' C V s := by
  obtain ⟨n1, hm1⟩ := h.fm
  obtain ⟨n2, hm2⟩ := h.sm
  obtain ⟨f3, hm3⟩ := h.am
  obtain ⟨xs4, ho4⟩ := h.odr
  exact ⟨block_kept h.hF hb, block_kept h.hW hb, ⟨n1, hm1.below hb⟩, ⟨n2, hm2.below hb⟩, ⟨f3, hm3.below hb⟩, ⟨xs4, own_kept ho4 hb⟩, h.cnt, own_kept h.flr hb, own_kept h.avr hb, own_kept h.sdr hb,
    fun i hi => block_kept (h.flag i hi) hb, fun i hi => by obtain ⟨v, e1, e2, e3⟩ := h.own i hi; exact ⟨v, block_kept e1 hb, e2.below hb, e3⟩, h.inj, h.len, h.norm.kept (fun cs fr e => by rw [block_kept e hb, e]),
    ⟨h.low.1, h.low.2.1, h.low.2.2.1, h.low.2.2.2.1, h.low.2.2.2.2.1, h.low.2.2.2.2.2.1, Nat.le_trans h.low.2.2.2.2.2.2 hb.size⟩, h.lowm, fun b hk => by obtain ⟨⟨cs, T, fr, e, hT⟩, q⟩ := h.kp b hk; exact ⟨⟨cs, T, fr, block_kept e hb, hT⟩, q⟩⟩
def s0 : PS := ⟨false, [], [], -1, fun _ => false⟩
/-- What made leaves. -/
def MadeEnd (S : SetP) (w : World) (e : Ending) (w' : World) : Prop :=
  ∃ C V, C.S = S ∧ C.B = w.heap.size ∧ e = .returned (.pointer (some ⟨C.Wb, 0, none⟩)) ∧ Pm w' C V s0 ∧ Below w.heap.size w w'
theorem MadeR.done {w wr : World} {S : SetP} {A : Option Addr} {cap F Wb sc : Nat} {FL OW : List Nat} {flv orf : Value} {fmo smo : Option Nat} {nf : Value} (h : MadeR w wr S A cap F Wb sc FL OW flv orf fmo smo nf) (hl : FL.length = S.flags.length) :
    MadeEnd S w (.returned (.pointer (some ⟨Wb, 0, none⟩))) ((wr.setCell ⟨F, 15, none⟩ (.bool (!S.plain))).setCell ⟨F, 1, none⟩ (.bool S.unknown)) := by
  obtain ⟨n1, n2, hfs, _, _⟩ := h.made.fs
  have hsz : ((wr.setCell ⟨F, 15, none⟩ (.bool (!S.plain))).setCell ⟨F, 1, none⟩ (.bool S.unknown)).heap.size = wr.heap.size := by simp
  have ob : ∀ {b : Nat}, b ≠ F → ((wr.setCell ⟨F, 15, none⟩ (.bool (!S.plain))).setCell ⟨F, 1, none⟩ (.bool S.unknown)).heap[b]? = wr.heap[b]? := fun h => (blk_other h).trans (blk_other h)
  have nF : ∀ {b : Nat} {cs : Array Value} {T : TypeId} {fr : Nat × Nat}, wr.heap[b]? = some (.cells cs T fr) → T ≠ 131 → b ≠ F := fun hb ht => blk_ne hb hfs.hF (by simp only [ne_eq, Obj.cells.injEq, not_and]; intro _ e; exact absurd e ht)
  have hlow := h.made.low
  have hbs := h.bel.size
  have lF := lt_of_block hfs.hF
  refine ⟨⟨S, w.heap.size, wr.heap.size, F, Wb, sc, FL, OW, nf, fun _ => False⟩, ⟨none, fmo, smo, .slice none 0 0, orf, .slice none 0 0, flv, .slice none 0 0, 0, 0⟩, rfl, rfl, rfl, ?_, (h.bel.setCell hlow.1 _).setCell hlow.1 _⟩
  refine ⟨?_, ?_, ⟨n1, hfs.h1.kept fun b e => ob (by subst e; exact map_ne hfs.h1 hfs.hF)⟩, ⟨n2, hfs.h2.kept fun b e => ob (by subst e; exact map_ne hfs.h2 hfs.hF)⟩, ⟨_, PMap.nil _ _ _ _ _⟩, ⟨[], World.ownsRow_nil _ _ _ _⟩, ⟨Nat.le_refl _, Nat.le_refl _⟩, ?_, World.ownsRow_nil _ _ _ _, World.ownsRow_nil _ _ _ _, ?_, ?_, h.made.inj, hl, ?_, ?_, ?_, fun b hk => hk.elim⟩
  · have := blk_set (blk_set hfs.hF 15 (.bool (!S.plain))) 1 (.bool S.unknown)
    exact this
  · exact (ob (nF h.wh (by decide))).trans h.wh
  · refine own_of_blk h.flr fun g hg => ob ?_
    obtain ⟨cur, hc⟩ := own_is h.flr hg
    exact nF hc (by decide)
  · intro i hi
    have hb := h.made.flag i hi (by rw [hl]; exact hi)
    exact (ob (nF hb (by decide))).trans hb
  · intro i hi
    obtain ⟨v, e1, e2, e3⟩ := h.made.own i hi (by rw [hl]; exact hi)
    exact ⟨v, (ob (nF e1 (by decide))).trans e1, texts_blk e2 (fun b hb => ob (by have := hlow.1; omega)) e3, e3⟩
  · refine h.made.norm.kept fun cs fr e => ?_
    rw [ob (nF e (by decide))]
  · refine ⟨hlow.1, lF, h.ge.1, lt_of_block h.wh, ?_, hbs, by rw [hsz]; exact Nat.le_refl _⟩
    intro b hb
    obtain ⟨i, hi, rfl⟩ := List.getElem_of_mem hb
    refine ⟨hlow.2.1 _ (List.getElem_mem hi), ?_⟩
    have := lt_of_block (h.made.flag i (by rw [← hl]; exact hi) hi)
    rw [List.getD_eq_getElem?_getD, List.getElem?_eq_getElem hi] at this
    exact this
  · refine ⟨fun b e => ?_, fun b e => ?_, fun b e => (h.flr.lt b e).2, fun b e => by cases e⟩
    · subst e; exact hfs.h1.lt
    · subst e; exact hfs.h2.lt
theorem MadeEnd.below {S : SetP} {w w1 w2 : World} {e : Ending} (h : MadeEnd S w e w1) (hb : Below w1.heap.size w1 w2) : MadeEnd S w e w2 := by
  obtain ⟨C, V, h1, h2, h3, h4, h5⟩ := h
  exact ⟨C, V, h1, h2, h3, h4.below hb, below_step h5 hb⟩
/-- The addresses of what a set refuses lie below. -/
def LowBad (w : World) (A : Option Addr) (L : List FlagP) (B : Nat) : Prop := ∀ i (h : i < L.length) b o v, A = some ⟨b, o, none⟩ → w.cell? ⟨b, o + i * 4 + 3, none⟩ = some v → ∀ A' n c, v = .slice (some A') n c → 0 < n → A'.block < B

/-- A round's flag is defined. -/
theorem MadeR.var {w wr W w2 : World} {S : SetP} {A : Option Addr} {cap F Wb sc : Nat} {FL OW : List Nat} {flv orf : Value} {fmo smo : Option Nat} {nf : Value} (h : MadeR w wr S A cap F Wb sc FL OW flv orf fmo smo nf) (hR : Right S) (hk : FL.length < S.flags.length)
    (hW : Below wr.heap.size wr W) {ow : Nat} {v : Value} (hown : W.heap[ow]? = some (.cells (ownCells FL.length v Wb) 119 (0, 0))) (how : wr.heap.size ≤ ow) (htx : Texts w v (S.flags[FL.length].bad.map mkT)) (hvB : ∀ A n c, v = .slice (some A) n c → 0 < n → A.block < w.heap.size)
    {fmo' smo' : Option Nat} {orf' : Value} {n1 n2 : Nat}
    (hb : Bun w2 w.heap.size F W.heap.size (fsCells false false (.map none) (.slice none 0 0) (.map fmo') orf' (.map smo') (.slice none 0 0) (-1) true nf) (flCells (mkT (foldT S.fold S.flags[FL.length].name)) (mkT S.flags[FL.length].short) ow false ⟨#[]⟩) fmo' smo' n1 n2
      (fun z => if z = foldT S.fold S.flags[FL.length].name then some W.heap.size else nmF S FL z) (shF (mkT S.flags[FL.length].short) W.heap.size (shFs S FL)) orf' (FL.length + 1) (ptrsL FL ++ [.pointer (some ⟨W.heap.size, 0, none⟩)]))
    (hn1 : n1 ≤ FL.length + 1) (hn2 : n2 ≤ FL.length + 1) (hf : ∀ b, fmo' = some b → fmo = some b ∨ W.heap.size ≤ b) (hs : ∀ b, smo' = some b → smo = some b ∨ W.heap.size ≤ b) (hg : ∀ g, orf'.ownBlock = some g → orf.ownBlock = some g ∨ W.heap.size ≤ g) (hch : Ch W w2 (AddX F W.heap.size fmo smo orf)) :
    Made (w2.setCell ⟨W.heap.size, 6, none⟩ (.string (mkT S.flags[FL.length].noOpt))) w.heap.size S F Wb sc (FL ++ [W.heap.size]) (OW ++ [ow]) orf' fmo' smo' nf ∧
    (w2.setCell ⟨W.heap.size, 6, none⟩ (.string (mkT S.flags[FL.length].noOpt))).heap[Wb]? = some (.cells #[.pointer (some ⟨F, 0, none⟩), flv, .slice none 0 0] 90 (0, 0)) ∧
    (w2.setCell ⟨W.heap.size, 6, none⟩ (.string (mkT S.flags[FL.length].noOpt))).ownsRow w.heap.size 104 1 flv FL.length (ptrsL FL) ∧
    (∀ g, flv.ownBlock = some g → orf'.ownBlock ≠ some g) ∧
    (w2.setCell ⟨W.heap.size, 6, none⟩ (.string (mkT S.flags[FL.length].noOpt))).heap[sc]? = some (.cells #[.slice A S.flags.length cap, .bool S.plain, .bool S.unknown, .int .i64 S.fold] 24 (0, 0)) ∧
    Below w.heap.size w (w2.setCell ⟨W.heap.size, 6, none⟩ (.string (mkT S.flags[FL.length].noOpt))) ∧ W.heap.size < w2.heap.size := by
  have hbs := h.bel.size
  have hWs := hW.size
  have hm := h.made.below hbs hW
  obtain ⟨m1, m2, hfs, _, _⟩ := hm.fs
  have ob : ∀ {b : Nat}, b < W.heap.size → ¬ AddX F W.heap.size fmo smo orf b → (w2.setCell ⟨W.heap.size, 6, none⟩ (.string (mkT S.flags[FL.length].noOpt))).heap[b]? = W.heap[b]? := fun {b} hb hx => (blk_other (by show b ≠ W.heap.size; omega)).trans (hch.block b hb hx)
  have nX : ∀ {b : Nat} {cs : Array Value} {T : TypeId} {fr : Nat × Nat}, W.heap[b]? = some (.cells cs T fr) → T ≠ 131 → (T ≠ 104 ∨ orf.ownBlock ≠ some b) → ¬ AddX F W.heap.size fmo smo orf b := by
    intro b cs T fr hb1 h1 h2
    rintro (rfl | rfl | e | e | e)
    · rw [hfs.hF] at hb1; simp only [Option.some.injEq, Obj.cells.injEq] at hb1; exact h1 hb1.2.1.symm
    · exact absurd (lt_of_block hb1) (Nat.lt_irrefl _)
    · subst e; exact map_ne hfs.h1 hb1 rfl
    · subst e; exact map_ne hfs.h2 hb1 rfl
    · rcases h2 with h2 | h2
      · obtain ⟨cur, hc⟩ := own_is hfs.ho e
        rw [hc] at hb1; simp only [Option.some.injEq, Obj.cells.injEq] at hb1; exact h2 hb1.2.1.symm
      · exact h2 e
  have whW := block_kept h.wh hW
  have scW := block_kept h.scb hW
  have flW := own_kept h.flr hW
  have hbelW : Below w.heap.size w W := below_step h.bel hW
  refine ⟨hm.step hR (by omega) hk hown (by omega) (htx.below hbelW) hvB hb hn1 hn2 hf hs hch, ?_, ?_, ?_, ?_, ?_, lt_of_block hb.hp⟩
  · exact (ob (lt_of_block whW) (nX whW (by decide) (.inl (by decide)))).trans whW
  · refine own_of_blk flW fun g hg2 => ?_
    obtain ⟨cur, hc⟩ := own_is flW hg2
    exact ob (lt_of_block hc) (nX hc (by decide) (.inr (h.nfo g hg2)))
  · intro g hg2 e
    rcases hg g e with q | q
    · exact h.nfo g hg2 q
    · have := (flW.lt g hg2).2; omega
  · exact (ob (lt_of_block scW) (nX scW (by decide) (.inl (by decide)))).trans scW
  · refine Below.setCell ?_ (by show w.heap.size ≤ W.heap.size; omega) _
    refine hbelW.trans (hch.below (by omega) ?_)
    intro b hb1
    rintro (rfl | rfl | e | e | e)
    · have := h.made.low.1; omega
    · omega
    · have := h.made.low.2.2.2.1 b e; omega
    · have := h.made.low.2.2.2.2 b e; omega
    · have := (hfs.ho.lt b e).1; omega
/-- .. and laid into the list of all. -/
theorem MadeR.app {w w3 w4 : World} {S : SetP} {A : Option Addr} {cap F Wb sc : Nat} {FL OW : List Nat} {flv orf : Value} {fmo smo : Option Nat} {nf : Value} {p g c : Nat} (hm : Made w3 w.heap.size S F Wb sc (FL ++ [p]) OW orf fmo smo nf)
    (hw : w3.heap[Wb]? = some (.cells #[.pointer (some ⟨F, 0, none⟩), flv, .slice none 0 0] 90 (0, 0))) (hfl : w3.ownsRow w.heap.size 104 1 flv FL.length (ptrsL FL)) (hn : ∀ g, flv.ownBlock = some g → orf.ownBlock ≠ some g)
    (hsc : w3.heap[sc]? = some (.cells #[.slice A S.flags.length cap, .bool S.plain, .bool S.unknown, .int .i64 S.fold] 24 (0, 0))) (hb : Below w.heap.size w w3) (hge : w.heap.size ≤ Wb ∧ w.heap.size ≤ sc)
    (hg : (w3.alloc (.cells #[.pointer (some ⟨p, 0, none⟩)] 104)).grownBy w4 flv.ownBlock) (ho : w4.ownsRow w.heap.size 104 1 (.slice (some ⟨g, 0, none⟩) (FL.length + 1) c) (FL.length + 1) (ptrsL FL ++ [.pointer (some ⟨p, 0, none⟩)])) (hat : flv.ownBlock = some g ∨ g = w3.heap.size + 1) :
    MadeR w (w4.setCell ⟨Wb, 1, none⟩ (.slice (some ⟨g, 0, none⟩) (FL.length + 1) c)) S A cap F Wb sc (FL ++ [p]) OW (.slice (some ⟨g, 0, none⟩) (FL.length + 1) c) orf fmo smo nf := by
  have hbs := hb.size
  have hal : Below w3.heap.size w3 (w3.alloc (.cells #[.pointer (some ⟨p, 0, none⟩)] 104)) := (Below.refl _ _).alloc (Nat.le_refl _) _
  have ch : Ch w3 (w4.setCell ⟨Wb, 1, none⟩ (.slice (some ⟨g, 0, none⟩) (FL.length + 1) c)) (fun b => b = Wb ∨ flv.ownBlock = some b) :=
    (((Ch.refl w3 _).alloc _).grown hg (fun b _ e => .inr e.symm)).set _ _ (fun _ => .inl rfl)
  obtain ⟨m1, m2, hfs, _, _⟩ := hm.fs
  have hl : (FL ++ [p]).length = FL.length + 1 := by simp
  have hwA := block_kept hw hal
  have hflA := own_kept hfl hal
  have hw4 : w4.heap[Wb]? = some (.cells #[.pointer (some ⟨F, 0, none⟩), flv, .slice none 0 0] 90 (0, 0)) := grown_blk hg hwA (fun e => own_far3 hflA hwA (by decide) e.symm)
  refine ⟨hm.kept (by omega) ch ?_, blk_set hw4 1 _, ?_, ?_, ?_, ?_, hge⟩
  · intro b hlt hx
    rcases hx with rfl | e
    · exact ⟨hge.1, fun e => own_far3 hfs.ho hw (by decide) e, _, _, _, hw, .inl rfl⟩
    · obtain ⟨cur, hc⟩ := own_is hfl e
      exact ⟨(hfl.lt b e).1, hn b e, _, _, _, hc, .inr rfl⟩
  · rw [hl, ptrsL_snoc]
    exact own_of_blk ho fun g2 hg2 => blk_other (fun e => own_far3 ho hw4 (by decide) (by rw [hg2, e]))
  · intro g2 hg2
    simp only [Value.ownBlock, Option.some.injEq] at hg2
    subst hg2
    rcases hat with q | q
    · exact hn g q
    · intro e
      have := (hfs.ho.lt g e).2
      omega
  · rw [ch.block sc (lt_of_block hsc) (fun hx => ?_)]
    · exact hsc
    · rcases hx with e | e
      · rw [e, hw] at hsc; simp at hsc
      · exact own_far3 hfl hsc (by decide) e
  · refine (Below.trans hb (Ch.below ch (by omega) ?_))
    intro b hb1 hx
    rcases hx with rfl | e
    · omega
    · have := (hfl.lt b e).1; omega

theorem three_blocks (w : World) (o1 o2 o3 : Obj) : (((w.alloc o1).alloc o2).alloc o3).heap[w.heap.size]? = some o1 ∧ (((w.alloc o1).alloc o2).alloc o3).heap[w.heap.size + 1]? = some o2 ∧ (((w.alloc o1).alloc o2).alloc o3).heap[w.heap.size + 1 + 1]? = some o3 := by
  have s1 : (w.alloc o1).heap.size = w.heap.size + 1 := by simp
  have s2 : ((w.alloc o1).alloc o2).heap.size = w.heap.size + 1 + 1 := by simp
  refine ⟨?_, ?_, ?_⟩
  · rw [Below.heap_alloc _ _ _ (by omega), Below.heap_alloc _ _ _ (by omega)]; exact heap_alloc_new w o1
  · rw [Below.heap_alloc _ _ _ (by omega), ← s1]; exact heap_alloc_new (w.alloc o1) o2
  · rw [← s2]; exact heap_alloc_new _ o3

set_option maxRecDepth 100000 in
theorem setInter_any (F : Nat) (x y : Bool) (w : World) (hc : w.cell? ⟨F, 15, none⟩ = some (.bool y)) (hz : w.frozen? ⟨F, 15, none⟩ = false) :
    Calls Try.prog 76 #[.pointer (some ⟨F, 0, none⟩), .bool x] w fun e w' => e = .returned (.tuple #[]) ∧ w' = w.setCell ⟨F, 15, none⟩ (.bool x) := by
  go_enter Try.func76, Try.ntmps76
  go_wp2
  go_end0
  exact ⟨rfl, rfl⟩


/-- What VarPF leaves in a round of made. -/
def VarPost (w W : World) (S : SetP) (A : Option Addr) (cap F Wb sc : Nat) (FL OW : List Nat) (ow : Nat) (flv : Value) (nf : Value) (NO : ByteArray) (e : Ending) (w2 : World) : Prop :=
  e = .returned (.pointer (some ⟨W.heap.size, 0, none⟩)) ∧ w2.cell? ⟨W.heap.size, 6, none⟩ = some (.string ⟨#[]⟩) ∧ w2.frozen? ⟨W.heap.size, 6, none⟩ = false ∧ W.heap.size < w2.heap.size ∧ (∀ (b : Nat) (cs : Array Value) (fr : Nat × Nat), W.heap[b]? = some (Obj.cells cs 47 fr) → w2.heap[b]? = some (Obj.cells cs 47 fr)) ∧
  ∃ orf' fmo' smo', Made (w2.setCell ⟨W.heap.size, 6, none⟩ (.string NO)) w.heap.size S F Wb sc (FL ++ [W.heap.size]) (OW ++ [ow]) orf' fmo' smo' nf ∧
    (w2.setCell ⟨W.heap.size, 6, none⟩ (.string NO)).heap[Wb]? = some (.cells #[.pointer (some ⟨F, 0, none⟩), flv, .slice none 0 0] 90 (0, 0)) ∧
    (w2.setCell ⟨W.heap.size, 6, none⟩ (.string NO)).ownsRow w.heap.size 104 1 flv FL.length (ptrsL FL) ∧
    (∀ g, flv.ownBlock = some g → orf'.ownBlock ≠ some g) ∧
    (w2.setCell ⟨W.heap.size, 6, none⟩ (.string NO)).heap[sc]? = some (.cells #[.slice A S.flags.length cap, .bool S.plain, .bool S.unknown, .int .i64 S.fold] 24 (0, 0)) ∧
    Below w.heap.size w (w2.setCell ⟨W.heap.size, 6, none⟩ (.string NO))
theorem MadeR.call {w wr W : World} {S : SetP} {A : Option Addr} {cap F Wb sc : Nat} {FL OW : List Nat} {flv orf : Value} {fmo smo : Option Nat} {nf : Value} (h : MadeR w wr S A cap F Wb sc FL OW flv orf fmo smo nf) (hR : Right S) (hk : FL.length < S.flags.length) (hn : S.flags.length ≤ 17179869184) (hs : (S.flags[FL.length].name).length ≤ 17179869184)
    (hW : Below wr.heap.size wr W) {ow : Nat} {v : Value} (hown : W.heap[ow]? = some (.cells (ownCells FL.length v Wb) 119 (0, 0))) (how : wr.heap.size ≤ ow) (htx : Texts w v (S.flags[FL.length].bad.map mkT)) (hvB : ∀ A n c, v = .slice (some A) n c → 0 < n → A.block < w.heap.size) :
    Calls Try.prog 75 #[.pointer (some ⟨F, 0, none⟩), .iface 116 (.pointer (some ⟨ow, 0, none⟩)), .string (mkT S.flags[FL.length].name), .string (mkT S.flags[FL.length].short), .string ⟨#[]⟩] W (VarPost w W S A cap F Wb sc FL OW ow flv nf (mkT S.flags[FL.length].noOpt)) := by
  have hbs := h.bel.size
  have hWs := hW.size
  have hm := h.made.below hbs hW
  obtain ⟨n1, n2, hfs, hn1, hn2⟩ := hm.fs
  have hst : (mkT S.flags[FL.length].short).size ≤ 1 := by
    rw [mkT_size]
    rcases hR.short _ (List.getElem_mem hk) with e | ⟨c, e, _⟩
    · rw [e]; simp
    · rw [e]; simp
  refine (varPF_any w.heap.size F FL.length S.fold fmo smo (mkT S.flags[FL.length].short) (mkT S.flags[FL.length].name) (mkT (foldT S.fold S.flags[FL.length].name)) ow n1 n2 false false true _ _ _ _ nf _ _ _ _ W hfs (hm.norm.at ((cell_blk hfs.hF 16).trans rfl)) (by rw [mkT_size]; exact hs) (by show _ = _; rw [mkT_list]) hst (by show _ = _; rw [mkT_list]; exact nmF_none hR FL hk) (by show ∀ c, _; intro c hc; rw [mkT_list] at hc; exact shFs_none hR FL hk c hc) (by omega) (by omega) hn1 hn2).mono ?_
  rintro e w2 ⟨rfl, ⟨fmo', smo', orf', m1, m2, hb2, hm1, hm2, hf, hs2, hg⟩, hch⟩
  simp only [mkT_list] at hb2
  obtain ⟨r1, r2, r3, r4, r5, r6, r7⟩ := h.var hR hk hW hown how htx hvB hb2 hm1 hm2 hf hs2 hg hch
  refine ⟨rfl, hb2.cP 6 rfl, free_blk hb2.hp 6, r7, ?_, orf', fmo', smo', r1, r2, r3, r4, r5, r6⟩
  intro b cs fr hb
  rw [hch.block b (lt_of_block hb) ?_]
  · exact hb
  · rintro (rfl | rfl | e | e | e)
    · have := hfs.hF.symm.trans hb; simp at this
    · exact absurd (lt_of_block hb) (Nat.lt_irrefl _)
    · subst e; exact map_ne hfs.h1 hb rfl
    · subst e; exact map_ne hfs.h2 hb rfl
    · exact own_far3 hfs.ho hb (by decide) e

set_option maxRecDepth 100000 in
set_option maxHeartbeats 6400000 in
theorem made_zero (S : SetP) (hR : Right S) (h0 : S.fold = 0) (A : Option Addr) (cap : Nat) (w : World) (hA : FlagsAt w A S.flags) (hlow : LowBad w A S.flags w.heap.size) (hn : S.flags.length ≤ 17179869184) (hsz : ∀ i (h : i < S.flags.length), (S.flags[i].name).length ≤ 17179869184) :
    Calls Try.prog 48 #[.agg #[.slice A S.flags.length cap, .bool S.plain, .bool S.unknown, .int .i64 S.fold]] w (MadeEnd S w) := by
  obtain ⟨ti, hi, hz0, hz1, hz2⟩ := info_parts Try.infoP
  have h00 : ((S.fold : Int) != 0) = false := by rw [h0]; rfl
  have HA := Lib.hid hA
  have HL := Lib.hid hlow
  have HSZ := Lib.hid hsz
  have HRI := Lib.hid hR
  have HR0 : Hid (MadeR w (((w.alloc (.cells #[.slice A S.flags.length cap, .bool S.plain, .bool S.unknown, .int .i64 S.fold] 24)).alloc (.cells (fsCells false false (.map none) (.slice none 0 0) (.map none) (.slice none 0 0) (.map none) (.slice none 0 0) (-1) true .nilFunc) 131)).alloc (.cells #[.pointer (some ⟨w.heap.size + 1, 0, none⟩), .slice none 0 0, .slice none 0 0] 90)) S A cap (w.heap.size + 1) (w.heap.size + 1 + 1) w.heap.size [] [] (.slice none 0 0) (.slice none 0 0) none none .nilFunc) := by
    obtain ⟨q1, q2, q3⟩ := three_blocks w (.cells #[.slice A S.flags.length cap, .bool S.plain, .bool S.unknown, .int .i64 S.fold] 24) (.cells (fsCells false false (.map none) (.slice none 0 0) (.map none) (.slice none 0 0) (.map none) (.slice none 0 0) (-1) true .nilFunc) 131) (.cells #[.pointer (some ⟨w.heap.size + 1, 0, none⟩), .slice none 0 0, .slice none 0 0] 90)
    refine ⟨⟨⟨0, 0, ⟨q2, ?_, ?_, World.ownsRow_nil _ _ _ _, (fun b e => by cases e)⟩, Nat.zero_le _, Nat.zero_le _⟩, Nat.zero_le _, rfl, (fun i _ h => absurd h (Nat.not_lt_zero i)), (fun i _ h => absurd h (Nat.not_lt_zero i)), List.nodup_nil, .inl ⟨h0, rfl⟩, ⟨by omega, (fun b h => by cases h), (fun b h => by cases h), (fun b h => by cases h), (fun b h => by cases h)⟩⟩, q3, World.ownsRow_nil _ _ _ _, (fun g h => by cases h), q1, (((Below.refl _ w).alloc (Nat.le_refl _) _).alloc (by simp) _).alloc (by simp; omega) _, ⟨by omega, Nat.le_refl _⟩⟩
    · intro t; simp [nmF]
    · intro t; simp [shFs]
  clear hA hlow hsz hR h0
  go_enter Try.func48, Try.ntmps48
  go_wp2_with (first
    | (go_at_call 71; refine (newSet_any _).mono ?_; rintro e w1 ⟨rfl, rfl⟩))
  generalize (((w.alloc (.cells #[.slice A S.flags.length cap, .bool S.plain, .bool S.unknown, .int .i64 S.fold] 24)).alloc (.cells (fsCells false false (.map none) (.slice none 0 0) (.map none) (.slice none 0 0) (.map none) (.slice none 0 0) (-1) true .nilFunc) 131)).alloc (.cells #[.pointer (some ⟨w.heap.size + 1, 0, none⟩), .slice none 0 0, .slice none 0 0] 90)) = wa at HR0 ⊢
  go_loopw [22] (fun i wr => ∃ (FL OW : List Nat) (flv orf : Value) (fmo smo : Option Nat), FL.length ≤ S.flags.length ∧ i = .int .i64 (FL.length : Nat) ∧ Hid (MadeR w wr S A cap (w.heap.size + 1) (w.heap.size + 1 + 1) w.heap.size FL OW flv orf fmo smo .nilFunc)) (fun i _ => S.flags.length - (intOf i).toNat)
  case atStart => exact ⟨[], [], _, _, _, _, Nat.zero_le _, rfl, HR0⟩
  case round =>
    clear HR0
    obtain ⟨FL, OW, flv, orf, fmo, smo, hk, rfl, HR⟩ := hrel
    have hbel := HR.out.bel
    have i0 : (0 : Int) ≤ (FL.length : Int) := Int.natCast_nonneg _
    have eW0 := (cell_blk HR.out.wh 0).trans rfl
    have eW1 := (cell_blk HR.out.wh 1).trans rfl
    have zW := free_blk HR.out.wh
    have lW := lt_of_block HR.out.wh
    by_cases hlt : FL.length < S.flags.length
    · obtain ⟨b, o, v, hAe, c0, c1, c2, c3, ht⟩ := HA.out FL.length hlt
      have hvB := HL.out FL.length hlt b o v hAe c3
      subst hAe
      obtain ⟨Av, cv, hve, hts⟩ := ht
      have ht : Texts w v (S.flags[FL.length].bad.map mkT) := ⟨Av, cv, hve, hts⟩
      generalize ((S.flags[FL.length].bad.map mkT).length) = nv at hve
      subst hve
      clear hts
      have i1 : (FL.length : Int) < (S.flags.length : Int) := by omega
      have d0 := cell_kept hbel c0
      have d1 := cell_kept hbel c1
      have d2 := cell_kept hbel c2
      have d3 := cell_kept hbel c3
      have HV := Lib.hid (fun (W : World) (hW : Below wr.heap.size wr W) (hown : W.heap[wr.heap.size + 1]? = some (.cells (ownCells FL.length (.slice Av nv cv) (w.heap.size + 1 + 1)) 119 (0, 0))) => HR.out.call HRI.out hlt hn (HSZ.out FL.length hlt) hW hown (Nat.le_succ _) ht hvB)
      clear c0 c1 c2 c3 ht hvB
      generalize mkT S.flags[FL.length].name = nm at d0 HV
      generalize mkT S.flags[FL.length].short = st at d1 HV
      generalize mkT S.flags[FL.length].noOpt = no at d2 HV
      have HX : Hid (Below wr.heap.size wr (wr.alloc (.cells #[.string nm, .string st, .string no, .slice Av nv cv] 47))) := (Below.refl _ _).alloc (Nat.le_refl _) _
      have HXc := Lib.hid (heap_alloc_new wr (.cells #[.string nm, .string st, .string no, .slice Av nv cv] 47))
      have HO : Hid (Below wr.heap.size wr ((wr.alloc (.cells #[.string nm, .string st, .string no, .slice Av nv cv] 47)).alloc (.cells (ownCells FL.length (.slice Av nv cv) (w.heap.size + 1 + 1)) 119))) := HX.out.alloc (by simp) _
      have hsx : (wr.alloc (.cells #[.string nm, .string st, .string no, .slice Av nv cv] 47)).heap.size = wr.heap.size + 1 := by simp
      have HOW : Hid (((wr.alloc (.cells #[.string nm, .string st, .string no, .slice Av nv cv] 47)).alloc (.cells (ownCells FL.length (.slice Av nv cv) (w.heap.size + 1 + 1)) 119)).heap[wr.heap.size + 1]? = some (.cells (ownCells FL.length (.slice Av nv cv) (w.heap.size + 1 + 1)) 119 (0, 0))) := by
        show _ = _
        rw [← hsx]; exact heap_alloc_new _ _
      have HSW : Hid (((wr.alloc (.cells #[.string nm, .string st, .string no, .slice Av nv cv] 47)).alloc (.cells (ownCells FL.length (.slice Av nv cv) (w.heap.size + 1 + 1)) 119)).drew.heap.size = wr.heap.size + 1 + 1) := by show _ = _; simp
      clear hsx
      go_wp2
      go_region_held3 (fun w' => w'.cell? ⟨w.heap.size + 1 + 1, 0, none⟩ = some (.pointer (some ⟨w.heap.size + 1, 0, none⟩)) ∧ w'.cell? ⟨wr.heap.size, 0, none⟩ = some (.string nm) ∧ w'.cell? ⟨wr.heap.size, 1, none⟩ = some (.string st) ∧ w'.cell? ⟨wr.heap.size, 3, none⟩ = some (.slice Av nv cv)) (first | assumption | go_keep)
        (first
          | (go_at_call 75; refine (HV.out _ HO.out.drew HOW.out).mono ?_; rintro e w2 ⟨rfl, hc6, hz6, hl2, hx2, orf', fmo', smo', hm, hw, hfl, hno, hsc, hbl⟩; have hxb := hx2 wr.heap.size _ _ (block_kept HXc.out (((Below.refl _ _).alloc (Nat.le_refl _) _).drew)); have x0 := (cell_blk hxb 0).trans rfl; have x1 := (cell_blk hxb 1).trans rfl; have x2 := (cell_blk hxb 2).trans rfl; have x3 := (cell_blk hxb 3).trans rfl; rw [HSW.out] at hc6 hz6 hl2 hm hw hfl hsc hbl; have hWb2 := (blk_other (show w.heap.size + 1 + 1 ≠ wr.heap.size + 1 + 1 by omega)).symm.trans hw; have y0 := (cell_blk hWb2 0).trans rfl; have y1 := (cell_blk hWb2 1).trans rfl; have l0 : w.heap.size + 1 + 1 < w2.heap.size := (by omega); have z2 := free_blk hWb2))
      have HW3 := Lib.hid hw
      have HM := Lib.hid hm
      have HFL := Lib.hid hfl
      have HNO := Lib.hid hno
      have HSC := Lib.hid hsc
      have HBL := Lib.hid hbl
      have HFA := Lib.hid (own_kept hfl ((Below.refl _ _).alloc (Nat.le_refl _) (.cells #[.pointer (some ⟨wr.heap.size + 1 + 1, 0, none⟩)] 104)))
      clear hw hm hfl hno hsc hbl hWb2 hxb
      have hlw : w.heap.size ≤ wr.heap.size := hbel.size
      go_wp2_with (at_builtin; go_must (refine wpList_append_lies _ rfl (.tmp 54) (.tmp 56) 88 rfl w.heap.size 104 ti _ 1 8 Try.underlying88 hi hz0 hz1 hz2 rfl (by decide) _ FL.length _ rfl HFA.out ⟨w2.heap.size, 0, none⟩ 1 1 [.pointer (some ⟨wr.heap.size + 1 + 1, 0, none⟩)] rfl rfl (World.news_of_block (cs := #[.pointer (some ⟨wr.heap.size + 1 + 1, 0, none⟩)]) (t := 104) (fr := (0, 0)) (by have h := heap_alloc_new (w2.setCell ⟨wr.heap.size + 1 + 1, 6, none⟩ (.string no)) (.cells #[.pointer (some ⟨wr.heap.size + 1 + 1, 0, none⟩)] 104); simpa using h)) (by simp [Value.oneCell']) (by omega) (by unfold maxLen; omega) (by omega) (by simp; omega) (w2.heap.size + 1) (by simp) ?_; intro g5 cap5 w5 hown5 hg5 hat5 hlt5; have HR5 := Lib.hid (MadeR.app HM.out HW3.out HFL.out HNO.out HSC.out HBL.out ⟨by omega, Nat.le_refl _⟩ hg5 hown5 (hat5.imp (fun q => q) (fun q => by rw [q]; simp))); have hW5 := grown_blk hg5 (block_kept HW3.out ((Below.refl _ _).alloc (Nat.le_refl _) (.cells #[.pointer (some ⟨wr.heap.size + 1 + 1, 0, none⟩)] 104))) (fun e => own_far3 HFL.out HW3.out (by decide) e.symm); have v1 := (cell_blk hW5 1).trans rfl; have zv := free_blk hW5))
      have hl5 : ((FL ++ [wr.heap.size + 1 + 1]).length : Int) = (FL.length : Int) + 1 := by simp
      go_roundw
      case rel => exact ⟨FL ++ [wr.heap.size + 1 + 1], OW ++ [wr.heap.size + 1], _, _, _, _, by simp; omega, by rw [hl5], HR5⟩
      case measure => simp [intOf]; omega
    · have hke : FL.length = S.flags.length := by omega
      have HE := Lib.hid (HR.out.done hke)
      obtain ⟨m1, m2, hfs, _, _⟩ := HR.out.made.fs
      have f15 : wr.cell? ⟨w.heap.size + 1, 15, none⟩ = some (.bool true) := (cell_blk hfs.hF 15).trans rfl
      have f1 : wr.cell? ⟨w.heap.size + 1, 1, none⟩ = some (.bool false) := (cell_blk hfs.hF 1).trans rfl
      have zF := free_blk hfs.hF
      have lF := lt_of_block hfs.hF
      have s1 := (cell_blk HR.out.scb 1).trans rfl
      have s2 := (cell_blk HR.out.scb 2).trans rfl
      have q15 := free_blk hfs.hF 15
      clear hfs hke hbel
      go_wp2
      go_region_held3 (fun w' => w'.cell? ⟨w.heap.size + 1 + 1, 0, none⟩ = some (.pointer (some ⟨w.heap.size + 1, 0, none⟩)) ∧ w'.cell? ⟨w.heap.size, 1, none⟩ = some (.bool S.plain)) (first | assumption | go_keep)
        (first
          | (go_at_call 76; refine (setInter_any (w.heap.size + 1) (!S.plain) true _ (by simpa using f15) (by simpa using q15)).mono ?_; rintro e w2 ⟨rfl, rfl⟩))
      go_wp2
      go_region
      go_wp2
      go_ret
      exact HE.out.below (((Below.refl _ _).drew).drew)

theorem MadeR.init {w w1 : World} {S : SetP} (hf : S.fold = 1 ∨ S.fold = 2 ∨ S.fold = 3) {A : Option Addr} {cap : Nat}
    (hF : w1.heap[w.heap.size + 1]? = some (.cells (fsCells false false (.map none) (.slice none 0 0) (.map none) (.slice none 0 0) (.map none) (.slice none 0 0) (-1) true (.func (.func 73) #[] #[.pointer (some ⟨w.heap.size, 0, none⟩)])) 131 (0, 0)))
    (hch : Ch (((w.alloc (.cells #[.slice A S.flags.length cap, .bool S.plain, .bool S.unknown, .int .i64 S.fold] 24)).alloc (.cells (fsCells false false (.map none) (.slice none 0 0) (.map none) (.slice none 0 0) (.map none) (.slice none 0 0) (-1) true .nilFunc) 131)).alloc (.cells #[.pointer (some ⟨w.heap.size + 1, 0, none⟩), .slice none 0 0, .slice none 0 0] 90)) w1 (fun b => b = w.heap.size + 1)) :
    MadeR w w1 S A cap (w.heap.size + 1) (w.heap.size + 1 + 1) w.heap.size [] [] (.slice none 0 0) (.slice none 0 0) none none (.func (.func 73) #[] #[.pointer (some ⟨w.heap.size, 0, none⟩)]) := by
  obtain ⟨q1, q2, q3⟩ := three_blocks w (.cells #[.slice A S.flags.length cap, .bool S.plain, .bool S.unknown, .int .i64 S.fold] 24) (.cells (fsCells false false (.map none) (.slice none 0 0) (.map none) (.slice none 0 0) (.map none) (.slice none 0 0) (-1) true .nilFunc) 131) (.cells #[.pointer (some ⟨w.heap.size + 1, 0, none⟩), .slice none 0 0, .slice none 0 0] 90)
  have p1 := (hch.block _ (lt_of_block q1) (by omega)).trans q1
  have p3 := (hch.block _ (lt_of_block q3) (by omega)).trans q3
  have hb3 : Below w.heap.size w (((w.alloc (.cells #[.slice A S.flags.length cap, .bool S.plain, .bool S.unknown, .int .i64 S.fold] 24)).alloc (.cells (fsCells false false (.map none) (.slice none 0 0) (.map none) (.slice none 0 0) (.map none) (.slice none 0 0) (-1) true .nilFunc) 131)).alloc (.cells #[.pointer (some ⟨w.heap.size + 1, 0, none⟩), .slice none 0 0, .slice none 0 0] 90)) := (((Below.refl _ w).alloc (Nat.le_refl _) _).alloc (by simp) _).alloc (by simp; omega) _
  refine ⟨⟨⟨0, 0, ⟨hF, ?_, ?_, World.ownsRow_nil _ _ _ _, (fun b e => by cases e)⟩, Nat.zero_le _, Nat.zero_le _⟩, Nat.zero_le _, rfl, (fun i _ h => absurd h (Nat.not_lt_zero i)), (fun i _ h => absurd h (Nat.not_lt_zero i)), List.nodup_nil, .inr ⟨hf, rfl, _, p1, rfl⟩, ⟨by omega, (fun b h => by cases h), (fun b h => by cases h), (fun b h => by cases h), (fun b h => by cases h)⟩⟩, p3, World.ownsRow_nil _ _ _ _, (fun g h => by cases h), p1, hb3.trans (hch.below hb3.size (fun b hb e => by omega)), ⟨by omega, Nat.le_refl _⟩⟩
  · intro t; simp [nmF]
  · intro t; simp [shFs]

set_option maxRecDepth 100000 in
set_option maxHeartbeats 6400000 in
theorem made_fold (S : SetP) (hR : Right S) (h0 : S.fold ≠ 0) (A : Option Addr) (cap : Nat) (w : World) (hA : FlagsAt w A S.flags) (hlow : LowBad w A S.flags w.heap.size) (hn : S.flags.length ≤ 17179869184) (hsz : ∀ i (h : i < S.flags.length), (S.flags[i].name).length ≤ 17179869184) :
    Calls Try.prog 48 #[.agg #[.slice A S.flags.length cap, .bool S.plain, .bool S.unknown, .int .i64 S.fold]] w (MadeEnd S w) := by
  obtain ⟨ti, hi, hz0, hz1, hz2⟩ := info_parts Try.infoP
  have h00 : ((S.fold : Int) != 0) = true := by simpa using h0
  have hf : S.fold = 1 ∨ S.fold = 2 ∨ S.fold = 3 := by have := hR.fold; omega
  have hmf : ∀ (fn : Fn) (first cap : Array Value) (w : World), (Instr.makeFunc fn first cap).run Try.prog w = .ok (.func fn first cap) w := fun _ _ _ _ => rfl
  have HA := Lib.hid hA
  have HL := Lib.hid hlow
  have HSZ := Lib.hid hsz
  have HRI := Lib.hid hR
  have HQ2 := Lib.hid (three_blocks w (.cells #[.slice A S.flags.length cap, .bool S.plain, .bool S.unknown, .int .i64 S.fold] 24) (.cells (fsCells false false (.map none) (.slice none 0 0) (.map none) (.slice none 0 0) (.map none) (.slice none 0 0) (-1) true .nilFunc) 131) (.cells #[.pointer (some ⟨w.heap.size + 1, 0, none⟩), .slice none 0 0, .slice none 0 0] 90)).2.1
  have HI := Lib.hid (fun w1 hF hch => MadeR.init (w := w) (w1 := w1) hf (A := A) (cap := cap) hF hch)
  clear hA hlow hsz hR h0 hf
  go_enter Try.func48, Try.ntmps48
  go_wp2_with (first
    | (go_at_call 71; refine (newSet_any _).mono ?_; rintro e w1 ⟨rfl, rfl⟩)
    | (go_at_call 72; refine (setNorm_any (w.heap.size + 1) (.func 73) #[.pointer (some ⟨w.heap.size, 0, none⟩)] _ _ HQ2.out rfl rfl rfl).mono ?_; rintro e wa ⟨rfl, hF1, hch1⟩; have HR0 := Lib.hid (HI.out wa hF1 hch1); have k0 : wa.cell? ⟨w.heap.size, 0, none⟩ = some (.slice A S.flags.length cap) := (cell_blk HR0.out.scb 0).trans rfl; clear hF1 hch1))
  go_loopw [22] (fun i wr => ∃ (FL OW : List Nat) (flv orf : Value) (fmo smo : Option Nat), FL.length ≤ S.flags.length ∧ i = .int .i64 (FL.length : Nat) ∧ Hid (MadeR w wr S A cap (w.heap.size + 1) (w.heap.size + 1 + 1) w.heap.size FL OW flv orf fmo smo (.func (.func 73) #[] #[.pointer (some ⟨w.heap.size, 0, none⟩)]))) (fun i _ => S.flags.length - (intOf i).toNat)
  case atStart => exact ⟨[], [], _, _, _, _, Nat.zero_le _, rfl, HR0⟩
  case round =>
    clear HR0
    obtain ⟨FL, OW, flv, orf, fmo, smo, hk, rfl, HR⟩ := hrel
    have hbel := HR.out.bel
    have i0 : (0 : Int) ≤ (FL.length : Int) := Int.natCast_nonneg _
    have eW0 := (cell_blk HR.out.wh 0).trans rfl
    have eW1 := (cell_blk HR.out.wh 1).trans rfl
    have zW := free_blk HR.out.wh
    have lW := lt_of_block HR.out.wh
    by_cases hlt : FL.length < S.flags.length
    · obtain ⟨b, o, v, hAe, c0, c1, c2, c3, ht⟩ := HA.out FL.length hlt
      have hvB := HL.out FL.length hlt b o v hAe c3
      subst hAe
      obtain ⟨Av, cv, hve, hts⟩ := ht
      have ht : Texts w v (S.flags[FL.length].bad.map mkT) := ⟨Av, cv, hve, hts⟩
      generalize ((S.flags[FL.length].bad.map mkT).length) = nv at hve
      subst hve
      clear hts
      have i1 : (FL.length : Int) < (S.flags.length : Int) := by omega
      have d0 := cell_kept hbel c0
      have d1 := cell_kept hbel c1
      have d2 := cell_kept hbel c2
      have d3 := cell_kept hbel c3
      have HV := Lib.hid (fun (W : World) (hW : Below wr.heap.size wr W) (hown : W.heap[wr.heap.size + 1]? = some (.cells (ownCells FL.length (.slice Av nv cv) (w.heap.size + 1 + 1)) 119 (0, 0))) => HR.out.call HRI.out hlt hn (HSZ.out FL.length hlt) hW hown (Nat.le_succ _) ht hvB)
      clear c0 c1 c2 c3 ht hvB
      generalize mkT S.flags[FL.length].name = nm at d0 HV
      generalize mkT S.flags[FL.length].short = st at d1 HV
      generalize mkT S.flags[FL.length].noOpt = no at d2 HV
      have HX : Hid (Below wr.heap.size wr (wr.alloc (.cells #[.string nm, .string st, .string no, .slice Av nv cv] 47))) := (Below.refl _ _).alloc (Nat.le_refl _) _
      have HXc := Lib.hid (heap_alloc_new wr (.cells #[.string nm, .string st, .string no, .slice Av nv cv] 47))
      have HO : Hid (Below wr.heap.size wr ((wr.alloc (.cells #[.string nm, .string st, .string no, .slice Av nv cv] 47)).alloc (.cells (ownCells FL.length (.slice Av nv cv) (w.heap.size + 1 + 1)) 119))) := HX.out.alloc (by simp) _
      have hsx : (wr.alloc (.cells #[.string nm, .string st, .string no, .slice Av nv cv] 47)).heap.size = wr.heap.size + 1 := by simp
      have HOW : Hid (((wr.alloc (.cells #[.string nm, .string st, .string no, .slice Av nv cv] 47)).alloc (.cells (ownCells FL.length (.slice Av nv cv) (w.heap.size + 1 + 1)) 119)).heap[wr.heap.size + 1]? = some (.cells (ownCells FL.length (.slice Av nv cv) (w.heap.size + 1 + 1)) 119 (0, 0))) := by
        show _ = _
        rw [← hsx]; exact heap_alloc_new _ _
      have HSW : Hid (((wr.alloc (.cells #[.string nm, .string st, .string no, .slice Av nv cv] 47)).alloc (.cells (ownCells FL.length (.slice Av nv cv) (w.heap.size + 1 + 1)) 119)).drew.heap.size = wr.heap.size + 1 + 1) := by show _ = _; simp
      clear hsx
      go_wp2
      go_region_held3 (fun w' => w'.cell? ⟨w.heap.size + 1 + 1, 0, none⟩ = some (.pointer (some ⟨w.heap.size + 1, 0, none⟩)) ∧ w'.cell? ⟨wr.heap.size, 0, none⟩ = some (.string nm) ∧ w'.cell? ⟨wr.heap.size, 1, none⟩ = some (.string st) ∧ w'.cell? ⟨wr.heap.size, 3, none⟩ = some (.slice Av nv cv)) (first | assumption | go_keep)
        (first
          | (go_at_call 75; refine (HV.out _ HO.out.drew HOW.out).mono ?_; rintro e w2 ⟨rfl, hc6, hz6, hl2, hx2, orf', fmo', smo', hm, hw, hfl, hno, hsc, hbl⟩; have hxb := hx2 wr.heap.size _ _ (block_kept HXc.out (((Below.refl _ _).alloc (Nat.le_refl _) _).drew)); have x0 := (cell_blk hxb 0).trans rfl; have x1 := (cell_blk hxb 1).trans rfl; have x2 := (cell_blk hxb 2).trans rfl; have x3 := (cell_blk hxb 3).trans rfl; rw [HSW.out] at hc6 hz6 hl2 hm hw hfl hsc hbl; have hWb2 := (blk_other (show w.heap.size + 1 + 1 ≠ wr.heap.size + 1 + 1 by omega)).symm.trans hw; have y0 := (cell_blk hWb2 0).trans rfl; have y1 := (cell_blk hWb2 1).trans rfl; have l0 : w.heap.size + 1 + 1 < w2.heap.size := (by omega); have z2 := free_blk hWb2))
      have HW3 := Lib.hid hw
      have HM := Lib.hid hm
      have HFL := Lib.hid hfl
      have HNO := Lib.hid hno
      have HSC := Lib.hid hsc
      have HBL := Lib.hid hbl
      have HFA := Lib.hid (own_kept hfl ((Below.refl _ _).alloc (Nat.le_refl _) (.cells #[.pointer (some ⟨wr.heap.size + 1 + 1, 0, none⟩)] 104)))
      clear hw hm hfl hno hsc hbl hWb2 hxb
      have hlw : w.heap.size ≤ wr.heap.size := hbel.size
      go_wp2_with (at_builtin; go_must (refine wpList_append_lies _ rfl (.tmp 54) (.tmp 56) 88 rfl w.heap.size 104 ti _ 1 8 Try.underlying88 hi hz0 hz1 hz2 rfl (by decide) _ FL.length _ rfl HFA.out ⟨w2.heap.size, 0, none⟩ 1 1 [.pointer (some ⟨wr.heap.size + 1 + 1, 0, none⟩)] rfl rfl (World.news_of_block (cs := #[.pointer (some ⟨wr.heap.size + 1 + 1, 0, none⟩)]) (t := 104) (fr := (0, 0)) (by have h := heap_alloc_new (w2.setCell ⟨wr.heap.size + 1 + 1, 6, none⟩ (.string no)) (.cells #[.pointer (some ⟨wr.heap.size + 1 + 1, 0, none⟩)] 104); simpa using h)) (by simp [Value.oneCell']) (by omega) (by unfold maxLen; omega) (by omega) (by simp; omega) (w2.heap.size + 1) (by simp) ?_; intro g5 cap5 w5 hown5 hg5 hat5 hlt5; have HR5 := Lib.hid (MadeR.app HM.out HW3.out HFL.out HNO.out HSC.out HBL.out ⟨by omega, Nat.le_refl _⟩ hg5 hown5 (hat5.imp (fun q => q) (fun q => by rw [q]; simp))); have hW5 := grown_blk hg5 (block_kept HW3.out ((Below.refl _ _).alloc (Nat.le_refl _) (.cells #[.pointer (some ⟨wr.heap.size + 1 + 1, 0, none⟩)] 104))) (fun e => own_far3 HFL.out HW3.out (by decide) e.symm); have v1 := (cell_blk hW5 1).trans rfl; have zv := free_blk hW5))
      have hl5 : ((FL ++ [wr.heap.size + 1 + 1]).length : Int) = (FL.length : Int) + 1 := by simp
      go_roundw
      case rel => exact ⟨FL ++ [wr.heap.size + 1 + 1], OW ++ [wr.heap.size + 1], _, _, _, _, by simp; omega, by rw [hl5], HR5⟩
      case measure => simp [intOf]; omega
    · have hke : FL.length = S.flags.length := by omega
      have HE := Lib.hid (HR.out.done hke)
      obtain ⟨m1, m2, hfs, _, _⟩ := HR.out.made.fs
      have f15 : wr.cell? ⟨w.heap.size + 1, 15, none⟩ = some (.bool true) := (cell_blk hfs.hF 15).trans rfl
      have f1 : wr.cell? ⟨w.heap.size + 1, 1, none⟩ = some (.bool false) := (cell_blk hfs.hF 1).trans rfl
      have zF := free_blk hfs.hF
      have lF := lt_of_block hfs.hF
      have s1 := (cell_blk HR.out.scb 1).trans rfl
      have s2 := (cell_blk HR.out.scb 2).trans rfl
      have q15 := free_blk hfs.hF 15
      clear hfs hke hbel
      go_wp2
      go_region_held3 (fun w' => w'.cell? ⟨w.heap.size + 1 + 1, 0, none⟩ = some (.pointer (some ⟨w.heap.size + 1, 0, none⟩)) ∧ w'.cell? ⟨w.heap.size, 1, none⟩ = some (.bool S.plain)) (first | assumption | go_keep)
        (first
          | (go_at_call 76; refine (setInter_any (w.heap.size + 1) (!S.plain) true _ (by simpa using f15) (by simpa using q15)).mono ?_; rintro e w2 ⟨rfl, rfl⟩))
      go_wp2
      go_region
      go_wp2
      go_ret
      exact HE.out.below (((Below.refl _ _).drew).drew)

theorem made_any (S : SetP) (hR : Right S) (A : Option Addr) (cap : Nat) (w : World) (hA : FlagsAt w A S.flags) (hlow : LowBad w A S.flags w.heap.size) (hn : S.flags.length ≤ 17179869184) (hsz : ∀ i (h : i < S.flags.length), (S.flags[i].name).length ≤ 17179869184) :
    Calls Try.prog 48 #[.agg #[.slice A S.flags.length cap, .bool S.plain, .bool S.unknown, .int .i64 S.fold]] w (MadeEnd S w) := by
  by_cases h : S.fold = 0
  · exact made_zero S hR h A cap w hA hlow hn hsz
  · exact made_fold S hR h A cap w hA hlow hn hsz
end Go.Proofs.Ytgmhhdpggnmipaa.E
