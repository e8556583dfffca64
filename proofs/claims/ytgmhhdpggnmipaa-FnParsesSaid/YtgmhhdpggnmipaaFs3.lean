/- bare's AddFlag, over this seat's program. Written by gen_fs3.py. -/
import Derived.Test.YtgmhhdpggnmipaaFs2
import Derived.Deep.AppendLies
namespace Go.Proofs.Ytgmhhdpggnmipaa.E
open Go.RowKit Go.Proofs
open Go.Maps (Keyed)
set_option linter.unusedVariables false
set_option linter.unusedSimpArgs false

/-- What may have changed: the blocks of X alone. -/
structure Ch (w w' : World) (X : Nat → Prop) : Prop where
  os : w'.os = w.os
  tape : w'.tape = w.tape
  output : w'.output = w.output
  size : w.heap.size ≤ w'.heap.size
  block : ∀ b, b < w.heap.size → ¬ X b → w'.heap[b]? = w.heap[b]?
theorem Ch.of_below {w w' : World} (h : Below w.heap.size w w') (X : Nat → Prop) : Ch w w' X := ⟨h.os, h.tape, h.output, h.size, fun b hb _ => h.block b hb⟩
theorem Ch.refl (w : World) (X : Nat → Prop) : Ch w w X := ⟨rfl, rfl, rfl, Nat.le_refl _, fun _ _ _ => rfl⟩
theorem Ch.trans {w w1 w2 : World} {X : Nat → Prop} (h : Ch w w1 X) (k : Ch w1 w2 X) : Ch w w2 X :=
  ⟨k.os.trans h.os, k.tape.trans h.tape, k.output.trans h.output, Nat.le_trans h.size k.size, fun b hb hx => (k.block b (Nat.lt_of_lt_of_le hb h.size) hx).trans (h.block b hb hx)⟩
theorem Ch.mono {w w' : World} {X Y : Nat → Prop} (h : Ch w w' X) (hxy : ∀ b, b < w.heap.size → X b → Y b) : Ch w w' Y :=
  ⟨h.os, h.tape, h.output, h.size, fun b hb hy => h.block b hb (fun hx => hy (hxy b hb hx))⟩
theorem Ch.grown {w w1 w2 : World} {X : Nat → Prop} {r : Option Nat} (h : Ch w w1 X) (k : w1.grownBy w2 r) (hr : ∀ b, b < w.heap.size → some b = r → X b) : Ch w w2 X :=
  ⟨k.os.trans h.os, k.tape.trans h.tape, k.output.trans h.output, Nat.le_trans h.size k.size, fun b hb hx => (k.block b (Nat.lt_of_lt_of_le hb h.size) (fun e => hx (hr b hb e))).trans (h.block b hb hx)⟩
theorem Ch.set {w w1 : World} {X : Nat → Prop} (h : Ch w w1 X) (a : Addr) (v : Value) (ha : a.block < w.heap.size → X a.block) : Ch w (w1.setCell a v) X := by
  refine ⟨h.os, h.tape, h.output, ?_, fun b hb hx => ?_⟩
  · have : (w1.setCell a v).heap.size = w1.heap.size := by simp [World.setCell]
    rw [this]; exact h.size
  · rw [blk_other (fun e => hx (by rw [e]; exact ha (by rw [← e]; exact hb)))]; exact h.block b hb hx
theorem Ch.alloc {w w1 : World} {X : Nat → Prop} (h : Ch w w1 X) (o : Obj) : Ch w (w1.alloc o) X := h.trans (.of_below ((Below.refl _ _).alloc (Nat.le_refl _) o) X)
theorem Ch.drew {w w1 : World} {X : Nat → Prop} (h : Ch w w1 X) : Ch w w1.drew X := h.trans (.of_below ((Below.refl _ _).drew) X)
theorem Ch.below {w w' : World} {X : Nat → Prop} (h : Ch w w' X) {B : Nat} (hB : B ≤ w.heap.size) (hx : ∀ b, b < B → ¬ X b) : Below B w w' :=
  ⟨h.os, h.tape, h.output, h.size, fun b hb => h.block b (Nat.lt_of_lt_of_le hb hB) (hx b hb)⟩
theorem own_of_blk {w w' : World} {base e size n : Nat} {v : Value} {xs : List Value} (h : w.ownsRow base e size v n xs) (hb : ∀ g, v.ownBlock = some g → w'.heap[g]? = w.heap[g]?) : w'.ownsRow base e size v n xs := by
  refine ⟨h.1, ?_⟩
  rcases h.2 with hn | ⟨g, cap, cur, rfl, hB, hg, r⟩
  · exact .inl hn
  · exact .inr ⟨g, cap, cur, rfl, hB, (hb g rfl).trans hg, r⟩
/-- What the block of a row is. -/
theorem own_is {w : World} {base e size n g : Nat} {v : Value} {xs : List Value} (h : w.ownsRow base e size v n xs) (hg : v.ownBlock = some g) : ∃ cur, w.heap[g]? = some (.cells cur e (0, 0)) := by
  rcases h.2 with ⟨rfl, _⟩ | ⟨g', cap, cur, rfl, _, h1, _⟩
  · cases hg
  · cases hg; exact ⟨cur, h1⟩

/-- The cells of a set of flags. -/
def fsCells (unk parsed : Bool) (act ord fml orf shr av : Value) (dash : Int) (inter : Bool) (nf : Value) : Array Value :=
  #[.bool true, .bool unk, .bool false, .string ⟨#[]⟩, .bool parsed, act, ord, .slice none 0 0, fml, orf, .slice none 0 0, shr, av, .int .i64 dash, .int .i64 0, .bool inter, nf]
/-- The cells of a flag. -/
def flCells (name short : ByteArray) (ow : Nat) (chg : Bool) (noopt : ByteArray) : Array Value :=
  #[.string name, .string short, .string ⟨#[]⟩, .iface 116 (.pointer (some ⟨ow, 0, none⟩)), .string ⟨#[]⟩, .bool chg, .string noopt, .string ⟨#[]⟩, .bool false, .string ⟨#[]⟩, .map none]
def enT (t : Txt) : Lit := .string t
def enB (c : UInt8) : Lit := .int .u8 (c.toNat : Int)
theorem enT_inj (x y : Txt) (h : enT x = enT y) : x = y := by simpa [enT] using h
theorem enB_inj (x y : UInt8) (h : enB x = enB y) : x = y := by
  simp only [enB, Lit.int.injEq, true_and, Int.natCast_inj] at h
  exact UInt8.toNat_inj.1 h
theorem Try.kN : Keyed Try.prog 113 := Maps.string_keyed Try.underlying113
theorem Try.kB : Keyed Try.prog 5 := Maps.int_keyed Try.underlying5
theorem Try.zP (w : World) : (zeroValue 104).run Try.prog w = .ok (.pointer none) w := by kernel_rfl
theorem Try.infoP : (Try.prog.info? 104).map (fun i => (i.zero, i.size, i.bytes)) = some (some (.pointer none), 1, 8) := by kernel_rfl
theorem key_txt (s : ByteArray) (hs : s.size ≤ 9223372036854775807) : keyOf Try.prog 113 (.string s) = some (enT s.data.toList) := WideMaps.keyOf_string_mk Try.underlying113 (by unfold maxLen; exact hs)
theorem key_byte (c : UInt8) : keyOf Try.prog 5 (.int .u8 (c.toNat : Int)) = some (enB c) := Maps.keyOf_int_mk Try.underlying5 (by
  have := UInt8.toNat_lt c
  simp [Lit.wf, IntKind.min, IntKind.max, IntKind.signed, IntKind.bits]
  omega)
def ptrs (fl : Nat → Nat) (k : Nat) : List Value := (List.range k).map fun i => .pointer (some ⟨fl i, 0, none⟩)
theorem ptrs_succ (fl : Nat → Nat) (k : Nat) : ptrs fl (k + 1) = ptrs fl k ++ [.pointer (some ⟨fl k, 0, none⟩)] := by simp [ptrs, List.range_succ]

/-- The blocks that AddFlag turns: the set's, the flag's, the two maps, the row of all flags. -/
structure Bun (w : World) (B F p : Nat) (CF CP : Array Value) (fmo smo : Option Nat) (n1 n2 : Nat) (f1 : Txt → Option Nat) (f2 : UInt8 → Option Nat) (orf : Value) (no : Nat) (os : List Value) : Prop where
  hF : w.heap[F]? = some (.cells CF 131 (0, 0))
  hp : w.heap[p]? = some (.cells CP 124 (0, 0))
  h1 : PMap w Try.prog 113 enT fmo n1 f1
  h2 : PMap w Try.prog 5 enB smo n2 f2
  ho : w.ownsRow B 104 1 orf no os
  ne : ∀ b, fmo = some b → smo ≠ some b
section
variable {w w' : World} {B F p : Nat} {CF CP : Array Value} {fmo smo : Option Nat} {n1 n2 : Nat} {f1 : Txt → Option Nat} {f2 : UInt8 → Option Nat} {orf : Value} {no : Nat} {os : List Value}
theorem Bun.cF (h : Bun w B F p CF CP fmo smo n1 n2 f1 f2 orf no os) (i : Nat) {v : Value} (hv : CF[i]? = some v) : w.cell? ⟨F, i, none⟩ = some v := (cell_blk h.hF i).trans hv
theorem Bun.cP (h : Bun w B F p CF CP fmo smo n1 n2 f1 f2 orf no os) (i : Nat) {v : Value} (hv : CP[i]? = some v) : w.cell? ⟨p, i, none⟩ = some v := (cell_blk h.hp i).trans hv
theorem Bun.nFp (h : Bun w B F p CF CP fmo smo n1 n2 f1 f2 orf no os) : F ≠ p := blk_ne h.hF h.hp (by simp)
theorem map_ne {P : Program} {k : TypeId} {κ : Type} {en : κ → Lit} {b n : Nat} {f : κ → Option Nat} (h : PMap w P k en (some b) n f) {c : Nat} {cs : Array Value} {t : TypeId} {fr : Nat × Nat} (hc : w.heap[c]? = some (.cells cs t fr)) : b ≠ c := by
  obtain ⟨es, q, e⟩ := h.is
  exact blk_ne e hc (by simp)
theorem map_own {P : Program} {k : TypeId} {κ : Type} {en : κ → Lit} {b n : Nat} {f : κ → Option Nat} (h : PMap w P k en (some b) n f) {base e size m : Nat} {v : Value} {xs : List Value} (ho : w.ownsRow base e size v m xs) : v.ownBlock ≠ some b := by
  intro e
  obtain ⟨cur, hc⟩ := own_is ho e
  exact map_ne h hc rfl
theorem own_far3 {base e size n : Nat} {v : Value} {xs : List Value} (h : w.ownsRow base e size v n xs) {P : Nat} {cs : Array Value} {t : TypeId} {fr : Nat × Nat} (hP : w.heap[P]? = some (.cells cs t fr)) (hne : t ≠ e) : v.ownBlock ≠ some P := by
  intro hv
  obtain ⟨cur, hc⟩ := own_is h hv
  rw [hc] at hP
  simp only [Option.some.injEq, Obj.cells.injEq] at hP
  exact hne hP.2.1.symm
theorem Bun.kept (h : Bun w B F p CF CP fmo smo n1 n2 f1 f2 orf no os) (hb : Below w.heap.size w w') : Bun w' B F p CF CP fmo smo n1 n2 f1 f2 orf no os :=
  ⟨block_kept h.hF hb, block_kept h.hp hb, h.h1.below hb, h.h2.below hb, own_kept h.ho hb, h.ne⟩
theorem Bun.setF (h : Bun w B F p CF CP fmo smo n1 n2 f1 f2 orf no os) (i : Nat) (v : Value) : Bun (w.setCell ⟨F, i, none⟩ v) B F p (CF.setIfInBounds i v) CP fmo smo n1 n2 f1 f2 orf no os :=
  ⟨blk_set h.hF i v, (blk_other (Ne.symm h.nFp)).trans h.hp, h.h1.kept fun b e => blk_other (by subst e; exact map_ne h.h1 h.hF), h.h2.kept fun b e => blk_other (by subst e; exact map_ne h.h2 h.hF),
    own_of_blk h.ho fun g hg => blk_other (fun e => own_far3 h.ho h.hF (by decide) (by rw [hg, e])), h.ne⟩
theorem Bun.setP (h : Bun w B F p CF CP fmo smo n1 n2 f1 f2 orf no os) (i : Nat) (v : Value) : Bun (w.setCell ⟨p, i, none⟩ v) B F p CF (CP.setIfInBounds i v) fmo smo n1 n2 f1 f2 orf no os :=
  ⟨(blk_other h.nFp).trans h.hF, blk_set h.hp i v, h.h1.kept fun b e => blk_other (by subst e; exact map_ne h.h1 h.hp), h.h2.kept fun b e => blk_other (by subst e; exact map_ne h.h2 h.hp),
    own_of_blk h.ho fun g hg => blk_other (fun e => own_far3 h.ho h.hp (by decide) (by rw [hg, e])), h.ne⟩
theorem grown_blk {r : Option Nat} (hg : w.grownBy w' r) {b : Nat} {o : Obj} (h : w.heap[b]? = some o) (hr : some b ≠ r) : w'.heap[b]? = some o := (hg.block b (lt_of_block h) hr).trans h
theorem Bun.put1 {m n' : Nat} {f' : Txt → Option Nat} (h : Bun w B F p CF CP (some m) smo n1 n2 f1 f2 orf no os) (hg : w.grownBy w' (some m)) (hm : PMap w' Try.prog 113 enT (some m) n' f') : Bun w' B F p CF CP (some m) smo n' n2 f' f2 orf no os :=
  ⟨grown_blk hg h.hF (fun e => map_ne h.h1 h.hF (Option.some.inj e).symm), grown_blk hg h.hp (fun e => map_ne h.h1 h.hp (Option.some.inj e).symm), hm,
    h.h2.kept fun b e => hg.block b (by subst e; exact h.h2.lt) (fun e2 => h.ne m rfl (by rw [e]; exact e2)),
    own_of_blk h.ho fun g hg2 => hg.block g (h.ho.lt g hg2).2 (fun e2 => map_own h.h1 h.ho (by rw [hg2]; exact e2)), h.ne⟩
theorem Bun.put2 {m n' : Nat} {f' : UInt8 → Option Nat} (h : Bun w B F p CF CP fmo (some m) n1 n2 f1 f2 orf no os) (hg : w.grownBy w' (some m)) (hm : PMap w' Try.prog 5 enB (some m) n' f') : Bun w' B F p CF CP fmo (some m) n1 n' f1 f' orf no os :=
  ⟨grown_blk hg h.hF (fun e => map_ne h.h2 h.hF (Option.some.inj e).symm), grown_blk hg h.hp (fun e => map_ne h.h2 h.hp (Option.some.inj e).symm),
    h.h1.kept fun b e => hg.block b (by subst e; exact h.h1.lt) (fun e2 => h.ne b e e2.symm), hm,
    own_of_blk h.ho fun g hg2 => hg.block g (h.ho.lt g hg2).2 (fun e2 => map_own h.h2 h.ho (by rw [hg2]; exact e2)), h.ne⟩
theorem Bun.app {orf' : Value} {no' : Nat} {os' : List Value} (h : Bun w B F p CF CP fmo smo n1 n2 f1 f2 orf no os) (hg : w.grownBy w' orf.ownBlock) (ho : w'.ownsRow B 104 1 orf' no' os') : Bun w' B F p CF CP fmo smo n1 n2 f1 f2 orf' no' os' :=
  ⟨grown_blk hg h.hF (fun e => own_far3 h.ho h.hF (by decide) e.symm), grown_blk hg h.hp (fun e => own_far3 h.ho h.hp (by decide) e.symm),
    h.h1.kept fun b e => hg.block b (by subst e; exact h.h1.lt) (fun e2 => by subst e; exact map_own h.h1 h.ho e2.symm), h.h2.kept fun b e => hg.block b (by subst e; exact h.h2.lt) (fun e2 => by subst e; exact map_own h.h2 h.ho e2.symm), ho, h.ne⟩
theorem Bun.mk1 (h : Bun w B F p CF CP none smo n1 n2 f1 f2 orf no os) : Bun (w.alloc (.map #[] 0)) B F p CF CP (some w.heap.size) smo 0 n2 (fun _ => none) f2 orf no os := by
  have k := h.kept ((Below.refl _ _).alloc (Nat.le_refl _) (.map #[] 0))
  exact ⟨k.hF, k.hp, PMap.made enT w _ _, k.h2, k.ho, fun b e e2 => by
    cases e
    subst e2
    exact absurd h.h2.lt (Nat.lt_irrefl _)⟩
theorem Bun.mk2 (h : Bun w B F p CF CP fmo none n1 n2 f1 f2 orf no os) : Bun (w.alloc (.map #[] 0)) B F p CF CP fmo (some w.heap.size) n1 0 f1 (fun _ => none) orf no os := by
  have k := h.kept ((Below.refl _ _).alloc (Nat.le_refl _) (.map #[] 0))
  exact ⟨k.hF, k.hp, k.h1, PMap.made enB w _ _, k.ho, fun b e e2 => by
    cases e2
    subst e
    exact absurd h.h1.lt (Nat.lt_irrefl _)⟩
end
/-- What may change. -/
def AddX (F p : Nat) (fmo smo : Option Nat) (orf : Value) : Nat → Prop := fun b => b = F ∨ b = p ∨ fmo = some b ∨ smo = some b ∨ orf.ownBlock = some b
/-- What AddFlag leaves. -/
def AddEnd (w : World) (B F p k : Nat) (C : Value → Value → Value → Array Value) (C1 : Array Value) (f1 : Txt → Option Nat) (f2 : UInt8 → Option Nat) (orf : Value) (fmo smo : Option Nat) (os : List Value) (e : Ending) (w' : World) : Prop :=
  e = .returned (.tuple #[]) ∧ (∃ fmo' smo' orf' n1 n2, Bun w' B F p (C (.map fmo') orf' (.map smo')) C1 fmo' smo' n1 n2 f1 f2 orf' (k + 1) os ∧ n1 ≤ k + 1 ∧ n2 ≤ k + 1 ∧ (∀ b, fmo' = some b → fmo = some b ∨ w.heap.size ≤ b) ∧ (∀ b, smo' = some b → smo = some b ∨ w.heap.size ≤ b) ∧ (∀ g, orf'.ownBlock = some g → orf.ownBlock = some g ∨ w.heap.size ≤ g)) ∧ Ch w w' (AddX F p fmo smo orf)

set_option maxRecDepth 100000 in
set_option maxHeartbeats 3200000 in
theorem addFlag_some_no (B F p k fold : Nat) (mf : Nat) (smo : Option Nat) (nm NM : ByteArray) (ow n1 n2 : Nat) (unk parsed inter : Bool) (act ord orf av nf : Value) (dash : Int) (os : List Value) (f1 : Txt → Option Nat) (f2 : UInt8 → Option Nat) (w : World)
    (hb : Bun w B F p (fsCells unk parsed act ord (.map (some mf)) orf (.map smo) av dash inter nf) (flCells nm ⟨#[]⟩ ow false ⟨#[]⟩) (some mf) smo n1 n2 f1 f2 orf k os)
    (hnorm : NormAt w F fold) (hs : nm.size ≤ 17179869184) (hNM : Hid (NM = mkT (foldT fold nm.data.toList)))
    (hn1 : Hid (f1 NM.data.toList = none)) (hB : B ≤ w.heap.size) (hk : k ≤ 17179869184) (hk1 : n1 ≤ k) (hk2 : n2 ≤ k) :
    Calls Try.prog 96 #[.pointer (some ⟨F, 0, none⟩), .pointer (some ⟨p, 0, none⟩)] w
      (AddEnd w B F p k (fun fml orf shr => fsCells unk parsed act ord fml orf shr av dash inter nf) (flCells NM ⟨#[]⟩ ow false ⟨#[]⟩) (fun z => if z = NM.data.toList then some p else f1 z) f2 orf (some mf) smo (os ++ [.pointer (some ⟨p, 0, none⟩)])) := by
  obtain ⟨ti, hi, hz0, hz1, hz2⟩ := info_parts Try.infoP
  have HN := Lib.hid (norm_any F fold nm hs w hnorm)
  rw [← hNM.out] at HN
  have hNs : NM.size ≤ 17179869184 := by rw [hNM.out, mkT_size]; simp [foldT]; exact hs
  have HKN := Lib.hid (key_txt NM (by omega))
  have hFp : F ≠ p := hb.nFp
  have hpF : p ≠ F := Ne.symm hFp
  have e0 := hb.cP 0 (v := .string nm) rfl
  have z0 := free_blk hb.hp 0
  have CH0 := Lib.hid (Ch.refl w (AddX F p (some mf) smo orf))
  have HB0 := Lib.hid hb
  have qm := fun (w : World) (r : Option Nat) => run_eql_map_nil (P := Try.prog) w 128 113 104 r Try.underlying128
  have qb := fun (w : World) (r : Option Nat) => run_eql_map_nil (P := Try.prog) w 129 5 104 r Try.underlying129
  have hmm := @run_makeMap Try.prog
  clear hnorm hs hb
  go_enter Try.func96, Try.ntmps96
  go_wp2_with (first
    | (go_at_call 95; go_loud (refine (HN.out).mono ?_; rintro e w1 ⟨rfl, hbw⟩; have B1 := Lib.hid (HB0.out.kept hbw); have hlk := B1.out.h1.look Try.kN Try.underlying128 (Try.zP w1) HKN.out; rw [hn1.out] at hlk; unfold lookR at hlk; have c8 := B1.out.cF 8 (v := .map (some mf)) rfl; have z8 := free_blk B1.out.hF 8; have y0 := B1.out.cP 0 (v := .string nm) rfl; have zy := free_blk B1.out.hp 0; have CH1 := Lib.hid (CH0.out.trans (.of_below hbw _)); have hl1 := hbw.size; have lF1 := lt_of_block B1.out.hF; have lp1 := lt_of_block B1.out.hp; have B2 := Lib.hid (B1.out.setP 0 (.string NM)); have CH2 := Lib.hid (CH1.out.set ⟨p, 0, none⟩ (.string NM) (fun _ => .inr (.inl rfl)))))
    | (at_mapUpdate; refine wpList_put_ptr _ rfl _ _ _ 128 rfl 113 104 Try.kN Try.underlying128 enT_inj mf n1 f1 rfl B2.out.h1 (by unfold maxLen; omega) _ p NM.data.toList rfl rfl HKN.out ?_; intro w3 hm3 hg3; have B3 := Lib.hid (B2.out.put1 hg3 hm3); have CH3 := Lib.hid (CH2.out.grown hg3 (fun b _ e => .inr (.inr (.inl e.symm)))); have c9 := B3.out.cF 9 (v := orf) rfl; have z9 := free_blk B3.out.hF 9; have hl3 : w1.heap.size ≤ w3.heap.size := (by have := hg3.size; simp at this; omega); have B4 := Lib.hid (B3.out.kept ((Below.refl _ _).alloc (Nat.le_refl _) (.cells #[.pointer (some ⟨p, 0, none⟩)] 104))))
    | (at_builtin; refine wpList_append_lies _ rfl (.tmp 48) (.tmp 50) 88 rfl B 104 ti _ 1 8 Try.underlying88 hi hz0 hz1 hz2 rfl (by decide) _ k _ rfl B4.out.ho ⟨w3.heap.size, 0, none⟩ 1 1 [.pointer (some ⟨p, 0, none⟩)] rfl rfl (World.news_of_block (cs := #[.pointer (some ⟨p, 0, none⟩)]) (t := 104) (fr := (0, 0)) (heap_alloc_new w3 _)) (by simp [Value.oneCell']) (by omega) (by unfold maxLen; omega) (by omega) (by simp; omega) (w3.heap.size + 1) (by simp) ?_; intro g5 cap5 w5 hown5 hg5 hat5 hlt5; have B5 := Lib.hid ((B4.out.app hg5 hown5).setF 9 (.slice (some ⟨g5, 0, none⟩) (k + 1) cap5)); have CH5 := Lib.hid (((CH3.out.alloc (.cells #[.pointer (some ⟨p, 0, none⟩)] 104)).grown hg5 (fun b _ e => .inr (.inr (.inr (.inr e.symm))))).set ⟨F, 9, none⟩ (.slice (some ⟨g5, 0, none⟩) (k + 1) cap5) (fun _ => .inl rfl)); have c5 := (B4.out.app hg5 hown5).cF 9 (v := orf) rfl; have z5 := free_blk (B4.out.app hg5 hown5).hF 9; have d1 := (B4.out.app hg5 hown5).cP 1 (v := .string ⟨#[]⟩) rfl; have lF5 := lt_of_block (B4.out.app hg5 hown5).hF; have lp5 := lt_of_block (B4.out.app hg5 hown5).hp; have HG5 : Hid (∀ g, (Value.slice (some ⟨g5, 0, none⟩) (k + 1) cap5).ownBlock = some g → orf.ownBlock = some g ∨ w.heap.size ≤ g) := (fun g hg => by simp only [Value.ownBlock, Option.some.injEq] at hg; subst hg; rcases hat5 with h | h; exact .inl h; exact .inr (by omega))))
  go_end0
  exact ⟨rfl, ⟨some mf, smo, .slice (some ⟨g5, 0, none⟩) (k + 1) cap5, _, _, B5.out, by omega, by omega, fun b h => .inl h, fun b h => .inl h, HG5.out⟩, CH5.out⟩

set_option maxRecDepth 100000 in
set_option maxHeartbeats 3200000 in
theorem addFlag_some_some (B F p k fold : Nat) (mf : Nat) (ms : Nat) (sb : ByteArray) (hsb0 : 0 < sb.size) (hsb1 : sb.size ≤ 1) (nm NM : ByteArray) (ow n1 n2 : Nat) (unk parsed inter : Bool) (act ord orf av nf : Value) (dash : Int) (os : List Value) (f1 : Txt → Option Nat) (f2 : UInt8 → Option Nat) (w : World)
    (hb : Bun w B F p (fsCells unk parsed act ord (.map (some mf)) orf (.map (some ms)) av dash inter nf) (flCells nm sb ow false ⟨#[]⟩) (some mf) (some ms) n1 n2 f1 f2 orf k os)
    (hnorm : NormAt w F fold) (hs : nm.size ≤ 17179869184) (hNM : Hid (NM = mkT (foldT fold nm.data.toList)))
    (hn1 : Hid (f1 NM.data.toList = none)) (hn2 : Hid (f2 sb[0] = none)) (hB : B ≤ w.heap.size) (hk : k ≤ 17179869184) (hk1 : n1 ≤ k) (hk2 : n2 ≤ k) :
    Calls Try.prog 96 #[.pointer (some ⟨F, 0, none⟩), .pointer (some ⟨p, 0, none⟩)] w
      (AddEnd w B F p k (fun fml orf shr => fsCells unk parsed act ord fml orf shr av dash inter nf) (flCells NM sb ow false ⟨#[]⟩) (fun z => if z = NM.data.toList then some p else f1 z) (fun z => if z = sb[0] then some p else f2 z) orf (some mf) (some ms) (os ++ [.pointer (some ⟨p, 0, none⟩)])) := by
  obtain ⟨ti, hi, hz0, hz1, hz2⟩ := info_parts Try.infoP
  have HN := Lib.hid (norm_any F fold nm hs w hnorm)
  rw [← hNM.out] at HN
  have hNs : NM.size ≤ 17179869184 := by rw [hNM.out, mkT_size]; simp [foldT]; exact hs
  have HKN := Lib.hid (key_txt NM (by omega))
  have hFp : F ≠ p := hb.nFp
  have hpF : p ≠ F := Ne.symm hFp
  have e0 := hb.cP 0 (v := .string nm) rfl
  have z0 := free_blk hb.hp 0
  have CH0 := Lib.hid (Ch.refl w (AddX F p (some mf) (some ms) orf))
  have HB0 := Lib.hid hb
  have qm := fun (w : World) (r : Option Nat) => run_eql_map_nil (P := Try.prog) w 128 113 104 r Try.underlying128
  have qb := fun (w : World) (r : Option Nat) => run_eql_map_nil (P := Try.prog) w 129 5 104 r Try.underlying129
  have hmm := @run_makeMap Try.prog
  have HKB := Lib.hid (key_byte sb[0])
  have n1e := nonempty_list hsb0
  have n2e := nonempty_not hsb0
  have n3e : (sb.size : Int) ≤ 1 := by omega
  clear hnorm hs hb
  go_enter Try.func96, Try.ntmps96
  go_wp2_with (first
    | (go_at_call 95; go_loud (refine (HN.out).mono ?_; rintro e w1 ⟨rfl, hbw⟩; have B1 := Lib.hid (HB0.out.kept hbw); have hlk := B1.out.h1.look Try.kN Try.underlying128 (Try.zP w1) HKN.out; rw [hn1.out] at hlk; unfold lookR at hlk; have c8 := B1.out.cF 8 (v := .map (some mf)) rfl; have z8 := free_blk B1.out.hF 8; have y0 := B1.out.cP 0 (v := .string nm) rfl; have zy := free_blk B1.out.hp 0; have CH1 := Lib.hid (CH0.out.trans (.of_below hbw _)); have hl1 := hbw.size; have lF1 := lt_of_block B1.out.hF; have lp1 := lt_of_block B1.out.hp; have B2 := Lib.hid (B1.out.setP 0 (.string NM)); have CH2 := Lib.hid (CH1.out.set ⟨p, 0, none⟩ (.string NM) (fun _ => .inr (.inl rfl)))))
    | (at_mapUpdate; refine wpList_put_ptr _ rfl _ _ _ 128 rfl 113 104 Try.kN Try.underlying128 enT_inj mf n1 f1 rfl B2.out.h1 (by unfold maxLen; omega) _ p NM.data.toList rfl rfl HKN.out ?_; intro w3 hm3 hg3; have B3 := Lib.hid (B2.out.put1 hg3 hm3); have CH3 := Lib.hid (CH2.out.grown hg3 (fun b _ e => .inr (.inr (.inl e.symm)))); have c9 := B3.out.cF 9 (v := orf) rfl; have z9 := free_blk B3.out.hF 9; have hl3 : w1.heap.size ≤ w3.heap.size := (by have := hg3.size; simp at this; omega); have B4 := Lib.hid (B3.out.kept ((Below.refl _ _).alloc (Nat.le_refl _) (.cells #[.pointer (some ⟨p, 0, none⟩)] 104))))
    | (at_builtin; refine wpList_append_lies _ rfl (.tmp 48) (.tmp 50) 88 rfl B 104 ti _ 1 8 Try.underlying88 hi hz0 hz1 hz2 rfl (by decide) _ k _ rfl B4.out.ho ⟨w3.heap.size, 0, none⟩ 1 1 [.pointer (some ⟨p, 0, none⟩)] rfl rfl (World.news_of_block (cs := #[.pointer (some ⟨p, 0, none⟩)]) (t := 104) (fr := (0, 0)) (heap_alloc_new w3 _)) (by simp [Value.oneCell']) (by omega) (by unfold maxLen; omega) (by omega) (by simp; omega) (w3.heap.size + 1) (by simp) ?_; intro g5 cap5 w5 hown5 hg5 hat5 hlt5; have B5 := Lib.hid ((B4.out.app hg5 hown5).setF 9 (.slice (some ⟨g5, 0, none⟩) (k + 1) cap5)); have CH5 := Lib.hid (((CH3.out.alloc (.cells #[.pointer (some ⟨p, 0, none⟩)] 104)).grown hg5 (fun b _ e => .inr (.inr (.inr (.inr e.symm))))).set ⟨F, 9, none⟩ (.slice (some ⟨g5, 0, none⟩) (k + 1) cap5) (fun _ => .inl rfl)); have c5 := (B4.out.app hg5 hown5).cF 9 (v := orf) rfl; have z5 := free_blk (B4.out.app hg5 hown5).hF 9; have d1 := (B4.out.app hg5 hown5).cP 1 (v := .string sb) rfl; have lF5 := lt_of_block (B4.out.app hg5 hown5).hF; have lp5 := lt_of_block (B4.out.app hg5 hown5).hp; have c11 := (B4.out.app hg5 hown5).cF 11 (v := .map (some ms)) rfl; have z11 := free_blk (B4.out.app hg5 hown5).hF 11; have B6 := B5; have CH6 := CH5; have hlk2 := B6.out.h2.look Try.kB Try.underlying129 (Try.zP _) HKB.out; rw [hn2.out] at hlk2; unfold lookR at hlk2; have HG5 : Hid (∀ g, (Value.slice (some ⟨g5, 0, none⟩) (k + 1) cap5).ownBlock = some g → orf.ownBlock = some g ∨ w.heap.size ≤ g) := (fun g hg => by simp only [Value.ownBlock, Option.some.injEq] at hg; subst hg; rcases hat5 with h | h; exact .inl h; exact .inr (by omega)))
    | (at_mapUpdate; refine wpList_put_ptr _ rfl _ _ _ 129 rfl 5 104 Try.kB Try.underlying129 enB_inj ms n2 f2 rfl B6.out.h2 (by unfold maxLen; omega) _ p sb[0] rfl rfl HKB.out ?_; intro w7 hm7 hg7; have B7 := Lib.hid (B6.out.put2 hg7 hm7); have CH7 := Lib.hid (CH6.out.grown hg7 (fun b _ e => .inr (.inr (.inr (.inl e.symm)))))))
  go_end0
  exact ⟨rfl, ⟨some mf, some ms, .slice (some ⟨g5, 0, none⟩) (k + 1) cap5, _, _, B7.out, by omega, by omega, fun b h => .inl h, fun b h => .inl h, HG5.out⟩, CH7.out⟩

set_option maxRecDepth 100000 in
set_option maxHeartbeats 3200000 in
theorem addFlag_some_none (B F p k fold : Nat) (mf : Nat) (sb : ByteArray) (hsb0 : 0 < sb.size) (hsb1 : sb.size ≤ 1) (nm NM : ByteArray) (ow n1 n2 : Nat) (unk parsed inter : Bool) (act ord orf av nf : Value) (dash : Int) (os : List Value) (f1 : Txt → Option Nat) (f2 : UInt8 → Option Nat) (w : World)
    (hb : Bun w B F p (fsCells unk parsed act ord (.map (some mf)) orf (.map none) av dash inter nf) (flCells nm sb ow false ⟨#[]⟩) (some mf) none n1 n2 f1 f2 orf k os)
    (hnorm : NormAt w F fold) (hs : nm.size ≤ 17179869184) (hNM : Hid (NM = mkT (foldT fold nm.data.toList)))
    (hn1 : Hid (f1 NM.data.toList = none)) (hn2 : Hid (f2 sb[0] = none)) (hB : B ≤ w.heap.size) (hk : k ≤ 17179869184) (hk1 : n1 ≤ k) (hk2 : n2 ≤ k) :
    Calls Try.prog 96 #[.pointer (some ⟨F, 0, none⟩), .pointer (some ⟨p, 0, none⟩)] w
      (AddEnd w B F p k (fun fml orf shr => fsCells unk parsed act ord fml orf shr av dash inter nf) (flCells NM sb ow false ⟨#[]⟩) (fun z => if z = NM.data.toList then some p else f1 z) (fun z => if z = sb[0] then some p else f2 z) orf (some mf) none (os ++ [.pointer (some ⟨p, 0, none⟩)])) := by
  obtain ⟨ti, hi, hz0, hz1, hz2⟩ := info_parts Try.infoP
  have HN := Lib.hid (norm_any F fold nm hs w hnorm)
  rw [← hNM.out] at HN
  have hNs : NM.size ≤ 17179869184 := by rw [hNM.out, mkT_size]; simp [foldT]; exact hs
  have HKN := Lib.hid (key_txt NM (by omega))
  have hFp : F ≠ p := hb.nFp
  have hpF : p ≠ F := Ne.symm hFp
  have e0 := hb.cP 0 (v := .string nm) rfl
  have z0 := free_blk hb.hp 0
  have CH0 := Lib.hid (Ch.refl w (AddX F p (some mf) none orf))
  have HB0 := Lib.hid hb
  obtain rfl : f2 = fun _ => none := funext hb.h2
  have qm := fun (w : World) (r : Option Nat) => run_eql_map_nil (P := Try.prog) w 128 113 104 r Try.underlying128
  have qb := fun (w : World) (r : Option Nat) => run_eql_map_nil (P := Try.prog) w 129 5 104 r Try.underlying129
  have hmm := @run_makeMap Try.prog
  have HKB := Lib.hid (key_byte sb[0])
  have n1e := nonempty_list hsb0
  have n2e := nonempty_not hsb0
  have n3e : (sb.size : Int) ≤ 1 := by omega
  clear hnorm hs hb
  go_enter Try.func96, Try.ntmps96
  go_wp2_with (first
    | (go_at_call 95; go_loud (refine (HN.out).mono ?_; rintro e w1 ⟨rfl, hbw⟩; have B1 := Lib.hid (HB0.out.kept hbw); have hlk := B1.out.h1.look Try.kN Try.underlying128 (Try.zP w1) HKN.out; rw [hn1.out] at hlk; unfold lookR at hlk; have c8 := B1.out.cF 8 (v := .map (some mf)) rfl; have z8 := free_blk B1.out.hF 8; have y0 := B1.out.cP 0 (v := .string nm) rfl; have zy := free_blk B1.out.hp 0; have CH1 := Lib.hid (CH0.out.trans (.of_below hbw _)); have hl1 := hbw.size; have lF1 := lt_of_block B1.out.hF; have lp1 := lt_of_block B1.out.hp; have B2 := Lib.hid (B1.out.setP 0 (.string NM)); have CH2 := Lib.hid (CH1.out.set ⟨p, 0, none⟩ (.string NM) (fun _ => .inr (.inl rfl)))))
    | (at_mapUpdate; refine wpList_put_ptr _ rfl _ _ _ 128 rfl 113 104 Try.kN Try.underlying128 enT_inj mf n1 f1 rfl B2.out.h1 (by unfold maxLen; omega) _ p NM.data.toList rfl rfl HKN.out ?_; intro w3 hm3 hg3; have B3 := Lib.hid (B2.out.put1 hg3 hm3); have CH3 := Lib.hid (CH2.out.grown hg3 (fun b _ e => .inr (.inr (.inl e.symm)))); have c9 := B3.out.cF 9 (v := orf) rfl; have z9 := free_blk B3.out.hF 9; have hl3 : w1.heap.size ≤ w3.heap.size := (by have := hg3.size; simp at this; omega); have B4 := Lib.hid (B3.out.kept ((Below.refl _ _).alloc (Nat.le_refl _) (.cells #[.pointer (some ⟨p, 0, none⟩)] 104))))
    | (at_builtin; refine wpList_append_lies _ rfl (.tmp 48) (.tmp 50) 88 rfl B 104 ti _ 1 8 Try.underlying88 hi hz0 hz1 hz2 rfl (by decide) _ k _ rfl B4.out.ho ⟨w3.heap.size, 0, none⟩ 1 1 [.pointer (some ⟨p, 0, none⟩)] rfl rfl (World.news_of_block (cs := #[.pointer (some ⟨p, 0, none⟩)]) (t := 104) (fr := (0, 0)) (heap_alloc_new w3 _)) (by simp [Value.oneCell']) (by omega) (by unfold maxLen; omega) (by omega) (by simp; omega) (w3.heap.size + 1) (by simp) ?_; intro g5 cap5 w5 hown5 hg5 hat5 hlt5; have B5 := Lib.hid ((B4.out.app hg5 hown5).setF 9 (.slice (some ⟨g5, 0, none⟩) (k + 1) cap5)); have CH5 := Lib.hid (((CH3.out.alloc (.cells #[.pointer (some ⟨p, 0, none⟩)] 104)).grown hg5 (fun b _ e => .inr (.inr (.inr (.inr e.symm))))).set ⟨F, 9, none⟩ (.slice (some ⟨g5, 0, none⟩) (k + 1) cap5) (fun _ => .inl rfl)); have c5 := (B4.out.app hg5 hown5).cF 9 (v := orf) rfl; have z5 := free_blk (B4.out.app hg5 hown5).hF 9; have d1 := (B4.out.app hg5 hown5).cP 1 (v := .string sb) rfl; have lF5 := lt_of_block (B4.out.app hg5 hown5).hF; have lp5 := lt_of_block (B4.out.app hg5 hown5).hp; have c11 := (B4.out.app hg5 hown5).cF 11 (v := .map none) rfl; have z11 := free_blk (B4.out.app hg5 hown5).hF 11; have B6 := (by have h := (B5.out.setF 11 (.map (some w5.heap.size))).mk2; rw [show ((w5.setCell ⟨F, 9, none⟩ (.slice (some ⟨g5, 0, none⟩) (k + 1) cap5)).setCell ⟨F, 11, none⟩ (.map (some w5.heap.size))).heap.size = w5.heap.size by simp] at h; exact Lib.hid h); have CH6 := Lib.hid ((CH5.out.set ⟨F, 11, none⟩ (.map (some w5.heap.size)) (fun _ => .inl rfl)).alloc (.map #[] 0)); have hl5 : w.heap.size ≤ w5.heap.size := (by have := hg5.size; simp at this; omega); have hlk2 := B6.out.h2.look Try.kB Try.underlying129 (Try.zP _) HKB.out; unfold lookR at hlk2; have HG5 : Hid (∀ g, (Value.slice (some ⟨g5, 0, none⟩) (k + 1) cap5).ownBlock = some g → orf.ownBlock = some g ∨ w.heap.size ≤ g) := (fun g hg => by simp only [Value.ownBlock, Option.some.injEq] at hg; subst hg; rcases hat5 with h | h; exact .inl h; exact .inr (by omega)))
    | (at_mapUpdate; refine wpList_put_ptr _ rfl _ _ _ 129 rfl 5 104 Try.kB Try.underlying129 enB_inj w5.heap.size 0 (fun _ => none) rfl B6.out.h2 (by unfold maxLen; omega) _ p sb[0] rfl rfl HKB.out ?_; intro w7 hm7 hg7; have B7 := Lib.hid (B6.out.put2 hg7 hm7); have CH7 := Lib.hid (CH6.out.grown hg7 (fun b hb e => by cases e; omega))))
  go_end0
  exact ⟨rfl, ⟨some mf, some w5.heap.size, .slice (some ⟨g5, 0, none⟩) (k + 1) cap5, _, _, B7.out, by omega, by omega, fun b h => .inl h, fun b h => by cases h; exact .inr hl5, HG5.out⟩, CH7.out⟩

set_option maxRecDepth 100000 in
set_option maxHeartbeats 3200000 in
theorem addFlag_none_no (B F p k fold : Nat) (smo : Option Nat) (nm NM : ByteArray) (ow n1 n2 : Nat) (unk parsed inter : Bool) (act ord orf av nf : Value) (dash : Int) (os : List Value) (f1 : Txt → Option Nat) (f2 : UInt8 → Option Nat) (w : World)
    (hb : Bun w B F p (fsCells unk parsed act ord (.map none) orf (.map smo) av dash inter nf) (flCells nm ⟨#[]⟩ ow false ⟨#[]⟩) none smo n1 n2 f1 f2 orf k os)
    (hnorm : NormAt w F fold) (hs : nm.size ≤ 17179869184) (hNM : Hid (NM = mkT (foldT fold nm.data.toList)))
    (hn1 : Hid (f1 NM.data.toList = none)) (hB : B ≤ w.heap.size) (hk : k ≤ 17179869184) (hk1 : n1 ≤ k) (hk2 : n2 ≤ k) :
    Calls Try.prog 96 #[.pointer (some ⟨F, 0, none⟩), .pointer (some ⟨p, 0, none⟩)] w
      (AddEnd w B F p k (fun fml orf shr => fsCells unk parsed act ord fml orf shr av dash inter nf) (flCells NM ⟨#[]⟩ ow false ⟨#[]⟩) (fun z => if z = NM.data.toList then some p else f1 z) f2 orf none smo (os ++ [.pointer (some ⟨p, 0, none⟩)])) := by
  obtain ⟨ti, hi, hz0, hz1, hz2⟩ := info_parts Try.infoP
  have HN := Lib.hid (norm_any F fold nm hs w hnorm)
  rw [← hNM.out] at HN
  have hNs : NM.size ≤ 17179869184 := by rw [hNM.out, mkT_size]; simp [foldT]; exact hs
  have HKN := Lib.hid (key_txt NM (by omega))
  have hFp : F ≠ p := hb.nFp
  have hpF : p ≠ F := Ne.symm hFp
  have e0 := hb.cP 0 (v := .string nm) rfl
  have z0 := free_blk hb.hp 0
  have CH0 := Lib.hid (Ch.refl w (AddX F p none smo orf))
  have HB0 := Lib.hid hb
  obtain rfl : f1 = fun _ => none := funext hb.h1
  have qm := fun (w : World) (r : Option Nat) => run_eql_map_nil (P := Try.prog) w 128 113 104 r Try.underlying128
  have qb := fun (w : World) (r : Option Nat) => run_eql_map_nil (P := Try.prog) w 129 5 104 r Try.underlying129
  have hmm := @run_makeMap Try.prog
  clear hnorm hs hb
  go_enter Try.func96, Try.ntmps96
  go_wp2_with (first
    | (go_at_call 95; go_loud (refine (HN.out).mono ?_; rintro e w1 ⟨rfl, hbw⟩; have B1 := Lib.hid (HB0.out.kept hbw); have hlk := B1.out.h1.look Try.kN Try.underlying128 (Try.zP w1) HKN.out; unfold lookR at hlk; have c8 := B1.out.cF 8 (v := .map none) rfl; have z8 := free_blk B1.out.hF 8; have y0 := B1.out.cP 0 (v := .string nm) rfl; have zy := free_blk B1.out.hp 0; have CH1 := Lib.hid (CH0.out.trans (.of_below hbw _)); have hl1 := hbw.size; have lF1 := lt_of_block B1.out.hF; have lp1 := lt_of_block B1.out.hp; have B2 := (by have h := ((B1.out.setF 8 (.map (some w1.heap.size))).setP 0 (.string NM)).mk1; rw [show ((w1.setCell ⟨F, 8, none⟩ (.map (some w1.heap.size))).setCell ⟨p, 0, none⟩ (.string NM)).heap.size = w1.heap.size by simp] at h; exact Lib.hid h); have CH2 := Lib.hid (((CH1.out.set ⟨F, 8, none⟩ (.map (some w1.heap.size)) (fun _ => .inl rfl)).set ⟨p, 0, none⟩ (.string NM) (fun _ => .inr (.inl rfl))).alloc (.map #[] 0))))
    | (at_mapUpdate; refine wpList_put_ptr _ rfl _ _ _ 128 rfl 113 104 Try.kN Try.underlying128 enT_inj w1.heap.size 0 (fun _ => none) rfl B2.out.h1 (by unfold maxLen; omega) _ p NM.data.toList rfl rfl HKN.out ?_; intro w3 hm3 hg3; have B3 := Lib.hid (B2.out.put1 hg3 hm3); have CH3 := Lib.hid (CH2.out.grown hg3 (fun b hb e => by cases e; omega)); have c9 := B3.out.cF 9 (v := orf) rfl; have z9 := free_blk B3.out.hF 9; have hl3 : w1.heap.size ≤ w3.heap.size := (by have := hg3.size; simp at this; omega); have B4 := Lib.hid (B3.out.kept ((Below.refl _ _).alloc (Nat.le_refl _) (.cells #[.pointer (some ⟨p, 0, none⟩)] 104))))
    | (at_builtin; refine wpList_append_lies _ rfl (.tmp 48) (.tmp 50) 88 rfl B 104 ti _ 1 8 Try.underlying88 hi hz0 hz1 hz2 rfl (by decide) _ k _ rfl B4.out.ho ⟨w3.heap.size, 0, none⟩ 1 1 [.pointer (some ⟨p, 0, none⟩)] rfl rfl (World.news_of_block (cs := #[.pointer (some ⟨p, 0, none⟩)]) (t := 104) (fr := (0, 0)) (heap_alloc_new w3 _)) (by simp [Value.oneCell']) (by omega) (by unfold maxLen; omega) (by omega) (by simp; omega) (w3.heap.size + 1) (by simp) ?_; intro g5 cap5 w5 hown5 hg5 hat5 hlt5; have B5 := Lib.hid ((B4.out.app hg5 hown5).setF 9 (.slice (some ⟨g5, 0, none⟩) (k + 1) cap5)); have CH5 := Lib.hid (((CH3.out.alloc (.cells #[.pointer (some ⟨p, 0, none⟩)] 104)).grown hg5 (fun b _ e => .inr (.inr (.inr (.inr e.symm))))).set ⟨F, 9, none⟩ (.slice (some ⟨g5, 0, none⟩) (k + 1) cap5) (fun _ => .inl rfl)); have c5 := (B4.out.app hg5 hown5).cF 9 (v := orf) rfl; have z5 := free_blk (B4.out.app hg5 hown5).hF 9; have d1 := (B4.out.app hg5 hown5).cP 1 (v := .string ⟨#[]⟩) rfl; have lF5 := lt_of_block (B4.out.app hg5 hown5).hF; have lp5 := lt_of_block (B4.out.app hg5 hown5).hp; have HG5 : Hid (∀ g, (Value.slice (some ⟨g5, 0, none⟩) (k + 1) cap5).ownBlock = some g → orf.ownBlock = some g ∨ w.heap.size ≤ g) := (fun g hg => by simp only [Value.ownBlock, Option.some.injEq] at hg; subst hg; rcases hat5 with h | h; exact .inl h; exact .inr (by omega))))
  go_end0
  exact ⟨rfl, ⟨some w1.heap.size, smo, .slice (some ⟨g5, 0, none⟩) (k + 1) cap5, _, _, B5.out, by omega, by omega, fun b h => by cases h; exact .inr hl1, fun b h => .inl h, HG5.out⟩, CH5.out⟩

set_option maxRecDepth 100000 in
set_option maxHeartbeats 3200000 in
theorem addFlag_none_some (B F p k fold : Nat) (ms : Nat) (sb : ByteArray) (hsb0 : 0 < sb.size) (hsb1 : sb.size ≤ 1) (nm NM : ByteArray) (ow n1 n2 : Nat) (unk parsed inter : Bool) (act ord orf av nf : Value) (dash : Int) (os : List Value) (f1 : Txt → Option Nat) (f2 : UInt8 → Option Nat) (w : World)
    (hb : Bun w B F p (fsCells unk parsed act ord (.map none) orf (.map (some ms)) av dash inter nf) (flCells nm sb ow false ⟨#[]⟩) none (some ms) n1 n2 f1 f2 orf k os)
    (hnorm : NormAt w F fold) (hs : nm.size ≤ 17179869184) (hNM : Hid (NM = mkT (foldT fold nm.data.toList)))
    (hn1 : Hid (f1 NM.data.toList = none)) (hn2 : Hid (f2 sb[0] = none)) (hB : B ≤ w.heap.size) (hk : k ≤ 17179869184) (hk1 : n1 ≤ k) (hk2 : n2 ≤ k) :
    Calls Try.prog 96 #[.pointer (some ⟨F, 0, none⟩), .pointer (some ⟨p, 0, none⟩)] w
      (AddEnd w B F p k (fun fml orf shr => fsCells unk parsed act ord fml orf shr av dash inter nf) (flCells NM sb ow false ⟨#[]⟩) (fun z => if z = NM.data.toList then some p else f1 z) (fun z => if z = sb[0] then some p else f2 z) orf none (some ms) (os ++ [.pointer (some ⟨p, 0, none⟩)])) := by
  obtain ⟨ti, hi, hz0, hz1, hz2⟩ := info_parts Try.infoP
  have HN := Lib.hid (norm_any F fold nm hs w hnorm)
  rw [← hNM.out] at HN
  have hNs : NM.size ≤ 17179869184 := by rw [hNM.out, mkT_size]; simp [foldT]; exact hs
  have HKN := Lib.hid (key_txt NM (by omega))
  have hFp : F ≠ p := hb.nFp
  have hpF : p ≠ F := Ne.symm hFp
  have e0 := hb.cP 0 (v := .string nm) rfl
  have z0 := free_blk hb.hp 0
  have CH0 := Lib.hid (Ch.refl w (AddX F p none (some ms) orf))
  have HB0 := Lib.hid hb
  obtain rfl : f1 = fun _ => none := funext hb.h1
  have qm := fun (w : World) (r : Option Nat) => run_eql_map_nil (P := Try.prog) w 128 113 104 r Try.underlying128
  have qb := fun (w : World) (r : Option Nat) => run_eql_map_nil (P := Try.prog) w 129 5 104 r Try.underlying129
  have hmm := @run_makeMap Try.prog
  have HKB := Lib.hid (key_byte sb[0])
  have n1e := nonempty_list hsb0
  have n2e := nonempty_not hsb0
  have n3e : (sb.size : Int) ≤ 1 := by omega
  clear hnorm hs hb
  go_enter Try.func96, Try.ntmps96
  go_wp2_with (first
    | (go_at_call 95; go_loud (refine (HN.out).mono ?_; rintro e w1 ⟨rfl, hbw⟩; have B1 := Lib.hid (HB0.out.kept hbw); have hlk := B1.out.h1.look Try.kN Try.underlying128 (Try.zP w1) HKN.out; unfold lookR at hlk; have c8 := B1.out.cF 8 (v := .map none) rfl; have z8 := free_blk B1.out.hF 8; have y0 := B1.out.cP 0 (v := .string nm) rfl; have zy := free_blk B1.out.hp 0; have CH1 := Lib.hid (CH0.out.trans (.of_below hbw _)); have hl1 := hbw.size; have lF1 := lt_of_block B1.out.hF; have lp1 := lt_of_block B1.out.hp; have B2 := (by have h := ((B1.out.setF 8 (.map (some w1.heap.size))).setP 0 (.string NM)).mk1; rw [show ((w1.setCell ⟨F, 8, none⟩ (.map (some w1.heap.size))).setCell ⟨p, 0, none⟩ (.string NM)).heap.size = w1.heap.size by simp] at h; exact Lib.hid h); have CH2 := Lib.hid (((CH1.out.set ⟨F, 8, none⟩ (.map (some w1.heap.size)) (fun _ => .inl rfl)).set ⟨p, 0, none⟩ (.string NM) (fun _ => .inr (.inl rfl))).alloc (.map #[] 0))))
    | (at_mapUpdate; refine wpList_put_ptr _ rfl _ _ _ 128 rfl 113 104 Try.kN Try.underlying128 enT_inj w1.heap.size 0 (fun _ => none) rfl B2.out.h1 (by unfold maxLen; omega) _ p NM.data.toList rfl rfl HKN.out ?_; intro w3 hm3 hg3; have B3 := Lib.hid (B2.out.put1 hg3 hm3); have CH3 := Lib.hid (CH2.out.grown hg3 (fun b hb e => by cases e; omega)); have c9 := B3.out.cF 9 (v := orf) rfl; have z9 := free_blk B3.out.hF 9; have hl3 : w1.heap.size ≤ w3.heap.size := (by have := hg3.size; simp at this; omega); have B4 := Lib.hid (B3.out.kept ((Below.refl _ _).alloc (Nat.le_refl _) (.cells #[.pointer (some ⟨p, 0, none⟩)] 104))))
    | (at_builtin; refine wpList_append_lies _ rfl (.tmp 48) (.tmp 50) 88 rfl B 104 ti _ 1 8 Try.underlying88 hi hz0 hz1 hz2 rfl (by decide) _ k _ rfl B4.out.ho ⟨w3.heap.size, 0, none⟩ 1 1 [.pointer (some ⟨p, 0, none⟩)] rfl rfl (World.news_of_block (cs := #[.pointer (some ⟨p, 0, none⟩)]) (t := 104) (fr := (0, 0)) (heap_alloc_new w3 _)) (by simp [Value.oneCell']) (by omega) (by unfold maxLen; omega) (by omega) (by simp; omega) (w3.heap.size + 1) (by simp) ?_; intro g5 cap5 w5 hown5 hg5 hat5 hlt5; have B5 := Lib.hid ((B4.out.app hg5 hown5).setF 9 (.slice (some ⟨g5, 0, none⟩) (k + 1) cap5)); have CH5 := Lib.hid (((CH3.out.alloc (.cells #[.pointer (some ⟨p, 0, none⟩)] 104)).grown hg5 (fun b _ e => .inr (.inr (.inr (.inr e.symm))))).set ⟨F, 9, none⟩ (.slice (some ⟨g5, 0, none⟩) (k + 1) cap5) (fun _ => .inl rfl)); have c5 := (B4.out.app hg5 hown5).cF 9 (v := orf) rfl; have z5 := free_blk (B4.out.app hg5 hown5).hF 9; have d1 := (B4.out.app hg5 hown5).cP 1 (v := .string sb) rfl; have lF5 := lt_of_block (B4.out.app hg5 hown5).hF; have lp5 := lt_of_block (B4.out.app hg5 hown5).hp; have c11 := (B4.out.app hg5 hown5).cF 11 (v := .map (some ms)) rfl; have z11 := free_blk (B4.out.app hg5 hown5).hF 11; have B6 := B5; have CH6 := CH5; have hlk2 := B6.out.h2.look Try.kB Try.underlying129 (Try.zP _) HKB.out; rw [hn2.out] at hlk2; unfold lookR at hlk2; have HG5 : Hid (∀ g, (Value.slice (some ⟨g5, 0, none⟩) (k + 1) cap5).ownBlock = some g → orf.ownBlock = some g ∨ w.heap.size ≤ g) := (fun g hg => by simp only [Value.ownBlock, Option.some.injEq] at hg; subst hg; rcases hat5 with h | h; exact .inl h; exact .inr (by omega)))
    | (at_mapUpdate; refine wpList_put_ptr _ rfl _ _ _ 129 rfl 5 104 Try.kB Try.underlying129 enB_inj ms n2 f2 rfl B6.out.h2 (by unfold maxLen; omega) _ p sb[0] rfl rfl HKB.out ?_; intro w7 hm7 hg7; have B7 := Lib.hid (B6.out.put2 hg7 hm7); have CH7 := Lib.hid (CH6.out.grown hg7 (fun b _ e => .inr (.inr (.inr (.inl e.symm)))))))
  go_end0
  exact ⟨rfl, ⟨some w1.heap.size, some ms, .slice (some ⟨g5, 0, none⟩) (k + 1) cap5, _, _, B7.out, by omega, by omega, fun b h => by cases h; exact .inr hl1, fun b h => .inl h, HG5.out⟩, CH7.out⟩

set_option maxRecDepth 100000 in
set_option maxHeartbeats 3200000 in
theorem addFlag_none_none (B F p k fold : Nat) (sb : ByteArray) (hsb0 : 0 < sb.size) (hsb1 : sb.size ≤ 1) (nm NM : ByteArray) (ow n1 n2 : Nat) (unk parsed inter : Bool) (act ord orf av nf : Value) (dash : Int) (os : List Value) (f1 : Txt → Option Nat) (f2 : UInt8 → Option Nat) (w : World)
    (hb : Bun w B F p (fsCells unk parsed act ord (.map none) orf (.map none) av dash inter nf) (flCells nm sb ow false ⟨#[]⟩) none none n1 n2 f1 f2 orf k os)
    (hnorm : NormAt w F fold) (hs : nm.size ≤ 17179869184) (hNM : Hid (NM = mkT (foldT fold nm.data.toList)))
    (hn1 : Hid (f1 NM.data.toList = none)) (hn2 : Hid (f2 sb[0] = none)) (hB : B ≤ w.heap.size) (hk : k ≤ 17179869184) (hk1 : n1 ≤ k) (hk2 : n2 ≤ k) :
    Calls Try.prog 96 #[.pointer (some ⟨F, 0, none⟩), .pointer (some ⟨p, 0, none⟩)] w
      (AddEnd w B F p k (fun fml orf shr => fsCells unk parsed act ord fml orf shr av dash inter nf) (flCells NM sb ow false ⟨#[]⟩) (fun z => if z = NM.data.toList then some p else f1 z) (fun z => if z = sb[0] then some p else f2 z) orf none none (os ++ [.pointer (some ⟨p, 0, none⟩)])) := by
  obtain ⟨ti, hi, hz0, hz1, hz2⟩ := info_parts Try.infoP
  have HN := Lib.hid (norm_any F fold nm hs w hnorm)
  rw [← hNM.out] at HN
  have hNs : NM.size ≤ 17179869184 := by rw [hNM.out, mkT_size]; simp [foldT]; exact hs
  have HKN := Lib.hid (key_txt NM (by omega))
  have hFp : F ≠ p := hb.nFp
  have hpF : p ≠ F := Ne.symm hFp
  have e0 := hb.cP 0 (v := .string nm) rfl
  have z0 := free_blk hb.hp 0
  have CH0 := Lib.hid (Ch.refl w (AddX F p none none orf))
  have HB0 := Lib.hid hb
  obtain rfl : f1 = fun _ => none := funext hb.h1
  obtain rfl : f2 = fun _ => none := funext hb.h2
  have qm := fun (w : World) (r : Option Nat) => run_eql_map_nil (P := Try.prog) w 128 113 104 r Try.underlying128
  have qb := fun (w : World) (r : Option Nat) => run_eql_map_nil (P := Try.prog) w 129 5 104 r Try.underlying129
  have hmm := @run_makeMap Try.prog
  have HKB := Lib.hid (key_byte sb[0])
  have n1e := nonempty_list hsb0
  have n2e := nonempty_not hsb0
  have n3e : (sb.size : Int) ≤ 1 := by omega
  clear hnorm hs hb
  go_enter Try.func96, Try.ntmps96
  go_wp2_with (first
    | (go_at_call 95; go_loud (refine (HN.out).mono ?_; rintro e w1 ⟨rfl, hbw⟩; have B1 := Lib.hid (HB0.out.kept hbw); have hlk := B1.out.h1.look Try.kN Try.underlying128 (Try.zP w1) HKN.out; unfold lookR at hlk; have c8 := B1.out.cF 8 (v := .map none) rfl; have z8 := free_blk B1.out.hF 8; have y0 := B1.out.cP 0 (v := .string nm) rfl; have zy := free_blk B1.out.hp 0; have CH1 := Lib.hid (CH0.out.trans (.of_below hbw _)); have hl1 := hbw.size; have lF1 := lt_of_block B1.out.hF; have lp1 := lt_of_block B1.out.hp; have B2 := (by have h := ((B1.out.setF 8 (.map (some w1.heap.size))).setP 0 (.string NM)).mk1; rw [show ((w1.setCell ⟨F, 8, none⟩ (.map (some w1.heap.size))).setCell ⟨p, 0, none⟩ (.string NM)).heap.size = w1.heap.size by simp] at h; exact Lib.hid h); have CH2 := Lib.hid (((CH1.out.set ⟨F, 8, none⟩ (.map (some w1.heap.size)) (fun _ => .inl rfl)).set ⟨p, 0, none⟩ (.string NM) (fun _ => .inr (.inl rfl))).alloc (.map #[] 0))))
    | (at_mapUpdate; refine wpList_put_ptr _ rfl _ _ _ 128 rfl 113 104 Try.kN Try.underlying128 enT_inj w1.heap.size 0 (fun _ => none) rfl B2.out.h1 (by unfold maxLen; omega) _ p NM.data.toList rfl rfl HKN.out ?_; intro w3 hm3 hg3; have B3 := Lib.hid (B2.out.put1 hg3 hm3); have CH3 := Lib.hid (CH2.out.grown hg3 (fun b hb e => by cases e; omega)); have c9 := B3.out.cF 9 (v := orf) rfl; have z9 := free_blk B3.out.hF 9; have hl3 : w1.heap.size ≤ w3.heap.size := (by have := hg3.size; simp at this; omega); have B4 := Lib.hid (B3.out.kept ((Below.refl _ _).alloc (Nat.le_refl _) (.cells #[.pointer (some ⟨p, 0, none⟩)] 104))))
    | (at_builtin; refine wpList_append_lies _ rfl (.tmp 48) (.tmp 50) 88 rfl B 104 ti _ 1 8 Try.underlying88 hi hz0 hz1 hz2 rfl (by decide) _ k _ rfl B4.out.ho ⟨w3.heap.size, 0, none⟩ 1 1 [.pointer (some ⟨p, 0, none⟩)] rfl rfl (World.news_of_block (cs := #[.pointer (some ⟨p, 0, none⟩)]) (t := 104) (fr := (0, 0)) (heap_alloc_new w3 _)) (by simp [Value.oneCell']) (by omega) (by unfold maxLen; omega) (by omega) (by simp; omega) (w3.heap.size + 1) (by simp) ?_; intro g5 cap5 w5 hown5 hg5 hat5 hlt5; have B5 := Lib.hid ((B4.out.app hg5 hown5).setF 9 (.slice (some ⟨g5, 0, none⟩) (k + 1) cap5)); have CH5 := Lib.hid (((CH3.out.alloc (.cells #[.pointer (some ⟨p, 0, none⟩)] 104)).grown hg5 (fun b _ e => .inr (.inr (.inr (.inr e.symm))))).set ⟨F, 9, none⟩ (.slice (some ⟨g5, 0, none⟩) (k + 1) cap5) (fun _ => .inl rfl)); have c5 := (B4.out.app hg5 hown5).cF 9 (v := orf) rfl; have z5 := free_blk (B4.out.app hg5 hown5).hF 9; have d1 := (B4.out.app hg5 hown5).cP 1 (v := .string sb) rfl; have lF5 := lt_of_block (B4.out.app hg5 hown5).hF; have lp5 := lt_of_block (B4.out.app hg5 hown5).hp; have c11 := (B4.out.app hg5 hown5).cF 11 (v := .map none) rfl; have z11 := free_blk (B4.out.app hg5 hown5).hF 11; have B6 := (by have h := (B5.out.setF 11 (.map (some w5.heap.size))).mk2; rw [show ((w5.setCell ⟨F, 9, none⟩ (.slice (some ⟨g5, 0, none⟩) (k + 1) cap5)).setCell ⟨F, 11, none⟩ (.map (some w5.heap.size))).heap.size = w5.heap.size by simp] at h; exact Lib.hid h); have CH6 := Lib.hid ((CH5.out.set ⟨F, 11, none⟩ (.map (some w5.heap.size)) (fun _ => .inl rfl)).alloc (.map #[] 0)); have hl5 : w.heap.size ≤ w5.heap.size := (by have := hg5.size; simp at this; omega); have hlk2 := B6.out.h2.look Try.kB Try.underlying129 (Try.zP _) HKB.out; unfold lookR at hlk2; have HG5 : Hid (∀ g, (Value.slice (some ⟨g5, 0, none⟩) (k + 1) cap5).ownBlock = some g → orf.ownBlock = some g ∨ w.heap.size ≤ g) := (fun g hg => by simp only [Value.ownBlock, Option.some.injEq] at hg; subst hg; rcases hat5 with h | h; exact .inl h; exact .inr (by omega)))
    | (at_mapUpdate; refine wpList_put_ptr _ rfl _ _ _ 129 rfl 5 104 Try.kB Try.underlying129 enB_inj w5.heap.size 0 (fun _ => none) rfl B6.out.h2 (by unfold maxLen; omega) _ p sb[0] rfl rfl HKB.out ?_; intro w7 hm7 hg7; have B7 := Lib.hid (B6.out.put2 hg7 hm7); have CH7 := Lib.hid (CH6.out.grown hg7 (fun b hb e => by cases e; omega))))
  go_end0
  exact ⟨rfl, ⟨some w1.heap.size, some w5.heap.size, .slice (some ⟨g5, 0, none⟩) (k + 1) cap5, _, _, B7.out, by omega, by omega, fun b h => by cases h; exact .inr hl1, fun b h => by cases h; exact .inr hl5, HG5.out⟩, CH7.out⟩
end Go.Proofs.Ytgmhhdpggnmipaa.E
