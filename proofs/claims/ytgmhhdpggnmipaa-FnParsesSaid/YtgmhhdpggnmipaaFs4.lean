/- bare's AddFlag whole, and VarPF, over this seat's program. -/
import Derived.Test.YtgmhhdpggnmipaaFs3
namespace Go.Proofs.Ytgmhhdpggnmipaa.E
open Go.RowKit Go.Proofs
open Go.Maps (Keyed)
set_option linter.unusedVariables false
set_option linter.unusedSimpArgs false

/-- A set's shorthands with one more. -/
def shF (st : ByteArray) (p : Nat) (f : UInt8 → Option Nat) : UInt8 → Option Nat := fun z => if st.data.toList = [z] then some p else f z
theorem shF_no {st : ByteArray} (h : st.size = 0) (p : Nat) (f : UInt8 → Option Nat) : shF st p f = f := by
  funext z
  unfold shF
  rw [if_neg]
  intro e
  have := congrArg List.length e
  simp at this
  omega
theorem shF_one {st : ByteArray} (h : 0 < st.size) (h1 : st.size ≤ 1) (p : Nat) (f : UInt8 → Option Nat) : shF st p f = fun z => if z = st[0] then some p else f z := by
  funext z
  unfold shF
  have e : st.data.toList = [st[0]] := by
    have hl : st.data.toList.length = 1 := by simp; omega
    match hq : st.data.toList, hl with
    | [c], _ => rw [bget h]; simp [hq]
  rw [e]
  by_cases hz : z = st[0]
  · rw [if_pos hz, if_pos (by rw [hz])]
  · rw [if_neg hz, if_neg (by simpa using fun h => hz h.symm)]
theorem empty_of {st : ByteArray} (h : st.size = 0) : st = ⟨#[]⟩ := by
  apply mkT_inj
  have : st.data.toList.length = 0 := by
    have e : st.data.toList.length = st.size := by simp
    omega
  rw [List.eq_nil_of_length_eq_zero this]

/-- AddFlag. -/
theorem addFlag_any (B F p k fold : Nat) (fmo smo : Option Nat) (st nm NM : ByteArray) (ow n1 n2 : Nat) (unk parsed inter : Bool) (act ord orf av nf : Value) (dash : Int) (os : List Value) (f1 : Txt → Option Nat) (f2 : UInt8 → Option Nat) (w : World)
    (hb : Bun w B F p (fsCells unk parsed act ord (.map fmo) orf (.map smo) av dash inter nf) (flCells nm st ow false ⟨#[]⟩) fmo smo n1 n2 f1 f2 orf k os)
    (hnorm : NormAt w F fold) (hs : nm.size ≤ 17179869184) (hNM : Hid (NM = mkT (foldT fold nm.data.toList))) (hst : st.size ≤ 1)
    (hn1 : Hid (f1 NM.data.toList = none)) (hn2 : Hid (∀ c, st.data.toList = [c] → f2 c = none)) (hB : B ≤ w.heap.size) (hk : k ≤ 17179869184) (hk1 : n1 ≤ k) (hk2 : n2 ≤ k) :
    Calls Try.prog 96 #[.pointer (some ⟨F, 0, none⟩), .pointer (some ⟨p, 0, none⟩)] w
      (AddEnd w B F p k (fun fml orf shr => fsCells unk parsed act ord fml orf shr av dash inter nf) (flCells NM st ow false ⟨#[]⟩) (fun z => if z = NM.data.toList then some p else f1 z) (shF st p f2) orf fmo smo (os ++ [.pointer (some ⟨p, 0, none⟩)])) := by
  by_cases h0 : st.size = 0
  · rw [shF_no h0]
    obtain rfl := empty_of h0
    cases fmo with
    | none => exact addFlag_none_no B F p k fold smo nm NM ow n1 n2 unk parsed inter act ord orf av nf dash os f1 f2 w hb hnorm hs hNM hn1 hB hk hk1 hk2
    | some mf => exact addFlag_some_no B F p k fold mf smo nm NM ow n1 n2 unk parsed inter act ord orf av nf dash os f1 f2 w hb hnorm hs hNM hn1 hB hk hk1 hk2
  · have h1 : 0 < st.size := by omega
    rw [shF_one h1 hst]
    have hn : Hid (f2 st[0] = none) := hn2.out _ (by
      have hl : st.data.toList.length = 1 := by simp; omega
      match hq : st.data.toList, hl with
      | [c], _ => rw [bget h1]; simp [hq])
    cases fmo with
    | none =>
      cases smo with
      | none => exact addFlag_none_none B F p k fold st h1 hst nm NM ow n1 n2 unk parsed inter act ord orf av nf dash os f1 f2 w hb hnorm hs hNM hn1 hn hB hk hk1 hk2
      | some ms => exact addFlag_none_some B F p k fold ms st h1 hst nm NM ow n1 n2 unk parsed inter act ord orf av nf dash os f1 f2 w hb hnorm hs hNM hn1 hn hB hk hk1 hk2
    | some mf =>
      cases smo with
      | none => exact addFlag_some_none B F p k fold mf st h1 hst nm NM ow n1 n2 unk parsed inter act ord orf av nf dash os f1 f2 w hb hnorm hs hNM hn1 hn hB hk hk1 hk2
      | some ms => exact addFlag_some_some B F p k fold mf ms st h1 hst nm NM ow n1 n2 unk parsed inter act ord orf av nf dash os f1 f2 w hb hnorm hs hNM hn1 hn hB hk hk1 hk2

/-- The blocks of a set without a flag's. -/
structure FsM (w : World) (B F : Nat) (CF : Array Value) (fmo smo : Option Nat) (n1 n2 : Nat) (f1 : Txt → Option Nat) (f2 : UInt8 → Option Nat) (orf : Value) (no : Nat) (os : List Value) : Prop where
  hF : w.heap[F]? = some (.cells CF 131 (0, 0))
  h1 : PMap w Try.prog 113 enT fmo n1 f1
  h2 : PMap w Try.prog 5 enB smo n2 f2
  ho : w.ownsRow B 104 1 orf no os
  ne : ∀ b, fmo = some b → smo ≠ some b
theorem FsM.kept {w w' : World} {B F : Nat} {CF : Array Value} {fmo smo : Option Nat} {n1 n2 : Nat} {f1 : Txt → Option Nat} {f2 : UInt8 → Option Nat} {orf : Value} {no : Nat} {os : List Value} (h : FsM w B F CF fmo smo n1 n2 f1 f2 orf no os) (hb : Below w.heap.size w w') : FsM w' B F CF fmo smo n1 n2 f1 f2 orf no os :=
  ⟨block_kept h.hF hb, h.h1.below hb, h.h2.below hb, own_kept h.ho hb, h.ne⟩
theorem FsM.flag {w : World} {B F : Nat} {CF : Array Value} {fmo smo : Option Nat} {n1 n2 : Nat} {f1 : Txt → Option Nat} {f2 : UInt8 → Option Nat} {orf : Value} {no : Nat} {os : List Value} (h : FsM w B F CF fmo smo n1 n2 f1 f2 orf no os) (CP : Array Value) :
    Bun (w.alloc (.cells CP 124)) B F w.heap.size CF CP fmo smo n1 n2 f1 f2 orf no os := by
  have k := h.kept ((Below.refl _ _).alloc (Nat.le_refl _) (.cells CP 124))
  exact ⟨k.hF, heap_alloc_new w _, k.h1, k.h2, k.ho, k.ne⟩
theorem Bun.fsm {w : World} {B F p : Nat} {CF CP : Array Value} {fmo smo : Option Nat} {n1 n2 : Nat} {f1 : Txt → Option Nat} {f2 : UInt8 → Option Nat} {orf : Value} {no : Nat} {os : List Value} (h : Bun w B F p CF CP fmo smo n1 n2 f1 f2 orf no os) : FsM w B F CF fmo smo n1 n2 f1 f2 orf no os :=
  ⟨h.hF, h.h1, h.h2, h.ho, h.ne⟩
theorem NormAt.below {w w' : World} {F f : Nat} (h : NormAt w F f) (hb : Below w.heap.size w w') : NormAt w' F f := by
  rcases h with ⟨e, h⟩ | ⟨e, sc, h, k⟩
  · exact .inl ⟨e, cell_kept hb h⟩
  · exact .inr ⟨e, sc, cell_kept hb h, cell_kept hb k⟩

/-- What VarPF leaves: as AddFlag, and the flag. -/
def VarEnd (w : World) (B F k : Nat) (C : Value → Value → Value → Array Value) (C1 : Array Value) (f1 : Txt → Option Nat) (f2 : UInt8 → Option Nat) (orf : Value) (fmo smo : Option Nat) (os : List Value) (e : Ending) (w' : World) : Prop :=
  e = .returned (.pointer (some ⟨w.heap.size, 0, none⟩)) ∧ (∃ fmo' smo' orf' n1 n2, Bun w' B F w.heap.size (C (.map fmo') orf' (.map smo')) C1 fmo' smo' n1 n2 f1 f2 orf' (k + 1) os ∧ n1 ≤ k + 1 ∧ n2 ≤ k + 1 ∧ (∀ b, fmo' = some b → fmo = some b ∨ w.heap.size ≤ b) ∧ (∀ b, smo' = some b → smo = some b ∨ w.heap.size ≤ b) ∧ (∀ g, orf'.ownBlock = some g → orf.ownBlock = some g ∨ w.heap.size ≤ g)) ∧ Ch w w' (AddX F w.heap.size fmo smo orf)

theorem method_string (a : Addr) (w : World) : (method 303 116 (.pointer (some a)) "String").run Try.prog w = .ok (146, .pointer (some a)) w := by kernel_rfl

set_option maxRecDepth 100000 in
theorem ownString_any (a : Addr) (w : World) : Calls Try.prog 146 #[.pointer (some a)] w fun e w' => e = .returned (.string ⟨#[]⟩) ∧ w = w' := by
  go_enter Try.func146, Try.ntmps146
  go_wp2
  go_ret
  exact ⟨rfl, rfl⟩

set_option maxRecDepth 100000 in
set_option maxHeartbeats 1600000 in
theorem varPF_any (B F k fold : Nat) (fmo smo : Option Nat) (st nm NM : ByteArray) (ow n1 n2 : Nat) (unk parsed inter : Bool) (act ord orf av nf : Value) (dash : Int) (os : List Value) (f1 : Txt → Option Nat) (f2 : UInt8 → Option Nat) (w : World)
    (hb : FsM w B F (fsCells unk parsed act ord (.map fmo) orf (.map smo) av dash inter nf) fmo smo n1 n2 f1 f2 orf k os)
    (hnorm : NormAt w F fold) (hs : nm.size ≤ 17179869184) (hNM : Hid (NM = mkT (foldT fold nm.data.toList))) (hst : st.size ≤ 1)
    (hn1 : Hid (f1 NM.data.toList = none)) (hn2 : Hid (∀ c, st.data.toList = [c] → f2 c = none)) (hB : B ≤ w.heap.size) (hk : k ≤ 17179869184) (hk1 : n1 ≤ k) (hk2 : n2 ≤ k) :
    Calls Try.prog 75 #[.pointer (some ⟨F, 0, none⟩), .iface 116 (.pointer (some ⟨ow, 0, none⟩)), .string nm, .string st, .string ⟨#[]⟩] w
      (VarEnd w B F k (fun fml orf shr => fsCells unk parsed act ord fml orf shr av dash inter nf) (flCells NM st ow false ⟨#[]⟩) (fun z => if z = NM.data.toList then some w.heap.size else f1 z) (shF st w.heap.size f2) orf fmo smo (os ++ [.pointer (some ⟨w.heap.size, 0, none⟩)])) := by
  have hbw : Below w.heap.size w (w.alloc (.cells (flCells nm st ow false ⟨#[]⟩) 124)) := (Below.refl _ _).alloc (Nat.le_refl _) _
  have HA := Lib.hid (addFlag_any B F w.heap.size k fold fmo smo st nm NM ow n1 n2 unk parsed inter act ord orf av nf dash os f1 f2 _ (hb.flag (flCells nm st ow false ⟨#[]⟩)) (hnorm.below hbw) hs hNM hst hn1 hn2 (by have := hbw.size; omega) hk hk1 hk2)
  have HBW := Lib.hid hbw
  clear hb hnorm hs hNM hst hn1 hn2 hbw
  have qms := method_string
  go_enter Try.func75, Try.ntmps75
  go_wp2_with (first
    | (go_at_call 146; refine (ownString_any _ _).mono ?_; rintro e w1 ⟨rfl, rfl⟩)
    | (go_at_call 96; refine (HA.out).mono ?_; rintro e w2 ⟨rfl, ⟨fmo', smo', orf', m1, m2, hB2, hm1, hm2, hf, hs, hg⟩, hch⟩))
  go_ret
  have hsz : (w.alloc (.cells (flCells nm st ow false ⟨#[]⟩) 124)).heap.size = w.heap.size + 1 := by simp
  exact ⟨rfl, ⟨fmo', smo', orf', m1, m2, hB2, hm1, hm2, fun b h => (hf b h).imp id (fun q => by omega), fun b h => (hs b h).imp id (fun q => by omega), fun g h => (hg g h).imp id (fun q => by omega)⟩, (Ch.of_below HBW.out _).trans hch⟩
end Go.Proofs.Ytgmhhdpggnmipaa.E
