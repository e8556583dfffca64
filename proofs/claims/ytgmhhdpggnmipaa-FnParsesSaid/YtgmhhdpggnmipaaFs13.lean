/- bare's parsing of one argument of shorthands, over this seat's program. Written by gen_fs13.py. -/
import Derived.Test.YtgmhhdpggnmipaaFs12
namespace Go.Proofs.Ytgmhhdpggnmipaa.E
open Go.RowKit Go.Proofs
open Go.Maps (Keyed)
set_option linter.unusedVariables false
set_option linter.unusedSimpArgs false

theorem ownB_yes {more : Txt} (h : ownB more = true) : ∃ d tt, more = d :: tt ∧ d = 61 ∧ tt ≠ [] := by
  simp only [ownB, Bool.and_eq_true, decide_eq_true_eq] at h
  match more, h with
  | [], h => simp at h
  | [d], h => simp at h
  | d :: e :: tt, h => exact ⟨d, e :: tt, rfl, by simpa using h.1, by simp⟩
theorem ownB_no {more : Txt} (h : ¬ ownB more = true) : more.length = 0 ∨ more.length = 1 ∨ ∃ d tt, more = d :: tt ∧ d ≠ 61 ∧ tt ≠ [] := by
  simp only [ownB, Bool.and_eq_true, decide_eq_true_eq] at h
  match more, h with
  | [], h => exact .inl rfl
  | [d], h => exact .inr (.inl rfl)
  | d :: e :: tt, h => exact .inr (.inr ⟨d, e :: tt, rfl, fun q => h ⟨by rw [q]; rfl, by simp⟩, by simp⟩)
theorem ErrAt.shape {C : PC} {w : World} {E : Value} {er : Er} (h : ErrAt C w E er) (hn : ¬ er.isNo = true) : ∃ T x, E = .iface T x := by
  cases er with
  | no => exact absurd rfl hn
  | help => exact ⟨_, _, h⟩
  | other => exact ⟨_, _, h⟩
  | notExist n s => obtain ⟨p, k, e, q⟩ := h; exact ⟨_, _, e⟩
  | need i n s => obtain ⟨p, e, q⟩ := h; exact ⟨_, _, e⟩
  | invalid i v => obtain ⟨p, k, e, q⟩ := h; exact ⟨_, _, e⟩
  | syn a => obtain ⟨p, e, q⟩ := h; exact ⟨_, _, e⟩
theorem ErrAt.none {C : PC} {w : World} {E : Value} {er : Er} (h : ErrAt C w E er) (hn : er = .no) : E = .nilIface := by subst hn; exact h
theorem give_len (S : SetP) (m : Option (List Txt)) (st : St) (i : Nat) (v : Txt) : (give S m st i v).given.length ≤ st.given.length + 1 := by
  unfold give
  split <;> split <;> simp
theorem strip_suf (l : List Txt) : strip l <:+ l := by
  cases l with
  | nil => simp [strip]
  | cons a r =>
    simp only [strip]
    split
    · exact List.suffix_refl _
    · exact List.suffix_cons _ _
theorem shortP_grow (S : SetP) (m : Option (List Txt)) (st : St) (c : UInt8) (more : Txt) (rest : List Txt) : (shortP S m st c more rest).1.given.length ≤ st.given.length + 1 ∧ ((shortP S m st c more rest).2.1 = more ∨ (shortP S m st c more rest).2.1 = []) ∧ (shortP S m st c more rest).2.2 <:+ rest := by
  unfold shortP
  split
  · exact ⟨by simp, .inr rfl, List.suffix_refl _⟩
  · split
    · split
      · exact ⟨by simp, .inl rfl, List.suffix_refl _⟩
      · split
        · split
          · exact ⟨by simp, .inr rfl, List.suffix_refl _⟩
          · exact ⟨by simp, .inl rfl, strip_suf _⟩
        · exact ⟨by simp, .inl rfl, List.suffix_refl _⟩
    · split
      · exact ⟨give_len _ _ _ _ _, .inr rfl, List.suffix_refl _⟩
      · split
        · exact ⟨give_len _ _ _ _ _, .inl rfl, List.suffix_refl _⟩
        · split
          · exact ⟨give_len _ _ _ _ _, .inr rfl, List.suffix_refl _⟩
          · split
            · exact ⟨by simp, .inl rfl, List.suffix_refl _⟩
            · exact ⟨give_len _ _ _ _ _, .inl rfl, List.suffix_cons _ _⟩
theorem longP_grow (S : SetP) (m : Option (List Txt)) (st : St) (arg : Txt) (rest : List Txt) : (longP S m st arg rest).1.given.length ≤ st.given.length + 1 ∧ (longP S m st arg rest).2 <:+ rest := by
  unfold longP
  simp only
  split
  · exact ⟨by simp, List.suffix_refl _⟩
  · split
    · split
      · exact ⟨by simp, List.suffix_refl _⟩
      · split
        · split
          · exact ⟨by simp, List.suffix_refl _⟩
          · exact ⟨by simp, strip_suf _⟩
        · exact ⟨by simp, List.suffix_refl _⟩
    · split
      · exact ⟨give_len _ _ _ _ _, List.suffix_refl _⟩
      · split
        · exact ⟨give_len _ _ _ _ _, List.suffix_refl _⟩
        · split
          · exact ⟨by simp, List.suffix_refl _⟩
          · exact ⟨give_len _ _ _ _ _, List.suffix_cons _ _⟩
theorem shortsP_grow (S : SetP) (m : Option (List Txt)) (rest : List Txt) : ∀ (t : Txt) (st : St) (left : List Txt), left <:+ rest → (shortsP S m rest t st left).1.given.length ≤ st.given.length + t.length ∧ (shortsP S m rest t st left).2 <:+ rest
  | [], st, left, h => ⟨by simp [shortsP], h⟩
  | c :: more, st, left, h => by
    have h1 := shortP_grow S m st c more rest
    simp only [shortsP, List.length_cons]
    split
    · split
      · exact ⟨by simp only; omega, h1.2.2⟩
      · have h2 := shortsP_grow S m rest more (shortP S m st c more rest).1 (shortP S m st c more rest).2.2 h1.2.2
        exact ⟨by omega, h2.2⟩
    · exact ⟨by simp only; omega, h1.2.2⟩
def strLen : Value → Nat
  | .string b => b.size
  | _ => 0

theorem short_anyP (C : PC) (hR : Right C.S) (V : PV) (parsed : Bool) (st : St) (c : UInt8) (more : Txt) (rest : List Txt) (vr : Value) (w : World) (hp : Pm w C V (psOf none parsed st)) (hsz : ∀ i (h : i < C.S.flags.length), (C.S.flags[i].name).length ≤ 17179869184) (hG : st.given.length ≤ 1099511627776) (he : st.err = .no) (hr : RestAt C w vr rest) (ht : more.length ≤ 8589934592) (hrs : ∀ a ∈ rest, a.length ≤ 17179869184) (bb : Nat) (hbb : w.heap[bb]? = some (.cells #[.pointer (some ⟨C.F, 0, none⟩)] 87 (0, 0))) :
    Calls Try.prog 105 #[.pointer (some ⟨C.F, 0, none⟩), .string (mkT (c :: more)), vr, (.func (.func 91) #[] #[.pointer (some ⟨bb, 0, none⟩)])] w (ShortEnd none C parsed (shortP C.S none st c more rest) w) := by
  unfold shortP
  by_cases h5 : (c :: more).take 5 = testT
  · rw [if_pos h5]; exact short_testP C hR V parsed st c more rest vr w hp hsz hG he hr ht hrs bb hbb h5
  rw [if_neg h5]
  cases hn : lettered C.S c with
  | none =>
    simp only
    by_cases hc : c = 104
    · rw [if_pos hc]; exact short_helpP C hR V parsed st c more rest vr w hp hsz hG he hr ht hrs bb hbb h5 hn hc
    rw [if_neg hc]
    by_cases hu : C.S.unknown = true
    · rw [if_pos hu]
      by_cases ho : ownB more = true
      · rw [if_pos ho]; exact short_ownP C hR V parsed st c more rest vr w hp hsz hG he hr ht hrs bb hbb h5 hn hc hu (ownB_yes ho)
      · rw [if_neg ho]
        rcases ownB_no ho with h | h | h
        · exact short_let_sP C hR V parsed st c more rest vr w hp hsz hG he hr ht hrs bb hbb h5 hn hc hu h
        · exact short_let_tP C hR V parsed st c more rest vr w hp hsz hG he hr ht hrs bb hbb h5 hn hc hu h
        · exact short_let_nP C hR V parsed st c more rest vr w hp hsz hG he hr ht hrs bb hbb h5 hn hc hu h
    · rw [if_neg hu]; exact short_notP C hR V parsed st c more rest vr w hp hsz hG he hr ht hrs bb hbb h5 hn hc (by simpa using hu)
  | some i =>
    simp only
    have hi : i < C.S.flags.length := findIdx_lt hn
    have no : noOptOf C.S i = C.S.flags[i].noOpt := by simp [noOptOf, hi]
    rw [no]
    by_cases ho : ownB more = true
    · rw [if_pos ho]; exact short_valP C hR V parsed st c more rest vr w hp hsz hG he hr ht hrs bb hbb i h5 hn hi (ownB_yes ho)
    rw [if_neg ho]
    by_cases hno : C.S.flags[i].noOpt = []
    · rw [if_neg (fun h => h hno)]
      rcases ownB_no ho with h | h | h
      · have hm : more = [] := List.length_eq_zero_iff.1 h
        rw [if_neg (fun q => q hm)]
        cases hr0 : rest with
        | nil => subst hr0; exact short_needP C hR V parsed st c more [] vr w hp hsz hG he hr ht hrs bb hbb i h5 hn hi hno hm rfl h
        | cons a rs => subst hr0; exact short_nextP C hR V parsed st c more (a :: rs) vr w hp hsz hG he hr ht hrs bb hbb i h5 hn hi hno hm a rs rfl h
      · rw [if_pos (fun q => by rw [q] at h; simp at h)]
        exact short_tied_tP C hR V parsed st c more rest vr w hp hsz hG he hr ht hrs bb hbb i h5 hn hi hno h
      · rw [if_pos (fun q => by obtain ⟨d, tt, e, _⟩ := h; rw [q] at e; cases e)]
        exact short_tied_nP C hR V parsed st c more rest vr w hp hsz hG he hr ht hrs bb hbb i h5 hn hi hno h
    · rw [if_pos hno]
      rcases ownB_no ho with h | h | h
      · exact short_opt_sP C hR V parsed st c more rest vr w hp hsz hG he hr ht hrs bb hbb i h5 hn hi hno h
      · exact short_opt_tP C hR V parsed st c more rest vr w hp hsz hG he hr ht hrs bb hbb i h5 hn hi hno h
      · exact short_opt_nP C hR V parsed st c more rest vr w hp hsz hG he hr ht hrs bb hbb i h5 hn hi hno h

/-- How it stands between two letters. -/
structure ShRelP (C : PC) (parsed : Bool) (w : World) (vr : Value) (rest : List Txt) (Q : St × List Txt) (sh : Txt) (st : St) (left : List Txt) (V : PV) (v : Value) (W : World) : Prop where
  pm : Pm W C V (psOf none parsed st)
  er : st.err = .no
  cnt : st.given.length + sh.length ≤ 1099511627776
  lef : RestAt C W v left
  all : RestAt C W vr rest
  fr : Fr C w W
  is : shortsP C.S none rest sh st left = Q
  len : sh.length ≤ 8589934592

set_option maxRecDepth 100000 in
set_option maxHeartbeats 3200000 in
theorem shorts_anyP (C : PC) (hR : Right C.S) (V : PV) (parsed : Bool) (st : St) (t : Txt) (rest : List Txt) (vr : Value) (w : World) (hp : Pm w C V (psOf none parsed st)) (hsz : ∀ i (h : i < C.S.flags.length), (C.S.flags[i].name).length ≤ 17179869184) (hG : st.given.length + t.length ≤ 1099511627776) (he : st.err = .no) (hr : RestAt C w vr rest) (ht : t.length ≤ 8589934592) (hrs : ∀ a ∈ rest, a.length ≤ 17179869184) (bb : Nat) (hbb : w.heap[bb]? = some (.cells #[.pointer (some ⟨C.F, 0, none⟩)] 87 (0, 0))) :
    Calls Try.prog 99 #[.pointer (some ⟨C.F, 0, none⟩), .string (mkT (45 :: t)), vr, (.func (.func 91) #[] #[.pointer (some ⟨bb, 0, none⟩)])] w (StepEnd none C parsed (shortsP C.S none rest t st rest) w) := by
  have has : (mkT (45 :: t)).size = t.length + 1 := by rw [mkT_size]; simp
  have hA2 : (1 : Int) ≤ ((mkT (45 :: t)).size : Int) := by omega
  have hA3 : ((mkT (45 :: t)).size : Int) ≤ 17179869184 := by omega
  have hsl : ∀ W, (Instr.slice 9 (.string (mkT (45 :: t))) (some (.int .i64 1)) none none).run Try.prog W = .ok (.string (mkT t)) W := fun W => by
    rw [run_slice_string_l (P := Try.prog) W 9 (mkT (45 :: t)) Try.underlying9 .i64 1 (by omega) (by omega)]
    have e : (mkT (45 :: t)).extract (1 : Int).toNat (mkT (45 :: t)).size = mkT t := mkT_inj (by rw [ext_tailP, mkT_list, mkT_list]; rfl)
    rw [e]
  have HR0 : Hid (ShRelP C parsed w vr rest (shortsP C.S none rest t st rest) t st rest V vr w) := ⟨hp, he, hG, hr, hr, Fr.refl _ _, rfl, ht⟩
  have HSH := Lib.hid (fun (st : St) (c : UInt8) (more : Txt) (V : PV) (W : World) (hp : Pm W C V (psOf none parsed st)) (hG : st.given.length ≤ 1099511627776) (he : st.err = .no) (hr : RestAt C W vr rest) (ht : more.length ≤ 8589934592) (hf : Fr C w W) => short_anyP C hR V parsed st c more rest vr W hp hsz hG he hr ht hrs bb (hf.keep _ _ _ _ hbb (by decide) (by decide) (by decide) (by decide) (by decide) (fun h => absurd h (by decide))))
  clear hp hsz hG he hr ht hrs hR has
  generalize shortsP C.S none rest t st rest = Q at HR0 ⊢
  generalize mkT (45 :: t) = ARG at hsl hA2 hA3 ⊢
  go_enter Try.func99, Try.ntmps99
  go_wp2
  go_loopw [8, 9, 10] (fun v E s W => ∃ (sh : Txt) (st' : St) (left : List Txt) (V' : PV), E = .nilIface ∧ s = .string (mkT sh) ∧ Hid (ShRelP C parsed w vr rest Q sh st' left V' v W)) (fun _ _ s _ => strLen s)
  case atStart => exact ⟨t, st, rest, V, rfl, rfl, HR0⟩
  case round =>
    clear HR0 hsl hA2 hA3
    obtain ⟨sh, st', left, V', rfl, rfl, HX⟩ := hrel
    cases sh with
    | nil =>
      have hz : ((mkT ([] : Txt)).size : Int) = 0 := by rw [mkT_size]; rfl
      generalize mkT ([] : Txt) = SH at hz ⊢
      go_wp2
      go_ret2
      have h := HX.out
      refine ⟨_, V', _, rfl, ?_, ?_, h.fr, ?_⟩
      · rw [← h.is]; exact h.pm
      · rw [← h.is]; show ErrAt C _ _ st'.err; rw [h.er]; rfl
      · rw [← h.is]; exact h.lef
    | cons c more =>
      have h := HX.out
      have hl := h.len
      have hcn := h.cnt
      simp only [List.length_cons] at hl hcn
      have HC := Lib.hid (HSH.out st' c more V' wr h.pm (by omega) h.er h.all (by omega) h.fr)
      have hgr := shortP_grow C.S none st' c more rest
      have his := h.is
      rw [shortsP] at his
      have h1 : (0 : Int) < ((mkT (c :: more)).size : Int) := by rw [mkT_size]; simp only [List.length_cons]; omega
      have h2 : ((mkT (c :: more)).size : Int) ≤ 17179869184 := by rw [mkT_size]; simp only [List.length_cons]; omega
      have h3 : (mkT (c :: more)).size = more.length + 1 := by rw [mkT_size]; simp
      have HFR := Lib.hid h.fr
      have HRS := Lib.hid h.all
      clear h HX
      generalize shortP C.S none st' c more rest = q at HC hgr his
      obtain ⟨q1, q2, q3⟩ := q
      simp only at hgr his
      generalize mkT (c :: more) = SH at HC h1 h2 h3 ⊢
      by_cases hq : q1.err.isNo = true
      · go_wp2_with (go_at_call 105; refine (HC.out).mono ?_; rintro e w3 ⟨E, V3, v3, rfl, hp3, he3, hf3, hr3⟩; have hE := he3.none (Er.isNo_iff.1 hq); subst hE; have HP3 := Lib.hid hp3; have HF3 := Lib.hid hf3; have HR3 := Lib.hid hr3; clear hp3 he3 hf3 hr3)
        go_roundw
        case rel =>
          refine ⟨q2, q1, q3, V3, rfl, rfl, HP3.out, Er.isNo_iff.1 hq, ?_, HR3.out, HRS.out.fr HF3.out, HFR.out.trans HF3.out, ?_, ?_⟩
          · rcases hgr.2.1 with e | e
            · rw [e]; omega
            · rw [e]; simp; omega
          · rw [if_pos hq] at his
            by_cases e : q2 = []
            · subst e; rw [if_pos rfl] at his; rw [← his]; rfl
            · rw [if_neg e] at his
              rcases hgr.2.1 with e2 | e2
              · rw [e2]; exact his
              · exact absurd e2 e
          · rcases hgr.2.1 with e | e
            · rw [e]; omega
            · rw [e]; simp
        case measure =>
          simp only [strLen, h3, mkT_size]
          rcases hgr.2.1 with e | e
          · rw [e]; omega
          · rw [e]; simp
      · go_wp2_with (go_at_call 105; refine (HC.out).mono ?_; rintro e w3 ⟨E, V3, v3, rfl, hp3, he3, hf3, hr3⟩; obtain ⟨TE, xE, hE⟩ := he3.shape hq; have HE3 := Lib.hid he3; rw [hE] at HE3; subst hE; have HP3 := Lib.hid hp3; have HF3 := Lib.hid hf3; have HR3 := Lib.hid hr3; clear hp3 he3 hf3 hr3)
        go_ret2
        rw [if_neg hq] at his
        subst his
        exact ⟨_, V3, _, rfl, HP3.out, HE3.out, HFR.out.trans HF3.out, HR3.out⟩
end Go.Proofs.Ytgmhhdpggnmipaa.E
