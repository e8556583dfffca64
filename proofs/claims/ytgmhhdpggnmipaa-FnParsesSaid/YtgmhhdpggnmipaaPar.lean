/- The parsing of arguments in plain words: which flags are given which values, which arguments are left, what is wrong first. -/
namespace Go.Proofs.Ytgmhhdpggnmipaa.E
set_option linter.unusedVariables false
set_option linter.unusedSimpArgs false

abbrev Txt := List UInt8
/-- A flag as it is defined. -/
structure FlagP where
  name : Txt
  short : Txt
  noOpt : Txt
  bad : List Txt
/-- A set of flags as it is defined. -/
structure SetP where
  flags : List FlagP
  plain : Bool
  unknown : Bool
  fold : Nat
/-- What is wrong. -/
inductive Er where
  | no
  | help
  | notExist (n s : Txt)
  | need (i : Nat) (n s : Txt)
  | invalid (i : Nat) (v : Txt)
  | syn (a : Txt)
  | other
/-- How it stands. -/
structure St where
  given : List (Nat × Txt)
  args : List Txt
  dash : Int
  err : Er
def Er.isNo : Er → Bool
  | .no => true
  | _ => false
theorem Er.isNo_iff {e : Er} : e.isNo = true ↔ e = .no := by cases e <;> simp [Er.isNo]

def foldB (k : Nat) (c : UInt8) : UInt8 :=
  if (k = 1 ∨ k = 3) ∧ 65 ≤ c.toNat ∧ c.toNat ≤ 90 then c + 32
  else if (k = 2 ∨ k = 3) ∧ (c.toNat = 95 ∨ c.toNat = 46) then 45 else c
def foldT (k : Nat) (t : Txt) : Txt := t.map (foldB k)
def letterB (c : UInt8) : Bool := (decide (97 ≤ c.toNat) && decide (c.toNat ≤ 122)) || (decide (65 ≤ c.toNat) && decide (c.toNat ≤ 90)) || (decide (48 ≤ c.toNat) && decide (c.toNat ≤ 57))
/-- The place of the flag of a name. -/
def named (S : SetP) (name : Txt) : Option Nat := S.flags.findIdx? fun f => decide (foldT S.fold f.name = foldT S.fold name)
/-- The place of the flag of a shorthand. -/
def lettered (S : SetP) (c : UInt8) : Option Nat := S.flags.findIdx? fun f => decide (f.short.head? = some c)
def badOf (S : SetP) (i : Nat) : List Txt := ((S.flags[i]?).map (·.bad)).getD []
def noOptOf (S : SetP) (i : Nat) : Txt := ((S.flags[i]?).map (·.noOpt)).getD []
/-- A flag is given a value: by Parse (none), or by ParseAll, whose function refuses some. -/
def give (S : SetP) (m : Option (List Txt)) (st : St) (i : Nat) (v : Txt) : St :=
  match m with
  | none => if v ∈ badOf S i then { st with err := .invalid i v } else { st with given := st.given ++ [(i, v)] }
  | some b => if v ∈ b then { st with given := st.given ++ [(i, v)], err := .other } else { st with given := st.given ++ [(i, v)] }
def strip : List Txt → List Txt
  | [] => []
  | a :: r => if a.head? = some 45 then a :: r else r
def helpT : Txt := [104, 101, 108, 112]
def testT : Txt := [116, 101, 115, 116, 46]
/-- A text up to its first '=', and what stands behind that. -/
def nameOf (t : Txt) : Txt := t.takeWhile (fun c => decide (c ≠ 61))
def hasEq (t : Txt) : Bool := decide ((nameOf t).length < t.length)
def valueOf (t : Txt) : Txt := t.drop ((nameOf t).length + 1)
def longP (S : SetP) (m : Option (List Txt)) (st : St) (arg : Txt) (rest : List Txt) : St × List Txt :=
  let text := arg.drop 2
  if text = [] ∨ text.head? = some 45 ∨ text.head? = some 61 then ({ st with err := .syn arg }, rest)
  else match named S (nameOf text) with
    | none =>
      if nameOf text = helpT then ({ st with err := .help }, rest)
      else if S.unknown then (if hasEq text then (st, rest) else (st, strip rest))
      else ({ st with err := .notExist (nameOf text) [] }, rest)
    | some i =>
      if hasEq text then (give S m st i (valueOf text), rest)
      else if noOptOf S i ≠ [] then (give S m st i (noOptOf S i), rest)
      else match rest with
        | [] => ({ st with err := .need i (nameOf text) [] }, [])
        | a :: r => (give S m st i a, r)
/-- A byte as a letter's text. -/
def runeT (c : UInt8) : Txt := if c.toNat < 128 then [c] else [UInt8.ofNat (192 + c.toNat / 64), UInt8.ofNat (128 + c.toNat % 64)]
def ownB (more : Txt) : Bool := decide (more.head? = some 61) && decide (2 ≤ more.length)
def shortP (S : SetP) (m : Option (List Txt)) (st : St) (c : UInt8) (more : Txt) (rest : List Txt) : St × Txt × List Txt :=
  if (c :: more).take 5 = testT then (st, [], rest)
  else match lettered S c with
    | none =>
      if c = 104 then ({ st with err := .help }, more, rest)
      else if S.unknown then (if ownB more then (st, [], rest) else (st, more, strip rest))
      else ({ st with err := .notExist (runeT c) (c :: more) }, more, rest)
    | some i =>
      if ownB more then (give S m st i (more.drop 1), [], rest)
      else if noOptOf S i ≠ [] then (give S m st i (noOptOf S i), more, rest)
      else if more ≠ [] then (give S m st i more, [], rest)
      else match rest with
        | [] => ({ st with err := .need i (runeT c) (c :: more) }, more, [])
        | a :: r => (give S m st i a, more, r)
def shortsP (S : SetP) (m : Option (List Txt)) (rest : List Txt) : Txt → St → List Txt → St × List Txt
  | [], st, left => (st, left)
  | c :: more, st, left =>
    let r := shortP S m st c more rest
    if r.1.err.isNo = true then (if r.2.1 = [] then (r.1, r.2.2) else shortsP S m rest more r.1 r.2.2) else (r.1, r.2.2)
def bareB (arg : Txt) : Bool := decide (arg.head? ≠ some 45) || decide (arg = [45])
/-- One argument that is a flag. -/
def oneP (S : SetP) (m : Option (List Txt)) (st : St) (arg : Txt) (rest : List Txt) : St × List Txt :=
  if (arg.drop 1).head? = some 45 then longP S m st arg rest else shortsP S m rest (arg.drop 1) st rest
def goesN (S : SetP) (m : Option (List Txt)) : Nat → St → List Txt → St
  | 0, st, _ => st
  | _ + 1, st, [] => st
  | n + 1, st, arg :: rest =>
    if bareB arg = true then (if S.plain = true then { st with args := st.args ++ (arg :: rest) } else goesN S m n { st with args := st.args ++ [arg] } rest)
    else if arg = [45, 45] then { st with dash := st.args.length, args := st.args ++ rest }
    else if (oneP S m st arg rest).1.err.isNo = true then goesN S m n (oneP S m st arg rest).1 (oneP S m st arg rest).2 else (oneP S m st arg rest).1
def goes (S : SetP) (m : Option (List Txt)) (st : St) (args : List Txt) : St := goesN S m args.length st args
def st0 : St := ⟨[], [], -1, .no⟩

theorem strip_len (l : List Txt) : (strip l).length ≤ l.length := by
  cases l with
  | nil => simp [strip]
  | cons a r => simp only [strip]; split <;> simp
theorem longP_len (S : SetP) (m : Option (List Txt)) (st : St) (arg : Txt) (rest : List Txt) : (longP S m st arg rest).2.length ≤ rest.length := by
  unfold longP
  simp only
  split
  · simp
  · split
    · split
      · simp
      · split
        · split
          · simp
          · exact strip_len rest
        · simp
    · split
      · simp
      · split
        · simp
        · cases rest <;> simp
theorem shortP_len (S : SetP) (m : Option (List Txt)) (st : St) (c : UInt8) (more : Txt) (rest : List Txt) : (shortP S m st c more rest).2.2.length ≤ rest.length := by
  unfold shortP
  split
  · simp
  · split
    · split
      · simp
      · split
        · split
          · simp
          · exact strip_len rest
        · simp
    · split
      · simp
      · split
        · simp
        · split
          · simp
          · cases rest <;> simp
theorem shortsP_len (S : SetP) (m : Option (List Txt)) (rest : List Txt) : ∀ (t : Txt) (st : St) (left : List Txt), left.length ≤ rest.length → (shortsP S m rest t st left).2.length ≤ rest.length
  | [], st, left, h => h
  | c :: more, st, left, h => by
    have h1 := shortP_len S m st c more rest
    simp only [shortsP]
    split
    · split
      · exact h1
      · exact shortsP_len S m rest more _ _ h1
    · exact h1
theorem oneP_len (S : SetP) (m : Option (List Txt)) (st : St) (arg : Txt) (rest : List Txt) : (oneP S m st arg rest).2.length ≤ rest.length := by
  unfold oneP
  split
  · exact longP_len S m st arg rest
  · exact shortsP_len S m rest _ st rest (Nat.le_refl _)
/-- More rounds than arguments change nothing. -/
theorem goesN_more (S : SetP) (m : Option (List Txt)) : ∀ (n : Nat) (st : St) (args : List Txt), args.length ≤ n → goesN S m n st args = goes S m st args := by
  have key : ∀ (n k : Nat) (st : St) (args : List Txt), args.length ≤ n → args.length ≤ k → goesN S m n st args = goesN S m k st args := by
    intro n
    induction n with
    | zero =>
      intro k st args h _
      have : args = [] := List.eq_nil_of_length_eq_zero (by omega)
      subst this
      cases k <;> rfl
    | succ n ih =>
      intro k st args h hk
      cases args with
      | nil => cases k <;> rfl
      | cons a r =>
        cases k with
        | zero => simp at hk
        | succ k =>
          simp at h hk
          have h1 := oneP_len S m st a r
          simp only [goesN]
          split
          · split
            · rfl
            · exact ih k _ _ (by omega) (by omega)
          · split
            · rfl
            · split
              · exact ih k _ _ (by omega) (by omega)
              · rfl
  intro n st args h
  exact key n args.length st args h (Nat.le_refl _)
theorem goes_nil (S : SetP) (m : Option (List Txt)) (st : St) : goes S m st [] = st := rfl
theorem goes_cons (S : SetP) (m : Option (List Txt)) (st : St) (arg : Txt) (rest : List Txt) : goes S m st (arg :: rest) =
    if bareB arg = true then (if S.plain = true then { st with args := st.args ++ (arg :: rest) } else goes S m { st with args := st.args ++ [arg] } rest)
    else if arg = [45, 45] then { st with dash := st.args.length, args := st.args ++ rest }
    else if (oneP S m st arg rest).1.err.isNo = true then goes S m (oneP S m st arg rest).1 (oneP S m st arg rest).2 else (oneP S m st arg rest).1 := by
  have h1 := oneP_len S m st arg rest
  have e : goes S m st (arg :: rest) = goesN S m (rest.length + 1) st (arg :: rest) := rfl
  rw [e]
  simp only [goesN]
  rw [goesN_more S m rest.length _ rest (Nat.le_refl _), goesN_more S m rest.length _ _ h1]

/-! ### what is taken of the arguments behind -/
theorem strip_app (a : Txt) (r more : List Txt) : strip (a :: r ++ more) = strip (a :: r) ++ more := by
  simp only [strip, List.cons_append]
  split <;> simp
theorem longP_app (S : SetP) (m : Option (List Txt)) (st : St) (arg a : Txt) (r more : List Txt) : longP S m st arg (a :: r ++ more) = ((longP S m st arg (a :: r)).1, (longP S m st arg (a :: r)).2 ++ more) := by
  unfold longP
  simp only
  split
  · rfl
  · split
    · split
      · rfl
      · split
        · split
          · rfl
          · rw [strip_app]
        · rfl
    · split
      · rfl
      · split
        · rfl
        · rfl
theorem shortP_app (S : SetP) (m : Option (List Txt)) (st : St) (c : UInt8) (t a : Txt) (r more : List Txt) : shortP S m st c t (a :: r ++ more) = ((shortP S m st c t (a :: r)).1, (shortP S m st c t (a :: r)).2.1, (shortP S m st c t (a :: r)).2.2 ++ more) := by
  unfold shortP
  split
  · rfl
  · split
    · split
      · rfl
      · split
        · split
          · rfl
          · rw [strip_app]
        · rfl
    · split
      · rfl
      · split
        · rfl
        · split
          · rfl
          · rfl
theorem shortsP_app (S : SetP) (m : Option (List Txt)) (a : Txt) (r more : List Txt) : ∀ (t : Txt) (st : St) (left : List Txt), shortsP S m (a :: r ++ more) t st (left ++ more) = ((shortsP S m (a :: r) t st left).1, (shortsP S m (a :: r) t st left).2 ++ more)
  | [], st, left => rfl
  | c :: t, st, left => by
    simp only [shortsP]
    rw [shortP_app]
    simp only
    split
    · split
      · rfl
      · exact shortsP_app S m a r more t _ _
    · rfl
theorem oneP_app (S : SetP) (m : Option (List Txt)) (st : St) (arg a : Txt) (r more : List Txt) : oneP S m st arg (a :: r ++ more) = ((oneP S m st arg (a :: r)).1, (oneP S m st arg (a :: r)).2 ++ more) := by
  unfold oneP
  split
  · exact longP_app S m st arg a r more
  · exact shortsP_app S m a r more _ st (a :: r)
theorem longP_end (S : SetP) (m : Option (List Txt)) (st : St) (arg : Txt) (h : (longP S m st arg []).1.err = .no) :
    (∀ more, longP S m st arg more = ((longP S m st arg []).1, more)) ∨ (∀ more, longP S m st arg more = ((longP S m st arg []).1, strip more)) := by
  unfold longP at h ⊢
  simp only at h ⊢
  split
  · left; intro more; rfl
  · split
    · split
      · left; intro more; rfl
      · split
        · split
          · left; intro more; rfl
          · right; intro more; rfl
        · left; intro more; rfl
    · split
      · left; intro more; rfl
      · split
        · left; intro more; rfl
        · rename_i h1 _ _ h2 h3 h4
          rw [if_neg h1] at h
          simp only [h2] at h
          rw [if_neg h3, if_neg h4] at h
          cases h
theorem shortP_end (S : SetP) (m : Option (List Txt)) (st : St) (c : UInt8) (t : Txt) (h : (shortP S m st c t []).1.err = .no) :
    (∀ more, shortP S m st c t more = ((shortP S m st c t []).1, (shortP S m st c t []).2.1, more)) ∨ (∀ more, shortP S m st c t more = ((shortP S m st c t []).1, (shortP S m st c t []).2.1, strip more)) := by
  unfold shortP at h ⊢
  split
  · left; intro more; rfl
  · split
    · split
      · left; intro more; rfl
      · split
        · split
          · left; intro more; rfl
          · right; intro more; rfl
        · left; intro more; rfl
    · split
      · left; intro more; rfl
      · split
        · left; intro more; rfl
        · split
          · left; intro more; rfl
          · rename_i h1 _ _ h2 h3 h4 h5
            rw [if_neg h1] at h
            simp only [h2] at h
            rw [if_neg h3, if_neg h4, if_neg h5] at h
            cases h
theorem shortsP_end (S : SetP) (m : Option (List Txt)) : ∀ (t : Txt) (st : St), (shortsP S m [] t st []).1.err = .no →
    (∀ more, shortsP S m more t st more = ((shortsP S m [] t st []).1, more)) ∨ ((∀ more left, shortsP S m more t st left = ((shortsP S m [] t st []).1, more)) ∨ (∀ more left, shortsP S m more t st left = ((shortsP S m [] t st []).1, strip more)))
  | [], st, h => Or.inl fun more => rfl
  | c :: t, st, h => by
    right
    have hn : (shortP S m st c t []).1.err = .no := by
      simp only [shortsP] at h
      split at h
      · rename_i h1; exact Er.isNo_iff.1 h1
      · exact h
    have hn2 := Er.isNo_iff.2 hn
    simp only [shortsP] at h ⊢
    rw [if_pos hn2] at h
    rcases shortP_end S m st c t hn with hp | hp
    all_goals
      by_cases ht : (shortP S m st c t []).2.1 = []
      · first
          | (left; intro more left; rw [hp more]; simp only; rw [if_pos hn2, if_pos ht, if_pos hn2, if_pos ht]; done)
          | (right; intro more left; rw [hp more]; simp only; rw [if_pos hn2, if_pos ht, if_pos hn2, if_pos ht]; done)
      · rw [if_neg ht] at h
        have hl : (shortP S m st c t []).2.2 = [] := List.eq_nil_of_length_eq_zero (by have := shortP_len S m st c t []; simpa using this)
        rw [hl] at h
        have ht0 : t ≠ [] := by
          intro e
          subst e
          apply ht
          unfold shortP
          split
          · rfl
          · split
            · split
              · rfl
              · split
                · split <;> rfl
                · rfl
            · split
              · rfl
              · split
                · rfl
                · rw [if_neg (by simp)]
        rcases shortsP_end S m t _ h with h1 | h1 | h1
        · cases t with
          | nil => exact absurd rfl ht0
          | cons c2 t2 =>
            left; intro more left
            rw [hp more]; simp only; rw [if_pos hn2, if_neg ht, if_pos hn2, if_neg ht, hl]
            have e := h1 more
            simp only [shortsP] at e ⊢; exact e
        · left; intro more left
          rw [hp more]; simp only; rw [if_pos hn2, if_neg ht, if_pos hn2, if_neg ht, hl, h1]
        · right; intro more left
          rw [hp more]; simp only; rw [if_pos hn2, if_neg ht, if_pos hn2, if_neg ht, hl, h1]
theorem oneP_end (S : SetP) (m : Option (List Txt)) (st : St) (arg : Txt) (h : (oneP S m st arg []).1.err = .no) :
    (∀ more, oneP S m st arg more = ((oneP S m st arg []).1, more)) ∨ (∀ more, oneP S m st arg more = ((oneP S m st arg []).1, strip more)) := by
  unfold oneP at h ⊢
  split
  · rename_i h1; rw [if_pos h1] at h; exact longP_end S m st arg h
  · rename_i h1; rw [if_neg h1] at h
    rcases shortsP_end S m (arg.drop 1) st h with h2 | h2 | h2
    · exact Or.inl h2
    · exact Or.inl fun more => h2 more more
    · exact Or.inr fun more => h2 more more

/-- Arguments that are complete: what stands behind them is gone over from where they left it. -/
theorem complete_app (S : SetP) (m : Option (List Txt)) : ∀ (n : Nat) (st : St) (ahead : List Txt), ahead.length ≤ n → (goes S m st ahead).err = .no → (goes S m st ahead).dash < 0 → (S.plain = true → (goes S m st ahead).args = []) →
    (goes S m st (ahead ++ [[122]])).args = (goes S m st ahead).args ++ [[122]] → ∀ more, goes S m st (ahead ++ more) = goes S m (goes S m st ahead) more := by
  intro n
  induction n with
  | zero =>
    intro st ahead hl _ _ _ _ more
    have : ahead = [] := List.eq_nil_of_length_eq_zero (by omega)
    subst this
    rfl
  | succ n ih =>
    intro st ahead hl he hd hp hz more
    cases ahead with
    | nil => rfl
    | cons arg rest =>
      simp at hl
      rw [List.cons_append] at hz ⊢
      rw [goes_cons] at he hd hp hz ⊢
      rw [goes_cons S m st arg rest] at hz ⊢
      by_cases hb : bareB arg = true
      · rw [if_pos hb] at he hd hp hz ⊢
        rw [if_pos hb] at hz ⊢
        by_cases hpl : S.plain = true
        · rw [if_pos hpl] at hp
          have := hp hpl
          simp at this
        · rw [if_neg hpl] at he hd hp hz ⊢
          rw [if_neg hpl] at hz ⊢
          exact ih _ rest hl he hd hp hz more
      · rw [if_neg hb] at he hd hp hz ⊢
        rw [if_neg hb] at hz ⊢
        by_cases hdd : arg = [45, 45]
        · rw [if_pos hdd] at hd
          simp only at hd
          omega
        · rw [if_neg hdd] at he hd hp hz ⊢
          rw [if_neg hdd] at hz ⊢
          cases rest with
          | cons a r =>
            rw [oneP_app S m st arg a r more]
            rw [oneP_app S m st arg a r [[122]]] at hz
            simp only at hz ⊢
            by_cases hn : (oneP S m st arg (a :: r)).1.err.isNo = true
            · rw [if_pos hn] at he hd hp hz ⊢
              rw [if_pos hn] at hz ⊢
              have h1 := oneP_len S m st arg (a :: r)
              exact ih _ _ (by omega) he hd hp hz more
            · rw [if_neg hn] at he
              exact absurd (Er.isNo_iff.2 he) hn
          | nil =>
            by_cases hn : (oneP S m st arg []).1.err.isNo = true
            · have h2 : (oneP S m st arg []).2 = [] := List.eq_nil_of_length_eq_zero (by have := oneP_len S m st arg []; simpa using this)
              rw [if_pos hn, h2, goes_nil] at hz ⊢
              rw [if_pos hn, h2, goes_nil] at hd hp he
              simp only [List.nil_append] at hz ⊢
              rcases oneP_end S m st arg (Er.isNo_iff.1 hn) with h3 | h3
              · rw [h3 more]; simp only; rw [if_pos hn]
              · rw [h3 [[122]]] at hz
                simp only [strip] at hz
                rw [if_pos hn, if_neg (by decide), goes_nil] at hz
                simp at hz
            · rw [if_neg hn] at he
              exact absurd (Er.isNo_iff.2 he) hn

/-! ### sets that may be defined -/
/-- A set that may be defined, each of whose flags can be met. -/
structure Right (S : SetP) : Prop where
  name : ∀ f ∈ S.flags, (∃ c r, f.name = c :: r ∧ letterB c = true) ∧ ¬ (61 : UInt8) ∈ f.name
  dist : ∀ i j (hi : i < S.flags.length) (hj : j < S.flags.length), foldT S.fold S.flags[i].name = foldT S.fold S.flags[j].name → i = j
  short : ∀ f ∈ S.flags, f.short = [] ∨ ∃ c, f.short = [c] ∧ letterB c = true
  sdist : ∀ i j (hi : i < S.flags.length) (hj : j < S.flags.length), S.flags[i].short ≠ [] → S.flags[i].short = S.flags[j].short → i = j
  fold : S.fold ≤ 3

theorem findIdx_this {α : Type} {p : α → Bool} : ∀ (l : List α) (i : Nat) (hi : i < l.length), p l[i] = true → (∀ j (hj : j < l.length), p l[j] = true → j = i) → l.findIdx? p = some i := by
  intro l i hi hp hu
  cases h : l.findIdx? p with
  | none => rw [List.findIdx?_eq_none_iff] at h; have := h l[i] (List.getElem_mem hi); rw [hp] at this; cases this
  | some j =>
    obtain ⟨hj, h1, _⟩ := List.findIdx?_eq_some_iff_getElem.1 h
    rw [hu j hj h1]
theorem named_of {S : SetP} (h : Right S) {i : Nat} (hi : i < S.flags.length) {t : Txt} (ht : foldT S.fold t = foldT S.fold S.flags[i].name) : named S t = some i :=
  findIdx_this _ i hi (by simp [ht]) (fun j hj e => h.dist j i hj hi (by simpa [ht] using e))
theorem lettered_of {S : SetP} (h : Right S) {i : Nat} (hi : i < S.flags.length) {c : UInt8} (ht : S.flags[i].short = [c]) : lettered S c = some i :=
  findIdx_this _ i hi (by simp [ht]) (fun j hj e => by
    have e : S.flags[j].short.head? = some c := by simpa using e
    rcases h.short _ (List.getElem_mem hj) with h1 | ⟨d, h1, _⟩
    · rw [h1] at e; cases e
    · rw [h1] at e
      simp only [List.head?_cons, Option.some.injEq] at e
      subst e
      exact h.sdist j i hj hi (by rw [h1]; simp) (by rw [h1, ht]))
theorem letter_not {c : UInt8} (h : letterB c = true) : c ≠ 45 ∧ c ≠ 61 ∧ c ≠ 46 := by
  unfold letterB at h
  refine ⟨?_, ?_, ?_⟩ <;> rintro rfl <;> simp at h
theorem nameOf_no {t : Txt} (h : ¬ (61 : UInt8) ∈ t) : nameOf t = t := by
  unfold nameOf
  induction t with
  | nil => rfl
  | cons c r ih =>
    simp only [List.mem_cons, not_or] at h
    rw [List.takeWhile_cons, if_pos (by simp; exact fun e => h.1 e.symm), ih h.2]
theorem nameOf_eq {t v : Txt} (h : ¬ (61 : UInt8) ∈ t) : nameOf (t ++ 61 :: v) = t := by
  unfold nameOf
  induction t with
  | nil => simp [List.takeWhile_cons]
  | cons c r ih =>
    simp only [List.mem_cons, not_or] at h
    rw [List.cons_append, List.takeWhile_cons, if_pos (by simp; exact fun e => h.1 e.symm), ih h.2]
theorem hasEq_no {t : Txt} (h : ¬ (61 : UInt8) ∈ t) : hasEq t = false := by unfold hasEq; rw [nameOf_no h]; simp
theorem hasEq_eq {t v : Txt} (h : ¬ (61 : UInt8) ∈ t) : hasEq (t ++ 61 :: v) = true := by unfold hasEq; rw [nameOf_eq h]; simp
theorem valueOf_eq {t v : Txt} (h : ¬ (61 : UInt8) ∈ t) : valueOf (t ++ 61 :: v) = v := by
  unfold valueOf; rw [nameOf_eq h]
  rw [show t ++ 61 :: v = (t ++ [61]) ++ v by simp, List.drop_left' (by simp)]
/-- The argument of a name and a value. -/
def longT (name value : Txt) : Txt := 45 :: 45 :: (name ++ 61 :: value)
/-- A name that can be met. -/
def Meet (t : Txt) : Prop := (∃ c r, t = c :: r ∧ c ≠ 45) ∧ ¬ (61 : UInt8) ∈ t
theorem Right.meet {S : SetP} (h : Right S) {i : Nat} (hi : i < S.flags.length) : Meet S.flags[i].name := by
  obtain ⟨⟨c, r, e, hl⟩, h2⟩ := h.name _ (List.getElem_mem hi)
  exact ⟨⟨c, r, e, (letter_not hl).1⟩, h2⟩
theorem fold_letter {k : Nat} {c : UInt8} (h : letterB (foldB k c) = true) : c ≠ 45 := by
  rintro rfl
  have : foldB k 45 = 45 := by unfold foldB; simp
  rw [this] at h
  exact absurd h (by decide)
theorem foldB_letter (k : Nat) {c : UInt8} (h : letterB c = true) : letterB (foldB k c) = true := by
  unfold foldB
  split
  · rename_i h1
    obtain ⟨_, h2, h3⟩ := h1
    have e : (c + 32).toNat = c.toNat + 32 := by rw [UInt8.toNat_add]; show (c.toNat + 32) % 256 = _; omega
    unfold letterB; rw [e]; simp; omega
  · split
    · rename_i h2
      exfalso
      unfold letterB at h; simp at h
      omega
    · exact h
theorem foldB_eq (k : Nat) (c : UInt8) : foldB k c = 61 → c = 61 := by
  unfold foldB
  split
  · rename_i h1
    obtain ⟨_, h2, h3⟩ := h1
    intro e
    have e2 : (c + 32).toNat = 61 := by rw [e]; rfl
    rw [UInt8.toNat_add] at e2
    have e3 : (c.toNat + 32) % 256 = 61 := e2
    omega
  · split
    · intro e; exact absurd e (by decide)
    · exact id
theorem foldB_61 (k : Nat) : foldB k 61 = 61 := by unfold foldB; simp
theorem Right.meet_fold {S : SetP} (h : Right S) {i : Nat} (hi : i < S.flags.length) {t : Txt} (ht : foldT S.fold t = foldT S.fold S.flags[i].name) : Meet t := by
  obtain ⟨⟨c, r, e, hl⟩, h2⟩ := h.name _ (List.getElem_mem hi)
  rw [e] at ht
  cases t with
  | nil => simp [foldT] at ht
  | cons d q =>
    have ht2 := ht
    simp only [foldT, List.map_cons, List.cons.injEq] at ht2
    refine ⟨⟨d, q, rfl, fold_letter (by rw [ht2.1]; exact foldB_letter _ hl)⟩, ?_⟩
    intro hm
    apply h2
    rw [e]
    have : foldB S.fold 61 ∈ foldT S.fold (d :: q) := List.mem_map.2 ⟨61, hm, rfl⟩
    rw [ht, foldB_61] at this
    obtain ⟨x, hx, hx2⟩ := List.mem_map.1 this
    rw [foldB_eq _ _ hx2] at hx
    exact hx
theorem meet_head {t u : Txt} (h : Meet t) : ¬ (t ++ u = [] ∨ (t ++ u).head? = some 45 ∨ (t ++ u).head? = some 61) := by
  obtain ⟨⟨c, r, rfl, hc⟩, h2⟩ := h
  simp only [List.mem_cons, not_or] at h2
  simp only [List.cons_append, List.head?_cons, Option.some.injEq]
  rintro (h | h | h)
  · cases h
  · exact hc h
  · exact h2.1 h.symm
/-- A name and a value are read. -/
theorem long_value {S : SetP} {m : Option (List Txt)} {st : St} {t v : Txt} {i : Nat} {rest : List Txt} (h : Meet t) (hn : named S t = some i) : longP S m st (longT t v) rest = (give S m st i v, rest) := by
  unfold longP longT
  simp only [List.drop_succ_cons, List.drop_zero]
  rw [if_neg (meet_head h), nameOf_eq h.2, hn]
  simp only
  rw [if_pos (hasEq_eq h.2), valueOf_eq h.2]
theorem long_alone {S : SetP} {m : Option (List Txt)} {st : St} {t : Txt} {i : Nat} {rest : List Txt} (h : Meet t) (hn : named S t = some i) (ho : noOptOf S i ≠ []) : longP S m st (45 :: 45 :: t) rest = (give S m st i (noOptOf S i), rest) := by
  unfold longP
  simp only [List.drop_succ_cons, List.drop_zero]
  have h1 := meet_head (u := []) h
  rw [List.append_nil] at h1
  rw [if_neg h1, nameOf_no h.2, hn]
  simp only
  rw [if_neg (by rw [hasEq_no h.2]; simp), if_pos ho]
theorem bare_long (t : Txt) : bareB (45 :: 45 :: t) = false := by simp [bareB]
theorem goes_long {S : SetP} {m : Option (List Txt)} {st : St} {t : Txt} {rest : List Txt} (ht : t ≠ []) : goes S m st ((45 :: 45 :: t) :: rest) = if (longP S m st (45 :: 45 :: t) rest).1.err.isNo = true then goes S m (longP S m st (45 :: 45 :: t) rest).1 (longP S m st (45 :: 45 :: t) rest).2 else (longP S m st (45 :: 45 :: t) rest).1 := by
  rw [goes_cons, if_neg (by rw [bare_long]; simp), if_neg (by simpa using ht)]
  have : oneP S m st (45 :: 45 :: t) rest = longP S m st (45 :: 45 :: t) rest := by unfold oneP; simp
  rw [this]

/-! ### the laws -/
/-- A flag alone is that flag with what it is worth alone. -/
theorem law_alone {S : SetP} (h : Right S) {m : Option (List Txt)} {st : St} {i : Nat} (hi : i < S.flags.length) (ho : S.flags[i].noOpt ≠ []) (rest : List Txt) :
    goes S m st ((45 :: 45 :: S.flags[i].name) :: rest) = goes S m st (longT S.flags[i].name S.flags[i].noOpt :: rest) := by
  have hm := h.meet hi
  have hn := named_of h hi (t := S.flags[i].name) rfl
  have e : noOptOf S i = S.flags[i].noOpt := by simp [noOptOf, hi]
  unfold longT
  rw [goes_long (by obtain ⟨⟨c, r, e, _⟩, _⟩ := hm; rw [e]; simp), goes_long (by simp)]
  rw [long_alone hm hn (by rw [e]; exact ho), e]
  have := long_value (m := m) (st := st) (v := S.flags[i].noOpt) (rest := rest) hm hn
  unfold longT at this
  rw [this]
/-- A name that is translated to the same. -/
theorem law_fold {S : SetP} (h : Right S) {m : Option (List Txt)} {st : St} {i : Nat} (hi : i < S.flags.length) {t : Txt} (ht : foldT S.fold t = foldT S.fold S.flags[i].name) (v : Txt) (rest : List Txt) :
    goes S m st (longT t v :: rest) = goes S m st (longT S.flags[i].name v :: rest) := by
  have h1 := long_value (m := m) (st := st) (v := v) (rest := rest) (h.meet hi) (named_of h hi (t := S.flags[i].name) rfl)
  have h2 := long_value (m := m) (st := st) (v := v) (rest := rest) (h.meet_fold hi ht) (named_of h hi ht)
  unfold longT at h1 h2 ⊢
  rw [goes_long (by simp), goes_long (by simp), h1, h2]
/-- A flag with a value. -/
theorem law_equals {S : SetP} (h : Right S) {i : Nat} (hi : i < S.flags.length) (v : Txt) (st : St) (he : st.err = .no) (rest : List Txt) :
    goes S none st (longT S.flags[i].name v :: rest) = if v ∈ S.flags[i].bad then { st with err := .invalid i v } else goes S none { st with given := st.given ++ [(i, v)] } rest := by
  have h1 := long_value (m := none) (st := st) (v := v) (rest := rest) (h.meet hi) (named_of h hi (t := S.flags[i].name) rfl)
  have e : badOf S i = S.flags[i].bad := by simp [badOf, hi]
  unfold longT at h1 ⊢
  rw [goes_long (by simp), h1]
  simp only [give, e]
  split
  · rfl
  · simp only [he, Er.isNo]
    rfl
/-- What was given ahead does not matter to what comes. -/
theorem give_shift (S : SetP) (m : Option (List Txt)) (st : St) (g : List (Nat × Txt)) (i : Nat) (v : Txt) : give S m { st with given := g ++ st.given } i v = { give S m st i v with given := g ++ (give S m st i v).given } := by
  unfold give
  cases m with
  | none => simp only; split <;> simp
  | some b => simp only; split <;> simp
theorem longP_shift (S : SetP) (m : Option (List Txt)) (st : St) (g : List (Nat × Txt)) (arg : Txt) (rest : List Txt) :
    longP S m { st with given := g ++ st.given } arg rest = ({ (longP S m st arg rest).1 with given := g ++ (longP S m st arg rest).1.given }, (longP S m st arg rest).2) := by
  unfold longP
  simp only
  split
  · rfl
  · split
    · split
      · rfl
      · split
        · split <;> rfl
        · rfl
    · split
      · rw [give_shift]
      · split
        · rw [give_shift]
        · split
          · rfl
          · rw [give_shift]
theorem shortP_shift (S : SetP) (m : Option (List Txt)) (st : St) (g : List (Nat × Txt)) (c : UInt8) (t : Txt) (rest : List Txt) :
    shortP S m { st with given := g ++ st.given } c t rest = ({ (shortP S m st c t rest).1 with given := g ++ (shortP S m st c t rest).1.given }, (shortP S m st c t rest).2) := by
  unfold shortP
  split
  · rfl
  · split
    · split
      · rfl
      · split
        · split <;> rfl
        · rfl
    · split
      · rw [give_shift]
      · split
        · rw [give_shift]
        · split
          · rw [give_shift]
          · split
            · rfl
            · rw [give_shift]
theorem shortsP_shift (S : SetP) (m : Option (List Txt)) (rest : List Txt) (g : List (Nat × Txt)) : ∀ (t : Txt) (st : St) (left : List Txt),
    shortsP S m rest t { st with given := g ++ st.given } left = ({ (shortsP S m rest t st left).1 with given := g ++ (shortsP S m rest t st left).1.given }, (shortsP S m rest t st left).2)
  | [], st, left => rfl
  | c :: t, st, left => by
    simp only [shortsP]
    rw [shortP_shift]
    simp only
    split
    · split
      · rfl
      · exact shortsP_shift S m rest g t _ _
    · rfl
theorem oneP_shift (S : SetP) (m : Option (List Txt)) (st : St) (g : List (Nat × Txt)) (arg : Txt) (rest : List Txt) :
    oneP S m { st with given := g ++ st.given } arg rest = ({ (oneP S m st arg rest).1 with given := g ++ (oneP S m st arg rest).1.given }, (oneP S m st arg rest).2) := by
  unfold oneP
  split
  · exact longP_shift S m st g arg rest
  · exact shortsP_shift S m rest g _ st rest
theorem goes_shift (S : SetP) (m : Option (List Txt)) (g : List (Nat × Txt)) : ∀ (n : Nat) (st : St) (args : List Txt), args.length ≤ n → goes S m { st with given := g ++ st.given } args = { goes S m st args with given := g ++ (goes S m st args).given } := by
  intro n
  induction n with
  | zero =>
    intro st args h
    have : args = [] := List.eq_nil_of_length_eq_zero (by omega)
    subst this
    rfl
  | succ n ih =>
    intro st args h
    cases args with
    | nil => rfl
    | cons arg rest =>
      simp at h
      rw [goes_cons, goes_cons]
      split
      · split
        · rfl
        · exact ih { st with args := st.args ++ [arg] } rest h
      · split
        · rfl
        · rw [oneP_shift]
          simp only
          have h1 := oneP_len S m st arg rest
          split
          · exact ih _ _ (by omega)
          · rfl
/-- Two dashes end the flags. -/
theorem law_tail {S : SetP} {m : Option (List Txt)} (st : St) (behind : List Txt) : goes S m st ([45, 45] :: behind) = { st with dash := st.args.length, args := st.args ++ behind } := by
  rw [goes_cons, if_neg (by rw [bare_long]; simp), if_pos rfl]
theorem law_plain {S : SetP} {m : Option (List Txt)} (st : St) (hp : S.plain = true) {arg : Txt} (hb : bareB arg = true) (behind : List Txt) : goes S m st (arg :: behind) = { st with args := st.args ++ (arg :: behind) } := by
  rw [goes_cons, if_pos hb, if_pos hp]
/-- A flag that is not there. -/
theorem law_unknown {S : SetP} {m : Option (List Txt)} (st : St) (he : st.err = .no) {t : Txt} (h : Meet t) (hh : t ≠ helpT) (hn : named S t = none) (v : Txt) (behind : List Txt) :
    goes S m st (longT t v :: behind) = if S.unknown = true then goes S m st behind else { st with err := .notExist t [] } := by
  have h1 : longP S m st (longT t v) behind = if S.unknown = true then (st, behind) else ({ st with err := .notExist t [] }, behind) := by
    unfold longP longT
    simp only [List.drop_succ_cons, List.drop_zero]
    rw [if_neg (meet_head h), nameOf_eq h.2, hn]
    simp only
    rw [if_neg hh, hasEq_eq h.2]
    simp only [if_true]
  unfold longT at h1 ⊢
  rw [goes_long (by simp), h1]
  split
  · simp only [he, Er.isNo, if_true]
  · simp [Er.isNo]

/-! ### shorthands that stand together -/
theorem take_test {l : Txt} (h : ∀ c ∈ l, letterB c = true) : l.take 5 ≠ testT := by
  intro e
  have h1 : (46 : UInt8) ∈ l.take 5 := by rw [e]; simp [testT]
  exact absurd (h 46 (List.mem_of_mem_take h1)) (by decide)
theorem own_letters {l : Txt} (h : ∀ c ∈ l, letterB c = true) : ownB l = false := by
  cases l with
  | nil => simp [ownB]
  | cons c r =>
    have := (letter_not (h c (by simp))).2.1
    simp [ownB, this]
/-- A shorthand of a flag that is worth something alone. -/
def Alone (S : SetP) (c : UInt8) (i : Nat) : Prop := lettered S c = some i ∧ noOptOf S i ≠ [] ∧ letterB c = true
theorem short_alone {S : SetP} {m : Option (List Txt)} {st : St} {c : UInt8} {i : Nat} {more : Txt} {rest : List Txt} (h : Alone S c i) (hm : ∀ c ∈ more, letterB c = true) : shortP S m st c more rest = (give S m st i (noOptOf S i), more, rest) := by
  unfold shortP
  rw [if_neg (take_test (fun d hd => by rcases List.mem_cons.1 hd with rfl | hd; exact h.2.2; exact hm d hd)), h.1]
  simp only
  rw [own_letters hm]
  simp only [Bool.false_eq_true, if_false]
  rw [if_pos h.2.1]
theorem shorts_alone {S : SetP} {m : Option (List Txt)} {st : St} {c : UInt8} {i : Nat} {r : Txt} {rest left : List Txt} (hi : Alone S c i) (hr : ∀ c ∈ r, letterB c = true) :
    shortsP S m rest (c :: r) st left = if (give S m st i (noOptOf S i)).err.isNo = true then (if r = [] then (give S m st i (noOptOf S i), rest) else shortsP S m rest r (give S m st i (noOptOf S i)) rest) else (give S m st i (noOptOf S i), rest) := by
  have e : shortsP S m rest (c :: r) st left = (let q := shortP S m st c r rest; if q.1.err.isNo = true then (if q.2.1 = [] then (q.1, q.2.2) else shortsP S m rest r q.1 q.2.2) else (q.1, q.2.2)) := rfl
  rw [e, short_alone hi hr]
theorem law_cluster {S : SetP} {m : Option (List Txt)} (rest : List Txt) : ∀ (cs : Txt) (st : St), (∀ c ∈ cs, ∃ i, Alone S c i) → cs ≠ [] → st.err = .no →
    goes S m st ((45 :: cs) :: rest) = goes S m st (cs.map (fun c => [45, c]) ++ rest) := by
  have one : ∀ (c : UInt8) (st : St) (more : List Txt) (i : Nat), Alone S c i → goes S m st ([45, c] :: more) = if (give S m st i (noOptOf S i)).err.isNo = true then goes S m (give S m st i (noOptOf S i)) more else give S m st i (noOptOf S i) := by
    intro c st more i h
    have hc := letter_not h.2.2
    rw [goes_cons, if_neg (by simp [bareB]), if_neg (by simp; exact hc.1)]
    have : oneP S m st [45, c] more = (give S m st i (noOptOf S i), more) := by
      unfold oneP
      rw [if_neg (by simp; exact hc.1)]
      simp only [List.drop_succ_cons, List.drop_zero, shortsP]
      rw [short_alone h (by simp)]
      simp
    rw [this]
  have many : ∀ (cs : Txt) (st : St) (left : List Txt), (∀ c ∈ cs, ∃ i, Alone S c i) → cs ≠ [] → st.err = .no →
      (if (shortsP S m rest cs st left).1.err.isNo = true then goes S m (shortsP S m rest cs st left).1 (shortsP S m rest cs st left).2 else (shortsP S m rest cs st left).1) = goes S m st (cs.map (fun c => [45, c]) ++ rest) := by
    intro cs
    induction cs with
    | nil => intro st left _ h _; exact absurd rfl h
    | cons c r ih =>
      intro st left h _ he
      obtain ⟨i, hi⟩ := h c (by simp)
      have hr : ∀ d ∈ r, ∃ i, Alone S d i := fun d hd => h d (by simp [hd])
      rw [List.map_cons, List.cons_append, one c st _ i hi]
      rw [shorts_alone hi (fun d hd => by obtain ⟨_, h1⟩ := hr d hd; exact h1.2.2)]
      by_cases hn : (give S m st i (noOptOf S i)).err.isNo = true
      · rw [if_pos hn]
        by_cases h0 : r = []
        · subst h0
          rw [if_pos rfl, if_pos hn]
          simp [hn]
        · rw [if_neg h0]
          rw [ih _ rest hr h0 (Er.isNo_iff.1 hn)]
          rw [if_pos hn]
      · rw [if_neg hn, if_neg hn, if_neg hn]
  intro cs st h h0 he
  cases cs with
  | nil => exact absurd rfl h0
  | cons c r =>
    obtain ⟨i, hi⟩ := h c (by simp)
    have hc := letter_not hi.2.2
    rw [goes_cons, if_neg (by simp [bareB]), if_neg (by simp; exact fun e => absurd e hc.1)]
    have : oneP S m st (45 :: c :: r) rest = shortsP S m rest (c :: r) st rest := by
      unfold oneP
      rw [if_neg (by simp; exact hc.1)]
      rfl
    rw [this]
    exact many (c :: r) st rest h (by simp) he
/-- ParseAll hands on what Parse sets, where nothing is refused. -/
theorem give_handed {S : SetP} (hb : ∀ f ∈ S.flags, f.bad = []) (st : St) (i : Nat) (v : Txt) : give S (some []) st i v = give S none st i v := by
  have : badOf S i = [] := by
    unfold badOf
    cases h : S.flags[i]? with
    | none => rfl
    | some f => simp [hb f (List.mem_of_getElem? h)]
  simp [give, this]
theorem longP_handed {S : SetP} (hb : ∀ f ∈ S.flags, f.bad = []) (st : St) (arg : Txt) (rest : List Txt) : longP S (some []) st arg rest = longP S none st arg rest := by
  unfold longP; simp only [give_handed hb]
theorem shortP_handed {S : SetP} (hb : ∀ f ∈ S.flags, f.bad = []) (st : St) (c : UInt8) (t : Txt) (rest : List Txt) : shortP S (some []) st c t rest = shortP S none st c t rest := by
  unfold shortP; simp only [give_handed hb]
theorem shortsP_handed {S : SetP} (hb : ∀ f ∈ S.flags, f.bad = []) (rest : List Txt) : ∀ (t : Txt) (st : St) (left : List Txt), shortsP S (some []) rest t st left = shortsP S none rest t st left
  | [], st, left => rfl
  | c :: t, st, left => by simp only [shortsP, shortP_handed hb, shortsP_handed hb rest t]
theorem oneP_handed {S : SetP} (hb : ∀ f ∈ S.flags, f.bad = []) (st : St) (arg : Txt) (rest : List Txt) : oneP S (some []) st arg rest = oneP S none st arg rest := by
  unfold oneP; rw [longP_handed hb, shortsP_handed hb]
theorem law_handed {S : SetP} (hb : ∀ f ∈ S.flags, f.bad = []) : ∀ (n : Nat) (st : St) (args : List Txt), args.length ≤ n → goes S (some []) st args = goes S none st args := by
  intro n
  induction n with
  | zero =>
    intro st args h
    have : args = [] := List.eq_nil_of_length_eq_zero (by omega)
    subst this
    rfl
  | succ n ih =>
    intro st args h
    cases args with
    | nil => rfl
    | cons arg rest =>
      simp at h
      have h1 := oneP_len S none st arg rest
      rw [goes_cons, goes_cons, oneP_handed hb, ih _ rest h]
      rw [ih _ _ (Nat.le_trans h1 h)]
end Go.Proofs.Ytgmhhdpggnmipaa.E
