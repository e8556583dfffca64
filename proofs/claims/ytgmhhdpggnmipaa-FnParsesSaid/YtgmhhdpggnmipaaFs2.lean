/- Names as a set of flags translates them, and texts that are cut, over this seat's program. -/
import Derived.Test.YtgmhhdpggnmipaaFs1
import Derived.WalkSpells
import Derived.BigRegion
namespace Go.Proofs.Ytgmhhdpggnmipaa.E
open Go.RowKit Go.Proofs
set_option linter.unusedVariables false
set_option linter.unusedSimpArgs false

/-- Whether a text is one of some. -/
def hasB (xs : List ByteArray) (s : ByteArray) : Bool := xs.any fun t => t.data.toList == s.data.toList
theorem hasB_iff {xs : List ByteArray} {s : ByteArray} : hasB xs s = true ↔ s ∈ xs := by
  unfold hasB
  rw [List.any_eq_true]
  constructor
  · rintro ⟨t, ht, e⟩
    have : t = s := mkT_inj (by simpa using e)
    rw [← this]; exact ht
  · intro h; exact ⟨s, h, by simp⟩
set_option maxRecDepth 100000 in
theorem has_any (A : Option Addr) (cap : Nat) (xs : List ByteArray) (s : ByteArray) (w : World) (hx : StrsAt w A xs) (hm : xs.length ≤ 9223372036854775807) :
    Calls Try.prog 65 #[.slice A xs.length cap, .string s] w fun e w' => e = .returned (.bool (hasB xs s)) ∧ w = w' := by
  go_enter Try.func65, Try.ntmps65
  go_wp2
  go_loop [9] (fun i => ∃ k : Nat, k ≤ xs.length ∧ i = .int .i64 k ∧ Hid (∀ j, j < k → tx xs j ≠ s)) (fun i => xs.length - (intOf i).toNat)
  case atStart => exact ⟨0, Nat.zero_le _, rfl, fun j h => by omega⟩
  case round =>
    obtain ⟨k, hk, rfl, HN⟩ := hrel
    by_cases hlt : k < xs.length
    · obtain ⟨b, o, rfl, hc⟩ := hx k hlt
      have i0 : (0 : Int) ≤ (k : Int) := Int.natCast_nonneg _
      have i1 : (k : Int) < (xs.length : Int) := by omega
      by_cases he : tx xs k = s
      · have hb := bytes_same he
        have HM : Hid (hasB xs s = true) := by
          show _ = _
          rw [hasB_iff, ← he, tx_lt hlt]; exact List.getElem_mem hlt
        clear he
        generalize tx xs k = t at hc hb
        go_wp2
        go_ret
        exact ⟨by rw [HM.out]; rfl, rfl⟩
      · have hb := bytes_ne he
        have HN2 : Hid (∀ j, j < k + 1 → tx xs j ≠ s) := by
          intro j hj
          by_cases e : j = k
          · subst e; exact he
          · exact HN.out j (by omega)
        clear he
        generalize tx xs k = t at hc hb
        go_wp2
        go_round
        case rel => exact ⟨k + 1, by omega, by go_num, HN2⟩
        case measure => simp [intOf]; omega
    · have HM : Hid (hasB xs s = false) := by
        show _ = _
        rw [Bool.eq_false_iff, Ne, hasB_iff]
        intro h
        obtain ⟨j, hj, e⟩ := List.getElem_of_mem h
        exact HN.out j (by omega) (by rw [tx_lt hj]; exact e)
      go_wp2
      go_ret
      exact ⟨by rw [HM.out]; rfl, rfl⟩

/-- Whether shorthands begin as Go's own flags of tests. -/
def isTest (s : ByteArray) : Bool := decide (s.data.toList.take 5 = testT)
set_option maxRecDepth 100000 in
theorem isTest_any (s : ByteArray) (hs : s.size ≤ 9223372036854775807) (w : World) :
    Calls Try.prog 117 #[.string s] w fun e w' => e = .returned (.bool (isTest s)) ∧ w = w' := by
  by_cases h5 : 5 ≤ s.size
  · have i0 : (5 : Int) ≤ (s.size : Int) := by omega
    have hsl : ∀ W, (Instr.slice 9 (.string s) none (some (.int .i64 5)) none).run Try.prog W = .ok (.string (s.extract 0 5)) W := fun W => by rw [run_slice_string_h (P := Try.prog) W 9 s Try.underlying9 .i64 5 (by omega) (by omega)]; rfl
    have he : ((s.extract 0 5).toList == [116, 101, 115, 116, 46]) = isTest s := by
      rw [ByteArray.toList_eq, ext_midP, List.drop_zero]
      unfold isTest testT
      rw [Bool.eq_iff_iff]; simp
    generalize s.extract 0 5 = t at hsl he
    generalize isTest s = q at he ⊢
    cases q
    all_goals
      go_enter Try.func117, Try.ntmps117
      go_wp2
      go_ret
      exact ⟨rfl, rfl⟩
  · have i0 : (s.size : Int) < 5 := by omega
    have hq : isTest s = false := by
      unfold isTest
      rw [decide_eq_false_iff_not]
      intro e
      have e2 := congrArg List.length e
      simp [testT] at e2
      omega
    rw [hq]
    go_enter Try.func117, Try.ntmps117
    go_wp2
    go_ret
    exact ⟨rfl, rfl⟩

/-! ### a text cut at its first '=' -/
theorem nameOf_take (l : List UInt8) : nameOf l = l.take (nameOf l).length := by
  have h : nameOf l <+: l := List.takeWhile_prefix _
  exact List.prefix_iff_eq_take.1 h
theorem nameOf_le (l : List UInt8) : (nameOf l).length ≤ l.length := (List.takeWhile_prefix _).length_le
theorem nameOf_not (l : List UInt8) (m : Nat) (h : m < (nameOf l).length) (hl : m < l.length) : ¬ (l[m]).toNat = 61 := by
  have h1 : l[m] ∈ nameOf l := by
    have e : (nameOf l)[m] = l[m] := (List.takeWhile_prefix _).getElem h
    rw [← e]; exact List.getElem_mem h
  intro e
  have e2 : l[m] = 61 := UInt8.toNat_inj.1 e
  rw [e2] at h1
  have : ∀ q : List UInt8, ¬ (61 : UInt8) ∈ nameOf q := by
    intro q
    induction q with
    | nil => simp [nameOf]
    | cons c r ih =>
      unfold nameOf
      rw [List.takeWhile_cons]
      split
      · rename_i hc
        rw [List.mem_cons, not_or]
        exact ⟨fun e => by rw [← e] at hc; simp at hc, ih⟩
      · simp
  exact this l h1
theorem nameOf_is (l : List UInt8) (h : (nameOf l).length < l.length) : (l[(nameOf l).length]).toNat = 61 := by
  induction l with
  | nil => simp at h
  | cons c r ih =>
    by_cases hc : c = 61
    · subst hc; simp [nameOf]
    · have e : nameOf (c :: r) = c :: nameOf r := by unfold nameOf; rw [List.takeWhile_cons, if_pos (by simpa using hc)]
      simp only [e, List.length_cons] at h ⊢
      exact ih (by omega)
theorem cut_name (s : ByteArray) : s.extract 0 (nameOf s.data.toList).length = mkT (nameOf s.data.toList) := mkT_inj (by rw [mkT_list, ext_midP, List.drop_zero, Nat.sub_zero, ← nameOf_take])
theorem cut_value (s : ByteArray) : s.extract ((nameOf s.data.toList).length + 1) s.size = mkT (valueOf s.data.toList) := mkT_inj (by rw [mkT_list, ext_tailP]; rfl)

/-- What zzSplitTwo gives. -/
def CutV (q : Bool) (N V s : ByteArray) (w : World) (e : Ending) (w' : World) : Prop :=
  (∃ g c, ((q = true ∧ e = .returned (.slice (some ⟨g, 0, none⟩) 2 c) ∧ w'.cell? ⟨g, 0, none⟩ = some (.string N) ∧ w'.cell? ⟨g, 1, none⟩ = some (.string V)) ∨ (q = false ∧ e = .returned (.slice (some ⟨g, 0, none⟩) 1 c) ∧ w'.cell? ⟨g, 0, none⟩ = some (.string s)))) ∧ Below w.heap.size w w'
def CutAt (s : ByteArray) : World → Ending → World → Prop := CutV (hasEq s.data.toList) (mkT (nameOf s.data.toList)) (mkT (valueOf s.data.toList)) s

set_option maxRecDepth 100000 in
theorem splitTwo_any (s : ByteArray) (hs : s.size ≤ 17179869184) (w : World) :
    Calls Try.prog 97 #[.string s, .int .u8 61] w (CutAt s w) := by
  have hl : s.data.toList.length = s.size := by simp
  have HN := Lib.hid (fun m h hm => nameOf_not s.data.toList m h hm)
  have HI := Lib.hid (nameOf_is s.data.toList)
  have h1 := nameOf_le s.data.toList
  have HC := Lib.hid (cut_name s)
  have HV := Lib.hid (cut_value s)
  have HE : Hid (hasEq s.data.toList = decide ((nameOf s.data.toList).length < s.size)) := by show _ = _; unfold hasEq; rw [hl]
  have HL := Lib.hid hl
  rw [hl] at h1
  unfold CutAt
  generalize hasEq s.data.toList = q at HE ⊢
  generalize mkT (nameOf s.data.toList) = NM at HC ⊢
  generalize mkT (valueOf s.data.toList) = VL at HV ⊢
  generalize (nameOf s.data.toList).length = j at HN HI h1 HC HV HE
  clear hl
  go_enter Try.func97, Try.ntmps97
  go_wp2
  go_loop [5] (fun i => ∃ k : Nat, k ≤ j ∧ i = .int .i64 k) (fun i => s.size - (intOf i).toNat)
  case atStart => exact ⟨0, Nat.zero_le _, rfl⟩
  case round =>
    obtain ⟨k, hk, rfl⟩ := hrel
    have i0 : (0 : Int) ≤ (k : Int) := Int.natCast_nonneg _
    by_cases hlt : k < s.size
    · have i1 : (k : Int) < (s.size : Int) := by omega
      by_cases hkj : k = j
      · subst hkj
        have c0 : ((s[k].toNat : Int) == 61) = true := by
          have := HI.out (by rw [HL.out]; exact hlt)
          rw [← bget hlt] at this
          rw [this]; rfl
        have hq : q = true := by rw [HE.out]; exact decide_eq_true hlt
        have hsl : ∀ W, (Instr.slice 9 (.string s) none (some (.int .i64 k)) none).run Try.prog W = .ok (.string NM) W := fun W => by rw [run_slice_string_h (P := Try.prog) W 9 s Try.underlying9 .i64 k (by omega) (by omega), ← HC.out]; rfl
        have hsr : ∀ W, (Instr.slice 9 (.string s) (some (.int .i64 ((k : Int) + 1))) none none).run Try.prog W = .ok (.string VL) W := fun W => by rw [run_slice_string_l (P := Try.prog) W 9 s Try.underlying9 .i64 _ (by omega) (by omega), ← HV.out]; rfl
        subst hq
        clear HE HN HI HC HV
        go_wp2
        go_region
        go_wp2
        go_ret
        exact ⟨⟨_, _, .inl ⟨rfl, rfl, cell_blk (heap_alloc_new w _) 0, cell_blk (heap_alloc_new w _) 1⟩⟩, ((Below.refl _ _).alloc (Nat.le_refl _) _).drew⟩
      · have c0 : ((s[k].toNat : Int) == 61) = false := nat_beq_false (by
          have := HN.out k (by omega) (by rw [HL.out]; exact hlt)
          rwa [← bget hlt] at this)
        clear HE HN HI HC HV
        go_wp2
        go_round
        case rel => exact ⟨k + 1, by omega, by go_num⟩
        case measure => simp [intOf]; omega
    · have hq : q = false := by rw [HE.out]; exact decide_eq_false (by omega)
      subst hq
      clear HE HN HI HC HV
      go_wp2
      go_ret
      exact ⟨⟨_, _, .inr ⟨rfl, rfl, cell_of_one (heap_alloc_new w _)⟩⟩, (Below.refl _ _).alloc (Nat.le_refl _) _⟩

/-! ### how a set translates names -/
theorem eqIn_func_nil (w : World) (d : Nat) (fn : Fn) (fi ca : Array Value) : (Op.equalIn (d + 1) 114 (.func fn fi ca) .nilFunc).run Try.prog w = .ok false w := by
  simp [Op.equalIn, run_underlying Try.underlying114]
theorem eqIn_nil_nil (w : World) (d : Nat) : (Op.equalIn (d + 1) 114 .nilFunc .nilFunc).run Try.prog w = .ok true w := by
  simp [Op.equalIn, run_underlying Try.underlying114]
theorem neq_func_nil (w : World) (fn : Fn) (fi ca : Array Value) : (binOp .neq 114 (.func fn fi ca) .nilFunc).run Try.prog w = .ok (.bool true) w := by
  simp only [binOp]
  simp [Op.equal, Op.maxDepth, eqIn_func_nil w 9999]
theorem neq_nil_nil (w : World) : (binOp .neq 114 .nilFunc .nilFunc).run Try.prog w = .ok (.bool false) w := by
  simp only [binOp]
  simp [Op.equal, Op.maxDepth, eqIn_nil_nil w 9999]
/-- The set at F translates names as fold f says. -/
def NormAt (w : World) (F f : Nat) : Prop :=
  (f = 0 ∧ w.cell? ⟨F, 16, none⟩ = some .nilFunc) ∨
  ((f = 1 ∨ f = 2 ∨ f = 3) ∧ ∃ sc : Nat, w.cell? ⟨F, 16, none⟩ = some (.func (.func 73) #[] #[.pointer (some ⟨sc, 0, none⟩)]) ∧ w.cell? ⟨sc, 3, none⟩ = some (.int .i64 f))
set_option maxRecDepth 100000 in
theorem norm_any (F f : Nat) (s : ByteArray) (hs : s.size ≤ 17179869184) (w : World) (h : NormAt w F f) :
    Calls Try.prog 95 #[.pointer (some ⟨F, 0, none⟩), .string s] w fun e w' => e = .returned (.string (mkT (foldT f s.data.toList))) ∧ Below w.heap.size w w' := by
  rcases h with ⟨rfl, hc⟩ | ⟨hf, sc, hc, hc3⟩
  · rw [foldT_zero, of_list]
    have HG : Calls Try.prog 104 #[.pointer (some ⟨F, 0, none⟩)] w fun e w' => e = .returned (.func (.func 116) #[] #[]) ∧ w = w' := by
      have q1 := neq_func_nil
      have q2 := neq_nil_nil
      go_enter Try.func104, Try.ntmps104
      go_wp2
      go_ret
      exact ⟨rfl, rfl⟩
    have HI : Calls Try.prog 116 #[.pointer (some ⟨F, 0, none⟩), .string s] w fun e w' => e = .returned (.string s) ∧ w = w' := by
      go_enter Try.func116, Try.ntmps116
      go_wp2
      go_ret
      exact ⟨rfl, rfl⟩
    have HG := Lib.hid HG
    have HI := Lib.hid HI
    go_enter Try.func95, Try.ntmps95
    go_wp2_with (first
      | (go_at_call 104; refine (HG.out).mono ?_; rintro e w1 ⟨rfl, rfl⟩)
      | (go_at_call 116; refine (HI.out).mono ?_; rintro e w1 ⟨rfl, rfl⟩))
    go_ret
    exact ⟨rfl, Below.refl _ _⟩
  · have HG : Calls Try.prog 104 #[.pointer (some ⟨F, 0, none⟩)] w fun e w' => e = .returned (.func (.func 73) #[] #[.pointer (some ⟨sc, 0, none⟩)]) ∧ w = w' := by
      have q1 := neq_func_nil
      have q2 := neq_nil_nil
      go_enter Try.func104, Try.ntmps104
      go_wp2
      go_ret
      exact ⟨rfl, rfl⟩
    have HF := Lib.hid (folded_any f hf s hs w)
    have HI : Calls Try.prog 73 #[.pointer (some ⟨F, 0, none⟩), .string s, .pointer (some ⟨sc, 0, none⟩)] w fun e w' => e = .returned (.string (mkT (foldT f s.data.toList))) ∧ Below w.heap.size w w' := by
      generalize mkT (foldT f s.data.toList) = R at HF ⊢
      clear hf hc HG
      go_enter Try.func73, Try.ntmps73
      go_wp2_with (go_at_call 74; refine (HF.out).mono ?_; rintro e w1 ⟨rfl, hb⟩)
      go_ret
      exact ⟨rfl, hb⟩
    have HG := Lib.hid HG
    have HI := Lib.hid HI
    generalize mkT (foldT f s.data.toList) = R at HI ⊢
    clear hf hc hc3 HF
    go_enter Try.func95, Try.ntmps95
    go_wp2_with (first
      | (go_at_call 104; refine (HG.out).mono ?_; rintro e w1 ⟨rfl, rfl⟩)
      | (go_at_call 73; refine (HI.out).mono ?_; rintro e w1 ⟨rfl, hb⟩))
    go_ret
    exact ⟨rfl, hb⟩
end Go.Proofs.Ytgmhhdpggnmipaa.E
