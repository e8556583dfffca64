/- spec.Right over this seat's program: may a set be defined? Written by gen_sp2.py. -/
import Derived.Test.YtgmhhdpggnmipaaSp1
import Derived.Test.YtgmhhdpggnmipaaFs17
import Derived.Test.YtgmhhdpggnmipaaPQx5
import Derived.Test.YtgmhhdpggnmipaaBq
namespace Go.Proofs.Ytgmhhdpggnmipaa.E
open Go.RowKit Go.Proofs
open Go.Maps (Keyed)
open Go.Proofs.Ytgmhhdpggnmipaa.PQ Go.Proofs.YtgmhhdpggnmipaaW.PrintWords
set_option linter.unusedVariables false
set_option linter.unusedSimpArgs false

/-- A call of any Go function as a law of a drawn region, guarded or not. -/
theorem step_callg {P : Program} {w : World} {ops : Array Oper} {o : Oper} {a : Act} {K : Act → World → Prop} {Q : Exit → Act → World → Prop} {E : Prop} (hw : Region.wanted o (yielded ops a.tmps) = true) (args : Array Operand) (ts : Array TypeId) (F : Nat) {fn : Func} {c : Code} (hf : P.funcs[F]? = some fn) (hname : (fn.name == "runtime.NumGoroutine") = false) (hb : fn.body = some c)
    (ho : o.op = .call { callee := .value (.func F), args := args, argTypes := ts }) (vs : Array Value) (hx : args.map a.eval = vs) {R : Ending → World → Prop} (hc : Calls P F vs w R) (h : ∀ e w', R e w' → ∃ v, e = .returned v ∧ K (a.put o.dst v) w') : if Region.wanted o (yielded ops a.tmps) = true then Oper.wp P o a w K Q else E := by
  rw [if_pos hw]
  have hF : a.eval (.func F) = .func (.func F) #[] #[] := rfl
  have hcf := call_enter9 (P := P) hf hname hb vs w
  unfold Oper.wp
  simp [execOp, ho, resolve, invoke, hx, hF, hcf, Deferred.ofValue]
  unfold Oper.upon
  refine hc.mono ?_
  intro e w' hr
  obtain ⟨v, rfl, hk⟩ := h e w' hr
  exact hk
/-- May flags be defined, some names and shorthands being taken? -/
def rightL (g : Txt → Txt) (N S : List Txt) : List FlagP → Bool
  | [] => true
  | f :: r =>
    if f.name.head?.any letterB = true ∧ ¬ (61 : UInt8) ∈ f.name ∧ ¬ g f.name ∈ N then
      (if f.short = [] then rightL g (g f.name :: N) S r
       else if f.short.length = 1 ∧ f.short.head?.any letterB = true ∧ ¬ f.short ∈ S then rightL g (g f.name :: N) (f.short :: S) r else false)
    else false
theorem rightL_spec (g : Txt → Txt) : ∀ (L : List FlagP) (N S : List Txt), rightL g N S L = true →
    (∀ f ∈ L, (∃ c r, f.name = c :: r ∧ letterB c = true) ∧ ¬ (61 : UInt8) ∈ f.name ∧ ¬ g f.name ∈ N ∧ (f.short = [] ∨ ∃ c, f.short = [c] ∧ letterB c = true) ∧ (f.short ≠ [] → ¬ f.short ∈ S)) ∧
    (∀ i j (hi : i < L.length) (hj : j < L.length), g L[i].name = g L[j].name → i = j) ∧ (∀ i j (hi : i < L.length) (hj : j < L.length), L[i].short ≠ [] → L[i].short = L[j].short → i = j)
  | [], N, S, _ => ⟨by simp, by simp, by simp⟩
  | f :: r, N, S, h => by
    unfold rightL at h
    split at h
    · rename_i h1
      obtain ⟨h1, h2, h3⟩ := h1
      have hname : ∃ c r, f.name = c :: r ∧ letterB c = true := by
        cases hn : f.name with
        | nil => rw [hn] at h1; simp at h1
        | cons c t => rw [hn] at h1; exact ⟨c, t, rfl, by simpa using h1⟩
      have key : ∃ S', rightL g (g f.name :: N) S' r = true ∧ (∀ t, t ∈ S → t ∈ S') ∧ (f.short ≠ [] → f.short ∈ S') ∧ (f.short = [] ∨ ∃ c, f.short = [c] ∧ letterB c = true) ∧ (f.short ≠ [] → ¬ f.short ∈ S) := by
        split at h
        · rename_i hs
          exact ⟨S, h, fun _ h => h, fun q => absurd hs q, .inl hs, fun q => absurd hs q⟩
        · rename_i hs
          split at h
          · rename_i h4
            obtain ⟨h4, h5, h6⟩ := h4
            refine ⟨f.short :: S, h, fun t ht => List.mem_cons_of_mem _ ht, fun _ => List.mem_cons_self, .inr ?_, fun _ => h6⟩
            match hq : f.short, h4, h5 with
            | [c], _, h5 => exact ⟨c, rfl, by simpa using h5⟩
          · cases h
      obtain ⟨S', hr, hS, hf, hsh, hsn⟩ := key
      obtain ⟨i1, i2, i3⟩ := rightL_spec g r (g f.name :: N) S' hr
      refine ⟨?_, ?_, ?_⟩
      · intro x hx
        rcases List.mem_cons.1 hx with rfl | hx
        · exact ⟨hname, h2, h3, hsh, hsn⟩
        · obtain ⟨a1, a2, a3, a4, a5⟩ := i1 x hx
          exact ⟨a1, a2, fun q => a3 (List.mem_cons_of_mem _ q), a4, fun q m => a5 q (hS _ m)⟩
      · intro i j hi hj e
        cases i with
        | zero =>
          cases j with
          | zero => rfl
          | succ j =>
            have hj' : j < r.length := by simpa using hj
            have := (i1 r[j] (List.getElem_mem hj')).2.2.1
            simp only [List.getElem_cons_zero, List.getElem_cons_succ] at e
            exact absurd (by rw [← e]; exact List.mem_cons_self) this
        | succ i =>
          have hi' : i < r.length := by simpa using hi
          cases j with
          | zero =>
            have := (i1 r[i] (List.getElem_mem hi')).2.2.1
            simp only [List.getElem_cons_zero, List.getElem_cons_succ] at e
            exact absurd (by rw [e]; exact List.mem_cons_self) this
          | succ j => exact congrArg (· + 1) (i2 i j hi' (by simpa using hj) (by simpa using e))
      · intro i j hi hj hne e
        cases i with
        | zero =>
          cases j with
          | zero => rfl
          | succ j =>
            have hj' : j < r.length := by simpa using hj
            simp only [List.getElem_cons_zero, List.getElem_cons_succ] at e hne
            exact absurd (by rw [← e]; exact hf hne) ((i1 r[j] (List.getElem_mem hj')).2.2.2.2 (by rw [← e]; exact hne))
        | succ i =>
          have hi' : i < r.length := by simpa using hi
          cases j with
          | zero =>
            simp only [List.getElem_cons_zero, List.getElem_cons_succ] at e hne
            exact absurd (by rw [e]; exact hf (by rw [← e]; exact hne)) ((i1 r[i] (List.getElem_mem hi')).2.2.2.2 hne)
          | succ j => exact congrArg (· + 1) (i3 i j hi' (by simpa using hj) (by simpa using hne) (by simpa using e))
    · cases h
theorem right_of {S : SetP} (hk : S.fold ≤ 3) (h : rightL (foldT S.fold) [] [] S.flags = true) : Right S := by
  obtain ⟨h1, h2, h3⟩ := rightL_spec _ _ _ _ h
  exact ⟨fun f hf => ⟨(h1 f hf).1, (h1 f hf).2.1⟩, h2, fun f hf => (h1 f hf).2.2.2.1, h3, hk⟩

/-! ### small readers -/
theorem letter_f (c : UInt8) : spec_letter.f (c.toNat : Int) = some (letterB c) := by
  unfold spec_letter.f letterB
  by_cases h1 : (97 : Int) ≤ (c.toNat : Int) <;> by_cases h2 : (c.toNat : Int) ≤ 122 <;> by_cases h3 : (65 : Int) ≤ (c.toNat : Int) <;> by_cases h4 : (c.toNat : Int) ≤ 90 <;> by_cases h5 : (48 : Int) ≤ (c.toNat : Int) <;> by_cases h6 : (c.toNat : Int) ≤ 57 <;>
    (have g1 : (97 ≤ c.toNat) = ((97 : Int) ≤ (c.toNat : Int)) := by (apply propext; omega)
     have g2 : (c.toNat ≤ 122) = ((c.toNat : Int) ≤ 122) := by (apply propext; omega)
     have g3 : (65 ≤ c.toNat) = ((65 : Int) ≤ (c.toNat : Int)) := by (apply propext; omega)
     have g4 : (c.toNat ≤ 90) = ((c.toNat : Int) ≤ 90) := by (apply propext; omega)
     have g5 : (48 ≤ c.toNat) = ((48 : Int) ≤ (c.toNat : Int)) := by (apply propext; omega)
     have g6 : (c.toNat ≤ 57) = ((c.toNat : Int) ≤ 57) := by (apply propext; omega)
     simp [g1, g2, g3, g4, g5, g6, h1, h2, h3, h4, h5, h6])
theorem wrap_up {i : Nat} (h : i < 9223372036854775807) : wrap64 ((i : Int) + 1) = ((i + 1 : Nat) : Int) := by unfold wrap64; omega
theorem bt_nat {s : ByteArray} {i : Nat} (h : i < s.size) : bt s (i : Int) = (s[i].toNat : Int) := by
  unfold bt
  simp [h]
/-- The first place of '='. -/
theorem byteAt_from (s : ByteArray) (hs : s.size ≤ 2147483647) : ∀ (d i : Nat), s.size - i = d → i ≤ (nameOf s.data.toList).length → spec_byteAt.l0 (d + 1) s 61 (i : Int) = some ((nameOf s.data.toList).length : Int) := by
  intro d
  induction d with
  | zero =>
    intro i hd hi
    have hle := nameOf_le s.data.toList
    have hsz : s.data.toList.length = s.size := by simp
    have e1 : ¬ ((i : Int) < (s.size : Int)) := by omega
    unfold spec_byteAt.l0
    rw [if_neg e1]
    congr 1
    omega
  | succ d ih =>
    intro i hd hi
    have hlt : i < s.size := by omega
    have hsz : s.data.toList.length = s.size := by simp
    unfold spec_byteAt.l0
    rw [if_pos (by omega), if_pos (by omega), bt_nat hlt]
    by_cases h : i < (nameOf s.data.toList).length
    · have hne := nameOf_not s.data.toList i h (by omega)
      rw [← bget hlt] at hne
      rw [if_neg (by omega), wrap_up (by omega)]
      exact ih (i + 1) (by omega) (by omega)
    · have e : (nameOf s.data.toList).length = i := by omega
      have his := nameOf_is s.data.toList (by omega)
      simp only [e] at his
      rw [← bget hlt] at his
      rw [if_pos (by omega), e]
theorem byteAt_f (s : ByteArray) (hs : s.size ≤ 2147483647) : spec_byteAt.f (s.size + 1) s 61 = some ((nameOf s.data.toList).length : Int) := by
  have h := byteAt_from s hs s.size 0 (by omega) (by omega)
  exact h
theorem nameOf_lt {t : Txt} : (nameOf t).length < t.length ↔ (61 : UInt8) ∈ t := by
  constructor
  · intro h
    have := nameOf_is t h
    have e : t[(nameOf t).length] = 61 := UInt8.toNat_inj.1 this
    rw [← e]; exact List.getElem_mem h
  · intro h
    by_cases q : (nameOf t).length < t.length
    · exact q
    · obtain ⟨i, hi, e⟩ := List.getElem_of_mem h
      have := nameOf_not t i (by omega) hi
      rw [e] at this
      exact absurd rfl this

/-! ### the walk -/
theorem bq_drawn {P : Program} {f : FuncId} {args : Array Value} {w : World} {p : BelowBy w} {v : Value} (h : Calls P f args p.W fun e w' => e = .returned v ∧ Drawn0 p.W w') : Calls P f args p.W fun e w'' => e = .returned v ∧ ∃ p : BelowBy w, w'' = p.W := bq_call h fun _ _ k => ⟨k.1, k.2.below⟩
theorem Try.kS : Keyed Try.prog 9 := Maps.string_keyed Try.underlying9
theorem key_str (s : ByteArray) (hs : s.size ≤ 9223372036854775807) : keyOf Try.prog 9 (.string s) = some (enT s.data.toList) := WideMaps.keyOf_string_mk Try.underlying9 (by unfold maxLen; exact hs)
theorem Try.zB (w : World) : (zeroValue 4).run Try.prog w = .ok (.bool false) w := by kernel_rfl
theorem bel_draw {wa W w5 : World} {n : Nat} (h : W = wa.drewN n) (hb : Below W.heap.size W w5) : Below wa.heap.size wa w5 := by
  subst h
  exact (bdrew (Below.refl _ _) n).trans hb
/-- How it stands at the head of a round. -/
structure RightR (w wr : World) (A : Option Addr) (cap : Nat) (pl un : Bool) (F : Int) (ln : Nat) (k : Nat) (N S : List Txt) : Prop where
  box : wr.heap[w.heap.size]? = some (.cells #[.slice A ln cap, .bool pl, .bool un, .int .i64 F] 24 (0, 0))
  nm : ∃ n, n ≤ k ∧ BMap wr Try.prog 9 4 enT (w.heap.size + 1) n (fun z => decide (z ∈ N))
  sm : ∃ n, n ≤ k ∧ BMap wr Try.prog 9 4 enT (w.heap.size + 1 + 1) n (fun z => decide (z ∈ S))
  bel : Below w.heap.size w wr
theorem RightR.below {w wr w1 : World} {A : Option Addr} {cap : Nat} {pl un : Bool} {F : Int} {ln k : Nat} {N S : List Txt} (h : RightR w wr A cap pl un F ln k N S) (hb : Below wr.heap.size wr w1) : RightR w w1 A cap pl un F ln k N S := by
  obtain ⟨n1, e1, m1⟩ := h.nm
  obtain ⟨n2, e2, m2⟩ := h.sm
  exact ⟨block_kept h.box hb, ⟨n1, e1, m1.below hb⟩, ⟨n2, e2, m2.below hb⟩, below_step h.bel hb⟩

theorem grown_below {w wr w1 : World} {b : Nat} (h : Below w.heap.size w wr) (hg : wr.grownBy w1 (some b)) (hb : w.heap.size ≤ b) : Below w.heap.size w w1 :=
  ⟨hg.os.trans h.os, hg.tape.trans h.tape, hg.output.trans h.output, Nat.le_trans h.size hg.size, fun k hk => (hg.block k (Nat.lt_of_lt_of_le hk h.size) (fun e => by cases e; omega)).trans (h.block k hk)⟩
theorem RightR.putN {w wr w1 : World} {A : Option Addr} {cap : Nat} {pl un : Bool} {F : Int} {ln k n : Nat} {N S : List Txt} (h : RightR w wr A cap pl un F ln k N S) {t : Txt} (hn : n ≤ k) (hg : wr.grownBy w1 (some (w.heap.size + 1)))
    (hm : BMap w1 Try.prog 9 4 enT (w.heap.size + 1) (n + 1) (fun z => decide (z = t) || decide (z ∈ N))) : RightR w w1 A cap pl un F ln (k + 1) (t :: N) S := by
  obtain ⟨n2, e2, m2⟩ := h.sm
  refine ⟨grown_blk hg h.box (by simp), ⟨n + 1, by omega, ?_⟩, ⟨n2, by omega, m2.kept (hg.block _ m2.lt (by simp))⟩, grown_below h.bel hg (by omega)⟩
  have e : (fun z => decide (z ∈ t :: N)) = fun z => decide (z = t) || decide (z ∈ N) := by funext z; simp
  rw [e]; exact hm
theorem RightR.putS {w wr w1 : World} {A : Option Addr} {cap : Nat} {pl un : Bool} {F : Int} {ln k n : Nat} {N S : List Txt} (h : RightR w wr A cap pl un F ln (k + 1) N S) {t : Txt} (hn : n ≤ k) (hg : wr.grownBy w1 (some (w.heap.size + 1 + 1)))
    (hm : BMap w1 Try.prog 9 4 enT (w.heap.size + 1 + 1) (n + 1) (fun z => decide (z = t) || decide (z ∈ S))) : RightR w w1 A cap pl un F ln (k + 1) N (t :: S) := by
  obtain ⟨n2, e2, m2⟩ := h.nm
  refine ⟨grown_blk hg h.box (by simp; omega), ⟨n2, by omega, m2.kept (hg.block _ m2.lt (by simp))⟩, ⟨n + 1, by omega, ?_⟩, grown_below h.bel hg (by omega)⟩
  have e : (fun z => decide (z ∈ t :: S)) = fun z => decide (z = t) || decide (z ∈ S) := by funext z; simp
  rw [e]; exact hm

set_option maxRecDepth 100000 in
set_option maxHeartbeats 3200000 in
theorem right_any (L : List FlagP) (A : Option Addr) (cap : Nat) (pl un : Bool) (F : Int) (p q : Bool) (hp : (bits BinOp.and IntKind.i64 F 1 == 1) = p) (hq : (bits BinOp.and IntKind.i64 F 2 == 2) = q) (w : World) (hA : FlagsAt w A L) (hn : L.length ≤ 2147483647) (hsz : ∀ f ∈ L, f.name.length ≤ 2147483647 ∧ f.short.length ≤ 2147483647) :
    Calls Try.prog 16 #[.agg #[.slice A L.length cap, .bool pl, .bool un, .int .i64 F]] w fun e w' => e = .returned (.bool (rightL (foldGT p q) [] [] L && decide (0 ≤ F ∧ F ≤ 3))) ∧ Below w.heap.size w w' := by
  have HF := fun (s : ByteArray) (hs : s.size ≤ 2147483647) (W : World) => Lib.hid (sfold_any F p q hp hq s hs W)
  have HGS : Hid (∀ t : Txt, (foldGT p q t).length = t.length) := fun t => by simp [foldGT]
  generalize foldGT p q = g at HF HGS ⊢
  generalize hRR : rightL g [] [] L = R
  have HRR := Lib.hid hRR
  clear hRR
  have hmm := @run_makeMap Try.prog
  have HA := Lib.hid hA
  have HSZ := Lib.hid hsz
  clear hA hsz hp hq
  go_enter Try.func16, Try.ntmps16
  go_wp2
  generalize hW0 : (((w.alloc (.cells #[.slice A L.length cap, .bool pl, .bool un, .int .i64 F] 24)).alloc (.map #[] 0)).alloc (.map #[] 0)) = w0
  have HR0 : Hid (RightR w w0 A cap pl un F L.length 0 [] []) := by
    subst hW0
    have b1 : Below w.heap.size w (w.alloc (.cells #[.slice A L.length cap, .bool pl, .bool un, .int .i64 F] 24)) := (Below.refl _ _).alloc (Nat.le_refl _) _
    generalize hw1 : w.alloc (.cells #[.slice A L.length cap, .bool pl, .bool un, .int .i64 F] 24) = w1 at b1
    have s1 : w1.heap.size = w.heap.size + 1 := by rw [← hw1]; simp
    have q1 : w1.heap[w.heap.size]? = some (.cells #[.slice A L.length cap, .bool pl, .bool un, .int .i64 F] 24 (0, 0)) := by rw [← hw1]; exact heap_alloc_new _ _
    have b2 : Below w1.heap.size w1 (w1.alloc (.map #[] 0)) := (Below.refl _ _).alloc (Nat.le_refl _) _
    have m2 : BMap (w1.alloc (.map #[] 0)) Try.prog 9 4 enT w1.heap.size 0 (fun _ => false) := BMap.made enT w1 Try.prog 9 4
    generalize hw2 : w1.alloc (.map #[] 0) = w2 at b2 m2
    have s2 : w2.heap.size = w.heap.size + 1 + 1 := by rw [← hw2]; simp [s1]
    have b3 : Below w2.heap.size w2 (w2.alloc (.map #[] 0)) := (Below.refl _ _).alloc (Nat.le_refl _) _
    have m3 : BMap (w2.alloc (.map #[] 0)) Try.prog 9 4 enT w2.heap.size 0 (fun _ => false) := BMap.made enT w2 Try.prog 9 4
    rw [s1] at m2
    rw [s2] at m3
    refine ⟨block_kept (block_kept q1 b2) b3, ⟨0, Nat.le_refl _, ?_⟩, ⟨0, Nat.le_refl _, ?_⟩, below_step (below_step b1 b2) b3⟩
    · have e : (fun z : Txt => decide (z ∈ ([] : List Txt))) = fun _ => false := by funext z; simp
      rw [e]; exact m2.below b3
    · have e : (fun z : Txt => decide (z ∈ ([] : List Txt))) = fun _ => false := by funext z; simp
      rw [e]; exact m3
  clear hW0
  go_loopw [12] (fun i wr => ∃ (k : Nat) (N S : List Txt), k ≤ L.length ∧ i = .int .i64 k ∧ Hid (RightR w wr A cap pl un F L.length k N S) ∧ Hid (rightL g N S (L.drop k) = R)) (fun i _ => L.length - (intOf i).toNat)
  case atStart => exact ⟨0, [], [], Nat.zero_le _, rfl, HR0, HRR⟩
  case round =>
    clear HR0
    obtain ⟨k, N, S, hk, rfl, HR, HRD⟩ := hrel
    have i0 : (0 : Int) ≤ (k : Int) := Int.natCast_nonneg _
    by_cases hlt : k < L.length
    · have i1 : (k : Int) < (L.length : Int) := by omega
      obtain ⟨b, o, v, hAe, c0, c1, c2, c3, ht⟩ := HA.out k hlt
      subst hAe
      obtain ⟨Av, cv, hve, _⟩ := ht
      generalize (L[k].bad.map mkT).length = nv at hve
      subst hve
      have d0 := cell_kept HR.out.bel c0
      have d1 := cell_kept HR.out.bel c1
      have d2 := cell_kept HR.out.bel c2
      have d3 := cell_kept HR.out.bel c3
      have hdrop : L.drop k = L[k] :: L.drop (k + 1) := List.drop_eq_getElem_cons hlt
      have hsz := HSZ.out L[k] (List.getElem_mem hlt)
      have HRS : Hid (rightL g N S (L[k] :: L.drop (k + 1)) = R) := by show _ = _; rw [← hdrop]; exact HRD.out
      clear c0 c1 c2 c3 hdrop
      generalize L[k] = f at d0 d1 d2 d3 hsz HRS
      obtain ⟨fn, fs, fo, fb⟩ := f
      simp only at d0 d1 d2 d3 hsz
      have HX : Hid (Below wr.heap.size wr (wr.alloc (.cells #[.string (mkT fn), .string (mkT fs), .string (mkT fo), .slice Av nv cv] 47))) := (Below.refl _ _).alloc (Nat.le_refl _) _
      have HXc := Lib.hid (heap_alloc_new wr (.cells #[.string (mkT fn), .string (mkT fs), .string (mkT fo), .slice Av nv cv] 47))
      have HRX := Lib.hid (HR.out.below HX.out)
      have hl0 := HR.out.bel.size
      have lt0 : w.heap.size < wr.heap.size := lt_of_block HR.out.box
      have lt1 : w.heap.size + 1 < wr.heap.size := by obtain ⟨_, _, m⟩ := HR.out.nm; exact m.lt
      have lt2 : w.heap.size + 1 + 1 < wr.heap.size := by obtain ⟨_, _, m⟩ := HR.out.sm; exact m.lt
      go_upto_region 5 with fail
      generalize hwa : wr.alloc (.cells #[.string (mkT fn), .string (mkT fs), .string (mkT fo), .slice Av nv cv] 47) = wa at HX HXc HRX
      have hsa : wa.heap.size = wr.heap.size + 1 := by rw [← hwa]; simp
      clear hwa
      have x0 : wa.cell? ⟨wr.heap.size, 0, none⟩ = some (.string (mkT fn)) := (cell_blk HXc.out 0).trans rfl
      have x1 : wa.cell? ⟨wr.heap.size, 1, none⟩ = some (.string (mkT fs)) := (cell_blk HXc.out 1).trans rfl
      have y3 : wa.cell? ⟨w.heap.size, 3, none⟩ = some (.int .i64 F) := (cell_blk HRX.out.box 3).trans rfl
      have hnz : (mkT fn).size ≤ 2147483647 := by rw [mkT_size]; exact hsz.1
      have hnl : (mkT fn).data.toList = fn := mkT_list fn
      have HFN := fun W => HF (mkT fn) hnz W
      rw [hnl] at HFN
      have HBA := fun W => Lib.hid (spec_byteAt.calls _ (mkT fn) 61 _ W (byteAt_f (mkT fn) hnz))
      rw [hnl] at HBA
      clear HF
      unfold rightL at HRS
      simp only at HRS
      by_cases h1 : fn = []
      · subst h1
        rw [if_neg (by simp)] at HRS
        clear HFN HBA hnz hnl
        have z0 : (mkT []).size = 0 := rfl
        have z1 : mkT [] = ⟨#[]⟩ := rfl
        rw [z1] at x0
        have X0 := bq_cell x0
        refine wp_region_bq (by kernel_rfl) (by kernel_rfl) ?_
        repeat (refine WQ.step (fun K hK => ?_); go_simp; first | (refine hK _ ?_; clear hK K) | (apply Exists.intro; refine ⟨fun p9 => ?_, hK _ ?_⟩; (fail); clear hK K))
        refine WQ.nil ?_
        intro wq HBQ
        clear X0
        go_wp2
        go_ret
        have HRO := HRS.out
        subst HRO
        exact ⟨rfl, below_step HRX.out.bel HBQ⟩
      obtain ⟨c, t, hct⟩ : ∃ c t, fn = c :: t := by
        cases fn with
        | nil => exact absurd rfl h1
        | cons c t => exact ⟨c, t, rfl⟩
      have n0 : 0 < (mkT fn).size := by rw [mkT_size, hct]; simp
      have n0i : (0 : Int) < ((mkT fn).size : Int) := by omega
      have n1 := nonempty_list n0
      have n2 := nonempty_not n0
      have gc : (mkT fn)[0] = c := by rw [bget n0]; simp [mkT_list, hct]
      have HLT := fun W => Lib.hid (spec_letter.calls _ _ W (letter_f (mkT fn)[0]))
      rw [gc] at HLT
      have hh : fn.head?.any letterB = letterB c := by rw [hct]; rfl
      rw [hh] at HRS
      clear h1 hh
      have X0 := bq_cell x0
      by_cases hL : letterB c = false
      · rw [if_neg (by rw [hL]; simp)] at HRS
        rw [hL] at HLT
        rw [← gc] at HLT
        clear HFN HBA hct gc
        refine wp_region_bq (by kernel_rfl) (by kernel_rfl) ?_
        repeat (refine WQ.step (fun K hK => ?_); go_simp; first | (refine hK _ ?_; clear hK K) | (apply Exists.intro; refine ⟨fun p9 => ?_, hK _ ?_⟩; ((first | exact bq_drawn (HLT p9.W).out)); clear hK K))
        refine WQ.nil ?_
        intro wq HBQ
        clear X0
        go_wp2
        go_ret
        have HRO := HRS.out
        subst HRO
        exact ⟨rfl, below_step HRX.out.bel HBQ⟩
      have hL : letterB c = true := by simpa using hL
      rw [hL] at HLT HRS
      rw [← gc] at HLT
      have hsz9 : (mkT fn).size = fn.length := mkT_size fn
      by_cases h61 : (61 : UInt8) ∈ fn
      · have hlt9 := nameOf_lt.2 h61
        rw [if_neg (by simp [h61])] at HRS
        have k1 : (((nameOf fn).length : Nat) : Int) < ((mkT fn).size : Int) := by omega
        have k2 : decide ((((nameOf fn).length : Nat) : Int) < ((mkT fn).size : Int)) = true := decide_eq_true k1
        clear HFN hct gc h61 hlt9 hsz9
        refine wp_region_bq (by kernel_rfl) (by kernel_rfl) ?_
        repeat (refine WQ.step (fun K hK => ?_); go_simp; first | (refine hK _ ?_; clear hK K) | (apply Exists.intro; refine ⟨fun p9 => ?_, hK _ ?_⟩; ((first | exact bq_drawn (HLT p9.W).out | exact bq_drawn (HBA p9.W).out)); clear hK K))
        refine WQ.nil ?_
        intro wq HBQ
        clear X0
        go_wp2
        go_ret
        have HRO := HRS.out
        subst HRO
        exact ⟨rfl, below_step HRX.out.bel HBQ⟩
      have hge9 : ¬ (nameOf fn).length < fn.length := fun q => h61 (nameOf_lt.1 q)
      have k1 : ((mkT fn).size : Int) ≤ (((nameOf fn).length : Nat) : Int) := by omega
      have k2 : decide ((((nameOf fn).length : Nat) : Int) < ((mkT fn).size : Int)) = false := decide_eq_false (by omega)
      have k3 : decide ((nameOf fn).length < (mkT fn).size) = false := decide_eq_false (by omega)
      have k4 : (mkT fn).size ≤ (nameOf fn).length := by omega
      clear hsz9
      have Y3 := bq_cell y3
      have hgl : (mkT (g fn)).data.toList = g fn := mkT_list _
      have hgs : (mkT (g fn)).size ≤ 9223372036854775807 := by rw [mkT_size, HGS.out]; omega
      have HLK : ∀ p : BelowBy wa, (Instr.lookup 78 (.map (some (w.heap.size + 1))) (.string (mkT (g fn))) false).run Try.prog p.W = .ok (.bool (decide (g fn ∈ N))) p.W := by
        intro p
        obtain ⟨n1, e1, m1⟩ := (HRX.out.below p.h).nm
        have h := m1.look Try.kS Try.underlying78 Try.underlying4 (Try.zB _) (key_str (mkT (g fn)) hgs)
        rw [hgl] at h
        exact h
      by_cases hN : g fn ∈ N
      · rw [if_neg (by simp [hN])] at HRS
        rw [decide_eq_true hN] at HLK
        clear hct gc h61 hgl hnl hgs
        refine wp_region_bq (by kernel_rfl) (by kernel_rfl) ?_
        repeat (refine WQ.step (fun K hK => ?_); go_simp; first | (refine hK _ ?_; clear hK K) | (apply Exists.intro; refine ⟨fun p9 => ?_, hK _ ?_⟩; ((first | exact bq_drawn (HLT p9.W).out | exact bq_drawn (HBA p9.W).out | exact bq_below (HFN p9.W).out)); clear hK K))
        refine WQ.nil ?_
        intro wq HBQ
        clear X0 Y3 HLK
        go_wp2
        go_ret
        have HRO := HRS.out
        subst HRO
        exact ⟨rfl, below_step HRX.out.bel HBQ⟩
      rw [if_pos ⟨rfl, h61, hN⟩] at HRS
      rw [decide_eq_false hN] at HLK
      clear hct gc h61 hN hgl hnl
      refine wp_region_bq (by kernel_rfl) (by kernel_rfl) ?_
      repeat (refine WQ.step (fun K hK => ?_); go_simp; first | (refine hK _ ?_; clear hK K) | (apply Exists.intro; refine ⟨fun p9 => ?_, hK _ ?_⟩; ((first | exact bq_drawn (HLT p9.W).out | exact bq_drawn (HBA p9.W).out | exact bq_below (HFN p9.W).out)); clear hK K))
      refine WQ.nil ?_
      intro wq HBQ
      clear X0 Y3 HLK
      have HRQ := Lib.hid (HRX.out.below HBQ)
      have HXQ := Lib.hid (block_kept HXc.out HBQ)
      have u0 : wq.cell? ⟨wr.heap.size, 0, none⟩ = some (.string (mkT fn)) := (cell_blk HXQ.out 0).trans rfl
      have v3 : wq.cell? ⟨w.heap.size, 3, none⟩ = some (.int .i64 F) := (cell_blk HRQ.out.box 3).trans rfl
      obtain ⟨nn, hnn, hmn⟩ := HRQ.out.nm
      obtain ⟨ns, hns, hms⟩ := HRQ.out.sm
      have HMN := Lib.hid hmn
      have HMS := Lib.hid hms
      have KN := Lib.hid (key_str (mkT (g fn)) hgs)
      have hs9 : (mkT fs).size ≤ 9223372036854775807 := by rw [mkT_size]; omega
      have KS := Lib.hid (key_str (mkT fs) hs9)
      have HGL : Hid ((mkT (g fn)).data.toList = g fn) := mkT_list _
      have HSL : Hid ((mkT fs).data.toList = fs) := mkT_list _
      have hk9 : k + 1 ≤ 2147483647 := by omega
      clear x0 x1 y3 k1 k2 k3 k4 n0i n1 n2 hnz hl0 hsa hmn hms HBQ HBA HLT hgs hs9 HX HXc HRX HR HRD d0 d1 d2 d3 hL
      by_cases h2 : fs = []
      · subst h2
        rw [if_pos rfl] at HRS
        have z1 : mkT [] = ⟨#[]⟩ := rfl
        rw [z1] at HXQ
        go_wp2_with (first
          | ((with_reducible go_at_call 31); refine ((HFN _).out).mono ?_; rintro e w5 ⟨rfl, hb5⟩; have HR5 := Lib.hid (HRQ.out.below hb5); have HM5 := Lib.hid (HMN.out.below hb5); have HX5 := Lib.hid (block_kept HXQ.out hb5); clear hb5)
          | (at_mapUpdate; (refine wpList_put_bool _ rfl _ _ _ 78 rfl 9 4 Try.kS Try.underlying78 Try.underlying4 enT_inj (w.heap.size + 1) nn _ rfl HM5.out (by unfold maxLen; omega) _ (mkT (g fn)).data.toList rfl rfl KN.out ?_; intro w6 hm6 hg6; rw [HGL.out] at hm6; have HR6 := Lib.hid (HR5.out.putN hnn hg6 hm6); have u6 : w6.cell? ⟨wr.heap.size, 1, none⟩ = some (.string ⟨#[]⟩) := (cell_blk (grown_blk hg6 HX5.out (by simp; omega)) 1).trans rfl; clear hm6 hg6)))
        go_roundw
        case rel => exact ⟨k + 1, _, _, by omega, by go_num, HR6, HRS⟩
        case measure => simp [intOf]; omega
      obtain ⟨d, t2, hdt⟩ : ∃ d t2, fs = d :: t2 := by
        cases fs with
        | nil => exact absurd rfl h2
        | cons d t2 => exact ⟨d, t2, rfl⟩
      rw [if_neg h2] at HRS
      have m0 : 0 < (mkT fs).size := by rw [mkT_size, hdt]; simp
      have m0i : (0 : Int) < ((mkT fs).size : Int) := by omega
      have m1 := nonempty_list m0
      have m2 := nonempty_not m0
      have gd : (mkT fs)[0] = d := by rw [bget m0]; simp [mkT_list, hdt]
      have HLT := fun W => Lib.hid (spec_letter.calls _ _ W (letter_f (mkT fs)[0]))
      rw [gd] at HLT
      have hh : fs.head?.any letterB = letterB d := by rw [hdt]; rfl
      rw [hh] at HRS
      have hsz8 : (mkT fs).size = fs.length := mkT_size fs
      have HLS : ∀ W : World, RightR w W (some ⟨b, o, none⟩) cap pl un F L.length (k + 1) (g fn :: N) S → (Instr.lookup 78 (.map (some (w.heap.size + 1 + 1))) (.string (mkT fs)) false).run Try.prog W = .ok (.bool (decide (fs ∈ S))) W := by
        intro W hW
        obtain ⟨n1, e1, m1⟩ := hW.sm
        have h := m1.look Try.kS Try.underlying78 Try.underlying4 (Try.zB _) KS.out
        rw [HSL.out] at h
        exact h
      by_cases h3 : fs.length = 1
      · have q1 : (((mkT fs).size : Int) == 1) = true := by rw [hsz8, h3]; rfl
        have q2 : ((mkT fs).size : Int) = 1 := by omega
        have q3 : (mkT fs).size = 1 := by omega
        clear hsz8
        by_cases hL : letterB d = false
        · rw [if_neg (by rw [hL]; simp)] at HRS
          rw [hL] at HLT
          rw [← gd] at HLT
          clear gd hdt
          go_wp2_with (first
            | ((with_reducible go_at_call 31); refine ((HFN _).out).mono ?_; rintro e w5 ⟨rfl, hb5⟩; have HR5 := Lib.hid (HRQ.out.below hb5); have HM5 := Lib.hid (HMN.out.below hb5); have HX5 := Lib.hid (block_kept HXQ.out hb5); have HS5 := Lib.hid (HMS.out.below hb5); clear hb5)
            | (at_mapUpdate; refine wpList_put_bool _ rfl _ _ _ 78 rfl 9 4 Try.kS Try.underlying78 Try.underlying4 enT_inj (w.heap.size + 1) nn _ rfl HM5.out (by unfold maxLen; omega) _ (mkT (g fn)).data.toList rfl rfl KN.out ?_; intro w6 hm6 hg6; rw [HGL.out] at hm6; have HR6 := Lib.hid (HR5.out.putN hnn hg6 hm6); have u6 : w6.cell? ⟨wr.heap.size, 1, none⟩ = some (.string (mkT fs)) := (cell_blk (grown_blk hg6 HX5.out (by simp; omega)) 1).trans rfl; have HS6 := Lib.hid (HS5.out.kept (hg6.block _ HS5.out.lt (by simp))); clear hm6 hg6)
            | ((with_reducible go_at_call 44); refine ((HLT _).out).mono ?_; rintro e w7 ⟨rfl, hd⟩; have HR7 := Lib.hid (HR6.out.below hd.below); clear hd))
          go_ret
          have HRO := HRS.out
          subst HRO
          exact ⟨rfl, HR7.out.bel⟩
        have hL : letterB d = true := by simpa using hL
        rw [hL] at HLT HRS
        rw [← gd] at HLT
        by_cases h4 : fs ∈ S
        · rw [if_neg (by simp [h4])] at HRS
          rw [decide_eq_true h4] at HLS
          clear gd hdt h4
          go_wp2_with (first
            | ((with_reducible go_at_call 31); refine ((HFN _).out).mono ?_; rintro e w5 ⟨rfl, hb5⟩; have HR5 := Lib.hid (HRQ.out.below hb5); have HM5 := Lib.hid (HMN.out.below hb5); have HX5 := Lib.hid (block_kept HXQ.out hb5); have HS5 := Lib.hid (HMS.out.below hb5); clear hb5)
            | (at_mapUpdate; refine wpList_put_bool _ rfl _ _ _ 78 rfl 9 4 Try.kS Try.underlying78 Try.underlying4 enT_inj (w.heap.size + 1) nn _ rfl HM5.out (by unfold maxLen; omega) _ (mkT (g fn)).data.toList rfl rfl KN.out ?_; intro w6 hm6 hg6; rw [HGL.out] at hm6; have HR6 := Lib.hid (HR5.out.putN hnn hg6 hm6); have u6 : w6.cell? ⟨wr.heap.size, 1, none⟩ = some (.string (mkT fs)) := (cell_blk (grown_blk hg6 HX5.out (by simp; omega)) 1).trans rfl; have HS6 := Lib.hid (HS5.out.kept (hg6.block _ HS5.out.lt (by simp))); clear hm6 hg6)
            | ((with_reducible go_at_call 44); refine ((HLT _).out).mono ?_; rintro e w7 ⟨rfl, hd⟩; have HR7 := Lib.hid (HR6.out.below hd.below); have u7 := cell_kept hd.below u6; have l7 := HLS w7 HR7.out; clear hd))
          go_ret
          have HRO := HRS.out
          subst HRO
          exact ⟨rfl, HR7.out.bel⟩
        · rw [if_pos ⟨h3, rfl, h4⟩] at HRS
          rw [decide_eq_false h4] at HLS
          clear gd hdt h4
          go_wp2_with (first
            | ((with_reducible go_at_call 31); refine ((HFN _).out).mono ?_; rintro e w5 ⟨rfl, hb5⟩; have HR5 := Lib.hid (HRQ.out.below hb5); have HM5 := Lib.hid (HMN.out.below hb5); have HX5 := Lib.hid (block_kept HXQ.out hb5); have HS5 := Lib.hid (HMS.out.below hb5); clear hb5)
            | (at_mapUpdate; refine wpList_put_bool _ rfl _ _ _ 78 rfl 9 4 Try.kS Try.underlying78 Try.underlying4 enT_inj (w.heap.size + 1) nn _ rfl HM5.out (by unfold maxLen; omega) _ (mkT (g fn)).data.toList rfl rfl KN.out ?_; intro w6 hm6 hg6; rw [HGL.out] at hm6; have HR6 := Lib.hid (HR5.out.putN hnn hg6 hm6); have u6 : w6.cell? ⟨wr.heap.size, 1, none⟩ = some (.string (mkT fs)) := (cell_blk (grown_blk hg6 HX5.out (by simp; omega)) 1).trans rfl; have HS6 := Lib.hid (HS5.out.kept (hg6.block _ HS5.out.lt (by simp))); clear hm6 hg6)
            | ((with_reducible go_at_call 44); refine ((HLT _).out).mono ?_; rintro e w7 ⟨rfl, hd⟩; have HR7 := Lib.hid (HR6.out.below hd.below); have u7 := cell_kept hd.below u6; have l7 := HLS w7 HR7.out; have HS7 := Lib.hid (HS6.out.below hd.below); clear hd)
            | (at_mapUpdate; (refine wpList_put_bool _ rfl _ _ _ 78 rfl 9 4 Try.kS Try.underlying78 Try.underlying4 enT_inj (w.heap.size + 1 + 1) ns _ rfl HS7.out (by unfold maxLen; omega) _ (mkT fs).data.toList rfl rfl KS.out ?_; intro w8 hm8 hg8; rw [HSL.out] at hm8; have HR8 := Lib.hid (HR7.out.putS hns hg8 hm8); clear hm8 hg8)))
          go_roundw
          case rel => exact ⟨k + 1, _, _, by omega, by go_num, HR8, HRS⟩
          case measure => simp [intOf]; omega
      · rw [if_neg (by simp [h3])] at HRS
        have q1 : (((mkT fs).size : Int) == 1) = false := by rw [hsz8]; simp; omega
        have q2 : ¬ ((mkT fs).size : Int) = 1 := by omega
        have q3 : ¬ (mkT fs).size = 1 := by omega
        clear hsz8 HLT hdt gd
        go_wp2_with (first
          | ((with_reducible go_at_call 31); refine ((HFN _).out).mono ?_; rintro e w5 ⟨rfl, hb5⟩; have HR5 := Lib.hid (HRQ.out.below hb5); have HM5 := Lib.hid (HMN.out.below hb5); have HX5 := Lib.hid (block_kept HXQ.out hb5); have HS5 := Lib.hid (HMS.out.below hb5); clear hb5)
          | (at_mapUpdate; refine wpList_put_bool _ rfl _ _ _ 78 rfl 9 4 Try.kS Try.underlying78 Try.underlying4 enT_inj (w.heap.size + 1) nn _ rfl HM5.out (by unfold maxLen; omega) _ (mkT (g fn)).data.toList rfl rfl KN.out ?_; intro w6 hm6 hg6; rw [HGL.out] at hm6; have HR6 := Lib.hid (HR5.out.putN hnn hg6 hm6); have u6 : w6.cell? ⟨wr.heap.size, 1, none⟩ = some (.string (mkT fs)) := (cell_blk (grown_blk hg6 HX5.out (by simp; omega)) 1).trans rfl; have HS6 := Lib.hid (HS5.out.kept (hg6.block _ HS5.out.lt (by simp))); clear hm6 hg6))
        go_ret
        have HRO := HRS.out
        subst HRO
        exact ⟨rfl, HR6.out.bel⟩
    · have hke : k = L.length := by omega
      have HRO := HRD.out
      subst hke
      rw [List.drop_length] at HRO
      have HRO : R = true := by rw [← HRO]; rfl
      subst HRO
      have v3 : wr.cell? ⟨w.heap.size, 3, none⟩ = some (.int .i64 F) := (cell_blk HR.out.box 3).trans rfl
      by_cases f0 : 0 ≤ F
      · have f0' : decide (0 ≤ F) = true := decide_eq_true f0
        by_cases f3 : F ≤ 3
        · have e3 : decide (F ≤ 3) = true := decide_eq_true f3
          go_wp2
          go_ret
          exact ⟨by simp [f0, f3], HR.out.bel⟩
        · have e3 : decide (F ≤ 3) = false := decide_eq_false f3
          have e4 : 3 < F := by omega
          go_wp2
          go_ret
          exact ⟨by simp [f0, f3], HR.out.bel⟩
      · have f0' : decide (0 ≤ F) = false := decide_eq_false f0
        have e4 : F < 0 := by omega
        go_wp2
        go_ret
        exact ⟨by simp [f0], HR.out.bel⟩
end Go.Proofs.Ytgmhhdpggnmipaa.E
