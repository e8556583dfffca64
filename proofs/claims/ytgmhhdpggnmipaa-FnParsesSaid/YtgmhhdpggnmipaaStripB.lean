/- The contracts of bare.stripUnknownFlagValue and spec.Strip, over this seat's program. -/
import Derived.Test.YtgmhhdpggnmipaaKit
namespace Go.Proofs.Ytgmhhdpggnmipaa.E
open Go.RowKit
set_option linter.unusedVariables false
set_option linter.unusedSimpArgs false

theorem strsAt_tail {w : World} {b o : Nat} {x : ByteArray} {xs : List ByteArray} (h : StrsAt w (some ⟨b, o, none⟩) (x :: xs)) : StrsAt w (some ⟨b, o + 1, none⟩) xs := by
  intro i hi
  obtain ⟨b', o', e, hc⟩ := h (i + 1) (by simpa using hi)
  simp only [Option.some.injEq, Addr.mk.injEq] at e
  obtain ⟨rfl, rfl, _⟩ := e
  refine ⟨_, _, rfl, ?_⟩
  rw [show o + 1 + i = o + (i + 1) by omega]
  simpa [tx] using hc

theorem strsAt_head {w : World} {A : Option Addr} {x : ByteArray} {xs : List ByteArray} (h : StrsAt w A (x :: xs)) : ∃ b o, A = some ⟨b, o, none⟩ ∧ w.cell? ⟨b, o, none⟩ = some (.string x) := by
  obtain ⟨b, o, e, hc⟩ := h 0 (by simp)
  exact ⟨b, o, e, hc⟩

/-- A text that begins with a dash. -/
def dashed (s : ByteArray) : Bool := if h : 0 < s.size then s[0] == 45 else false

def stripped : List ByteArray → List ByteArray
  | [] => []
  | x :: r => if dashed x = true then x :: r else r

set_option maxHeartbeats 800000 in
theorem stripB_dash (b o n cap : Nat) (x : ByteArray) (w : World) (hn : 1 ≤ n) (hc : w.cell? ⟨b, o, none⟩ = some (.string x)) (h0 : 0 < x.size) (h1 : x[0] = 45) :
    Calls Try.prog 98 #[.slice (some ⟨b, o, none⟩) n cap] w fun e w' => e = .returned (.slice (some ⟨b, o, none⟩) n cap) ∧ w = w' := by
  have c0 : ((n : Int) == 0) = false := by simp; omega
  have c1 : 0 < n := by omega
  go_enter Try.func98, Try.ntmps98
  go_wp2
  go_ret
  exact ⟨rfl, rfl⟩

theorem stripB_nil (A : Option Addr) (cap : Nat) (w : World) :
    Calls Try.prog 98 #[.slice A 0 cap] w fun e w' => e = .returned (.slice A 0 cap) ∧ w = w' := by
  go_enter Try.func98, Try.ntmps98
  go_wp2
  go_ret
  exact ⟨rfl, rfl⟩

set_option maxHeartbeats 800000 in
theorem stripB_one (b o cap : Nat) (x : ByteArray) (w : World) (hc : w.cell? ⟨b, o, none⟩ = some (.string x)) (hx : x.size ≤ 17179869184) (h1 : dashed x = false) :
    Calls Try.prog 98 #[.slice (some ⟨b, o, none⟩) 1 cap] w fun e w' => e = .returned (.slice none 0 0) ∧ w = w' := by
  by_cases h0 : 0 < x.size
  · have h2 : ((x[0].toNat : Int) == 45) = false := byte_beq (k := 45) (by omega) (by simpa [dashed, h0] using h1)
    go_enter Try.func98, Try.ntmps98
    go_wp2
    go_ret
    exact ⟨rfl, rfl⟩
  · have e0 : x.size = 0 := by omega
    go_enter Try.func98, Try.ntmps98
    go_wp2
    go_ret
    exact ⟨rfl, rfl⟩

set_option maxHeartbeats 800000 in
theorem stripB_more (b o n cap : Nat) (x : ByteArray) (w : World) (hn : 2 ≤ n) (hcap : n ≤ cap) (hm : cap ≤ 9223372036854775807) (hc : w.cell? ⟨b, o, none⟩ = some (.string x)) (hx : x.size ≤ 17179869184) (h1 : dashed x = false) :
    Calls Try.prog 98 #[.slice (some ⟨b, o, none⟩) n cap] w fun e w' => e = .returned (.slice (some ⟨b, o + 1, none⟩) (n - 1) (cap - 1)) ∧ w = w' := by
  have c0 : ((n : Int) == 0) = false := by simp; omega
  have c1 : 0 < n := by omega
  have c2 : (1 : Int) < (n : Int) := by omega
  by_cases h0 : 0 < x.size
  · have h2 : ((x[0].toNat : Int) == 45) = false := byte_beq (k := 45) (by omega) (by simpa [dashed, h0] using h1)
    go_enter Try.func98, Try.ntmps98
    go_wp2
    go_ret
    exact ⟨rfl, rfl⟩
  · have e0 : x.size = 0 := by omega
    go_enter Try.func98, Try.ntmps98
    go_wp2
    go_ret
    exact ⟨rfl, rfl⟩
/-- What stripUnknownFlagValue gives. -/
theorem stripB_any (v : Value) (xs : List ByteArray) (w : World) (h : Texts w v xs) (hs : ∀ j, j < xs.length → (tx xs j).size ≤ 17179869184) :
    Calls Try.prog 98 #[v] w fun e w' => (∃ v', e = .returned v' ∧ Texts w v' (stripped xs)) ∧ w = w' := by
  have h0 := h
  obtain ⟨A, cap, rfl, hx, hcap, hm, hA⟩ := h
  match xs, hx, hcap, hs, h0 with
  | [], hx, hcap, hs, h0 => exact (stripB_nil A cap w).mono fun e w' ⟨h1, h2⟩ => ⟨⟨_, h1, h0⟩, h2⟩
  | x :: r, hx, hcap, hs, h0 =>
    obtain ⟨b, o, rfl, hc⟩ := strsAt_head hx
    have hsx : x.size ≤ 17179869184 := hs 0 (by simp)
    simp only [List.length_cons] at hcap ⊢
    by_cases hd : dashed x = true
    · have hpos : 0 < x.size := by
        by_cases h : 0 < x.size
        · exact h
        · simp [dashed, h] at hd
      have h1 : x[0] = 45 := by simpa [dashed, hpos] using hd
      refine (stripB_dash b o (r.length + 1) cap x w (by omega) hc hpos h1).mono fun e w' ⟨h1, h2⟩ => ⟨⟨_, h1, ?_⟩, h2⟩
      simp only [stripped, if_pos hd]
      exact h0
    · have hd' : dashed x = false := by simpa using hd
      match r, hx, hcap, hs, h0 with
      | [], hx, hcap, hs, h0 =>
        refine (stripB_one b o cap x w hc hsx hd').mono fun e w' ⟨h1, h2⟩ => ⟨⟨_, h1, ?_⟩, h2⟩
        simp only [stripped, if_neg hd]
        exact Texts.nil w
      | y :: r, hx, hcap, hs, h0 =>
        simp only [List.length_cons] at hcap ⊢
        refine (stripB_more b o (r.length + 1 + 1) cap x w (by omega) (by omega) hm hc hsx hd').mono fun e w' ⟨h1, h2⟩ => ⟨⟨_, h1, ?_⟩, h2⟩
        simp only [stripped, if_neg hd]
        exact ⟨_, cap - 1, by simp, strsAt_tail hx, by simp; omega, by omega, fun h => by cases h⟩

theorem stripS_nil (A : Option Addr) (cap : Nat) (w : World) :
    Calls Try.prog 53 #[.slice A 0 cap] w fun e w' => e = .returned (.slice A 0 cap) ∧ w = w' := by
  go_enter Try.func53, Try.ntmps53
  go_wp2
  go_ret
  exact ⟨rfl, rfl⟩

set_option maxHeartbeats 800000 in
theorem stripS_dash (b o n cap : Nat) (x : ByteArray) (w : World) (hn : 1 ≤ n) (hc : w.cell? ⟨b, o, none⟩ = some (.string x)) (h0 : 0 < x.size) (h1 : x[0] = 45) :
    Calls Try.prog 53 #[.slice (some ⟨b, o, none⟩) n cap] w fun e w' => e = .returned (.slice (some ⟨b, o, none⟩) n cap) ∧ w = w' := by
  have c0 : ((n : Int) == 0) = false := by simp; omega
  have c1 : 0 < n := by omega
  have c2 := nonempty_list h0
  have c3 := nonempty_not h0
  go_enter Try.func53, Try.ntmps53
  go_wp2
  go_ret
  exact ⟨rfl, rfl⟩

set_option maxHeartbeats 800000 in
theorem stripS_one (b o : Nat) (x : ByteArray) (w : World) (hc : w.cell? ⟨b, o, none⟩ = some (.string x)) (h1 : dashed x = false) :
    Calls Try.prog 53 #[.slice (some ⟨b, o, none⟩) 1 1] w fun e w' => e = .returned (.slice (some ⟨b, o, none⟩) 0 0) ∧ w = w' := by
  by_cases h0 : 0 < x.size
  · have h2 : ((x[0].toNat : Int) == 45) = false := byte_beq (k := 45) (by omega) (by simpa [dashed, h0] using h1)
    have c2 := nonempty_list h0
    have c3 := nonempty_not h0
    go_enter Try.func53, Try.ntmps53
    go_wp2
    go_ret
    exact ⟨rfl, rfl⟩
  · have e0 : x.size = 0 := by omega
    have c2 := empty_list e0
    have c3 := empty_not e0
    go_enter Try.func53, Try.ntmps53
    go_wp2
    go_ret
    exact ⟨rfl, rfl⟩

set_option maxHeartbeats 800000 in
theorem stripS_more (b o n cap : Nat) (x : ByteArray) (w : World) (hn : 1 ≤ n) (hcap : n ≤ cap) (hc1 : ¬ cap = 1) (hm : cap ≤ 9223372036854775807) (hc : w.cell? ⟨b, o, none⟩ = some (.string x)) (h1 : dashed x = false) :
    Calls Try.prog 53 #[.slice (some ⟨b, o, none⟩) n cap] w fun e w' => e = .returned (.slice (some ⟨b, o + 1, none⟩) (n - 1) (cap - 1)) ∧ w = w' := by
  have c0 : ((n : Int) == 0) = false := by simp; omega
  have c1 : 0 < n := by omega
  by_cases h0 : 0 < x.size
  · have h2 : ((x[0].toNat : Int) == 45) = false := byte_beq (k := 45) (by omega) (by simpa [dashed, h0] using h1)
    have c2 := nonempty_list h0
    have c3 := nonempty_not h0
    go_enter Try.func53, Try.ntmps53
    go_wp2
    go_ret
    exact ⟨rfl, rfl⟩
  · have e0 : x.size = 0 := by omega
    have c2 := empty_list e0
    have c3 := empty_not e0
    go_enter Try.func53, Try.ntmps53
    go_wp2
    go_ret
    exact ⟨rfl, rfl⟩

theorem stripS_any (v : Value) (xs : List ByteArray) (w : World) (h : Texts w v xs) :
    Calls Try.prog 53 #[v] w fun e w' => (∃ v', e = .returned v' ∧ Texts w v' (stripped xs)) ∧ w = w' := by
  have h0 := h
  obtain ⟨A, cap, rfl, hx, hcap, hm, hA⟩ := h
  match xs, hx, hcap, h0 with
  | [], hx, hcap, h0 => exact (stripS_nil A cap w).mono fun e w' ⟨h1, h2⟩ => ⟨⟨_, h1, h0⟩, h2⟩
  | x :: r, hx, hcap, h0 =>
    obtain ⟨b, o, rfl, hc⟩ := strsAt_head hx
    simp only [List.length_cons] at hcap ⊢
    by_cases hd : dashed x = true
    · have hpos : 0 < x.size := by
        by_cases h : 0 < x.size
        · exact h
        · simp [dashed, h] at hd
      have h1 : x[0] = 45 := by simpa [dashed, hpos] using hd
      refine (stripS_dash b o (r.length + 1) cap x w (by omega) hc hpos h1).mono fun e w' ⟨h1, h2⟩ => ⟨⟨_, h1, ?_⟩, h2⟩
      simp only [stripped, if_pos hd]
      exact h0
    · have hd' : dashed x = false := by simpa using hd
      by_cases hc1 : cap = 1
      · subst hc1
        have hr : r = [] := List.eq_nil_of_length_eq_zero (by omega)
        subst hr
        refine (stripS_one b o x w hc hd').mono fun e w' ⟨h1, h2⟩ => ⟨⟨_, h1, ?_⟩, h2⟩
        simp only [stripped, if_neg hd]
        exact ⟨some ⟨b, o, none⟩, 0, rfl, fun i hi => by simp at hi, by simp, by omega, fun h => by cases h⟩
      · refine (stripS_more b o (r.length + 1) cap x w (by omega) (by omega) hc1 hm hc hd').mono fun e w' ⟨h1, h2⟩ => ⟨⟨_, h1, ?_⟩, h2⟩
        simp only [stripped, if_neg hd]
        exact ⟨_, cap - 1, by simp, strsAt_tail hx, by omega, by omega, fun h => by cases h⟩
end Go.Proofs.Ytgmhhdpggnmipaa.E
