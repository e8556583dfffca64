-- Written by ext_print.py (a wrapper round the print), with given contracts. Not trusted: Lean checks it.
import Derived.Test.YtgmhhdpggnmipaaPQx0
namespace Go.Proofs.Ytgmhhdpggnmipaa.PQ
open Go.RowKit Go.Proofs.YtgmhhdpggnmipaaW.PrintWords Go.Proofs.YtgmhhdpggnmipaaW.PrintLast
set_option linter.unusedVariables false
set_option linter.unusedSimpArgs false

/-! ### spec_Bare: function 32 -/
def spec_Bare.f (a0 : ByteArray) : Option (Bool) := if a0.toList = ([] : List UInt8) then (some true) else (if 0 < (a0.size : Int) then (if (bt a0 0) = 45 then (some (a0.toList == ([45] : List UInt8))) else (some true)) else (none))
set_option maxHeartbeats 8000000 in
set_option maxRecDepth 100000 in
theorem spec_Bare.calls (a0 : ByteArray) (r : Bool) (w : World) (h : spec_Bare.f a0 = some r) :
    Calls Try.prog 32 #[.string a0] w fun e w' => e = .returned (.bool r) ∧ Drawn0 w w' := by
  have H : (if a0.toList = ([] : List UInt8) then (some true) else (if 0 < (a0.size : Int) then (if (bt a0 0) = 45 then (some (a0.toList == ([45] : List UInt8))) else (some true)) else (none))) = some r := h
  clear h
  by_cases c2 : a0.toList = ([] : List UInt8)
  · rw [if_pos c2] at H
    have c2b0 : (a0.toList == ([] : List UInt8)) = true := beq_iff_eq.mpr c2
    have c2b1 : (a0.toList != ([] : List UInt8)) = false := bne_eq_false_iff_eq.mpr c2
    clear c2
    obtain rfl := Option.some.inj H
    go_enter Try.func32, Try.ntmps32
    go_wp2
    go_ret
    exact ⟨by first | rfl | (simp; done) | (simp [*]; done), by repeat (first | exact Drawn0.refl _ | apply Drawn0.step)⟩
  · rw [if_neg c2] at H
    have c2b0 : (a0.toList == ([] : List UInt8)) = false := beq_eq_false_iff_ne.mpr c2
    have c2b1 : (a0.toList != ([] : List UInt8)) = true := bne_iff_ne.mpr c2
    by_cases c3 : 0 < (a0.size : Int)
    · rw [if_pos c3] at H
      have c3b0 : decide (0 < (a0.size : Int)) = true := decide_eq_true c3
      have c3b1 : decide (0 < a0.size) = true := decide_eq_true (by omega)
      clear c3
      by_cases c5 : (bt a0 0) = 45
      · rw [if_pos c5] at H
        have c5b0 : ((bt a0 0) == 45) = true := beq_iff_eq.mpr c5
        have c5b1 : ((bt a0 0) != 45) = false := bne_eq_false_iff_eq.mpr c5
        clear c5
        obtain rfl := Option.some.inj H
        have p4 : 0 ≤ (0 : Int) := (by omega)
        have q4 : 0 < a0.size := (by have : (0 : Int) < (a0.size : Int) := of_decide_eq_true (by first | (with_reducible assumption) | assumption); omega)
        have hx4 : ∀ h : 0 < a0.size, ((a0[0]'h).toNat : Int) = bt a0 0 := bt_at a0 0
        clear p4
        have qi4 : (0 < (a0.size : Int)) = True := eq_true (of_decide_eq_true (by first | (with_reducible assumption) | assumption))
        replace q4 := eq_true q4
        go_enter Try.func32, Try.ntmps32
        go_wp2
        go_ret
        exact ⟨by first | rfl | (simp; done) | (simp [*]; done), by repeat (first | exact Drawn0.refl _ | apply Drawn0.step)⟩
      · rw [if_neg c5] at H
        have c5b0 : ((bt a0 0) == 45) = false := beq_eq_false_iff_ne.mpr c5
        have c5b1 : ((bt a0 0) != 45) = true := bne_iff_ne.mpr c5
        obtain rfl := Option.some.inj H
        have p4 : 0 ≤ (0 : Int) := (by omega)
        have q4 : 0 < a0.size := (by have : (0 : Int) < (a0.size : Int) := of_decide_eq_true (by first | (with_reducible assumption) | assumption); omega)
        have hx4 : ∀ h : 0 < a0.size, ((a0[0]'h).toNat : Int) = bt a0 0 := bt_at a0 0
        clear p4
        have qi4 : (0 < (a0.size : Int)) = True := eq_true (of_decide_eq_true (by first | (with_reducible assumption) | assumption))
        replace q4 := eq_true q4
        go_enter Try.func32, Try.ntmps32
        go_wp2
        go_ret
        exact ⟨by first | rfl | (simp; done) | (simp [*]; done), by repeat (first | exact Drawn0.refl _ | apply Drawn0.step)⟩
    · rw [if_neg c3] at H
      exact absurd H (by simp)

end Go.Proofs.Ytgmhhdpggnmipaa.PQ
