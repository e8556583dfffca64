/- The walk of laws.FnQuoted where a text is too long to be spoken of, and all of it. -/
import Derived.Test.YtnlmmkmbgjgdbaaUnquote
namespace Go.Proofs.Ytnlmmkmbgjgdbaa
open Go.RowKit
set_option linter.unusedVariables false
set_option linter.unusedSimpArgs false

theorem le_no {n : Nat} (h : ¬ 2147483647 < n) : decide ((2147483647 : Int) < (n : Int)) = false := by simp; omega
theorem lt_yes {n : Nat} (h : 2147483647 < n) : decide ((2147483647 : Int) < (n : Int)) = true := by simp; omega

set_option maxHeartbeats 1600000 in
theorem fnQuoted_any (t a n b : ByteArray) (w : World) (h1 : t.size ≤ 9223372036854775807) (h2 : a.size ≤ 9223372036854775807) (h3 : n.size ≤ 9223372036854775807) (h4 : b.size ≤ 9223372036854775807) :
    Calls Try.prog 5 #[.string t, .string a, .string n, .string b] w fun e w' => e = .returned (.bool true) ∧ Below w.heap.size w w' := by
  by_cases k1 : 2147483647 < t.size
  · have c1 := lt_yes k1
    go_enter Try.func5, Try.ntmps5
    go_wp2
    go_ret
    exact ⟨rfl, Below.refl _ _⟩
  by_cases k2 : 2147483647 < a.size
  · have c1 := le_no k1
    have c2 := lt_yes k2
    go_enter Try.func5, Try.ntmps5
    go_wp2
    go_ret
    exact ⟨rfl, Below.refl _ _⟩
  by_cases k3 : 2147483647 < n.size
  · have c1 := le_no k1
    have c2 := le_no k2
    have c3 := lt_yes k3
    go_enter Try.func5, Try.ntmps5
    go_wp2
    go_ret
    exact ⟨rfl, Below.refl _ _⟩
  by_cases k4 : 2147483647 < b.size
  · have c1 := le_no k1
    have c2 := le_no k2
    have c3 := le_no k3
    have c4 := lt_yes k4
    go_enter Try.func5, Try.ntmps5
    go_wp2
    go_ret
    exact ⟨rfl, Below.refl _ _⟩
  exact fnQuoted_fit t a n b w (by omega) (by omega) (by omega) (by omega)
end Go.Proofs.Ytnlmmkmbgjgdbaa
