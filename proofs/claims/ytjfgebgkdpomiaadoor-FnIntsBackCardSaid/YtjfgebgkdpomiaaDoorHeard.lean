/- The walk of laws.integers29 of plain texts, over this seat's program. Written by gen_ints.py. -/
import Derived.Test.YtjfgebgkdpomiaaDoorNum
import Derived.Test.YtjfgebgkdpomiaaDoorIntLoop
namespace Go.Proofs.YtjfgebgkdpomiaaDoor.E
open Go.RowKit Go.Proofs
open Go.Lib (NumEnd)
set_option linter.unusedVariables false
set_option linter.unusedSimpArgs false

theorem heard_open (b : Bool) (w : World) : Calls Tryd.prog 39 #[.int .i64 0, .bool b] w fun e w' => e = .returned (.bool true) ∧ w = w' := by
  go_enter Tryd.func39, Tryd.ntmps39
  go_wp2
  go_ret
  exact ⟨rfl, rfl⟩

theorem heard_fits (w : World) : Calls Tryd.prog 39 #[.int .i64 1, .bool false] w fun e w' => e = .returned (.bool true) ∧ w = w' := by
  go_enter Tryd.func39, Tryd.ntmps39
  go_wp2
  go_ret
  exact ⟨rfl, rfl⟩


theorem width_int (w : World) : Calls Tryd.prog 27 #[.int .i64 0] w fun e w' => e = .returned (.int .i64 64) ∧ w = w' := by
  go_enter Tryd.func27, Tryd.ntmps27
  go_wp2
  go_ret
  exact ⟨rfl, rfl⟩


theorem width_int8 (w : World) : Calls Tryd.prog 27 #[.int .i64 1] w fun e w' => e = .returned (.int .i64 8) ∧ w = w' := by
  go_enter Tryd.func27, Tryd.ntmps27
  go_wp2
  go_ret
  exact ⟨rfl, rfl⟩


theorem width_int16 (w : World) : Calls Tryd.prog 27 #[.int .i64 2] w fun e w' => e = .returned (.int .i64 16) ∧ w = w' := by
  go_enter Tryd.func27, Tryd.ntmps27
  go_wp2
  go_ret
  exact ⟨rfl, rfl⟩


theorem width_int32 (w : World) : Calls Tryd.prog 27 #[.int .i64 3] w fun e w' => e = .returned (.int .i64 32) ∧ w = w' := by
  go_enter Tryd.func27, Tryd.ntmps27
  go_wp2
  go_ret
  exact ⟨rfl, rfl⟩


theorem width_int64 (w : World) : Calls Tryd.prog 27 #[.int .i64 4] w fun e w' => e = .returned (.int .i64 64) ∧ w = w' := by
  go_enter Tryd.func27, Tryd.ntmps27
  go_wp2
  go_ret
  exact ⟨rfl, rfl⟩


theorem width_none (k : Int) (h : ¬ k = 0 ∧ ¬ k = 1 ∧ ¬ k = 2 ∧ ¬ k = 3 ∧ ¬ k = 4) (w : World) : Calls Tryd.prog 27 #[.int .i64 k] w fun e w' => e = .returned (.int .i64 0) ∧ w = w' := by
  obtain ⟨h0, h1, h2, h3, h4⟩ := h
  have g0 : (k == 0) = false := by simpa using h0
  have g1 : (k == 1) = false := by simpa using h1
  have g2 : (k == 2) = false := by simpa using h2
  have g3 : (k == 3) = false := by simpa using h3
  have g4 : (k == 4) = false := by simpa using h4
  clear h0 h1 h2 h3 h4
  go_enter Tryd.func27, Tryd.ntmps27
  go_wp2
  go_ret
  exact ⟨rfl, rfl⟩


theorem holds_64 (n : Int) (w : World) : Calls Tryd.prog 28 #[.int .i64 64, .int .i64 n] w fun e w' => e = .returned (.bool true) ∧ w = w' := by
  go_enter Tryd.func28, Tryd.ntmps28
  go_wp2
  go_ret
  exact ⟨rfl, rfl⟩


theorem holds_8_yes (n : Int) (h0 : -128 ≤ n) (h1 : n < 128) (w : World) : Calls Tryd.prog 28 #[.int .i64 8, .int .i64 n] w fun e w' => e = .returned (.bool true) ∧ w = w' := by
  go_enter Tryd.func28, Tryd.ntmps28
  go_wp2
  go_ret
  exact ⟨rfl, rfl⟩

theorem holds_8_no (n : Int) (h : n < -128 ∨ 128 ≤ n) (w : World) : Calls Tryd.prog 28 #[.int .i64 8, .int .i64 n] w fun e w' => e = .returned (.bool false) ∧ w = w' := by
  rcases h with h | h
  · have h2 : ¬ -128 ≤ n := by omega
    clear h
    go_enter Tryd.func28, Tryd.ntmps28
    go_wp2
    go_ret
    exact ⟨rfl, rfl⟩
  · have h2 : ¬ n < 128 := by omega
    have h3 : -128 ≤ n := by omega
    clear h
    go_enter Tryd.func28, Tryd.ntmps28
    go_wp2
    go_ret
    exact ⟨rfl, rfl⟩


theorem holds_16_yes (n : Int) (h0 : -32768 ≤ n) (h1 : n < 32768) (w : World) : Calls Tryd.prog 28 #[.int .i64 16, .int .i64 n] w fun e w' => e = .returned (.bool true) ∧ w = w' := by
  go_enter Tryd.func28, Tryd.ntmps28
  go_wp2
  go_ret
  exact ⟨rfl, rfl⟩

theorem holds_16_no (n : Int) (h : n < -32768 ∨ 32768 ≤ n) (w : World) : Calls Tryd.prog 28 #[.int .i64 16, .int .i64 n] w fun e w' => e = .returned (.bool false) ∧ w = w' := by
  rcases h with h | h
  · have h2 : ¬ -32768 ≤ n := by omega
    clear h
    go_enter Tryd.func28, Tryd.ntmps28
    go_wp2
    go_ret
    exact ⟨rfl, rfl⟩
  · have h2 : ¬ n < 32768 := by omega
    have h3 : -32768 ≤ n := by omega
    clear h
    go_enter Tryd.func28, Tryd.ntmps28
    go_wp2
    go_ret
    exact ⟨rfl, rfl⟩


theorem holds_32_yes (n : Int) (h0 : -2147483648 ≤ n) (h1 : n < 2147483648) (w : World) : Calls Tryd.prog 28 #[.int .i64 32, .int .i64 n] w fun e w' => e = .returned (.bool true) ∧ w = w' := by
  go_enter Tryd.func28, Tryd.ntmps28
  go_wp2
  go_ret
  exact ⟨rfl, rfl⟩

theorem holds_32_no (n : Int) (h : n < -2147483648 ∨ 2147483648 ≤ n) (w : World) : Calls Tryd.prog 28 #[.int .i64 32, .int .i64 n] w fun e w' => e = .returned (.bool false) ∧ w = w' := by
  rcases h with h | h
  · have h2 : ¬ -2147483648 ≤ n := by omega
    clear h
    go_enter Tryd.func28, Tryd.ntmps28
    go_wp2
    go_ret
    exact ⟨rfl, rfl⟩
  · have h2 : ¬ n < 2147483648 := by omega
    have h3 : -2147483648 ≤ n := by omega
    clear h
    go_enter Tryd.func28, Tryd.ntmps28
    go_wp2
    go_ret
    exact ⟨rfl, rfl⟩

end Go.Proofs.YtjfgebgkdpomiaaDoor.E
