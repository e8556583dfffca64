/- The contract of the size test of a list of texts, over this seat's program. -/
import Derived.Test.YtdmpeecocfoocaaDoorKit
namespace Go.Proofs.YtdmpeecocfoocaaDoor.E
open Go.RowKit
set_option linter.unusedVariables false
set_option linter.unusedSimpArgs false

def fits2 (xs : List ByteArray) : Bool := decide (xs.length ≤ 2147483647) && xs.all fun s => decide (s.size ≤ 2147483647)

theorem fits2_iff {xs : List ByteArray} : fits2 xs = true ↔ xs.length ≤ 2147483647 ∧ ∀ j, j < xs.length → (tx xs j).size ≤ 2147483647 := by
  simp only [fits2, Bool.and_eq_true, decide_eq_true_eq, all_tx]

theorem fits2_no {xs : List ByteArray} {k : Nat} (h : k < xs.length) (hs : 2147483647 < (tx xs k).size) : fits2 xs = false := by
  rw [Bool.eq_false_iff]; intro hc; have := (fits2_iff.1 hc).2 k h; omega

set_option maxHeartbeats 400000 in
theorem fits2_any (A : Option Addr) (cap : Nat) (xs : List ByteArray) (w : World) (hx : StrsAt w A xs) (hm : xs.length ≤ 9223372036854775807) :
    Calls Tryd.prog 7 #[.slice A xs.length cap] w fun e w' => e = .returned (.bool (fits2 xs)) ∧ w = w' := by
  by_cases hbig : 2147483647 < xs.length
  · have hb : ((2147483647 : Int) < (xs.length : Int)) := by omega
    have HF : Hid (fits2 xs = false) := by show fits2 xs = false; rw [Bool.eq_false_iff]; intro hc; have := (fits2_iff.1 hc).1; omega
    go_enter Tryd.func7, Tryd.ntmps7
    go_wp2
    go_ret
    exact ⟨by rw [HF.out]; rfl, rfl⟩
  · have hb : ¬ ((2147483647 : Int) < (xs.length : Int)) := by omega
    go_enter Tryd.func7, Tryd.ntmps7
    go_wp2
    go_loop [10] (fun i => ∃ k : Nat, k ≤ xs.length ∧ i = .int .i64 k ∧ Hid (∀ j, j < k → (tx xs j).size ≤ 2147483647)) (fun i => xs.length - (intOf i).toNat)
    case atStart => exact ⟨0, Nat.zero_le _, rfl, fun j hj => by omega⟩
    case round =>
      obtain ⟨k, hk, rfl, HP⟩ := hrel
      by_cases hlt : k < xs.length
      · obtain ⟨b, o, rfl, hc⟩ := hx k hlt
        by_cases hs : 2147483647 < (tx xs k).size
        · have hs' : (2147483647 : Int) < ((tx xs k).size : Int) := by omega
          have HF := Lib.hid (fits2_no hlt hs)
          go_wp2
          go_ret
          exact ⟨by rw [HF.out]; rfl, rfl⟩
        · have hs' : ((tx xs k).size : Int) ≤ 2147483647 := by omega
          go_wp2
          go_round
          case rel => exact ⟨k + 1, by omega, by go_num, fun j hj => by by_cases e : j = k; (subst e; omega); exact HP j (by omega)⟩
          case measure => simp [intOf]; omega
      · have HF : Hid (fits2 xs = true) := fits2_iff.2 ⟨by omega, fun j hj => HP j (by omega)⟩
        go_wp2
        go_ret
        exact ⟨by rw [HF.out]; rfl, rfl⟩
end Go.Proofs.YtdmpeecocfoocaaDoor.E
