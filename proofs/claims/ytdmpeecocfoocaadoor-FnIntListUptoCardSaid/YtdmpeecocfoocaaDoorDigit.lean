/- The contract of spec.digit29, over this seat's program. -/
import Derived.Test.YtdmpeecocfoocaaDoorKit
namespace Go.Proofs.YtdmpeecocfoocaaDoor.E
open Go.RowKit
set_option linter.unusedVariables false
set_option linter.unusedSimpArgs false

/-- What a byte is as a digit of any base. -/
def dig0 (m : Nat) : Int :=
  if 48 ≤ m ∧ m ≤ 57 then (m : Int) - 48 else if 97 ≤ m ∧ m ≤ 122 then (m : Int) - 97 + 10 else if 65 ≤ m ∧ m ≤ 90 then (m : Int) - 65 + 10 else -1
/-- What it is as a digit of base b; -1: none. -/
def digV (b m : Nat) : Int := if (b : Int) ≤ dig0 m then -1 else dig0 m

theorem digit_walk (m b : Nat) (hm : m < 256) (hb : b ≤ 36) (w : World) :
    Calls Tryd.prog 98 #[.int .u8 m, .int .u64 b] w fun e w' => e = .returned (.int .i64 (digV b m)) ∧ w = w' := by
  have h0 : (0 : Int) ≤ (m : Int) := Int.natCast_nonneg _
  have h1 : (m : Int) ≤ 255 := by omega
  have hb0 : (0 : Int) ≤ (b : Int) := Int.natCast_nonneg _
  have hb1 : (b : Int) ≤ 36 := by omega
  by_cases c1 : 48 ≤ m ∧ m ≤ 57
  · have e : dig0 m = (m : Int) - 48 := by simp [dig0, c1]
    have a1 : (48 : Int) ≤ (m : Int) := by omega
    have a2 : (m : Int) ≤ 57 := by omega
    by_cases hbig : (b : Int) ≤ (m : Int) - 48
    · have HV : Hid (digV b m = -1) := by simp [Hid, digV, e, hbig]
      clear e c1
      go_enter Tryd.func98, Tryd.ntmps98
      go_wp2
      go_ret
      exact ⟨by rw [HV.out]; rfl, rfl⟩
    · have HV : Hid (digV b m = (m : Int) - 48) := by simp [Hid, digV, e, hbig]
      clear e c1
      go_enter Tryd.func98, Tryd.ntmps98
      go_wp2
      go_ret
      exact ⟨by rw [HV.out]; rfl, rfl⟩
  by_cases c2 : 97 ≤ m ∧ m ≤ 122
  · have e : dig0 m = (m : Int) - 97 + 10 := by simp [dig0, c1, c2]
    have a1 : (97 : Int) ≤ (m : Int) := by omega
    have a2 : (m : Int) ≤ 122 := by omega
    have a3 : ¬ (m : Int) ≤ 57 := by omega
    have a4 : (48 : Int) ≤ (m : Int) := by omega
    by_cases hbig : (b : Int) ≤ (m : Int) - 97 + 10
    · have HV : Hid (digV b m = -1) := by simp [Hid, digV, e, hbig]
      clear e c1 c2
      go_enter Tryd.func98, Tryd.ntmps98
      go_wp2
      go_ret
      exact ⟨by rw [HV.out]; rfl, rfl⟩
    · have HV : Hid (digV b m = (m : Int) - 97 + 10) := by simp [Hid, digV, e, hbig]
      clear e c1 c2
      go_enter Tryd.func98, Tryd.ntmps98
      go_wp2
      go_ret
      exact ⟨by rw [HV.out]; rfl, rfl⟩
  by_cases c3 : 65 ≤ m ∧ m ≤ 90
  · have e : dig0 m = (m : Int) - 65 + 10 := by simp [dig0, c1, c2, c3]
    have a1 : (65 : Int) ≤ (m : Int) := by omega
    have a2 : (m : Int) ≤ 90 := by omega
    have a3 : ¬ (m : Int) ≤ 57 := by omega
    have a4 : (48 : Int) ≤ (m : Int) := by omega
    have a5 : ¬ (97 : Int) ≤ (m : Int) := by omega
    by_cases hbig : (b : Int) ≤ (m : Int) - 65 + 10
    · have HV : Hid (digV b m = -1) := by simp [Hid, digV, e, hbig]
      clear e c1 c2 c3
      go_enter Tryd.func98, Tryd.ntmps98
      go_wp2
      go_ret
      exact ⟨by rw [HV.out]; rfl, rfl⟩
    · have HV : Hid (digV b m = (m : Int) - 65 + 10) := by simp [Hid, digV, e, hbig]
      clear e c1 c2 c3
      go_enter Tryd.func98, Tryd.ntmps98
      go_wp2
      go_ret
      exact ⟨by rw [HV.out]; rfl, rfl⟩
  have e : dig0 m = -1 := by simp [dig0, c1, c2, c3]
  have HV : Hid (digV b m = -1) := by simp only [Hid, digV, e]; split <;> rfl
  have h4 : m < 48 ∨ (58 ≤ m ∧ m ≤ 64) ∨ (91 ≤ m ∧ m ≤ 96) ∨ 123 ≤ m := by omega
  clear e c1 c2 c3
  rcases h4 with h | ⟨h, h'⟩ | ⟨h, h'⟩ | h
  · have a1 : ¬ (48 : Int) ≤ (m : Int) := by omega
    have a2 : ¬ (97 : Int) ≤ (m : Int) := by omega
    have a3 : ¬ (65 : Int) ≤ (m : Int) := by omega
    go_enter Tryd.func98, Tryd.ntmps98
    go_wp2
    go_ret
    exact ⟨by rw [HV.out]; rfl, rfl⟩
  · have a1 : (48 : Int) ≤ (m : Int) := by omega
    have a4 : ¬ (m : Int) ≤ 57 := by omega
    have a2 : ¬ (97 : Int) ≤ (m : Int) := by omega
    have a3 : ¬ (65 : Int) ≤ (m : Int) := by omega
    go_enter Tryd.func98, Tryd.ntmps98
    go_wp2
    go_ret
    exact ⟨by rw [HV.out]; rfl, rfl⟩
  · have a1 : (48 : Int) ≤ (m : Int) := by omega
    have a4 : ¬ (m : Int) ≤ 57 := by omega
    have a2 : ¬ (97 : Int) ≤ (m : Int) := by omega
    have a3 : (65 : Int) ≤ (m : Int) := by omega
    have a5 : ¬ (m : Int) ≤ 90 := by omega
    go_enter Tryd.func98, Tryd.ntmps98
    go_wp2
    go_ret
    exact ⟨by rw [HV.out]; rfl, rfl⟩
  · have a1 : (48 : Int) ≤ (m : Int) := by omega
    have a4 : ¬ (m : Int) ≤ 57 := by omega
    have a2 : (97 : Int) ≤ (m : Int) := by omega
    have a6 : ¬ (m : Int) ≤ 122 := by omega
    have a3 : (65 : Int) ≤ (m : Int) := by omega
    have a5 : ¬ (m : Int) ≤ 90 := by omega
    go_enter Tryd.func98, Tryd.ntmps98
    go_wp2
    go_ret
    exact ⟨by rw [HV.out]; rfl, rfl⟩
end Go.Proofs.YtdmpeecocfoocaaDoor.E
