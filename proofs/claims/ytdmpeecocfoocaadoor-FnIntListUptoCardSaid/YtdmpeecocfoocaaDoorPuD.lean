/- What internal/strconv.ParseUint says of a text at base 0 (plain), and the contract of lower. Written by gen_parseuint.py. -/
import Derived.Test.YtdmpeecocfoocaaDoorDigit
import Derived.Test.YtdmpeecocfoocaaDoorQuoteL
import Derived.Test.YtdmpeecocfoocaaDoorShelf
import Derived.Lib.ParseIntBMem
namespace Go.Proofs.YtdmpeecocfoocaaDoor.E
open Go.RowKit Go.Proofs
set_option linter.unusedVariables false
set_option linter.unusedSimpArgs false

open Go.Lib (NumEnd)
/-- A byte with its bit 32 set. -/
def lowB (m : Nat) : Int := bits .or .u8 m 32
theorem lowB_facts : ∀ m : Fin 256, 0 ≤ lowB m ∧ lowB m ≤ 255 ∧ (¬ (48 ≤ (m : Nat) ∧ (m : Nat) ≤ 57) → (57 < (m : Nat) ∧ 97 ≤ lowB m ∧ lowB m ≤ 122 ∧ dig0 m = lowB m - 97 + 10) ∨ (((m : Nat) < 48 ∧ lowB m < 97 ∨ (57 < (m : Nat) ∧ lowB m < 97) ∨ (57 < (m : Nat) ∧ 97 ≤ lowB m ∧ 122 < lowB m)) ∧ dig0 m = -1)) := by decide +kernel
theorem lowB_is : ∀ m : Fin 256, (lowB m = 98 ↔ (m : Nat) = 98 ∨ (m : Nat) = 66) ∧ (lowB m = 111 ↔ (m : Nat) = 111 ∨ (m : Nat) = 79) ∧ (lowB m = 120 ↔ (m : Nat) = 120 ∨ (m : Nat) = 88) := by decide +kernel
theorem dig0_num {m : Nat} (h : 48 ≤ m ∧ m ≤ 57) : dig0 m = (m : Int) - 48 := by simp [dig0, h]

theorem lower_any (m : Nat) (w : World) : Calls Tryd.prog 122 #[.int .u8 m] w fun e w' => e = .returned (.int .u8 (lowB m)) ∧ w = w' :=
  (Tryd.internal_strconv_lower m w).mono fun e w' ⟨he, hw⟩ => ⟨he, hw.symm⟩

/-- The base that a text's beginning tells, and how many bytes that takes. -/
def preB (l : List UInt8) : Nat × Nat :=
  if (l.getD 0 0).toNat = 48 then
    if 3 ≤ l.length ∧ ((l.getD 1 0).toNat = 98 ∨ (l.getD 1 0).toNat = 66) then (2, 2)
    else if 3 ≤ l.length ∧ ((l.getD 1 0).toNat = 111 ∨ (l.getD 1 0).toNat = 79) then (8, 2)
    else if 3 ≤ l.length ∧ ((l.getD 1 0).toNat = 120 ∨ (l.getD 1 0).toNat = 88) then (16, 2)
    else (8, 1)
  else (10, 0)

/-- The loop: digits of a base, and underscores. -/
def puScan (B M : Nat) : Nat → Bool → List UInt8 → NumEnd (Nat × Bool)
  | acc, us, [] => .ok (acc, us)
  | acc, us, c :: r =>
    if c.toNat = 95 then puScan B M acc true r
    else if dig0 c.toNat = -1 ∨ (B : Int) ≤ dig0 c.toNat then Go.Lib.NumEnd.syntax
    else if (M : Int) < acc * B + dig0 c.toNat then .range
    else puScan B M (acc * B + (dig0 c.toNat).toNat) us r

/-- What the loop keeps. -/
def PuRel (B M n : Nat) (bs : List UInt8) (vu vn vi : Value) : Prop :=
  ∃ (k acc : Nat) (us : Bool) (a : Int), vu = .bool us ∧ vn = .int .u64 a ∧ vi = .int .i64 k ∧ k ≤ n ∧ Hid (a = (acc : Int) ∧ acc ≤ M ∧ puScan B M 0 false bs = puScan B M acc us (bs.drop k))

theorem drop_at {t : ByteArray} {k : Nat} (h : k < t.size) : t.data.toList.drop k = t[k] :: t.data.toList.drop (k + 1) := by
  rw [bget h]
  exact List.drop_eq_getElem_cons (by simpa using h)

theorem puScan_sign {B M : Nat} {t : ByteArray} (h : 0 < t.size) {r : Nat × Bool} (hr : puScan B M 0 false t.data.toList = .ok r) : ¬ t[0].toNat = 45 ∧ ¬ t[0].toNat = 43 := by
  have e := drop_at h
  rw [List.drop_zero] at e
  rw [e] at hr
  constructor <;> intro hc <;> rw [puScan, if_neg (by omega), if_pos (.inl (by rw [hc]; rfl))] at hr <;> cases hr

def puTup (T : TypeId) (M : Int) (ok : Bool) : NumEnd (Nat × Bool) → Value
  | .ok (n, us) => if us && !ok then .tuple #[.int .u64 0, .iface T (.int .i64 2)] else .tuple #[.int .u64 n, .nilIface]
  | Go.Lib.NumEnd.syntax => .tuple #[.int .u64 0, .iface T (.int .i64 2)]
  | .range => .tuple #[.int .u64 M, .iface T (.int .i64 1)]
end Go.Proofs.YtdmpeecocfoocaaDoor.E
