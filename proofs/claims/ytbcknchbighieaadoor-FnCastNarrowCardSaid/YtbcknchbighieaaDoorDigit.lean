/- A byte as a digit (for seats without spec.digit29: lay it as <Name>Digit). -/
import Derived.Test.YtbcknchbighieaaDoorKit
namespace Go.Proofs.YtbcknchbighieaaDoor.E
open Go.RowKit
set_option linter.unusedVariables false
set_option linter.unusedSimpArgs false

/-- What a byte is as a digit of any base. -/
def dig0 (m : Nat) : Int :=
  if 48 ≤ m ∧ m ≤ 57 then (m : Int) - 48 else if 97 ≤ m ∧ m ≤ 122 then (m : Int) - 97 + 10 else if 65 ≤ m ∧ m ≤ 90 then (m : Int) - 65 + 10 else -1
/-- What it is as a digit of base b; -1: none. -/
def digV (b m : Nat) : Int := if (b : Int) ≤ dig0 m then -1 else dig0 m

end Go.Proofs.YtbcknchbighieaaDoor.E
