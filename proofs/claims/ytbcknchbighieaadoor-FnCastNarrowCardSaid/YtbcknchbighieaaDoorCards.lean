/-
  DERIVED. GIVEN WITH THE SEED: THE CARDS: each row of YtbcknchbighieaaDoorRows.lean that lists a variable, with what it lists TIED to the program's text (the seventh form; the later family's looks); each row that meets fmt, with fmt's text TOLD by the authors' own Lean function (tested against real Go, not proved from fmt's source: count such statements apart). THE CARD IS WHAT COUNTS. Prove the row's statement (the work); the ties are given (YtbcknchbighieaaDoorTie.lean); close each card by the builder's one call (the guide's Derived/Test/ToyasCard.lean, 'card_holds'). Laid BY PROGRAM, IN A SANDBOX (cutbox-door.mjs). By AI agents, Wed Nov 11 2026. No macro, syntax, notation, axiom, sorry.
-/
import Derived.Test.YtbcknchbighieaaDoorRows
import GoSem.ClaimSeven
namespace Go.Proofs.YtbcknchbighieaaDoor
namespace Rows

/-- THE TIED CARD OF 'laws.FnCastNarrow'. -/
def fnCastNarrowCard : Claim7 := { stood := { row := fnCastNarrowRow, standIns := [], harness := (true, "ade71335b453105d12995654f2e1432326db03b99b2371d7d0b1ddff3dbb1416"), looks := true }, kinds := [], alts := [], laidByText := true, laidKinds := [.data, .data, .data, .sentinel, .sentinel], laidTests := true, laidLooks := .later }
def FnCastNarrowCardSaid : Prop := Claim7.holds Tryd.pinned (.plain (OpenSpec.ofChange fnCastNarrowSpec)) fnCastNarrowCard

/-- THE SECOND FORM's CARD OF 'laws.FnCastNarrow'. -/
def fnCastNarrowUptoCard : Claim7 := { stood := { row := fnCastNarrowUptoRow, standIns := [], harness := (true, "ade71335b453105d12995654f2e1432326db03b99b2371d7d0b1ddff3dbb1416"), looks := true }, kinds := [], alts := [], laidByText := true, laidKinds := [.data, .data, .data, .sentinel, .sentinel], laidTests := true, laidLooks := .later }
def FnCastNarrowUptoCardSaid : Prop := Claim7.holds Tryd.pinned (.plain (OpenSpec.upto fnCastNarrowSpec)) fnCastNarrowUptoCard
end Rows
end Go.Proofs.YtbcknchbighieaaDoor
