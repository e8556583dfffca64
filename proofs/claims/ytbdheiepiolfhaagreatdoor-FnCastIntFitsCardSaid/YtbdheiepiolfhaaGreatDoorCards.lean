/-
  DERIVED. GIVEN WITH THE SEED: THE CARDS: each row of YtbdheiepiolfhaaGreatDoorRows.lean that lists a variable, with what it lists TIED to the program's text (the seventh form; the later family's looks); each row that meets fmt, with fmt's text TOLD by the authors' own Lean function (tested against real Go, not proved from fmt's source: count such statements apart). THE CARD IS WHAT COUNTS. Prove the row's statement (the work); the ties are given (YtbdheiepiolfhaaGreatDoorTie.lean); close each card by the builder's one call (the guide's Derived/Test/ToyasCard.lean, 'card_holds'). Laid BY PROGRAM, IN A SANDBOX (cutbox-door.mjs). By AI agents, Wed Nov 11 2026. No macro, syntax, notation, axiom, sorry.
-/
import Derived.Test.YtbdheiepiolfhaaGreatDoorRows
import GoSem.ClaimSeven
namespace Go.Proofs.YtbdheiepiolfhaaGreatDoor
namespace Rows

/-- THE TIED CARD OF 'laws.FnCastIntFits'. -/
def fnCastIntFitsCard : Claim7 := { stood := { row := fnCastIntFitsRow, standIns := [], harness := (true, "d57df3fa0404b35b27fac2a65f7fe7935e3849c5cdc9786b195e639288910e6a"), looks := true }, kinds := [], alts := [], laidByText := true, laidKinds := [.data, .data, .data, .sentinel, .sentinel], laidTests := true, laidLooks := .later }
def FnCastIntFitsCardSaid : Prop := Claim7.holds Tryz.pinned (.plain (OpenSpec.ofChange fnCastIntFitsSpec)) fnCastIntFitsCard

/-- THE TIED CARD OF 'laws.FnCastFloatSame'. -/
def fnCastFloatSameCard : Claim7 := { stood := { row := fnCastFloatSameRow, standIns := [], harness := (true, "d57df3fa0404b35b27fac2a65f7fe7935e3849c5cdc9786b195e639288910e6a"), looks := true }, kinds := [], alts := [], laidByText := true, laidKinds := [.data, .data, .widerDeep, .widerDeep, .data, .data, .data, .data, .data, .sentinel, .sentinel, .pinned, .pinned], laidTests := true, laidLooks := .later }
def FnCastFloatSameCardSaid : Prop := Claim7.holds Tryz.pinned (.plain (OpenSpec.ofChange fnCastFloatSameSpec)) fnCastFloatSameCard

/-- THE SECOND FORM's CARD OF 'laws.FnCastIntFits'. -/
def fnCastIntFitsUptoCard : Claim7 := { stood := { row := fnCastIntFitsUptoRow, standIns := [], harness := (true, "d57df3fa0404b35b27fac2a65f7fe7935e3849c5cdc9786b195e639288910e6a"), looks := true }, kinds := [], alts := [], laidByText := true, laidKinds := [.data, .data, .data, .sentinel, .sentinel], laidTests := true, laidLooks := .later }
def FnCastIntFitsUptoCardSaid : Prop := Claim7.holds Tryz.pinned (.plain (OpenSpec.upto fnCastIntFitsSpec)) fnCastIntFitsUptoCard

/-- THE SECOND FORM's CARD OF 'laws.FnCastFloatSame'. -/
def fnCastFloatSameUptoCard : Claim7 := { stood := { row := fnCastFloatSameUptoRow, standIns := [], harness := (true, "d57df3fa0404b35b27fac2a65f7fe7935e3849c5cdc9786b195e639288910e6a"), looks := true }, kinds := [], alts := [], laidByText := true, laidKinds := [.data, .data, .widerDeep, .widerDeep, .data, .data, .data, .data, .data, .sentinel, .sentinel, .pinned, .pinned], laidTests := true, laidLooks := .later }
def FnCastFloatSameUptoCardSaid : Prop := Claim7.holds Tryz.pinned (.plain (OpenSpec.upto fnCastFloatSameSpec)) fnCastFloatSameUptoCard
end Rows
end Go.Proofs.YtbdheiepiolfhaaGreatDoor
