/-
  DERIVED. GIVEN WITH THE SEED: THE CARDS: each row of YtnlmmkmbgjgdbaaDoorRows.lean that lists a variable, with what it lists TIED to the program's text (the seventh form; the later family's looks); each row that meets fmt, with fmt's text TOLD by the authors' own Lean function (tested against real Go, not proved from fmt's source: count such statements apart). THE CARD IS WHAT COUNTS. Prove the row's statement (the work); the ties are given (YtnlmmkmbgjgdbaaDoorTie.lean); close each card by the builder's one call (the guide's Derived/Test/ToyasCard.lean, 'card_holds'). Laid BY PROGRAM, IN A SANDBOX (cutbox-door.mjs). By AI agents, Wed Nov 11 2026. No macro, syntax, notation, axiom, sorry.
-/
import Derived.Test.YtnlmmkmbgjgdbaaDoorRows
import GoSem.ClaimSeven
namespace Go.Proofs.YtnlmmkmbgjgdbaaDoor
namespace Rows

/-- THE TIED CARD OF 'laws.FnBools'. -/
def fnBoolsCard : Claim7 := { stood := { row := fnBoolsRow, standIns := [], harness := (true, "8c6fc51156d12b23fbc4d29a21e95011c1786de0173859b0c57e45ad78991d8a"), looks := true }, kinds := [], alts := [], laidByText := true, laidKinds := [.data, .data, .data, .sentinel, .sentinel], laidTests := true, laidLooks := .later }
def FnBoolsCardSaid : Prop := Claim7.holds Tryd.pinned (.plain (OpenSpec.ofChange fnBoolsSpec)) fnBoolsCard

/-- THE TIED CARD OF 'laws.FnHexes'. -/
def fnHexesCard : Claim7 := { stood := { row := fnHexesRow, standIns := [], harness := (true, "8c6fc51156d12b23fbc4d29a21e95011c1786de0173859b0c57e45ad78991d8a"), looks := true }, kinds := [], alts := [], laidByText := true, laidKinds := [.data, .listed, .data, .sentinel, .pinned], laidTests := true, laidLooks := .later }
def FnHexesCardSaid : Prop := Claim7.holds Tryd.pinned (.plain (OpenSpec.ofChange fnHexesSpec)) fnHexesCard

/-- THE TIED CARD OF 'laws.FnCastTruth'. -/
def fnCastTruthCard : Claim7 := { stood := { row := fnCastTruthRow, standIns := [], harness := (true, "8c6fc51156d12b23fbc4d29a21e95011c1786de0173859b0c57e45ad78991d8a"), looks := true }, kinds := [], alts := [], laidByText := true, laidKinds := [.data, .data, .data, .sentinel, .sentinel], laidTests := true, laidLooks := .later }
def FnCastTruthCardSaid : Prop := Claim7.holds Tryd.pinned (.plain (OpenSpec.ofChange fnCastTruthSpec)) fnCastTruthCard

/-- THE SECOND FORM's CARD OF 'laws.FnBools'. -/
def fnBoolsUptoCard : Claim7 := { stood := { row := fnBoolsUptoRow, standIns := [], harness := (true, "8c6fc51156d12b23fbc4d29a21e95011c1786de0173859b0c57e45ad78991d8a"), looks := true }, kinds := [], alts := [], laidByText := true, laidKinds := [.data, .data, .data, .sentinel, .sentinel], laidTests := true, laidLooks := .later }
def FnBoolsUptoCardSaid : Prop := Claim7.holds Tryd.pinned (.plain (OpenSpec.upto fnBoolsSpec)) fnBoolsUptoCard

/-- THE SECOND FORM's CARD OF 'laws.FnHexes'. -/
def fnHexesUptoCard : Claim7 := { stood := { row := fnHexesUptoRow, standIns := [], harness := (true, "8c6fc51156d12b23fbc4d29a21e95011c1786de0173859b0c57e45ad78991d8a"), looks := true }, kinds := [], alts := [], laidByText := true, laidKinds := [.data, .listed, .data, .sentinel, .pinned], laidTests := true, laidLooks := .later }
def FnHexesUptoCardSaid : Prop := Claim7.holds Tryd.pinned (.plain (OpenSpec.upto fnHexesSpec)) fnHexesUptoCard

/-- THE SECOND FORM's CARD OF 'laws.FnCastTruth'. -/
def fnCastTruthUptoCard : Claim7 := { stood := { row := fnCastTruthUptoRow, standIns := [], harness := (true, "8c6fc51156d12b23fbc4d29a21e95011c1786de0173859b0c57e45ad78991d8a"), looks := true }, kinds := [], alts := [], laidByText := true, laidKinds := [.data, .data, .data, .sentinel, .sentinel], laidTests := true, laidLooks := .later }
def FnCastTruthUptoCardSaid : Prop := Claim7.holds Tryd.pinned (.plain (OpenSpec.upto fnCastTruthSpec)) fnCastTruthUptoCard
end Rows
end Go.Proofs.YtnlmmkmbgjgdbaaDoor
