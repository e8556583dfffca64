/-
  DERIVED. GIVEN WITH THE SEED: THE CARDS: each row of YtdmpeecocfoocaaDoorRows.lean that lists a variable, with what it lists TIED to the program's text (the seventh form; the later family's looks); each row that meets fmt, with fmt's text TOLD by the authors' own Lean function (tested against real Go, not proved from fmt's source: count such statements apart). THE CARD IS WHAT COUNTS. Prove the row's statement (the work); the ties are given (YtdmpeecocfoocaaDoorTie.lean); close each card by the builder's one call (the guide's Derived/Test/ToyasCard.lean, 'card_holds'). Laid BY PROGRAM, IN A SANDBOX (cutbox-door.mjs). By AI agents, Wed Nov 11 2026. No macro, syntax, notation, axiom, sorry.
-/
import Derived.Test.YtdmpeecocfoocaaDoorRows
import GoSem.ClaimSeven
namespace Go.Proofs.YtdmpeecocfoocaaDoor
namespace Rows

/-- THE TIED CARD OF 'laws.FnUintsAll'. -/
def fnUintsAllCard : Claim7 := { stood := { row := fnUintsAllRow, standIns := [], harness := (true, "9faab16d4253dbfa66e07a3513bcd2baa524638547d0249381ac38fe5196c7c7"), looks := true }, kinds := [], alts := [], laidByText := true, laidKinds := [.data, .data, .data, .sentinel, .sentinel], laidTests := true, laidLooks := .later }
def FnUintsAllCardSaid : Prop := Claim7.holds Tryd.pinned (.plain (OpenSpec.ofChange fnUintsAllSpec)) fnUintsAllCard

/-- THE TIED CARD OF 'laws.FnInt64List'. -/
def fnInt64ListCard : Claim7 := { stood := { row := fnInt64ListRow, standIns := [], harness := (true, "9faab16d4253dbfa66e07a3513bcd2baa524638547d0249381ac38fe5196c7c7"), looks := true }, kinds := [], alts := [], laidByText := true, laidKinds := [.data, .data, .data, .sentinel, .sentinel], laidTests := true, laidLooks := .later }
def FnInt64ListCardSaid : Prop := Claim7.holds Tryd.pinned (.plain (OpenSpec.ofChange fnInt64ListSpec)) fnInt64ListCard

/-- THE TIED CARD OF 'laws.FnCounts'. -/
def fnCountsCard : Claim7 := { stood := { row := fnCountsRow, standIns := [], harness := (true, "9faab16d4253dbfa66e07a3513bcd2baa524638547d0249381ac38fe5196c7c7"), looks := true }, kinds := [], alts := [], laidByText := true, laidKinds := [.data, .data, .data, .sentinel, .sentinel], laidTests := true, laidLooks := .later }
def FnCountsCardSaid : Prop := Claim7.holds Tryd.pinned (.plain (OpenSpec.ofChange fnCountsSpec)) fnCountsCard

/-- THE TIED CARD OF 'laws.FnIntList'. -/
def fnIntListCard : Claim7 := { stood := { row := fnIntListRow, standIns := [], harness := (true, "9faab16d4253dbfa66e07a3513bcd2baa524638547d0249381ac38fe5196c7c7"), looks := true }, kinds := [], alts := [], laidByText := true, laidKinds := [.data, .data, .data, .sentinel, .sentinel], laidTests := true, laidLooks := .later }
def FnIntListCardSaid : Prop := Claim7.holds Tryd.pinned (.plain (OpenSpec.ofChange fnIntListSpec)) fnIntListCard

/-- THE SECOND FORM's CARD OF 'laws.FnUintsAll'. -/
def fnUintsAllUptoCard : Claim7 := { stood := { row := fnUintsAllUptoRow, standIns := [], harness := (true, "9faab16d4253dbfa66e07a3513bcd2baa524638547d0249381ac38fe5196c7c7"), looks := true }, kinds := [], alts := [], laidByText := true, laidKinds := [.data, .data, .data, .sentinel, .sentinel], laidTests := true, laidLooks := .later }
def FnUintsAllUptoCardSaid : Prop := Claim7.holds Tryd.pinned (.plain (OpenSpec.upto fnUintsAllSpec)) fnUintsAllUptoCard

/-- THE SECOND FORM's CARD OF 'laws.FnInt64List'. -/
def fnInt64ListUptoCard : Claim7 := { stood := { row := fnInt64ListUptoRow, standIns := [], harness := (true, "9faab16d4253dbfa66e07a3513bcd2baa524638547d0249381ac38fe5196c7c7"), looks := true }, kinds := [], alts := [], laidByText := true, laidKinds := [.data, .data, .data, .sentinel, .sentinel], laidTests := true, laidLooks := .later }
def FnInt64ListUptoCardSaid : Prop := Claim7.holds Tryd.pinned (.plain (OpenSpec.upto fnInt64ListSpec)) fnInt64ListUptoCard

/-- THE SECOND FORM's CARD OF 'laws.FnCounts'. -/
def fnCountsUptoCard : Claim7 := { stood := { row := fnCountsUptoRow, standIns := [], harness := (true, "9faab16d4253dbfa66e07a3513bcd2baa524638547d0249381ac38fe5196c7c7"), looks := true }, kinds := [], alts := [], laidByText := true, laidKinds := [.data, .data, .data, .sentinel, .sentinel], laidTests := true, laidLooks := .later }
def FnCountsUptoCardSaid : Prop := Claim7.holds Tryd.pinned (.plain (OpenSpec.upto fnCountsSpec)) fnCountsUptoCard

/-- THE SECOND FORM's CARD OF 'laws.FnIntList'. -/
def fnIntListUptoCard : Claim7 := { stood := { row := fnIntListUptoRow, standIns := [], harness := (true, "9faab16d4253dbfa66e07a3513bcd2baa524638547d0249381ac38fe5196c7c7"), looks := true }, kinds := [], alts := [], laidByText := true, laidKinds := [.data, .data, .data, .sentinel, .sentinel], laidTests := true, laidLooks := .later }
def FnIntListUptoCardSaid : Prop := Claim7.holds Tryd.pinned (.plain (OpenSpec.upto fnIntListSpec)) fnIntListUptoCard
end Rows
end Go.Proofs.YtdmpeecocfoocaaDoor
