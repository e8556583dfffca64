/-
  DERIVED. GIVEN WITH THE SEED: THE CARDS: each row of YtcelhnnnaakkeaaDoorRows.lean that lists a variable, with what it lists TIED to the program's text (the seventh form; the later family's looks); each row that meets fmt, with fmt's text TOLD by the authors' own Lean function (tested against real Go, not proved from fmt's source: count such statements apart). THE CARD IS WHAT COUNTS. Prove the row's statement (the work); the ties are given (YtcelhnnnaakkeaaDoorTie.lean); close each card by the builder's one call (the guide's Derived/Test/ToyasCard.lean, 'card_holds'). Laid BY PROGRAM, IN A SANDBOX (cutbox-door.mjs). By AI agents, Wed Nov 11 2026. No macro, syntax, notation, axiom, sorry.
-/
import Derived.Test.YtcelhnnnaakkeaaDoorRows
import GoSem.ClaimSeven
namespace Go.Proofs.YtcelhnnnaakkeaaDoor
namespace Rows

/-- THE TIED CARD OF 'laws.FnCastBytes'. -/
def fnCastBytesCard : Claim7 := { stood := { row := fnCastBytesRow, standIns := [], harness := (true, "caf8f39aa1bf6cf2690c898be4f2c3af154495276f3f397ce9baf7d0351026cf"), looks := true }, kinds := [], alts := [], laidByText := true, laidKinds := [.data, .data, .data, .data, .pinned, .pinned], laidTests := true, laidLooks := .later }
def FnCastBytesCardSaid : Prop := Claim7.holds Tryd.pinned (.plain (OpenSpec.ofChange fnCastBytesSpec)) fnCastBytesCard

/-- THE TIED CARD OF 'laws.FnCastSlice'. -/
def fnCastSliceCard : Claim7 := { stood := { row := fnCastSliceRow, standIns := [], harness := (true, "caf8f39aa1bf6cf2690c898be4f2c3af154495276f3f397ce9baf7d0351026cf"), looks := true }, kinds := [], alts := [], laidByText := true, laidKinds := [.data, .data, .data, .data, .pinned, .pinned], laidTests := true, laidLooks := .later }
def FnCastSliceCardSaid : Prop := Claim7.holds Tryd.pinned (.plain (OpenSpec.ofChange fnCastSliceSpec)) fnCastSliceCard

/-- THE TIED CARD OF 'laws.FnCastNarrow'. -/
def fnCastNarrowCard : Claim7 := { stood := { row := fnCastNarrowRow, standIns := [], harness := (true, "caf8f39aa1bf6cf2690c898be4f2c3af154495276f3f397ce9baf7d0351026cf"), looks := true }, kinds := [], alts := [], laidByText := true, laidKinds := [.data, .data, .data, .sentinel, .sentinel], laidTests := true, laidLooks := .later }
def FnCastNarrowCardSaid : Prop := Claim7.holds Tryd.pinned (.plain (OpenSpec.ofChange fnCastNarrowSpec)) fnCastNarrowCard

/-- THE TIED CARD OF 'laws.FnCastIntFloat'. -/
def fnCastIntFloatCard : Claim7 := { stood := { row := fnCastIntFloatRow, standIns := [], harness := (true, "caf8f39aa1bf6cf2690c898be4f2c3af154495276f3f397ce9baf7d0351026cf"), looks := true }, kinds := [], alts := [], laidByText := true, laidKinds := [.data, .data, .widerDeep, .widerDeep, .data, .data, .data, .data, .data, .sentinel, .sentinel, .pinned, .pinned], laidTests := true, laidLooks := .later }
def FnCastIntFloatCardSaid : Prop := Claim7.holds Tryd.pinned (.plain (OpenSpec.ofChange fnCastIntFloatSpec)) fnCastIntFloatCard

/-- THE SECOND FORM's CARD OF 'laws.FnCastBytes'. -/
def fnCastBytesUptoCard : Claim7 := { stood := { row := fnCastBytesUptoRow, standIns := [], harness := (true, "caf8f39aa1bf6cf2690c898be4f2c3af154495276f3f397ce9baf7d0351026cf"), looks := true }, kinds := [], alts := [], laidByText := true, laidKinds := [.data, .data, .data, .data, .pinned, .pinned], laidTests := true, laidLooks := .later }
def FnCastBytesUptoCardSaid : Prop := Claim7.holds Tryd.pinned (.plain (OpenSpec.upto fnCastBytesSpec)) fnCastBytesUptoCard

/-- THE SECOND FORM's CARD OF 'laws.FnCastSlice'. -/
def fnCastSliceUptoCard : Claim7 := { stood := { row := fnCastSliceUptoRow, standIns := [], harness := (true, "caf8f39aa1bf6cf2690c898be4f2c3af154495276f3f397ce9baf7d0351026cf"), looks := true }, kinds := [], alts := [], laidByText := true, laidKinds := [.data, .data, .data, .data, .pinned, .pinned], laidTests := true, laidLooks := .later }
def FnCastSliceUptoCardSaid : Prop := Claim7.holds Tryd.pinned (.plain (OpenSpec.upto fnCastSliceSpec)) fnCastSliceUptoCard

/-- THE SECOND FORM's CARD OF 'laws.FnCastNarrow'. -/
def fnCastNarrowUptoCard : Claim7 := { stood := { row := fnCastNarrowUptoRow, standIns := [], harness := (true, "caf8f39aa1bf6cf2690c898be4f2c3af154495276f3f397ce9baf7d0351026cf"), looks := true }, kinds := [], alts := [], laidByText := true, laidKinds := [.data, .data, .data, .sentinel, .sentinel], laidTests := true, laidLooks := .later }
def FnCastNarrowUptoCardSaid : Prop := Claim7.holds Tryd.pinned (.plain (OpenSpec.upto fnCastNarrowSpec)) fnCastNarrowUptoCard

/-- THE SECOND FORM's CARD OF 'laws.FnCastIntFloat'. -/
def fnCastIntFloatUptoCard : Claim7 := { stood := { row := fnCastIntFloatUptoRow, standIns := [], harness := (true, "caf8f39aa1bf6cf2690c898be4f2c3af154495276f3f397ce9baf7d0351026cf"), looks := true }, kinds := [], alts := [], laidByText := true, laidKinds := [.data, .data, .widerDeep, .widerDeep, .data, .data, .data, .data, .data, .sentinel, .sentinel, .pinned, .pinned], laidTests := true, laidLooks := .later }
def FnCastIntFloatUptoCardSaid : Prop := Claim7.holds Tryd.pinned (.plain (OpenSpec.upto fnCastIntFloatSpec)) fnCastIntFloatUptoCard
end Rows
end Go.Proofs.YtcelhnnnaakkeaaDoor
