/-
  No cell of these rows narrows 'for every input' (looked for: loops, veiled, ifaces, maps, wideKeys, modest, calm, conditions, laid).
  DERIVED. THE GIVEN ROWS OF THIS SEAT. 11 by the template 'for every input the law returns true; each argument reads behind the call as it read before'; 0 by the template 'total and deterministic' (their statements: YtgmhhdpggnmipaaTotals.lean).
  GIVEN WITH THE SEED: the statements are not yours to turn. If you find one false, say at which input.
  Laid BY PROGRAM, IN A SANDBOX (cutbox-rows.mjs): the forced cells as the released guide's own fill.sh prints them over the translation 9defcca97ac9ba76… (all of the seat's roots in one cut). By AI agents, Wed Nov 11 2026. No macro, syntax, notation, axiom, sorry.
-/
import Derived.Test.YtgmhhdpggnmipaaChecked
import GoSem.Claim
import GoSem.ClaimJoined
import GoSem.ClaimMapViews
import Derived.JoinedTies
import Derived.KernelRfl
namespace Go.Proofs.Ytgmhhdpggnmipaa
/- THE CELL 'sum', in the pinned program and in every row, IS THE sha256 OF THE DUMP (.gsa) THAT YtgmhhdpggnmipaaProg.lean LOADS. Nothing in Lean hashes anything: it is a label: what it is worth is what the hold of that sum in a sandbox is worth. -/
noncomputable def Try.pinned : Pinned := { name := "ytgmhhdpggnmipaa", sum := "9defcca97ac9ba7627f332aced9bdecc65cfa1ec92b52932cc3e519ab8f6827d", checked := Try.checked }
namespace Rows
def none {H : Type} : Left H := { results := [], args := [] }

/-- 'laws.FnLong': WHATEVER THE INPUT: true; the input reads as it did. -/
def fnLongSpec : ChangeSpec := { name := "fnLong", fn := fun _ => fun
  | [d1, d2, d3] => { results := [.lit (.bool true)], args := [d1, d2, d3] }
  | _ => none }
def fnLongRow : OpenClaim := { program := "ytgmhhdpggnmipaa", sum := "9defcca97ac9ba7627f332aced9bdecc65cfa1ec92b52932cc3e519ab8f6827d", func := "pub-ensign/laws.FnLong", spec := "fnLong", unfollowed := true, recurses := true, apart := false }
def FnLongSaid : Prop := fnLongRow.holds Try.pinned (OpenSpec.ofChange fnLongSpec)

/-- ITS FALSE NEIGHBOUR: 'it returns false'. Refute it at one input. -/
def fnLongWrong : ChangeSpec := { name := "fnLong", fn := fun _ => fun
  | [d1, d2, d3] => { results := [.lit (.bool false)], args := [d1, d2, d3] }
  | _ => none }
def FnLongWrongFalsely : Prop := fnLongRow.holds Try.pinned (OpenSpec.ofChange fnLongWrong)

/-- 'laws.FnAlone': WHATEVER THE INPUT: true; the input reads as it did. -/
def fnAloneSpec : ChangeSpec := { name := "fnAlone", fn := fun _ => fun
  | [d1, d2, d3] => { results := [.lit (.bool true)], args := [d1, d2, d3] }
  | _ => none }
def fnAloneRow : OpenClaim := { program := "ytgmhhdpggnmipaa", sum := "9defcca97ac9ba7627f332aced9bdecc65cfa1ec92b52932cc3e519ab8f6827d", func := "pub-ensign/laws.FnAlone", spec := "fnAlone", unfollowed := true, recurses := true, apart := false }
def FnAloneSaid : Prop := fnAloneRow.holds Try.pinned (OpenSpec.ofChange fnAloneSpec)

/-- ITS FALSE NEIGHBOUR: 'it returns false'. Refute it at one input. -/
def fnAloneWrong : ChangeSpec := { name := "fnAlone", fn := fun _ => fun
  | [d1, d2, d3] => { results := [.lit (.bool false)], args := [d1, d2, d3] }
  | _ => none }
def FnAloneWrongFalsely : Prop := fnAloneRow.holds Try.pinned (OpenSpec.ofChange fnAloneWrong)

/-- 'laws.FnCluster': WHATEVER THE INPUT: true; the input reads as it did. -/
def fnClusterSpec : ChangeSpec := { name := "fnCluster", fn := fun _ => fun
  | [d1, d2, d3] => { results := [.lit (.bool true)], args := [d1, d2, d3] }
  | _ => none }
def fnClusterRow : OpenClaim := { program := "ytgmhhdpggnmipaa", sum := "9defcca97ac9ba7627f332aced9bdecc65cfa1ec92b52932cc3e519ab8f6827d", func := "pub-ensign/laws.FnCluster", spec := "fnCluster", unfollowed := true, recurses := true, apart := false }
def FnClusterSaid : Prop := fnClusterRow.holds Try.pinned (OpenSpec.ofChange fnClusterSpec)

/-- ITS FALSE NEIGHBOUR: 'it returns false'. Refute it at one input. -/
def fnClusterWrong : ChangeSpec := { name := "fnCluster", fn := fun _ => fun
  | [d1, d2, d3] => { results := [.lit (.bool false)], args := [d1, d2, d3] }
  | _ => none }
def FnClusterWrongFalsely : Prop := fnClusterRow.holds Try.pinned (OpenSpec.ofChange fnClusterWrong)

/-- 'laws.FnEquals': WHATEVER THE INPUT: true; the input reads as it did. -/
def fnEqualsSpec : ChangeSpec := { name := "fnEquals", fn := fun _ => fun
  | [d1, d2, d3, d4] => { results := [.lit (.bool true)], args := [d1, d2, d3, d4] }
  | _ => none }
def fnEqualsRow : OpenClaim := { program := "ytgmhhdpggnmipaa", sum := "9defcca97ac9ba7627f332aced9bdecc65cfa1ec92b52932cc3e519ab8f6827d", func := "pub-ensign/laws.FnEquals", spec := "fnEquals", unfollowed := true, recurses := true, apart := false }
def FnEqualsSaid : Prop := fnEqualsRow.holds Try.pinned (OpenSpec.ofChange fnEqualsSpec)

/-- ITS FALSE NEIGHBOUR: 'it returns false'. Refute it at one input. -/
def fnEqualsWrong : ChangeSpec := { name := "fnEquals", fn := fun _ => fun
  | [d1, d2, d3, d4] => { results := [.lit (.bool false)], args := [d1, d2, d3, d4] }
  | _ => none }
def FnEqualsWrongFalsely : Prop := fnEqualsRow.holds Try.pinned (OpenSpec.ofChange fnEqualsWrong)

/-- 'laws.FnFold': WHATEVER THE INPUT: true; the input reads as it did. -/
def fnFoldSpec : ChangeSpec := { name := "fnFold", fn := fun _ => fun
  | [d1, d2, d3, d4, d5] => { results := [.lit (.bool true)], args := [d1, d2, d3, d4, d5] }
  | _ => none }
def fnFoldRow : OpenClaim := { program := "ytgmhhdpggnmipaa", sum := "9defcca97ac9ba7627f332aced9bdecc65cfa1ec92b52932cc3e519ab8f6827d", func := "pub-ensign/laws.FnFold", spec := "fnFold", unfollowed := true, recurses := true, apart := false }
def FnFoldSaid : Prop := fnFoldRow.holds Try.pinned (OpenSpec.ofChange fnFoldSpec)

/-- ITS FALSE NEIGHBOUR: 'it returns false'. Refute it at one input. -/
def fnFoldWrong : ChangeSpec := { name := "fnFold", fn := fun _ => fun
  | [d1, d2, d3, d4, d5] => { results := [.lit (.bool false)], args := [d1, d2, d3, d4, d5] }
  | _ => none }
def FnFoldWrongFalsely : Prop := fnFoldRow.holds Try.pinned (OpenSpec.ofChange fnFoldWrong)

/-- 'laws.FnPlain': WHATEVER THE INPUT: true; the input reads as it did. -/
def fnPlainSpec : ChangeSpec := { name := "fnPlain", fn := fun _ => fun
  | [d1, d2, d3, d4] => { results := [.lit (.bool true)], args := [d1, d2, d3, d4] }
  | _ => none }
def fnPlainRow : OpenClaim := { program := "ytgmhhdpggnmipaa", sum := "9defcca97ac9ba7627f332aced9bdecc65cfa1ec92b52932cc3e519ab8f6827d", func := "pub-ensign/laws.FnPlain", spec := "fnPlain", unfollowed := true, recurses := true, apart := false }
def FnPlainSaid : Prop := fnPlainRow.holds Try.pinned (OpenSpec.ofChange fnPlainSpec)

/-- ITS FALSE NEIGHBOUR: 'it returns false'. Refute it at one input. -/
def fnPlainWrong : ChangeSpec := { name := "fnPlain", fn := fun _ => fun
  | [d1, d2, d3, d4] => { results := [.lit (.bool false)], args := [d1, d2, d3, d4] }
  | _ => none }
def FnPlainWrongFalsely : Prop := fnPlainRow.holds Try.pinned (OpenSpec.ofChange fnPlainWrong)

/-- 'laws.FnTail': WHATEVER THE INPUT: true; the input reads as it did. -/
def fnTailSpec : ChangeSpec := { name := "fnTail", fn := fun _ => fun
  | [d1, d2, d3] => { results := [.lit (.bool true)], args := [d1, d2, d3] }
  | _ => none }
def fnTailRow : OpenClaim := { program := "ytgmhhdpggnmipaa", sum := "9defcca97ac9ba7627f332aced9bdecc65cfa1ec92b52932cc3e519ab8f6827d", func := "pub-ensign/laws.FnTail", spec := "fnTail", unfollowed := true, recurses := true, apart := false }
def FnTailSaid : Prop := fnTailRow.holds Try.pinned (OpenSpec.ofChange fnTailSpec)

/-- ITS FALSE NEIGHBOUR: 'it returns false'. Refute it at one input. -/
def fnTailWrong : ChangeSpec := { name := "fnTail", fn := fun _ => fun
  | [d1, d2, d3] => { results := [.lit (.bool false)], args := [d1, d2, d3] }
  | _ => none }
def FnTailWrongFalsely : Prop := fnTailRow.holds Try.pinned (OpenSpec.ofChange fnTailWrong)

/-- 'laws.FnUnknown': WHATEVER THE INPUT: true; the input reads as it did. -/
def fnUnknownSpec : ChangeSpec := { name := "fnUnknown", fn := fun _ => fun
  | [d1, d2, d3, d4, d5] => { results := [.lit (.bool true)], args := [d1, d2, d3, d4, d5] }
  | _ => none }
def fnUnknownRow : OpenClaim := { program := "ytgmhhdpggnmipaa", sum := "9defcca97ac9ba7627f332aced9bdecc65cfa1ec92b52932cc3e519ab8f6827d", func := "pub-ensign/laws.FnUnknown", spec := "fnUnknown", unfollowed := true, recurses := true, apart := false }
def FnUnknownSaid : Prop := fnUnknownRow.holds Try.pinned (OpenSpec.ofChange fnUnknownSpec)

/-- ITS FALSE NEIGHBOUR: 'it returns false'. Refute it at one input. -/
def fnUnknownWrong : ChangeSpec := { name := "fnUnknown", fn := fun _ => fun
  | [d1, d2, d3, d4, d5] => { results := [.lit (.bool false)], args := [d1, d2, d3, d4, d5] }
  | _ => none }
def FnUnknownWrongFalsely : Prop := fnUnknownRow.holds Try.pinned (OpenSpec.ofChange fnUnknownWrong)

/-- 'laws.FnParses': WHATEVER THE INPUT: true; the input reads as it did. -/
def fnParsesSpec : ChangeSpec := { name := "fnParses", fn := fun _ => fun
  | [d1, d2] => { results := [.lit (.bool true)], args := [d1, d2] }
  | _ => none }
def fnParsesRow : OpenClaim := { program := "ytgmhhdpggnmipaa", sum := "9defcca97ac9ba7627f332aced9bdecc65cfa1ec92b52932cc3e519ab8f6827d", func := "pub-ensign/laws.FnParses", spec := "fnParses", unfollowed := true, recurses := true, apart := false }
def FnParsesSaid : Prop := fnParsesRow.holds Try.pinned (OpenSpec.ofChange fnParsesSpec)

/-- ITS FALSE NEIGHBOUR: 'it returns false'. Refute it at one input. -/
def fnParsesWrong : ChangeSpec := { name := "fnParses", fn := fun _ => fun
  | [d1, d2] => { results := [.lit (.bool false)], args := [d1, d2] }
  | _ => none }
def FnParsesWrongFalsely : Prop := fnParsesRow.holds Try.pinned (OpenSpec.ofChange fnParsesWrong)

/-- 'laws.FnHanded': WHATEVER THE INPUT: true; the input reads as it did. -/
def fnHandedSpec : ChangeSpec := { name := "fnHanded", fn := fun _ => fun
  | [d1, d2] => { results := [.lit (.bool true)], args := [d1, d2] }
  | _ => none }
def fnHandedRow : OpenClaim := { program := "ytgmhhdpggnmipaa", sum := "9defcca97ac9ba7627f332aced9bdecc65cfa1ec92b52932cc3e519ab8f6827d", func := "pub-ensign/laws.FnHanded", spec := "fnHanded", unfollowed := true, recurses := true, apart := false }
def FnHandedSaid : Prop := fnHandedRow.holds Try.pinned (OpenSpec.ofChange fnHandedSpec)

/-- ITS FALSE NEIGHBOUR: 'it returns false'. Refute it at one input. -/
def fnHandedWrong : ChangeSpec := { name := "fnHanded", fn := fun _ => fun
  | [d1, d2] => { results := [.lit (.bool false)], args := [d1, d2] }
  | _ => none }
def FnHandedWrongFalsely : Prop := fnHandedRow.holds Try.pinned (OpenSpec.ofChange fnHandedWrong)

/-- 'laws.FnWrapKeeps': WHATEVER THE INPUT: true; the input reads as it did. -/
def fnWrapKeepsSpec : ChangeSpec := { name := "fnWrapKeeps", fn := fun _ => fun
  | [d1, d2, d3] => { results := [.lit (.bool true)], args := [d1, d2, d3] }
  | _ => none }
def fnWrapKeepsRow : OpenClaim := { program := "ytgmhhdpggnmipaa", sum := "9defcca97ac9ba7627f332aced9bdecc65cfa1ec92b52932cc3e519ab8f6827d", func := "pub-ensign/laws.FnWrapKeeps", spec := "fnWrapKeeps", inPlace := ["internal/abi.NoEscape", "internal/bytealg.MakeNoZero"], unfollowed := true, recurses := true, apart := false }
def FnWrapKeepsSaid : Prop := fnWrapKeepsRow.holds Try.pinned (OpenSpec.ofChange fnWrapKeepsSpec)

/-- ITS FALSE NEIGHBOUR: 'it returns false'. Refute it at one input. -/
def fnWrapKeepsWrong : ChangeSpec := { name := "fnWrapKeeps", fn := fun _ => fun
  | [d1, d2, d3] => { results := [.lit (.bool false)], args := [d1, d2, d3] }
  | _ => none }
def FnWrapKeepsWrongFalsely : Prop := fnWrapKeepsRow.holds Try.pinned (OpenSpec.ofChange fnWrapKeepsWrong)

/- THE SECOND FORM. 'bulk': how many values and letters a reading holds, each counted each time it is reached (what is shared counts as often as it is met; a slice's spare places count too). A statement '..UptoSaid' is the law's where the arguments, and the package variables that the reading takes, are together of bulk at most 1048576: NARROWER than '..Said'. Prove '..Said' where nothing that the law and all that it calls make is longer than what came in: it says more and counts as full. Else prove '..UptoSaid'. A law counts once. -/
mutual
def uptoBulk {H : Type} : DataW H → Nat
  | .lit (.string bytes) => bytes.length + 1
  | .lit _ => 1
  | .nil => 1
  | .ptr d => uptoBulk d + 1
  | .slice elems spare => uptoBulkAll elems + uptoBulkAll spare + 1
  | .agg parts => uptoBulkAll parts + 1
  | .iface _ d => uptoBulk d + 1
  | .map entries => uptoBulkEntries entries + 1
  | .held _ => 1
def uptoBulkAll {H : Type} : List (DataW H) → Nat
  | [] => 0
  | d :: r => uptoBulk d + uptoBulkAll r
def uptoBulkEntries {H : Type} : List (Lit × DataW H) → Nat
  | [] => 0
  | x :: r => uptoBulkEntry x + uptoBulkEntries r
def uptoBulkEntry {H : Type} : Lit × DataW H → Nat
  | (.string bytes, d) => bytes.length + uptoBulk d + 1
  | (_, d) => uptoBulk d + 1
 end
def uptoSmall : (H : Type) → List (DataW H) → Bool := fun _ ds => decide (uptoBulkAll ds ≤ 1048576)
def OpenSpec.upto (s : _root_.Go.ChangeSpec) : _root_.Go.OpenSpec := { _root_.Go.OpenSpec.ofChange s with cond := some uptoSmall }

/-- 'laws.FnLong', WHERE WHAT IT READS IS OF BULK AT MOST 1048576: true; the input reads as it did. -/
def fnLongUptoRow : OpenClaim := { program := "ytgmhhdpggnmipaa", sum := "9defcca97ac9ba7627f332aced9bdecc65cfa1ec92b52932cc3e519ab8f6827d", func := "pub-ensign/laws.FnLong", spec := "fnLong", unfollowed := true, recurses := true, apart := false, narrowed := true }
def FnLongUptoSaid : Prop := fnLongUptoRow.holds Try.pinned (OpenSpec.upto fnLongSpec)

/-- 'laws.FnAlone', WHERE WHAT IT READS IS OF BULK AT MOST 1048576: true; the input reads as it did. -/
def fnAloneUptoRow : OpenClaim := { program := "ytgmhhdpggnmipaa", sum := "9defcca97ac9ba7627f332aced9bdecc65cfa1ec92b52932cc3e519ab8f6827d", func := "pub-ensign/laws.FnAlone", spec := "fnAlone", unfollowed := true, recurses := true, apart := false, narrowed := true }
def FnAloneUptoSaid : Prop := fnAloneUptoRow.holds Try.pinned (OpenSpec.upto fnAloneSpec)

/-- 'laws.FnCluster', WHERE WHAT IT READS IS OF BULK AT MOST 1048576: true; the input reads as it did. -/
def fnClusterUptoRow : OpenClaim := { program := "ytgmhhdpggnmipaa", sum := "9defcca97ac9ba7627f332aced9bdecc65cfa1ec92b52932cc3e519ab8f6827d", func := "pub-ensign/laws.FnCluster", spec := "fnCluster", unfollowed := true, recurses := true, apart := false, narrowed := true }
def FnClusterUptoSaid : Prop := fnClusterUptoRow.holds Try.pinned (OpenSpec.upto fnClusterSpec)

/-- 'laws.FnEquals', WHERE WHAT IT READS IS OF BULK AT MOST 1048576: true; the input reads as it did. -/
def fnEqualsUptoRow : OpenClaim := { program := "ytgmhhdpggnmipaa", sum := "9defcca97ac9ba7627f332aced9bdecc65cfa1ec92b52932cc3e519ab8f6827d", func := "pub-ensign/laws.FnEquals", spec := "fnEquals", unfollowed := true, recurses := true, apart := false, narrowed := true }
def FnEqualsUptoSaid : Prop := fnEqualsUptoRow.holds Try.pinned (OpenSpec.upto fnEqualsSpec)

/-- 'laws.FnFold', WHERE WHAT IT READS IS OF BULK AT MOST 1048576: true; the input reads as it did. -/
def fnFoldUptoRow : OpenClaim := { program := "ytgmhhdpggnmipaa", sum := "9defcca97ac9ba7627f332aced9bdecc65cfa1ec92b52932cc3e519ab8f6827d", func := "pub-ensign/laws.FnFold", spec := "fnFold", unfollowed := true, recurses := true, apart := false, narrowed := true }
def FnFoldUptoSaid : Prop := fnFoldUptoRow.holds Try.pinned (OpenSpec.upto fnFoldSpec)

/-- 'laws.FnPlain', WHERE WHAT IT READS IS OF BULK AT MOST 1048576: true; the input reads as it did. -/
def fnPlainUptoRow : OpenClaim := { program := "ytgmhhdpggnmipaa", sum := "9defcca97ac9ba7627f332aced9bdecc65cfa1ec92b52932cc3e519ab8f6827d", func := "pub-ensign/laws.FnPlain", spec := "fnPlain", unfollowed := true, recurses := true, apart := false, narrowed := true }
def FnPlainUptoSaid : Prop := fnPlainUptoRow.holds Try.pinned (OpenSpec.upto fnPlainSpec)

/-- 'laws.FnTail', WHERE WHAT IT READS IS OF BULK AT MOST 1048576: true; the input reads as it did. -/
def fnTailUptoRow : OpenClaim := { program := "ytgmhhdpggnmipaa", sum := "9defcca97ac9ba7627f332aced9bdecc65cfa1ec92b52932cc3e519ab8f6827d", func := "pub-ensign/laws.FnTail", spec := "fnTail", unfollowed := true, recurses := true, apart := false, narrowed := true }
def FnTailUptoSaid : Prop := fnTailUptoRow.holds Try.pinned (OpenSpec.upto fnTailSpec)

/-- 'laws.FnUnknown', WHERE WHAT IT READS IS OF BULK AT MOST 1048576: true; the input reads as it did. -/
def fnUnknownUptoRow : OpenClaim := { program := "ytgmhhdpggnmipaa", sum := "9defcca97ac9ba7627f332aced9bdecc65cfa1ec92b52932cc3e519ab8f6827d", func := "pub-ensign/laws.FnUnknown", spec := "fnUnknown", unfollowed := true, recurses := true, apart := false, narrowed := true }
def FnUnknownUptoSaid : Prop := fnUnknownUptoRow.holds Try.pinned (OpenSpec.upto fnUnknownSpec)

/-- 'laws.FnParses', WHERE WHAT IT READS IS OF BULK AT MOST 1048576: true; the input reads as it did. -/
def fnParsesUptoRow : OpenClaim := { program := "ytgmhhdpggnmipaa", sum := "9defcca97ac9ba7627f332aced9bdecc65cfa1ec92b52932cc3e519ab8f6827d", func := "pub-ensign/laws.FnParses", spec := "fnParses", unfollowed := true, recurses := true, apart := false, narrowed := true }
def FnParsesUptoSaid : Prop := fnParsesUptoRow.holds Try.pinned (OpenSpec.upto fnParsesSpec)

/-- 'laws.FnHanded', WHERE WHAT IT READS IS OF BULK AT MOST 1048576: true; the input reads as it did. -/
def fnHandedUptoRow : OpenClaim := { program := "ytgmhhdpggnmipaa", sum := "9defcca97ac9ba7627f332aced9bdecc65cfa1ec92b52932cc3e519ab8f6827d", func := "pub-ensign/laws.FnHanded", spec := "fnHanded", unfollowed := true, recurses := true, apart := false, narrowed := true }
def FnHandedUptoSaid : Prop := fnHandedUptoRow.holds Try.pinned (OpenSpec.upto fnHandedSpec)

/-- 'laws.FnWrapKeeps', WHERE WHAT IT READS IS OF BULK AT MOST 1048576: true; the input reads as it did. -/
def fnWrapKeepsUptoRow : OpenClaim := { program := "ytgmhhdpggnmipaa", sum := "9defcca97ac9ba7627f332aced9bdecc65cfa1ec92b52932cc3e519ab8f6827d", func := "pub-ensign/laws.FnWrapKeeps", spec := "fnWrapKeeps", inPlace := ["internal/abi.NoEscape", "internal/bytealg.MakeNoZero"], unfollowed := true, recurses := true, apart := false, narrowed := true }
def FnWrapKeepsUptoSaid : Prop := fnWrapKeepsUptoRow.holds Try.pinned (OpenSpec.upto fnWrapKeepsSpec)

end Rows
end Go.Proofs.Ytgmhhdpggnmipaa
