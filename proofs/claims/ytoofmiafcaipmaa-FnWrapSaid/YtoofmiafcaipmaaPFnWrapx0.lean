-- PRINTED BY print.sh 35421559b90ae4d0a3588c463048766b98c2df88dd9212a6774a882060cdf62d: not written by this session
import Derived.Test.YtoofmiafcaipmaaProg
import Derived.Below
import Derived.Deep.Draws
import Derived.Deep.AppendLies
import Derived.Maps.AppendAt
import Derived.OwnWalk
import Derived.Laws.BytesArg
import Derived.Laws.MakeOwn
import Derived.Laws.OwnMore
import Derived.Deep.OwnRows
import Derived.Tactics
import Derived.Lib.ConvBytes
import Derived.Laws.Slices
import Derived.WalkKit
import Derived.KernelRfl
import Derived.RowKit3
import Derived.Deep.LoopGhost
import Derived.Deep.QuietTactic
import Derived.BigQuiet
import Derived.WideLaws
import Derived.Deep.DeepCutAuto
import Derived.Deep.CutBlock
import Derived.Deep.RegionHeld3
import Derived.Laws.Rows
import Derived.Lib.AppendStr
import Derived.ArgAppend
import Derived.Laws.IdiomCopy
import Derived.OrdersHeld
import Derived.Laws.BitsLemmas
import Derived.RowKit
import Derived.Test.YtoofmiafcaipmaaWWords
import Derived.Test.YtoofmiafcaipmaaWLast
import Derived.Test.YtoofmiafcaipmaaWTab
import Derived.Test.YtoofmiafcaipmaaWFour
import Derived.Test.YtoofmiafcaipmaaWQPut
import Derived.Test.YtoofmiafcaipmaaWApart
import Derived.Test.YtoofmiafcaipmaaWArr
import Derived.Test.YtoofmiafcaipmaaWZeros
import Derived.Test.YtoofmiafcaipmaaWFoot
import Derived.Test.YtoofmiafcaipmaaWKept
import Derived.Test.YtoofmiafcaipmaaWShare
import Derived.Test.YtoofmiafcaipmaaWN
import Derived.Test.YtoofmiafcaipmaaWFootNe
import Derived.Test.YtoofmiafcaipmaaWAt
import Derived.Test.YtoofmiafcaipmaaWEqStruct
import Derived.Test.YtoofmiafcaipmaaWRepsOne
import Derived.Test.YtoofmiafcaipmaaWInv
import Derived.Test.YtoofmiafcaipmaaWInvWords
import Derived.Test.YtoofmiafcaipmaaWGuard
import Derived.Test.YtoofmiafcaipmaaWNEv
import Derived.Test.YtoofmiafcaipmaaWMore
namespace Go.Proofs.Ytoofmiafcaipmaa.PFnWrap
open Go.RowKit Go.Proofs.YtoofmiafcaipmaaW.PrintWords Go.Proofs.YtoofmiafcaipmaaW.PrintLast Go.Proofs.YtoofmiafcaipmaaW.PrintMore
attribute [local go_sem] max2_int min2_int max_two min_two max_three min_three max_four min_four   -- for this text's walks alone
set_option linter.unusedVariables false
set_option linter.unusedSimpArgs false



def errW : Option Int → Value
  | none => .nilIface
  | some c => .iface 0 (.int .i64 c)
theorem errW_none : errW none = .nilIface := rfl
theorem errW_some (c : Int) : errW (some c) = .iface 0 (.int .i64 c) := rfl

theorem info5 : (Try.prog.info? 5).map (fun i => (i.zero, i.size, i.bytes)) = some (some (.int .u8 0), 1, 1) := by kernel_rfl
-- the values' own types

end Go.Proofs.Ytoofmiafcaipmaa.PFnWrap
