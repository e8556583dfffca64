-- PRINTED BY print.sh 35421559b90ae4d0a3588c463048766b98c2df88dd9212a6774a882060cdf62d: not written by this session
import Derived.Test.YtdmpeecocfoocaaDoorProg
import Derived.Below
import Derived.Deep.Draws
import Derived.Deep.AppendLies
import Derived.Maps.AppendAt
import Derived.OwnWalk
import Derived.Laws.BytesArg
import Derived.Laws.MakeOwn
import Derived.Laws.OwnMore
import Derived.Deep.OwnRows
import Derived.Tactics
import Derived.Lib.ConvBytes
import Derived.Laws.Slices
import Derived.WalkKit
import Derived.KernelRfl
import Derived.RowKit3
import Derived.Deep.LoopGhost
import Derived.Deep.QuietTactic
import Derived.BigQuiet
import Derived.WideLaws
import Derived.Deep.DeepCutAuto
import Derived.Deep.CutBlock
import Derived.Deep.RegionHeld3
import Derived.Laws.Rows
import Derived.Lib.AppendStr
import Derived.ArgAppend
import Derived.Laws.IdiomCopy
import Derived.OrdersHeld
import Derived.Laws.BitsLemmas
import Derived.RowKit
import Derived.Test.YtdmpeecocfoocaaDoorWWords
import Derived.Test.YtdmpeecocfoocaaDoorWLast
import Derived.Test.YtdmpeecocfoocaaDoorWTab
import Derived.Test.YtdmpeecocfoocaaDoorWFour
import Derived.Test.YtdmpeecocfoocaaDoorWQPut
import Derived.Test.YtdmpeecocfoocaaDoorWApart
import Derived.Test.YtdmpeecocfoocaaDoorWArr
import Derived.Test.YtdmpeecocfoocaaDoorWZeros
import Derived.Test.YtdmpeecocfoocaaDoorWFoot
import Derived.Test.YtdmpeecocfoocaaDoorWKept
import Derived.Test.YtdmpeecocfoocaaDoorWShare
import Derived.Test.YtdmpeecocfoocaaDoorWN
import Derived.Test.YtdmpeecocfoocaaDoorWFootNe
import Derived.Test.YtdmpeecocfoocaaDoorWAt
import Derived.Test.YtdmpeecocfoocaaDoorWEqStruct
import Derived.Test.YtdmpeecocfoocaaDoorWRepsOne
import Derived.Test.YtdmpeecocfoocaaDoorWInv
import Derived.Test.YtdmpeecocfoocaaDoorWInvWords
import Derived.Test.YtdmpeecocfoocaaDoorWGuard
import Derived.Test.YtdmpeecocfoocaaDoorWNEv
import Derived.Test.YtdmpeecocfoocaaDoorWMore
namespace Go.Proofs.YtdmpeecocfoocaaDoor.PWhole
open Go.RowKit Go.Proofs.YtdmpeecocfoocaaDoorW.PrintWords Go.Proofs.YtdmpeecocfoocaaDoorW.PrintLast Go.Proofs.YtdmpeecocfoocaaDoorW.PrintMore
attribute [local go_sem] max2_int min2_int max_two min_two max_three min_three max_four min_four   -- for this text's walks alone
set_option linter.unusedVariables false
set_option linter.unusedSimpArgs false



def errW : Option Int → Value
  | none => .nilIface
  | some c => .iface 0 (.int .i64 c)
theorem errW_none : errW none = .nilIface := rfl
theorem errW_some (c : Int) : errW (some c) = .iface 0 (.int .i64 c) := rfl

theorem info5 : (Tryd.prog.info? 5).map (fun i => (i.zero, i.size, i.bytes)) = some (some (.int .u8 0), 1, 1) := by kernel_rfl
-- the values' own types

end Go.Proofs.YtdmpeecocfoocaaDoor.PWhole
