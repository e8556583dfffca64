/- laws.FnCastNarrow, whatever comes in. -/
import Derived.Test.YtbcknchbighieaaDoorNvL
import Derived.Test.YtbcknchbighieaaDoorOpenA
namespace Go.Proofs.YtbcknchbighieaaDoor.E
end Go.Proofs.YtbcknchbighieaaDoor.E
