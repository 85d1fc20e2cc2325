/- Walks of functions that the laws of this seat reach. No statement of the seat stands here. -/
import Derived.Test.YthholdjpcdpceaaDoorL3
import Derived.WalkKit
import Derived.ProofKit
import Derived.OpenShut
import Derived.Deep.DeepHandedRow
import Derived.Lib.LaidTab
import Derived.Stop.LaidErr
import Derived.SevenTiedAt
import Derived.MakeChecks
import Derived.Test.YthholdjpcdpceaaDoorRows
import Derived.Test.YthholdjpcdpceaaDoorFa
namespace Go.Proofs.YthholdjpcdpceaaDoor
open Go Go.Mk
theorem mains : Tryd.pinned.checked.prog.mainIs = some (true, ("edc7c07976ab63e82d2953dc2fadc578e8a18fea734cea098033c2ba95908246" : String).toList) := by kernel_rfl
end Go.Proofs.YthholdjpcdpceaaDoor
