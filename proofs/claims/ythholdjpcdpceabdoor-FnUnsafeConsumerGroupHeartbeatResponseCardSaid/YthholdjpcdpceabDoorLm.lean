/- Walks of functions that the laws of this seat reach. No statement of the seat stands here. -/
import Derived.Test.YthholdjpcdpceabDoorL3
import Derived.WalkKit
import Derived.ProofKit
import Derived.OpenShut
import Derived.Deep.DeepHandedRow
import Derived.Lib.LaidTab
import Derived.Stop.LaidErr
import Derived.SevenTiedAt
import Derived.MakeChecks
import Derived.Test.YthholdjpcdpceabDoorRows
import Derived.Test.YthholdjpcdpceabDoorFa
namespace Go.Proofs.YthholdjpcdpceabDoor
open Go Go.Mk
theorem mains : Tryd.pinned.checked.prog.mainIs = some (true, ("86b73689e45970735fdb8a1464f4df89636ecce53a8a5ca491958521f6bd0198" : String).toList) := by kernel_rfl
end Go.Proofs.YthholdjpcdpceabDoor
