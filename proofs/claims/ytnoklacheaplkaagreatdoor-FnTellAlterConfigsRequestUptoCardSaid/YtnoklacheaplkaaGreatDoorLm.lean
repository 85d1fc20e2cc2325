/- Walks of functions that the laws of this seat reach. No statement of the seat stands here. -/
import Derived.Test.YtnoklacheaplkaaGreatDoorL3
import Derived.WalkKit
import Derived.ProofKit
import Derived.OpenShut
import Derived.Deep.DeepHandedRow
import Derived.Lib.LaidTab
import Derived.Stop.LaidErr
import Derived.SevenTiedAt
import Derived.MakeChecks
import Derived.Test.YtnoklacheaplkaaGreatDoorRows
import Derived.Test.YtnoklacheaplkaaGreatDoorFa
namespace Go.Proofs.YtnoklacheaplkaaGreatDoor
open Go Go.Mk
theorem mains : Tryz.pinned.checked.prog.mainIs = some (true, ("3271606e3dbba7bc31cc4720a70adcc83f44a3430ce90d3a63a573ddd3ced8f2" : String).toList) := by kernel_rfl
end Go.Proofs.YtnoklacheaplkaaGreatDoor
