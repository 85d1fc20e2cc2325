/- Walks of functions that the laws of this seat reach. No statement of the seat stands here. -/
import Derived.Test.YtoopklfabccmnaaGreatDoorL4
import Derived.WalkKit
import Derived.ProofKit
import Derived.OpenShut
import Derived.Deep.DeepHandedRow
import Derived.Lib.LaidTab
import Derived.Stop.LaidErr
import Derived.SevenTiedAt
import Derived.MakeChecks
import Derived.Test.YtoopklfabccmnaaGreatDoorRows
import Derived.Test.YtoopklfabccmnaaGreatDoorFa
namespace Go.Proofs.YtoopklfabccmnaaGreatDoor
open Go Go.Mk
theorem mains : Tryz.pinned.checked.prog.mainIs = some (true, ("ececd73a0e2e05fcba0607d475bbb4ad2391970206a51bee5bc2639215cbf3a3" : String).toList) := by kernel_rfl
end Go.Proofs.YtoopklfabccmnaaGreatDoor
