/- Walks of functions that the seat's laws reach. -/
import Derived.Test.YtipgdlbbmlnfiaaGreatDoorL4
import Derived.WalkKit
import Derived.ProofKit
import Derived.OpenShut
import Derived.Deep.DeepHandedRow
import Derived.Lib.LaidTab
import Derived.Stop.LaidErr
import Derived.SevenTiedAt
import Derived.MakeChecks
import Derived.Test.YtipgdlbbmlnfiaaGreatDoorRows
import Derived.Test.YtipgdlbbmlnfiaaGreatDoorFa
namespace Go.Proofs.YtipgdlbbmlnfiaaGreatDoor
open Go Go.Mk
theorem mains : Tryz.pinned.checked.prog.mainIs = some (true, ("1927290a2253d7435a2ad3abb6a7c8d00e9e9394451682008fd73093163ee40f" : String).toList) := by kernel_rfl
end Go.Proofs.YtipgdlbbmlnfiaaGreatDoor
