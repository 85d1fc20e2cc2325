/- Walks of functions that the laws of this seat reach. No statement of the seat stands here. -/
import Derived.Test.YthblgheenamnhaaGreatDoorRL4
import Derived.WalkKit
import Derived.ProofKit
import Derived.OpenShut
import Derived.Deep.DeepHandedRow
import Derived.Lib.LaidTab
import Derived.Stop.LaidErr
import Derived.SevenTiedAt
import Derived.MakeChecks
import Derived.Test.YthblgheenamnhaaGreatDoorRRows
import Derived.Test.YthblgheenamnhaaGreatDoorRFa
namespace Go.Proofs.YthblgheenamnhaaGreatDoorR
open Go Go.Mk
theorem goes:false = Rows.fnFrameProduceRequestUptoRow.goesBy Tryz.pinned.checked.prog:=by kernel_rfl
end Go.Proofs.YthblgheenamnhaaGreatDoorR
