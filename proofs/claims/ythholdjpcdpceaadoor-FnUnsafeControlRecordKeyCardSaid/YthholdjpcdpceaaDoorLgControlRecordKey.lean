/- Walks of functions that the laws of this seat reach. No statement of the seat stands here. -/
import Derived.Test.YthholdjpcdpceaaDoorL3
import Derived.WalkKit
import Derived.ProofKit
import Derived.OpenShut
import Derived.Deep.DeepHandedRow
import Derived.Lib.LaidTab
import Derived.Stop.LaidErr
import Derived.SevenTiedAt
import Derived.MakeChecks
import Derived.Test.YthholdjpcdpceaaDoorRows
import Derived.Test.YthholdjpcdpceaaDoorFa
namespace Go.Proofs.YthholdjpcdpceaaDoor
open Go Go.Mk
theorem goes : false = Rows.fnUnsafeControlRecordKeyRow.goesBy Tryd.pinned.checked.prog := by kernel_rfl
end Go.Proofs.YthholdjpcdpceaaDoor
