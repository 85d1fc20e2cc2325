/- Walks of functions that the laws of this seat reach. No statement of the seat stands here. -/
import Derived.Test.YtoopklfabccmnaaDoorL3
import Derived.WalkKit
import Derived.ProofKit
import Derived.OpenShut
import Derived.Deep.DeepHandedRow
import Derived.Lib.LaidTab
import Derived.Stop.LaidErr
import Derived.SevenTiedAt
import Derived.MakeChecks
import Derived.Test.YtoopklfabccmnaaDoorRows
import Derived.Test.YtoopklfabccmnaaDoorFa
namespace Go.Proofs.YtoopklfabccmnaaDoor
open Go Go.Mk
theorem mains : Tryd.pinned.checked.prog.mainIs = some (true, ("38dbf0e56d74ddd6d94fe9869d6fa5e958ef4c9bee5b64abd675ef26d6329d77" : String).toList) := by kernel_rfl
end Go.Proofs.YtoopklfabccmnaaDoor
