/- Walks of functions that the laws of this seat reach. No statement of the seat stands here. -/
import Derived.Test.YtoopklfabccmnaaDoorL3
import Derived.Test.YtoopklfabccmnaaDoorRows
import Derived.Test.YtoopklfabccmnaaDoorFa
import Derived.Test.YtoopklfabccmnaaDoorRg
namespace Go.Proofs.YtoopklfabccmnaaDoor
open Go Go.Mk
end Go.Proofs.YtoopklfabccmnaaDoor
