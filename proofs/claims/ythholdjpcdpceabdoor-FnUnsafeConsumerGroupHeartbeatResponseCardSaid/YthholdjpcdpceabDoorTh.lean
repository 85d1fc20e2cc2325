/- Walks of functions that the laws of this seat reach. No statement of the seat stands here. -/
import Derived.Test.YthholdjpcdpceabDoorL3
import Derived.Test.YthholdjpcdpceabDoorRows
import Derived.Test.YthholdjpcdpceabDoorFa
namespace Go.Proofs.YthholdjpcdpceabDoor
open Go Go.Mk
end Go.Proofs.YthholdjpcdpceabDoor
