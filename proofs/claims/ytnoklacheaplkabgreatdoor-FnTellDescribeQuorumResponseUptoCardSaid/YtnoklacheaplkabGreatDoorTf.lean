/- Walks of functions that the laws of this seat reach. No statement of the seat stands here. -/
import Derived.Test.YtnoklacheaplkabGreatDoorL3
import Derived.Test.YtnoklacheaplkabGreatDoorRows
import Derived.Test.YtnoklacheaplkabGreatDoorFa
namespace Go.Proofs.YtnoklacheaplkabGreatDoor
open Go Go.Mk
end Go.Proofs.YtnoklacheaplkabGreatDoor
