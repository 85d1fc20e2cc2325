/- Walks of functions that the laws of this seat reach. No statement of the seat stands here. -/
import Derived.Test.YtnoklacheaplkaaGreatDoorL3
import Derived.Test.YtnoklacheaplkaaGreatDoorRows
import Derived.Test.YtnoklacheaplkaaGreatDoorFa
namespace Go.Proofs.YtnoklacheaplkaaGreatDoor
open Go Go.Mk
end Go.Proofs.YtnoklacheaplkaaGreatDoor
