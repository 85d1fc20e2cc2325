/- Walks of functions that the laws of this seat reach. No statement of the seat stands here. -/
import Derived.Test.YtoopklfabccmnaaDoorL3
import Derived.Test.YtoopklfabccmnaaDoorRows
import Derived.Test.YtoopklfabccmnaaDoorFa
namespace Go.Proofs.YtoopklfabccmnaaDoor
open Go Go.Mk
def sch_sLeaderChangeMessageVoter : List Fld := [.mk 3 0 (-1) (-1) (-1) 0 0 [], .mk 7 1 (-1) (-1) (-1) 0 0 []]
def sch_LeaderChangeMessage : List Fld := [.mk 3 0 (-1) (-1) (-1) 0 0 [], .mk 11 0 (-1) (-1) (-1) 0 10 sch_sLeaderChangeMessageVoter, .mk 11 0 (-1) (-1) (-1) 0 10 sch_sLeaderChangeMessageVoter]
end Go.Proofs.YtoopklfabccmnaaDoor
