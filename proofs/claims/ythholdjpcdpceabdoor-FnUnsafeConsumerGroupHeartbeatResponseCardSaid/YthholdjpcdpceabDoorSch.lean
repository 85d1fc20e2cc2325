/- Walks of functions that the laws of this seat reach. No statement of the seat stands here. -/
import Derived.Test.YthholdjpcdpceabDoorL3
import Derived.Test.YthholdjpcdpceabDoorRows
import Derived.Test.YthholdjpcdpceabDoorFa
namespace Go.Proofs.YthholdjpcdpceabDoor
open Go Go.Mk
def sch_sConsumerGroupHeartbeatResponseAssignmentTopic : List Fld := [.mk 7 0 (-1) (-1) (-1) 0 0 [], .mk 11 0 (-1) (-1) (-1) 0 3 []]
def sch_sConsumerGroupHeartbeatResponseAssignment : List Fld := [.mk 11 0 (-1) (-1) (-1) 0 10 sch_sConsumerGroupHeartbeatResponseAssignmentTopic]
def sch_ConsumerGroupHeartbeatResponse : List Fld := [.mk 3 0 (-1) (-1) (-1) 0 0 [], .mk 2 0 (-1) (-1) (-1) 0 0 [], .mk 8 0 (-1) 0 (-1) 0 0 [], .mk 8 0 (-1) 0 (-1) 0 0 [], .mk 3 0 (-1) (-1) (-1) 0 0 [], .mk 3 0 (-1) (-1) (-1) 0 0 [], .mk 10 0 (-1) 0 (-1) 0 0 sch_sConsumerGroupHeartbeatResponseAssignment]
end Go.Proofs.YthholdjpcdpceabDoor
