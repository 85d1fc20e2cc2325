/- Walks of functions that the laws of this seat reach. No statement of the seat stands here. -/
import Derived.Test.YtbljeefficdemaaMkOpen
import Derived.Test.YtbljeefficdemaaRows
import Derived.Test.YtbljeefficdemaaFa
namespace Go.Proofs.Ytbljeefficdemaa
open Go Go.Mk
def sch_sOffsetDeleteResponseTopicPartition : List Fld := [.mk 3 0 (-1) (-1) (-1) 0 0 [], .mk 2 0 (-1) (-1) (-1) 0 0 []]
def sch_sOffsetDeleteResponseTopic : List Fld := [.mk 8 0 (-1) (-1) (-1) 0 0 [], .mk 11 0 (-1) (-1) (-1) 0 10 sch_sOffsetDeleteResponseTopicPartition]
def sch_OffsetDeleteResponse : List Fld := [.mk 2 0 (-1) (-1) (-1) 0 0 [], .mk 3 0 (-1) (-1) (-1) 0 0 [], .mk 11 0 (-1) (-1) (-1) 0 10 sch_sOffsetDeleteResponseTopic]
def sch_sConnectMemberAssignmentAssignment : List Fld := [.mk 8 0 (-1) (-1) (-1) 0 0 [], .mk 11 0 (-1) (-1) (-1) 0 2 []]
def sch_sConnectMemberAssignmentRevoked : List Fld := [.mk 8 0 (-1) (-1) (-1) 0 0 [], .mk 11 0 (-1) (-1) (-1) 0 2 []]
def sch_ConnectMemberAssignment : List Fld := [.mk 2 0 (-1) (-1) (-1) 0 0 [], .mk 8 0 (-1) (-1) (-1) 0 0 [], .mk 8 0 (-1) (-1) (-1) 0 0 [], .mk 4 0 (-1) (-1) (-1) 0 0 [], .mk 11 0 (-1) (-1) (-1) 0 10 sch_sConnectMemberAssignmentAssignment, .mk 11 1 (-1) (-1) (-1) 0 10 sch_sConnectMemberAssignmentRevoked, .mk 3 1 (-1) (-1) (-1) 0 0 []]
end Go.Proofs.Ytbljeefficdemaa
