/- Walks of functions that the laws of this seat reach. No statement of the seat stands here. -/
import Derived.Test.YthholdjpcdpceaaDoorL3
import Derived.Test.YthholdjpcdpceaaDoorRows
import Derived.Test.YthholdjpcdpceaaDoorFa
namespace Go.Proofs.YthholdjpcdpceaaDoor
open Go Go.Mk
def sch_DeleteGroupsRequest : List Fld := [.mk 11 0 (-1) (-1) (-1) 0 8 []]
def sch_sCreateACLsResponseResult : List Fld := [.mk 2 0 (-1) (-1) (-1) 0 0 [], .mk 8 0 (-1) 0 (-1) 0 0 []]
def sch_CreateACLsResponse : List Fld := [.mk 3 0 (-1) (-1) (-1) 0 0 [], .mk 11 0 (-1) (-1) (-1) 0 10 sch_sCreateACLsResponseResult]
def sch_sElectLeadersRequestTopic : List Fld := [.mk 8 0 (-1) (-1) (-1) 0 0 [], .mk 11 0 (-1) (-1) (-1) 0 3 []]
def sch_ElectLeadersRequest : List Fld := [.mk 1 1 (-1) (-1) (-1) 0 0 [], .mk 11 0 (-1) 0 (-1) 0 10 sch_sElectLeadersRequestTopic, .mk 3 0 (-1) (-1) (-1) 60000 0 []]
def sch_sDeleteShareGroupStateRequestTopicPartition : List Fld := [.mk 3 0 (-1) (-1) (-1) 0 0 []]
def sch_sDeleteShareGroupStateRequestTopic : List Fld := [.mk 7 0 (-1) (-1) (-1) 0 0 [], .mk 11 0 (-1) (-1) (-1) 0 10 sch_sDeleteShareGroupStateRequestTopicPartition]
def sch_DeleteShareGroupStateRequest : List Fld := [.mk 8 0 (-1) (-1) (-1) 0 0 [], .mk 11 0 (-1) (-1) (-1) 0 10 sch_sDeleteShareGroupStateRequestTopic]
def sch_ShareGroupHeartbeatRequest : List Fld := [.mk 8 0 (-1) (-1) (-1) 0 0 [], .mk 8 0 (-1) (-1) (-1) 0 0 [], .mk 3 0 (-1) (-1) (-1) 0 0 [], .mk 8 0 (-1) 0 (-1) 0 0 [], .mk 11 0 (-1) 0 (-1) 0 8 []]
end Go.Proofs.YthholdjpcdpceaaDoor
