/- Walks of functions that the laws of this seat reach. No statement of the seat stands here. -/
import Derived.Test.YthholdjpcdpceabDoorL3
import Derived.Test.YthholdjpcdpceabDoorRows
import Derived.Test.YthholdjpcdpceabDoorFa
namespace Go.Proofs.YthholdjpcdpceabDoor
open Go Go.Mk
def sch_sLeaderAndISRResponseTopicPartition : List Fld := [.mk 8 0 4 (-1) (-1) 0 0 [], .mk 3 0 (-1) (-1) (-1) 0 0 [], .mk 2 0 (-1) (-1) (-1) 0 0 []]
def sch_sLeaderAndISRResponseTopic : List Fld := [.mk 7 0 (-1) (-1) (-1) 0 0 [], .mk 11 0 (-1) (-1) (-1) 0 10 sch_sLeaderAndISRResponseTopicPartition]
def sch_LeaderAndISRResponse : List Fld := [.mk 2 0 (-1) (-1) (-1) 0 0 [], .mk 11 0 4 (-1) (-1) 0 10 sch_sLeaderAndISRResponseTopicPartition, .mk 11 5 (-1) (-1) (-1) 0 10 sch_sLeaderAndISRResponseTopic]
def sch_sAddRaftVoterRequestListener : List Fld := [.mk 8 0 (-1) (-1) (-1) 0 0 [], .mk 8 0 (-1) (-1) (-1) 0 0 [], .mk 5 0 (-1) (-1) (-1) 0 0 []]
def sch_AddRaftVoterRequest : List Fld := [.mk 8 0 (-1) 0 (-1) 0 0 [], .mk 3 0 (-1) (-1) (-1) 15000 0 [], .mk 3 0 (-1) (-1) (-1) 0 0 [], .mk 7 0 (-1) (-1) (-1) 0 0 [], .mk 11 0 (-1) (-1) (-1) 0 10 sch_sAddRaftVoterRequestListener, .mk 0 1 (-1) (-1) (-1) 1 0 []]
def sch_sControllerRegistrationRequestListener : List Fld := [.mk 8 0 (-1) (-1) (-1) 0 0 [], .mk 8 0 (-1) (-1) (-1) 0 0 [], .mk 5 0 (-1) (-1) (-1) 0 0 [], .mk 2 0 (-1) (-1) (-1) 0 0 []]
def sch_sControllerRegistrationRequestFeature : List Fld := [.mk 8 0 (-1) (-1) (-1) 0 0 [], .mk 2 0 (-1) (-1) (-1) 0 0 [], .mk 2 0 (-1) (-1) (-1) 0 0 []]
def sch_ControllerRegistrationRequest : List Fld := [.mk 3 0 (-1) (-1) (-1) 0 0 [], .mk 7 0 (-1) (-1) (-1) 0 0 [], .mk 0 0 (-1) (-1) (-1) 0 0 [], .mk 11 0 (-1) (-1) (-1) 0 10 sch_sControllerRegistrationRequestListener, .mk 11 0 (-1) (-1) (-1) 0 10 sch_sControllerRegistrationRequestFeature]
def sch_sShareAcknowledgeRequestTopicPartitionAcknowledgementBatch : List Fld := [.mk 4 0 (-1) (-1) (-1) 0 0 [], .mk 4 0 (-1) (-1) (-1) 0 0 [], .mk 11 0 (-1) (-1) (-1) 0 1 []]
def sch_sShareAcknowledgeRequestTopicPartition : List Fld := [.mk 3 0 (-1) (-1) (-1) 0 0 [], .mk 11 0 (-1) (-1) (-1) 0 10 sch_sShareAcknowledgeRequestTopicPartitionAcknowledgementBatch]
def sch_sShareAcknowledgeRequestTopic : List Fld := [.mk 7 0 (-1) (-1) (-1) 0 0 [], .mk 11 0 (-1) (-1) (-1) 0 10 sch_sShareAcknowledgeRequestTopicPartition]
def sch_ShareAcknowledgeRequest : List Fld := [.mk 8 0 (-1) 0 (-1) 0 0 [], .mk 8 0 (-1) 0 (-1) 0 0 [], .mk 3 0 (-1) (-1) (-1) 0 0 [], .mk 0 2 (-1) (-1) (-1) 0 0 [], .mk 11 0 (-1) (-1) (-1) 0 10 sch_sShareAcknowledgeRequestTopic]
end Go.Proofs.YthholdjpcdpceabDoor
