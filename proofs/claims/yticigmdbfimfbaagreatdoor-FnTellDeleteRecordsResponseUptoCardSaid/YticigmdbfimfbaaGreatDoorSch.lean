/- Walks of functions that the laws of this seat reach. No statement of the seat stands here. -/
import Derived.Test.YticigmdbfimfbaaGreatDoorL3
import Derived.Test.YticigmdbfimfbaaGreatDoorRows
import Derived.Test.YticigmdbfimfbaaGreatDoorFa
namespace Go.Proofs.YticigmdbfimfbaaGreatDoor
open Go Go.Mk
def sch_HeartbeatRequest : List Fld := [.mk 8 0 (-1) (-1) (-1) 0 0 [], .mk 3 0 (-1) (-1) (-1) 0 0 [], .mk 8 0 (-1) (-1) (-1) 0 0 [], .mk 8 3 (-1) 3 (-1) 0 0 []]
def sch_sStopReplicaResponsePartition : List Fld := [.mk 8 0 (-1) (-1) (-1) 0 0 [], .mk 3 0 (-1) (-1) (-1) 0 0 [], .mk 2 0 (-1) (-1) (-1) 0 0 []]
def sch_StopReplicaResponse : List Fld := [.mk 2 0 (-1) (-1) (-1) 0 0 [], .mk 11 0 (-1) (-1) (-1) 0 10 sch_sStopReplicaResponsePartition]
def sch_SASLAuthenticateResponse : List Fld := [.mk 2 0 (-1) (-1) (-1) 0 0 [], .mk 8 0 (-1) 0 (-1) 0 0 [], .mk 9 0 (-1) (-1) (-1) 0 0 [], .mk 4 1 (-1) (-1) (-1) 0 0 []]
def sch_sDescribeProducersRequestTopic : List Fld := [.mk 8 0 (-1) (-1) (-1) 0 0 [], .mk 11 0 (-1) (-1) (-1) 0 3 []]
def sch_DescribeProducersRequest : List Fld := [.mk 11 0 (-1) (-1) (-1) 0 10 sch_sDescribeProducersRequestTopic]
def sch_sUpdateFeaturesRequestFeatureUpdate : List Fld := [.mk 8 0 (-1) (-1) (-1) 0 0 [], .mk 2 0 (-1) (-1) (-1) 0 0 [], .mk 0 0 0 (-1) (-1) 0 0 [], .mk 1 1 (-1) (-1) (-1) 0 0 []]
def sch_UpdateFeaturesRequest : List Fld := [.mk 3 0 (-1) (-1) (-1) 60000 0 [], .mk 11 0 (-1) (-1) (-1) 0 10 sch_sUpdateFeaturesRequestFeatureUpdate, .mk 0 1 (-1) (-1) (-1) 0 0 []]
def sch_sOffsetForLeaderEpochRequestTopicPartition : List Fld := [.mk 3 0 (-1) (-1) (-1) 0 0 [], .mk 3 2 (-1) (-1) (-1) (-1) 0 [], .mk 3 0 (-1) (-1) (-1) 0 0 []]
def sch_sOffsetForLeaderEpochRequestTopic : List Fld := [.mk 8 0 (-1) (-1) (-1) 0 0 [], .mk 11 0 (-1) (-1) (-1) 0 10 sch_sOffsetForLeaderEpochRequestTopicPartition]
def sch_OffsetForLeaderEpochRequest : List Fld := [.mk 3 3 (-1) (-1) (-1) (-2) 0 [], .mk 11 0 (-1) (-1) (-1) 0 10 sch_sOffsetForLeaderEpochRequestTopic]
def sch_sDeleteRecordsResponseTopicPartition : List Fld := [.mk 3 0 (-1) (-1) (-1) 0 0 [], .mk 4 0 (-1) (-1) (-1) 0 0 [], .mk 2 0 (-1) (-1) (-1) 0 0 []]
def sch_sDeleteRecordsResponseTopic : List Fld := [.mk 8 0 (-1) (-1) (-1) 0 0 [], .mk 11 0 (-1) (-1) (-1) 0 10 sch_sDeleteRecordsResponseTopicPartition]
def sch_DeleteRecordsResponse : List Fld := [.mk 3 0 (-1) (-1) (-1) 0 0 [], .mk 11 0 (-1) (-1) (-1) 0 10 sch_sDeleteRecordsResponseTopic]
end Go.Proofs.YticigmdbfimfbaaGreatDoor
