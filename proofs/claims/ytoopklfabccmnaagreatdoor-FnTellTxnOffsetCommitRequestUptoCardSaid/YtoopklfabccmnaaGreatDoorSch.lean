/- Walks of functions that the laws of this seat reach. No statement of the seat stands here. -/
import Derived.Test.YtoopklfabccmnaaGreatDoorL3
import Derived.Test.YtoopklfabccmnaaGreatDoorRows
import Derived.Test.YtoopklfabccmnaaGreatDoorFa
namespace Go.Proofs.YtoopklfabccmnaaGreatDoor
open Go Go.Mk
def sch_sOffsetCommitRequestTopicPartition : List Fld := [.mk 3 0 (-1) (-1) (-1) 0 0 [], .mk 4 0 (-1) (-1) (-1) 0 0 [], .mk 4 1 1 (-1) (-1) (-1) 0 [], .mk 3 6 (-1) (-1) (-1) (-1) 0 [], .mk 8 0 (-1) 0 (-1) 0 0 []]
def sch_sOffsetCommitRequestTopic : List Fld := [.mk 8 0 9 (-1) (-1) 0 0 [], .mk 7 10 (-1) (-1) (-1) 0 0 [], .mk 11 0 (-1) (-1) (-1) 0 10 sch_sOffsetCommitRequestTopicPartition]
def sch_OffsetCommitRequest : List Fld := [.mk 8 0 (-1) (-1) (-1) 0 0 [], .mk 3 1 (-1) (-1) (-1) (-1) 0 [], .mk 8 1 (-1) (-1) (-1) 0 0 [], .mk 8 7 (-1) 7 (-1) 0 0 [], .mk 4 2 4 (-1) (-1) (-1) 0 [], .mk 11 0 (-1) (-1) (-1) 0 10 sch_sOffsetCommitRequestTopic]
def sch_sTxnOffsetCommitRequestTopicPartition : List Fld := [.mk 3 0 (-1) (-1) (-1) 0 0 [], .mk 4 0 (-1) (-1) (-1) 0 0 [], .mk 3 2 (-1) (-1) (-1) (-1) 0 [], .mk 8 0 (-1) 0 (-1) 0 0 []]
def sch_sTxnOffsetCommitRequestTopic : List Fld := [.mk 8 0 5 (-1) (-1) 0 0 [], .mk 7 6 (-1) (-1) (-1) 0 0 [], .mk 11 0 (-1) (-1) (-1) 0 10 sch_sTxnOffsetCommitRequestTopicPartition]
def sch_TxnOffsetCommitRequest : List Fld := [.mk 8 0 (-1) (-1) (-1) 0 0 [], .mk 8 0 (-1) (-1) (-1) 0 0 [], .mk 4 0 (-1) (-1) (-1) 0 0 [], .mk 2 0 (-1) (-1) (-1) 0 0 [], .mk 3 3 (-1) (-1) (-1) (-1) 0 [], .mk 8 3 (-1) (-1) (-1) 0 0 [], .mk 8 3 (-1) 3 (-1) 0 0 [], .mk 11 0 (-1) (-1) (-1) 0 10 sch_sTxnOffsetCommitRequestTopic]
end Go.Proofs.YtoopklfabccmnaaGreatDoor
