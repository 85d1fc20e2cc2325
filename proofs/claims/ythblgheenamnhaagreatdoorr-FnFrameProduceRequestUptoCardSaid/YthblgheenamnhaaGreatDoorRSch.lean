/- Walks of functions that the laws of this seat reach. No statement of the seat stands here. -/
import Derived.Test.YthblgheenamnhaaGreatDoorRL2
import Derived.Test.YthblgheenamnhaaGreatDoorRRows
import Derived.Test.YthblgheenamnhaaGreatDoorRFa
namespace Go.Proofs.YthblgheenamnhaaGreatDoorR
open Go Go.Mk
def sch_sWriteShareGroupStateRequestTopicPartitionStateBatch:List Fld:=[.mk 4 0 (-1) (-1) (-1) 0 0 [],.mk 4 0 (-1) (-1) (-1) 0 0 [],.mk 1 0 (-1) (-1) (-1) 0 0 [],.mk 2 0 (-1) (-1) (-1) 0 0 []]
def sch_sWriteShareGroupStateRequestTopicPartition:List Fld:=[.mk 3 0 (-1) (-1) (-1) 0 0 [],.mk 3 0 (-1) (-1) (-1) 0 0 [],.mk 3 0 (-1) (-1) (-1) 0 0 [],.mk 4 0 (-1) (-1) (-1) 0 0 [],.mk 3 1 (-1) (-1) (-1) (-1) 0 [],.mk 11 0 (-1) (-1) (-1) 0 10 sch_sWriteShareGroupStateRequestTopicPartitionStateBatch]
def sch_sWriteShareGroupStateRequestTopic:List Fld:=[.mk 7 0 (-1) (-1) (-1) 0 0 [],.mk 11 0 (-1) (-1) (-1) 0 10 sch_sWriteShareGroupStateRequestTopicPartition]
def sch_WriteShareGroupStateRequest:List Fld:=[.mk 8 0 (-1) (-1) (-1) 0 0 [],.mk 11 0 (-1) (-1) (-1) 0 10 sch_sWriteShareGroupStateRequestTopic]
def sch_sJoinGroupRequestProtocol:List Fld:=[.mk 8 0 (-1) (-1) (-1) 0 0 [],.mk 9 0 (-1) (-1) (-1) 0 0 []]
def sch_JoinGroupRequest:List Fld:=[.mk 8 0 (-1) (-1) (-1) 0 0 [],.mk 3 0 (-1) (-1) (-1) 0 0 [],.mk 3 1 (-1) (-1) (-1) (-1) 0 [],.mk 8 0 (-1) (-1) (-1) 0 0 [],.mk 8 5 (-1) 5 (-1) 0 0 [],.mk 8 0 (-1) (-1) (-1) 0 0 [],.mk 11 0 (-1) (-1) (-1) 0 10 sch_sJoinGroupRequestProtocol,.mk 8 8 (-1) 8 (-1) 0 0 []]
def sch_sAlterShareGroupOffsetsRequestTopicPartition:List Fld:=[.mk 3 0 (-1) (-1) (-1) 0 0 [],.mk 4 0 (-1) (-1) (-1) 0 0 []]
def sch_sAlterShareGroupOffsetsRequestTopic:List Fld:=[.mk 8 0 (-1) (-1) (-1) 0 0 [],.mk 11 0 (-1) (-1) (-1) 0 10 sch_sAlterShareGroupOffsetsRequestTopicPartition]
def sch_AlterShareGroupOffsetsRequest:List Fld:=[.mk 8 0 (-1) (-1) (-1) 0 0 [],.mk 11 0 (-1) (-1) (-1) 0 10 sch_sAlterShareGroupOffsetsRequestTopic]
def sch_sProduceRequestTopicPartition:List Fld:=[.mk 3 0 (-1) (-1) (-1) 0 0 [],.mk 9 0 (-1) 0 (-1) 0 0 []]
def sch_sProduceRequestTopic:List Fld:=[.mk 8 0 12 (-1) (-1) 0 0 [],.mk 7 13 (-1) (-1) (-1) 0 0 [],.mk 11 0 (-1) (-1) (-1) 0 10 sch_sProduceRequestTopicPartition]
def sch_ProduceRequest:List Fld:=[.mk 8 3 (-1) 3 (-1) 0 0 [],.mk 2 0 (-1) (-1) (-1) 0 0 [],.mk 3 0 (-1) (-1) (-1) 15000 0 [],.mk 11 0 (-1) (-1) (-1) 0 10 sch_sProduceRequestTopic]
end Go.Proofs.YthblgheenamnhaaGreatDoorR
