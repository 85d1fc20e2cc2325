/- Walks of functions that the laws of this seat reach. No statement of the seat stands here. -/
import Derived.Test.YtoopklfabccmnaaGreatDoorL3
import Derived.Test.YtoopklfabccmnaaGreatDoorRows
import Derived.Test.YtoopklfabccmnaaGreatDoorFa
namespace Go.Proofs.YtoopklfabccmnaaGreatDoor
open Go Go.Mk
def sch_sShareFetchResponseTopicPartitionCurrentLeader:List Fld:=[.mk 3 0 (-1) (-1) (-1) 0 0 [],.mk 3 0 (-1) (-1) (-1) 0 0 []]
def sch_sShareFetchResponseTopicPartitionAcquiredRecord:List Fld:=[.mk 4 0 (-1) (-1) (-1) 0 0 [],.mk 4 0 (-1) (-1) (-1) 0 0 [],.mk 2 0 (-1) (-1) (-1) 0 0 []]
def sch_sShareFetchResponseTopicPartition:List Fld:=[.mk 3 0 (-1) (-1) (-1) 0 0 [],.mk 2 0 (-1) (-1) (-1) 0 0 [],.mk 8 0 (-1) 0 (-1) 0 0 [],.mk 2 0 (-1) (-1) (-1) 0 0 [],.mk 8 0 (-1) 0 (-1) 0 0 [],.mk 10 0 (-1) (-1) (-1) 0 0 sch_sShareFetchResponseTopicPartitionCurrentLeader,.mk 9 0 (-1) (-1) (-1) 0 0 [],.mk 11 0 (-1) (-1) (-1) 0 10 sch_sShareFetchResponseTopicPartitionAcquiredRecord]
def sch_sShareFetchResponseTopic:List Fld:=[.mk 7 0 (-1) (-1) (-1) 0 0 [],.mk 11 0 (-1) (-1) (-1) 0 10 sch_sShareFetchResponseTopicPartition]
def sch_sShareFetchResponseNodeEndpoint:List Fld:=[.mk 3 0 (-1) (-1) (-1) 0 0 [],.mk 8 0 (-1) (-1) (-1) 0 0 [],.mk 3 0 (-1) (-1) (-1) 0 0 [],.mk 8 0 (-1) 0 (-1) 0 0 []]
def sch_ShareFetchResponse:List Fld:=[.mk 3 0 (-1) (-1) (-1) 0 0 [],.mk 2 0 (-1) (-1) (-1) 0 0 [],.mk 8 0 (-1) 0 (-1) 0 0 [],.mk 3 1 (-1) (-1) (-1) 0 0 [],.mk 11 0 (-1) (-1) (-1) 0 10 sch_sShareFetchResponseTopic,.mk 11 0 (-1) (-1) (-1) 0 10 sch_sShareFetchResponseNodeEndpoint]
def schR_sShareFetchResponseTopicPartition:List Fld:=[.mk 3 0 (-1) (-1) (-1) 0 0 [],.mk 2 0 (-1) (-1) (-1) 0 0 [],.mk 8 0 (-1) 0 (-1) 0 0 [],.mk 2 0 (-1) (-1) (-1) 0 0 [],.mk 8 0 (-1) 0 (-1) 0 0 [],.mk 10 0 (-1) (-1) (-1) 0 0 sch_sShareFetchResponseTopicPartitionCurrentLeader,.mk 9 0 (-1) (-1) (-1) 0 1 [],.mk 11 0 (-1) (-1) (-1) 0 10 sch_sShareFetchResponseTopicPartitionAcquiredRecord]
def schR_sShareFetchResponseTopic:List Fld:=[.mk 7 0 (-1) (-1) (-1) 0 0 [],.mk 11 0 (-1) (-1) (-1) 0 10 schR_sShareFetchResponseTopicPartition]
def schR_ShareFetchResponse:List Fld:=[.mk 3 0 (-1) (-1) (-1) 0 0 [],.mk 2 0 (-1) (-1) (-1) 0 0 [],.mk 8 0 (-1) 0 (-1) 0 0 [],.mk 3 1 (-1) (-1) (-1) 0 0 [],.mk 11 0 (-1) (-1) (-1) 0 10 schR_sShareFetchResponseTopic,.mk 11 0 (-1) (-1) (-1) 0 10 sch_sShareFetchResponseNodeEndpoint]
end Go.Proofs.YtoopklfabccmnaaGreatDoor
