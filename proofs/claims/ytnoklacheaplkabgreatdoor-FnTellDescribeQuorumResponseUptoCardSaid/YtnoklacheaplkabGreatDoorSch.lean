/- Walks of functions that the laws of this seat reach. No statement of the seat stands here. -/
import Derived.Test.YtnoklacheaplkabGreatDoorL3
import Derived.Test.YtnoklacheaplkabGreatDoorRows
import Derived.Test.YtnoklacheaplkabGreatDoorFa
namespace Go.Proofs.YtnoklacheaplkabGreatDoor
open Go Go.Mk
def sch_sDescribeQuorumResponseTopicPartitionReplicaState : List Fld := [.mk 3 0 (-1) (-1) (-1) 0 0 [], .mk 7 2 (-1) (-1) (-1) 0 0 [], .mk 4 0 (-1) (-1) (-1) 0 0 [], .mk 4 1 (-1) (-1) (-1) (-1) 0 [], .mk 4 1 (-1) (-1) (-1) (-1) 0 []]
def sch_sDescribeQuorumResponseTopicPartition : List Fld := [.mk 3 0 (-1) (-1) (-1) 0 0 [], .mk 2 0 (-1) (-1) (-1) 0 0 [], .mk 8 2 (-1) 2 (-1) 0 0 [], .mk 3 0 (-1) (-1) (-1) 0 0 [], .mk 3 0 (-1) (-1) (-1) 0 0 [], .mk 4 0 (-1) (-1) (-1) 0 0 [], .mk 11 0 (-1) (-1) (-1) 0 10 sch_sDescribeQuorumResponseTopicPartitionReplicaState, .mk 11 0 (-1) (-1) (-1) 0 10 sch_sDescribeQuorumResponseTopicPartitionReplicaState]
def sch_sDescribeQuorumResponseTopic : List Fld := [.mk 8 0 (-1) (-1) (-1) 0 0 [], .mk 11 0 (-1) (-1) (-1) 0 10 sch_sDescribeQuorumResponseTopicPartition]
def sch_sDescribeQuorumResponseNodeListener : List Fld := [.mk 8 0 (-1) (-1) (-1) 0 0 [], .mk 8 0 (-1) (-1) (-1) 0 0 [], .mk 5 0 (-1) (-1) (-1) 0 0 []]
def sch_sDescribeQuorumResponseNode : List Fld := [.mk 3 0 (-1) (-1) (-1) 0 0 [], .mk 11 0 (-1) (-1) (-1) 0 10 sch_sDescribeQuorumResponseNodeListener]
def sch_DescribeQuorumResponse : List Fld := [.mk 2 0 (-1) (-1) (-1) 0 0 [], .mk 8 2 (-1) 2 (-1) 0 0 [], .mk 11 0 (-1) (-1) (-1) 0 10 sch_sDescribeQuorumResponseTopic, .mk 11 2 (-1) (-1) (-1) 0 10 sch_sDescribeQuorumResponseNode]
end Go.Proofs.YtnoklacheaplkabGreatDoor
