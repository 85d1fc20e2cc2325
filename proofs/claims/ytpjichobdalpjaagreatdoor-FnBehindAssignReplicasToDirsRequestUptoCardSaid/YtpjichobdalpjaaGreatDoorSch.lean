/- Walks of functions that the laws of this seat reach. No statement of the seat stands here. -/
import Derived.Test.YtpjichobdalpjaaGreatDoorL2
import Derived.Test.YtpjichobdalpjaaGreatDoorRows
import Derived.Test.YtpjichobdalpjaaGreatDoorFa
namespace Go.Proofs.YtpjichobdalpjaaGreatDoor
open Go Go.Mk
def sch_ConsumerGroupDescribeRequest : List Fld := [.mk 11 0 (-1) (-1) (-1) 0 8 [], .mk 0 0 (-1) (-1) (-1) 0 0 []]
def sch_sListPartitionReassignmentsRequestTopic : List Fld := [.mk 8 0 (-1) (-1) (-1) 0 0 [], .mk 11 0 (-1) (-1) (-1) 0 3 []]
def sch_ListPartitionReassignmentsRequest : List Fld := [.mk 3 0 (-1) (-1) (-1) 60000 0 [], .mk 11 0 (-1) 0 (-1) 0 10 sch_sListPartitionReassignmentsRequestTopic]
def sch_sAssignReplicasToDirsRequestDirectoryTopicPartition : List Fld := [.mk 3 0 (-1) (-1) (-1) 0 0 []]
def sch_sAssignReplicasToDirsRequestDirectoryTopic : List Fld := [.mk 7 0 (-1) (-1) (-1) 0 0 [], .mk 11 0 (-1) (-1) (-1) 0 10 sch_sAssignReplicasToDirsRequestDirectoryTopicPartition]
def sch_sAssignReplicasToDirsRequestDirectory : List Fld := [.mk 7 0 (-1) (-1) (-1) 0 0 [], .mk 11 0 (-1) (-1) (-1) 0 10 sch_sAssignReplicasToDirsRequestDirectoryTopic]
def sch_AssignReplicasToDirsRequest : List Fld := [.mk 3 0 (-1) (-1) (-1) 0 0 [], .mk 4 0 (-1) (-1) (-1) (-1) 0 [], .mk 11 0 (-1) (-1) (-1) 0 10 sch_sAssignReplicasToDirsRequestDirectory]
def sch_sListGroupsResponseGroup : List Fld := [.mk 8 0 (-1) (-1) (-1) 0 0 [], .mk 8 0 (-1) (-1) (-1) 0 0 [], .mk 8 4 (-1) (-1) (-1) 0 0 [], .mk 8 5 (-1) (-1) (-1) 0 0 []]
def sch_ListGroupsResponse : List Fld := [.mk 3 1 (-1) (-1) (-1) 0 0 [], .mk 2 0 (-1) (-1) (-1) 0 0 [], .mk 11 0 (-1) (-1) (-1) 0 10 sch_sListGroupsResponseGroup]
def sch_sCreatePartitionsRequestTopicAssignment : List Fld := [.mk 11 0 (-1) (-1) (-1) 0 3 []]
def sch_sCreatePartitionsRequestTopic : List Fld := [.mk 8 0 (-1) (-1) (-1) 0 0 [], .mk 3 0 (-1) (-1) (-1) 0 0 [], .mk 11 0 (-1) 0 (-1) 0 10 sch_sCreatePartitionsRequestTopicAssignment]
def sch_CreatePartitionsRequest : List Fld := [.mk 11 0 (-1) (-1) (-1) 0 10 sch_sCreatePartitionsRequestTopic, .mk 3 0 (-1) (-1) (-1) 15000 0 [], .mk 0 0 (-1) (-1) (-1) 0 0 []]
def sch_sAlterPartitionResponseTopicPartition : List Fld := [.mk 3 0 (-1) (-1) (-1) 0 0 [], .mk 2 0 (-1) (-1) (-1) 0 0 [], .mk 3 0 (-1) (-1) (-1) 0 0 [], .mk 3 0 (-1) (-1) (-1) 0 0 [], .mk 11 0 (-1) (-1) (-1) 0 3 [], .mk 1 1 (-1) (-1) (-1) 0 0 [], .mk 3 0 (-1) (-1) (-1) 0 0 []]
def sch_sAlterPartitionResponseTopic : List Fld := [.mk 8 0 1 (-1) (-1) 0 0 [], .mk 7 2 (-1) (-1) (-1) 0 0 [], .mk 11 0 (-1) (-1) (-1) 0 10 sch_sAlterPartitionResponseTopicPartition]
def sch_AlterPartitionResponse : List Fld := [.mk 3 0 (-1) (-1) (-1) 0 0 [], .mk 2 0 (-1) (-1) (-1) 0 0 [], .mk 11 0 (-1) (-1) (-1) 0 10 sch_sAlterPartitionResponseTopic]
end Go.Proofs.YtpjichobdalpjaaGreatDoor
