/- Walks of functions that the laws of this seat reach. No statement of the seat stands here. -/
import Derived.Test.YtojbmnelohjhmaaL2
import Derived.Test.YtojbmnelohjhmaaRows
import Derived.Test.YtojbmnelohjhmaaFa
namespace Go.Proofs.Ytojbmnelohjhmaa
open Go Go.Mk
def sch_AllocateProducerIDsResponse : List Fld := [.mk 3 0 (-1) (-1) (-1) 0 0 [], .mk 2 0 (-1) (-1) (-1) 0 0 [], .mk 4 0 (-1) (-1) (-1) 0 0 [], .mk 3 0 (-1) (-1) (-1) 0 0 []]
def sch_UnregisterBrokerResponse : List Fld := [.mk 3 0 (-1) (-1) (-1) 0 0 [], .mk 2 0 (-1) (-1) (-1) 0 0 [], .mk 8 0 (-1) 0 (-1) 0 0 []]
def sch_StreamsGroupTopologyDescriptionUpdateResponse : List Fld := [.mk 3 0 (-1) (-1) (-1) 0 0 [], .mk 2 0 (-1) (-1) (-1) 0 0 [], .mk 8 0 (-1) 0 (-1) 0 0 []]
def sch_ApiVersionsRequest : List Fld := [.mk 8 3 (-1) (-1) (-1) 0 0 [], .mk 8 3 (-1) (-1) (-1) 0 0 [], .mk 8 5 (-1) 5 (-1) 0 0 [], .mk 3 5 (-1) (-1) (-1) (-1) 0 []]
def sch_sDescribeDelegationTokenRequestOwner : List Fld := [.mk 8 0 (-1) (-1) (-1) 0 0 [], .mk 8 0 (-1) (-1) (-1) 0 0 []]
def sch_DescribeDelegationTokenRequest : List Fld := [.mk 11 0 (-1) 0 (-1) 0 10 sch_sDescribeDelegationTokenRequestOwner]
def sch_sReadShareGroupStateRequestTopicPartition : List Fld := [.mk 3 0 (-1) (-1) (-1) 0 0 [], .mk 3 0 (-1) (-1) (-1) 0 0 []]
def sch_sReadShareGroupStateRequestTopic : List Fld := [.mk 7 0 (-1) (-1) (-1) 0 0 [], .mk 11 0 (-1) (-1) (-1) 0 10 sch_sReadShareGroupStateRequestTopicPartition]
def sch_ReadShareGroupStateRequest : List Fld := [.mk 8 0 (-1) (-1) (-1) 0 0 [], .mk 11 0 (-1) (-1) (-1) 0 10 sch_sReadShareGroupStateRequestTopic]
def sch_sInitializeShareGroupStateRequestTopicPartition : List Fld := [.mk 3 0 (-1) (-1) (-1) 0 0 [], .mk 3 0 (-1) (-1) (-1) 0 0 [], .mk 4 0 (-1) (-1) (-1) 0 0 []]
def sch_sInitializeShareGroupStateRequestTopic : List Fld := [.mk 7 0 (-1) (-1) (-1) 0 0 [], .mk 11 0 (-1) (-1) (-1) 0 10 sch_sInitializeShareGroupStateRequestTopicPartition]
def sch_InitializeShareGroupStateRequest : List Fld := [.mk 8 0 (-1) (-1) (-1) 0 0 [], .mk 11 0 (-1) (-1) (-1) 0 10 sch_sInitializeShareGroupStateRequestTopic]
def sch_sFindCoordinatorResponseCoordinator : List Fld := [.mk 8 0 (-1) (-1) (-1) 0 0 [], .mk 3 0 (-1) (-1) (-1) 0 0 [], .mk 8 0 (-1) (-1) (-1) 0 0 [], .mk 3 0 (-1) (-1) (-1) 0 0 [], .mk 2 0 (-1) (-1) (-1) 0 0 [], .mk 8 0 (-1) 0 (-1) 0 0 []]
def sch_FindCoordinatorResponse : List Fld := [.mk 3 1 (-1) (-1) (-1) 0 0 [], .mk 2 0 3 (-1) (-1) 0 0 [], .mk 8 1 3 1 (-1) 0 0 [], .mk 3 0 3 (-1) (-1) 0 0 [], .mk 8 0 3 (-1) (-1) 0 0 [], .mk 3 0 3 (-1) (-1) 0 0 [], .mk 11 4 (-1) (-1) (-1) 0 10 sch_sFindCoordinatorResponseCoordinator]
def sch_sReadShareGroupStateSummaryResponseTopicPartition : List Fld := [.mk 3 0 (-1) (-1) (-1) 0 0 [], .mk 2 0 (-1) (-1) (-1) 0 0 [], .mk 8 0 (-1) 0 (-1) 0 0 [], .mk 3 0 (-1) (-1) (-1) 0 0 [], .mk 3 0 (-1) (-1) (-1) 0 0 [], .mk 4 0 (-1) (-1) (-1) 0 0 [], .mk 3 1 (-1) (-1) (-1) (-1) 0 []]
def sch_sReadShareGroupStateSummaryResponseTopic : List Fld := [.mk 7 0 (-1) (-1) (-1) 0 0 [], .mk 11 0 (-1) (-1) (-1) 0 10 sch_sReadShareGroupStateSummaryResponseTopicPartition]
def sch_ReadShareGroupStateSummaryResponse : List Fld := [.mk 11 0 (-1) (-1) (-1) 0 10 sch_sReadShareGroupStateSummaryResponseTopic]
def sch_sAlterPartitionAssignmentsResponseTopicPartition : List Fld := [.mk 3 0 (-1) (-1) (-1) 0 0 [], .mk 2 0 (-1) (-1) (-1) 0 0 [], .mk 8 0 (-1) 0 (-1) 0 0 []]
def sch_sAlterPartitionAssignmentsResponseTopic : List Fld := [.mk 8 0 (-1) (-1) (-1) 0 0 [], .mk 11 0 (-1) (-1) (-1) 0 10 sch_sAlterPartitionAssignmentsResponseTopicPartition]
def sch_AlterPartitionAssignmentsResponse : List Fld := [.mk 3 0 (-1) (-1) (-1) 0 0 [], .mk 0 1 (-1) (-1) (-1) 1 0 [], .mk 2 0 (-1) (-1) (-1) 0 0 [], .mk 8 0 (-1) 0 (-1) 0 0 [], .mk 11 0 (-1) (-1) (-1) 0 10 sch_sAlterPartitionAssignmentsResponseTopic]
def sch_sDescribeClusterResponseBroker : List Fld := [.mk 3 0 (-1) (-1) (-1) 0 0 [], .mk 8 0 (-1) (-1) (-1) 0 0 [], .mk 3 0 (-1) (-1) (-1) 0 0 [], .mk 8 0 (-1) 0 (-1) 0 0 [], .mk 0 2 (-1) (-1) (-1) 0 0 []]
def sch_DescribeClusterResponse : List Fld := [.mk 3 0 (-1) (-1) (-1) 0 0 [], .mk 2 0 (-1) (-1) (-1) 0 0 [], .mk 8 0 (-1) 0 (-1) 0 0 [], .mk 1 1 (-1) (-1) (-1) 1 0 [], .mk 8 0 (-1) (-1) (-1) 0 0 [], .mk 3 0 (-1) (-1) (-1) (-1) 0 [], .mk 11 0 (-1) (-1) (-1) 0 10 sch_sDescribeClusterResponseBroker, .mk 3 0 (-1) (-1) (-1) (-2147483648) 0 []]
def sch_sVoteRequestTopicPartition : List Fld := [.mk 3 0 (-1) (-1) (-1) 0 0 [], .mk 3 0 (-1) (-1) (-1) 0 0 [], .mk 3 0 (-1) (-1) (-1) 0 0 [], .mk 7 1 (-1) (-1) (-1) 0 0 [], .mk 7 1 (-1) (-1) (-1) 0 0 [], .mk 3 0 (-1) (-1) (-1) 0 0 [], .mk 4 0 (-1) (-1) (-1) 0 0 [], .mk 0 2 (-1) (-1) (-1) 0 0 []]
def sch_sVoteRequestTopic : List Fld := [.mk 8 0 (-1) (-1) (-1) 0 0 [], .mk 11 0 (-1) (-1) (-1) 0 10 sch_sVoteRequestTopicPartition]
def sch_VoteRequest : List Fld := [.mk 8 0 (-1) 0 (-1) 0 0 [], .mk 3 1 (-1) (-1) (-1) (-1) 0 [], .mk 11 0 (-1) (-1) (-1) 0 10 sch_sVoteRequestTopic]
end Go.Proofs.Ytojbmnelohjhmaa
