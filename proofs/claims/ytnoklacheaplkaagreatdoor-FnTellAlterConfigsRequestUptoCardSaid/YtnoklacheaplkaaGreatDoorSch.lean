/- Walks of functions that the laws of this seat reach. No statement of the seat stands here. -/
import Derived.Test.YtnoklacheaplkaaGreatDoorL3
import Derived.Test.YtnoklacheaplkaaGreatDoorRows
import Derived.Test.YtnoklacheaplkaaGreatDoorFa
namespace Go.Proofs.YtnoklacheaplkaaGreatDoor
open Go Go.Mk
def sch_sIncrementalAlterConfigsResponseResource : List Fld := [.mk 2 0 (-1) (-1) (-1) 0 0 [], .mk 8 0 (-1) 0 (-1) 0 0 [], .mk 1 0 (-1) (-1) (-1) 0 0 [], .mk 8 0 (-1) (-1) (-1) 0 0 []]
def sch_IncrementalAlterConfigsResponse : List Fld := [.mk 3 0 (-1) (-1) (-1) 0 0 [], .mk 11 0 (-1) (-1) (-1) 0 10 sch_sIncrementalAlterConfigsResponseResource]
def sch_sListTransactionsResponseTransactionState : List Fld := [.mk 8 0 (-1) (-1) (-1) 0 0 [], .mk 4 0 (-1) (-1) (-1) 0 0 [], .mk 8 0 (-1) (-1) (-1) 0 0 []]
def sch_ListTransactionsResponse : List Fld := [.mk 3 0 (-1) (-1) (-1) 0 0 [], .mk 2 0 (-1) (-1) (-1) 0 0 [], .mk 11 0 (-1) (-1) (-1) 0 8 [], .mk 11 0 (-1) (-1) (-1) 0 10 sch_sListTransactionsResponseTransactionState]
def sch_sDescribeClientQuotasRequestComponent : List Fld := [.mk 8 0 (-1) (-1) (-1) 0 0 [], .mk 1 0 (-1) (-1) (-1) 0 0 [], .mk 8 0 (-1) 0 (-1) 0 0 []]
def sch_DescribeClientQuotasRequest : List Fld := [.mk 11 0 (-1) (-1) (-1) 0 10 sch_sDescribeClientQuotasRequestComponent, .mk 0 0 (-1) (-1) (-1) 0 0 []]
def sch_sDescribeTransactionsResponseTransactionStateTopic : List Fld := [.mk 8 0 (-1) (-1) (-1) 0 0 [], .mk 11 0 (-1) (-1) (-1) 0 3 []]
def sch_sDescribeTransactionsResponseTransactionState : List Fld := [.mk 2 0 (-1) (-1) (-1) 0 0 [], .mk 8 0 (-1) (-1) (-1) 0 0 [], .mk 8 0 (-1) (-1) (-1) 0 0 [], .mk 3 0 (-1) (-1) (-1) 0 0 [], .mk 4 0 (-1) (-1) (-1) 0 0 [], .mk 4 0 (-1) (-1) (-1) 0 0 [], .mk 2 0 (-1) (-1) (-1) 0 0 [], .mk 11 0 (-1) (-1) (-1) 0 10 sch_sDescribeTransactionsResponseTransactionStateTopic]
def sch_DescribeTransactionsResponse : List Fld := [.mk 3 0 (-1) (-1) (-1) 0 0 [], .mk 11 0 (-1) (-1) (-1) 0 10 sch_sDescribeTransactionsResponseTransactionState]
def sch_sAlterConfigsRequestResourceConfig : List Fld := [.mk 8 0 (-1) (-1) (-1) 0 0 [], .mk 8 0 (-1) 0 (-1) 0 0 []]
def sch_sAlterConfigsRequestResource : List Fld := [.mk 1 0 (-1) (-1) (-1) 0 0 [], .mk 8 0 (-1) (-1) (-1) 0 0 [], .mk 11 0 (-1) (-1) (-1) 0 10 sch_sAlterConfigsRequestResourceConfig]
def sch_AlterConfigsRequest : List Fld := [.mk 11 0 (-1) (-1) (-1) 0 10 sch_sAlterConfigsRequestResource, .mk 0 0 (-1) (-1) (-1) 0 0 []]
def sch_sOffsetCommitRequestTopicPartition : List Fld := [.mk 3 0 (-1) (-1) (-1) 0 0 [], .mk 4 0 (-1) (-1) (-1) 0 0 [], .mk 4 1 1 (-1) (-1) (-1) 0 [], .mk 3 6 (-1) (-1) (-1) (-1) 0 [], .mk 8 0 (-1) 0 (-1) 0 0 []]
def sch_sOffsetCommitRequestTopic : List Fld := [.mk 8 0 9 (-1) (-1) 0 0 [], .mk 7 10 (-1) (-1) (-1) 0 0 [], .mk 11 0 (-1) (-1) (-1) 0 10 sch_sOffsetCommitRequestTopicPartition]
def sch_OffsetCommitRequest : List Fld := [.mk 8 0 (-1) (-1) (-1) 0 0 [], .mk 3 1 (-1) (-1) (-1) (-1) 0 [], .mk 8 1 (-1) (-1) (-1) 0 0 [], .mk 8 7 (-1) 7 (-1) 0 0 [], .mk 4 2 4 (-1) (-1) (-1) 0 [], .mk 11 0 (-1) (-1) (-1) 0 10 sch_sOffsetCommitRequestTopic]
def sch_sTxnOffsetCommitRequestTopicPartition : List Fld := [.mk 3 0 (-1) (-1) (-1) 0 0 [], .mk 4 0 (-1) (-1) (-1) 0 0 [], .mk 3 2 (-1) (-1) (-1) (-1) 0 [], .mk 8 0 (-1) 0 (-1) 0 0 []]
def sch_sTxnOffsetCommitRequestTopic : List Fld := [.mk 8 0 5 (-1) (-1) 0 0 [], .mk 7 6 (-1) (-1) (-1) 0 0 [], .mk 11 0 (-1) (-1) (-1) 0 10 sch_sTxnOffsetCommitRequestTopicPartition]
def sch_TxnOffsetCommitRequest : List Fld := [.mk 8 0 (-1) (-1) (-1) 0 0 [], .mk 8 0 (-1) (-1) (-1) 0 0 [], .mk 4 0 (-1) (-1) (-1) 0 0 [], .mk 2 0 (-1) (-1) (-1) 0 0 [], .mk 3 3 (-1) (-1) (-1) (-1) 0 [], .mk 8 3 (-1) (-1) (-1) 0 0 [], .mk 8 3 (-1) 3 (-1) 0 0 [], .mk 11 0 (-1) (-1) (-1) 0 10 sch_sTxnOffsetCommitRequestTopic]
end Go.Proofs.YtnoklacheaplkaaGreatDoor
