/- Walks of functions that the laws of this seat reach. No statement of the seat stands here. -/
import Derived.Test.YthholdjpcdpceaaDoorL3
import Derived.Test.YthholdjpcdpceaaDoorRows
import Derived.Test.YthholdjpcdpceaaDoorFa
namespace Go.Proofs.YthholdjpcdpceaaDoor
open Go Go.Mk
def sch_sDescribeTopicPartitionsRequestTopic : List Fld := [.mk 8 0 (-1) (-1) (-1) 0 0 []]
def sch_sDescribeTopicPartitionsRequestCursor : List Fld := [.mk 8 0 (-1) (-1) (-1) 0 0 [], .mk 3 0 (-1) (-1) (-1) 0 0 []]
def sch_DescribeTopicPartitionsRequest : List Fld := [.mk 11 0 (-1) (-1) (-1) 0 10 sch_sDescribeTopicPartitionsRequestTopic, .mk 3 0 (-1) (-1) (-1) 2000 0 [], .mk 10 0 (-1) 0 (-1) 0 0 sch_sDescribeTopicPartitionsRequestCursor]
end Go.Proofs.YthholdjpcdpceaaDoor
