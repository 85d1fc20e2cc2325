/- Walks of functions that the laws of this seat reach. No statement of the seat stands here. -/
import Derived.Test.YtnndnjbkhhammaaL2
import Derived.Test.YtnndnjbkhhammaaRows
import Derived.Test.YtnndnjbkhhammaaFa
namespace Go.Proofs.Ytnndnjbkhhammaa
open Go Go.Mk
def sch_sBrokerRegistrationRequestListener : List Fld := [.mk 8 0 (-1) (-1) (-1) 0 0 [], .mk 8 0 (-1) (-1) (-1) 0 0 [], .mk 5 0 (-1) (-1) (-1) 0 0 [], .mk 2 0 (-1) (-1) (-1) 0 0 []]
def sch_sBrokerRegistrationRequestFeature : List Fld := [.mk 8 0 (-1) (-1) (-1) 0 0 [], .mk 2 0 (-1) (-1) (-1) 0 0 [], .mk 2 0 (-1) (-1) (-1) 0 0 []]
def sch_BrokerRegistrationRequest : List Fld := [.mk 3 0 (-1) (-1) (-1) 0 0 [], .mk 8 0 (-1) (-1) (-1) 0 0 [], .mk 7 0 (-1) (-1) (-1) 0 0 [], .mk 11 0 (-1) (-1) (-1) 0 10 sch_sBrokerRegistrationRequestListener, .mk 11 0 (-1) (-1) (-1) 0 10 sch_sBrokerRegistrationRequestFeature, .mk 8 0 (-1) 0 (-1) 0 0 [], .mk 0 1 (-1) (-1) (-1) 0 0 [], .mk 11 2 (-1) (-1) (-1) 0 7 [], .mk 4 3 (-1) (-1) (-1) (-1) 0 []]
def sch_sDescribeGroupsResponseGroupMember : List Fld := [.mk 8 0 (-1) (-1) (-1) 0 0 [], .mk 8 4 (-1) 4 (-1) 0 0 [], .mk 8 0 (-1) (-1) (-1) 0 0 [], .mk 8 0 (-1) (-1) (-1) 0 0 [], .mk 9 0 (-1) (-1) (-1) 0 0 [], .mk 9 0 (-1) (-1) (-1) 0 0 []]
def sch_sDescribeGroupsResponseGroup : List Fld := [.mk 2 0 (-1) (-1) (-1) 0 0 [], .mk 8 6 (-1) 6 (-1) 0 0 [], .mk 8 0 (-1) (-1) (-1) 0 0 [], .mk 8 0 (-1) (-1) (-1) 0 0 [], .mk 8 0 (-1) (-1) (-1) 0 0 [], .mk 8 0 (-1) (-1) (-1) 0 0 [], .mk 11 0 (-1) (-1) (-1) 0 10 sch_sDescribeGroupsResponseGroupMember, .mk 3 3 (-1) (-1) (-1) (-2147483648) 0 []]
def sch_DescribeGroupsResponse : List Fld := [.mk 3 1 (-1) (-1) (-1) 0 0 [], .mk 11 0 (-1) (-1) (-1) 0 10 sch_sDescribeGroupsResponseGroup]
end Go.Proofs.Ytnndnjbkhhammaa
