/- Walks of functions that the laws of this seat reach. No statement of the seat stands here. -/
import Derived.Test.YtpjichobdalpjaaDoorL2
import Derived.Test.YtpjichobdalpjaaDoorRows
import Derived.Test.YtpjichobdalpjaaDoorFa
namespace Go.Proofs.YtpjichobdalpjaaDoor
open Go Go.Mk
def sch_ListConfigResourcesRequest : List Fld := [.mk 11 1 (-1) (-1) (-1) 0 1 []]
end Go.Proofs.YtpjichobdalpjaaDoor
