/- Walks of functions that the laws of this seat reach. No statement of the seat stands here. -/
import Derived.Test.YthholdjpcdpceaaDoorL3
import Derived.Test.YthholdjpcdpceaaDoorRows
import Derived.Test.YthholdjpcdpceaaDoorFa
namespace Go.Proofs.YthholdjpcdpceaaDoor
open Go Go.Mk
def sch_ControlRecordKey : List Fld := [.mk 2 0 (-1) (-1) (-1) 0 0 []]
end Go.Proofs.YthholdjpcdpceaaDoor
