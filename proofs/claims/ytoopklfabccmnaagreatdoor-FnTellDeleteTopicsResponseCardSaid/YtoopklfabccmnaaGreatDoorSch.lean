/- Walks of functions that the laws of this seat reach. No statement of the seat stands here. -/
import Derived.Test.YtoopklfabccmnaaGreatDoorL3
import Derived.Test.YtoopklfabccmnaaGreatDoorRows
import Derived.Test.YtoopklfabccmnaaGreatDoorFa
namespace Go.Proofs.YtoopklfabccmnaaGreatDoor
open Go Go.Mk
def sch_sDeleteTopicsResponseTopic : List Fld := [.mk 8 0 (-1) 6 (-1) 0 0 [], .mk 7 6 (-1) (-1) (-1) 0 0 [], .mk 2 0 (-1) (-1) (-1) 0 0 [], .mk 8 5 (-1) 5 (-1) 0 0 []]
def sch_DeleteTopicsResponse : List Fld := [.mk 3 1 (-1) (-1) (-1) 0 0 [], .mk 11 0 (-1) (-1) (-1) 0 10 sch_sDeleteTopicsResponseTopic]
end Go.Proofs.YtoopklfabccmnaaGreatDoor
