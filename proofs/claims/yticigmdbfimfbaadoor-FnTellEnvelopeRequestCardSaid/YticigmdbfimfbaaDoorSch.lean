/- Walks of functions that the laws of this seat reach. No statement of the seat stands here. -/
import Derived.Test.YticigmdbfimfbaaDoorL3
import Derived.Test.YticigmdbfimfbaaDoorRows
import Derived.Test.YticigmdbfimfbaaDoorFa
namespace Go.Proofs.YticigmdbfimfbaaDoor
open Go Go.Mk
def sch_AddOffsetsToTxnResponse : List Fld := [.mk 3 0 (-1) (-1) (-1) 0 0 [], .mk 2 0 (-1) (-1) (-1) 0 0 []]
def sch_ExpireDelegationTokenResponse : List Fld := [.mk 2 0 (-1) (-1) (-1) 0 0 [], .mk 4 0 (-1) (-1) (-1) 0 0 [], .mk 3 0 (-1) (-1) (-1) 0 0 []]
def sch_RenewDelegationTokenRequest : List Fld := [.mk 9 0 (-1) (-1) (-1) 0 0 [], .mk 4 0 (-1) (-1) (-1) 0 0 []]
def sch_EnvelopeRequest : List Fld := [.mk 9 0 (-1) (-1) (-1) 0 0 [], .mk 9 0 (-1) 0 (-1) 0 0 [], .mk 9 0 (-1) (-1) (-1) 0 0 []]
end Go.Proofs.YticigmdbfimfbaaDoor
