/- Walks of functions that the laws of this seat reach. No statement of the seat stands here. -/
import Derived.Test.YticigmdbfimfbaaDoorL3
import Derived.Test.YticigmdbfimfbaaDoorRows
import Derived.Test.YticigmdbfimfbaaDoorFa
namespace Go.Proofs.YticigmdbfimfbaaDoor
open Go Go.Mk
end Go.Proofs.YticigmdbfimfbaaDoor
