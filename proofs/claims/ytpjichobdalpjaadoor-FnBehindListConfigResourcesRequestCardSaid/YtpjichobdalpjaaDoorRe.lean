/- Walks of functions that the laws of this seat reach. No statement of the seat stands here. -/
import Derived.Test.YtpjichobdalpjaaDoorL5
import Derived.Test.YtpjichobdalpjaaDoorRows
import Derived.Test.YtpjichobdalpjaaDoorFa
import Derived.Test.YtpjichobdalpjaaDoorRd
namespace Go.Proofs.YtpjichobdalpjaaDoor
open Go Go.Mk
end Go.Proofs.YtpjichobdalpjaaDoor
