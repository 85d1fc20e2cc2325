/- Walks of functions that the seat's laws reach. -/
import Derived.Test.YtipgdlbbmlnfiaaGreatDoorL5
import Derived.Test.YtipgdlbbmlnfiaaGreatDoorRows
import Derived.Test.YtipgdlbbmlnfiaaGreatDoorFa
import Derived.Test.YtipgdlbbmlnfiaaGreatDoorTs
import Derived.Test.YtipgdlbbmlnfiaaGreatDoorTg
namespace Go.Proofs.YtipgdlbbmlnfiaaGreatDoor
open Go Go.Mk
theorem aAQ:TreeP Tryz.prog 37 34:=⟨Tryz.checked.mixed,by kernel_rfl,by kernel_rfl,by kernel_rfl,by kernel_rfl,by kernel_rfl,by kernel_rfl,by kernel_rfl,by kernel_rfl,by kernel_rfl,by kernel_rfl,by kernel_rfl⟩
theorem aDt:TagP Tryz.prog 37 35 69 22 5:=⟨by kernel_rfl,by kernel_rfl,⟨32,by kernel_rfl,by decide⟩,by kernel_rfl,by kernel_rfl,by kernel_rfl,by kernel_rfl,by kernel_rfl,by kernel_rfl⟩
theorem aJt:aGN Tryz.prog 34=some (37,5,88):=by kernel_rfl
theorem aCA:aR5 Tryz.prog 69:=fun h1 h2 h3=>aWI h1 h2 h3
end Go.Proofs.YtipgdlbbmlnfiaaGreatDoor
