/- Walks of functions that the laws of this seat reach. No statement of the seat stands here. -/
import Derived.Test.YtoopklfabccmnaaGreatDoorL4
import Derived.Test.YtoopklfabccmnaaGreatDoorRows
import Derived.Test.YtoopklfabccmnaaGreatDoorFa
import Derived.Test.YtoopklfabccmnaaGreatDoorTs
import Derived.Test.YtoopklfabccmnaaGreatDoorTg
namespace Go.Proofs.YtoopklfabccmnaaGreatDoor
open Go Go.Mk
theorem treeP:TreeP Tryz.prog 37 34:=⟨Tryz.checked.mixed,by kernel_rfl,by kernel_rfl,by kernel_rfl,by kernel_rfl,by kernel_rfl,by kernel_rfl,by kernel_rfl,by kernel_rfl,by kernel_rfl,by kernel_rfl,by kernel_rfl⟩
theorem tagP:TagP Tryz.prog 37 35 69 22 5:=⟨by kernel_rfl,by kernel_rfl,⟨32,by kernel_rfl,by decide⟩,by kernel_rfl,by kernel_rfl,by kernel_rfl,by kernel_rfl,by kernel_rfl,by kernel_rfl⟩
theorem rowT:rowTy Tryz.prog 34 = some (37,5,88):=by kernel_rfl
theorem sorted_ok:SortedOk Tryz.prog 110:=fun h1 h2 h3=>sorted_c h1 h2 h3
end Go.Proofs.YtoopklfabccmnaaGreatDoor
