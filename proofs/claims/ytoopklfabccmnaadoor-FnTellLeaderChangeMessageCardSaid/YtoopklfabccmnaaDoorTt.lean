/- Walks of functions that the laws of this seat reach. No statement of the seat stands here. -/
import Derived.Test.YtoopklfabccmnaaDoorL4
import Derived.Test.YtoopklfabccmnaaDoorRows
import Derived.Test.YtoopklfabccmnaaDoorFa
import Derived.Test.YtoopklfabccmnaaDoorTs
import Derived.Test.YtoopklfabccmnaaDoorTg
namespace Go.Proofs.YtoopklfabccmnaaDoor
open Go Go.Mk
theorem treeP : TreeP Tryd.prog 35 32 := ⟨Tryd.checked.mixed, by kernel_rfl, by kernel_rfl, by kernel_rfl, by kernel_rfl, by kernel_rfl, by kernel_rfl, by kernel_rfl, by kernel_rfl, by kernel_rfl, by kernel_rfl, by kernel_rfl⟩
theorem tagP : TagP Tryd.prog 35 33 71 22 5 := ⟨by kernel_rfl, by kernel_rfl, ⟨32, by kernel_rfl, by decide⟩, by kernel_rfl, by kernel_rfl, by kernel_rfl, by kernel_rfl, by kernel_rfl, by kernel_rfl⟩
theorem rowT : rowTy Tryd.prog 32 = some (35, 5, 88) := by kernel_rfl
theorem sorted_ok : SortedOk Tryd.prog 32 := fun h1 h2 h3 => sorted_c h1 h2 h3
end Go.Proofs.YtoopklfabccmnaaDoor
