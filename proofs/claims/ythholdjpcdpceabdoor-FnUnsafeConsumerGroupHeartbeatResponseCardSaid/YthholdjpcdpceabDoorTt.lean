/- Walks of functions that the laws of this seat reach. No statement of the seat stands here. -/
import Derived.Test.YthholdjpcdpceabDoorL4
import Derived.Test.YthholdjpcdpceabDoorRows
import Derived.Test.YthholdjpcdpceabDoorFa
import Derived.Test.YthholdjpcdpceabDoorTs
import Derived.Test.YthholdjpcdpceabDoorTg
namespace Go.Proofs.YthholdjpcdpceabDoor
open Go Go.Mk
theorem treeP : TreeP Tryd.prog 27 24 := ⟨Tryd.checked.mixed, by kernel_rfl, by kernel_rfl, by kernel_rfl, by kernel_rfl, by kernel_rfl, by kernel_rfl, by kernel_rfl, by kernel_rfl, by kernel_rfl, by kernel_rfl, by kernel_rfl⟩
theorem tagP : TagP Tryd.prog 27 25 51 22 5 := ⟨by kernel_rfl, by kernel_rfl, ⟨32, by kernel_rfl, by decide⟩, by kernel_rfl, by kernel_rfl, by kernel_rfl, by kernel_rfl, by kernel_rfl, by kernel_rfl⟩
theorem rowT : rowTy Tryd.prog 24 = some (27, 5, 88) := by kernel_rfl
theorem sorted_ok : SortedOk Tryd.prog 63 := fun h1 h2 h3 => sorted_c h1 h2 h3
end Go.Proofs.YthholdjpcdpceabDoor
