/- Walks of functions that the laws of this seat reach. No statement of the seat stands here. -/
import Derived.Test.YthholdjpcdpceaaDoorL4
import Derived.Test.YthholdjpcdpceaaDoorRows
import Derived.Test.YthholdjpcdpceaaDoorFa
import Derived.Test.YthholdjpcdpceaaDoorTs
import Derived.Test.YthholdjpcdpceaaDoorTg
namespace Go.Proofs.YthholdjpcdpceaaDoor
open Go Go.Mk
theorem treeP : TreeP Tryd.prog 26 23 := ⟨Tryd.checked.mixed, by kernel_rfl, by kernel_rfl, by kernel_rfl, by kernel_rfl, by kernel_rfl, by kernel_rfl, by kernel_rfl, by kernel_rfl, by kernel_rfl, by kernel_rfl, by kernel_rfl⟩
theorem tagP : TagP Tryd.prog 26 24 62 22 5 := ⟨by kernel_rfl, by kernel_rfl, ⟨32, by kernel_rfl, by decide⟩, by kernel_rfl, by kernel_rfl, by kernel_rfl, by kernel_rfl, by kernel_rfl, by kernel_rfl⟩
theorem rowT : rowTy Tryd.prog 23 = some (26, 5, 88) := by kernel_rfl
theorem sorted_ok : SortedOk Tryd.prog 85 := fun h1 h2 h3 => sorted_c h1 h2 h3
end Go.Proofs.YthholdjpcdpceaaDoor
