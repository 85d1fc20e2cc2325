/- Walks of functions that the laws of this seat reach. No statement of the seat stands here. -/
import Derived.Test.YticigmdbfimfbaaDoorL3
import Derived.Test.YticigmdbfimfbaaDoorRows
import Derived.Test.YticigmdbfimfbaaDoorFa
import Derived.Test.YticigmdbfimfbaaDoorTs
import Derived.Test.YticigmdbfimfbaaDoorTg
namespace Go.Proofs.YticigmdbfimfbaaDoor
open Go Go.Mk
theorem treeP : TreeP Tryd.prog 37 34 := ⟨Tryd.checked.mixed, by kernel_rfl, by kernel_rfl, by kernel_rfl, by kernel_rfl, by kernel_rfl, by kernel_rfl, by kernel_rfl, by kernel_rfl, by kernel_rfl, by kernel_rfl, by kernel_rfl⟩
theorem tagP : TagP Tryd.prog 37 35 69 22 5 := ⟨by kernel_rfl, by kernel_rfl, ⟨32, by kernel_rfl, by decide⟩, by kernel_rfl, by kernel_rfl, by kernel_rfl, by kernel_rfl, by kernel_rfl, by kernel_rfl⟩
theorem rowT : rowTy Tryd.prog 34 = some (37, 5, 88) := by kernel_rfl
theorem sorted_ok : SortedOk Tryd.prog 69 := fun h1 h2 h3 => sorted_c h1 h2 h3
end Go.Proofs.YticigmdbfimfbaaDoor
