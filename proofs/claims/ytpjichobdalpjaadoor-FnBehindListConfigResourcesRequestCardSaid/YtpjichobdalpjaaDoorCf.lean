/- Walks of functions that the laws of this seat reach. No statement of the seat stands here. -/
import Derived.Test.YtpjichobdalpjaaDoorL3
import Derived.Test.YtpjichobdalpjaaDoorRows
import Derived.Test.YtpjichobdalpjaaDoorFa
import Derived.Test.YtpjichobdalpjaaDoorKb
import Derived.Test.YtpjichobdalpjaaDoorTg
namespace Go.Proofs.YtpjichobdalpjaaDoor
open Go Go.Mk
def cfgA : List (Nat × Ea.CK) := [(29, .cnt true), (30, .cnt false), (31, .fx 1), (32, .uv), (33, .tagLen), (34, .tagEach), (47, .fx 3)]
theorem cfgA_ok : Ea.CfgOk Tryd.prog 5 cfgA := by
  intro f ck h
  simp only [cfgA, List.mem_cons, Prod.mk.injEq, List.not_mem_nil, or_false] at h
  rcases h with ⟨rfl, rfl⟩ | ⟨rfl, rfl⟩ | ⟨rfl, rfl⟩ | ⟨rfl, rfl⟩ | ⟨rfl, rfl⟩ | ⟨rfl, rfl⟩ | ⟨rfl, rfl⟩
  · exact ⟨appendCompactArrayLen_ok, cb_29⟩
  · exact ⟨appendArrayLen_ok, cb_30⟩
  · exact ⟨appendInt8_ok, cb_31⟩
  · exact ⟨appendUvarint_ok, cb_32⟩
  · exact ⟨tagsLen_c, cb_33⟩
  · exact ⟨tagsAppendEach_ok, cb_34⟩
  · exact ⟨appendInt32_ok, cb_47⟩
end Go.Proofs.YtpjichobdalpjaaDoor
