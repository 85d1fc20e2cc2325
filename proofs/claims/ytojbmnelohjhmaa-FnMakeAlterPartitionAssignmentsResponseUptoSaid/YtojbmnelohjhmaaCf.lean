/- Walks of functions that the laws of this seat reach. No statement of the seat stands here. -/
import Derived.Test.YtojbmnelohjhmaaL3
import Derived.Test.YtojbmnelohjhmaaRows
import Derived.Test.YtojbmnelohjhmaaFa
import Derived.Test.YtojbmnelohjhmaaKb
import Derived.Test.YtojbmnelohjhmaaTg
namespace Go.Proofs.Ytojbmnelohjhmaa
open Go Go.Mk
def cfgA : List (Nat × Ea.CK) := [(135, .fx 3), (136, .fx 2), (137, .fx 4), (138, .uv), (139, .tagLen), (140, .tagEach), (150, .nstr true), (151, .nstr false), (154, .str true), (155, .str false), (158, .ncnt true), (159, .ncnt false), (163, .cnt true), (164, .cnt false), (165, .uuid), (177, .bool), (180, .fx 1), (185, .fx 5)]
theorem cfgA_ok : Ea.CfgOk Try.prog 5 cfgA := by
  intro f ck h
  simp only [cfgA, List.mem_cons, Prod.mk.injEq, List.not_mem_nil, or_false] at h
  rcases h with ⟨rfl, rfl⟩ | ⟨rfl, rfl⟩ | ⟨rfl, rfl⟩ | ⟨rfl, rfl⟩ | ⟨rfl, rfl⟩ | ⟨rfl, rfl⟩ | ⟨rfl, rfl⟩ | ⟨rfl, rfl⟩ | ⟨rfl, rfl⟩ | ⟨rfl, rfl⟩ | ⟨rfl, rfl⟩ | ⟨rfl, rfl⟩ | ⟨rfl, rfl⟩ | ⟨rfl, rfl⟩ | ⟨rfl, rfl⟩ | ⟨rfl, rfl⟩ | ⟨rfl, rfl⟩ | ⟨rfl, rfl⟩
  · exact ⟨appendInt32_ok, cb_135⟩
  · exact ⟨appendInt16_ok, cb_136⟩
  · exact ⟨appendInt64_ok, cb_137⟩
  · exact ⟨appendUvarint_ok, cb_138⟩
  · exact ⟨tagsLen_c, cb_139⟩
  · exact ⟨tagsAppendEach_ok, cb_140⟩
  · exact ⟨appendCompactNullableString_ok, cb_150⟩
  · exact ⟨appendNullableString_ok, cb_151⟩
  · exact ⟨appendCompactString_ok, cb_154⟩
  · exact ⟨appendString_ok, cb_155⟩
  · exact ⟨appendCompactNullableArrayLen_ok, cb_158⟩
  · exact ⟨appendNullableArrayLen_ok, cb_159⟩
  · exact ⟨appendCompactArrayLen_ok, cb_163⟩
  · exact ⟨appendArrayLen_ok, cb_164⟩
  · exact ⟨appendUuid_ok, cb_165⟩
  · exact ⟨appendBool_ok, cb_177⟩
  · exact ⟨appendInt8_ok, cb_180⟩
  · exact ⟨appendUint16_ok, cb_185⟩
end Go.Proofs.Ytojbmnelohjhmaa
