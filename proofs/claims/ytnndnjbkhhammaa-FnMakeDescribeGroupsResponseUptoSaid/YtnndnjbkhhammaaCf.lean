/- Walks of functions that the laws of this seat reach. No statement of the seat stands here. -/
import Derived.Test.YtnndnjbkhhammaaL3
import Derived.Test.YtnndnjbkhhammaaRows
import Derived.Test.YtnndnjbkhhammaaFa
import Derived.Test.YtnndnjbkhhammaaKb
import Derived.Test.YtnndnjbkhhammaaTg
namespace Go.Proofs.Ytnndnjbkhhammaa
open Go Go.Mk
def cfgA : List (Nat × Ea.CK) := [(44, .fx 3), (45, .str true), (46, .str false), (47, .uuid), (48, .cnt true), (49, .cnt false), (50, .fx 5), (51, .fx 2), (52, .uv), (53, .tagLen), (54, .tagEach), (55, .nstr true), (56, .nstr false), (57, .bool), (58, .fx 4), (69, .byt true), (70, .byt false)]
theorem cfgA_ok : Ea.CfgOk Try.prog 5 cfgA := by
  intro f ck h
  simp only [cfgA, List.mem_cons, Prod.mk.injEq, List.not_mem_nil, or_false] at h
  rcases h with ⟨rfl, rfl⟩ | ⟨rfl, rfl⟩ | ⟨rfl, rfl⟩ | ⟨rfl, rfl⟩ | ⟨rfl, rfl⟩ | ⟨rfl, rfl⟩ | ⟨rfl, rfl⟩ | ⟨rfl, rfl⟩ | ⟨rfl, rfl⟩ | ⟨rfl, rfl⟩ | ⟨rfl, rfl⟩ | ⟨rfl, rfl⟩ | ⟨rfl, rfl⟩ | ⟨rfl, rfl⟩ | ⟨rfl, rfl⟩ | ⟨rfl, rfl⟩ | ⟨rfl, rfl⟩
  · exact ⟨appendInt32_ok, cb_44⟩
  · exact ⟨appendCompactString_ok, cb_45⟩
  · exact ⟨appendString_ok, cb_46⟩
  · exact ⟨appendUuid_ok, cb_47⟩
  · exact ⟨appendCompactArrayLen_ok, cb_48⟩
  · exact ⟨appendArrayLen_ok, cb_49⟩
  · exact ⟨appendUint16_ok, cb_50⟩
  · exact ⟨appendInt16_ok, cb_51⟩
  · exact ⟨appendUvarint_ok, cb_52⟩
  · exact ⟨tagsLen_c, cb_53⟩
  · exact ⟨tagsAppendEach_ok, cb_54⟩
  · exact ⟨appendCompactNullableString_ok, cb_55⟩
  · exact ⟨appendNullableString_ok, cb_56⟩
  · exact ⟨appendBool_ok, cb_57⟩
  · exact ⟨appendInt64_ok, cb_58⟩
  · exact ⟨appendCompactBytes_ok, cb_69⟩
  · exact ⟨appendBytes_ok, cb_70⟩
end Go.Proofs.Ytnndnjbkhhammaa
