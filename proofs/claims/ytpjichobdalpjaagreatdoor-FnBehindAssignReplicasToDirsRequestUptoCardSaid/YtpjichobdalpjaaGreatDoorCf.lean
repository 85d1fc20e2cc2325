/- Walks of functions that the laws of this seat reach. No statement of the seat stands here. -/
import Derived.Test.YtpjichobdalpjaaGreatDoorL3
import Derived.Test.YtpjichobdalpjaaGreatDoorRows
import Derived.Test.YtpjichobdalpjaaGreatDoorFa
import Derived.Test.YtpjichobdalpjaaGreatDoorKb
import Derived.Test.YtpjichobdalpjaaGreatDoorTg
namespace Go.Proofs.YtpjichobdalpjaaGreatDoor
open Go Go.Mk
def cfgA : List (Nat × Ea.CK) := [(127, .cnt true), (128, .cnt false), (129, .str true), (130, .str false), (131, .bool), (132, .uv), (133, .tagLen), (134, .tagEach), (137, .fx 3), (138, .ncnt true), (139, .ncnt false), (143, .fx 4), (144, .uuid), (147, .fx 2), (154, .fx 1), (210, .fx 5)]
theorem cfgA_ok : Ea.CfgOk Tryz.prog 5 cfgA := by
  intro f ck h
  simp only [cfgA, List.mem_cons, Prod.mk.injEq, List.not_mem_nil, or_false] at h
  rcases h with ⟨rfl, rfl⟩ | ⟨rfl, rfl⟩ | ⟨rfl, rfl⟩ | ⟨rfl, rfl⟩ | ⟨rfl, rfl⟩ | ⟨rfl, rfl⟩ | ⟨rfl, rfl⟩ | ⟨rfl, rfl⟩ | ⟨rfl, rfl⟩ | ⟨rfl, rfl⟩ | ⟨rfl, rfl⟩ | ⟨rfl, rfl⟩ | ⟨rfl, rfl⟩ | ⟨rfl, rfl⟩ | ⟨rfl, rfl⟩ | ⟨rfl, rfl⟩
  · exact ⟨appendCompactArrayLen_ok, cb_127⟩
  · exact ⟨appendArrayLen_ok, cb_128⟩
  · exact ⟨appendCompactString_ok, cb_129⟩
  · exact ⟨appendString_ok, cb_130⟩
  · exact ⟨appendBool_ok, cb_131⟩
  · exact ⟨appendUvarint_ok, cb_132⟩
  · exact ⟨tagsLen_c, cb_133⟩
  · exact ⟨tagsAppendEach_ok, cb_134⟩
  · exact ⟨appendInt32_ok, cb_137⟩
  · exact ⟨appendCompactNullableArrayLen_ok, cb_138⟩
  · exact ⟨appendNullableArrayLen_ok, cb_139⟩
  · exact ⟨appendInt64_ok, cb_143⟩
  · exact ⟨appendUuid_ok, cb_144⟩
  · exact ⟨appendInt16_ok, cb_147⟩
  · exact ⟨appendInt8_ok, cb_154⟩
  · exact ⟨appendUint16_ok, cb_210⟩
end Go.Proofs.YtpjichobdalpjaaGreatDoor
