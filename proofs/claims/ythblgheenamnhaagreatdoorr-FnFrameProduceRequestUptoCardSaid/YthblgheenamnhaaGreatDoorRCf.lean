/- Walks of functions that the laws of this seat reach. No statement of the seat stands here. -/
import Derived.Test.YthblgheenamnhaaGreatDoorRL2
import Derived.Test.YthblgheenamnhaaGreatDoorRRows
import Derived.Test.YthblgheenamnhaaGreatDoorRFa
import Derived.Test.YthblgheenamnhaaGreatDoorRKb
import Derived.Test.YthblgheenamnhaaGreatDoorRTg
namespace Go.Proofs.YthblgheenamnhaaGreatDoorR
open Go Go.Mk
def cfgA:List (Nat × Ea.CK):=[(97,.fx 2),(98,.fx 3),(99,.nstr false),(120,.fx 5),(122,.str false),(145,.str true),(146,.cnt true),(147,.cnt false),(148,.uuid),(149,.fx 4),(150,.fx 1),(151,.uv),(152,.tagLen),(153,.tagEach),(194,.nstr true),(195,.byt true),(196,.byt false),(205,.nbyt true),(206,.nbyt false)]
theorem cfgA_ok:Ea.CfgOk Tryz.prog 5 cfgA:=by
  intro f ck h
  simp only [cfgA,List.mem_cons,Prod.mk.injEq,List.not_mem_nil,or_false] at h
  rcases h with ⟨rfl,rfl⟩ | ⟨rfl,rfl⟩ | ⟨rfl,rfl⟩ | ⟨rfl,rfl⟩ | ⟨rfl,rfl⟩ | ⟨rfl,rfl⟩ | ⟨rfl,rfl⟩ | ⟨rfl,rfl⟩ | ⟨rfl,rfl⟩ | ⟨rfl,rfl⟩ | ⟨rfl,rfl⟩ | ⟨rfl,rfl⟩ | ⟨rfl,rfl⟩ | ⟨rfl,rfl⟩ | ⟨rfl,rfl⟩ | ⟨rfl,rfl⟩ | ⟨rfl,rfl⟩ | ⟨rfl,rfl⟩ | ⟨rfl,rfl⟩
  · exact ⟨appendInt16_ok,cb_97⟩
  · exact ⟨appendInt32_ok,cb_98⟩
  · exact ⟨appendNullableString_ok,cb_99⟩
  · exact ⟨appendUint16_ok,cb_120⟩
  · exact ⟨appendString_ok,cb_122⟩
  · exact ⟨appendCompactString_ok,cb_145⟩
  · exact ⟨appendCompactArrayLen_ok,cb_146⟩
  · exact ⟨appendArrayLen_ok,cb_147⟩
  · exact ⟨appendUuid_ok,cb_148⟩
  · exact ⟨appendInt64_ok,cb_149⟩
  · exact ⟨appendInt8_ok,cb_150⟩
  · exact ⟨appendUvarint_ok,cb_151⟩
  · exact ⟨tagsLen_c,cb_152⟩
  · exact ⟨tagsAppendEach_ok,cb_153⟩
  · exact ⟨appendCompactNullableString_ok,cb_194⟩
  · exact ⟨appendCompactBytes_ok,cb_195⟩
  · exact ⟨appendBytes_ok,cb_196⟩
  · exact ⟨appendCompactNullableBytes_ok,cb_205⟩
  · exact ⟨appendNullableBytes_ok,cb_206⟩
end Go.Proofs.YthblgheenamnhaaGreatDoorR
