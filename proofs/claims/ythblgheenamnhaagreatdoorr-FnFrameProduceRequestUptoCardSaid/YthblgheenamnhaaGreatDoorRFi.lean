/- Walks of functions that the laws of this seat reach. No statement of the seat stands here. -/
import Derived.Test.YthblgheenamnhaaGreatDoorRL4
import Derived.Test.YthblgheenamnhaaGreatDoorRRows
import Derived.Test.YthblgheenamnhaaGreatDoorRFa
import Derived.Test.YthblgheenamnhaaGreatDoorRKb
namespace Go.Proofs.YthblgheenamnhaaGreatDoorR
open Go Go.Mk
theorem appendUint32_in {w0:World} {g cap:Nat} {cs:List Value} (hb:w0.heap[g]? = some (.cells cs.toArray 5 (0,0))) (hcap:cap = cs.length) (h4 : 4 ≤ cap) (i:Int):Ret Tryz.prog 121 [.slice (some ⟨g,0,none⟩) 0 cap,.int .u32 i] w0 fun _ w'=>Agr (fun k=>k = g) w0 w' ∧ w'.heap[g]? = some (.cells (bv (fixed i 4) ++ cs.drop 4).toArray 5 (0,0)):=by
  refine c_call Tryz.func121 rfl rfl fun a hk=>?_
  have hk:Kn 19 [(0,.slice (some ⟨g,0,none⟩) 0 cap),(1,.int .u32 i)] a:=hk
  have hm:Mem w0 (fun k=>k = g) (fun k=>k = g) [.blk g cs 5] w0:=Mem.startBlk (Z:=fun k=>k = g) (m:=[]) hb rfl rfl (by simp)
  refine cR0 ?_
  refine oA0 hk rfl rfl fun a hk=>?_
  refine cE0 ?_
  refine cR0 ?_
  refine oM0 hk rfl rfl fun a hk=>?_
  refine oM0 hk rfl rfl fun a hk=>?_
  refine o_shr (s:=24) (c:=i / 2 ^ 24) hk rfl rfl rfl rfl fun a hk=>?_
  refine o_convInt (c:=IntKind.u8.wrap (i / 2 ^ 24)) hk un_65 ti_5 rfl rfl rfl fun a hk=>?_
  refine oM0 hk rfl rfl fun a hk=>?_
  refine o_shr (s:=16) (c:=i / 2 ^ 16) hk rfl rfl rfl rfl fun a hk=>?_
  refine o_convInt (c:=IntKind.u8.wrap (i / 2 ^ 16)) hk un_65 ti_5 rfl rfl rfl fun a hk=>?_
  refine oM0 hk rfl rfl fun a hk=>?_
  refine o_shr (s:=8) (c:=i / 2 ^ 8) hk rfl rfl rfl rfl fun a hk=>?_
  refine o_convInt (c:=IntKind.u8.wrap (i / 2 ^ 8)) hk un_65 ti_5 rfl rfl rfl fun a hk=>?_
  refine oM0 hk rfl rfl fun a hk=>?_
  refine o_convInt (c:=IntKind.u8.wrap i) hk un_65 ti_5 rfl rfl rfl fun a hk=>?_
  refine o_buildSlice (r:=[.int .u8 (IntKind.u8.wrap (i / 2 ^ 24)),.int .u8 (IntKind.u8.wrap (i / 2 ^ 16)),.int .u8 (IntKind.u8.wrap (i / 2 ^ 8)),.int .u8 (IntKind.u8.wrap i)]) hk hm rt_24 tz_5 rfl rfl rfl ⟨_,_,_,rfl,rfl,rfl,rfl,_,_,_,rfl,rfl,rfl,rfl,_,_,_,rfl,rfl,rfl,rfl,_,_,_,rfl,rfl,rfl,rfl,rfl⟩ rfl fun a b1 w hk hm=>?_
  refine o_appendIn (i:=1) hk hm rt_24 rfl rfl rfl (src_cells (k:=4) (news:=[.int .u8 (IntKind.u8.wrap (i / 2 ^ 24)),.int .u8 (IntKind.u8.wrap (i / 2 ^ 16)),.int .u8 (IntKind.u8.wrap (i / 2 ^ 8)),.int .u8 (IntKind.u8.wrap i)]) te_24 rfl (hm.cells_blk (i:=0) rfl rfl) rfl) h4 hcap rfl fun a w hk hm=>?_
  refine oA0 hk rfl rfl fun a hk=>?_
  refine cE0 ?_
  refine wp_ret ?_
  refine bT0 rfl hk rfl ?_
  have hr:=hm.all _ (eA0 (i:=1) rfl)
  refine ⟨hm.agr,?_⟩
  rw [bv_fixed4]; exact hr
theorem appendInt32_in {w0:World} {g cap:Nat} {cs:List Value} (hb:w0.heap[g]? = some (.cells cs.toArray 5 (0,0))) (hcap:cap = cs.length) (h4 : 4 ≤ cap) (i:Int):Ret Tryz.prog 98 [.slice (some ⟨g,0,none⟩) 0 cap,.int .i32 i] w0 fun _ w'=>Agr (fun k=>k = g) w0 w' ∧ w'.heap[g]? = some (.cells (bv (fixed i 4) ++ cs.drop 4).toArray 5 (0,0)):=by
  refine c_call Tryz.func98 rfl rfl fun a hk=>?_
  have hk:Kn 9 [(0,.slice (some ⟨g,0,none⟩) 0 cap),(1,.int .i32 i)] a:=hk
  have hm:Mem w0 (fun k=>k = g) (fun k=>k = g) [.blk g cs 5] w0:=Mem.startBlk (Z:=fun k=>k = g) (m:=[]) hb rfl rfl (by simp)
  refine cR0 ?_
  refine oA0 hk rfl rfl fun a hk=>?_
  refine cE0 ?_
  refine cR0 ?_
  refine oM0 hk rfl rfl fun a hk=>?_
  refine oM0 hk rfl rfl fun a hk=>?_
  refine o_convInt (c:=IntKind.u32.wrap i) hk un_21 ti_65 rfl rfl rfl fun a hk=>?_
  refine o_call hk cb_121 (appendUint32_in (hm.all _ (eA0 (i:=0) rfl)) hcap h4 (IntKind.u32.wrap i)) ⟨rfl,rfl,trivial⟩ rfl fun v1 w a hR hk=>?_
  have hm:=hm.write (i:=0) rfl hR.1 hR.2
  refine oA0 hk rfl rfl fun a hk=>?_
  refine cE0 ?_
  refine wp_ret ?_
  refine bT0 rfl hk rfl ?_
  have hr:=hm.all _ (eA0 (i:=0) rfl)
  refine ⟨hm.agr,?_⟩
  rw [fixed_u32] at hr; exact hr
end Go.Proofs.YthblgheenamnhaaGreatDoorR
