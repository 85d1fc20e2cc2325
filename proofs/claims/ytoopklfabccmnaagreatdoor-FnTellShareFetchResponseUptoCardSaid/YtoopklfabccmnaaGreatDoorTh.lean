/- Walks of functions that the laws of this seat reach. No statement of the seat stands here. -/
import Derived.Test.YtoopklfabccmnaaGreatDoorL4
import Derived.Test.YtoopklfabccmnaaGreatDoorRows
import Derived.Test.YtoopklfabccmnaaGreatDoorFa
namespace Go.Proofs.YtoopklfabccmnaaGreatDoor
open Go Go.Mk
theorem octetsTree_c {w0:World} {Y:Nat → Prop} {x:Value} (z:Bool) (s:List UInt8) (hzs:z = true → s = []) (hs:s.length ≤ room) (hR:Rep w0 Y (if z then .v (.slice none 0 0) else .sl true 1 (s.map ddB)) [x]):Ret Tryz.prog 246 [x] w0 fun v w'=>Agr Nob w0 w' ∧ ∃ c',v = .agg c'.toArray ∧ Rep w' (fun b=>b < w0.heap.size ∧ Y b) (ddT (.mk 0 s z [] [])) c':=by
  obtain ⟨p,cap,rfl,hpz,hB⟩:=rep_octN hzs hR
  subst hpz
  refine c_call Tryz.func246 rfl rfl fun a hk=>?_
  have hk:Kn 8 [(0,.slice p s.length cap)] a:=hk
  have hm:Mem w0 Nob Y [.rep (ddBs s) [.slice p s.length cap]] w0:=Mem.start rfl (by simp only [List.forall_mem_cons,List.not_mem_nil,false_imp_iff,implies_true,and_true]; exact hB)
  refine cR0 ?_
  refine o_alloc hk hm tz_37 rfl rfl fun a b1 w hk hm=>?_
  refine cE0 ?_
  refine cR0 ?_
  refine oM0 hk rfl rfl fun a hk=>?_
  have hm:=hm.addNil 5 1
  refine o_append (i:=0) hk hm rt_22 rfl rfl rfl (src_bs te_22 (hm.rep (i:=2) rfl)) (room_len (by omega)) (room_by (by omega)) rfl fun a v1 w hk hm _=>?_
  have hm:=hm.freezeBytes (i:=0) (s:=s) rfl (Nat.zero_add _)
  obtain ⟨p1,c1,hv1⟩:=rep_sl_len (hm.rep (i:=0) rfl)
  rw [List.length_map] at hv1
  subst hv1
  refine oM0 hk rfl rfl fun a hk=>?_
  refine o_sliceNil hk te_22 rfl rfl fun a hk=>?_
  refine o_build (r:=[.int .i64 0,.slice p1 s.length c1,.bool ((p).isNone),.slice none 0 0,.slice none 0 0]) hk tz_37 rfl fok_37 ⟨_,_,_,rfl,rfl,fa_37_1,rfl,_,_,_,rfl,rfl,fa_37_2,rfl,rfl⟩ rfl fun a hk=>?_
  refine o_store (i:=1) hk hm ts_37 rfl rfl rfl rfl rfl rfl (Nat.le_of_ble_eq_true rfl) fun a w hk hm=>?_
  refine cE0 ?_
  refine wp_ret ?_
  refine b_retCell (i:=1) (cs:=[.int .i64 0,.slice p1 s.length c1,.bool ((p).isNone),.slice none 0 0,.slice none 0 0]) rfl ts_37 hk hm rfl rfl ?_
  exact ⟨hm.agr,[.int .i64 0,.slice p1 s.length c1,.bool ((p).isNone),.slice none 0 0,.slice none 0 0],rfl,hm.out (rep_T_mk (t:=.mk 0 s p.isNone [] []) (hm.rep (i:=0) rfl) (by simp [Rep,T.l]) (by simp [Rep,ddTags,T.u]))⟩
end Go.Proofs.YtoopklfabccmnaaGreatDoor
