/- Walks of functions that the laws of this seat reach. No statement of the seat stands here. -/
import Derived.Test.YtoopklfabccmnaaGreatDoorL4
import Derived.Test.YtoopklfabccmnaaGreatDoorRows
import Derived.Test.YtoopklfabccmnaaGreatDoorFa
namespace Go.Proofs.YtoopklfabccmnaaGreatDoor
open Go Go.Mk
theorem boolTree_c {w0:World} {Y:Nat → Prop} (b:Bool):Ret Tryz.prog 243 [.bool b] w0 fun v w'=>Agr Nob w0 w' ∧ ∃ c',v = .agg c'.toArray ∧ Rep w' (fun b=>b < w0.heap.size ∧ Y b) (ddT (ofNum (if b then 1 else 0))) c':=by
  refine c_call Tryz.func243 rfl rfl fun a hk=>?_
  have hk:Kn 6 [(0,.bool b)] a:=hk
  have hm:Mem w0 Nob Y [] w0:=Mem.start rfl (by simp)
  refine cR0 ?_
  refine o_alloc hk hm tz_37 rfl rfl fun a b1 w hk hm=>?_
  refine cE0 ?_
  refine wp_seq ?_
  refine cR0 ?_
  refine oM0 hk rfl rfl fun a hk=>?_
  refine cE0 ?_
  refine c_cond hk rfl (fun hc=>?_) (fun hc=>?_)
  · refine cR0 ?_
    refine o_build (r:=[.int .i64 1,.slice none 0 0,.bool false,.slice none 0 0,.slice none 0 0]) hk tz_37 rfl fok_37 ⟨_,_,_,rfl,rfl,fa_37_0,rfl,rfl⟩ rfl fun a hk=>?_
    refine o_store (i:=0) hk hm ts_37 rfl rfl rfl rfl rfl rfl (Nat.le_of_ble_eq_true rfl) fun a w hk hm=>?_
    refine cE0 ?_
    refine wp_ret ?_
    refine cQ0 ?_
    refine b_retCell (i:=0) (cs:=[.int .i64 1,.slice none 0 0,.bool false,.slice none 0 0,.slice none 0 0]) rfl ts_37 hk hm rfl rfl ?_
    exact ⟨hm.agr,[.int .i64 1,.slice none 0 0,.bool false,.slice none 0 0,.slice none 0 0],rfl,by rw [hc]; exact rep_T_mk (t:=.mk 1 [] false [] []) (by simp [Rep,ddBs,T.s]) (by simp [Rep,T.l]) (by simp [Rep,ddTags,T.u])⟩
  · refine wp_skip ?_
    refine cT0 ?_
    refine cR0 ?_
    refine o_build (r:=[.int .i64 0,.slice none 0 0,.bool false,.slice none 0 0,.slice none 0 0]) hk tz_37 rfl fok_37 rfl rfl fun a hk=>?_
    refine o_store (i:=0) hk hm ts_37 rfl rfl rfl rfl rfl rfl (Nat.le_of_ble_eq_true rfl) fun a w hk hm=>?_
    refine cE0 ?_
    refine wp_ret ?_
    refine b_retCell (i:=0) (cs:=[.int .i64 0,.slice none 0 0,.bool false,.slice none 0 0,.slice none 0 0]) rfl ts_37 hk hm rfl rfl ?_
    exact ⟨hm.agr,[.int .i64 0,.slice none 0 0,.bool false,.slice none 0 0,.slice none 0 0],rfl,by rw [hc]; exact rep_T_mk (t:=.mk 0 [] false [] []) (by simp [Rep,ddBs,T.s]) (by simp [Rep,T.l]) (by simp [Rep,ddTags,T.u])⟩
end Go.Proofs.YtoopklfabccmnaaGreatDoor
