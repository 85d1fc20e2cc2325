/- Walks of functions that the seat's laws reach. -/
import Derived.Test.YtipgdlbbmlnfiaaGreatDoorL4
import Derived.Test.YtipgdlbbmlnfiaaGreatDoorRows
import Derived.Test.YtipgdlbbmlnfiaaGreatDoorFa
namespace Go.Proofs.YtipgdlbbmlnfiaaGreatDoor
open Go Go.Mk
theorem aNR {w0:World}{Y:Nat→Prop}(b:Bool):Ret Tryz.prog 158 [.bool b] w0 fun v w'=>Agr Nob w0 w'∧∃ c',v=.agg c'.toArray∧Rep w' (fun b=>b<w0.heap.size∧Y b) (ddT (aBK (if b then 1 else 0))) c':=by
  refine aAy Tryz.func158 rfl rfl fun a hk=>?_
  have hk:Kn 6 [(0,.bool b)] a:=hk
  have hm:Mem w0 Nob Y [] w0:=Mem.start rfl (by simp)
  refine cR0 ?_
  refine aA5 hk hm aJ3 rfl rfl fun a b1 w hk hm=>?_
  refine cE0 ?_
  refine wp_seq ?_
  refine cR0 ?_
  refine oM0 hk rfl rfl fun a hk=>?_
  refine cE0 ?_
  refine aAA hk rfl (fun hc=>?_) (fun hc=>?_)
  · refine cR0 ?_
    refine aAJ (r:=[.int .i64 1,.slice none 0 0,.bool false,.slice none 0 0,.slice none 0 0]) hk aJ3 rfl aRn ⟨_,_,_,rfl,rfl,aZl,rfl,rfl⟩ rfl fun a hk=>?_
    refine aAz (i:=0) hk hm aFJ rfl rfl rfl rfl rfl rfl (Nat.le_of_ble_eq_true rfl) fun a w hk hm=>?_
    refine cE0 ?_
    refine wp_ret ?_
    refine cQ0 ?_
    refine aDf (i:=0) (cs:=[.int .i64 1,.slice none 0 0,.bool false,.slice none 0 0,.slice none 0 0]) rfl aFJ hk hm rfl rfl ?_
    exact⟨hm.agr,[.int .i64 1,.slice none 0 0,.bool false,.slice none 0 0,.slice none 0 0],rfl,by rw[hc];exact aC8 (t:=.mk 1 [] false [] []) (by simp[Rep,aDJ,T.s]) (by simp[Rep,T.l]) (by simp[Rep,aBR,T.u])⟩
  · refine wp_skip ?_
    refine cT0 ?_
    refine cR0 ?_
    refine aAJ (r:=[.int .i64 0,.slice none 0 0,.bool false,.slice none 0 0,.slice none 0 0]) hk aJ3 rfl aRn rfl rfl fun a hk=>?_
    refine aAz (i:=0) hk hm aFJ rfl rfl rfl rfl rfl rfl (Nat.le_of_ble_eq_true rfl) fun a w hk hm=>?_
    refine cE0 ?_
    refine wp_ret ?_
    refine aDf (i:=0) (cs:=[.int .i64 0,.slice none 0 0,.bool false,.slice none 0 0,.slice none 0 0]) rfl aFJ hk hm rfl rfl ?_
    exact⟨hm.agr,[.int .i64 0,.slice none 0 0,.bool false,.slice none 0 0,.slice none 0 0],rfl,by rw[hc];exact aC8 (t:=.mk 0 [] false [] []) (by simp[Rep,aDJ,T.s]) (by simp[Rep,T.l]) (by simp[Rep,aBR,T.u])⟩
end Go.Proofs.YtipgdlbbmlnfiaaGreatDoor
