/- Walks of functions that the seat's laws reach. -/
import Derived.Test.YtipgdlbbmlnfiaaGreatDoorL4
import Derived.Test.YtipgdlbbmlnfiaaGreatDoorRows
import Derived.Test.YtipgdlbbmlnfiaaGreatDoorFa
namespace Go.Proofs.YtipgdlbbmlnfiaaGreatDoor
open Go Go.Mk
theorem aLy {w0:World}{Y:Nat→Prop}{x:Value}(z:Bool)(s:List UInt8)(hR:Rep w0 Y (if z then .v (.pointer none) else .ptr (.v (.string (bs s)))) [x]):Ret Tryz.prog 87 [x] w0 fun v w'=>Agr Nob w0 w'∧∃ c',v=.agg c'.toArray∧Rep w' (fun b=>b<w0.heap.size∧Y b) (ddT (if z then ofNil else aCk s)) c':=by
  cases z with
  | true =>
    obtain rfl:x=.pointer none:=aEI hR
    refine aAy Tryz.func87 rfl rfl fun a hk=>?_
    have hk:Kn 11 [(0,.pointer none)] a:=hk
    have hm:Mem w0 Nob Y [] w0:=Mem.start rfl (by simp)
    refine cR0 ?_
    refine aA5 hk hm aJ3 rfl rfl fun a b1 w hk hm=>?_
    refine cE0 ?_
    refine wp_seq ?_
    refine cR0 ?_
    refine oM0 hk rfl rfl fun a hk=>?_
    refine aR8 hk aXt rfl rfl fun a hk=>?_
    refine cE0 ?_
    refine aEm hk rfl ?_
    refine cR0 ?_
    refine aAJ (r:=[.int .i64 0,.slice none 0 0,.bool true,.slice none 0 0,.slice none 0 0]) hk aJ3 rfl aRn ⟨_,_,_,rfl,rfl,aYt,rfl,rfl⟩ rfl fun a hk=>?_
    refine aAz (i:=0) hk hm aFJ rfl rfl rfl rfl rfl rfl (Nat.le_of_ble_eq_true rfl) fun a w hk hm=>?_
    refine cE0 ?_
    refine wp_ret ?_
    refine cQ0 ?_
    refine aDf (i:=0) (cs:=[.int .i64 0,.slice none 0 0,.bool true,.slice none 0 0,.slice none 0 0]) rfl aFJ hk hm rfl rfl ?_
    exact⟨hm.agr,[.int .i64 0,.slice none 0 0,.bool true,.slice none 0 0,.slice none 0 0],rfl,aC8 (t:=.mk 0 [] true [] []) (by simp[Rep,aDJ,T.s]) (by simp[Rep,T.l]) (by simp[Rep,aBR,T.u])⟩
  | false =>
    obtain⟨b,o,cs,hx,hC,hr0⟩ : ∃ b o cs,[x]=[Value.pointer (some ⟨b,o,none⟩)]∧Cel w0 Y b o cs∧Rep w0 Y (.v (.string (bs s))) cs:=by
      have hR2:Rep w0 Y (.ptr (.v (.string (bs s)))) [x]:=hR
      simpa only[Rep] using hR2
    simp only[Rep] at hr0
    subst hr0
    obtain rfl:x=.pointer (some ⟨b,o,none⟩):=by simpa using hx
    refine aAy Tryz.func87 rfl rfl fun a hk=>?_
    have hk:Kn 11 [(0,.pointer (some ⟨b,o,none⟩))] a:=hk
    have hm:Mem w0 Nob Y [.cel b o [.string (bs s)]] w0:=Mem.start rfl (by simp only[List.forall_mem_cons,List.not_mem_nil,false_imp_iff,implies_true,and_true];exact hC)
    refine cR0 ?_
    refine aA5 hk hm aJ3 rfl rfl fun a b1 w hk hm=>?_
    refine cE0 ?_
    refine wp_seq ?_
    refine cR0 ?_
    refine oM0 hk rfl rfl fun a hk=>?_
    refine aR8 hk aXt rfl rfl fun a hk=>?_
    refine cE0 ?_
    refine aB9 hk rfl ?_
    refine wp_skip ?_
    refine cT0 ?_
    refine cR0 ?_
    refine oM0 hk rfl rfl fun a hk=>?_
    refine oN0 hk rfl rfl fun a hk=>?_
    refine aAq hk aVe rfl (hm.cell_cel (i:=1) (j:=0) rfl rfl) rfl fun a hk=>?_
    refine aLW (s:=s) hk hm aS5 aLp rfl rfl fun a px2 cx2 w hk hm=>?_
    refine aAJ (r:=[.int .i64 0,.slice px2 s.length cx2,.bool false,.slice none 0 0,.slice none 0 0]) hk aJ3 rfl aRn ⟨_,_,_,rfl,rfl,aZd,rfl,rfl⟩ rfl fun a hk=>?_
    refine aAz (i:=1) hk hm aFJ rfl rfl rfl rfl rfl rfl (Nat.le_of_ble_eq_true rfl) fun a w hk hm=>?_
    refine cE0 ?_
    refine wp_ret ?_
    refine aDf (i:=1) (cs:=[.int .i64 0,.slice px2 s.length cx2,.bool false,.slice none 0 0,.slice none 0 0]) rfl aFJ hk hm rfl rfl ?_
    exact⟨hm.agr,[.int .i64 0,.slice px2 s.length cx2,.bool false,.slice none 0 0,.slice none 0 0],rfl,hm.out (aC8 (t:=.mk 0 s false [] []) (hm.rep (i:=0) rfl) (by simp[Rep,T.l]) (by simp[Rep,aBR,T.u]))⟩
end Go.Proofs.YtipgdlbbmlnfiaaGreatDoor
