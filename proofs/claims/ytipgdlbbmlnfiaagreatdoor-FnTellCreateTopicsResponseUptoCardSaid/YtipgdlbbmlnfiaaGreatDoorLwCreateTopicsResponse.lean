/- Walks of functions that the seat's laws reach. -/
import Derived.Test.YtipgdlbbmlnfiaaGreatDoorL5
import Derived.Test.YtipgdlbbmlnfiaaGreatDoorRows
import Derived.Test.YtipgdlbbmlnfiaaGreatDoorFa
import Derived.Test.YtipgdlbbmlnfiaaGreatDoorTd2CreateTopicsResponse
import Derived.Test.YtipgdlbbmlnfiaaGreatDoorSxCreateTopicsResponse
import Derived.Test.YtipgdlbbmlnfiaaGreatDoorTe
import Derived.Test.YtipgdlbbmlnfiaaGreatDoorTb
import Derived.Test.YtipgdlbbmlnfiaaGreatDoorTx
namespace Go.Proofs.YtipgdlbbmlnfiaaGreatDoor
open Go Go.Mk
theorem aIh {w0:World}{Y:Nat→Prop}{t:T}{ct:List Value}{gv:Value}(n:Nat)(hn:n<256)(hT:Rep w0 Y (ddT t) ct)(hsn:t.sane=true)(hwd:t.wide=true)(hroomK:∀ V:Int,0≤V→(aBk aAe V (decide (V≥5)) t).length<4294967296)(hG:Cel w0 Y 1 0 [gv]):Ret Tryz.prog 6 [.int .u8 (n:Int),.agg ct.toArray] w0 fun v w'=>Agr Nob w0 w'∧v=.bool true:=by
 have hroom:∀ V:Int,0≤V→(aBk aAe V (decide (V≥5)) t).length≤room:=fun V hV=>Nat.le_trans (Nat.le_of_lt (hroomK V hV)) (by unfold room;omega)
 obtain⟨pst,capst,pt,capt,put,caput,rfl⟩:=aB6 hT
 refine aAy Tryz.func6 rfl rfl fun a hk=>?_
 have hk:Kn 42 [(0,.int .u8 (n:Int)),(1,.agg #[.int .i64 t.n,.slice pst t.s.length capst,.bool t.z,.slice pt t.l.length capt,.slice put t.u.length caput])] a:=hk
 have hm:Mem w0 Nob Y [.rep (ddT t) [.int .i64 t.n,.slice pst t.s.length capst,.bool t.z,.slice pt t.l.length capt,.slice put t.u.length caput],.cel 1 0 [gv]] w0:=Mem.start rfl (by simp only[List.forall_mem_cons,List.not_mem_nil,false_imp_iff,implies_true,and_true];exact⟨hT,hG⟩)
 refine cR0 ?_
 refine aFB hk hm rfl rfl rfl fun a b1 w hk hm=>?_
 refine oA0 hk rfl rfl fun a hk=>?_
 refine cE0 ?_
 refine wp_seq ?_
 refine cR0 ?_
 refine aAM (cs:=[.int .i64 t.n,.slice pst t.s.length capst,.bool t.z,.slice pt t.l.length capt,.slice put t.u.length caput]) hk aBF rfl (hm.cells_blk (i:=0) rfl rfl) rfl fun a hk=>?_
 refine aAk hk bA8 (aOn (hm.rep (i:=1) rfl)) ⟨rfl,trivial⟩ rfl fun v w a hR hk=>?_
 obtain⟨hp,rfl⟩:=hR
 have hm:=hm.pure hp
 refine aES hk rfl rfl fun a hk=>?_
 refine cE0 ?_
 refine aAA hk rfl (fun hc=>?_) (fun hc=>?_)
 ·refine cR0 ?_
  refine oA0 hk rfl rfl fun a hk=>?_
  refine cE0 ?_
  refine wp_ret ?_
  refine cQ0 ?_
  refine bT0 rfl hk rfl ?_
  exact⟨hm.agr,rfl⟩
 ·refine wp_skip ?_
  refine cT0 ?_
  refine cR0 ?_
  refine aAk hk bBH (aIg (Y:=Y)) trivial rfl fun v w a hR hk=>?_
  obtain⟨hp,rfl⟩:=hR
  have hm:=hm.pure hp
  refine oA0 hk rfl rfl fun a hk=>?_
  refine cE0 ?_
  refine wp_seq ?_
  refine cR0 ?_
  refine oM0 hk rfl rfl fun a hk=>?_
  refine aAx hk rfl rfl rfl rfl fun a hk=>?_
  refine cE0 ?_
  refine aAA hk rfl (fun hc=>?_) (fun hc=>?_)
  ·refine cR0 ?_
   refine oA0 hk rfl rfl fun a hk=>?_
   refine cE0 ?_
   refine wp_ret ?_
   refine cQ0 ?_
   refine bT0 rfl hk rfl ?_
   exact absurd hc (by decide)
  ·refine wp_skip ?_
   refine cT0 ?_
   refine cR0 ?_
   refine aAk hk bBe (aHu (Y:=Yof w0 Y [.blk b1 [.int .i64 t.n,.slice pst t.s.length capst,.bool t.z,.slice pt t.l.length capt,.slice put t.u.length caput] 26,.rep (ddT t) [.int .i64 t.n,.slice pst t.s.length capst,.bool t.z,.slice pt t.l.length capt,.slice put t.u.length caput],.cel 1 0 [gv]])) trivial rfl fun v w a hR hk=>?_
   obtain⟨hp,pm,capm,rfl,hR⟩:=hR
   have hm:=hm.result hp hR
   refine oM0 hk rfl rfl fun a hk=>?_
   refine oM0 hk rfl rfl fun a hk=>?_
   refine aAk hk aWk (aKN (Y:=Y) hn (by decide) (by decide)) ⟨rfl,rfl,trivial⟩ rfl fun v w a hR hk=>?_
   obtain⟨hp,rfl⟩:=hR
   have hm:=hm.pure hp
   obtain⟨k,hV⟩ : ∃ k:Nat,(k:Int)=(n:Int)%((7:Int)+1):=⟨((n:Int)%((7:Int)+1)).toNat,by omega⟩
   rw[← hV] at hk
   have hV1:k≤7:=by omega
   have hro:=hroom (k:Int) (by omega)
   have hroK:=hroomK (k:Int) (by omega)
   refine aA5 hk hm aMa rfl rfl fun a b2 w hk hm=>?_
   refine aAz (i:=0) hk hm aIq rfl rfl rfl rfl rfl rfl (Nat.le_of_ble_eq_true rfl) fun a w hk hm=>?_
   refine oA0 hk rfl rfl fun a hk=>?_
   refine cE0 ?_
   refine cR0 ?_
   refine oM0 hk rfl rfl fun a hk=>?_
   refine aAM (cs:=[.slice pm aAe.length capm,.int .i64 5]) hk aIq rfl (hm.cells_blk (i:=0) rfl rfl) rfl fun a hk=>?_
   refine oM0 hk rfl rfl fun a hk=>?_
   refine aAM (cs:=[.int .i64 t.n,.slice pst t.s.length capst,.bool t.z,.slice pt t.l.length capt,.slice put t.u.length caput]) hk aBF rfl (hm.cells_blk (i:=2) rfl rfl) rfl fun a hk=>?_
   refine aAk hk aWS (aOE (flex:=(decide (((k:Nat):Int)≥5))) 5 ((k:Nat):Int) (aOy (fs:=aAe) rfl (by decide)) (by simp) (hm.rep (i:=1) rfl) (hm.rep (i:=3) rfl) hsn hro) ⟨rfl,rfl,rfl,trivial⟩ rfl fun v3 w a hR hk=>?_
   have hm:=hm.rowNew hR
   obtain⟨pz8,cz8,rfl⟩:=aDx (hm.row (i:=0) rfl)
   have hm:=hm.freezeBytes (i:=0) rfl rfl
   refine aAk hk bBa (aG8 k hV1 hsn (hm.rep (i:=0) rfl) hro hroK (hm.all _ (eA0 (i:=5) rfl))) ⟨rfl,rfl,trivial⟩ rfl fun vq w a hR hk=>?_
   obtain⟨hp,cq,rfl,hR⟩:=hR
   obtain⟨csq,pq,capq,puq,capuq,rfl⟩:=aRh hR
   have hm:=hm.result hp hR
   refine oM0 hk rfl rfl fun a hk=>?_
   refine aDb hk rfl rfl rfl fun a hk=>?_
   refine aDb hk rfl rfl rfl fun a hk=>?_
   refine aA5 hk hm aJ3 rfl rfl fun a b4 w hk hm=>?_
   refine aAz (i:=0) hk hm aFJ rfl rfl rfl rfl (aBH rfl (aBH (aIK (aD2 (hm.rep (i:=1) rfl))) (aBH rfl (aBH rfl (aBH rfl rfl))))) rfl (Nat.le_of_ble_eq_true rfl) fun a w hk hm=>?_
   refine oA0 hk rfl rfl fun a hk=>?_
   refine cE0 ?_
   refine wp_seq ?_
   refine aAW (K:=13) mixed hm fun w hm=>?_
   refine aAt (k:=0) (by kernel_rfl) rfl rfl ?_
   refine oM0 hk rfl rfl fun a hk=>?_
   refine aAb (cT0 ⟨fun _=>hm,?_⟩)
   refine aAt (k:=1) (by kernel_rfl) rfl rfl ?_
   refine oM0 hk rfl rfl fun a hk=>?_
   refine aAb (cT0 ⟨fun _=>hm,?_⟩)
   refine aAX (i:=2) rfl ⟨_,_,_,rfl,rfl,rfl⟩ rfl (by kernel_rfl) (fun _ _ _ h=>h) hk rfl (fun w hm=>rF0 hk aNv rfl) hm fun a hk=>?_
   refine aAX (i:=3) rfl ⟨_,_,_,rfl,rfl,rfl⟩ rfl (by kernel_rfl) (fun _ _ _ h=>h) hk rfl (fun w hm=>aAL hk aIH rfl (hm.cell_blk (i:=3) rfl rfl)) hm fun a hk=>?_
   refine aAX (i:=4) rfl ⟨_,_,_,rfl,rfl,rfl⟩ rfl (by kernel_rfl) (fun _ _ _ h=>h) hk rfl (fun w hm=>aA6 hk rfl) hm fun a hk=>?_
   refine aAX (i:=5) rfl ⟨_,_,_,rfl,rfl,rfl⟩ rfl (by kernel_rfl) (fun _ _ _ h=>h) hk rfl (fun w hm=>aBq (cs:=[.slice pm aAe.length capm,.int .i64 5]) hk aIq rfl (hm.cells_blk (i:=3) rfl rfl)) hm fun a hk=>?_
   refine aAX (i:=6) rfl ⟨_,_,_,rfl,rfl,rfl⟩ rfl (by kernel_rfl) (fun _ _ _ h=>h) hk rfl (fun w hm=>aA6 hk rfl) hm fun a hk=>?_
   refine aAX (i:=8) rfl ⟨_,_,_,rfl,rfl,rfl⟩ rfl (by kernel_rfl) (fun _ _ _ h=>h) hk rfl (fun w hm=>aBq (cs:=[.int .i64 t.n,.slice pst t.s.length capst,.bool t.z,.slice pt t.l.length capt,.slice put t.u.length caput]) hk aBF rfl (hm.cells_blk (i:=5) rfl rfl)) hm fun a hk=>?_
   refine aAX (i:=9) rfl ⟨_,_,_,rfl,rfl,rfl⟩ rfl (by kernel_rfl) (fun _ _ _ h=>h) hk rfl (fun w hm=>aBq (cs:=[.int .i64 (((aCo aAe (aGb aAe ((k:Nat):Int) (decide (((k:Nat):Int)≥5)) t))).n),csq,.bool (((aCo aAe (aGb aAe ((k:Nat):Int) (decide (((k:Nat):Int)≥5)) t))).z),.slice pq (((aCo aAe (aGb aAe ((k:Nat):Int) (decide (((k:Nat):Int)≥5)) t))).l.length) capq,.slice puq ((aCo aAe (aGb aAe ((k:Nat):Int) (decide (((k:Nat):Int)≥5)) t)).u.length) capuq]) hk aFJ rfl (hm.cells_blk (i:=0) rfl rfl)) hm fun a hk=>?_
   refine aBU (k:=7) (by kernel_rfl) rfl hk ⟨_,_,_,rfl,rfl,rfl⟩ rfl ?_
   refine aAk hk aV9 (aJS 5 ((k:Nat):Int) (hm.rep (i:=4) rfl)) ⟨rfl,rfl,trivial⟩ rfl fun v w a hR hk=>?_
   obtain⟨hp,rfl⟩:=hR
   have hm:=hm.pure hp
   rw[show (decide ((5:Int)≥0)&&decide (((k:Nat):Int)≥5))=(decide (((k:Nat):Int)≥5)) by simp] at hk
   refine aAb (cT0 ⟨fun _=>hm,?_⟩)
   refine aBU (k:=10) (by kernel_rfl) rfl hk ⟨_,_,_,rfl,rfl,rfl⟩ rfl ?_
   refine aAk hk aTM (aVN (aCo aAe (aGb aAe ((k:Nat):Int) (decide (((k:Nat):Int)≥5)) t)) (hm.rep (i:=1) rfl) (aE8 _ (aGh rfl (by decide) _ (aDX rfl (by decide) t)))) ⟨rfl,trivial⟩ rfl fun v w a hR hk=>?_
   obtain⟨hp,cg,rfl,hR⟩:=hR
   obtain⟨psg,capsg,pg,capg,pug,capug,rfl⟩:=aB6 hR
   have hm:=hm.result hp hR
   refine aAb (cT0 ⟨fun _=>hm.tail,?_⟩)
   refine aBU (k:=11) (by kernel_rfl) rfl hk ⟨_,_,_,rfl,rfl,rfl⟩ rfl ?_
   refine aAk hk aTh ((aRA (fs:=aAe) rfl (by decide)) ((k:Nat):Int) (decide (((k:Nat):Int)≥5)) (hm.rep (i:=5) rfl) (hm.rep (i:=7) rfl) (hm.rep (i:=0) rfl) hsn (aKK rfl (by decide) _ (aLd rfl (by decide) t hsn)) (aE8 _ (aGh rfl (by decide) _ (aDX rfl (by decide) t)))) ⟨rfl,rfl,rfl,rfl,rfl,trivial⟩ rfl fun v w a hR hk=>?_
   obtain⟨hp,rfl⟩:=hR
   have hm:=hm.pure hp
   rw[aK5 rfl rfl t hwd] at hk
   refine aAb (cT0 ⟨fun _=>hm.tail,?_⟩)
   refine aAt (k:=12) (by kernel_rfl) rfl rfl ?_
   refine aAI hk rfl rfl rfl rfl rfl fun a hk=>?_
   refine aAb (cT0 ⟨fun _=>hm.tail,?_⟩)
   refine aAt (k:=13) (by kernel_rfl) rfl rfl ?_
   refine oA0 hk rfl rfl fun a hk=>?_
   refine aAb (cT0 ⟨fun h=>Bool.noConfusion (show true=false from h),?_⟩)
   refine aBh (by kernel_rfl) ?_ _
   refine cT0 ?_
   refine wp_ret ?_
   refine bT0 rfl hk rfl ?_
   exact⟨hm.agr,rfl⟩
end Go.Proofs.YtipgdlbbmlnfiaaGreatDoor
