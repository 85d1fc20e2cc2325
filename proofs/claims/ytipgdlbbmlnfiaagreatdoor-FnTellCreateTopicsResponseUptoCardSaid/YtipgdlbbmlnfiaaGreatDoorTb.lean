/- Walks of functions that the seat's laws reach. -/
import Derived.Test.YtipgdlbbmlnfiaaGreatDoorL4
import Derived.Test.YtipgdlbbmlnfiaaGreatDoorRows
import Derived.Test.YtipgdlbbmlnfiaaGreatDoorFa
import Derived.Test.YtipgdlbbmlnfiaaGreatDoorSb
namespace Go.Proofs.YtipgdlbbmlnfiaaGreatDoor
open Go Go.Mk
def bCa (t:T):Prop:=∀ {w0:World} {Y:Nat→Prop} {c:List Value},Rep w0 Y (ddT t) c→t.small=true→Ret Tryz.prog 15 [.agg c.toArray] w0 fun v w'=>Agr Nob w0 w'∧∃ c',v=.agg c'.toArray∧Rep w' (fun b=>b<w0.heap.size∧Y b) (ddT t) c'
theorem aW9 {t:T}(ih:∀ x ∈ t.l,bCa x):bCa t:=by
 intro w0 Y c hT hsm
 have hs:=aLJ hsm
 obtain⟨ps,caps,p,cap,pu,capu,rfl⟩:=aB6 hT
 refine aAy Tryz.func15 rfl rfl fun a hk=>?_
 have hk:Kn 49 [(0,.agg #[.int .i64 t.n,.slice ps t.s.length caps,.bool t.z,.slice p t.l.length cap,.slice pu t.u.length capu])] a:=hk
 have hm:Mem w0 Nob Y [.rep (ddT t) [.int .i64 t.n,.slice ps t.s.length caps,.bool t.z,.slice p t.l.length cap,.slice pu t.u.length capu]] w0:=Mem.start rfl (by simp only[List.forall_mem_cons,List.not_mem_nil,false_imp_iff,implies_true,and_true];exact hT)
 refine cR0 ?_
 refine aFB hk hm rfl rfl rfl fun a b1 w hk hm=>?_
 refine aA5 hk hm aLn rfl rfl fun a b2 w hk hm=>?_
 refine cE0 ?_
 refine cR0 ?_
 refine oF0 hk aY2 rfl rfl fun a hk=>?_
 refine aAq hk aOX rfl (hm.cell_blk (i:=1) rfl rfl) rfl fun a hk=>?_
 refine oF0 hk aY6 rfl rfl fun a hk=>?_
 refine aAq hk aBy rfl (hm.cell_blk (i:=1) rfl rfl) rfl fun a hk=>?_
 refine oF0 hk aY8 rfl rfl fun a hk=>?_
 refine aAq hk aHp rfl (hm.cell_blk (i:=1) rfl rfl) rfl fun a hk=>?_
 refine aAJ (r:=[.int .i64 t.n,.slice ps t.s.length caps,.bool t.z,.slice none 0 0,.slice none 0 0]) hk aLn rfl aQd ⟨_,_,_,rfl,rfl,aZx,rfl,_,_,_,rfl,rfl,aYN,rfl,_,_,_,rfl,rfl,aY4,rfl,rfl⟩ rfl fun a hk=>?_
 refine aA5 hk hm aLn rfl rfl fun a b3 w hk hm=>?_
 refine aAz (i:=0) hk hm aBF rfl rfl rfl rfl rfl rfl (Nat.le_of_ble_eq_true rfl) fun a w hk hm=>?_
 refine cE0 ?_
 refine wp_seq ?_
 refine cR0 ?_
 refine oF0 hk aX1 rfl rfl fun a hk=>?_
 refine aAq hk bBi rfl (hm.cell_blk (i:=2) rfl rfl) rfl fun a hk=>?_
 refine oL0 hk bAW rfl rfl fun a hk=>?_
 refine oM0 hk rfl rfl fun a hk=>?_
 refine cE0 ?_
 have hm:=hm.addNil 26 5
 have hm:=hm.addEls 5
 refine aCF (L0:=[(1,.pointer (some ⟨b1,0,none⟩)),(2,.pointer (some ⟨b2,0,none⟩)),(3,.pointer (some ⟨b3,0,none⟩)),(16,.slice p t.l.length cap)]) (N:=t.l.length) (by omega) (fun k L w=>∃ vr xs,L=[(1,.pointer (some ⟨b1,0,none⟩)),(2,.pointer (some ⟨b2,0,none⟩)),(3,.pointer (some ⟨b3,0,none⟩)),(16,.slice p t.l.length cap)]∧Mem w0 Nob Y [.els 5 ((t.l.take k).map ddT) xs,.row 26 5 vr k xs,.blk b3 [.int .i64 t.n,.slice ps t.s.length caps,.bool t.z,vr,.slice none 0 0] 26,.blk b2 [.int .i64 0,.slice none 0 0,.bool false,.slice none 0 0,.slice none 0 0] 26,.blk b1 [.int .i64 t.n,.slice ps t.s.length caps,.bool t.z,.slice p t.l.length cap,.slice pu t.u.length capu] 37,.rep (ddT t) [.int .i64 t.n,.slice ps t.s.length caps,.bool t.z,.slice p t.l.length cap,.slice pu t.u.length capu]] w) (hk.sub ⟨rfl,rfl,rfl,rfl,rfl,rfl,trivial⟩) ⟨_,_,rfl,hm⟩ rfl rfl rfl rfl rfl rfl rfl (fun k L a w hlt hR hk=>?_) rfl (fun L a w hR hk=>?_)
 ·obtain⟨vr,xs,rfl,hm⟩:=hR
  obtain⟨hltx,blx,offx,ex,hplx,helx,hRex,hCex⟩:=aBa (aKF (hm.rep (i:=5) rfl)) (aBw ddT t.l k T.nil hlt)
  obtain⟨psx,capsx,px,capx,pux,capux,rfl⟩:=aB6 hRex
  have hm:=hm.add (e:=.rep (ddT (t.l.getD k T.nil)) [.int .i64 ((t.l.getD k T.nil).n),.slice psx ((t.l.getD k T.nil).s.length) capsx,.bool ((t.l.getD k T.nil).z),.slice px ((t.l.getD k T.nil).l.length) capx,.slice pux ((t.l.getD k T.nil).u.length) capux]) rfl hRex
  have hm:=hm.add (e:=.cel blx (offx+k*5) [.int .i64 ((t.l.getD k T.nil).n),.slice psx ((t.l.getD k T.nil).s.length) capsx,.bool ((t.l.getD k T.nil).z),.slice px ((t.l.getD k T.nil).l.length) capx,.slice pux ((t.l.getD k T.nil).u.length) capux]) rfl hCex
  refine cR0 ?_
  refine oI0 (j:=k) (b:=blx) (off:=offx) hk bAW aFJ (by rw[← hplx];rfl) rfl hltx rfl fun a hk=>?_
  refine aAM (cs:=[.int .i64 ((t.l.getD k T.nil).n),.slice psx ((t.l.getD k T.nil).s.length) capsx,.bool ((t.l.getD k T.nil).z),.slice px ((t.l.getD k T.nil).l.length) capx,.slice pux ((t.l.getD k T.nil).u.length) capux]) hk aFJ rfl (hm.cells_cel (i:=0) (k:=0) rfl rfl) rfl fun a hk=>?_
  refine aA5 hk hm aJ3 rfl rfl fun a b4 w hk hm=>?_
  refine aAz (i:=0) hk hm aFJ rfl rfl rfl rfl rfl rfl (Nat.le_of_ble_eq_true rfl) fun a w hk hm=>?_
  refine cE0 ?_
  refine aAW (K:=5) mixed hm fun w hm=>?_
  refine aAh (i:=0) rfl rfl rfl (by kernel_rfl) (fun _ _ _ h=>h) hk rfl (fun w hm=>rF0 hk aDB rfl) hm fun a hk=>?_
  refine aAh (i:=1) rfl rfl rfl (by kernel_rfl) (fun _ _ _ h=>h) hk rfl (fun w hm=>aAL hk aIw rfl (hm.cell_blk (i:=5) rfl rfl)) hm fun a hk=>?_
  refine aAt (k:=2) (by kernel_rfl) rfl rfl ?_
  refine aAM (cs:=[.int .i64 ((t.l.getD k T.nil).n),.slice psx ((t.l.getD k T.nil).s.length) capsx,.bool ((t.l.getD k T.nil).z),.slice px ((t.l.getD k T.nil).l.length) capx,.slice pux ((t.l.getD k T.nil).u.length) capux]) hk aFJ rfl (hm.cells_blk (i:=0) rfl rfl) rfl fun a hk=>?_
  refine aAb (cT0 ⟨fun _=>hm,?_⟩)
  refine aAt (k:=3) (by kernel_rfl) rfl rfl ?_
  refine aAk hk aTM (ih (t.l.getD k T.nil) (aC9 hlt) (hm.rep (i:=2) rfl) (aJJ hsm k)) ⟨rfl,trivial⟩ rfl fun v w a hR hk=>?_
  obtain⟨hp,cg,rfl,hR⟩:=hR
  obtain⟨psg,capsg,pg,capg,pug,capug,rfl⟩:=aB6 hR
  have hm:=hm.result hp hR
  refine aAb (cT0 ⟨fun _=>hm.tail,?_⟩)
  refine aAt (k:=4) (by kernel_rfl) rfl rfl ?_
  refine aAP (r:=[.int .i64 ((t.l.getD k T.nil).n),.slice psg ((t.l.getD k T.nil).s.length) capsg,.bool ((t.l.getD k T.nil).z),.slice pg ((t.l.getD k T.nil).l.length) capg,.slice pug ((t.l.getD k T.nil).u.length) capug]) hk hm aVB aLn rfl rfl rfl ⟨_,_,_,rfl,rfl,rfl,rfl,rfl⟩ rfl fun a b5 w hk hm=>?_
  refine aAb (cT0 ⟨fun _=>hm.tail.tail,?_⟩)
  refine aAt (k:=5) (by kernel_rfl) rfl rfl ?_
  refine aBs (i:=6) hk hm aVB rfl rfl rfl (aDP (k:=1) (news:=[.int .i64 ((t.l.getD k T.nil).n),.slice psg ((t.l.getD k T.nil).s.length) capsg,.bool ((t.l.getD k T.nil).z),.slice pg ((t.l.getD k T.nil).l.length) capg,.slice pug ((t.l.getD k T.nil).u.length) capug]) aGn rfl (hm.cells_blk (i:=0) rfl rfl) rfl) (by unfold maxLen;omega) (by omega) rfl fun a v6 w hk hm hnilv6=>?_
  refine aAb (cT0 ⟨fun h=>Bool.noConfusion (show true=false from h),?_⟩)
  refine aAt (k:=6) (by kernel_rfl) rfl rfl ?_
  refine oF0 hk aDB rfl rfl fun a hk=>?_
  refine aAb (cT0 ⟨fun h=>Bool.noConfusion (show true=false from h),?_⟩)
  refine aAt (k:=7) (by kernel_rfl) rfl rfl ?_
  refine aAz (i:=7) hk hm aIw rfl rfl (aE7 (aHV (hm.row (i:=6) rfl))) rfl (aVT (aHV (hm.row (i:=6) rfl))) rfl (Nat.le_of_ble_eq_true rfl) fun a w hk hm=>?_
  refine aAb (cT0 ⟨fun h=>Bool.noConfusion (show true=false from h),?_⟩)
  refine aBh (by kernel_rfl) ?_ _
  refine cN0 ?_
  have hm:=hm.elsPush (i:=5) (d:=(ddT (t.l.getD k T.nil))) rfl (hm.rep (i:=1) rfl) rfl
  rw[← aFu ddT t.l k T.nil hlt] at hm
  exact aBb (L':=[(1,.pointer (some ⟨b1,0,none⟩)),(2,.pointer (some ⟨b2,0,none⟩)),(3,.pointer (some ⟨b3,0,none⟩)),(16,.slice p t.l.length cap)]) hk ⟨rfl,rfl,rfl,rfl,rfl,rfl,trivial⟩ rfl ⟨_,_,rfl,hm.tail.tail.tail.tail.tail⟩
 ·obtain⟨vl1,xl1,rfl,hm⟩:=hR
  have hovl1:=aHV (hm.row (i:=1) rfl)
  have hm:=hm.freezeRow (i:=1) (st:=false) rfl (noX _) (hm.els (i:=0) rfl) (by simp only[List.length_map,List.length_take,Nat.min_self]) (fun _=>rfl)
  rw[List.take_length] at hm
  refine cT0 ?_
  refine wp_seq ?_
  refine cR0 ?_
  refine oF0 hk aX5 rfl rfl fun a hk=>?_
  refine aAq hk bBx rfl (hm.cell_blk (i:=4) rfl rfl) rfl fun a hk=>?_
  refine oL0 hk aUr rfl rfl fun a hk=>?_
  refine oM0 hk rfl rfl fun a hk=>?_
  refine cE0 ?_
  have hm:=hm.addNil 66 2
  have hm:=hm.addEls 2
  refine aCF (L0:=[(2,.pointer (some ⟨b2,0,none⟩)),(3,.pointer (some ⟨b3,0,none⟩)),(31,.slice pu t.u.length capu)]) (N:=t.u.length) (by omega) (fun k L w=>∃ vr xs,L=[(2,.pointer (some ⟨b2,0,none⟩)),(3,.pointer (some ⟨b3,0,none⟩)),(31,.slice pu t.u.length capu)]∧Mem w0 Nob Y [.els 2 ((t.u.take k).map aBT) xs,.row 66 2 vr k xs,.els 5 ((t.l).map ddT) xl1,.rep (.sl false 5 ((t.l).map ddT)) [vl1],.blk b3 [.int .i64 t.n,.slice ps t.s.length caps,.bool t.z,vl1,vr] 26,.blk b2 [.int .i64 0,.slice none 0 0,.bool false,.slice none 0 0,.slice none 0 0] 26,.blk b1 [.int .i64 t.n,.slice ps t.s.length caps,.bool t.z,.slice p t.l.length cap,.slice pu t.u.length capu] 37,.rep (ddT t) [.int .i64 t.n,.slice ps t.s.length caps,.bool t.z,.slice p t.l.length cap,.slice pu t.u.length capu]] w) (hk.sub ⟨rfl,rfl,rfl,rfl,rfl,trivial⟩) ⟨_,_,rfl,hm⟩ rfl rfl rfl rfl rfl rfl rfl (fun k L a w hlt hR hk=>?_) rfl (fun L a w hR hk=>?_)
  ·obtain⟨vr,xs,rfl,hm⟩:=hR
   obtain⟨hlty,bly,offy,ey,hply,hely,hRey,hCey⟩:=aBa (aKl (hm.rep (i:=7) rfl)) (aBw aBT t.u k (0,[]) hlt)
   obtain⟨pty,capty,rfl,-⟩:=aG4 hRey
   have hm:=hm.add (e:=.rep (aBT (t.u.getD k (0,[]))) [.int .u32 (((t.u.getD k (0,[])).1:Nat):Int),.slice pty ((t.u.getD k (0,[])).2.length) capty]) rfl hRey
   have hm:=hm.add (e:=.cel bly (offy+k*2) [.int .u32 (((t.u.getD k (0,[])).1:Nat):Int),.slice pty ((t.u.getD k (0,[])).2.length) capty]) rfl hCey
   refine cR0 ?_
   refine oI0 (j:=k) (b:=bly) (off:=offy) hk aUr aU1 (by rw[← hply];rfl) rfl hlty rfl fun a hk=>?_
   refine aAM (cs:=[.int .u32 (((t.u.getD k (0,[])).1:Nat):Int),.slice pty ((t.u.getD k (0,[])).2.length) capty]) hk aU1 rfl (hm.cells_cel (i:=0) (k:=0) rfl rfl) rfl fun a hk=>?_
   refine aA5 hk hm bBO rfl rfl fun a b7 w hk hm=>?_
   refine aAz (i:=0) hk hm aU1 rfl rfl rfl rfl rfl rfl (Nat.le_of_ble_eq_true rfl) fun a w hk hm=>?_
   refine cE0 ?_
   refine aC2 ?_
   refine oF0 hk aGC rfl rfl fun a hk=>?_
   refine aAq hk aL7 rfl (hm.cell_blk (i:=7) rfl rfl) rfl fun a hk=>?_
   refine oF0 hk aRa rfl rfl fun a hk=>?_
   refine aAq hk aLv rfl (hm.cell_blk (i:=0) rfl rfl) rfl fun a hk=>?_
   refine oF0 hk aZq rfl rfl fun a hk=>?_
   refine aAq hk aBy rfl (hm.cell_blk (i:=0) rfl rfl) rfl fun a hk=>?_
   refine aAJ (r:=[.int .u32 (((t.u.getD k (0,[])).1:Nat):Int),.slice pty ((t.u.getD k (0,[])).2.length) capty]) hk aPR rfl aXQ ⟨_,_,_,rfl,rfl,aYB,rfl,_,_,_,rfl,rfl,aYU,rfl,rfl⟩ rfl fun a hk=>?_
   refine aAP (r:=[.int .u32 (((t.u.getD k (0,[])).1:Nat):Int),.slice pty ((t.u.getD k (0,[])).2.length) capty]) hk hm aWM aPR rfl rfl rfl ⟨_,_,_,rfl,rfl,rfl,rfl,rfl⟩ rfl fun a b8 w hk hm=>?_
   refine aBs (i:=5) hk hm aWM rfl rfl rfl (aDP (k:=1) (news:=[.int .u32 (((t.u.getD k (0,[])).1:Nat):Int),.slice pty ((t.u.getD k (0,[])).2.length) capty]) aE0 rfl (hm.cells_blk (i:=0) rfl rfl) rfl) (by unfold maxLen;omega) (by omega) rfl fun a v9 w hk hm hnilv9=>?_
   refine oF0 hk aGC rfl rfl fun a hk=>?_
   refine aAz (i:=8) hk hm aL7 rfl rfl (aE7 (aHV (hm.row (i:=5) rfl))) rfl (aVT (aHV (hm.row (i:=5) rfl))) rfl (Nat.le_of_ble_eq_true rfl) fun a w hk hm=>?_
   refine aAb ?_
   refine cN0 ?_
   have hm:=hm.elsPush (i:=4) (d:=(aBT (t.u.getD k (0,[])))) rfl (hm.rep (i:=3) rfl) rfl
   rw[← aFu aBT t.u k (0,[]) hlt] at hm
   exact aBb (L':=[(2,.pointer (some ⟨b2,0,none⟩)),(3,.pointer (some ⟨b3,0,none⟩)),(31,.slice pu t.u.length capu)]) hk ⟨rfl,rfl,rfl,rfl,rfl,trivial⟩ rfl ⟨_,_,rfl,hm.tail.tail.tail.tail⟩
  ·obtain⟨vl2,xl2,rfl,hm⟩:=hR
   have hovl2:=aHV (hm.row (i:=1) rfl)
   have hm:=hm.freezeRow (i:=1) (st:=false) rfl (noX _) (hm.els (i:=0) rfl) (by simp only[List.length_map,List.length_take,Nat.min_self]) (fun _=>rfl)
   rw[List.take_length] at hm
   refine cT0 ?_
   refine cR0 ?_
   refine aAM (cs:=[.int .i64 t.n,.slice ps t.s.length caps,.bool t.z,vl1,vl2]) hk aBF rfl (hm.cells_blk (i:=4) rfl rfl) rfl fun a hk=>?_
   refine aAz (i:=5) hk hm aBF rfl rfl rfl rfl (aBH rfl (aBH rfl (aBH rfl (aBH hovl1 (aBH hovl2 rfl))))) rfl (Nat.le_of_ble_eq_true rfl) fun a w hk hm=>?_
   refine cE0 ?_
   refine wp_ret ?_
   refine aDf (i:=5) (cs:=[.int .i64 t.n,.slice ps t.s.length caps,.bool t.z,vl1,vl2]) rfl aBF hk hm rfl rfl ?_
   refine⟨hm.agr,_,rfl,hm.out (aC8 (aD2 (hm.rep (i:=7) rfl)) (hm.rep (i:=3) rfl) (hm.rep (i:=1) rfl))⟩
theorem aVN:∀ t,bCa t:=aYL fun t ih=>aW9 ih
end Go.Proofs.YtipgdlbbmlnfiaaGreatDoor
