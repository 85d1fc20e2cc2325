/- Walks of functions that the seat's laws reach. -/
import Derived.Test.YtipgdlbbmlnfiaaGreatDoorL2
import Derived.Test.YtipgdlbbmlnfiaaGreatDoorRows
import Derived.Test.YtipgdlbbmlnfiaaGreatDoorFa
import Derived.Test.YtipgdlbbmlnfiaaGreatDoorSb
namespace Go.Proofs.YtipgdlbbmlnfiaaGreatDoor
open Go Go.Mk
theorem aLf {w0:World}{Y:Nat→Prop}{fs:List Fld}{us:List (Nat × List UInt8)}{pf pu:Option Addr}{cf cu:Nat}(hF:Rep w0 Y (.sl false 8 (fs.map aBg)) [.slice pf fs.length cf])(hU:Rep w0 Y (aBR us) [.slice pu us.length cu])(hl:fs.length≤32767)(hok:aIt fs=true):Ret Tryz.prog 39 [.slice pf fs.length cf,.slice pu us.length cu] w0 fun v w'=>Agr Nob w0 w'∧∃ p cap,v=.slice p (aAo fs us).length cap∧Rep w' (fun b=>b<w0.heap.size∧Y b) (aBR (aAo fs us)) [.slice p (aAo fs us).length cap]:=by
 obtain⟨lt,hlt0⟩ : ∃ y,y=us.take 32767:=⟨_,rfl⟩
 have hll:lt.length≤32767:=by rw[hlt0,List.length_take];omega
 have hl2:lt.length≤us.length:=by rw[hlt0,List.length_take];omega
 obtain⟨hcap,hT⟩:=aKd hU lt.length hl2
 have hU2:Rep w0 Y (aBR lt) [.slice pu lt.length cu]:=by subst hlt0;exact aOv hT
 refine aAy Tryz.func39 rfl rfl fun a hk=>?_
 have hk:Kn 85 [(0,.slice pf fs.length cf),(1,.slice pu us.length cu)] a:=hk
 have hm:Mem w0 Nob Y [.rep (.sl false 8 (fs.map aBg)) [.slice pf fs.length cf],.rep (aBR lt) [.slice pu lt.length cu]] w0:=Mem.start rfl (by simp only[List.forall_mem_cons,List.not_mem_nil,false_imp_iff,implies_true,and_true];exact⟨hF,hU2⟩)
 obtain⟨kn,hkn⟩ : ∃ y,y=known fs:=⟨_,rfl⟩
 have hkl:=aOT hok
 rw[← hkn] at hkl
 refine cR0 ?_
 refine oA0 hk rfl rfl fun a hk=>?_
 refine cE0 ?_
 refine cR0 ?_
 refine oM0 hk rfl rfl fun a hk=>?_
 refine aAk hk aZH (aTY (hm.rep (i:=0) rfl) hl hok) ⟨rfl,trivial⟩ rfl fun v w a hR hk=>?_
 obtain⟨hp,rfl⟩:=hR
 have hm:=hm.pure hp
 rw[← hkn] at hk
 refine oA0 hk rfl rfl fun a hk=>?_
 refine cE0 ?_
 refine cR0 ?_
 refine oA0 hk rfl rfl fun a hk=>?_
 refine cE0 ?_
 refine wp_seq ?_
 refine cR0 ?_
 refine oM0 hk rfl rfl fun a hk=>?_
 refine oM0 hk rfl rfl fun a hk=>?_
 refine oL0 hk aE0 rfl rfl fun a hk=>?_
 refine aYD (c:=((lt.length:Nat):Int)) hk rfl rfl (by rw[hlt0,List.length_take];omega) rfl fun a hk=>?_
 refine aKO (k:=lt.length) hk aE0 aGA rfl rfl hcap rfl fun a hk=>?_
 refine oL0 hk aE0 rfl rfl fun a hk=>?_
 refine oM0 hk rfl rfl fun a hk=>?_
 refine cE0 ?_
 have hm:=hm.addNil 66 2
 have hm:=hm.addEls 2
 refine aCF (L0:=[(5,.int .u32 ((kn:Nat):Int)),(6,.slice none 0 0),(17,.slice pu lt.length cu)]) (N:=lt.length) (by omega) (fun k L w=>∃ rp rc xs,L=[(5,.int .u32 ((kn:Nat):Int)),(6,.slice rp ((aPk kn (lt.take k)).length) rc),(17,.slice pu lt.length cu)]∧Mem w0 Nob Y [.els 2 ((aPk kn (lt.take k)).map aBT) xs,.row 66 2 (.slice rp (aPk kn (lt.take k)).length rc) ((aPk kn (lt.take k)).length) xs,.rep (.sl false 8 (fs.map aBg)) [.slice pf fs.length cf],.rep (aBR lt) [.slice pu lt.length cu]] w) (hk.sub ⟨rfl,rfl,rfl,rfl,rfl,trivial⟩) ⟨_,_,_,rfl,hm⟩ rfl rfl rfl rfl rfl rfl rfl (fun k L a w hlt hR hk=>?_) rfl (fun L a w hR hk=>?_)
 ·obtain⟨rp,rc,xs,rfl,hm⟩:=hR
  have hsu:=aP7 kn lt k hlt
  have hol:=aID kn lt k
  obtain⟨out,hout⟩ : ∃ y,y=aPk kn (lt.take k):=⟨_,rfl⟩
  rw[← hout] at hk hm hsu hol
  obtain⟨tu,htu⟩ : ∃ y,y=lt.getD k (0,[]):=⟨_,rfl⟩
  rw[← htu] at hsu
  obtain⟨hltt,blt,offt,et,hplt,helt,hRet,hCet⟩:=aBa (hm.rep (i:=3) rfl) (aBw aBT lt k (0,[]) hlt)
  obtain⟨ptt,captt,rfl,-⟩:=aG4 hRet
  have hm:=hm.add (e:=.rep (aBT (lt.getD k (0,[]))) [.int .u32 (((lt.getD k (0,[])).1:Nat):Int),.slice ptt ((lt.getD k (0,[])).2.length) captt]) rfl hRet
  have hm:=hm.add (e:=.cel blt (offt+k*2) [.int .u32 (((lt.getD k (0,[])).1:Nat):Int),.slice ptt ((lt.getD k (0,[])).2.length) captt]) rfl hCet
  rw[← htu] at hm hRet hCet
  refine cR0 ?_
  refine oI0 (j:=k) (b:=blt) (off:=offt) hk aE0 aGA (by rw[← hplt];rfl) rfl hltt rfl fun a hk=>?_
  refine aAM (cs:=[.int .u32 ((tu.1:Nat):Int),.slice ptt tu.2.length captt]) hk aGA rfl (hm.cells_cel (i:=0) (k:=0) rfl rfl) rfl fun a hk=>?_
  refine aA5 hk hm aPR rfl rfl fun a b1 w hk hm=>?_
  refine aAz (i:=0) hk hm aGA rfl rfl rfl rfl rfl rfl (Nat.le_of_ble_eq_true rfl) fun a w hk hm=>?_
  refine cE0 ?_
  refine cR0 ?_
  refine oA0 hk rfl rfl fun a hk=>?_
  refine cE0 ?_
  refine wp_seq ?_
  refine aRq (fun a w=>∃ i,Kn 85 [(5,.int .u32 ((kn:Nat):Int)),(6,.slice rp out.length rc),(8,.pointer (some ⟨b1,0,none⟩)),(9,.int .i64 ((i:Nat):Int)),(17,.slice pu lt.length cu),(18,.int .i64 ((lt.length:Nat):Int)),(19,.int .i64 ((k:Nat):Int))] a∧i≤out.length∧(∀ j<i,(out.getD j (0,[])).1<tu.1)∧(i<out.length→¬ (out.getD i (0,[])).1<tu.1)∧Mem w0 Nob Y [.blk b1 [.int .u32 ((tu.1:Nat):Int),.slice ptt tu.2.length captt] 66,.cel blt (offt+k*2) [.int .u32 ((tu.1:Nat):Int),.slice ptt tu.2.length captt],.rep (aBT tu) [.int .u32 ((tu.1:Nat):Int),.slice ptt tu.2.length captt],.els 2 (out.map aBT) xs,.row 66 2 (.slice rp out.length rc) out.length xs,.rep (.sl false 8 (fs.map aBg)) [.slice pf fs.length cf],.rep (aBR lt) [.slice pu lt.length cu]] w) ?_ (fun a w hJ=>?_)
  ·refine aL3 (fun g a w=>∃ i,Kn 85 [(5,.int .u32 ((kn:Nat):Int)),(6,.slice rp out.length rc),(8,.pointer (some ⟨b1,0,none⟩)),(9,.int .i64 ((i:Nat):Int)),(17,.slice pu lt.length cu),(18,.int .i64 ((lt.length:Nat):Int)),(19,.int .i64 ((k:Nat):Int))] a∧g+i=out.length∧(∀ j<i,(out.getD j (0,[])).1<tu.1)∧Mem w0 Nob Y [.blk b1 [.int .u32 ((tu.1:Nat):Int),.slice ptt tu.2.length captt] 66,.cel blt (offt+k*2) [.int .u32 ((tu.1:Nat):Int),.slice ptt tu.2.length captt],.rep (aBT tu) [.int .u32 ((tu.1:Nat):Int),.slice ptt tu.2.length captt],.els 2 (out.map aBT) xs,.row 66 2 (.slice rp out.length rc) out.length xs,.rep (.sl false 8 (fs.map aBg)) [.slice pf fs.length cf],.rep (aBR lt) [.slice pu lt.length cu]] w) out.length ⟨0,hk.sub ⟨rfl,rfl,rfl,rfl,rfl,rfl,rfl,trivial⟩,(by omega),(fun j hj=>by omega),hm⟩ (fun g a w hJ=>?_)
   obtain⟨i,hk,hI0,hI1,hm⟩:=hJ
   refine wp_seq ?_
   refine wp_seq ?_
   refine aAW (K:=13) mixed hm fun w hm=>?_
   refine aAh (i:=0) rfl rfl rfl (by kernel_rfl) (fun _ _ _ h=>h) hk rfl (fun w hm=>aA6 hk rfl) hm fun a hk=>?_
   refine aAt (k:=1) (by kernel_rfl) rfl rfl ?_
   refine oM0 hk rfl rfl fun a hk=>?_
   refine aAb (cT0 ⟨fun _=>hm,?_⟩)
   refine aAt (k:=2) (by kernel_rfl) rfl rfl ?_
   refine oL0 hk aE0 rfl rfl fun a hk=>?_
   refine aAb (cT0 ⟨fun _=>hm,?_⟩)
   refine aAt (k:=3) (by kernel_rfl) rfl rfl ?_
   refine aAx hk rfl rfl rfl rfl fun a hk=>?_
   refine aAb (cT0 ⟨fun _=>hm,?_⟩)
   refine aAt (k:=4) (by kernel_rfl) rfl rfl ?_
   refine oM0 hk rfl rfl fun a hk=>?_
   refine aAb (cT0 ⟨fun _=>hm,?_⟩)
   rcases Bool.eq_false_or_eq_true (decide ((((i:Nat):Int):Int)<((out.length:Nat):Int))) with hb2|hb2
   ·rw[hb2] at hk
    have hin:i<out.length:=by simp only[decide_eq_true_eq] at hb2;omega
    obtain⟨pe,ce,hcells,hRe⟩:=aOU (hm.els (i:=3) rfl) hin
    have hc2:=aIT hcells
    obtain⟨g0,rfl⟩:=aLC (hm.row (i:=4) rfl) (by omega)
    refine aAX (i:=5) rfl ⟨_,_,_,rfl,rfl,rfl⟩ rfl (by kernel_rfl) (fun _ _ _ h=>h) hk rfl (fun w hm=>aA6 hk rfl) hm fun a hk=>?_
    refine aAX (i:=6) rfl ⟨_,_,_,rfl,rfl,rfl⟩ rfl (by kernel_rfl) (fun _ _ _ h=>h) hk rfl (fun w hm=>aA6 hk rfl) hm fun a hk=>?_
    refine aAX (i:=7) rfl ⟨_,_,_,rfl,rfl,rfl⟩ rfl (by kernel_rfl) (fun _ _ _ h=>h) hk rfl (fun w hm=>aA4 (j:=i) hk aE0 aGA rfl rfl hin) hm fun a hk=>?_
    refine aAX (i:=8) rfl ⟨_,_,_,rfl,rfl,rfl⟩ rfl (by kernel_rfl) (fun _ _ _ h=>h) hk rfl (fun w hm=>rF0 hk aJi rfl) hm fun a hk=>?_
    refine aAX (i:=9) rfl ⟨_,_,_,rfl,rfl,rfl⟩ rfl (by kernel_rfl) (fun _ _ _ h=>h) hk rfl (fun w hm=>aAL hk aLv rfl (hm.rowCell (i:=4) (o:=0) rfl hc2.1)) hm fun a hk=>?_
    refine aBU (k:=10) (by kernel_rfl) rfl hk ⟨_,_,_,rfl,rfl,rfl⟩ rfl ?_
    refine oF0 hk aJi rfl rfl fun a hk=>?_
    refine aAb (cT0 ⟨fun _=>hm,?_⟩)
    refine aBU (k:=11) (by kernel_rfl) rfl hk ⟨_,_,_,rfl,rfl,rfl⟩ rfl ?_
    refine aAq hk aLv rfl (hm.cell_blk (i:=0) rfl rfl) rfl fun a hk=>?_
    refine aAb (cT0 ⟨fun _=>hm,?_⟩)
    refine aBU (k:=12) (by kernel_rfl) rfl hk ⟨_,_,_,rfl,rfl,rfl⟩ rfl ?_
    refine aAx hk rfl rfl rfl rfl fun a hk=>?_
    refine aAb (cT0 ⟨fun _=>hm,?_⟩)
    refine aAt (k:=13) (by kernel_rfl) rfl rfl ?_
    refine aAI hk rfl rfl rfl rfl rfl fun a hk=>?_
    refine aAb (cT0 ⟨fun h=>Bool.noConfusion (show true=false from h),?_⟩)
    refine aBh (by kernel_rfl) ?_ _
    refine cT0 ?_
    refine aAA hk rfl (fun hc=>?_) (fun hc=>?_)
    ·refine wp_skip ?_
     refine cT0 ?_
     refine wp_block ?_
     refine aC2 ?_
     refine oM0 hk rfl rfl fun a hk=>?_
     refine aCj (c:=((i+1:Nat):Int)) hk rfl rfl rfl (by rw[IntWalk.i64_in _ (by omega)];omega) rfl fun a hk=>?_
     refine oA0 hk rfl rfl fun a hk=>?_
     refine aAb ?_
     refine cN0 ?_
     refine cT0 ?_
     have hci:(out.getD i (0,[])).1<tu.1:=by simp only[decide_eq_true_eq] at hc;omega
     exact⟨_,(by omega),_,hk.sub ⟨rfl,rfl,rfl,rfl,rfl,rfl,rfl,trivial⟩,(show (g - 1)+(i+1)=out.length by omega),(fun j hj=>by rcases Nat.lt_succ_iff_lt_or_eq.1 hj with h|h;exact hI1 j h;exact h ▸ hci),hm⟩
    ·refine wp_exit ?_
     refine aBd ?_
     refine aBd ?_
     refine aD9 ?_
     refine cT0 ?_
     exact⟨i,hk.sub ⟨rfl,rfl,rfl,rfl,rfl,rfl,rfl,trivial⟩,by omega,hI1,(fun _=>by simp only[decide_eq_false_iff_not] at hc;omega),hm⟩
   ·rw[hb2] at hk
    refine aBQ (i:=5) rfl ⟨_,_,_,_,rfl,rfl,rfl,aAT⟩ rfl (by kernel_rfl) (fun _ _ _ h=>h) hk rfl hm fun a hk=>?_
    refine aBQ (i:=6) rfl ⟨_,_,_,_,rfl,rfl,rfl,aAT⟩ rfl (by kernel_rfl) (fun _ _ _ h=>h) hk rfl hm fun a hk=>?_
    refine aBQ (i:=7) rfl ⟨_,_,_,_,rfl,rfl,rfl,aAT⟩ rfl (by kernel_rfl) (fun _ _ _ h=>h) hk rfl hm fun a hk=>?_
    refine aBQ (i:=8) rfl ⟨_,_,_,_,rfl,rfl,rfl,aAT⟩ rfl (by kernel_rfl) (fun _ _ _ h=>h) hk rfl hm fun a hk=>?_
    refine aBQ (i:=9) rfl ⟨_,_,_,_,rfl,rfl,rfl,aAT⟩ rfl (by kernel_rfl) (fun _ _ _ h=>h) hk rfl hm fun a hk=>?_
    refine aCU (k:=10) (by kernel_rfl) rfl hk ⟨_,_,_,_,rfl,rfl,rfl,aAT⟩ rfl rfl hm fun a hk=>?_
    refine aCU (k:=11) (by kernel_rfl) rfl hk ⟨_,_,_,_,rfl,rfl,rfl,aAT⟩ rfl rfl hm fun a hk=>?_
    refine aCU (k:=12) (by kernel_rfl) rfl hk ⟨_,_,_,_,rfl,rfl,rfl,aAT⟩ rfl rfl hm fun a hk=>?_
    refine aAt (k:=13) (by kernel_rfl) rfl rfl ?_
    refine aAI hk rfl rfl rfl rfl rfl fun a hk=>?_
    refine aAb (cT0 ⟨fun h=>Bool.noConfusion (show true=false from h),?_⟩)
    refine aBh (by kernel_rfl) ?_ _
    refine cT0 ?_
    refine aB9 hk rfl ?_
    refine wp_exit ?_
    refine aBd ?_
    refine aBd ?_
    refine aD9 ?_
    refine cT0 ?_
    exact⟨i,hk.sub ⟨rfl,rfl,rfl,rfl,rfl,rfl,rfl,trivial⟩,by omega,hI1,(fun h=>absurd h (by simp only[decide_eq_false_iff_not] at hb2;omega)),hm⟩
  obtain⟨i,hk,hil,his,hix,hm⟩:=hJ
  refine wp_seq ?_
  refine aUT (fun a w=>Kn 85 [(58,.bool (decide (tu.1<kn)||(decide (i<out.length)&&decide ((out.getD i (0,[])).1=tu.1)))),(5,.int .u32 ((kn:Nat):Int)),(6,.slice rp out.length rc),(8,.pointer (some ⟨b1,0,none⟩)),(9,.int .i64 ((i:Nat):Int)),(17,.slice pu lt.length cu),(18,.int .i64 ((lt.length:Nat):Int)),(19,.int .i64 ((k:Nat):Int))] a∧Mem w0 Nob Y [.blk b1 [.int .u32 ((tu.1:Nat):Int),.slice ptt tu.2.length captt] 66,.cel blt (offt+k*2) [.int .u32 ((tu.1:Nat):Int),.slice ptt tu.2.length captt],.rep (aBT tu) [.int .u32 ((tu.1:Nat):Int),.slice ptt tu.2.length captt],.els 2 (out.map aBT) xs,.row 66 2 (.slice rp out.length rc) out.length xs,.rep (.sl false 8 (fs.map aBg)) [.slice pf fs.length cf],.rep (aBR lt) [.slice pu lt.length cu]] w) ?_ (fun a w hJ=>?_)
  ·refine aAW (K:=19) mixed hm fun w hm=>?_
   refine aAh (i:=0) rfl rfl rfl (by kernel_rfl) (fun _ _ _ h=>h) hk rfl (fun w hm=>rF0 hk aJi rfl) hm fun a hk=>?_
   refine aAh (i:=1) rfl rfl rfl (by kernel_rfl) (fun _ _ _ h=>h) hk rfl (fun w hm=>aAL hk aLv rfl (hm.cell_blk (i:=0) rfl rfl)) hm fun a hk=>?_
   refine aAt (k:=2) (by kernel_rfl) rfl rfl ?_
   refine oM0 hk rfl rfl fun a hk=>?_
   refine aAb (cT0 ⟨fun _=>hm,?_⟩)
   refine aAt (k:=3) (by kernel_rfl) rfl rfl ?_
   refine aAx hk rfl rfl rfl rfl fun a hk=>?_
   refine aAb (cT0 ⟨fun _=>hm,?_⟩)
   refine aAt (k:=4) (by kernel_rfl) rfl rfl ?_
   refine oM0 hk rfl rfl fun a hk=>?_
   refine aAb (cT0 ⟨fun _=>hm,?_⟩)
   rcases Bool.eq_false_or_eq_true (decide ((((tu.1:Nat):Int):Int)<((kn:Nat):Int))) with hb3|hb3
   ·rw[hb3] at hk
    refine aBQ (i:=5) rfl ⟨_,_,_,_,rfl,rfl,rfl,aB0⟩ rfl (by kernel_rfl) (fun _ _ _ h=>h) hk rfl hm fun a hk=>?_
    refine aCU (k:=6) (by kernel_rfl) rfl hk ⟨_,_,_,_,rfl,rfl,rfl,aB0⟩ rfl rfl hm fun a hk=>?_
    refine aCU (k:=7) (by kernel_rfl) rfl hk ⟨_,_,_,_,rfl,rfl,rfl,aB0⟩ rfl rfl hm fun a hk=>?_
    refine aCU (k:=8) (by kernel_rfl) rfl hk ⟨_,_,_,_,rfl,rfl,rfl,aB0⟩ rfl rfl hm fun a hk=>?_
    refine aCU (k:=9) (by kernel_rfl) rfl hk ⟨_,_,_,_,rfl,rfl,rfl,aB0⟩ rfl rfl hm fun a hk=>?_
    refine aBQ (i:=10) rfl ⟨_,_,_,_,rfl,rfl,rfl,(aLK _)⟩ rfl (by kernel_rfl) (fun _ _ _ h=>h) hk rfl hm fun a hk=>?_
    refine aBQ (i:=11) rfl ⟨_,_,_,_,rfl,rfl,rfl,(aLK _)⟩ rfl (by kernel_rfl) (fun _ _ _ h=>h) hk rfl hm fun a hk=>?_
    refine aBQ (i:=12) rfl ⟨_,_,_,_,rfl,rfl,rfl,(aLK _)⟩ rfl (by kernel_rfl) (fun _ _ _ h=>h) hk rfl hm fun a hk=>?_
    refine aBQ (i:=13) rfl ⟨_,_,_,_,rfl,rfl,rfl,(aLK _)⟩ rfl (by kernel_rfl) (fun _ _ _ h=>h) hk rfl hm fun a hk=>?_
    refine aBQ (i:=14) rfl ⟨_,_,_,_,rfl,rfl,rfl,(aLK _)⟩ rfl (by kernel_rfl) (fun _ _ _ h=>h) hk rfl hm fun a hk=>?_
    refine aCU (k:=15) (by kernel_rfl) rfl hk ⟨_,_,_,_,rfl,rfl,rfl,(aLK _)⟩ rfl rfl hm fun a hk=>?_
    refine aCU (k:=16) (by kernel_rfl) rfl hk ⟨_,_,_,_,rfl,rfl,rfl,(aLK _)⟩ rfl rfl hm fun a hk=>?_
    refine aCU (k:=17) (by kernel_rfl) rfl hk ⟨_,_,_,_,rfl,rfl,rfl,(aLK _)⟩ rfl rfl hm fun a hk=>?_
    refine aCU (k:=18) (by kernel_rfl) rfl hk ⟨_,_,_,_,rfl,rfl,rfl,aB0⟩ rfl rfl hm fun a hk=>?_
    refine aAt (k:=19) (by kernel_rfl) rfl rfl ?_
    refine aAI hk rfl rfl rfl rfl rfl fun a hk=>?_
    refine aAb (cT0 ⟨fun h=>Bool.noConfusion (show true=false from h),?_⟩)
    refine aBh (by kernel_rfl) ?_ _
    refine cT0 ?_
    have e:(.bool (true):Value)=.bool (decide (tu.1<kn)||(decide (i<out.length)&&decide ((out.getD i (0,[])).1=tu.1))):=by simp only[decide_eq_true_eq,decide_eq_false_iff_not,Int.ofNat_lt] at hb3;exact congrArg Value.bool (Bool.eq_iff_iff.2 (by simp[hb3];try omega))
    exact⟨hk.sub ⟨(Eq.trans (b:=some (.bool (true))) rfl (congrArg some e)),rfl,rfl,rfl,rfl,rfl,rfl,rfl,trivial⟩,hm⟩
   ·rw[hb3] at hk
    refine aAX (i:=5) rfl ⟨_,_,_,rfl,rfl,rfl⟩ rfl (by kernel_rfl) (fun _ _ _ h=>h) hk rfl (fun w hm=>aA6 hk rfl) hm fun a hk=>?_
    refine aBU (k:=6) (by kernel_rfl) rfl hk ⟨_,_,_,rfl,rfl,rfl⟩ rfl ?_
    refine oM0 hk rfl rfl fun a hk=>?_
    refine aAb (cT0 ⟨fun _=>hm,?_⟩)
    refine aBU (k:=7) (by kernel_rfl) rfl hk ⟨_,_,_,rfl,rfl,rfl⟩ rfl ?_
    refine oL0 hk aE0 rfl rfl fun a hk=>?_
    refine aAb (cT0 ⟨fun _=>hm,?_⟩)
    refine aBU (k:=8) (by kernel_rfl) rfl hk ⟨_,_,_,rfl,rfl,rfl⟩ rfl ?_
    refine aAx hk rfl rfl rfl rfl fun a hk=>?_
    refine aAb (cT0 ⟨fun _=>hm,?_⟩)
    refine aBU (k:=9) (by kernel_rfl) rfl hk ⟨_,_,_,rfl,rfl,rfl⟩ rfl ?_
    refine oM0 hk rfl rfl fun a hk=>?_
    refine aAb (cT0 ⟨fun _=>hm,?_⟩)
    rcases Bool.eq_false_or_eq_true (decide ((((i:Nat):Int):Int)<((out.length:Nat):Int))) with hb4|hb4
    ·rw[hb4] at hk
     have hin:i<out.length:=by simp only[decide_eq_true_eq] at hb4;omega
     obtain⟨pe,ce,hcells,hRe⟩:=aOU (hm.els (i:=3) rfl) hin
     have hc2:=aIT hcells
     obtain⟨g0,rfl⟩:=aLC (hm.row (i:=4) rfl) (by omega)
     refine aAX (i:=10) rfl ⟨_,_,_,rfl,rfl,rfl⟩ rfl (by kernel_rfl) (fun _ _ _ h=>h) hk rfl (fun w hm=>aA6 hk rfl) hm fun a hk=>?_
     refine aAX (i:=11) rfl ⟨_,_,_,rfl,rfl,rfl⟩ rfl (by kernel_rfl) (fun _ _ _ h=>h) hk rfl (fun w hm=>aA6 hk rfl) hm fun a hk=>?_
     refine aAX (i:=12) rfl ⟨_,_,_,rfl,rfl,rfl⟩ rfl (by kernel_rfl) (fun _ _ _ h=>h) hk rfl (fun w hm=>aA4 (j:=i) hk aE0 aGA rfl rfl hin) hm fun a hk=>?_
     refine aAX (i:=13) rfl ⟨_,_,_,rfl,rfl,rfl⟩ rfl (by kernel_rfl) (fun _ _ _ h=>h) hk rfl (fun w hm=>rF0 hk aJi rfl) hm fun a hk=>?_
     refine aAX (i:=14) rfl ⟨_,_,_,rfl,rfl,rfl⟩ rfl (by kernel_rfl) (fun _ _ _ h=>h) hk rfl (fun w hm=>aAL hk aLv rfl (hm.rowCell (i:=4) (o:=0) rfl hc2.1)) hm fun a hk=>?_
     refine aBU (k:=15) (by kernel_rfl) rfl hk ⟨_,_,_,rfl,rfl,rfl⟩ rfl ?_
     refine oF0 hk aJi rfl rfl fun a hk=>?_
     refine aAb (cT0 ⟨fun _=>hm,?_⟩)
     refine aBU (k:=16) (by kernel_rfl) rfl hk ⟨_,_,_,rfl,rfl,rfl⟩ rfl ?_
     refine aAq hk aLv rfl (hm.cell_blk (i:=0) rfl rfl) rfl fun a hk=>?_
     refine aAb (cT0 ⟨fun _=>hm,?_⟩)
     refine aBU (k:=17) (by kernel_rfl) rfl hk ⟨_,_,_,rfl,rfl,rfl⟩ rfl ?_
     refine aAx hk rfl rfl rfl rfl fun a hk=>?_
     refine aAb (cT0 ⟨fun _=>hm,?_⟩)
     refine aBU (k:=18) (by kernel_rfl) rfl hk ⟨_,_,_,rfl,rfl,rfl⟩ rfl ?_
     refine aAI hk rfl rfl rfl rfl rfl fun a hk=>?_
     refine aAb (cT0 ⟨fun _=>hm,?_⟩)
     refine aAt (k:=19) (by kernel_rfl) rfl rfl ?_
     refine aAI hk rfl rfl rfl rfl rfl fun a hk=>?_
     refine aAb (cT0 ⟨fun h=>Bool.noConfusion (show true=false from h),?_⟩)
     refine aBh (by kernel_rfl) ?_ _
     refine cT0 ?_
     have e:(.bool ((((((out.getD i (0,[])).1:Nat):Int):Int)==((tu.1:Nat):Int))):Value)=.bool (decide (tu.1<kn)||(decide (i<out.length)&&decide ((out.getD i (0,[])).1=tu.1))):=by simp only[decide_eq_true_eq,decide_eq_false_iff_not,Int.ofNat_lt] at hb3 hb4;exact congrArg Value.bool (Bool.eq_iff_iff.2 (by simp[hb3,hb4];try omega))
     exact⟨hk.sub ⟨(Eq.trans (b:=some (.bool ((((((out.getD i (0,[])).1:Nat):Int):Int)==((tu.1:Nat):Int))))) rfl (congrArg some e)),rfl,(by first|rfl|(rw[hb3];rfl)|(rw[hb4];rfl)),rfl,rfl,rfl,rfl,rfl,trivial⟩,hm⟩
    ·rw[hb4] at hk
     refine aBQ (i:=10) rfl ⟨_,_,_,_,rfl,rfl,rfl,aAT⟩ rfl (by kernel_rfl) (fun _ _ _ h=>h) hk rfl hm fun a hk=>?_
     refine aBQ (i:=11) rfl ⟨_,_,_,_,rfl,rfl,rfl,aAT⟩ rfl (by kernel_rfl) (fun _ _ _ h=>h) hk rfl hm fun a hk=>?_
     refine aBQ (i:=12) rfl ⟨_,_,_,_,rfl,rfl,rfl,aAT⟩ rfl (by kernel_rfl) (fun _ _ _ h=>h) hk rfl hm fun a hk=>?_
     refine aBQ (i:=13) rfl ⟨_,_,_,_,rfl,rfl,rfl,aAT⟩ rfl (by kernel_rfl) (fun _ _ _ h=>h) hk rfl hm fun a hk=>?_
     refine aBQ (i:=14) rfl ⟨_,_,_,_,rfl,rfl,rfl,aAT⟩ rfl (by kernel_rfl) (fun _ _ _ h=>h) hk rfl hm fun a hk=>?_
     refine aCU (k:=15) (by kernel_rfl) rfl hk ⟨_,_,_,_,rfl,rfl,rfl,aAT⟩ rfl rfl hm fun a hk=>?_
     refine aCU (k:=16) (by kernel_rfl) rfl hk ⟨_,_,_,_,rfl,rfl,rfl,aAT⟩ rfl rfl hm fun a hk=>?_
     refine aCU (k:=17) (by kernel_rfl) rfl hk ⟨_,_,_,_,rfl,rfl,rfl,aAT⟩ rfl rfl hm fun a hk=>?_
     refine aBU (k:=18) (by kernel_rfl) rfl hk ⟨_,_,_,rfl,rfl,rfl⟩ rfl ?_
     refine aAI hk rfl rfl rfl rfl rfl fun a hk=>?_
     refine aAb (cT0 ⟨fun _=>hm,?_⟩)
     refine aAt (k:=19) (by kernel_rfl) rfl rfl ?_
     refine aAI hk rfl rfl rfl rfl rfl fun a hk=>?_
     refine aAb (cT0 ⟨fun h=>Bool.noConfusion (show true=false from h),?_⟩)
     refine aBh (by kernel_rfl) ?_ _
     refine cT0 ?_
     have e:(.bool (false):Value)=.bool (decide (tu.1<kn)||(decide (i<out.length)&&decide ((out.getD i (0,[])).1=tu.1))):=by simp only[decide_eq_true_eq,decide_eq_false_iff_not,Int.ofNat_lt] at hb3 hb4;exact congrArg Value.bool (Bool.eq_iff_iff.2 (by simp[hb3,hb4];try omega))
     exact⟨hk.sub ⟨(Eq.trans (b:=some (.bool (false))) rfl (congrArg some e)),rfl,rfl,rfl,rfl,rfl,rfl,rfl,trivial⟩,hm⟩
  obtain⟨hk,hm⟩:=hJ
  refine aAA hk rfl (fun hc=>?_) (fun hc=>?_)
  ·have hfin:out=aPk kn (lt.take (k+1)):=by
    rw[hsu]
    split
    ·rfl
    ·rename_i hlt9
     simp only[hlt9,decide_false,Bool.false_or,Bool.and_eq_true,decide_eq_true_eq] at hc
     exact (aRr his hc.1 hc.2).symm
   refine wp_exit ?_
   refine aBd ?_
   refine aD9 ?_
   have hm:=hm.pick [3,4,5,6] rfl rfl
   rw[hfin] at hm hk
   exact aBb (L':=[(5,.int .u32 ((kn:Nat):Int)),(6,.slice rp ((aPk kn (lt.take (k+1))).length) rc),(17,.slice pu lt.length cu)]) hk ⟨rfl,rfl,rfl,rfl,rfl,trivial⟩ rfl ⟨_,_,_,rfl,hm⟩
  ·have hcx:=hc
   simp only[Bool.or_eq_false_iff,decide_eq_false_iff_not,Bool.and_eq_false_iff] at hcx
   refine wp_skip ?_
   refine cT0 ?_
   refine cR0 ?_
   refine oM0 hk rfl rfl fun a hk=>?_
   refine aAJ (r:=[.int .u32 0,.slice none 0 0]) hk aPR rfl aXQ rfl rfl fun a hk=>?_
   refine aAP (r:=[.int .u32 0,.slice none 0 0]) hk hm aWM aPR rfl rfl rfl ⟨_,_,_,rfl,rfl,rfl,rfl,rfl⟩ rfl fun a b5 w hk hm=>?_
   refine aBs (i:=5) hk hm aWM rfl rfl rfl (aDP (k:=1) (news:=[.int .u32 0,.slice none 0 0]) aE0 rfl (hm.cells_blk (i:=0) rfl rfl) rfl) (by unfold maxLen;omega) (by omega) rfl fun a vz w hk hm _=>?_
   obtain⟨rp1,rc1,rfl⟩:=aDx (hm.row (i:=5) rfl)
   obtain⟨g1,rfl⟩:=aLC (hm.row (i:=5) rfl) (by omega)
   have hm:=hm.elsPush (i:=4) (d:=aBT (0,[])) (c:=[.int .u32 0,.slice none 0 0]) rfl (aLL (by simp[Rep,aDJ])) rfl
   have e0:out.map aBT++[aBT (0,[])]=(out++[(0,[])]).map aBT:=by simp
   rw[e0] at hm
   refine oA0 hk rfl rfl fun a hk=>?_
   refine cE0 ?_
   refine wp_seq ?_
   refine cR0 ?_
   refine oM0 hk rfl rfl fun a hk=>?_
   refine oL0 hk aE0 rfl rfl fun a hk=>?_
   refine aCj (c:=((out.length:Nat):Int)) hk rfl rfl rfl (by rw[IntWalk.i64_in _ (by omega)];omega) rfl fun a hk=>?_
   refine oA0 hk rfl rfl fun a hk=>?_
   refine cE0 ?_
   refine aL3 (fun g a w=>∃ (kk:Nat) (cur:List (Nat × List UInt8)) (xs2:List Value),Kn 85 [(5,.int .u32 ((kn:Nat):Int)),(6,.slice (some ⟨g1,0,none⟩) (out.length+1) rc1),(8,.pointer (some ⟨b1,0,none⟩)),(9,.int .i64 ((i:Nat):Int)),(10,.int .i64 ((kk:Nat):Int)),(17,.slice pu lt.length cu),(18,.int .i64 ((lt.length:Nat):Int)),(19,.int .i64 ((k:Nat):Int))] a∧kk=g+i∧kk≤out.length∧cur.length=out.length+1∧cur.take kk=out.take kk∧cur.drop (kk+1)=out.drop kk∧Mem w0 Nob Y [.blk b5 [.int .u32 0,.slice none 0 0] 66,.blk b1 [.int .u32 ((tu.1:Nat):Int),.slice ptt tu.2.length captt] 66,.cel blt (offt+k*2) [.int .u32 ((tu.1:Nat):Int),.slice ptt tu.2.length captt],.rep (aBT tu) [.int .u32 ((tu.1:Nat):Int),.slice ptt tu.2.length captt],.els 2 (cur.map aBT) xs2,.row 66 2 (.slice (some ⟨g1,0,none⟩) (out.length+1) rc1) (out.length+1) xs2,.rep (.sl false 8 (fs.map aBg)) [.slice pf fs.length cf],.rep (aBR lt) [.slice pu lt.length cu]] w) (out.length - i) ⟨out.length,(out++[(0,[])]),_,hk.sub ⟨rfl,rfl,rfl,rfl,rfl,rfl,rfl,rfl,trivial⟩,(by omega),(Nat.le_refl _),(by simp),(by simp),(by simp),hm⟩ (fun g a w hJ=>?_)
   obtain⟨kk,cur,xs2,hk,hI0,hI1,hI2,hI3,hI4,hm⟩:=hJ
   refine wp_seq ?_
   refine cR0 ?_
   refine oM0 hk rfl rfl fun a hk=>?_
   refine oM0 hk rfl rfl fun a hk=>?_
   refine aAx hk rfl rfl rfl rfl fun a hk=>?_
   refine cE0 ?_
   refine aAA hk rfl (fun hc=>?_) (fun hc=>?_)
   ·refine wp_skip ?_
    refine cT0 ?_
    refine wp_seq ?_
    refine wp_block ?_
    refine aC2 ?_
    refine oM0 hk rfl rfl fun a hk=>?_
    refine oM0 hk rfl rfl fun a hk=>?_
    refine oM0 hk rfl rfl fun a hk=>?_
    refine oM0 hk rfl rfl fun a hk=>?_
    refine aCj (c:=((kk - 1:Nat):Int)) hk rfl rfl rfl (by simp only[gt_iff_lt,decide_eq_true_eq] at hc;rw[IntWalk.i64_in _ (by omega)];omega) rfl fun a hk=>?_
    obtain⟨j0,rfl⟩ : ∃ j,kk=j+1:=⟨kk - 1,by simp only[gt_iff_lt,decide_eq_true_eq] at hc;omega⟩
    have e1:((j0+1 - 1:Nat):Int)=(j0:Int):=by omega
    rw[e1] at hk
    have hgt:i<j0+1:=by simp only[gt_iff_lt,decide_eq_true_eq] at hc;omega
    have hsh:=aSM hI2 hI1 hI3 hI4
    obtain⟨pe,ce,hcells,hRe⟩:=aOU (hm.els (i:=4) rfl) (show j0<cur.length by omega)
    have hc2:=aIT hcells
    refine oI0 (j:=j0) hk aE0 aGA rfl rfl (by omega) rfl fun a hk=>?_
    refine aAM (cs:=[.int .u32 (((cur.getD j0 (0,[])).1:Nat):Int),.slice pe ((cur.getD j0 (0,[])).2.length) ce]) hk aGA rfl (hm.rowCells (i:=5) rfl hcells) rfl fun a hk=>?_
    refine oI0 (j:=j0+1) hk aE0 aGA rfl rfl (by omega) rfl fun a hk=>?_
    refine aLH (i:=5) (off:=0+(j0+1)*2) hk hm aGA rfl rfl rfl rfl rfl rfl (show 0+(j0+1)*2+2≤(out.length+1)*2 by omega) fun a w hk hm=>?_
    rw[Nat.zero_add] at hm
    obtain⟨_,_,hcellz,hRz⟩:=aOU (hm.els (i:=4) rfl) (show j0<cur.length by omega)
    have hRz2:=hRz;rw[← hcellz,hcells] at hRz2
    have hm:=hm.elsSet (i:=4) (j:=(j0+1)) (d:=aBT (cur.getD j0 (0,[]))) rfl (by rw[List.length_map];omega) (hRz2) rfl
    rw[← List.map_set] at hm
    refine aAb ?_
    refine cN0 ?_
    refine cT0 ?_
    refine aC2 ?_
    refine oM0 hk rfl rfl fun a hk=>?_
    refine aCj (c:=((j0:Nat):Int)) hk rfl rfl rfl (by rw[IntWalk.i64_in _ (by omega)];omega) rfl fun a hk=>?_
    refine oA0 hk rfl rfl fun a hk=>?_
    refine aAb ?_
    refine cT0 ?_
    exact⟨_,(by omega),j0,_,_,hk.sub ⟨rfl,rfl,rfl,rfl,rfl,rfl,rfl,rfl,trivial⟩,(show j0=(g - 1)+i by omega),(by omega),(by rw[List.length_set];exact hI2),hsh.1,hsh.2,hm.pick [0,1,2,3,4,5,6,7] rfl rfl⟩
   ·have hki:kk=i:=by simp only[gt_iff_lt,decide_eq_false_iff_not] at hc;omega
    refine wp_exit ?_
    refine aBd ?_
    refine aBd ?_
    refine aD9 ?_
    refine cT0 ?_
    refine aC2 ?_
    refine oM0 hk rfl rfl fun a hk=>?_
    refine oM0 hk rfl rfl fun a hk=>?_
    refine aAM (cs:=[.int .u32 ((tu.1:Nat):Int),.slice ptt tu.2.length captt]) hk aGA rfl (hm.cells_blk (i:=1) rfl rfl) rfl fun a hk=>?_
    refine oI0 (j:=i) hk aE0 aGA rfl rfl (by omega) rfl fun a hk=>?_
    refine aLH (i:=5) (off:=0+i*2) hk hm aGA rfl rfl rfl rfl rfl rfl (show 0+i*2+2≤(out.length+1)*2 by omega) fun a w hk hm=>?_
    rw[Nat.zero_add] at hm
    have hm:=hm.elsSet (i:=4) (j:=i) (d:=aBT tu) rfl (by rw[List.length_map];omega) (hm.rep (i:=3) rfl) rfl
    rw[← List.map_set] at hm
    refine aAb ?_
    have hfin:cur.set i tu=aPk kn (lt.take (k+1)):=by
     rw[hsu,if_neg hcx.1,aXI his hil (fun h=>by have:=hix h;rcases hcx.2 with h2|h2;exact absurd h h2;omega)]
     exact aU3 hI2 hil (hki ▸ hI3) (hki ▸ hI4)
    have hlen9:(out.length+1)=(cur.set i tu).length:=by rw[List.length_set,hI2]
    rw[hlen9] at hm hk
    refine cN0 ?_
    have hm:=hm.pick [4,5,6,7] rfl rfl
    rw[hfin] at hm hk
    exact aBb (L':=[(5,.int .u32 ((kn:Nat):Int)),(6,.slice (some ⟨g1,0,none⟩) ((aPk kn (lt.take (k+1))).length) rc1),(17,.slice pu lt.length cu)]) hk ⟨rfl,rfl,rfl,rfl,rfl,trivial⟩ rfl ⟨_,_,_,rfl,hm⟩
 ·obtain⟨rpz,rcz,xsz,rfl,hm⟩:=hR
  refine cT0 ?_
  refine cR0 ?_
  refine oM0 hk rfl rfl fun a hk=>?_
  refine oA0 hk rfl rfl fun a hk=>?_
  refine cE0 ?_
  refine wp_ret ?_
  refine bT0 rfl hk rfl ?_
  have hr:=aHV (hm.row (i:=1) rfl)
  have hm:=hm.freezeRow (i:=1) (l:=(aPk kn (lt.take lt.length)).map aBT) (st:=false) rfl (noX _) (hm.els (i:=0) rfl) (by simp) (fun _=>rfl)
  rw[List.take_length,hkn,hlt0,← aQG] at hm
  rw[List.take_length,hkn,hlt0,← aQG]
  exact⟨hm.agr,_,_,rfl,hm.out (hm.rep (i:=1) rfl)⟩
end Go.Proofs.YtipgdlbbmlnfiaaGreatDoor
