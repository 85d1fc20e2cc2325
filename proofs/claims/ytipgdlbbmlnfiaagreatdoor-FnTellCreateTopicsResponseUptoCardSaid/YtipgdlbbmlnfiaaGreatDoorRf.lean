/- Walks of functions that the seat's laws reach. -/
import Derived.Test.YtipgdlbbmlnfiaaGreatDoorL4
import Derived.Test.YtipgdlbbmlnfiaaGreatDoorRows
import Derived.Test.YtipgdlbbmlnfiaaGreatDoorFa
import Derived.Test.YtipgdlbbmlnfiaaGreatDoorRe
namespace Go.Proofs.YtipgdlbbmlnfiaaGreatDoor
open Go Go.Mk
set_option maxRecDepth 100000 in
theorem aQF {w0:World}{Y:Nat→Prop}{v:Value}{o:Option (List UInt8)}(hR:Rep w0 Y (aBr o) [v]):Ret Tryz.prog 147 [v] w0 fun x w'=>w'=w0∧((∃ n k:Nat,x=.tuple #[.int .u32 (n:Int),.int .i64 (k:Int)]∧0<k∧k≤(o.getD []).length∧uvG 4 (o.getD [])=some (n,(o.getD []).drop k))∨(∃ k:Int,x=.tuple #[.int .u32 0,.int .i64 k]∧k≤0∧uvG 4 (o.getD [])=none)):=by
 obtain⟨px,capx,rfl,hcap⟩:=aBp hR
 refine aAy Tryz.func147 rfl rfl fun a hk=>?_
 have hk:Kn 87 [(0,.slice px ((o.getD []).length) capx)] a:=hk
 refine cR0 ?_
 refine oA0 hk rfl rfl fun a hk=>?_
 refine oA0 hk rfl rfl fun a hk=>?_
 refine cE0 ?_
 refine wp_scope_jumps 0 (fun a' w'=>w'=w0∧uvG 4 (o.getD [])=none∧∃ k:Int,k≤0∧Kn 87 [(5,.int .i64 k)] a') (fun _ _=>0) rfl ?_ ?_
 ·refine cR0 ?_
  refine oA0 hk rfl rfl fun a hk=>?_
  refine cE0 ?_
  refine cR0 ?_
  refine oA0 hk rfl rfl fun a hk=>?_
  refine cE0 ?_
  refine wp_seq ?_
  refine cR0 ?_
  refine oM0 hk rfl rfl fun a hk=>?_
  refine oL0 hk aA9 rfl rfl fun a hk=>?_
  refine aAx hk rfl rfl rfl rfl fun a hk=>?_
  refine cE0 ?_
  refine aAA hk rfl (fun hc=>?_) (fun hc=>?_)
  ·have hlt:(o.getD []).length<1:=by have:=of_decide_eq_true hc;omega
   refine wp_goto ?_
   refine Er.c_thenGoto ?_
   exact Er.c_jump ⟨rfl,Er.uvG_n0 hlt (Nat.zero_le _),0,by decide,hk.sub ⟨rfl,trivial⟩⟩
  ·have hge1 : 1≤(o.getD []).length:=by have:=of_decide_eq_false hc;omega
   obtain⟨l,rfl⟩ : ∃ l,o=some l:=by cases h:o with|none=>rw[h] at hge1;simp at hge1|some l=>exact⟨l,rfl⟩
   simp only[Option.getD_some] at *
   obtain⟨bs_,off,cap,hpx,-,hC⟩ : ∃ b off cap,Value.slice px l.length capx=.slice (some ⟨b,off,none⟩) l.length cap∧l.length≤cap∧Cel w0 Y b off (bv l):=by
    rcases aGc hR with ⟨h0,_⟩|h
    ·rw[h0] at hge1;simp at hge1
    ·exact h
   obtain⟨rfl,-,rfl⟩:=Value.slice.inj hpx
   refine wp_skip ?_
   refine cT0 ?_
   refine cR0 ?_
   refine oM0 hk rfl rfl fun a hk=>?_
   refine oI0 (j:=0) hk aA9 aDQ rfl rfl (by omega) rfl fun a hk=>?_
   have hc11:w0.cell? ⟨bs_,off+0*1,none⟩=some (.int .u8 ((Er.ot l 0:Nat):Int)):=by rw[Nat.mul_one];exact (hC 0 _ (Er.bv_get' (by omega))).2
   refine aAq hk aDQ rfl hc11 rfl fun a hk=>?_
   refine aDc (c:=((Er.ot l 0%128:Nat):Int)) hk rfl rfl (Er.and127 _) rfl fun a hk=>?_
   refine aAG (c:=((Er.ot l 0%128:Nat):Int)) hk aNF aNJ rfl (aBe rfl (by have:=(l.getD 0 0).toNat_lt;simp only[IntKind.bits,Er.ot];omega)) rfl fun a hk=>?_
   refine oA0 hk rfl rfl fun a hk=>?_
   refine cE0 ?_
   refine wp_seq ?_
   refine cR0 ?_
   refine oM0 hk rfl rfl fun a hk=>?_
   refine oI0 (j:=0) hk aA9 aDQ rfl rfl (by omega) rfl fun a hk=>?_
   have hc16:w0.cell? ⟨bs_,off+0*1,none⟩=some (.int .u8 ((Er.ot l 0:Nat):Int)):=by rw[Nat.mul_one];exact (hC 0 _ (Er.bv_get' (by omega))).2
   refine aAq hk aDQ rfl hc16 rfl fun a hk=>?_
   refine aDc (c:=((Er.ot l 0/128*128:Nat):Int)) hk rfl rfl (Er.and128 _) rfl fun a hk=>?_
   refine aAx hk rfl rfl rfl rfl fun a hk=>?_
   refine cE0 ?_
   refine aAA hk rfl (fun hc=>?_) (fun hc=>?_)
   ·have hb0:(((Er.ot l 0/128*128:Nat):Int)==0)=true:=hc
    refine cR0 ?_
    refine oM0 hk rfl rfl fun a hk=>?_
    refine oA0 hk rfl rfl fun a hk=>?_
    refine oA0 hk rfl rfl fun a hk=>?_
    refine cE0 ?_
    refine wp_ret ?_
    refine cQ0 ?_
    refine Er.c_jumpRet ?_
    refine aG6 rfl hk rfl rfl ?_
    exact⟨rfl,.inl ⟨_,1,rfl,by decide,by omega,Er.uvG_y0 hge1 hb0⟩⟩
   ·have hb0 : ¬ (((Er.ot l 0/128*128:Nat):Int)==0)=true:=by rw[hc];exact Bool.false_ne_true
    refine cR0 ?_
    refine oM0 hk rfl rfl fun a hk=>?_
    refine oL0 hk aA9 rfl rfl fun a hk=>?_
    refine aAx hk rfl rfl rfl rfl fun a hk=>?_
    refine cE0 ?_
    refine aAA hk rfl (fun hc=>?_) (fun hc=>?_)
    ·have hlt:l.length<2:=by have:=of_decide_eq_true hc;omega
     refine wp_goto ?_
     refine Er.c_thenGoto ?_
     exact Er.c_jump ⟨rfl,Er.uvG_n1 hlt hge1 hb0,0,by decide,hk.sub ⟨rfl,trivial⟩⟩
    ·have hge2 : 2≤l.length:=by have:=of_decide_eq_false hc;omega
     refine wp_skip ?_
     refine cT0 ?_
     refine cR0 ?_
     refine oM0 hk rfl rfl fun a hk=>?_
     refine oM0 hk rfl rfl fun a hk=>?_
     refine oI0 (j:=1) hk aA9 aDQ rfl rfl (by omega) rfl fun a hk=>?_
     have hc26:w0.cell? ⟨bs_,off+1*1,none⟩=some (.int .u8 ((Er.ot l 1:Nat):Int)):=by rw[Nat.mul_one];exact (hC 1 _ (Er.bv_get' (by omega))).2
     refine aAq hk aDQ rfl hc26 rfl fun a hk=>?_
     refine aDc (c:=((Er.ot l 1%128:Nat):Int)) hk rfl rfl (Er.and127 _) rfl fun a hk=>?_
     refine aAG (c:=((Er.ot l 1%128:Nat):Int)) hk aNF aNJ rfl (aBe rfl (by have:=(l.getD 1 0).toNat_lt;simp only[IntKind.bits,Er.ot];omega)) rfl fun a hk=>?_
     refine aQ9 (s:=7) (c:=(((Er.ot l 1%128)*2 ^ 7:Nat):Int)) hk rfl rfl (by have:=(l.getD 1 0).toNat_lt;rw[← aDH];exact aBe rfl (by simp only[IntKind.bits,Er.ot];omega)) rfl fun a hk=>?_
     refine aDc (c:=((((Er.ot l 0%128)+(Er.ot l 1%128)*2 ^ 7):Nat):Int)) hk rfl rfl (by have h0:=(l.getD 0 0).toNat_lt;have h1:=(l.getD 1 0).toNat_lt;exact aE4 rfl (Er.ot l 0%128) (Er.ot l 1%128) 7 (by simp only[Er.ot];omega) (by simp only[IntKind.bits,Er.ot];omega)) rfl fun a hk=>?_
     refine oA0 hk rfl rfl fun a hk=>?_
     refine cE0 ?_
     refine wp_seq ?_
     refine cR0 ?_
     refine oM0 hk rfl rfl fun a hk=>?_
     refine oI0 (j:=1) hk aA9 aDQ rfl rfl (by omega) rfl fun a hk=>?_
     have hc33:w0.cell? ⟨bs_,off+1*1,none⟩=some (.int .u8 ((Er.ot l 1:Nat):Int)):=by rw[Nat.mul_one];exact (hC 1 _ (Er.bv_get' (by omega))).2
     refine aAq hk aDQ rfl hc33 rfl fun a hk=>?_
     refine aDc (c:=((Er.ot l 1/128*128:Nat):Int)) hk rfl rfl (Er.and128 _) rfl fun a hk=>?_
     refine aAx hk rfl rfl rfl rfl fun a hk=>?_
     refine cE0 ?_
     refine aAA hk rfl (fun hc=>?_) (fun hc=>?_)
     ·have hb1:(((Er.ot l 1/128*128:Nat):Int)==0)=true:=hc
      refine cR0 ?_
      refine oM0 hk rfl rfl fun a hk=>?_
      refine oA0 hk rfl rfl fun a hk=>?_
      refine oA0 hk rfl rfl fun a hk=>?_
      refine cE0 ?_
      refine wp_ret ?_
      refine cQ0 ?_
      refine Er.c_jumpRet ?_
      refine aG6 rfl hk rfl rfl ?_
      exact⟨rfl,.inl ⟨_,2,rfl,by decide,by omega,Er.uvG_y1 hge2 hb0 hb1⟩⟩
     ·have hb1 : ¬ (((Er.ot l 1/128*128:Nat):Int)==0)=true:=by rw[hc];exact Bool.false_ne_true
      refine cR0 ?_
      refine oM0 hk rfl rfl fun a hk=>?_
      refine oL0 hk aA9 rfl rfl fun a hk=>?_
      refine aAx hk rfl rfl rfl rfl fun a hk=>?_
      refine cE0 ?_
      refine aAA hk rfl (fun hc=>?_) (fun hc=>?_)
      ·have hlt:l.length<3:=by have:=of_decide_eq_true hc;omega
       refine wp_goto ?_
       refine Er.c_thenGoto ?_
       exact Er.c_jump ⟨rfl,Er.uvG_n2 hlt hge2 hb0 hb1,0,by decide,hk.sub ⟨rfl,trivial⟩⟩
      ·have hge3 : 3≤l.length:=by have:=of_decide_eq_false hc;omega
       refine wp_skip ?_
       refine cT0 ?_
       refine cR0 ?_
       refine oM0 hk rfl rfl fun a hk=>?_
       refine oM0 hk rfl rfl fun a hk=>?_
       refine oI0 (j:=2) hk aA9 aDQ rfl rfl (by omega) rfl fun a hk=>?_
       have hc43:w0.cell? ⟨bs_,off+2*1,none⟩=some (.int .u8 ((Er.ot l 2:Nat):Int)):=by rw[Nat.mul_one];exact (hC 2 _ (Er.bv_get' (by omega))).2
       refine aAq hk aDQ rfl hc43 rfl fun a hk=>?_
       refine aDc (c:=((Er.ot l 2%128:Nat):Int)) hk rfl rfl (Er.and127 _) rfl fun a hk=>?_
       refine aAG (c:=((Er.ot l 2%128:Nat):Int)) hk aNF aNJ rfl (aBe rfl (by have:=(l.getD 2 0).toNat_lt;simp only[IntKind.bits,Er.ot];omega)) rfl fun a hk=>?_
       refine aQ9 (s:=14) (c:=(((Er.ot l 2%128)*2 ^ 14:Nat):Int)) hk rfl rfl (by have:=(l.getD 2 0).toNat_lt;rw[← aDH];exact aBe rfl (by simp only[IntKind.bits,Er.ot];omega)) rfl fun a hk=>?_
       refine aDc (c:=(((((Er.ot l 0%128)+(Er.ot l 1%128)*2 ^ 7)+(Er.ot l 2%128)*2 ^ 14):Nat):Int)) hk rfl rfl (by have h0:=(l.getD 0 0).toNat_lt;have h1:=(l.getD 1 0).toNat_lt;have h2:=(l.getD 2 0).toNat_lt;exact aE4 rfl ((Er.ot l 0%128)+(Er.ot l 1%128)*2 ^ 7) (Er.ot l 2%128) 14 (by simp only[Er.ot];omega) (by simp only[IntKind.bits,Er.ot];omega)) rfl fun a hk=>?_
       refine oA0 hk rfl rfl fun a hk=>?_
       refine cE0 ?_
       refine wp_seq ?_
       refine cR0 ?_
       refine oM0 hk rfl rfl fun a hk=>?_
       refine oI0 (j:=2) hk aA9 aDQ rfl rfl (by omega) rfl fun a hk=>?_
       have hc50:w0.cell? ⟨bs_,off+2*1,none⟩=some (.int .u8 ((Er.ot l 2:Nat):Int)):=by rw[Nat.mul_one];exact (hC 2 _ (Er.bv_get' (by omega))).2
       refine aAq hk aDQ rfl hc50 rfl fun a hk=>?_
       refine aDc (c:=((Er.ot l 2/128*128:Nat):Int)) hk rfl rfl (Er.and128 _) rfl fun a hk=>?_
       refine aAx hk rfl rfl rfl rfl fun a hk=>?_
       refine cE0 ?_
       refine aAA hk rfl (fun hc=>?_) (fun hc=>?_)
       ·have hb2:(((Er.ot l 2/128*128:Nat):Int)==0)=true:=hc
        refine cR0 ?_
        refine oM0 hk rfl rfl fun a hk=>?_
        refine oA0 hk rfl rfl fun a hk=>?_
        refine oA0 hk rfl rfl fun a hk=>?_
        refine cE0 ?_
        refine wp_ret ?_
        refine cQ0 ?_
        refine Er.c_jumpRet ?_
        refine aG6 rfl hk rfl rfl ?_
        exact⟨rfl,.inl ⟨_,3,rfl,by decide,by omega,Er.uvG_y2 hge3 hb0 hb1 hb2⟩⟩
       ·have hb2 : ¬ (((Er.ot l 2/128*128:Nat):Int)==0)=true:=by rw[hc];exact Bool.false_ne_true
        refine cR0 ?_
        refine oM0 hk rfl rfl fun a hk=>?_
        refine oL0 hk aA9 rfl rfl fun a hk=>?_
        refine aAx hk rfl rfl rfl rfl fun a hk=>?_
        refine cE0 ?_
        refine aAA hk rfl (fun hc=>?_) (fun hc=>?_)
        ·have hlt:l.length<4:=by have:=of_decide_eq_true hc;omega
         refine wp_goto ?_
         refine Er.c_thenGoto ?_
         exact Er.c_jump ⟨rfl,Er.uvG_n3 hlt hge3 hb0 hb1 hb2,0,by decide,hk.sub ⟨rfl,trivial⟩⟩
        ·have hge4 : 4≤l.length:=by have:=of_decide_eq_false hc;omega
         refine wp_skip ?_
         refine cT0 ?_
         refine cR0 ?_
         refine oM0 hk rfl rfl fun a hk=>?_
         refine oM0 hk rfl rfl fun a hk=>?_
         refine oI0 (j:=3) hk aA9 aDQ rfl rfl (by omega) rfl fun a hk=>?_
         have hc60:w0.cell? ⟨bs_,off+3*1,none⟩=some (.int .u8 ((Er.ot l 3:Nat):Int)):=by rw[Nat.mul_one];exact (hC 3 _ (Er.bv_get' (by omega))).2
         refine aAq hk aDQ rfl hc60 rfl fun a hk=>?_
         refine aDc (c:=((Er.ot l 3%128:Nat):Int)) hk rfl rfl (Er.and127 _) rfl fun a hk=>?_
         refine aAG (c:=((Er.ot l 3%128:Nat):Int)) hk aNF aNJ rfl (aBe rfl (by have:=(l.getD 3 0).toNat_lt;simp only[IntKind.bits,Er.ot];omega)) rfl fun a hk=>?_
         refine aQ9 (s:=21) (c:=(((Er.ot l 3%128)*2 ^ 21:Nat):Int)) hk rfl rfl (by have:=(l.getD 3 0).toNat_lt;rw[← aDH];exact aBe rfl (by simp only[IntKind.bits,Er.ot];omega)) rfl fun a hk=>?_
         refine aDc (c:=((((((Er.ot l 0%128)+(Er.ot l 1%128)*2 ^ 7)+(Er.ot l 2%128)*2 ^ 14)+(Er.ot l 3%128)*2 ^ 21):Nat):Int)) hk rfl rfl (by have h0:=(l.getD 0 0).toNat_lt;have h1:=(l.getD 1 0).toNat_lt;have h2:=(l.getD 2 0).toNat_lt;have h3:=(l.getD 3 0).toNat_lt;exact aE4 rfl (((Er.ot l 0%128)+(Er.ot l 1%128)*2 ^ 7)+(Er.ot l 2%128)*2 ^ 14) (Er.ot l 3%128) 21 (by simp only[Er.ot];omega) (by simp only[IntKind.bits,Er.ot];omega)) rfl fun a hk=>?_
         refine oA0 hk rfl rfl fun a hk=>?_
         refine cE0 ?_
         refine wp_seq ?_
         refine cR0 ?_
         refine oM0 hk rfl rfl fun a hk=>?_
         refine oI0 (j:=3) hk aA9 aDQ rfl rfl (by omega) rfl fun a hk=>?_
         have hc67:w0.cell? ⟨bs_,off+3*1,none⟩=some (.int .u8 ((Er.ot l 3:Nat):Int)):=by rw[Nat.mul_one];exact (hC 3 _ (Er.bv_get' (by omega))).2
         refine aAq hk aDQ rfl hc67 rfl fun a hk=>?_
         refine aDc (c:=((Er.ot l 3/128*128:Nat):Int)) hk rfl rfl (Er.and128 _) rfl fun a hk=>?_
         refine aAx hk rfl rfl rfl rfl fun a hk=>?_
         refine cE0 ?_
         refine aAA hk rfl (fun hc=>?_) (fun hc=>?_)
         ·have hb3:(((Er.ot l 3/128*128:Nat):Int)==0)=true:=hc
          refine cR0 ?_
          refine oM0 hk rfl rfl fun a hk=>?_
          refine oA0 hk rfl rfl fun a hk=>?_
          refine oA0 hk rfl rfl fun a hk=>?_
          refine cE0 ?_
          refine wp_ret ?_
          refine cQ0 ?_
          refine Er.c_jumpRet ?_
          refine aG6 rfl hk rfl rfl ?_
          exact⟨rfl,.inl ⟨_,4,rfl,by decide,by omega,Er.uvG_y3 hge4 hb0 hb1 hb2 hb3⟩⟩
         ·have hb3 : ¬ (((Er.ot l 3/128*128:Nat):Int)==0)=true:=by rw[hc];exact Bool.false_ne_true
          refine cR0 ?_
          refine oM0 hk rfl rfl fun a hk=>?_
          refine oL0 hk aA9 rfl rfl fun a hk=>?_
          refine aAx hk rfl rfl rfl rfl fun a hk=>?_
          refine cE0 ?_
          refine aAA hk rfl (fun hc=>?_) (fun hc=>?_)
          ·have hlt:l.length<5:=by have:=of_decide_eq_true hc;omega
           refine wp_goto ?_
           refine Er.c_thenGoto ?_
           exact Er.c_jump ⟨rfl,Er.uvG_n4 hlt hge4 hb0 hb1 hb2 hb3,0,by decide,hk.sub ⟨rfl,trivial⟩⟩
          ·have hge5 : 5≤l.length:=by have:=of_decide_eq_false hc;omega
           refine wp_skip ?_
           refine cT0 ?_
           refine cR0 ?_
           refine oM0 hk rfl rfl fun a hk=>?_
           refine oM0 hk rfl rfl fun a hk=>?_
           refine oI0 (j:=4) hk aA9 aDQ rfl rfl (by omega) rfl fun a hk=>?_
           have hc77:w0.cell? ⟨bs_,off+4*1,none⟩=some (.int .u8 ((Er.ot l 4:Nat):Int)):=by rw[Nat.mul_one];exact (hC 4 _ (Er.bv_get' (by omega))).2
           refine aAq hk aDQ rfl hc77 rfl fun a hk=>?_
           refine aAG (c:=((Er.ot l 4:Nat):Int)) hk aNF aNJ rfl (aBe rfl (by have:=(l.getD 4 0).toNat_lt;simp only[IntKind.bits,Er.ot];omega)) rfl fun a hk=>?_
           refine aQ9 (s:=28) (c:=IntKind.u32.wrap (((Er.ot l 4:Nat):Int)*2 ^ 28)) hk rfl rfl rfl rfl fun a hk=>?_
           obtain⟨c4,hc4⟩ : ∃ c,ibits .or .u32 ((((((Er.ot l 0%128)+(Er.ot l 1%128)*2 ^ 7)+(Er.ot l 2%128)*2 ^ 14)+(Er.ot l 3%128)*2 ^ 21):Nat):Int) (IntKind.u32.wrap (((Er.ot l 4:Nat):Int)*2 ^ 28))=some c:=⟨_,rfl⟩
           refine aDc (c:=c4) hk rfl rfl hc4 rfl fun a hk=>?_
           refine oA0 hk rfl rfl fun a hk=>?_
           refine cE0 ?_
           refine wp_seq ?_
           refine cR0 ?_
           refine oM0 hk rfl rfl fun a hk=>?_
           refine oI0 (j:=4) hk aA9 aDQ rfl rfl (by omega) rfl fun a hk=>?_
           have hc83:w0.cell? ⟨bs_,off+4*1,none⟩=some (.int .u8 ((Er.ot l 4:Nat):Int)):=by rw[Nat.mul_one];exact (hC 4 _ (Er.bv_get' (by omega))).2
           refine aAq hk aDQ rfl hc83 rfl fun a hk=>?_
           refine aAx hk rfl rfl rfl rfl fun a hk=>?_
           refine cE0 ?_
           refine aAA hk rfl (fun hc=>?_) (fun hc=>?_)
           ·have hb4:((Er.ot l 4:Nat):Int)≤15:=of_decide_eq_true hc
            refine cR0 ?_
            refine oM0 hk rfl rfl fun a hk=>?_
            refine oA0 hk rfl rfl fun a hk=>?_
            refine oA0 hk rfl rfl fun a hk=>?_
            refine cE0 ?_
            refine wp_ret ?_
            refine cQ0 ?_
            refine Er.c_jumpRet ?_
            refine aG6 rfl hk rfl rfl ?_
            have hw:IntKind.u32.wrap (((Er.ot l 4:Nat):Int)*2 ^ 28)=(((Er.ot l 4)*2 ^ 28:Nat):Int):=by rw[← aDH];exact aBe rfl (by simp only[IntKind.bits];omega)
            rw[hw,aE4 rfl ((((Er.ot l 0%128)+(Er.ot l 1%128)*2 ^ 7)+(Er.ot l 2%128)*2 ^ 14)+(Er.ot l 3%128)*2 ^ 21) (Er.ot l 4) 28 (by have k0:=(l.getD 0 0).toNat_lt;have k1:=(l.getD 1 0).toNat_lt;have k2:=(l.getD 2 0).toNat_lt;have k3:=(l.getD 3 0).toNat_lt;have k4:=(l.getD 4 0).toNat_lt;simp only[Er.ot];omega) (by have k0:=(l.getD 0 0).toNat_lt;have k1:=(l.getD 1 0).toNat_lt;have k2:=(l.getD 2 0).toNat_lt;have k3:=(l.getD 3 0).toNat_lt;have k4:=(l.getD 4 0).toNat_lt;simp only[IntKind.bits,Er.ot] at *;omega)] at hc4
            obtain rfl:=Option.some.inj hc4
            exact⟨rfl,.inl ⟨_,5,rfl,by decide,by omega,Er.uvG_y4 hge5 hb0 hb1 hb2 hb3 hb4⟩⟩
           ·have hb4 : ¬ ((Er.ot l 4:Nat):Int)≤15:=of_decide_eq_false hc
            refine wp_skip ?_
            refine cT0 ?_
            refine cR0 ?_
            refine oA0 hk rfl rfl fun a hk=>?_
            refine cE0 ?_
            refine wp_seq ?_
            refine wp_label ?_
            refine cT0 ?_
            refine cR0 ?_
            refine oM0 hk rfl rfl fun a hk=>?_
            refine oA0 hk rfl rfl fun a hk=>?_
            refine oA0 hk rfl rfl fun a hk=>?_
            refine cE0 ?_
            refine wp_ret ?_
            refine Er.c_jumpRet ?_
            refine aG6 rfl hk rfl rfl ?_
            exact⟨rfl,.inr ⟨_,rfl,by decide,Er.uvG_n5 hge5 hb0 hb1 hb2 hb3 hb4⟩⟩
 ·rintro a w ⟨rfl,hnone,k,hk0,hk⟩
  refine wp_seq ?_
  refine wp_skip ?_
  refine cT0 ?_
  refine cR0 ?_
  refine oM0 hk rfl rfl fun a hk=>?_
  refine oA0 hk rfl rfl fun a hk=>?_
  refine oA0 hk rfl rfl fun a hk=>?_
  refine cE0 ?_
  refine wp_ret ?_
  refine Er.c_jumpRet ?_
  refine aG6 rfl hk rfl rfl ?_
  exact⟨rfl,.inr ⟨k,rfl,hk0,hnone⟩⟩
end Go.Proofs.YtipgdlbbmlnfiaaGreatDoor
