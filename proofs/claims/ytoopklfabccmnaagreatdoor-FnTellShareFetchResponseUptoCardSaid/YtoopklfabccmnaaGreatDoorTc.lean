/- Walks of functions that the laws of this seat reach. No statement of the seat stands here. -/
import Derived.Test.YtoopklfabccmnaaGreatDoorL4
import Derived.Test.YtoopklfabccmnaaGreatDoorRows
import Derived.Test.YtoopklfabccmnaaGreatDoorFa
import Derived.Test.YtoopklfabccmnaaGreatDoorTa
namespace Go.Proofs.YtoopklfabccmnaaGreatDoor
open Go Go.Mk
def UsuC (fs:List Fld):Prop:=∀ {w0:World} {Y:Nat → Prop} {t:T} {ct:List Value} {p:Option Addr} {cap:Nat},Rep w0 Y (.sl false 8 (fs.map ddFd)) [.slice p fs.length cap] → Rep w0 Y (ddT t) ct → t.sane = true →
 Ret Tryz.prog 53 [.slice p fs.length cap,.agg ct.toArray] w0 fun v w'=>Agr Nob w0 w' ∧ v = .bool (t.u.isEmpty && usuFs fs t.l 0)
theorem usu_walk {fs:List Fld} (hu:∀ f ∈ fs,UsuC f.sub) (hlen:fs.length ≤ 1000):UsuC fs:=by
 intro w0 Y t ct p cap hF hT hsn
 have hsl:∀ j,(t.l.getD j T.nil).s.length < 4611686018427387904:=fun j=>by have:=(sane_spec (sane_getD (sane_spec hsn).2.2.2 j)).1; omega
 obtain ⟨pst,capst,pt,capt,put,caput,rfl⟩:=rep_T7 hT
 refine c_call Tryz.func53 rfl rfl fun a hk=>?_
 have hk:Kn 89 [(0,.slice p fs.length cap),(1,.agg #[.int .i64 t.n,.slice pst t.s.length capst,.bool t.z,.slice pt t.l.length capt,.slice put t.u.length caput])] a:=hk
 have hm:Mem w0 Nob Y [.rep (.sl false 8 (fs.map ddFd)) [.slice p fs.length cap],.rep (ddT t) [.int .i64 t.n,.slice pst t.s.length capst,.bool t.z,.slice pt t.l.length capt,.slice put t.u.length caput]] w0:=Mem.start rfl (by simp only [List.forall_mem_cons,List.not_mem_nil,false_imp_iff,implies_true,and_true]; exact ⟨hF,hT⟩)
 refine cR0 ?_
 refine o_box hk hm rfl rfl rfl fun a b1 w hk hm=>?_
 refine oA0 hk rfl rfl fun a hk=>?_
 refine cE0 ?_
 refine wp_seq ?_
 refine cR0 ?_
 refine oF0 hk fo_26_4 rfl rfl fun a hk=>?_
 refine o_load hk ts_24 rfl (hm.cell_blk (i:=0) rfl rfl) rfl fun a hk=>?_
 refine oL0 hk te_24 rfl rfl fun a hk=>?_
 refine o_icmp hk rfl rfl rfl rfl fun a hk=>?_
 refine cE0 ?_
 refine c_cond hk rfl (fun hc=>?_) (fun hc=>?_)
 ·have hc2:=of_decide_eq_true hc
  refine cR0 ?_
  refine oA0 hk rfl rfl fun a hk=>?_
  refine cE0 ?_
  refine wp_ret ?_
  refine cQ0 ?_
  refine bT0 rfl hk rfl ?_
  exact ⟨hm.agr,by rw [ne_empty hc]; rfl⟩
 ·have hc3:=of_decide_eq_false hc
  refine wp_skip ?_
  refine cT0 ?_
  refine wp_seq ?_
  refine cR0 ?_
  refine oM0 hk rfl rfl fun a hk=>?_
  refine oL0 hk te_29 rfl rfl fun a hk=>?_
  refine oM0 hk rfl rfl fun a hk=>?_
  refine cE0 ?_
  have hue:t.u.isEmpty = true:=is_empty hc
  refine c_range (L0:=[(3,.pointer (some ⟨b1,0,none⟩)),(12,.slice p fs.length cap)]) (N:=fs.length) (by omega) (fun k L w=>L = [(3,.pointer (some ⟨b1,0,none⟩)),(12,.slice p fs.length cap)] ∧ (List.range k).all (usuAt fs t) = true ∧ Mem w0 Nob Y [.blk b1 [.int .i64 t.n,.slice pst t.s.length capst,.bool t.z,.slice pt t.l.length capt,.slice put t.u.length caput] 26,.rep (.sl false 8 (fs.map ddFd)) [.slice p fs.length cap],.rep (ddT t) [.int .i64 t.n,.slice pst t.s.length capst,.bool t.z,.slice pt t.l.length capt,.slice put t.u.length caput]] w) (hk.sub ⟨rfl,rfl,rfl,rfl,trivial⟩) ⟨rfl,rfl,hm⟩ rfl rfl rfl rfl rfl rfl rfl (fun k L a w hlt hR hk=>?_) rfl (fun L a w hR hk=>?_)
  ·obtain ⟨rfl,hI0,hm⟩:=hR
   obtain ⟨hlty,bly,offy,ey,hply,hely,hRey,hCey⟩:=rep_sl_get (hm.rep (i:=1) rfl) (getD_map ddFd fs k FNIL hlt)
   obtain ⟨pfy,capfy,rfl,-⟩:=rep_Fd hRey
   have hm:=hm.add (e:=.rep (ddFd (fs.getD k FNIL)) [.int .i64 (((fs.getD k FNIL).kind:Nat):Int),.int .i64 ((fs.getD k FNIL).fr),.int .i64 ((fs.getD k FNIL).to),.int .i64 ((fs.getD k FNIL).nu),.int .i64 ((fs.getD k FNIL).tag),.int .i64 ((fs.getD k FNIL).df),.int .i64 (((fs.getD k FNIL).of:Nat):Int),.slice pfy ((fs.getD k FNIL).sub.length) capfy]) rfl hRey
   have hm:=hm.add (e:=.cel bly (offy + k * 8) [.int .i64 (((fs.getD k FNIL).kind:Nat):Int),.int .i64 ((fs.getD k FNIL).fr),.int .i64 ((fs.getD k FNIL).to),.int .i64 ((fs.getD k FNIL).nu),.int .i64 ((fs.getD k FNIL).tag),.int .i64 ((fs.getD k FNIL).df),.int .i64 (((fs.getD k FNIL).of:Nat):Int),.slice pfy ((fs.getD k FNIL).sub.length) capfy]) rfl hCey
   have hkk:(0:Int) ≤ (((fs.getD k FNIL).kind:Nat):Int):=Int.natCast_nonneg _
   refine cR0 ?_
   refine oM0 hk rfl rfl fun a hk=>?_
   refine oI0 (j:=k) (b:=bly) (off:=offy) hk te_29 ts_51 (by rw [← hply]; rfl) rfl hlty rfl fun a hk=>?_
   refine o_loadN (cs:=[.int .i64 (((fs.getD k FNIL).kind:Nat):Int),.int .i64 ((fs.getD k FNIL).fr),.int .i64 ((fs.getD k FNIL).to),.int .i64 ((fs.getD k FNIL).nu),.int .i64 ((fs.getD k FNIL).tag),.int .i64 ((fs.getD k FNIL).df),.int .i64 (((fs.getD k FNIL).of:Nat):Int),.slice pfy ((fs.getD k FNIL).sub.length) capfy]) hk ts_51 rfl (hm.cells_cel (i:=0) (k:=0) rfl rfl) rfl fun a hk=>?_
   refine o_alloc hk hm tz_51 rfl rfl fun a b4 w hk hm=>?_
   refine oA0 hk rfl rfl fun a hk=>?_
   refine o_store (i:=0) hk hm ts_51 rfl rfl rfl rfl rfl rfl (Nat.le_of_ble_eq_true rfl) fun a w hk hm=>?_
   refine cE0 ?_
   refine cR0 ?_
   refine o_loadN (cs:=[.int .i64 t.n,.slice pst t.s.length capst,.bool t.z,.slice pt t.l.length capt,.slice put t.u.length caput]) hk ts_26 rfl (hm.cells_blk (i:=3) rfl rfl) rfl fun a hk=>?_
   refine oM0 hk rfl rfl fun a hk=>?_
   refine o_call hk cb_49 (at_spec (t:=t) k (hm.rep (i:=5) rfl)) ⟨rfl,rfl,trivial⟩ rfl fun v w a hR hk=>?_
   obtain ⟨hp,ca1,rfl,hR⟩:=hR
   obtain ⟨psa1,capsa1,pa1,capa1,pua1,capua1,rfl⟩:=rep_T7 hR
   have hm:=hm.result hp hR
   refine o_alloc hk hm tz_26 rfl rfl fun a b5 w hk hm=>?_
   refine o_store (i:=0) hk hm ts_26 rfl rfl rfl rfl rfl rfl (Nat.le_of_ble_eq_true rfl) fun a w hk hm=>?_
   refine cE0 ?_
   refine cR0 ?_
   refine oF0 hk fo_51_0 rfl rfl fun a hk=>?_
   refine o_load hk ts_3 rfl (hm.cell_blk (i:=2) rfl rfl) rfl fun a hk=>?_
   refine cE0 ?_
   refine wp_block ?_
   refine cR0 ?_
   refine o_icmp hk rfl rfl rfl rfl fun a hk=>?_
   refine oA0 hk rfl rfl fun a hk=>?_
   refine cE0 ?_
   refine c_cond hk rfl (fun hc=>?_) (fun hc=>?_)
   ·have hc6:=eq_of_beq hc
    refine cR0 ?_
    refine oF0 hk fo_26_2 rfl rfl fun a hk=>?_
    refine o_load hk ts_4 rfl (hm.cell_blk (i:=0) rfl rfl) rfl fun a hk=>?_
    refine oF0 hk fo_51_3 rfl rfl fun a hk=>?_
    refine o_load hk ts_3 rfl (hm.cell_blk (i:=2) rfl rfl) rfl fun a hk=>?_
    refine o_icmp hk rfl rfl rfl rfl fun a hk=>?_
    refine o_neBool hk ib_4 rfl rfl rfl fun a hk=>?_
    refine oM0 hk rfl rfl fun a hk=>?_
    rcases Bool.eq_false_or_eq_true ((((t.at_ k).z) != (decide (((fs.getD k FNIL).nu:Int) ≥ 0)))) with hb7 | hb7
    ·rw [hb7] at hk
     refine oS0 hk ⟨_,_,_,_,rfl,rfl,rfl,nb_tf⟩ rfl rfl fun a hk=>?_
     refine oS0 hk ⟨_,_,_,_,rfl,rfl,rfl,nb_tf⟩ rfl rfl fun a hk=>?_
     refine oS0 hk ⟨_,_,_,_,rfl,rfl,rfl,nb_tf⟩ rfl rfl fun a hk=>?_
     refine oS0 hk ⟨_,_,_,_,rfl,rfl,rfl,nb_tf⟩ rfl rfl fun a hk=>?_
     refine o_pick hk rfl rfl rfl rfl rfl fun a hk=>?_
     refine cE0 ?_
     refine c_condT hk rfl ?_
     refine cR0 ?_
     refine oA0 hk rfl rfl fun a hk=>?_
     refine cE0 ?_
     refine wp_ret ?_
     refine c_inRet ?_
     refine c_inRet ?_
     refine c_roundRet ?_
     refine cQ0 ?_
     refine bT0 rfl hk rfl ?_
     have hv:usuAt fs t k = false:=by
      show usuF (fs.getD k FNIL) (t.l.getD k T.nil) = false
      first | exact usu8_bad1 (by omega) (by assumption) | exact usu8_bad2 (by omega) (by assumption) | exact usu7_bad (by omega) (by assumption) | exact usu9_bad1 (by omega) (by assumption) | exact usu9_bad2 (by omega) (by assumption) | exact usu10_bad1 (by omega) (by assumption) (by assumption) | exact usu10_bad2 (by omega) (by assumption) (by assumption) | exact usuN_bad (by omega) (by omega) (by omega) (by omega) (by omega) (by assumption) | (exfalso; omega)
     exact ⟨hm.agr,by rw [usuFs_all,range_all_false hlt hv,Bool.and_false]⟩
    ·rw [hb7] at hk
     refine o_want (o':=_) hk ⟨_,_,_,rfl,rfl,rfl⟩ rfl ?_
     refine oF0 hk fo_26_1 rfl rfl fun a hk=>?_
     refine o_want (o':=_) hk ⟨_,_,_,rfl,rfl,rfl⟩ rfl ?_
     refine o_load hk ts_22 rfl (hm.cell_blk (i:=0) rfl rfl) rfl fun a hk=>?_
     refine o_want (o':=_) hk ⟨_,_,_,rfl,rfl,rfl⟩ rfl ?_
     refine oL0 hk te_22 rfl rfl fun a hk=>?_
     refine o_want (o':=_) hk ⟨_,_,_,rfl,rfl,rfl⟩ rfl ?_
     refine o_icmp hk rfl rfl rfl rfl fun a hk=>?_
     refine o_pick hk rfl rfl rfl rfl rfl fun a hk=>?_
     refine cE0 ?_
     refine c_cond hk rfl (fun hc=>?_) (fun hc=>?_)
     ·have hc8:=of_decide_eq_true hc
      refine cR0 ?_
      refine oA0 hk rfl rfl fun a hk=>?_
      refine cE0 ?_
      refine wp_ret ?_
      refine c_inRet ?_
      refine c_inRet ?_
      refine c_roundRet ?_
      refine cQ0 ?_
      refine bT0 rfl hk rfl ?_
      have hv:usuAt fs t k = false:=by
       show usuF (fs.getD k FNIL) (t.l.getD k T.nil) = false
       first | exact usu8_bad1 (by omega) (by assumption) | exact usu8_bad2 (by omega) (by assumption) | exact usu7_bad (by omega) (by assumption) | exact usu9_bad1 (by omega) (by assumption) | exact usu9_bad2 (by omega) (by assumption) | exact usu10_bad1 (by omega) (by assumption) (by assumption) | exact usu10_bad2 (by omega) (by assumption) (by assumption) | exact usuN_bad (by omega) (by omega) (by omega) (by omega) (by omega) (by assumption) | (exfalso; omega)
      exact ⟨hm.agr,by rw [usuFs_all,range_all_false hlt hv,Bool.and_false]⟩
     ·have hc9:=of_decide_eq_false hc
      refine wp_skip ?_
      refine cN0 ?_
      refine cN0 ?_
      have hv:usuAt fs t k = true:=by
       show usuF (fs.getD k FNIL) (t.l.getD k T.nil) = true
       first | exact usu8_ok (by omega) (by assumption) (by assumption) | exact usu7_ok (by omega) (by assumption) | exact usu9_ok (by omega) (by assumption) (by assumption) | exact usu10_ok1 (by omega) (by assumption) (by assumption) | exact usu10_ok2 (by omega) (by assumption) (by assumption) | exact usuN_ok (by omega) (by omega) (by omega) (by omega) (by omega) (by assumption) | (exfalso; omega)
      exact c_round (L':=[(3,.pointer (some ⟨b1,0,none⟩)),(12,.slice p fs.length cap)]) hk ⟨rfl,rfl,rfl,rfl,trivial⟩ rfl ⟨rfl,(range_all_succ hI0 hv),hm.tail.tail.tail.tail.tail⟩
   ·have hc10:=beq_eq_false_iff_ne.1 hc
    refine cR0 ?_
    refine o_icmp hk rfl rfl rfl rfl fun a hk=>?_
    refine oA0 hk rfl rfl fun a hk=>?_
    refine cE0 ?_
    refine c_cond hk rfl (fun hc=>?_) (fun hc=>?_)
    ·have hc11:=eq_of_beq hc
     refine wp_seq ?_
     refine d_startM (K:=4) mixed hm fun w hm=>?_
     refine d_take (i:=0) rfl rfl rfl (by kernel_rfl) (fun _ _ _ h=>h) hk rfl (fun w hm=>rF0 hk fo_26_1 rfl) hm fun a hk=>?_
     refine d_take (i:=1) rfl rfl rfl (by kernel_rfl) (fun _ _ _ h=>h) hk rfl (fun w hm=>r_load1 hk ts_22 rfl (hm.cell_blk (i:=0) rfl rfl)) hm fun a hk=>?_
     refine d_one (k:=2) (by kernel_rfl) rfl rfl ?_
     refine o_makeN hk hm rt_22 tz_5 rfl rfl rfl rfl fun a b12 w hk hm=>?_
     refine c_endQ (cT0 ⟨fun _=>hm.tail,?_⟩)
     refine d_one (k:=3) (by kernel_rfl) rfl rfl ?_
     have hz16:List.replicate 16 (Value.int .u8 0) = bv (List.replicate 16 (0:UInt8)):=by simp [bv]
     rw [hz16] at hm
     have hm:=hm.blkRow (i:=0) (n:=16) (sz:=1) rfl (by rw [bv_length]; rfl) (by decide)
     have hm:=hm.freezeBytes (i:=0) (s:=List.replicate 16 0) rfl rfl
     refine o_call hk cb_55 (same_c (sb:=List.replicate 16 0) (rep_T_s (hm.rep (i:=2) rfl)) (hm.rep (i:=0) rfl) (hsl _)) ⟨rfl,rfl,trivial⟩ rfl fun v w a hR hk=>?_
     obtain ⟨hp,rfl⟩:=hR
     have hm:=hm.pure hp
     refine c_endQ (cT0 ⟨fun _=>hm.tail,?_⟩)
     refine d_one (k:=4) (by kernel_rfl) rfl rfl ?_
     refine o_not hk rfl rfl fun a hk=>?_
     refine c_endQ (cT0 ⟨fun h=>Bool.noConfusion (show true = false from h),?_⟩)
     refine d_done (by kernel_rfl) ?_ _
     refine cT0 ?_
     refine c_cond hk rfl (fun hc=>?_) (fun hc=>?_)
     ·have hc13:=hc
      refine cR0 ?_
      refine oA0 hk rfl rfl fun a hk=>?_
      refine cE0 ?_
      refine wp_ret ?_
      refine c_inRet ?_
      refine c_inRet ?_
      refine c_roundRet ?_
      refine cQ0 ?_
      refine bT0 rfl hk rfl ?_
      have hv:usuAt fs t k = false:=by
       show usuF (fs.getD k FNIL) (t.l.getD k T.nil) = false
       first | exact usu8_bad1 (by omega) (by assumption) | exact usu8_bad2 (by omega) (by assumption) | exact usu7_bad (by omega) (by assumption) | exact usu9_bad1 (by omega) (by assumption) | exact usu9_bad2 (by omega) (by assumption) | exact usu10_bad1 (by omega) (by assumption) (by assumption) | exact usu10_bad2 (by omega) (by assumption) (by assumption) | exact usuN_bad (by omega) (by omega) (by omega) (by omega) (by omega) (by assumption) | (exfalso; omega)
      exact ⟨hm.agr,by rw [usuFs_all,range_all_false hlt hv,Bool.and_false]⟩
     ·have hc14:=hc
      refine wp_skip ?_
      refine cN0 ?_
      refine cN0 ?_
      have hv:usuAt fs t k = true:=by
       show usuF (fs.getD k FNIL) (t.l.getD k T.nil) = true
       first | exact usu8_ok (by omega) (by assumption) (by assumption) | exact usu7_ok (by omega) (by assumption) | exact usu9_ok (by omega) (by assumption) (by assumption) | exact usu10_ok1 (by omega) (by assumption) (by assumption) | exact usu10_ok2 (by omega) (by assumption) (by assumption) | exact usuN_ok (by omega) (by omega) (by omega) (by omega) (by omega) (by assumption) | (exfalso; omega)
      exact c_round (L':=[(3,.pointer (some ⟨b1,0,none⟩)),(12,.slice p fs.length cap)]) hk ⟨rfl,rfl,rfl,rfl,trivial⟩ rfl ⟨rfl,(range_all_succ hI0 hv),hm.tail.tail.tail.tail.tail.tail⟩
    ·have hc15:=beq_eq_false_iff_ne.1 hc
     refine wp_seq ?_
     refine cR0 ?_
     refine o_icmp hk rfl rfl rfl rfl fun a hk=>?_
     refine oA0 hk rfl rfl fun a hk=>?_
     refine cE0 ?_
     refine c_cond hk rfl (fun hc=>?_) (fun hc=>?_)
     ·have hc16:=eq_of_beq hc
      refine wp_skip ?_
      refine cT0 ?_
      refine c_cond hk rfl (fun hc=>?_) (fun hc=>?_)
      ·have hc17:=eq_of_beq hc
       refine cR0 ?_
       refine oF0 hk fo_26_1 rfl rfl fun a hk=>?_
       refine o_load hk ts_22 rfl (hm.cell_blk (i:=0) rfl rfl) rfl fun a hk=>?_
       refine oL0 hk te_22 rfl rfl fun a hk=>?_
       refine o_icmp hk rfl rfl rfl rfl fun a hk=>?_
       refine oM0 hk rfl rfl fun a hk=>?_
       rcases Bool.eq_false_or_eq_true (decide (((((t.at_ k).s.length:Nat):Int):Int) > 0)) with hb18 | hb18
       ·rw [hb18] at hk
        have hb18d:=of_decide_eq_true hb18
        refine oS0 hk ⟨_,_,_,_,rfl,rfl,rfl,nb_tf⟩ rfl rfl fun a hk=>?_
        refine oS0 hk ⟨_,_,_,_,rfl,rfl,rfl,nb_tf⟩ rfl rfl fun a hk=>?_
        refine oS0 hk ⟨_,_,_,_,rfl,rfl,rfl,nb_tf⟩ rfl rfl fun a hk=>?_
        refine oS0 hk ⟨_,_,_,_,rfl,rfl,rfl,nb_tf⟩ rfl rfl fun a hk=>?_
        refine o_pick hk rfl rfl rfl rfl rfl fun a hk=>?_
        refine cE0 ?_
        refine c_condT hk rfl ?_
        refine cR0 ?_
        refine oA0 hk rfl rfl fun a hk=>?_
        refine cE0 ?_
        refine wp_ret ?_
        refine c_inRet ?_
        refine c_inRet ?_
        refine c_roundRet ?_
        refine cQ0 ?_
        refine bT0 rfl hk rfl ?_
        have hv:usuAt fs t k = false:=by
         show usuF (fs.getD k FNIL) (t.l.getD k T.nil) = false
         first | exact usu8_bad1 (by omega) (by assumption) | exact usu8_bad2 (by omega) (by assumption) | exact usu7_bad (by omega) (by assumption) | exact usu9_bad1 (by omega) (by assumption) | exact usu9_bad2 (by omega) (by assumption) | exact usu10_bad1 (by omega) (by assumption) (by assumption) | exact usu10_bad2 (by omega) (by assumption) (by assumption) | exact usuN_bad (by omega) (by omega) (by omega) (by omega) (by omega) (by assumption) | (exfalso; omega)
        exact ⟨hm.agr,by rw [usuFs_all,range_all_false hlt hv,Bool.and_false]⟩
       ·rw [hb18] at hk
        have hb18d:=of_decide_eq_false hb18
        refine o_want (o':=_) hk ⟨_,_,_,rfl,rfl,rfl⟩ rfl ?_
        refine oF0 hk fo_26_3 rfl rfl fun a hk=>?_
        refine o_want (o':=_) hk ⟨_,_,_,rfl,rfl,rfl⟩ rfl ?_
        refine o_load hk ts_23 rfl (hm.cell_blk (i:=0) rfl rfl) rfl fun a hk=>?_
        refine o_want (o':=_) hk ⟨_,_,_,rfl,rfl,rfl⟩ rfl ?_
        refine oL0 hk te_23 rfl rfl fun a hk=>?_
        refine o_want (o':=_) hk ⟨_,_,_,rfl,rfl,rfl⟩ rfl ?_
        refine o_icmp hk rfl rfl rfl rfl fun a hk=>?_
        refine o_pick hk rfl rfl rfl rfl rfl fun a hk=>?_
        refine cE0 ?_
        refine c_cond hk rfl (fun hc=>?_) (fun hc=>?_)
        ·have hc19:=of_decide_eq_true hc
         refine cR0 ?_
         refine oA0 hk rfl rfl fun a hk=>?_
         refine cE0 ?_
         refine wp_ret ?_
         refine c_inRet ?_
         refine c_inRet ?_
         refine c_roundRet ?_
         refine cQ0 ?_
         refine bT0 rfl hk rfl ?_
         have hv:usuAt fs t k = false:=by
          show usuF (fs.getD k FNIL) (t.l.getD k T.nil) = false
          first | exact usu8_bad1 (by omega) (by assumption) | exact usu8_bad2 (by omega) (by assumption) | exact usu7_bad (by omega) (by assumption) | exact usu9_bad1 (by omega) (by assumption) | exact usu9_bad2 (by omega) (by assumption) | exact usu10_bad1 (by omega) (by assumption) (by assumption) | exact usu10_bad2 (by omega) (by assumption) (by assumption) | exact usuN_bad (by omega) (by omega) (by omega) (by omega) (by omega) (by assumption) | (exfalso; omega)
         exact ⟨hm.agr,by rw [usuFs_all,range_all_false hlt hv,Bool.and_false]⟩
        ·have hc20:=of_decide_eq_false hc
         refine wp_skip ?_
         refine cN0 ?_
         refine cN0 ?_
         have hv:usuAt fs t k = true:=by
          show usuF (fs.getD k FNIL) (t.l.getD k T.nil) = true
          first | exact usu8_ok (by omega) (by assumption) (by assumption) | exact usu7_ok (by omega) (by assumption) | exact usu9_ok (by omega) (by assumption) (by assumption) | exact usu10_ok1 (by omega) (by assumption) (by assumption) | exact usu10_ok2 (by omega) (by assumption) (by assumption) | exact usuN_ok (by omega) (by omega) (by omega) (by omega) (by omega) (by assumption) | (exfalso; omega)
         exact c_round (L':=[(3,.pointer (some ⟨b1,0,none⟩)),(12,.slice p fs.length cap)]) hk ⟨rfl,rfl,rfl,rfl,trivial⟩ rfl ⟨rfl,(range_all_succ hI0 hv),hm.tail.tail.tail.tail.tail⟩
      ·have hc21:=beq_eq_false_iff_ne.1 hc
       refine cR0 ?_
       refine o_icmp hk rfl rfl rfl rfl fun a hk=>?_
       refine oA0 hk rfl rfl fun a hk=>?_
       refine cE0 ?_
       refine c_cond hk rfl (fun hc=>?_) (fun hc=>?_)
       ·have hc22:=eq_of_beq hc
        refine cR0 ?_
        refine oF0 hk fo_51_3 rfl rfl fun a hk=>?_
        refine o_load hk ts_3 rfl (hm.cell_blk (i:=2) rfl rfl) rfl fun a hk=>?_
        refine o_icmp hk rfl rfl rfl rfl fun a hk=>?_
        refine oM0 hk rfl rfl fun a hk=>?_
        rcases Bool.eq_false_or_eq_true (decide (((fs.getD k FNIL).nu:Int) ≥ 0)) with hb23 | hb23
        ·rw [hb23] at hk
         have hb23d:=of_decide_eq_true hb23
         refine o_want (o':=_) hk ⟨_,_,_,rfl,rfl,rfl⟩ rfl ?_
         refine oF0 hk fo_26_2 rfl rfl fun a hk=>?_
         refine o_want (o':=_) hk ⟨_,_,_,rfl,rfl,rfl⟩ rfl ?_
         refine o_load hk ts_4 rfl (hm.cell_blk (i:=0) rfl rfl) rfl fun a hk=>?_
         refine o_want (o':=_) hk ⟨_,_,_,rfl,rfl,rfl⟩ rfl ?_
         refine o_not hk rfl rfl fun a hk=>?_
         refine o_pick hk rfl rfl rfl rfl rfl fun a hk=>?_
         refine oM0 hk rfl rfl fun a hk=>?_
         rcases Bool.eq_false_or_eq_true ((!((t.at_ k).z))) with hb24 | hb24
         ·rw [hb24] at hk
          refine oS0 hk ⟨_,_,_,_,rfl,rfl,rfl,nb_tf⟩ rfl rfl fun a hk=>?_
          refine oS0 hk ⟨_,_,_,_,rfl,rfl,rfl,nb_tf⟩ rfl rfl fun a hk=>?_
          refine oS0 hk ⟨_,_,_,_,rfl,rfl,rfl,nb_tf⟩ rfl rfl fun a hk=>?_
          refine oS0 hk ⟨_,_,_,_,rfl,rfl,rfl,nb_tf⟩ rfl rfl fun a hk=>?_
          refine oS0 hk ⟨_,_,_,_,rfl,rfl,rfl,(nb_u _)⟩ rfl rfl fun a hk=>?_
          refine oS0 hk ⟨_,_,_,_,rfl,rfl,rfl,(nb_u _)⟩ rfl rfl fun a hk=>?_
          refine oS0 hk ⟨_,_,_,_,rfl,rfl,rfl,(nb_u _)⟩ rfl rfl fun a hk=>?_
          refine oS0 hk ⟨_,_,_,_,rfl,rfl,rfl,(nb_u _)⟩ rfl rfl fun a hk=>?_
          refine oS0 hk ⟨_,_,_,_,rfl,rfl,rfl,(nb_u _)⟩ rfl rfl fun a hk=>?_
          refine oS0 hk ⟨_,_,_,_,rfl,rfl,rfl,nb_tf⟩ rfl rfl fun a hk=>?_
          refine o_pick hk rfl rfl rfl rfl rfl fun a hk=>?_
          refine cE0 ?_
          refine c_condT hk rfl ?_
          refine cR0 ?_
          refine oA0 hk rfl rfl fun a hk=>?_
          refine cE0 ?_
          refine wp_ret ?_
          refine c_inRet ?_
          refine c_inRet ?_
          refine c_roundRet ?_
          refine cQ0 ?_
          refine bT0 rfl hk rfl ?_
          have hv:usuAt fs t k = false:=by
           show usuF (fs.getD k FNIL) (t.l.getD k T.nil) = false
           first | exact usu8_bad1 (by omega) (by assumption) | exact usu8_bad2 (by omega) (by assumption) | exact usu7_bad (by omega) (by assumption) | exact usu9_bad1 (by omega) (by assumption) | exact usu9_bad2 (by omega) (by assumption) | exact usu10_bad1 (by omega) (by assumption) (by assumption) | exact usu10_bad2 (by omega) (by assumption) (by assumption) | exact usuN_bad (by omega) (by omega) (by omega) (by omega) (by omega) (by assumption) | (exfalso; omega)
          exact ⟨hm.agr,by rw [usuFs_all,range_all_false hlt hv,Bool.and_false]⟩
         ·rw [hb24] at hk
          refine o_want (o':=_) hk ⟨_,_,_,rfl,rfl,rfl⟩ rfl ?_
          refine oF0 hk fo_51_3 rfl rfl fun a hk=>?_
          refine o_want (o':=_) hk ⟨_,_,_,rfl,rfl,rfl⟩ rfl ?_
          refine o_load hk ts_3 rfl (hm.cell_blk (i:=2) rfl rfl) rfl fun a hk=>?_
          refine o_want (o':=_) hk ⟨_,_,_,rfl,rfl,rfl⟩ rfl ?_
          refine o_icmp hk rfl rfl rfl rfl fun a hk=>?_
          refine o_want (o':=_) hk ⟨_,_,_,rfl,rfl,rfl⟩ rfl ?_
          refine oM0 hk rfl rfl fun a hk=>?_
          rcases Bool.eq_false_or_eq_true (decide (((fs.getD k FNIL).nu:Int) < 0)) with hb25 | hb25
          ·rw [hb25] at hk
           have hb25d:=of_decide_eq_true hb25
           refine o_want (o':=_) hk ⟨_,_,_,rfl,rfl,rfl⟩ rfl ?_
           refine oF0 hk fo_51_7 rfl rfl fun a hk=>?_
           refine o_want (o':=_) hk ⟨_,_,_,rfl,rfl,rfl⟩ rfl ?_
           refine o_load hk ts_29 rfl (hm.cell_blk (i:=2) rfl rfl) rfl fun a hk=>?_
           refine o_want (o':=_) hk ⟨_,_,_,rfl,rfl,rfl⟩ rfl ?_
           refine o_loadN (cs:=[.int .i64 ((t.at_ k).n),.slice psa1 ((t.at_ k).s.length) capsa1,.bool ((t.at_ k).z),.slice pa1 ((t.at_ k).l.length) capa1,.slice pua1 ((t.at_ k).u.length) capua1]) hk ts_26 rfl (hm.cells_blk (i:=0) rfl rfl) rfl fun a hk=>?_
           refine o_want (o':=_) hk ⟨_,_,_,rfl,rfl,rfl⟩ rfl ?_
           refine o_call hk cb_53 (hu (fs.getD k FNIL) (getD_mem hlt) (rep_Fd8 (hm.rep (i:=4) rfl)) (hm.rep (i:=1) rfl) (sane_getD (sane_spec hsn).2.2.2 k)) ⟨rfl,rfl,trivial⟩ rfl fun v w a hR hk=>?_
           obtain ⟨hp,rfl⟩:=hR
           have hm:=hm.pure hp
           refine o_want (o':=_) hk ⟨_,_,_,rfl,rfl,rfl⟩ rfl ?_
           refine o_not hk rfl rfl fun a hk=>?_
           refine o_want (o':=_) hk ⟨_,_,_,rfl,rfl,rfl⟩ rfl ?_
           refine o_pick hk rfl rfl rfl rfl rfl fun a hk=>?_
           refine o_pick hk rfl rfl rfl rfl rfl fun a hk=>?_
           refine cE0 ?_
           refine c_cond hk rfl (fun hc=>?_) (fun hc=>?_)
           ·have hc26:=hc
            refine cR0 ?_
            refine oA0 hk rfl rfl fun a hk=>?_
            refine cE0 ?_
            refine wp_ret ?_
            refine c_inRet ?_
            refine c_inRet ?_
            refine c_roundRet ?_
            refine cQ0 ?_
            refine bT0 rfl hk rfl ?_
            have hv:usuAt fs t k = false:=by
             show usuF (fs.getD k FNIL) (t.l.getD k T.nil) = false
             first | exact usu8_bad1 (by omega) (by assumption) | exact usu8_bad2 (by omega) (by assumption) | exact usu7_bad (by omega) (by assumption) | exact usu9_bad1 (by omega) (by assumption) | exact usu9_bad2 (by omega) (by assumption) | exact usu10_bad1 (by omega) (by assumption) (by assumption) | exact usu10_bad2 (by omega) (by assumption) (by assumption) | exact usuN_bad (by omega) (by omega) (by omega) (by omega) (by omega) (by assumption) | (exfalso; omega)
            exact ⟨hm.agr,by rw [usuFs_all,range_all_false hlt hv,Bool.and_false]⟩
           ·have hc27:=hc
            refine wp_skip ?_
            refine cN0 ?_
            refine cN0 ?_
            have hv:usuAt fs t k = true:=by
             show usuF (fs.getD k FNIL) (t.l.getD k T.nil) = true
             first | exact usu8_ok (by omega) (by assumption) (by assumption) | exact usu7_ok (by omega) (by assumption) | exact usu9_ok (by omega) (by assumption) (by assumption) | exact usu10_ok1 (by omega) (by assumption) (by assumption) | exact usu10_ok2 (by omega) (by assumption) (by assumption) | exact usuN_ok (by omega) (by omega) (by omega) (by omega) (by omega) (by assumption) | (exfalso; omega)
            exact c_round (L':=[(3,.pointer (some ⟨b1,0,none⟩)),(12,.slice p fs.length cap)]) hk ⟨rfl,rfl,rfl,rfl,trivial⟩ rfl ⟨rfl,(range_all_succ hI0 hv),hm.tail.tail.tail.tail.tail⟩
          ·rw [hb25] at hk
           have hb25d:=of_decide_eq_false hb25
           refine oS0 hk ⟨_,_,_,_,rfl,rfl,rfl,nb_ft⟩ rfl rfl fun a hk=>?_
           refine oS0 hk ⟨_,_,_,_,rfl,rfl,rfl,nb_ft⟩ rfl rfl fun a hk=>?_
           refine oS0 hk ⟨_,_,_,_,rfl,rfl,rfl,nb_ft⟩ rfl rfl fun a hk=>?_
           refine oS0 hk ⟨_,_,_,_,rfl,rfl,rfl,nb_ft⟩ rfl rfl fun a hk=>?_
           refine oS0 hk ⟨_,_,_,_,rfl,rfl,rfl,nb_ft⟩ rfl rfl fun a hk=>?_
           refine o_want (o':=_) hk ⟨_,_,_,rfl,rfl,rfl⟩ rfl ?_
           refine o_pick hk rfl rfl rfl rfl rfl fun a hk=>?_
           refine o_pick hk rfl rfl rfl rfl rfl fun a hk=>?_
           refine cE0 ?_
           refine c_condF hk rfl ?_
           refine wp_skip ?_
           refine cN0 ?_
           refine cN0 ?_
           have hv:usuAt fs t k = true:=by
            show usuF (fs.getD k FNIL) (t.l.getD k T.nil) = true
            first | exact usu8_ok (by omega) (by assumption) (by assumption) | exact usu7_ok (by omega) (by assumption) | exact usu9_ok (by omega) (by assumption) (by assumption) | exact usu10_ok1 (by omega) (by assumption) (by assumption) | exact usu10_ok2 (by omega) (by assumption) (by assumption) | exact usuN_ok (by omega) (by omega) (by omega) (by omega) (by omega) (by assumption) | (exfalso; omega)
           exact c_round (L':=[(3,.pointer (some ⟨b1,0,none⟩)),(12,.slice p fs.length cap)]) hk ⟨rfl,rfl,rfl,rfl,trivial⟩ rfl ⟨rfl,(range_all_succ hI0 hv),hm.tail.tail.tail.tail.tail⟩
        ·rw [hb23] at hk
         have hb23d:=of_decide_eq_false hb23
         refine oS0 hk ⟨_,_,_,_,rfl,rfl,rfl,nb_ft⟩ rfl rfl fun a hk=>?_
         refine oS0 hk ⟨_,_,_,_,rfl,rfl,rfl,nb_ft⟩ rfl rfl fun a hk=>?_
         refine oS0 hk ⟨_,_,_,_,rfl,rfl,rfl,nb_ft⟩ rfl rfl fun a hk=>?_
         refine o_pick hk rfl rfl rfl rfl rfl fun a hk=>?_
         refine oM0 hk rfl rfl fun a hk=>?_
         refine o_want (o':=_) hk ⟨_,_,_,rfl,rfl,rfl⟩ rfl ?_
         refine oF0 hk fo_51_3 rfl rfl fun a hk=>?_
         refine o_want (o':=_) hk ⟨_,_,_,rfl,rfl,rfl⟩ rfl ?_
         refine o_load hk ts_3 rfl (hm.cell_blk (i:=2) rfl rfl) rfl fun a hk=>?_
         refine o_want (o':=_) hk ⟨_,_,_,rfl,rfl,rfl⟩ rfl ?_
         refine o_icmp hk rfl rfl rfl rfl fun a hk=>?_
         refine o_want (o':=_) hk ⟨_,_,_,rfl,rfl,rfl⟩ rfl ?_
         refine oM0 hk rfl rfl fun a hk=>?_
         rcases Bool.eq_false_or_eq_true (decide (((fs.getD k FNIL).nu:Int) < 0)) with hb28 | hb28
         ·rw [hb28] at hk
          have hb28d:=of_decide_eq_true hb28
          refine o_want (o':=_) hk ⟨_,_,_,rfl,rfl,rfl⟩ rfl ?_
          refine oF0 hk fo_51_7 rfl rfl fun a hk=>?_
          refine o_want (o':=_) hk ⟨_,_,_,rfl,rfl,rfl⟩ rfl ?_
          refine o_load hk ts_29 rfl (hm.cell_blk (i:=2) rfl rfl) rfl fun a hk=>?_
          refine o_want (o':=_) hk ⟨_,_,_,rfl,rfl,rfl⟩ rfl ?_
          refine o_loadN (cs:=[.int .i64 ((t.at_ k).n),.slice psa1 ((t.at_ k).s.length) capsa1,.bool ((t.at_ k).z),.slice pa1 ((t.at_ k).l.length) capa1,.slice pua1 ((t.at_ k).u.length) capua1]) hk ts_26 rfl (hm.cells_blk (i:=0) rfl rfl) rfl fun a hk=>?_
          refine o_want (o':=_) hk ⟨_,_,_,rfl,rfl,rfl⟩ rfl ?_
          refine o_call hk cb_53 (hu (fs.getD k FNIL) (getD_mem hlt) (rep_Fd8 (hm.rep (i:=4) rfl)) (hm.rep (i:=1) rfl) (sane_getD (sane_spec hsn).2.2.2 k)) ⟨rfl,rfl,trivial⟩ rfl fun v w a hR hk=>?_
          obtain ⟨hp,rfl⟩:=hR
          have hm:=hm.pure hp
          refine o_want (o':=_) hk ⟨_,_,_,rfl,rfl,rfl⟩ rfl ?_
          refine o_not hk rfl rfl fun a hk=>?_
          refine o_want (o':=_) hk ⟨_,_,_,rfl,rfl,rfl⟩ rfl ?_
          refine o_pick hk rfl rfl rfl rfl rfl fun a hk=>?_
          refine o_pick hk rfl rfl rfl rfl rfl fun a hk=>?_
          refine cE0 ?_
          refine c_cond hk rfl (fun hc=>?_) (fun hc=>?_)
          ·have hc29:=hc
           refine cR0 ?_
           refine oA0 hk rfl rfl fun a hk=>?_
           refine cE0 ?_
           refine wp_ret ?_
           refine c_inRet ?_
           refine c_inRet ?_
           refine c_roundRet ?_
           refine cQ0 ?_
           refine bT0 rfl hk rfl ?_
           have hv:usuAt fs t k = false:=by
            show usuF (fs.getD k FNIL) (t.l.getD k T.nil) = false
            first | exact usu8_bad1 (by omega) (by assumption) | exact usu8_bad2 (by omega) (by assumption) | exact usu7_bad (by omega) (by assumption) | exact usu9_bad1 (by omega) (by assumption) | exact usu9_bad2 (by omega) (by assumption) | exact usu10_bad1 (by omega) (by assumption) (by assumption) | exact usu10_bad2 (by omega) (by assumption) (by assumption) | exact usuN_bad (by omega) (by omega) (by omega) (by omega) (by omega) (by assumption) | (exfalso; omega)
           exact ⟨hm.agr,by rw [usuFs_all,range_all_false hlt hv,Bool.and_false]⟩
          ·have hc30:=hc
           refine wp_skip ?_
           refine cN0 ?_
           refine cN0 ?_
           have hv:usuAt fs t k = true:=by
            show usuF (fs.getD k FNIL) (t.l.getD k T.nil) = true
            first | exact usu8_ok (by omega) (by assumption) (by assumption) | exact usu7_ok (by omega) (by assumption) | exact usu9_ok (by omega) (by assumption) (by assumption) | exact usu10_ok1 (by omega) (by assumption) (by assumption) | exact usu10_ok2 (by omega) (by assumption) (by assumption) | exact usuN_ok (by omega) (by omega) (by omega) (by omega) (by omega) (by assumption) | (exfalso; omega)
           exact c_round (L':=[(3,.pointer (some ⟨b1,0,none⟩)),(12,.slice p fs.length cap)]) hk ⟨rfl,rfl,rfl,rfl,trivial⟩ rfl ⟨rfl,(range_all_succ hI0 hv),hm.tail.tail.tail.tail.tail⟩
         ·rw [hb28] at hk
          have hb28d:=of_decide_eq_false hb28
          refine oS0 hk ⟨_,_,_,_,rfl,rfl,rfl,nb_ft⟩ rfl rfl fun a hk=>?_
          refine oS0 hk ⟨_,_,_,_,rfl,rfl,rfl,nb_ft⟩ rfl rfl fun a hk=>?_
          refine oS0 hk ⟨_,_,_,_,rfl,rfl,rfl,nb_ft⟩ rfl rfl fun a hk=>?_
          refine oS0 hk ⟨_,_,_,_,rfl,rfl,rfl,nb_ft⟩ rfl rfl fun a hk=>?_
          refine oS0 hk ⟨_,_,_,_,rfl,rfl,rfl,nb_ft⟩ rfl rfl fun a hk=>?_
          refine o_want (o':=_) hk ⟨_,_,_,rfl,rfl,rfl⟩ rfl ?_
          refine o_pick hk rfl rfl rfl rfl rfl fun a hk=>?_
          refine o_pick hk rfl rfl rfl rfl rfl fun a hk=>?_
          refine cE0 ?_
          refine c_condF hk rfl ?_
          refine wp_skip ?_
          refine cN0 ?_
          refine cN0 ?_
          have hv:usuAt fs t k = true:=by
           show usuF (fs.getD k FNIL) (t.l.getD k T.nil) = true
           first | exact usu8_ok (by omega) (by assumption) (by assumption) | exact usu7_ok (by omega) (by assumption) | exact usu9_ok (by omega) (by assumption) (by assumption) | exact usu10_ok1 (by omega) (by assumption) (by assumption) | exact usu10_ok2 (by omega) (by assumption) (by assumption) | exact usuN_ok (by omega) (by omega) (by omega) (by omega) (by omega) (by assumption) | (exfalso; omega)
          exact c_round (L':=[(3,.pointer (some ⟨b1,0,none⟩)),(12,.slice p fs.length cap)]) hk ⟨rfl,rfl,rfl,rfl,trivial⟩ rfl ⟨rfl,(range_all_succ hI0 hv),hm.tail.tail.tail.tail.tail⟩
       ·have hc31:=beq_eq_false_iff_ne.1 hc
        refine wp_seq ?_
        refine d_startM (K:=7) mixed hm fun w hm=>?_
        refine d_take (i:=0) rfl rfl rfl (by kernel_rfl) (fun _ _ _ h=>h) hk rfl (fun w hm=>rF0 hk fo_26_0 rfl) hm fun a hk=>?_
        refine d_take (i:=1) rfl rfl rfl (by kernel_rfl) (fun _ _ _ h=>h) hk rfl (fun w hm=>r_load1 hk ts_2 rfl (hm.cell_blk (i:=0) rfl rfl)) hm fun a hk=>?_
        refine d_take (i:=2) rfl rfl rfl (by kernel_rfl) (fun _ _ _ h=>h) hk rfl (fun w hm=>rF0 hk fo_51_0 rfl) hm fun a hk=>?_
        refine d_take (i:=3) rfl rfl rfl (by kernel_rfl) (fun _ _ _ h=>h) hk rfl (fun w hm=>r_load1 hk ts_3 rfl (hm.cell_blk (i:=2) rfl rfl)) hm fun a hk=>?_
        refine d_one (k:=4) (by kernel_rfl) rfl rfl ?_
        refine oF0 hk fo_51_5 rfl rfl fun a hk=>?_
        refine c_endQ (cT0 ⟨fun _=>hm,?_⟩)
        refine d_one (k:=5) (by kernel_rfl) rfl rfl ?_
        refine o_load hk ts_2 rfl (hm.cell_blk (i:=2) rfl rfl) rfl fun a hk=>?_
        refine c_endQ (cT0 ⟨fun _=>hm,?_⟩)
        refine d_one (k:=6) (by kernel_rfl) rfl rfl ?_
        refine o_call hk cb_118 (number_c (Y:=Y) (fs.getD k FNIL).kind) ⟨rfl,rfl,trivial⟩ rfl fun v w a hR hk=>?_
        obtain ⟨hp,rfl⟩:=hR
        have hm:=hm.pure hp
        refine c_endQ (cT0 ⟨fun _=>hm,?_⟩)
        refine d_one (k:=7) (by kernel_rfl) rfl rfl ?_
        refine o_icmp hk rfl rfl rfl rfl fun a hk=>?_
        refine c_endQ (cT0 ⟨fun h=>Bool.noConfusion (show true = false from h),?_⟩)
        refine d_done (by kernel_rfl) ?_ _
        refine cT0 ?_
        refine c_cond hk rfl (fun hc=>?_) (fun hc=>?_)
        ·have hc32:=bne_iff_ne.1 hc
         refine cR0 ?_
         refine oA0 hk rfl rfl fun a hk=>?_
         refine cE0 ?_
         refine wp_ret ?_
         refine c_inRet ?_
         refine c_inRet ?_
         refine c_roundRet ?_
         refine cQ0 ?_
         refine bT0 rfl hk rfl ?_
         have hv:usuAt fs t k = false:=by
          show usuF (fs.getD k FNIL) (t.l.getD k T.nil) = false
          first | exact usu8_bad1 (by omega) (by assumption) | exact usu8_bad2 (by omega) (by assumption) | exact usu7_bad (by omega) (by assumption) | exact usu9_bad1 (by omega) (by assumption) | exact usu9_bad2 (by omega) (by assumption) | exact usu10_bad1 (by omega) (by assumption) (by assumption) | exact usu10_bad2 (by omega) (by assumption) (by assumption) | exact usuN_bad (by omega) (by omega) (by omega) (by omega) (by omega) (by assumption) | (exfalso; omega)
         exact ⟨hm.agr,by rw [usuFs_all,range_all_false hlt hv,Bool.and_false]⟩
        ·have hc33:=bne_eq_false_iff_eq.1 hc
         refine wp_skip ?_
         refine cN0 ?_
         refine cN0 ?_
         have hv:usuAt fs t k = true:=by
          show usuF (fs.getD k FNIL) (t.l.getD k T.nil) = true
          first | exact usu8_ok (by omega) (by assumption) (by assumption) | exact usu7_ok (by omega) (by assumption) | exact usu9_ok (by omega) (by assumption) (by assumption) | exact usu10_ok1 (by omega) (by assumption) (by assumption) | exact usu10_ok2 (by omega) (by assumption) (by assumption) | exact usuN_ok (by omega) (by omega) (by omega) (by omega) (by omega) (by assumption) | (exfalso; omega)
         exact c_round (L':=[(3,.pointer (some ⟨b1,0,none⟩)),(12,.slice p fs.length cap)]) hk ⟨rfl,rfl,rfl,rfl,trivial⟩ rfl ⟨rfl,(range_all_succ hI0 hv),hm.tail.tail.tail.tail.tail⟩
     ·have hc34:=beq_eq_false_iff_ne.1 hc
      refine c_reg ?_
      refine o_icmp hk rfl rfl rfl rfl fun a hk=>?_
      refine oA0 hk rfl rfl fun a hk=>?_
      refine c_endQ ?_
      refine cT0 ?_
      refine c_cond hk rfl (fun hc=>?_) (fun hc=>?_)
      ·have hc35:=eq_of_beq hc
       refine cR0 ?_
       refine oF0 hk fo_26_1 rfl rfl fun a hk=>?_
       refine o_load hk ts_22 rfl (hm.cell_blk (i:=0) rfl rfl) rfl fun a hk=>?_
       refine oL0 hk te_22 rfl rfl fun a hk=>?_
       refine o_icmp hk rfl rfl rfl rfl fun a hk=>?_
       refine oM0 hk rfl rfl fun a hk=>?_
       rcases Bool.eq_false_or_eq_true (decide (((((t.at_ k).s.length:Nat):Int):Int) > 0)) with hb36 | hb36
       ·rw [hb36] at hk
        have hb36d:=of_decide_eq_true hb36
        refine oS0 hk ⟨_,_,_,_,rfl,rfl,rfl,nb_tf⟩ rfl rfl fun a hk=>?_
        refine oS0 hk ⟨_,_,_,_,rfl,rfl,rfl,nb_tf⟩ rfl rfl fun a hk=>?_
        refine oS0 hk ⟨_,_,_,_,rfl,rfl,rfl,nb_tf⟩ rfl rfl fun a hk=>?_
        refine oS0 hk ⟨_,_,_,_,rfl,rfl,rfl,nb_tf⟩ rfl rfl fun a hk=>?_
        refine o_pick hk rfl rfl rfl rfl rfl fun a hk=>?_
        refine cE0 ?_
        refine c_condT hk rfl ?_
        refine cR0 ?_
        refine oA0 hk rfl rfl fun a hk=>?_
        refine cE0 ?_
        refine wp_ret ?_
        refine c_inRet ?_
        refine c_inRet ?_
        refine c_roundRet ?_
        refine cQ0 ?_
        refine bT0 rfl hk rfl ?_
        have hv:usuAt fs t k = false:=by
         show usuF (fs.getD k FNIL) (t.l.getD k T.nil) = false
         first | exact usu8_bad1 (by omega) (by assumption) | exact usu8_bad2 (by omega) (by assumption) | exact usu7_bad (by omega) (by assumption) | exact usu9_bad1 (by omega) (by assumption) | exact usu9_bad2 (by omega) (by assumption) | exact usu10_bad1 (by omega) (by assumption) (by assumption) | exact usu10_bad2 (by omega) (by assumption) (by assumption) | exact usuN_bad (by omega) (by omega) (by omega) (by omega) (by omega) (by assumption) | (exfalso; omega)
        exact ⟨hm.agr,by rw [usuFs_all,range_all_false hlt hv,Bool.and_false]⟩
       ·rw [hb36] at hk
        have hb36d:=of_decide_eq_false hb36
        refine o_want (o':=_) hk ⟨_,_,_,rfl,rfl,rfl⟩ rfl ?_
        refine oF0 hk fo_26_3 rfl rfl fun a hk=>?_
        refine o_want (o':=_) hk ⟨_,_,_,rfl,rfl,rfl⟩ rfl ?_
        refine o_load hk ts_23 rfl (hm.cell_blk (i:=0) rfl rfl) rfl fun a hk=>?_
        refine o_want (o':=_) hk ⟨_,_,_,rfl,rfl,rfl⟩ rfl ?_
        refine oL0 hk te_23 rfl rfl fun a hk=>?_
        refine o_want (o':=_) hk ⟨_,_,_,rfl,rfl,rfl⟩ rfl ?_
        refine o_icmp hk rfl rfl rfl rfl fun a hk=>?_
        refine o_pick hk rfl rfl rfl rfl rfl fun a hk=>?_
        refine cE0 ?_
        refine c_cond hk rfl (fun hc=>?_) (fun hc=>?_)
        ·have hc37:=of_decide_eq_true hc
         refine cR0 ?_
         refine oA0 hk rfl rfl fun a hk=>?_
         refine cE0 ?_
         refine wp_ret ?_
         refine c_inRet ?_
         refine c_inRet ?_
         refine c_roundRet ?_
         refine cQ0 ?_
         refine bT0 rfl hk rfl ?_
         have hv:usuAt fs t k = false:=by
          show usuF (fs.getD k FNIL) (t.l.getD k T.nil) = false
          first | exact usu8_bad1 (by omega) (by assumption) | exact usu8_bad2 (by omega) (by assumption) | exact usu7_bad (by omega) (by assumption) | exact usu9_bad1 (by omega) (by assumption) | exact usu9_bad2 (by omega) (by assumption) | exact usu10_bad1 (by omega) (by assumption) (by assumption) | exact usu10_bad2 (by omega) (by assumption) (by assumption) | exact usuN_bad (by omega) (by omega) (by omega) (by omega) (by omega) (by assumption) | (exfalso; omega)
         exact ⟨hm.agr,by rw [usuFs_all,range_all_false hlt hv,Bool.and_false]⟩
        ·have hc38:=of_decide_eq_false hc
         refine wp_skip ?_
         refine cN0 ?_
         refine cN0 ?_
         have hv:usuAt fs t k = true:=by
          show usuF (fs.getD k FNIL) (t.l.getD k T.nil) = true
          first | exact usu8_ok (by omega) (by assumption) (by assumption) | exact usu7_ok (by omega) (by assumption) | exact usu9_ok (by omega) (by assumption) (by assumption) | exact usu10_ok1 (by omega) (by assumption) (by assumption) | exact usu10_ok2 (by omega) (by assumption) (by assumption) | exact usuN_ok (by omega) (by omega) (by omega) (by omega) (by omega) (by assumption) | (exfalso; omega)
         exact c_round (L':=[(3,.pointer (some ⟨b1,0,none⟩)),(12,.slice p fs.length cap)]) hk ⟨rfl,rfl,rfl,rfl,trivial⟩ rfl ⟨rfl,(range_all_succ hI0 hv),hm.tail.tail.tail.tail.tail⟩
      ·have hc39:=beq_eq_false_iff_ne.1 hc
       refine cR0 ?_
       refine o_icmp hk rfl rfl rfl rfl fun a hk=>?_
       refine oA0 hk rfl rfl fun a hk=>?_
       refine cE0 ?_
       refine c_cond hk rfl (fun hc=>?_) (fun hc=>?_)
       ·have hc40:=eq_of_beq hc
        refine cR0 ?_
        refine oF0 hk fo_51_3 rfl rfl fun a hk=>?_
        refine o_load hk ts_3 rfl (hm.cell_blk (i:=2) rfl rfl) rfl fun a hk=>?_
        refine o_icmp hk rfl rfl rfl rfl fun a hk=>?_
        refine oM0 hk rfl rfl fun a hk=>?_
        rcases Bool.eq_false_or_eq_true (decide (((fs.getD k FNIL).nu:Int) ≥ 0)) with hb41 | hb41
        ·rw [hb41] at hk
         have hb41d:=of_decide_eq_true hb41
         refine o_want (o':=_) hk ⟨_,_,_,rfl,rfl,rfl⟩ rfl ?_
         refine oF0 hk fo_26_2 rfl rfl fun a hk=>?_
         refine o_want (o':=_) hk ⟨_,_,_,rfl,rfl,rfl⟩ rfl ?_
         refine o_load hk ts_4 rfl (hm.cell_blk (i:=0) rfl rfl) rfl fun a hk=>?_
         refine o_want (o':=_) hk ⟨_,_,_,rfl,rfl,rfl⟩ rfl ?_
         refine o_not hk rfl rfl fun a hk=>?_
         refine o_pick hk rfl rfl rfl rfl rfl fun a hk=>?_
         refine oM0 hk rfl rfl fun a hk=>?_
         rcases Bool.eq_false_or_eq_true ((!((t.at_ k).z))) with hb42 | hb42
         ·rw [hb42] at hk
          refine oS0 hk ⟨_,_,_,_,rfl,rfl,rfl,nb_tf⟩ rfl rfl fun a hk=>?_
          refine oS0 hk ⟨_,_,_,_,rfl,rfl,rfl,nb_tf⟩ rfl rfl fun a hk=>?_
          refine oS0 hk ⟨_,_,_,_,rfl,rfl,rfl,nb_tf⟩ rfl rfl fun a hk=>?_
          refine oS0 hk ⟨_,_,_,_,rfl,rfl,rfl,nb_tf⟩ rfl rfl fun a hk=>?_
          refine oS0 hk ⟨_,_,_,_,rfl,rfl,rfl,(nb_u _)⟩ rfl rfl fun a hk=>?_
          refine oS0 hk ⟨_,_,_,_,rfl,rfl,rfl,(nb_u _)⟩ rfl rfl fun a hk=>?_
          refine oS0 hk ⟨_,_,_,_,rfl,rfl,rfl,(nb_u _)⟩ rfl rfl fun a hk=>?_
          refine oS0 hk ⟨_,_,_,_,rfl,rfl,rfl,(nb_u _)⟩ rfl rfl fun a hk=>?_
          refine oS0 hk ⟨_,_,_,_,rfl,rfl,rfl,(nb_u _)⟩ rfl rfl fun a hk=>?_
          refine oS0 hk ⟨_,_,_,_,rfl,rfl,rfl,nb_tf⟩ rfl rfl fun a hk=>?_
          refine o_pick hk rfl rfl rfl rfl rfl fun a hk=>?_
          refine cE0 ?_
          refine c_condT hk rfl ?_
          refine cR0 ?_
          refine oA0 hk rfl rfl fun a hk=>?_
          refine cE0 ?_
          refine wp_ret ?_
          refine c_inRet ?_
          refine c_inRet ?_
          refine c_roundRet ?_
          refine cQ0 ?_
          refine bT0 rfl hk rfl ?_
          have hv:usuAt fs t k = false:=by
           show usuF (fs.getD k FNIL) (t.l.getD k T.nil) = false
           first | exact usu8_bad1 (by omega) (by assumption) | exact usu8_bad2 (by omega) (by assumption) | exact usu7_bad (by omega) (by assumption) | exact usu9_bad1 (by omega) (by assumption) | exact usu9_bad2 (by omega) (by assumption) | exact usu10_bad1 (by omega) (by assumption) (by assumption) | exact usu10_bad2 (by omega) (by assumption) (by assumption) | exact usuN_bad (by omega) (by omega) (by omega) (by omega) (by omega) (by assumption) | (exfalso; omega)
          exact ⟨hm.agr,by rw [usuFs_all,range_all_false hlt hv,Bool.and_false]⟩
         ·rw [hb42] at hk
          refine o_want (o':=_) hk ⟨_,_,_,rfl,rfl,rfl⟩ rfl ?_
          refine oF0 hk fo_51_3 rfl rfl fun a hk=>?_
          refine o_want (o':=_) hk ⟨_,_,_,rfl,rfl,rfl⟩ rfl ?_
          refine o_load hk ts_3 rfl (hm.cell_blk (i:=2) rfl rfl) rfl fun a hk=>?_
          refine o_want (o':=_) hk ⟨_,_,_,rfl,rfl,rfl⟩ rfl ?_
          refine o_icmp hk rfl rfl rfl rfl fun a hk=>?_
          refine o_want (o':=_) hk ⟨_,_,_,rfl,rfl,rfl⟩ rfl ?_
          refine oM0 hk rfl rfl fun a hk=>?_
          rcases Bool.eq_false_or_eq_true (decide (((fs.getD k FNIL).nu:Int) < 0)) with hb43 | hb43
          ·rw [hb43] at hk
           have hb43d:=of_decide_eq_true hb43
           refine o_want (o':=_) hk ⟨_,_,_,rfl,rfl,rfl⟩ rfl ?_
           refine oF0 hk fo_51_7 rfl rfl fun a hk=>?_
           refine o_want (o':=_) hk ⟨_,_,_,rfl,rfl,rfl⟩ rfl ?_
           refine o_load hk ts_29 rfl (hm.cell_blk (i:=2) rfl rfl) rfl fun a hk=>?_
           refine o_want (o':=_) hk ⟨_,_,_,rfl,rfl,rfl⟩ rfl ?_
           refine o_loadN (cs:=[.int .i64 ((t.at_ k).n),.slice psa1 ((t.at_ k).s.length) capsa1,.bool ((t.at_ k).z),.slice pa1 ((t.at_ k).l.length) capa1,.slice pua1 ((t.at_ k).u.length) capua1]) hk ts_26 rfl (hm.cells_blk (i:=0) rfl rfl) rfl fun a hk=>?_
           refine o_want (o':=_) hk ⟨_,_,_,rfl,rfl,rfl⟩ rfl ?_
           refine o_call hk cb_53 (hu (fs.getD k FNIL) (getD_mem hlt) (rep_Fd8 (hm.rep (i:=4) rfl)) (hm.rep (i:=1) rfl) (sane_getD (sane_spec hsn).2.2.2 k)) ⟨rfl,rfl,trivial⟩ rfl fun v w a hR hk=>?_
           obtain ⟨hp,rfl⟩:=hR
           have hm:=hm.pure hp
           refine o_want (o':=_) hk ⟨_,_,_,rfl,rfl,rfl⟩ rfl ?_
           refine o_not hk rfl rfl fun a hk=>?_
           refine o_want (o':=_) hk ⟨_,_,_,rfl,rfl,rfl⟩ rfl ?_
           refine o_pick hk rfl rfl rfl rfl rfl fun a hk=>?_
           refine o_pick hk rfl rfl rfl rfl rfl fun a hk=>?_
           refine cE0 ?_
           refine c_cond hk rfl (fun hc=>?_) (fun hc=>?_)
           ·have hc44:=hc
            refine cR0 ?_
            refine oA0 hk rfl rfl fun a hk=>?_
            refine cE0 ?_
            refine wp_ret ?_
            refine c_inRet ?_
            refine c_inRet ?_
            refine c_roundRet ?_
            refine cQ0 ?_
            refine bT0 rfl hk rfl ?_
            have hv:usuAt fs t k = false:=by
             show usuF (fs.getD k FNIL) (t.l.getD k T.nil) = false
             first | exact usu8_bad1 (by omega) (by assumption) | exact usu8_bad2 (by omega) (by assumption) | exact usu7_bad (by omega) (by assumption) | exact usu9_bad1 (by omega) (by assumption) | exact usu9_bad2 (by omega) (by assumption) | exact usu10_bad1 (by omega) (by assumption) (by assumption) | exact usu10_bad2 (by omega) (by assumption) (by assumption) | exact usuN_bad (by omega) (by omega) (by omega) (by omega) (by omega) (by assumption) | (exfalso; omega)
            exact ⟨hm.agr,by rw [usuFs_all,range_all_false hlt hv,Bool.and_false]⟩
           ·have hc45:=hc
            refine wp_skip ?_
            refine cN0 ?_
            refine cN0 ?_
            have hv:usuAt fs t k = true:=by
             show usuF (fs.getD k FNIL) (t.l.getD k T.nil) = true
             first | exact usu8_ok (by omega) (by assumption) (by assumption) | exact usu7_ok (by omega) (by assumption) | exact usu9_ok (by omega) (by assumption) (by assumption) | exact usu10_ok1 (by omega) (by assumption) (by assumption) | exact usu10_ok2 (by omega) (by assumption) (by assumption) | exact usuN_ok (by omega) (by omega) (by omega) (by omega) (by omega) (by assumption) | (exfalso; omega)
            exact c_round (L':=[(3,.pointer (some ⟨b1,0,none⟩)),(12,.slice p fs.length cap)]) hk ⟨rfl,rfl,rfl,rfl,trivial⟩ rfl ⟨rfl,(range_all_succ hI0 hv),hm.tail.tail.tail.tail.tail⟩
          ·rw [hb43] at hk
           have hb43d:=of_decide_eq_false hb43
           refine oS0 hk ⟨_,_,_,_,rfl,rfl,rfl,nb_ft⟩ rfl rfl fun a hk=>?_
           refine oS0 hk ⟨_,_,_,_,rfl,rfl,rfl,nb_ft⟩ rfl rfl fun a hk=>?_
           refine oS0 hk ⟨_,_,_,_,rfl,rfl,rfl,nb_ft⟩ rfl rfl fun a hk=>?_
           refine oS0 hk ⟨_,_,_,_,rfl,rfl,rfl,nb_ft⟩ rfl rfl fun a hk=>?_
           refine oS0 hk ⟨_,_,_,_,rfl,rfl,rfl,nb_ft⟩ rfl rfl fun a hk=>?_
           refine o_want (o':=_) hk ⟨_,_,_,rfl,rfl,rfl⟩ rfl ?_
           refine o_pick hk rfl rfl rfl rfl rfl fun a hk=>?_
           refine o_pick hk rfl rfl rfl rfl rfl fun a hk=>?_
           refine cE0 ?_
           refine c_condF hk rfl ?_
           refine wp_skip ?_
           refine cN0 ?_
           refine cN0 ?_
           have hv:usuAt fs t k = true:=by
            show usuF (fs.getD k FNIL) (t.l.getD k T.nil) = true
            first | exact usu8_ok (by omega) (by assumption) (by assumption) | exact usu7_ok (by omega) (by assumption) | exact usu9_ok (by omega) (by assumption) (by assumption) | exact usu10_ok1 (by omega) (by assumption) (by assumption) | exact usu10_ok2 (by omega) (by assumption) (by assumption) | exact usuN_ok (by omega) (by omega) (by omega) (by omega) (by omega) (by assumption) | (exfalso; omega)
           exact c_round (L':=[(3,.pointer (some ⟨b1,0,none⟩)),(12,.slice p fs.length cap)]) hk ⟨rfl,rfl,rfl,rfl,trivial⟩ rfl ⟨rfl,(range_all_succ hI0 hv),hm.tail.tail.tail.tail.tail⟩
        ·rw [hb41] at hk
         have hb41d:=of_decide_eq_false hb41
         refine oS0 hk ⟨_,_,_,_,rfl,rfl,rfl,nb_ft⟩ rfl rfl fun a hk=>?_
         refine oS0 hk ⟨_,_,_,_,rfl,rfl,rfl,nb_ft⟩ rfl rfl fun a hk=>?_
         refine oS0 hk ⟨_,_,_,_,rfl,rfl,rfl,nb_ft⟩ rfl rfl fun a hk=>?_
         refine o_pick hk rfl rfl rfl rfl rfl fun a hk=>?_
         refine oM0 hk rfl rfl fun a hk=>?_
         refine o_want (o':=_) hk ⟨_,_,_,rfl,rfl,rfl⟩ rfl ?_
         refine oF0 hk fo_51_3 rfl rfl fun a hk=>?_
         refine o_want (o':=_) hk ⟨_,_,_,rfl,rfl,rfl⟩ rfl ?_
         refine o_load hk ts_3 rfl (hm.cell_blk (i:=2) rfl rfl) rfl fun a hk=>?_
         refine o_want (o':=_) hk ⟨_,_,_,rfl,rfl,rfl⟩ rfl ?_
         refine o_icmp hk rfl rfl rfl rfl fun a hk=>?_
         refine o_want (o':=_) hk ⟨_,_,_,rfl,rfl,rfl⟩ rfl ?_
         refine oM0 hk rfl rfl fun a hk=>?_
         rcases Bool.eq_false_or_eq_true (decide (((fs.getD k FNIL).nu:Int) < 0)) with hb46 | hb46
         ·rw [hb46] at hk
          have hb46d:=of_decide_eq_true hb46
          refine o_want (o':=_) hk ⟨_,_,_,rfl,rfl,rfl⟩ rfl ?_
          refine oF0 hk fo_51_7 rfl rfl fun a hk=>?_
          refine o_want (o':=_) hk ⟨_,_,_,rfl,rfl,rfl⟩ rfl ?_
          refine o_load hk ts_29 rfl (hm.cell_blk (i:=2) rfl rfl) rfl fun a hk=>?_
          refine o_want (o':=_) hk ⟨_,_,_,rfl,rfl,rfl⟩ rfl ?_
          refine o_loadN (cs:=[.int .i64 ((t.at_ k).n),.slice psa1 ((t.at_ k).s.length) capsa1,.bool ((t.at_ k).z),.slice pa1 ((t.at_ k).l.length) capa1,.slice pua1 ((t.at_ k).u.length) capua1]) hk ts_26 rfl (hm.cells_blk (i:=0) rfl rfl) rfl fun a hk=>?_
          refine o_want (o':=_) hk ⟨_,_,_,rfl,rfl,rfl⟩ rfl ?_
          refine o_call hk cb_53 (hu (fs.getD k FNIL) (getD_mem hlt) (rep_Fd8 (hm.rep (i:=4) rfl)) (hm.rep (i:=1) rfl) (sane_getD (sane_spec hsn).2.2.2 k)) ⟨rfl,rfl,trivial⟩ rfl fun v w a hR hk=>?_
          obtain ⟨hp,rfl⟩:=hR
          have hm:=hm.pure hp
          refine o_want (o':=_) hk ⟨_,_,_,rfl,rfl,rfl⟩ rfl ?_
          refine o_not hk rfl rfl fun a hk=>?_
          refine o_want (o':=_) hk ⟨_,_,_,rfl,rfl,rfl⟩ rfl ?_
          refine o_pick hk rfl rfl rfl rfl rfl fun a hk=>?_
          refine o_pick hk rfl rfl rfl rfl rfl fun a hk=>?_
          refine cE0 ?_
          refine c_cond hk rfl (fun hc=>?_) (fun hc=>?_)
          ·have hc47:=hc
           refine cR0 ?_
           refine oA0 hk rfl rfl fun a hk=>?_
           refine cE0 ?_
           refine wp_ret ?_
           refine c_inRet ?_
           refine c_inRet ?_
           refine c_roundRet ?_
           refine cQ0 ?_
           refine bT0 rfl hk rfl ?_
           have hv:usuAt fs t k = false:=by
            show usuF (fs.getD k FNIL) (t.l.getD k T.nil) = false
            first | exact usu8_bad1 (by omega) (by assumption) | exact usu8_bad2 (by omega) (by assumption) | exact usu7_bad (by omega) (by assumption) | exact usu9_bad1 (by omega) (by assumption) | exact usu9_bad2 (by omega) (by assumption) | exact usu10_bad1 (by omega) (by assumption) (by assumption) | exact usu10_bad2 (by omega) (by assumption) (by assumption) | exact usuN_bad (by omega) (by omega) (by omega) (by omega) (by omega) (by assumption) | (exfalso; omega)
           exact ⟨hm.agr,by rw [usuFs_all,range_all_false hlt hv,Bool.and_false]⟩
          ·have hc48:=hc
           refine wp_skip ?_
           refine cN0 ?_
           refine cN0 ?_
           have hv:usuAt fs t k = true:=by
            show usuF (fs.getD k FNIL) (t.l.getD k T.nil) = true
            first | exact usu8_ok (by omega) (by assumption) (by assumption) | exact usu7_ok (by omega) (by assumption) | exact usu9_ok (by omega) (by assumption) (by assumption) | exact usu10_ok1 (by omega) (by assumption) (by assumption) | exact usu10_ok2 (by omega) (by assumption) (by assumption) | exact usuN_ok (by omega) (by omega) (by omega) (by omega) (by omega) (by assumption) | (exfalso; omega)
           exact c_round (L':=[(3,.pointer (some ⟨b1,0,none⟩)),(12,.slice p fs.length cap)]) hk ⟨rfl,rfl,rfl,rfl,trivial⟩ rfl ⟨rfl,(range_all_succ hI0 hv),hm.tail.tail.tail.tail.tail⟩
         ·rw [hb46] at hk
          have hb46d:=of_decide_eq_false hb46
          refine oS0 hk ⟨_,_,_,_,rfl,rfl,rfl,nb_ft⟩ rfl rfl fun a hk=>?_
          refine oS0 hk ⟨_,_,_,_,rfl,rfl,rfl,nb_ft⟩ rfl rfl fun a hk=>?_
          refine oS0 hk ⟨_,_,_,_,rfl,rfl,rfl,nb_ft⟩ rfl rfl fun a hk=>?_
          refine oS0 hk ⟨_,_,_,_,rfl,rfl,rfl,nb_ft⟩ rfl rfl fun a hk=>?_
          refine oS0 hk ⟨_,_,_,_,rfl,rfl,rfl,nb_ft⟩ rfl rfl fun a hk=>?_
          refine o_want (o':=_) hk ⟨_,_,_,rfl,rfl,rfl⟩ rfl ?_
          refine o_pick hk rfl rfl rfl rfl rfl fun a hk=>?_
          refine o_pick hk rfl rfl rfl rfl rfl fun a hk=>?_
          refine cE0 ?_
          refine c_condF hk rfl ?_
          refine wp_skip ?_
          refine cN0 ?_
          refine cN0 ?_
          have hv:usuAt fs t k = true:=by
           show usuF (fs.getD k FNIL) (t.l.getD k T.nil) = true
           first | exact usu8_ok (by omega) (by assumption) (by assumption) | exact usu7_ok (by omega) (by assumption) | exact usu9_ok (by omega) (by assumption) (by assumption) | exact usu10_ok1 (by omega) (by assumption) (by assumption) | exact usu10_ok2 (by omega) (by assumption) (by assumption) | exact usuN_ok (by omega) (by omega) (by omega) (by omega) (by omega) (by assumption) | (exfalso; omega)
          exact c_round (L':=[(3,.pointer (some ⟨b1,0,none⟩)),(12,.slice p fs.length cap)]) hk ⟨rfl,rfl,rfl,rfl,trivial⟩ rfl ⟨rfl,(range_all_succ hI0 hv),hm.tail.tail.tail.tail.tail⟩
       ·have hc49:=beq_eq_false_iff_ne.1 hc
        refine wp_seq ?_
        refine d_startM (K:=7) mixed hm fun w hm=>?_
        refine d_take (i:=0) rfl rfl rfl (by kernel_rfl) (fun _ _ _ h=>h) hk rfl (fun w hm=>rF0 hk fo_26_0 rfl) hm fun a hk=>?_
        refine d_take (i:=1) rfl rfl rfl (by kernel_rfl) (fun _ _ _ h=>h) hk rfl (fun w hm=>r_load1 hk ts_2 rfl (hm.cell_blk (i:=0) rfl rfl)) hm fun a hk=>?_
        refine d_take (i:=2) rfl rfl rfl (by kernel_rfl) (fun _ _ _ h=>h) hk rfl (fun w hm=>rF0 hk fo_51_0 rfl) hm fun a hk=>?_
        refine d_take (i:=3) rfl rfl rfl (by kernel_rfl) (fun _ _ _ h=>h) hk rfl (fun w hm=>r_load1 hk ts_3 rfl (hm.cell_blk (i:=2) rfl rfl)) hm fun a hk=>?_
        refine d_one (k:=4) (by kernel_rfl) rfl rfl ?_
        refine oF0 hk fo_51_5 rfl rfl fun a hk=>?_
        refine c_endQ (cT0 ⟨fun _=>hm,?_⟩)
        refine d_one (k:=5) (by kernel_rfl) rfl rfl ?_
        refine o_load hk ts_2 rfl (hm.cell_blk (i:=2) rfl rfl) rfl fun a hk=>?_
        refine c_endQ (cT0 ⟨fun _=>hm,?_⟩)
        refine d_one (k:=6) (by kernel_rfl) rfl rfl ?_
        refine o_call hk cb_118 (number_c (Y:=Y) (fs.getD k FNIL).kind) ⟨rfl,rfl,trivial⟩ rfl fun v w a hR hk=>?_
        obtain ⟨hp,rfl⟩:=hR
        have hm:=hm.pure hp
        refine c_endQ (cT0 ⟨fun _=>hm,?_⟩)
        refine d_one (k:=7) (by kernel_rfl) rfl rfl ?_
        refine o_icmp hk rfl rfl rfl rfl fun a hk=>?_
        refine c_endQ (cT0 ⟨fun h=>Bool.noConfusion (show true = false from h),?_⟩)
        refine d_done (by kernel_rfl) ?_ _
        refine cT0 ?_
        refine c_cond hk rfl (fun hc=>?_) (fun hc=>?_)
        ·have hc50:=bne_iff_ne.1 hc
         refine cR0 ?_
         refine oA0 hk rfl rfl fun a hk=>?_
         refine cE0 ?_
         refine wp_ret ?_
         refine c_inRet ?_
         refine c_inRet ?_
         refine c_roundRet ?_
         refine cQ0 ?_
         refine bT0 rfl hk rfl ?_
         have hv:usuAt fs t k = false:=by
          show usuF (fs.getD k FNIL) (t.l.getD k T.nil) = false
          first | exact usu8_bad1 (by omega) (by assumption) | exact usu8_bad2 (by omega) (by assumption) | exact usu7_bad (by omega) (by assumption) | exact usu9_bad1 (by omega) (by assumption) | exact usu9_bad2 (by omega) (by assumption) | exact usu10_bad1 (by omega) (by assumption) (by assumption) | exact usu10_bad2 (by omega) (by assumption) (by assumption) | exact usuN_bad (by omega) (by omega) (by omega) (by omega) (by omega) (by assumption) | (exfalso; omega)
         exact ⟨hm.agr,by rw [usuFs_all,range_all_false hlt hv,Bool.and_false]⟩
        ·have hc51:=bne_eq_false_iff_eq.1 hc
         refine wp_skip ?_
         refine cN0 ?_
         refine cN0 ?_
         have hv:usuAt fs t k = true:=by
          show usuF (fs.getD k FNIL) (t.l.getD k T.nil) = true
          first | exact usu8_ok (by omega) (by assumption) (by assumption) | exact usu7_ok (by omega) (by assumption) | exact usu9_ok (by omega) (by assumption) (by assumption) | exact usu10_ok1 (by omega) (by assumption) (by assumption) | exact usu10_ok2 (by omega) (by assumption) (by assumption) | exact usuN_ok (by omega) (by omega) (by omega) (by omega) (by omega) (by assumption) | (exfalso; omega)
         exact c_round (L':=[(3,.pointer (some ⟨b1,0,none⟩)),(12,.slice p fs.length cap)]) hk ⟨rfl,rfl,rfl,rfl,trivial⟩ rfl ⟨rfl,(range_all_succ hI0 hv),hm.tail.tail.tail.tail.tail⟩
  ·obtain ⟨rfl,hI0,hm⟩:=hR
   refine cT0 ?_
   refine cR0 ?_
   refine oA0 hk rfl rfl fun a hk=>?_
   refine cE0 ?_
   refine wp_ret ?_
   refine bT0 rfl hk rfl ?_
   exact ⟨hm.agr,by rw [hue,usuFs_all,hI0]; rfl⟩
theorem usu_cF:∀ f:Fld,tidyF f = true → UsuC f.sub:=Fld_ind fun f ih h=>by
 have ht:=tidy_spec h
 exact @usu_walk f.sub (fun g hg=>ih g hg (tidy_mem ht.2.2.2.2 g hg)) ht.2.2.2.1
theorem usu_c {fs:List Fld} (h:tidyFs fs = true) (hl:fs.length ≤ 1000):UsuC fs:=@usu_walk fs (fun f hf=>usu_cF f (tidy_mem h f hf)) hl
end Go.Proofs.YtoopklfabccmnaaGreatDoor
