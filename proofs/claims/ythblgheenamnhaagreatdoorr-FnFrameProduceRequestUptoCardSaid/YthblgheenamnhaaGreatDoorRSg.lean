/- Walks of functions that the laws of this seat reach. No statement of the seat stands here. -/
import Derived.Test.YthblgheenamnhaaGreatDoorRL2
import Derived.Test.YthblgheenamnhaaGreatDoorRRows
import Derived.Test.YthblgheenamnhaaGreatDoorRFa
import Derived.Test.YthblgheenamnhaaGreatDoorRSf
namespace Go.Proofs.YthblgheenamnhaaGreatDoorR
open Go Go.Mk
theorem part_walk {flex:Bool} {fs:List Fld} (hf:∀ f ∈ fs,FieldC flex f) (hlen:fs.length ≤ 1000) (hok:tagsOk fs = true) (hk0:flex = true → known fs = 0):PartC flex fs:=by
 intro w0 Y t ct p cap V hF hT hsn hroom
 have hple:=partP_plain_le (V:=V) (t:=t) hk0
 obtain ⟨pst,capst,pt,capt,put,caput,rfl⟩:=rep_T7 hT
 refine c_call Tryz.func30 rfl rfl fun a hk=>?_
 have hk:Kn 132 [(0,.slice p fs.length cap),(1,.int .i64 V),(2,.bool flex),(3,.agg #[.int .i64 t.n,.slice pst t.s.length capst,.bool t.z,.slice pt t.l.length capt,.slice put t.u.length caput])] a:=hk
 have hm:Mem w0 Nob Y [.rep (.sl false 8 (fs.map ddFd)) [.slice p fs.length cap],.rep (ddT t) [.int .i64 t.n,.slice pst t.s.length capst,.bool t.z,.slice pt t.l.length capt,.slice put t.u.length caput]] w0:=Mem.start rfl (by simp only [List.forall_mem_cons,List.not_mem_nil,false_imp_iff,implies_true,and_true]; exact ⟨hF,hT⟩)
 refine cR0 ?_
 refine o_box hk hm rfl rfl rfl fun a b1 w hk hm=>?_
 refine oA0 hk rfl rfl fun a hk=>?_
 refine cE0 ?_
 refine cR0 ?_
 refine oA0 hk rfl rfl fun a hk=>?_
 refine oA0 hk rfl rfl fun a hk=>?_
 refine cE0 ?_
 refine cR0 ?_
 refine oA0 hk rfl rfl fun a hk=>?_
 refine cE0 ?_
 refine wp_seq ?_
 refine cR0 ?_
 refine oM0 hk rfl rfl fun a hk=>?_
 refine oL0 hk te_32 rfl rfl fun a hk=>?_
 refine oM0 hk rfl rfl fun a hk=>?_
 refine cE0 ?_
 have hm:=hm.addNil 5 1
 have hm:=hm.rowEq (i:=0) (n':=((List.range 0).flatMap (pie fs V flex t)).length) (xs':=bv ((List.range 0).flatMap (pie fs V flex t))) rfl rfl rfl
 refine c_range (L0:=[(0,.slice p fs.length cap),(1,.int .i64 V),(2,.bool flex),(7,.pointer (some ⟨b1,0,none⟩)),(9,.slice none 0 0),(10,.slice none 0 0),(11,.int .i64 0),(21,.slice p fs.length cap)]) (N:=fs.length) (by omega) (fun k L w=>∃ vr,L = [(0,.slice p fs.length cap),(1,.int .i64 V),(2,.bool flex),(7,.pointer (some ⟨b1,0,none⟩)),(9,vr),(10,.slice none 0 0),(11,.int .i64 0),(21,.slice p fs.length cap)] ∧ Mem w0 Nob Y [.row 5 1 vr (((List.range k).flatMap (pie fs V flex t)).length) (bv ((List.range k).flatMap (pie fs V flex t))),.blk b1 [.int .i64 t.n,.slice pst t.s.length capst,.bool t.z,.slice pt t.l.length capt,.slice put t.u.length caput] 28,.rep (.sl false 8 (fs.map ddFd)) [.slice p fs.length cap],.rep (ddT t) [.int .i64 t.n,.slice pst t.s.length capst,.bool t.z,.slice pt t.l.length capt,.slice put t.u.length caput]] w) (hk.sub ⟨rfl,rfl,rfl,rfl,rfl,rfl,rfl,rfl,rfl,rfl,trivial⟩) ⟨_,rfl,hm.pick [0,1,2,3] rfl rfl⟩ rfl rfl rfl rfl rfl rfl rfl (fun k L a w hlt hR hk=>?_) rfl (fun L a w hR hk=>?_)
 ·obtain ⟨vr,rfl,hm⟩:=hR
  have hfl:=range_flat_le (pie fs V flex t) hlt
  have hsucc:=range_flat_succ (pie fs V flex t) k
  obtain ⟨hltx,blx,offx,ex,hplx,helx,hRex,hCex⟩:=rep_sl_get (hm.rep (i:=2) rfl) (getD_map ddFd fs k FNIL hlt)
  obtain ⟨pfx,capfx,rfl,-⟩:=rep_Fd hRex
  have hm:=hm.add (e:=.rep (ddFd (fs.getD k FNIL)) [.int .i64 (((fs.getD k FNIL).kind:Nat):Int),.int .i64 ((fs.getD k FNIL).fr),.int .i64 ((fs.getD k FNIL).to),.int .i64 ((fs.getD k FNIL).nu),.int .i64 ((fs.getD k FNIL).tag),.int .i64 ((fs.getD k FNIL).df),.int .i64 (((fs.getD k FNIL).of:Nat):Int),.slice pfx ((fs.getD k FNIL).sub.length) capfx]) rfl hRex
  have hm:=hm.add (e:=.cel blx (offx + k * 8) [.int .i64 (((fs.getD k FNIL).kind:Nat):Int),.int .i64 ((fs.getD k FNIL).fr),.int .i64 ((fs.getD k FNIL).to),.int .i64 ((fs.getD k FNIL).nu),.int .i64 ((fs.getD k FNIL).tag),.int .i64 ((fs.getD k FNIL).df),.int .i64 (((fs.getD k FNIL).of:Nat):Int),.slice pfx ((fs.getD k FNIL).sub.length) capfx]) rfl hCex
  refine cR0 ?_
  refine oM0 hk rfl rfl fun a hk=>?_
  refine oI0 (j:=k) (b:=blx) (off:=offx) hk te_32 ts_50 (by rw [← hplx]; rfl) rfl hltx rfl fun a hk=>?_
  refine o_loadN (cs:=[.int .i64 (((fs.getD k FNIL).kind:Nat):Int),.int .i64 ((fs.getD k FNIL).fr),.int .i64 ((fs.getD k FNIL).to),.int .i64 ((fs.getD k FNIL).nu),.int .i64 ((fs.getD k FNIL).tag),.int .i64 ((fs.getD k FNIL).df),.int .i64 (((fs.getD k FNIL).of:Nat):Int),.slice pfx ((fs.getD k FNIL).sub.length) capfx]) hk ts_50 rfl (hm.cells_cel (i:=0) (k:=0) rfl rfl) rfl fun a hk=>?_
  refine o_alloc hk hm tz_50 rfl rfl fun a b2 w hk hm=>?_
  refine oA0 hk rfl rfl fun a hk=>?_
  refine o_store (i:=0) hk hm ts_50 rfl rfl rfl rfl rfl rfl (Nat.le_of_ble_eq_true rfl) fun a w hk hm=>?_
  refine cE0 ?_
  refine cR0 ?_
  refine oF0 hk fo_50_4 rfl rfl fun a hk=>?_
  refine o_load hk ts_3 rfl (hm.cell_blk (i:=0) rfl rfl) rfl fun a hk=>?_
  refine o_icmp hk rfl rfl rfl rfl fun a hk=>?_
  refine oM0 hk rfl rfl fun a hk=>?_
  rcases Bool.eq_false_or_eq_true (decide (((fs.getD k FNIL).tag:Int) < 0)) with hb3 | hb3
  ·rw [hb3] at hk
   refine o_want (o':=_) hk ⟨_,_,_,rfl,rfl,rfl⟩ rfl ?_
   refine o_loadN (cs:=[.int .i64 (((fs.getD k FNIL).kind:Nat):Int),.int .i64 ((fs.getD k FNIL).fr),.int .i64 ((fs.getD k FNIL).to),.int .i64 ((fs.getD k FNIL).nu),.int .i64 ((fs.getD k FNIL).tag),.int .i64 ((fs.getD k FNIL).df),.int .i64 (((fs.getD k FNIL).of:Nat):Int),.slice pfx ((fs.getD k FNIL).sub.length) capfx]) hk ts_50 rfl (hm.cells_blk (i:=0) rfl rfl) rfl fun a hk=>?_
   refine o_want (o':=_) hk ⟨_,_,_,rfl,rfl,rfl⟩ rfl ?_
   refine oM0 hk rfl rfl fun a hk=>?_
   refine o_want (o':=_) hk ⟨_,_,_,rfl,rfl,rfl⟩ rfl ?_
   refine o_call hk cb_53 (has_c V (hm.rep (i:=2) rfl)) ⟨rfl,rfl,trivial⟩ rfl fun v w a hR hk=>?_
   obtain ⟨hp,rfl⟩:=hR
   have hm:=hm.pure hp
   refine o_pick hk rfl rfl rfl rfl rfl fun a hk=>?_
   refine cE0 ?_
   refine c_cond hk rfl (fun hc=>?_) (fun hc=>?_)
   ·refine d_startM (K:=8) mixed hm fun w hm=>?_
    refine d_take (i:=0) rfl rfl rfl (by kernel_rfl) (fun _ _ _ h=>h) hk rfl (fun w hm=>r_move hk rfl) hm fun a hk=>?_
    refine d_take (i:=1) rfl rfl rfl (by kernel_rfl) (fun _ _ _ h=>h) hk rfl (fun w hm=>r_loadN (cs:=[.int .i64 (((fs.getD k FNIL).kind:Nat):Int),.int .i64 ((fs.getD k FNIL).fr),.int .i64 ((fs.getD k FNIL).to),.int .i64 ((fs.getD k FNIL).nu),.int .i64 ((fs.getD k FNIL).tag),.int .i64 ((fs.getD k FNIL).df),.int .i64 (((fs.getD k FNIL).of:Nat):Int),.slice pfx ((fs.getD k FNIL).sub.length) capfx]) hk ts_50 rfl (hm.cells_blk (i:=0) rfl rfl)) hm fun a hk=>?_
    refine d_take (i:=2) rfl rfl rfl (by kernel_rfl) (fun _ _ _ h=>h) hk rfl (fun w hm=>r_move hk rfl) hm fun a hk=>?_
    refine d_take (i:=3) rfl rfl rfl (by kernel_rfl) (fun _ _ _ h=>h) hk rfl (fun w hm=>r_move hk rfl) hm fun a hk=>?_
    refine d_take (i:=4) rfl rfl rfl (by kernel_rfl) (fun _ _ _ h=>h) hk rfl (fun w hm=>r_loadN (cs:=[.int .i64 t.n,.slice pst t.s.length capst,.bool t.z,.slice pt t.l.length capt,.slice put t.u.length caput]) hk ts_28 rfl (hm.cells_blk (i:=4) rfl rfl)) hm fun a hk=>?_
    refine d_one (k:=5) (by kernel_rfl) rfl rfl ?_
    refine oM0 hk rfl rfl fun a hk=>?_
    refine c_endQ (cT0 ⟨fun _=>hm,?_⟩)
    refine d_one (k:=6) (by kernel_rfl) rfl rfl ?_
    refine o_call hk cb_55 (at_spec (t:=t) k (hm.rep (i:=6) rfl)) ⟨rfl,rfl,trivial⟩ rfl fun v w a hR hk=>?_
    obtain ⟨hp,ca1,rfl,hR⟩:=hR
    obtain ⟨psa1,capsa1,pa1,capa1,pua1,capua1,rfl⟩:=rep_T7 hR
    have hm:=hm.result hp hR
    refine c_endQ (cT0 ⟨fun _=>hm.tail,?_⟩)
    refine d_one (k:=7) (by kernel_rfl) rfl rfl ?_
    have hpc:pie fs V flex t k = fieldP (fs.getD k FNIL) V flex (t.at_ k):=pie_has (by simpa using hb3) hc
    rw [hpc] at hfl hsucc
    refine o_call hk cb_54 (hf (fs.getD k FNIL) (getD_mem hlt) V (hm.rep (i:=3) rfl) (hm.rep (i:=0) rfl) (sane_at hsn k) (by omega)) ⟨rfl,rfl,rfl,rfl,trivial⟩ rfl fun v4 w a hR hk=>?_
    have hm:=hm.rowNew hR
    refine c_endQ (cT0 ⟨fun _=>hm.tail.tail,?_⟩)
    refine d_one (k:=8) (by kernel_rfl) rfl rfl ?_
    refine o_append (i:=5) hk hm rt_24 rfl rfl rfl (src_row te_24 (hm.row (i:=0) rfl) (bv_one _)) (room_len (by omega)) (room_by (by omega)) rfl fun a v5 w hk hm _=>?_
    have hm:=hm.rowEq (i:=5) (n':=((List.range k).flatMap (pie fs V flex t) ++ (fieldP (fs.getD k FNIL) V flex (t.at_ k))).length) (xs':=bv ((List.range k).flatMap (pie fs V flex t) ++ (fieldP (fs.getD k FNIL) V flex (t.at_ k)))) rfl List.length_append.symm (bv_append _ _).symm
    refine c_endQ (cT0 ⟨fun h=>Bool.noConfusion (show true = false from h),?_⟩)
    refine d_one (k:=9) (by kernel_rfl) rfl rfl ?_
    refine oA0 hk rfl rfl fun a hk=>?_
    refine c_endQ (cT0 ⟨fun h=>Bool.noConfusion (show true = false from h),?_⟩)
    refine d_done (by kernel_rfl) ?_ _
    refine cN0 ?_
    have hm:=hm.rowEq (i:=5) (n':=((List.range (k + 1)).flatMap (pie fs V flex t)).length) (xs':=bv ((List.range (k + 1)).flatMap (pie fs V flex t))) rfl (by rw [hsucc]) (by rw [hsucc])
    exact c_round (L':=[(0,.slice p fs.length cap),(1,.int .i64 V),(2,.bool flex),(7,.pointer (some ⟨b1,0,none⟩)),(9,v5),(10,.slice none 0 0),(11,.int .i64 0),(21,.slice p fs.length cap)]) hk ⟨rfl,rfl,rfl,rfl,rfl,rfl,rfl,rfl,rfl,rfl,trivial⟩ rfl ⟨_,rfl,hm.pick [5,6,7,8] rfl rfl⟩
   ·refine wp_skip ?_
    refine cN0 ?_
    have hpc:pie fs V flex t k = []:=pie_not (fun h=>by rw [h.2] at hc; cases hc)
    have hm:=hm.rowEq (i:=3) (n':=((List.range (k + 1)).flatMap (pie fs V flex t)).length) (xs':=bv ((List.range (k + 1)).flatMap (pie fs V flex t))) rfl (by rw [hsucc,hpc,List.append_nil]) (by rw [hsucc,hpc,List.append_nil])
    exact c_round (L':=[(0,.slice p fs.length cap),(1,.int .i64 V),(2,.bool flex),(7,.pointer (some ⟨b1,0,none⟩)),(9,vr),(10,.slice none 0 0),(11,.int .i64 0),(21,.slice p fs.length cap)]) hk ⟨rfl,rfl,rfl,rfl,rfl,rfl,rfl,rfl,rfl,rfl,trivial⟩ rfl ⟨_,rfl,hm.pick [3,4,5,6] rfl rfl⟩
  ·rw [hb3] at hk
   refine oS0 hk ⟨_,_,_,_,rfl,rfl,rfl,nb_ft⟩ rfl rfl fun a hk=>?_
   refine oS0 hk ⟨_,_,_,_,rfl,rfl,rfl,nb_ft⟩ rfl rfl fun a hk=>?_
   refine oS0 hk ⟨_,_,_,_,rfl,rfl,rfl,nb_ft⟩ rfl rfl fun a hk=>?_
   refine o_pick hk rfl rfl rfl rfl rfl fun a hk=>?_
   refine cE0 ?_
   refine c_condF hk rfl ?_
   refine wp_skip ?_
   refine cN0 ?_
   have hpc:pie fs V flex t k = []:=pie_not (fun h=>absurd h.1 (of_decide_eq_false hb3))
   have hm:=hm.rowEq (i:=3) (n':=((List.range (k + 1)).flatMap (pie fs V flex t)).length) (xs':=bv ((List.range (k + 1)).flatMap (pie fs V flex t))) rfl (by rw [hsucc,hpc,List.append_nil]) (by rw [hsucc,hpc,List.append_nil])
   exact c_round (L':=[(0,.slice p fs.length cap),(1,.int .i64 V),(2,.bool flex),(7,.pointer (some ⟨b1,0,none⟩)),(9,vr),(10,.slice none 0 0),(11,.int .i64 0),(21,.slice p fs.length cap)]) hk ⟨rfl,rfl,rfl,rfl,rfl,rfl,rfl,rfl,rfl,rfl,trivial⟩ rfl ⟨_,rfl,hm.pick [3,4,5,6] rfl rfl⟩
 ·obtain ⟨vz,rfl,hm⟩:=hR
  refine cT0 ?_
  refine wp_seq ?_
  refine cR0 ?_
  refine oM0 hk rfl rfl fun a hk=>?_
  refine o_not hk rfl rfl fun a hk=>?_
  refine cE0 ?_
  refine c_cond hk rfl (fun hc=>?_) (fun hc=>?_)
  ·have hfx:flex = false:=by simpa using hc
   rw [partP_off hfx]
   refine cR0 ?_
   refine oM0 hk rfl rfl fun a hk=>?_
   refine oA0 hk rfl rfl fun a hk=>?_
   refine cE0 ?_
   refine wp_ret ?_
   refine cQ0 ?_
   refine bT0 rfl hk rfl ?_
   have hr:=hm.rowOut (i:=0) rfl
   exact hr
  ·have hfx:flex = true:=by simpa using hc
   have hpe:=partP_on (V:=V) (t:=t) hfx (hk0 hfx)
   rw [hpe] at hroom ⊢
   have hro:=hroom
   rw [List.length_append,List.length_append] at hro
   have hkz:=hk0 hfx
   have hul0:=unk_length fs t.u
   refine wp_skip ?_
   refine cT0 ?_
   refine wp_seq ?_
   refine cR0 ?_
   refine oM0 hk rfl rfl fun a hk=>?_
   refine o_call hk cb_56 (known_c (hm.rep (i:=2) rfl) (by omega) hok) ⟨rfl,trivial⟩ rfl fun v w a hR hk=>?_
   obtain ⟨hp,rfl⟩:=hR
   have hm:=hm.pure hp
   refine o_convInt (c:=((known fs:Nat):Int)) hk un_65 ti_3 rfl (by rw [hkz]; rfl) rfl fun a hk=>?_
   refine oM0 hk rfl rfl fun a hk=>?_
   refine cE0 ?_
   refine c_range (L0:=[(0,.slice p fs.length cap),(7,.pointer (some ⟨b1,0,none⟩)),(9,vz),(10,.slice none 0 0),(11,.int .i64 0)]) (N:=(known fs)) (by omega) (fun _ L w=>L = [(0,.slice p fs.length cap),(7,.pointer (some ⟨b1,0,none⟩)),(9,vz),(10,.slice none 0 0),(11,.int .i64 0)] ∧ Mem w0 Nob Y [.row 5 1 vz (((List.range fs.length).flatMap (pie fs V flex t)).length) (bv ((List.range fs.length).flatMap (pie fs V flex t))),.blk b1 [.int .i64 t.n,.slice pst t.s.length capst,.bool t.z,.slice pt t.l.length capt,.slice put t.u.length caput] 28,.rep (.sl false 8 (fs.map ddFd)) [.slice p fs.length cap],.rep (ddT t) [.int .i64 t.n,.slice pst t.s.length capst,.bool t.z,.slice pt t.l.length capt,.slice put t.u.length caput]] w) (hk.sub ⟨rfl,rfl,rfl,rfl,rfl,rfl,rfl,trivial⟩) ⟨rfl,hm⟩ rfl rfl rfl rfl rfl rfl rfl (fun k L a w hlt hR hk=>absurd hlt (by omega)) rfl (fun L a w hR hk=>?_)
   obtain ⟨rfl,hm⟩:=hR
   refine cT0 ?_
   refine wp_seq ?_
   refine cR0 ?_
   refine oM0 hk rfl rfl fun a hk=>?_
   refine oF0 hk fo_28_4 rfl rfl fun a hk=>?_
   refine o_load hk ts_26 rfl (hm.cell_blk (i:=1) rfl rfl) rfl fun a hk=>?_
   refine o_call hk cb_59 (unknown_c (hm.rep (i:=2) rfl) (rep_T_u (hm.rep (i:=3) rfl)) (by omega) hok) ⟨rfl,rfl,trivial⟩ rfl fun v w a hR hk=>?_
   obtain ⟨hp,puu,cuu,rfl,hR⟩:=hR
   have hm:=hm.result hp hR
   refine oL0 hk te_26 rfl rfl fun a hk=>?_
   refine oM0 hk rfl rfl fun a hk=>?_
   refine cE0 ?_
   have hm:=hm.addNil 5 1
   have hm:=hm.rowEq (i:=0) (n':=(((unknownP fs t.u).take 0).flatMap (fun u=>tagP u.1 (whole u.2))).length) (xs':=bv (((unknownP fs t.u).take 0).flatMap (fun u=>tagP u.1 (whole u.2)))) rfl rfl rfl
   refine c_range (L0:=[(9,vz),(10,.slice none 0 0),(11,.int .i64 0),(100,.slice puu ((unknownP fs t.u).length) cuu)]) (N:=(unknownP fs t.u).length) (by omega) (fun k L w=>∃ vr,L = [(9,vz),(10,vr),(11,.int .i64 ((k:Nat):Int)),(100,.slice puu ((unknownP fs t.u).length) cuu)] ∧ Mem w0 Nob Y [.row 5 1 vr ((((unknownP fs t.u).take k).flatMap (fun u=>tagP u.1 (whole u.2))).length) (bv (((unknownP fs t.u).take k).flatMap (fun u=>tagP u.1 (whole u.2)))),.rep (ddTags (unknownP fs t.u)) [.slice puu ((unknownP fs t.u).length) cuu],.row 5 1 vz (((List.range fs.length).flatMap (pie fs V flex t)).length) (bv ((List.range fs.length).flatMap (pie fs V flex t))),.blk b1 [.int .i64 t.n,.slice pst t.s.length capst,.bool t.z,.slice pt t.l.length capt,.slice put t.u.length caput] 28,.rep (.sl false 8 (fs.map ddFd)) [.slice p fs.length cap],.rep (ddT t) [.int .i64 t.n,.slice pst t.s.length capst,.bool t.z,.slice pt t.l.length capt,.slice put t.u.length caput]] w) (hk.sub ⟨rfl,rfl,rfl,rfl,rfl,rfl,trivial⟩) ⟨_,rfl,hm.pick [0,1,2,3,4,5] rfl rfl⟩ rfl rfl rfl rfl rfl rfl rfl (fun k L a w hlt hR hk=>?_) rfl (fun L a w hR hk=>?_)
   ·obtain ⟨vr,rfl,hm⟩:=hR
    have hfl:=flatMap_take_le (fun u=>tagP u.1 (whole u.2)) (unknownP fs t.u) k (0,[]) hlt
    have hsucc:=flatMap_take_succ (fun u=>tagP u.1 (whole u.2)) (unknownP fs t.u) k (0,[]) hlt
    obtain ⟨hlty,bly,offy,ey,hply,hely,hRey,hCey⟩:=rep_sl_get (hm.rep (i:=1) rfl) (getD_map ddTag (unknownP fs t.u) k (0,[]) hlt)
    obtain ⟨pty,capty,rfl,-⟩:=rep_Tag hRey
    have hm:=hm.add (e:=.rep (ddTag ((unknownP fs t.u).getD k (0,[]))) [.int .u32 ((((unknownP fs t.u).getD k (0,[])).1:Nat):Int),.slice pty (((unknownP fs t.u).getD k (0,[])).2.length) capty]) rfl hRey
    have hm:=hm.add (e:=.cel bly (offy + k * 2) [.int .u32 ((((unknownP fs t.u).getD k (0,[])).1:Nat):Int),.slice pty (((unknownP fs t.u).getD k (0,[])).2.length) capty]) rfl hCey
    have hkx:=unk_key (fs:=fs) hsn hlt
    have htl:=tagP_len ((unknownP fs t.u).getD k (0,[])).1 (whole ((unknownP fs t.u).getD k (0,[])).2)
    have hwl:=whole_len ((unknownP fs t.u).getD k (0,[])).2
    refine cR0 ?_
    refine oI0 (j:=k) (b:=bly) (off:=offy) hk te_26 ts_67 (by rw [← hply]; rfl) rfl hlty rfl fun a hk=>?_
    refine o_loadN (cs:=[.int .u32 ((((unknownP fs t.u).getD k (0,[])).1:Nat):Int),.slice pty (((unknownP fs t.u).getD k (0,[])).2.length) capty]) hk ts_67 rfl (hm.cells_cel (i:=0) (k:=0) rfl rfl) rfl fun a hk=>?_
    refine o_alloc hk hm tz_67 rfl rfl fun a b6 w hk hm=>?_
    refine o_store (i:=0) hk hm ts_67 rfl rfl rfl rfl rfl rfl (Nat.le_of_ble_eq_true rfl) fun a w hk hm=>?_
    refine cE0 ?_
    refine cR0 ?_
    refine oF0 hk fo_67_1 rfl rfl fun a hk=>?_
    refine o_load hk ts_24 rfl (hm.cell_blk (i:=0) rfl rfl) rfl fun a hk=>?_
    refine o_call hk cb_60 (whole_c (rep_Tag2 (hm.rep (i:=2) rfl))) ⟨rfl,trivial⟩ rfl fun v w a hR hk=>?_
    obtain ⟨hp,rfl,hR⟩:=hR
    have hm:=hm.result hp hR
    have hwl:=whole_len (((unknownP fs t.u).getD k (0,[])).2)
    refine oA0 hk rfl rfl fun a hk=>?_
    refine cE0 ?_
    refine cR0 ?_
    refine oM0 hk rfl rfl fun a hk=>?_
    refine oF0 hk fo_67_0 rfl rfl fun a hk=>?_
    refine o_load hk ts_65 rfl (hm.cell_blk (i:=1) rfl rfl) rfl fun a hk=>?_
    refine o_convInt (c:=((((unknownP fs t.u).getD k (0,[])).1:Nat):Int)) hk un_65 ti_80 rfl (by rw [IntKind.wrap_u64]; omega) rfl fun a hk=>?_
    refine o_call hk cb_58 (uvarint_c (Y:=Y) (((unknownP fs t.u).getD k (0,[])).1) (by omega)) ⟨rfl,trivial⟩ rfl fun v7 w a hR hk=>?_
    have hm:=hm.rowNew hR
    have hul:=uvarint_len10 (((unknownP fs t.u).getD k (0,[])).1) (by omega)
    refine o_append (i:=5) hk hm rt_24 rfl rfl rfl (src_row te_24 (hm.row (i:=0) rfl) (bv_one _)) (room_len (by simp only [List.length_append] at *; omega)) (room_by (by simp only [List.length_append] at *; omega)) rfl fun a v8 w hk hm _=>?_
    have hm:=hm.rowEq (i:=5) (n':=(((unknownP fs t.u).take k).flatMap (fun u=>tagP u.1 (whole u.2)) ++ (uvarint (((unknownP fs t.u).getD k (0,[])).1))).length) (xs':=bv (((unknownP fs t.u).take k).flatMap (fun u=>tagP u.1 (whole u.2)) ++ (uvarint (((unknownP fs t.u).getD k (0,[])).1)))) rfl List.length_append.symm (bv_append _ _).symm
    refine oM0 hk rfl rfl fun a hk=>?_
    refine oL0 hk te_24 rfl rfl fun a hk=>?_
    refine o_convInt (c:=(((whole ((unknownP fs t.u).getD k (0,[])).2).length:Nat):Int)) hk un_3 ti_80 rfl (by rw [IntKind.wrap_u64]; omega) rfl fun a hk=>?_
    refine o_call hk cb_58 (uvarint_c (Y:=Y) ((whole ((unknownP fs t.u).getD k (0,[])).2).length) (by omega)) ⟨rfl,trivial⟩ rfl fun v9 w a hR hk=>?_
    have hm:=hm.rowNew hR
    have hul:=uvarint_len10 ((whole ((unknownP fs t.u).getD k (0,[])).2).length) (by omega)
    refine o_append (i:=6) hk hm rt_24 rfl rfl rfl (src_row te_24 (hm.row (i:=0) rfl) (bv_one _)) (room_len (by simp only [List.length_append] at *; omega)) (room_by (by simp only [List.length_append] at *; omega)) rfl fun a v10 w hk hm _=>?_
    have hm:=hm.rowEq (i:=6) (n':=(((unknownP fs t.u).take k).flatMap (fun u=>tagP u.1 (whole u.2)) ++ (uvarint (((unknownP fs t.u).getD k (0,[])).1)) ++ (uvarint ((whole ((unknownP fs t.u).getD k (0,[])).2).length))).length) (xs':=bv (((unknownP fs t.u).take k).flatMap (fun u=>tagP u.1 (whole u.2)) ++ (uvarint (((unknownP fs t.u).getD k (0,[])).1)) ++ (uvarint ((whole ((unknownP fs t.u).getD k (0,[])).2).length)))) rfl List.length_append.symm (bv_append _ _).symm
    refine oM0 hk rfl rfl fun a hk=>?_
    refine o_append (i:=6) hk hm rt_24 rfl rfl rfl (src_bs te_24 (hm.rep (i:=2) rfl)) (room_len (by simp only [List.length_append] at *; omega)) (room_by (by simp only [List.length_append] at *; omega)) rfl fun a v11 w hk hm _=>?_
    have hm:=hm.rowEq (i:=6) (n':=(((unknownP fs t.u).take k).flatMap (fun u=>tagP u.1 (whole u.2)) ++ (uvarint (((unknownP fs t.u).getD k (0,[])).1)) ++ (uvarint ((whole ((unknownP fs t.u).getD k (0,[])).2).length)) ++ (whole (((unknownP fs t.u).getD k (0,[])).2))).length) (xs':=bv (((unknownP fs t.u).take k).flatMap (fun u=>tagP u.1 (whole u.2)) ++ (uvarint (((unknownP fs t.u).getD k (0,[])).1)) ++ (uvarint ((whole ((unknownP fs t.u).getD k (0,[])).2).length)) ++ (whole (((unknownP fs t.u).getD k (0,[])).2)))) rfl List.length_append.symm (bv_append _ _).symm
    refine oA0 hk rfl rfl fun a hk=>?_
    refine cE0 ?_
    refine c_reg ?_
    refine oM0 hk rfl rfl fun a hk=>?_
    refine o_iarith (c:=(((k + 1):Nat):Int)) hk rfl rfl rfl (by rw [IntWalk.i64_in _ (by omega)]; omega) rfl fun a hk=>?_
    refine oA0 hk rfl rfl fun a hk=>?_
    refine c_endQ ?_
    refine cN0 ?_
    have hm:=hm.rowEq (i:=6) (n':=(((unknownP fs t.u).take (k + 1)).flatMap (fun u=>tagP u.1 (whole u.2))).length) (xs':=bv (((unknownP fs t.u).take (k + 1)).flatMap (fun u=>tagP u.1 (whole u.2)))) rfl (by rw [hsucc]; simp only [tagP,List.append_assoc]) (by rw [hsucc]; simp only [tagP,List.append_assoc])
    exact c_round (L':=[(9,vz),(10,v11),(11,.int .i64 (((k + 1):Nat):Int)),(100,.slice puu ((unknownP fs t.u).length) cuu)]) hk ⟨rfl,rfl,rfl,rfl,rfl,rfl,trivial⟩ rfl ⟨_,rfl,hm.pick [6,7,8,9,10,11] rfl rfl⟩
   ·obtain ⟨vy,rfl,hm⟩:=hR
    rw [List.take_length] at hm
    refine cT0 ?_
    refine cR0 ?_
    refine oM0 hk rfl rfl fun a hk=>?_
    refine oM0 hk rfl rfl fun a hk=>?_
    refine o_convInt (c:=(((unknownP fs t.u).length:Nat):Int)) hk un_3 ti_80 rfl (by rw [IntKind.wrap_u64]; omega) rfl fun a hk=>?_
    refine o_call hk cb_58 (uvarint_c (Y:=Y) ((unknownP fs t.u).length) (by omega)) ⟨rfl,trivial⟩ rfl fun v12 w a hR hk=>?_
    have hm:=hm.rowNew hR
    have hul:=uvarint_len10 ((unknownP fs t.u).length) (by omega)
    refine o_append (i:=3) hk hm rt_24 rfl rfl rfl (src_row te_24 (hm.row (i:=0) rfl) (bv_one _)) (room_len (by first | omega | (simp only [List.length_append]; omega))) (room_by (by first | omega | (simp only [List.length_append]; omega))) rfl fun a v13 w hk hm _=>?_
    have hm:=hm.rowEq (i:=3) (n':=((List.range fs.length).flatMap (pie fs V flex t) ++ (uvarint ((unknownP fs t.u).length))).length) (xs':=bv ((List.range fs.length).flatMap (pie fs V flex t) ++ (uvarint ((unknownP fs t.u).length)))) rfl List.length_append.symm (bv_append _ _).symm
    refine oM0 hk rfl rfl fun a hk=>?_
    refine o_append (i:=3) hk hm rt_24 rfl rfl rfl (src_row te_24 (hm.row (i:=1) rfl) (bv_one _)) (room_len (by first | omega | (simp only [List.length_append]; omega))) (room_by (by first | omega | (simp only [List.length_append]; omega))) rfl fun a v14 w hk hm _=>?_
    have hm:=hm.rowEq (i:=3) (n':=((List.range fs.length).flatMap (pie fs V flex t) ++ (uvarint ((unknownP fs t.u).length)) ++ ((unknownP fs t.u).flatMap (fun u=>tagP u.1 (whole u.2)))).length) (xs':=bv ((List.range fs.length).flatMap (pie fs V flex t) ++ (uvarint ((unknownP fs t.u).length)) ++ ((unknownP fs t.u).flatMap (fun u=>tagP u.1 (whole u.2))))) rfl List.length_append.symm (bv_append _ _).symm
    refine oA0 hk rfl rfl fun a hk=>?_
    refine cE0 ?_
    refine wp_ret ?_
    refine bT0 rfl hk rfl ?_
    have hr:=hm.rowOut (i:=3) rfl
    exact hr
theorem fieldx_c {flex:Bool}:∀ f:Fld,tidyF f = true → (flex = true → noTagF f = true) → FieldC flex f:=Fld_ind fun f ih h hn=>by
 have ht:=tidy_spec h
 have hp:PartC flex f.sub:=@part_walk flex f.sub (fun g hg=>ih g hg (tidy_mem ht.2.2.2.2 g hg) fun e=>noTag_mem (noTag_sub (hn e)) g hg) ht.2.2.2.1 (tidy_tags ht.2.2.2.2) fun e=>known_none (noTag_sub (hn e))
 have hv:∀ kind,ValueC flex kind f.sub:=fun kind=>@value_walk flex kind f.sub hp
 exact @field_walk flex f hv hp
theorem partx_c {flex:Bool} {fs:List Fld} (h:tidyFs fs = true) (hn:flex = true → noTagFs fs = true) (hl:fs.length ≤ 1000):PartC flex fs :=
 @part_walk flex fs (fun f hf=>fieldx_c f (tidy_mem h f hf) fun e=>noTag_mem (hn e) f hf) hl (tidy_tags h) fun e=>known_none (hn e)
end Go.Proofs.YthblgheenamnhaaGreatDoorR
