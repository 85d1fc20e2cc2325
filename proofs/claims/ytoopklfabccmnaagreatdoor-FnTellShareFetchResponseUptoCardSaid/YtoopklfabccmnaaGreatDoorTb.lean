/- Walks of functions that the laws of this seat reach. No statement of the seat stands here. -/
import Derived.Test.YtoopklfabccmnaaGreatDoorL4
import Derived.Test.YtoopklfabccmnaaGreatDoorRows
import Derived.Test.YtoopklfabccmnaaGreatDoorFa
import Derived.Test.YtoopklfabccmnaaGreatDoorSb
namespace Go.Proofs.YtoopklfabccmnaaGreatDoor
open Go Go.Mk
def GotC (t:T):Prop:=∀ {w0:World} {Y:Nat → Prop} {c:List Value},Rep w0 Y (ddT t) c → t.small = true → Ret Tryz.prog 19 [.agg c.toArray] w0 fun v w'=>Agr Nob w0 w' ∧ ∃ c',v = .agg c'.toArray ∧ Rep w' (fun b=>b < w0.heap.size ∧ Y b) (ddT t) c'
theorem got_walk {t:T} (ih:∀ x ∈ t.l,GotC x):GotC t:=by
 intro w0 Y c hT hsm
 have hs:=small_spec hsm
 obtain ⟨ps,caps,p,cap,pu,capu,rfl⟩:=rep_T7 hT
 refine c_call Tryz.func19 rfl rfl fun a hk=>?_
 have hk:Kn 49 [(0,.agg #[.int .i64 t.n,.slice ps t.s.length caps,.bool t.z,.slice p t.l.length cap,.slice pu t.u.length capu])] a:=hk
 have hm:Mem w0 Nob Y [.rep (ddT t) [.int .i64 t.n,.slice ps t.s.length caps,.bool t.z,.slice p t.l.length cap,.slice pu t.u.length capu]] w0:=Mem.start rfl (by simp only [List.forall_mem_cons,List.not_mem_nil,false_imp_iff,implies_true,and_true]; exact hT)
 refine cR0 ?_
 refine o_box hk hm rfl rfl rfl fun a b1 w hk hm=>?_
 refine o_alloc hk hm tz_26 rfl rfl fun a b2 w hk hm=>?_
 refine cE0 ?_
 refine cR0 ?_
 refine oF0 hk fo_37_0 rfl rfl fun a hk=>?_
 refine o_load hk ts_2 rfl (hm.cell_blk (i:=1) rfl rfl) rfl fun a hk=>?_
 refine oF0 hk fo_37_1 rfl rfl fun a hk=>?_
 refine o_load hk ts_22 rfl (hm.cell_blk (i:=1) rfl rfl) rfl fun a hk=>?_
 refine oF0 hk fo_37_2 rfl rfl fun a hk=>?_
 refine o_load hk ts_4 rfl (hm.cell_blk (i:=1) rfl rfl) rfl fun a hk=>?_
 refine o_build (r:=[.int .i64 t.n,.slice ps t.s.length caps,.bool t.z,.slice none 0 0,.slice none 0 0]) hk tz_26 rfl fok_26 ⟨_,_,_,rfl,rfl,fa_26_0,rfl,_,_,_,rfl,rfl,fa_26_1,rfl,_,_,_,rfl,rfl,fa_26_2,rfl,rfl⟩ rfl fun a hk=>?_
 refine o_alloc hk hm tz_26 rfl rfl fun a b3 w hk hm=>?_
 refine o_store (i:=0) hk hm ts_26 rfl rfl rfl rfl rfl rfl (Nat.le_of_ble_eq_true rfl) fun a w hk hm=>?_
 refine cE0 ?_
 refine wp_seq ?_
 refine cR0 ?_
 refine oF0 hk fo_37_3 rfl rfl fun a hk=>?_
 refine o_load hk ts_34 rfl (hm.cell_blk (i:=2) rfl rfl) rfl fun a hk=>?_
 refine oL0 hk te_34 rfl rfl fun a hk=>?_
 refine oM0 hk rfl rfl fun a hk=>?_
 refine cE0 ?_
 have hm:=hm.addNil 26 5
 have hm:=hm.addEls 5
 refine c_range (L0:=[(1,.pointer (some ⟨b1,0,none⟩)),(2,.pointer (some ⟨b2,0,none⟩)),(3,.pointer (some ⟨b3,0,none⟩)),(16,.slice p t.l.length cap)]) (N:=t.l.length) (by omega) (fun k L w=>∃ vr xs,L = [(1,.pointer (some ⟨b1,0,none⟩)),(2,.pointer (some ⟨b2,0,none⟩)),(3,.pointer (some ⟨b3,0,none⟩)),(16,.slice p t.l.length cap)] ∧ Mem w0 Nob Y [.els 5 ((t.l.take k).map ddT) xs,.row 26 5 vr k xs,.blk b3 [.int .i64 t.n,.slice ps t.s.length caps,.bool t.z,vr,.slice none 0 0] 26,.blk b2 [.int .i64 0,.slice none 0 0,.bool false,.slice none 0 0,.slice none 0 0] 26,.blk b1 [.int .i64 t.n,.slice ps t.s.length caps,.bool t.z,.slice p t.l.length cap,.slice pu t.u.length capu] 37,.rep (ddT t) [.int .i64 t.n,.slice ps t.s.length caps,.bool t.z,.slice p t.l.length cap,.slice pu t.u.length capu]] w) (hk.sub ⟨rfl,rfl,rfl,rfl,rfl,rfl,trivial⟩) ⟨_,_,rfl,hm⟩ rfl rfl rfl rfl rfl rfl rfl (fun k L a w hlt hR hk=>?_) rfl (fun L a w hR hk=>?_)
 ·obtain ⟨vr,xs,rfl,hm⟩:=hR
  obtain ⟨hltx,blx,offx,ex,hplx,helx,hRex,hCex⟩:=rep_sl_get (rep_T_l (hm.rep (i:=5) rfl)) (getD_map ddT t.l k T.nil hlt)
  obtain ⟨psx,capsx,px,capx,pux,capux,rfl⟩:=rep_T7 hRex
  have hm:=hm.add (e:=.rep (ddT (t.l.getD k T.nil)) [.int .i64 ((t.l.getD k T.nil).n),.slice psx ((t.l.getD k T.nil).s.length) capsx,.bool ((t.l.getD k T.nil).z),.slice px ((t.l.getD k T.nil).l.length) capx,.slice pux ((t.l.getD k T.nil).u.length) capux]) rfl hRex
  have hm:=hm.add (e:=.cel blx (offx + k * 5) [.int .i64 ((t.l.getD k T.nil).n),.slice psx ((t.l.getD k T.nil).s.length) capsx,.bool ((t.l.getD k T.nil).z),.slice px ((t.l.getD k T.nil).l.length) capx,.slice pux ((t.l.getD k T.nil).u.length) capux]) rfl hCex
  refine cR0 ?_
  refine oI0 (j:=k) (b:=blx) (off:=offx) hk te_34 ts_37 (by rw [← hplx]; rfl) rfl hltx rfl fun a hk=>?_
  refine o_loadN (cs:=[.int .i64 ((t.l.getD k T.nil).n),.slice psx ((t.l.getD k T.nil).s.length) capsx,.bool ((t.l.getD k T.nil).z),.slice px ((t.l.getD k T.nil).l.length) capx,.slice pux ((t.l.getD k T.nil).u.length) capux]) hk ts_37 rfl (hm.cells_cel (i:=0) (k:=0) rfl rfl) rfl fun a hk=>?_
  refine o_alloc hk hm tz_37 rfl rfl fun a b4 w hk hm=>?_
  refine o_store (i:=0) hk hm ts_37 rfl rfl rfl rfl rfl rfl (Nat.le_of_ble_eq_true rfl) fun a w hk hm=>?_
  refine cE0 ?_
  refine d_startM (K:=5) mixed hm fun w hm=>?_
  refine d_take (i:=0) rfl rfl rfl (by kernel_rfl) (fun _ _ _ h=>h) hk rfl (fun w hm=>rF0 hk fo_26_3 rfl) hm fun a hk=>?_
  refine d_take (i:=1) rfl rfl rfl (by kernel_rfl) (fun _ _ _ h=>h) hk rfl (fun w hm=>r_load1 hk ts_23 rfl (hm.cell_blk (i:=5) rfl rfl)) hm fun a hk=>?_
  refine d_one (k:=2) (by kernel_rfl) rfl rfl ?_
  refine o_loadN (cs:=[.int .i64 ((t.l.getD k T.nil).n),.slice psx ((t.l.getD k T.nil).s.length) capsx,.bool ((t.l.getD k T.nil).z),.slice px ((t.l.getD k T.nil).l.length) capx,.slice pux ((t.l.getD k T.nil).u.length) capux]) hk ts_37 rfl (hm.cells_blk (i:=0) rfl rfl) rfl fun a hk=>?_
  refine c_endQ (cT0 ⟨fun _=>hm,?_⟩)
  refine d_one (k:=3) (by kernel_rfl) rfl rfl ?_
  refine o_call hk cb_19 (ih (t.l.getD k T.nil) (getD_mem hlt) (hm.rep (i:=2) rfl) (small_getD hsm k)) ⟨rfl,trivial⟩ rfl fun v w a hR hk=>?_
  obtain ⟨hp,cg,rfl,hR⟩:=hR
  obtain ⟨psg,capsg,pg,capg,pug,capug,rfl⟩:=rep_T7 hR
  have hm:=hm.result hp hR
  refine c_endQ (cT0 ⟨fun _=>hm.tail,?_⟩)
  refine d_one (k:=4) (by kernel_rfl) rfl rfl ?_
  refine o_buildSlice (r:=[.int .i64 ((t.l.getD k T.nil).n),.slice psg ((t.l.getD k T.nil).s.length) capsg,.bool ((t.l.getD k T.nil).z),.slice pg ((t.l.getD k T.nil).l.length) capg,.slice pug ((t.l.getD k T.nil).u.length) capug]) hk hm rt_23 tz_26 rfl rfl rfl ⟨_,_,_,rfl,rfl,rfl,rfl,rfl⟩ rfl fun a b5 w hk hm=>?_
  refine c_endQ (cT0 ⟨fun _=>hm.tail.tail,?_⟩)
  refine d_one (k:=5) (by kernel_rfl) rfl rfl ?_
  refine o_append (i:=6) hk hm rt_23 rfl rfl rfl (src_cells (k:=1) (news:=[.int .i64 ((t.l.getD k T.nil).n),.slice psg ((t.l.getD k T.nil).s.length) capsg,.bool ((t.l.getD k T.nil).z),.slice pg ((t.l.getD k T.nil).l.length) capg,.slice pug ((t.l.getD k T.nil).u.length) capug]) te_23 rfl (hm.cells_blk (i:=0) rfl rfl) rfl) (by unfold maxLen; omega) (by omega) rfl fun a v6 w hk hm hnilv6=>?_
  refine c_endQ (cT0 ⟨fun h=>Bool.noConfusion (show true = false from h),?_⟩)
  refine d_one (k:=6) (by kernel_rfl) rfl rfl ?_
  refine oF0 hk fo_26_3 rfl rfl fun a hk=>?_
  refine c_endQ (cT0 ⟨fun h=>Bool.noConfusion (show true = false from h),?_⟩)
  refine d_one (k:=7) (by kernel_rfl) rfl rfl ?_
  refine o_store (i:=7) hk hm ts_23 rfl rfl (cells1 (row_one (hm.row (i:=6) rfl))) rfl (one1 (row_one (hm.row (i:=6) rfl))) rfl (Nat.le_of_ble_eq_true rfl) fun a w hk hm=>?_
  refine c_endQ (cT0 ⟨fun h=>Bool.noConfusion (show true = false from h),?_⟩)
  refine d_done (by kernel_rfl) ?_ _
  refine cN0 ?_
  have hm:=hm.elsPush (i:=5) (d:=(ddT (t.l.getD k T.nil))) rfl (hm.rep (i:=1) rfl) rfl
  rw [← take_succ_map ddT t.l k T.nil hlt] at hm
  exact c_round (L':=[(1,.pointer (some ⟨b1,0,none⟩)),(2,.pointer (some ⟨b2,0,none⟩)),(3,.pointer (some ⟨b3,0,none⟩)),(16,.slice p t.l.length cap)]) hk ⟨rfl,rfl,rfl,rfl,rfl,rfl,trivial⟩ rfl ⟨_,_,rfl,hm.tail.tail.tail.tail.tail⟩
 ·obtain ⟨vl1,xl1,rfl,hm⟩:=hR
  have hovl1:=row_one (hm.row (i:=1) rfl)
  have hm:=hm.freezeRow (i:=1) (st:=false) rfl (noX _) (hm.els (i:=0) rfl) (by simp only [List.length_map,List.length_take,Nat.min_self]) (fun _=>rfl)
  rw [List.take_length] at hm
  refine cT0 ?_
  refine wp_seq ?_
  refine cR0 ?_
  refine oF0 hk fo_37_4 rfl rfl fun a hk=>?_
  refine o_load hk ts_35 rfl (hm.cell_blk (i:=4) rfl rfl) rfl fun a hk=>?_
  refine oL0 hk te_35 rfl rfl fun a hk=>?_
  refine oM0 hk rfl rfl fun a hk=>?_
  refine cE0 ?_
  have hm:=hm.addNil 66 2
  have hm:=hm.addEls 2
  refine c_range (L0:=[(2,.pointer (some ⟨b2,0,none⟩)),(3,.pointer (some ⟨b3,0,none⟩)),(31,.slice pu t.u.length capu)]) (N:=t.u.length) (by omega) (fun k L w=>∃ vr xs,L = [(2,.pointer (some ⟨b2,0,none⟩)),(3,.pointer (some ⟨b3,0,none⟩)),(31,.slice pu t.u.length capu)] ∧ Mem w0 Nob Y [.els 2 ((t.u.take k).map ddTag) xs,.row 66 2 vr k xs,.els 5 ((t.l).map ddT) xl1,.rep (.sl false 5 ((t.l).map ddT)) [vl1],.blk b3 [.int .i64 t.n,.slice ps t.s.length caps,.bool t.z,vl1,vr] 26,.blk b2 [.int .i64 0,.slice none 0 0,.bool false,.slice none 0 0,.slice none 0 0] 26,.blk b1 [.int .i64 t.n,.slice ps t.s.length caps,.bool t.z,.slice p t.l.length cap,.slice pu t.u.length capu] 37,.rep (ddT t) [.int .i64 t.n,.slice ps t.s.length caps,.bool t.z,.slice p t.l.length cap,.slice pu t.u.length capu]] w) (hk.sub ⟨rfl,rfl,rfl,rfl,rfl,trivial⟩) ⟨_,_,rfl,hm⟩ rfl rfl rfl rfl rfl rfl rfl (fun k L a w hlt hR hk=>?_) rfl (fun L a w hR hk=>?_)
  ·obtain ⟨vr,xs,rfl,hm⟩:=hR
   obtain ⟨hlty,bly,offy,ey,hply,hely,hRey,hCey⟩:=rep_sl_get (rep_T_u (hm.rep (i:=7) rfl)) (getD_map ddTag t.u k (0,[]) hlt)
   obtain ⟨pty,capty,rfl,-⟩:=rep_Tag hRey
   have hm:=hm.add (e:=.rep (ddTag (t.u.getD k (0,[]))) [.int .u32 (((t.u.getD k (0,[])).1:Nat):Int),.slice pty ((t.u.getD k (0,[])).2.length) capty]) rfl hRey
   have hm:=hm.add (e:=.cel bly (offy + k * 2) [.int .u32 (((t.u.getD k (0,[])).1:Nat):Int),.slice pty ((t.u.getD k (0,[])).2.length) capty]) rfl hCey
   refine cR0 ?_
   refine oI0 (j:=k) (b:=bly) (off:=offy) hk te_35 ts_69 (by rw [← hply]; rfl) rfl hlty rfl fun a hk=>?_
   refine o_loadN (cs:=[.int .u32 (((t.u.getD k (0,[])).1:Nat):Int),.slice pty ((t.u.getD k (0,[])).2.length) capty]) hk ts_69 rfl (hm.cells_cel (i:=0) (k:=0) rfl rfl) rfl fun a hk=>?_
   refine o_alloc hk hm tz_69 rfl rfl fun a b7 w hk hm=>?_
   refine o_store (i:=0) hk hm ts_69 rfl rfl rfl rfl rfl rfl (Nat.le_of_ble_eq_true rfl) fun a w hk hm=>?_
   refine cE0 ?_
   refine c_reg ?_
   refine oF0 hk fo_26_4 rfl rfl fun a hk=>?_
   refine o_load hk ts_24 rfl (hm.cell_blk (i:=7) rfl rfl) rfl fun a hk=>?_
   refine oF0 hk fo_69_0 rfl rfl fun a hk=>?_
   refine o_load hk ts_64 rfl (hm.cell_blk (i:=0) rfl rfl) rfl fun a hk=>?_
   refine oF0 hk fo_69_1 rfl rfl fun a hk=>?_
   refine o_load hk ts_22 rfl (hm.cell_blk (i:=0) rfl rfl) rfl fun a hk=>?_
   refine o_build (r:=[.int .u32 (((t.u.getD k (0,[])).1:Nat):Int),.slice pty ((t.u.getD k (0,[])).2.length) capty]) hk tz_66 rfl fok_66 ⟨_,_,_,rfl,rfl,fa_66_0,rfl,_,_,_,rfl,rfl,fa_66_1,rfl,rfl⟩ rfl fun a hk=>?_
   refine o_buildSlice (r:=[.int .u32 (((t.u.getD k (0,[])).1:Nat):Int),.slice pty ((t.u.getD k (0,[])).2.length) capty]) hk hm rt_24 tz_66 rfl rfl rfl ⟨_,_,_,rfl,rfl,rfl,rfl,rfl⟩ rfl fun a b8 w hk hm=>?_
   refine o_append (i:=5) hk hm rt_24 rfl rfl rfl (src_cells (k:=1) (news:=[.int .u32 (((t.u.getD k (0,[])).1:Nat):Int),.slice pty ((t.u.getD k (0,[])).2.length) capty]) te_24 rfl (hm.cells_blk (i:=0) rfl rfl) rfl) (by unfold maxLen; omega) (by omega) rfl fun a v9 w hk hm hnilv9=>?_
   refine oF0 hk fo_26_4 rfl rfl fun a hk=>?_
   refine o_store (i:=8) hk hm ts_24 rfl rfl (cells1 (row_one (hm.row (i:=5) rfl))) rfl (one1 (row_one (hm.row (i:=5) rfl))) rfl (Nat.le_of_ble_eq_true rfl) fun a w hk hm=>?_
   refine c_endQ ?_
   refine cN0 ?_
   have hm:=hm.elsPush (i:=4) (d:=(ddTag (t.u.getD k (0,[])))) rfl (hm.rep (i:=3) rfl) rfl
   rw [← take_succ_map ddTag t.u k (0,[]) hlt] at hm
   exact c_round (L':=[(2,.pointer (some ⟨b2,0,none⟩)),(3,.pointer (some ⟨b3,0,none⟩)),(31,.slice pu t.u.length capu)]) hk ⟨rfl,rfl,rfl,rfl,rfl,trivial⟩ rfl ⟨_,_,rfl,hm.tail.tail.tail.tail⟩
  ·obtain ⟨vl2,xl2,rfl,hm⟩:=hR
   have hovl2:=row_one (hm.row (i:=1) rfl)
   have hm:=hm.freezeRow (i:=1) (st:=false) rfl (noX _) (hm.els (i:=0) rfl) (by simp only [List.length_map,List.length_take,Nat.min_self]) (fun _=>rfl)
   rw [List.take_length] at hm
   refine cT0 ?_
   refine cR0 ?_
   refine o_loadN (cs:=[.int .i64 t.n,.slice ps t.s.length caps,.bool t.z,vl1,vl2]) hk ts_26 rfl (hm.cells_blk (i:=4) rfl rfl) rfl fun a hk=>?_
   refine o_store (i:=5) hk hm ts_26 rfl rfl rfl rfl (one_cons rfl (one_cons rfl (one_cons rfl (one_cons hovl1 (one_cons hovl2 rfl))))) rfl (Nat.le_of_ble_eq_true rfl) fun a w hk hm=>?_
   refine cE0 ?_
   refine wp_ret ?_
   refine b_retCell (i:=5) (cs:=[.int .i64 t.n,.slice ps t.s.length caps,.bool t.z,vl1,vl2]) rfl ts_26 hk hm rfl rfl ?_
   refine ⟨hm.agr,_,rfl,hm.out (rep_T_mk (rep_T_s (hm.rep (i:=7) rfl)) (hm.rep (i:=3) rfl) (hm.rep (i:=1) rfl))⟩
theorem got_c:∀ t,GotC t:=T_ind fun t ih=>got_walk ih
end Go.Proofs.YtoopklfabccmnaaGreatDoor
