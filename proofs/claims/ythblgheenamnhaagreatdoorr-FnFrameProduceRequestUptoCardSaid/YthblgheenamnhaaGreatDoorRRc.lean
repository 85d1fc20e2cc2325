/- Walks of functions that the laws of this seat reach. No statement of the seat stands here. -/
import Derived.Test.YthblgheenamnhaaGreatDoorRL3
import Derived.Test.YthblgheenamnhaaGreatDoorRRows
import Derived.Test.YthblgheenamnhaaGreatDoorRFa
import Derived.Test.YthblgheenamnhaaGreatDoorRRb
namespace Go.Proofs.YthblgheenamnhaaGreatDoorR
open Go Go.Mk
theorem rdInt32_c {w0:World} {Y:Nat → Prop} {rb:Nat} {s:RS} (hb:RdrAt w0 Y rb 109 s) (hY:Y rb):Ret Tryz.prog 90 [.pointer (some ⟨rb,0,none⟩)] w0 fun v w'=>Agr (fun k=>k = rb) w0 w' ∧ v = .int .i32 (IntKind.i32.wrap ((RS.num 4 s).1:Int)) ∧ RdrAt w' (fun b=>b < w0.heap.size ∧ Y b) rb 109 (RS.num 4 s).2:=by
 obtain ⟨x,hb,hx⟩:=hb
 obtain ⟨px,capx,rfl,hcap⟩:=src_form hx
 refine c_call Tryz.func90 rfl rfl fun a hk=>?_
 have hk:Kn 32 [(0,.pointer (some ⟨rb,0,none⟩))] a:=hk
 have hm:Mem w0 (fun k=>k = rb) Y [.blk rb [.slice px ((s.src.getD []).length) capx,.bool s.bad] 109,.rep (ddSrc s.src) [.slice px ((s.src.getD []).length) capx]] w0:=Mem.startBlk hb hY rfl (by simp only [List.forall_mem_cons,List.not_mem_nil,false_imp_iff,implies_true,and_true]; exact hx)
 refine cR0 ?_
 refine oA0 hk rfl rfl fun a hk=>?_
 refine cE0 ?_
 refine wp_seq ?_
 refine cR0 ?_
 refine oM0 hk rfl rfl fun a hk=>?_
 refine oN0 hk rfl rfl fun a hk=>?_
 refine oF0 hk fo_109_0 rfl rfl fun a hk=>?_
 refine o_load hk ts_24 rfl (hm.cell_blk (i:=0) rfl rfl) rfl fun a hk=>?_
 refine oL0 hk te_24 rfl rfl fun a hk=>?_
 refine o_icmp hk rfl rfl rfl rfl fun a hk=>?_
 refine cE0 ?_
 refine c_cond hk rfl (fun hc=>?_) (fun hc=>?_)
 ·have hlt:s.l.length < 4:=by have:=of_decide_eq_true hc; unfold RS.l; omega
  have hn:RS.num 4 s = (0,RS.fail):=by unfold RS.num; rw [if_pos hlt]
  rw [hn]
  refine cR0 ?_
  refine oM0 hk rfl rfl fun a hk=>?_
  refine oN0 hk rfl rfl fun a hk=>?_
  refine oF0 hk fo_109_1 rfl rfl fun a hk=>?_
  refine o_store (i:=0) hk hm ts_4 rfl rfl rfl rfl rfl rfl (Nat.le_of_ble_eq_true rfl) fun a w hk hm=>?_
  refine cE0 ?_
  refine cR0 ?_
  refine oM0 hk rfl rfl fun a hk=>?_
  refine oN0 hk rfl rfl fun a hk=>?_
  refine oF0 hk fo_109_0 rfl rfl fun a hk=>?_
  refine o_store (i:=0) hk hm ts_24 rfl rfl rfl rfl rfl rfl (Nat.le_of_ble_eq_true rfl) fun a w hk hm=>?_
  refine cE0 ?_
  refine cR0 ?_
  refine oA0 hk rfl rfl fun a hk=>?_
  refine cE0 ?_
  refine wp_ret ?_
  refine cQ0 ?_
  refine bT0 rfl hk rfl ?_
  refine ⟨hm.agr,rfl,_,hm.blkAt (i:=0) rfl,rep_v _⟩
 ·have hge : 4 ≤ (s.src.getD []).length:=by have:=of_decide_eq_false hc; omega
  obtain ⟨l,hl⟩ : ∃ l,s.src = some l:=by cases h:s.src with | none=>rw [h] at hge; simp at hge | some l=>exact ⟨l,rfl⟩
  have hn:RS.num 4 s = (be (l.take 4),⟨some (l.drop 4),s.bad⟩):=by unfold RS.num RS.l; rw [if_neg (by omega),hl]; rfl
  rw [hn]
  simp only [hl,Option.getD_some] at hge hcap hm hk
  obtain ⟨bs_,off,cap,hpx,-,hC⟩ : ∃ b off cap,Value.slice px l.length capx = .slice (some ⟨b,off,none⟩) l.length cap ∧ l.length ≤ cap ∧ Cel w0 (Yof w0 Y [.blk rb [.slice px l.length capx,.bool s.bad] 109,.rep (ddSrc (some l)) [.slice px l.length capx]]) b off (bv l):=by
   rcases src_some (hm.rep (i:=1) rfl) with ⟨h0,_⟩ | h
   ·rw [h0] at hge; simp at hge
   ·exact h
  obtain ⟨rfl,-,rfl⟩:=Value.slice.inj hpx
  have hm:=hm.add (e:=.cel bs_ off (bv l)) rfl hC
  refine wp_skip ?_
  refine cT0 ?_
  refine wp_seq ?_
  refine d_startM (K:=7) mixed hm fun w hm=>?_
  refine d_take (i:=0) rfl rfl rfl (by kernel_rfl) (fun _ _ _ h=>h) hk rfl (fun w hm=>r_loadN (cs:=[]) hk ts_164 rfl (fun j u h=>by simp at h)) hm fun a hk=>?_
  refine d_one (k:=1) (by kernel_rfl) rfl rfl ?_
  refine oM0 hk rfl rfl fun a hk=>?_
  refine c_endQ (cT0 ⟨fun _=>hm,?_⟩)
  refine d_one (k:=2) (by kernel_rfl) rfl rfl ?_
  refine oN0 hk rfl rfl fun a hk=>?_
  refine c_endQ (cT0 ⟨fun _=>hm,?_⟩)
  refine d_one (k:=3) (by kernel_rfl) rfl rfl ?_
  refine oF0 hk fo_109_0 rfl rfl fun a hk=>?_
  refine c_endQ (cT0 ⟨fun _=>hm,?_⟩)
  refine d_one (k:=4) (by kernel_rfl) rfl rfl ?_
  refine o_load hk ts_24 rfl (hm.cell_blk (i:=1) rfl rfl) rfl fun a hk=>?_
  refine c_endQ (cT0 ⟨fun _=>hm,?_⟩)
  refine d_one (k:=5) (by kernel_rfl) rfl rfl ?_
  refine o_call hk cb_116 (beUint32_c (Y:=Yof w0 Y [.cel bs_ off (bv l),.blk rb [.slice (some ⟨bs_,off,none⟩) l.length capx,.bool s.bad] 109,.rep (ddSrc (some l)) [.slice (some ⟨bs_,off,none⟩) l.length capx]]) (hm.all _ (eA0 (i:=0) rfl)) hge) ⟨rfl,rfl,trivial⟩ rfl fun v w a hR hk=>?_
  obtain ⟨hp,rfl⟩:=hR
  have hm:=hm.pure hp
  refine c_endQ (cT0 ⟨fun _=>hm,?_⟩)
  refine d_one (k:=6) (by kernel_rfl) rfl rfl ?_
  refine o_convInt (c:=IntKind.i32.wrap ((be (l.take 4):Nat):Int)) hk un_65 ti_21 rfl rfl rfl fun a hk=>?_
  refine c_endQ (cT0 ⟨fun _=>hm,?_⟩)
  refine d_one (k:=7) (by kernel_rfl) rfl rfl ?_
  refine oA0 hk rfl rfl fun a hk=>?_
  refine c_endQ (cT0 ⟨fun h=>Bool.noConfusion (show true = false from h),?_⟩)
  refine d_done (by kernel_rfl) ?_ _
  refine cT0 ?_
  refine cR0 ?_
  refine oM0 hk rfl rfl fun a hk=>?_
  refine oM0 hk rfl rfl fun a hk=>?_
  refine oN0 hk rfl rfl fun a hk=>?_
  refine oF0 hk fo_109_0 rfl rfl fun a hk=>?_
  refine o_load hk ts_24 rfl (hm.cell_blk (i:=1) rfl rfl) rfl fun a hk=>?_
  refine o_sliceFrom (k:=4) hk te_24 ts_5 rfl rfl hge rfl fun a hk=>?_
  refine oN0 hk rfl rfl fun a hk=>?_
  refine oF0 hk fo_109_0 rfl rfl fun a hk=>?_
  refine o_store (i:=1) hk hm ts_24 rfl rfl (cells1 (rfl)) rfl rfl rfl (Nat.le_of_ble_eq_true rfl) fun a w hk hm=>?_
  refine cE0 ?_
  refine cR0 ?_
  refine oM0 hk rfl rfl fun a hk=>?_
  refine oA0 hk rfl rfl fun a hk=>?_
  refine cE0 ?_
  refine wp_ret ?_
  refine bT0 rfl hk rfl ?_
  exact ⟨hm.agr,rfl,_,hm.blkAt (i:=1) rfl,hm.out (src_from (o:=some l) (hm.rep (i:=2) rfl) hge)⟩
theorem rdInt16_c {w0:World} {Y:Nat → Prop} {rb:Nat} {s:RS} (hb:RdrAt w0 Y rb 109 s) (hY:Y rb):Ret Tryz.prog 94 [.pointer (some ⟨rb,0,none⟩)] w0 fun v w'=>Agr (fun k=>k = rb) w0 w' ∧ v = .int .i16 (IntKind.i16.wrap ((RS.num 2 s).1:Int)) ∧ RdrAt w' (fun b=>b < w0.heap.size ∧ Y b) rb 109 (RS.num 2 s).2:=by
 obtain ⟨x,hb,hx⟩:=hb
 obtain ⟨px,capx,rfl,hcap⟩:=src_form hx
 refine c_call Tryz.func94 rfl rfl fun a hk=>?_
 have hk:Kn 32 [(0,.pointer (some ⟨rb,0,none⟩))] a:=hk
 have hm:Mem w0 (fun k=>k = rb) Y [.blk rb [.slice px ((s.src.getD []).length) capx,.bool s.bad] 109,.rep (ddSrc s.src) [.slice px ((s.src.getD []).length) capx]] w0:=Mem.startBlk hb hY rfl (by simp only [List.forall_mem_cons,List.not_mem_nil,false_imp_iff,implies_true,and_true]; exact hx)
 refine cR0 ?_
 refine oA0 hk rfl rfl fun a hk=>?_
 refine cE0 ?_
 refine wp_seq ?_
 refine cR0 ?_
 refine oM0 hk rfl rfl fun a hk=>?_
 refine oN0 hk rfl rfl fun a hk=>?_
 refine oF0 hk fo_109_0 rfl rfl fun a hk=>?_
 refine o_load hk ts_24 rfl (hm.cell_blk (i:=0) rfl rfl) rfl fun a hk=>?_
 refine oL0 hk te_24 rfl rfl fun a hk=>?_
 refine o_icmp hk rfl rfl rfl rfl fun a hk=>?_
 refine cE0 ?_
 refine c_cond hk rfl (fun hc=>?_) (fun hc=>?_)
 ·have hlt:s.l.length < 2:=by have:=of_decide_eq_true hc; unfold RS.l; omega
  have hn:RS.num 2 s = (0,RS.fail):=by unfold RS.num; rw [if_pos hlt]
  rw [hn]
  refine cR0 ?_
  refine oM0 hk rfl rfl fun a hk=>?_
  refine oN0 hk rfl rfl fun a hk=>?_
  refine oF0 hk fo_109_1 rfl rfl fun a hk=>?_
  refine o_store (i:=0) hk hm ts_4 rfl rfl rfl rfl rfl rfl (Nat.le_of_ble_eq_true rfl) fun a w hk hm=>?_
  refine cE0 ?_
  refine cR0 ?_
  refine oM0 hk rfl rfl fun a hk=>?_
  refine oN0 hk rfl rfl fun a hk=>?_
  refine oF0 hk fo_109_0 rfl rfl fun a hk=>?_
  refine o_store (i:=0) hk hm ts_24 rfl rfl rfl rfl rfl rfl (Nat.le_of_ble_eq_true rfl) fun a w hk hm=>?_
  refine cE0 ?_
  refine cR0 ?_
  refine oA0 hk rfl rfl fun a hk=>?_
  refine cE0 ?_
  refine wp_ret ?_
  refine cQ0 ?_
  refine bT0 rfl hk rfl ?_
  refine ⟨hm.agr,rfl,_,hm.blkAt (i:=0) rfl,rep_v _⟩
 ·have hge : 2 ≤ (s.src.getD []).length:=by have:=of_decide_eq_false hc; omega
  obtain ⟨l,hl⟩ : ∃ l,s.src = some l:=by cases h:s.src with | none=>rw [h] at hge; simp at hge | some l=>exact ⟨l,rfl⟩
  have hn:RS.num 2 s = (be (l.take 2),⟨some (l.drop 2),s.bad⟩):=by unfold RS.num RS.l; rw [if_neg (by omega),hl]; rfl
  rw [hn]
  simp only [hl,Option.getD_some] at hge hcap hm hk
  obtain ⟨bs_,off,cap,hpx,-,hC⟩ : ∃ b off cap,Value.slice px l.length capx = .slice (some ⟨b,off,none⟩) l.length cap ∧ l.length ≤ cap ∧ Cel w0 (Yof w0 Y [.blk rb [.slice px l.length capx,.bool s.bad] 109,.rep (ddSrc (some l)) [.slice px l.length capx]]) b off (bv l):=by
   rcases src_some (hm.rep (i:=1) rfl) with ⟨h0,_⟩ | h
   ·rw [h0] at hge; simp at hge
   ·exact h
  obtain ⟨rfl,-,rfl⟩:=Value.slice.inj hpx
  have hm:=hm.add (e:=.cel bs_ off (bv l)) rfl hC
  refine wp_skip ?_
  refine cT0 ?_
  refine wp_seq ?_
  refine d_startM (K:=7) mixed hm fun w hm=>?_
  refine d_take (i:=0) rfl rfl rfl (by kernel_rfl) (fun _ _ _ h=>h) hk rfl (fun w hm=>r_loadN (cs:=[]) hk ts_164 rfl (fun j u h=>by simp at h)) hm fun a hk=>?_
  refine d_one (k:=1) (by kernel_rfl) rfl rfl ?_
  refine oM0 hk rfl rfl fun a hk=>?_
  refine c_endQ (cT0 ⟨fun _=>hm,?_⟩)
  refine d_one (k:=2) (by kernel_rfl) rfl rfl ?_
  refine oN0 hk rfl rfl fun a hk=>?_
  refine c_endQ (cT0 ⟨fun _=>hm,?_⟩)
  refine d_one (k:=3) (by kernel_rfl) rfl rfl ?_
  refine oF0 hk fo_109_0 rfl rfl fun a hk=>?_
  refine c_endQ (cT0 ⟨fun _=>hm,?_⟩)
  refine d_one (k:=4) (by kernel_rfl) rfl rfl ?_
  refine o_load hk ts_24 rfl (hm.cell_blk (i:=1) rfl rfl) rfl fun a hk=>?_
  refine c_endQ (cT0 ⟨fun _=>hm,?_⟩)
  refine d_one (k:=5) (by kernel_rfl) rfl rfl ?_
  refine o_call hk cb_118 (beUint16_c (Y:=Yof w0 Y [.cel bs_ off (bv l),.blk rb [.slice (some ⟨bs_,off,none⟩) l.length capx,.bool s.bad] 109,.rep (ddSrc (some l)) [.slice (some ⟨bs_,off,none⟩) l.length capx]]) (hm.all _ (eA0 (i:=0) rfl)) hge) ⟨rfl,rfl,trivial⟩ rfl fun v w a hR hk=>?_
  obtain ⟨hp,rfl⟩:=hR
  have hm:=hm.pure hp
  refine c_endQ (cT0 ⟨fun _=>hm,?_⟩)
  refine d_one (k:=6) (by kernel_rfl) rfl rfl ?_
  refine o_convInt (c:=IntKind.i16.wrap ((be (l.take 2):Nat):Int)) hk un_167 ti_45 rfl rfl rfl fun a hk=>?_
  refine c_endQ (cT0 ⟨fun _=>hm,?_⟩)
  refine d_one (k:=7) (by kernel_rfl) rfl rfl ?_
  refine oA0 hk rfl rfl fun a hk=>?_
  refine c_endQ (cT0 ⟨fun h=>Bool.noConfusion (show true = false from h),?_⟩)
  refine d_done (by kernel_rfl) ?_ _
  refine cT0 ?_
  refine cR0 ?_
  refine oM0 hk rfl rfl fun a hk=>?_
  refine oM0 hk rfl rfl fun a hk=>?_
  refine oN0 hk rfl rfl fun a hk=>?_
  refine oF0 hk fo_109_0 rfl rfl fun a hk=>?_
  refine o_load hk ts_24 rfl (hm.cell_blk (i:=1) rfl rfl) rfl fun a hk=>?_
  refine o_sliceFrom (k:=2) hk te_24 ts_5 rfl rfl hge rfl fun a hk=>?_
  refine oN0 hk rfl rfl fun a hk=>?_
  refine oF0 hk fo_109_0 rfl rfl fun a hk=>?_
  refine o_store (i:=1) hk hm ts_24 rfl rfl (cells1 (rfl)) rfl rfl rfl (Nat.le_of_ble_eq_true rfl) fun a w hk hm=>?_
  refine cE0 ?_
  refine cR0 ?_
  refine oM0 hk rfl rfl fun a hk=>?_
  refine oA0 hk rfl rfl fun a hk=>?_
  refine cE0 ?_
  refine wp_ret ?_
  refine bT0 rfl hk rfl ?_
  exact ⟨hm.agr,rfl,_,hm.blkAt (i:=1) rfl,hm.out (src_from (o:=some l) (hm.rep (i:=2) rfl) hge)⟩
theorem rdReadUint64_c {w0:World} {Y:Nat → Prop} {rb:Nat} {s:RS} (hb:RdrAt w0 Y rb 109 s) (hY:Y rb):Ret Tryz.prog 117 [.pointer (some ⟨rb,0,none⟩)] w0 fun v w'=>Agr (fun k=>k = rb) w0 w' ∧ v = .int .u64 ((RS.num 8 s).1:Int) ∧ RdrAt w' (fun b=>b < w0.heap.size ∧ Y b) rb 109 (RS.num 8 s).2:=by
 obtain ⟨x,hb,hx⟩:=hb
 obtain ⟨px,capx,rfl,hcap⟩:=src_form hx
 refine c_call Tryz.func117 rfl rfl fun a hk=>?_
 have hk:Kn 31 [(0,.pointer (some ⟨rb,0,none⟩))] a:=hk
 have hm:Mem w0 (fun k=>k = rb) Y [.blk rb [.slice px ((s.src.getD []).length) capx,.bool s.bad] 109,.rep (ddSrc s.src) [.slice px ((s.src.getD []).length) capx]] w0:=Mem.startBlk hb hY rfl (by simp only [List.forall_mem_cons,List.not_mem_nil,false_imp_iff,implies_true,and_true]; exact hx)
 refine cR0 ?_
 refine oA0 hk rfl rfl fun a hk=>?_
 refine cE0 ?_
 refine wp_seq ?_
 refine cR0 ?_
 refine oM0 hk rfl rfl fun a hk=>?_
 refine oN0 hk rfl rfl fun a hk=>?_
 refine oF0 hk fo_109_0 rfl rfl fun a hk=>?_
 refine o_load hk ts_24 rfl (hm.cell_blk (i:=0) rfl rfl) rfl fun a hk=>?_
 refine oL0 hk te_24 rfl rfl fun a hk=>?_
 refine o_icmp hk rfl rfl rfl rfl fun a hk=>?_
 refine cE0 ?_
 refine c_cond hk rfl (fun hc=>?_) (fun hc=>?_)
 ·have hlt:s.l.length < 8:=by have:=of_decide_eq_true hc; unfold RS.l; omega
  have hn:RS.num 8 s = (0,RS.fail):=by unfold RS.num; rw [if_pos hlt]
  rw [hn]
  refine cR0 ?_
  refine oM0 hk rfl rfl fun a hk=>?_
  refine oN0 hk rfl rfl fun a hk=>?_
  refine oF0 hk fo_109_1 rfl rfl fun a hk=>?_
  refine o_store (i:=0) hk hm ts_4 rfl rfl rfl rfl rfl rfl (Nat.le_of_ble_eq_true rfl) fun a w hk hm=>?_
  refine cE0 ?_
  refine cR0 ?_
  refine oM0 hk rfl rfl fun a hk=>?_
  refine oN0 hk rfl rfl fun a hk=>?_
  refine oF0 hk fo_109_0 rfl rfl fun a hk=>?_
  refine o_store (i:=0) hk hm ts_24 rfl rfl rfl rfl rfl rfl (Nat.le_of_ble_eq_true rfl) fun a w hk hm=>?_
  refine cE0 ?_
  refine cR0 ?_
  refine oA0 hk rfl rfl fun a hk=>?_
  refine cE0 ?_
  refine wp_ret ?_
  refine cQ0 ?_
  refine bT0 rfl hk rfl ?_
  refine ⟨hm.agr,rfl,_,hm.blkAt (i:=0) rfl,rep_v _⟩
 ·have hge : 8 ≤ (s.src.getD []).length:=by have:=of_decide_eq_false hc; omega
  obtain ⟨l,hl⟩ : ∃ l,s.src = some l:=by cases h:s.src with | none=>rw [h] at hge; simp at hge | some l=>exact ⟨l,rfl⟩
  have hn:RS.num 8 s = (be (l.take 8),⟨some (l.drop 8),s.bad⟩):=by unfold RS.num RS.l; rw [if_neg (by omega),hl]; rfl
  rw [hn]
  simp only [hl,Option.getD_some] at hge hcap hm hk
  obtain ⟨bs_,off,cap,hpx,-,hC⟩ : ∃ b off cap,Value.slice px l.length capx = .slice (some ⟨b,off,none⟩) l.length cap ∧ l.length ≤ cap ∧ Cel w0 (Yof w0 Y [.blk rb [.slice px l.length capx,.bool s.bad] 109,.rep (ddSrc (some l)) [.slice px l.length capx]]) b off (bv l):=by
   rcases src_some (hm.rep (i:=1) rfl) with ⟨h0,_⟩ | h
   ·rw [h0] at hge; simp at hge
   ·exact h
  obtain ⟨rfl,-,rfl⟩:=Value.slice.inj hpx
  have hm:=hm.add (e:=.cel bs_ off (bv l)) rfl hC
  refine wp_skip ?_
  refine cT0 ?_
  refine wp_seq ?_
  refine d_startM (K:=6) mixed hm fun w hm=>?_
  refine d_take (i:=0) rfl rfl rfl (by kernel_rfl) (fun _ _ _ h=>h) hk rfl (fun w hm=>r_loadN (cs:=[]) hk ts_164 rfl (fun j u h=>by simp at h)) hm fun a hk=>?_
  refine d_one (k:=1) (by kernel_rfl) rfl rfl ?_
  refine oM0 hk rfl rfl fun a hk=>?_
  refine c_endQ (cT0 ⟨fun _=>hm,?_⟩)
  refine d_one (k:=2) (by kernel_rfl) rfl rfl ?_
  refine oN0 hk rfl rfl fun a hk=>?_
  refine c_endQ (cT0 ⟨fun _=>hm,?_⟩)
  refine d_one (k:=3) (by kernel_rfl) rfl rfl ?_
  refine oF0 hk fo_109_0 rfl rfl fun a hk=>?_
  refine c_endQ (cT0 ⟨fun _=>hm,?_⟩)
  refine d_one (k:=4) (by kernel_rfl) rfl rfl ?_
  refine o_load hk ts_24 rfl (hm.cell_blk (i:=1) rfl rfl) rfl fun a hk=>?_
  refine c_endQ (cT0 ⟨fun _=>hm,?_⟩)
  refine d_one (k:=5) (by kernel_rfl) rfl rfl ?_
  refine o_call hk cb_124 (beUint64_c (Y:=Yof w0 Y [.cel bs_ off (bv l),.blk rb [.slice (some ⟨bs_,off,none⟩) l.length capx,.bool s.bad] 109,.rep (ddSrc (some l)) [.slice (some ⟨bs_,off,none⟩) l.length capx]]) (hm.all _ (eA0 (i:=0) rfl)) hge) ⟨rfl,rfl,trivial⟩ rfl fun v w a hR hk=>?_
  obtain ⟨hp,rfl⟩:=hR
  have hm:=hm.pure hp
  refine c_endQ (cT0 ⟨fun _=>hm,?_⟩)
  refine d_one (k:=6) (by kernel_rfl) rfl rfl ?_
  refine oA0 hk rfl rfl fun a hk=>?_
  refine c_endQ (cT0 ⟨fun h=>Bool.noConfusion (show true = false from h),?_⟩)
  refine d_done (by kernel_rfl) ?_ _
  refine cT0 ?_
  refine cR0 ?_
  refine oM0 hk rfl rfl fun a hk=>?_
  refine oM0 hk rfl rfl fun a hk=>?_
  refine oN0 hk rfl rfl fun a hk=>?_
  refine oF0 hk fo_109_0 rfl rfl fun a hk=>?_
  refine o_load hk ts_24 rfl (hm.cell_blk (i:=1) rfl rfl) rfl fun a hk=>?_
  refine o_sliceFrom (k:=8) hk te_24 ts_5 rfl rfl hge rfl fun a hk=>?_
  refine oN0 hk rfl rfl fun a hk=>?_
  refine oF0 hk fo_109_0 rfl rfl fun a hk=>?_
  refine o_store (i:=1) hk hm ts_24 rfl rfl (cells1 (rfl)) rfl rfl rfl (Nat.le_of_ble_eq_true rfl) fun a w hk hm=>?_
  refine cE0 ?_
  refine cR0 ?_
  refine oM0 hk rfl rfl fun a hk=>?_
  refine oA0 hk rfl rfl fun a hk=>?_
  refine cE0 ?_
  refine wp_ret ?_
  refine bT0 rfl hk rfl ?_
  exact ⟨hm.agr,rfl,_,hm.blkAt (i:=1) rfl,hm.out (src_from (o:=some l) (hm.rep (i:=2) rfl) hge)⟩
theorem rdOk_c {w0:World} {Y:Nat → Prop} {rb:Nat} {s:RS} (hb:RdrAt w0 Y rb 109 s) (hY:Y rb):Ret Tryz.prog 85 [.pointer (some ⟨rb,0,none⟩)] w0 fun v w'=>Agr (fun k=>k = rb) w0 w' ∧ v = .bool (!s.bad) ∧ RdrAt w' (fun b=>b < w0.heap.size ∧ Y b) rb 109 s:=by
 obtain ⟨x,hb,hx⟩:=hb
 obtain ⟨px,capx,rfl,hcap⟩:=src_form hx
 refine c_call Tryz.func85 rfl rfl fun a hk=>?_
 have hk:Kn 8 [(0,.pointer (some ⟨rb,0,none⟩))] a:=hk
 have hm:Mem w0 (fun k=>k = rb) Y [.blk rb [.slice px ((s.src.getD []).length) capx,.bool s.bad] 109,.rep (ddSrc s.src) [.slice px ((s.src.getD []).length) capx]] w0:=Mem.startBlk hb hY rfl (by simp only [List.forall_mem_cons,List.not_mem_nil,false_imp_iff,implies_true,and_true]; exact hx)
 refine cR0 ?_
 refine oA0 hk rfl rfl fun a hk=>?_
 refine cE0 ?_
 refine cR0 ?_
 refine oM0 hk rfl rfl fun a hk=>?_
 refine oN0 hk rfl rfl fun a hk=>?_
 refine oF0 hk fo_109_1 rfl rfl fun a hk=>?_
 refine o_load hk ts_4 rfl (hm.cell_blk (i:=0) rfl rfl) rfl fun a hk=>?_
 refine o_not hk rfl rfl fun a hk=>?_
 refine oA0 hk rfl rfl fun a hk=>?_
 refine cE0 ?_
 refine wp_ret ?_
 refine bT0 rfl hk rfl ?_
 exact ⟨hm.agr,rfl,_,hm.blkAt (i:=0) rfl,hm.out (hm.rep (i:=1) rfl)⟩
theorem rdInt64_c {w0:World} {Y:Nat → Prop} {rb:Nat} {s:RS} (hb:RdrAt w0 Y rb 109 s) (hY:Y rb):Ret Tryz.prog 91 [.pointer (some ⟨rb,0,none⟩)] w0 fun v w'=>Agr (fun k=>k = rb) w0 w' ∧ v = .int .i64 (IntKind.i64.wrap ((RS.num 8 s).1:Int)) ∧ RdrAt w' (fun b=>b < w0.heap.size ∧ Y b) rb 109 (RS.num 8 s).2:=by
 have hb0:=hb
 obtain ⟨x,hb,hx⟩:=hb
 obtain ⟨px,capx,rfl,hcap⟩:=src_form hx
 refine c_call Tryz.func91 rfl rfl fun a hk=>?_
 have hk:Kn 6 [(0,.pointer (some ⟨rb,0,none⟩))] a:=hk
 have hm:Mem w0 (fun k=>k = rb) Y [.blk rb [.slice px ((s.src.getD []).length) capx,.bool s.bad] 109,.rep (ddSrc s.src) [.slice px ((s.src.getD []).length) capx]] w0:=Mem.startBlk hb hY rfl (by simp only [List.forall_mem_cons,List.not_mem_nil,false_imp_iff,implies_true,and_true]; exact hx)
 refine cR0 ?_
 refine oA0 hk rfl rfl fun a hk=>?_
 refine cE0 ?_
 refine cR0 ?_
 refine oM0 hk rfl rfl fun a hk=>?_
 refine o_call hk cb_117 (rdReadUint64_c hb0 hY) ⟨rfl,trivial⟩ rfl fun v w a hR hk=>?_
 obtain ⟨hp,rfl,hr⟩:=hR
 refine o_convInt (c:=IntKind.i64.wrap ((RS.num 8 s).1:Int)) hk un_80 ti_2 rfl rfl rfl fun a hk=>?_
 refine oA0 hk rfl rfl fun a hk=>?_
 refine cE0 ?_
 refine wp_ret ?_
 refine bT0 rfl hk rfl ?_
 exact ⟨hp,rfl,hr⟩
theorem rdSpan_c {w0:World} {Y:Nat → Prop} {rb:Nat} {s:RS} (k:Int) (hb:RdrAt w0 Y rb 109 s) (hY:Y rb):Ret Tryz.prog 115 [.pointer (some ⟨rb,0,none⟩),.int .i64 k] w0 fun v w'=>Agr (fun k=>k = rb) w0 w' ∧ Rep w' (fun b=>b < w0.heap.size ∧ Y b) (ddSrc (RS.span k s).1) [v] ∧ RdrAt w' (fun b=>b < w0.heap.size ∧ Y b) rb 109 (RS.span k s).2:=by
 obtain ⟨x,hb,hx⟩:=hb
 obtain ⟨px,capx,rfl,hcap⟩:=src_form hx
 refine c_call Tryz.func115 rfl rfl fun a hk=>?_
 have hk:Kn 40 [(0,.pointer (some ⟨rb,0,none⟩)),(1,.int .i64 k)] a:=hk
 have hm:Mem w0 (fun k=>k = rb) Y [.blk rb [.slice px ((s.src.getD []).length) capx,.bool s.bad] 109,.rep (ddSrc s.src) [.slice px ((s.src.getD []).length) capx]] w0:=Mem.startBlk hb hY rfl (by simp only [List.forall_mem_cons,List.not_mem_nil,false_imp_iff,implies_true,and_true]; exact hx)
 refine cR0 ?_
 refine oA0 hk rfl rfl fun a hk=>?_
 refine cE0 ?_
 refine wp_seq ?_
 refine cR0 ?_
 refine oM0 hk rfl rfl fun a hk=>?_
 refine oN0 hk rfl rfl fun a hk=>?_
 refine oF0 hk fo_109_0 rfl rfl fun a hk=>?_
 refine o_load hk ts_24 rfl (hm.cell_blk (i:=0) rfl rfl) rfl fun a hk=>?_
 refine oL0 hk te_24 rfl rfl fun a hk=>?_
 refine oM0 hk rfl rfl fun a hk=>?_
 refine o_icmp hk rfl rfl rfl rfl fun a hk=>?_
 refine oM0 hk rfl rfl fun a hk=>?_
 rcases Bool.eq_false_or_eq_true (decide (((((s.src.getD []).length:Nat):Int):Int) < k)) with hb1 | hb1
 ·rw [hb1] at hk
  refine oS0 hk ⟨_,_,_,_,rfl,rfl,rfl,nb_tf⟩ rfl rfl fun a hk=>?_
  refine oS0 hk ⟨_,_,_,_,rfl,rfl,rfl,nb_tf⟩ rfl rfl fun a hk=>?_
  refine o_pick hk rfl rfl rfl rfl rfl fun a hk=>?_
  refine cE0 ?_
  have hn:RS.span k s = (none,RS.fail):=by unfold RS.span RS.l; rw [if_pos (by simp_all)]
  rw [hn]
  refine c_condT hk rfl ?_
  refine cR0 ?_
  refine oM0 hk rfl rfl fun a hk=>?_
  refine oN0 hk rfl rfl fun a hk=>?_
  refine oF0 hk fo_109_1 rfl rfl fun a hk=>?_
  refine o_store (i:=0) hk hm ts_4 rfl rfl rfl rfl rfl rfl (Nat.le_of_ble_eq_true rfl) fun a w hk hm=>?_
  refine cE0 ?_
  refine cR0 ?_
  refine oM0 hk rfl rfl fun a hk=>?_
  refine oN0 hk rfl rfl fun a hk=>?_
  refine oF0 hk fo_109_0 rfl rfl fun a hk=>?_
  refine o_store (i:=0) hk hm ts_24 rfl rfl rfl rfl rfl rfl (Nat.le_of_ble_eq_true rfl) fun a w hk hm=>?_
  refine cE0 ?_
  refine cR0 ?_
  refine oA0 hk rfl rfl fun a hk=>?_
  refine cE0 ?_
  refine wp_ret ?_
  refine cQ0 ?_
  refine bT0 rfl hk rfl ?_
  refine ⟨hm.agr,rep_v _,_,hm.blkAt (i:=0) rfl,rep_v _⟩
 ·rw [hb1] at hk
  refine o_want (o':=_) hk ⟨_,_,_,rfl,rfl,rfl⟩ rfl ?_
  refine oM0 hk rfl rfl fun a hk=>?_
  refine o_want (o':=_) hk ⟨_,_,_,rfl,rfl,rfl⟩ rfl ?_
  refine o_icmp hk rfl rfl rfl rfl fun a hk=>?_
  refine o_pick hk rfl rfl rfl rfl rfl fun a hk=>?_
  refine cE0 ?_
  refine c_cond hk rfl (fun hc=>?_) (fun hc=>?_)
  ·have hn:RS.span k s = (none,RS.fail):=by unfold RS.span RS.l; rw [if_pos (by simp_all)]
   rw [hn]
   refine cR0 ?_
   refine oM0 hk rfl rfl fun a hk=>?_
   refine oN0 hk rfl rfl fun a hk=>?_
   refine oF0 hk fo_109_1 rfl rfl fun a hk=>?_
   refine o_store (i:=0) hk hm ts_4 rfl rfl rfl rfl rfl rfl (Nat.le_of_ble_eq_true rfl) fun a w hk hm=>?_
   refine cE0 ?_
   refine cR0 ?_
   refine oM0 hk rfl rfl fun a hk=>?_
   refine oN0 hk rfl rfl fun a hk=>?_
   refine oF0 hk fo_109_0 rfl rfl fun a hk=>?_
   refine o_store (i:=0) hk hm ts_24 rfl rfl rfl rfl rfl rfl (Nat.le_of_ble_eq_true rfl) fun a w hk hm=>?_
   refine cE0 ?_
   refine cR0 ?_
   refine oA0 hk rfl rfl fun a hk=>?_
   refine cE0 ?_
   refine wp_ret ?_
   refine cQ0 ?_
   refine bT0 rfl hk rfl ?_
   refine ⟨hm.agr,rep_v _,_,hm.blkAt (i:=0) rfl,rep_v _⟩
  ·have hg : ¬ (((s.src.getD []).length:Int) < k ∨ k < 0):=by simp_all
   have hn:RS.span k s = (s.src.map (List.take k.toNat),⟨s.src.map (List.drop k.toNat),s.bad⟩):=by unfold RS.span RS.l; rw [if_neg hg]
   rw [hn]
   obtain ⟨q,rfl⟩ : ∃ q:Nat,k = (q:Int):=⟨k.toNat,by omega⟩
   have hq:q ≤ (s.src.getD []).length:=by omega
   simp only [Int.toNat_natCast] at hn ⊢
   refine wp_skip ?_
   refine cT0 ?_
   refine cR0 ?_
   refine oM0 hk rfl rfl fun a hk=>?_
   refine oN0 hk rfl rfl fun a hk=>?_
   refine oF0 hk fo_109_0 rfl rfl fun a hk=>?_
   refine o_load hk ts_24 rfl (hm.cell_blk (i:=0) rfl rfl) rfl fun a hk=>?_
   refine oM0 hk rfl rfl fun a hk=>?_
   refine oM0 hk rfl rfl fun a hk=>?_
   refine o_slice3 (k:=q) hk te_24 ts_5 rfl rfl rfl (Nat.le_trans hq hcap) rfl fun a hk=>?_
   refine oA0 hk rfl rfl fun a hk=>?_
   refine cE0 ?_
   refine cR0 ?_
   refine oM0 hk rfl rfl fun a hk=>?_
   refine oM0 hk rfl rfl fun a hk=>?_
   refine oN0 hk rfl rfl fun a hk=>?_
   refine oF0 hk fo_109_0 rfl rfl fun a hk=>?_
   refine o_load hk ts_24 rfl (hm.cell_blk (i:=0) rfl rfl) rfl fun a hk=>?_
   refine oM0 hk rfl rfl fun a hk=>?_
   refine o_sliceFrom (k:=q) hk te_24 ts_5 rfl rfl hq rfl fun a hk=>?_
   refine oN0 hk rfl rfl fun a hk=>?_
   refine oF0 hk fo_109_0 rfl rfl fun a hk=>?_
   refine o_store (i:=0) hk hm ts_24 rfl rfl (cells1 (rfl)) rfl rfl rfl (Nat.le_of_ble_eq_true rfl) fun a w hk hm=>?_
   refine cE0 ?_
   refine cR0 ?_
   refine oM0 hk rfl rfl fun a hk=>?_
   refine oA0 hk rfl rfl fun a hk=>?_
   refine cE0 ?_
   refine wp_ret ?_
   refine bT0 rfl hk rfl ?_
   exact ⟨hm.agr,hm.out (src_span (hm.rep (i:=1) rfl) hq),_,hm.blkAt (i:=0) rfl,hm.out (src_from (hm.rep (i:=1) rfl) hq)⟩
end Go.Proofs.YthblgheenamnhaaGreatDoorR
