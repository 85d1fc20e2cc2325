/- Walks of functions that the laws of this seat reach. No statement of the seat stands here. -/
import Derived.Test.YthblgheenamnhaaGreatDoorRL4
import Derived.Test.YthblgheenamnhaaGreatDoorRRows
import Derived.Test.YthblgheenamnhaaGreatDoorRFa
import Derived.Test.YthblgheenamnhaaGreatDoorRApProduceRequest
import Derived.Test.YthblgheenamnhaaGreatDoorRFi
import Derived.Test.YthblgheenamnhaaGreatDoorRFm
namespace Go.Proofs.YthblgheenamnhaaGreatDoorR
open Go Go.Mk
theorem qKey_ProduceRequest {w0:World} {g:Nat}:Ret Tryz.prog 204 [.pointer (some ⟨g,0,none⟩)] w0 fun v w'=>w' = w0 ∧ v = .int .i16 0:=by
  refine c_call Tryz.func204 rfl rfl fun a hk=>?_
  have hk:Kn 3 [(0,.pointer (some ⟨g,0,none⟩))] a:=hk
  refine cR0 ?_
  refine oA0 hk rfl rfl fun a hk=>?_
  refine cE0 ?_
  refine cR0 ?_
  refine oA0 hk rfl rfl fun a hk=>?_
  refine cE0 ?_
  refine wp_ret ?_
  refine bT0 rfl hk rfl ?_
  exact ⟨rfl,rfl⟩
theorem qGetVersion_ProduceRequest {w0:World} {g:Nat} {V:Int} (hV:w0.cell? ⟨g,0 + 0,none⟩ = some (.int .i16 V)):Ret Tryz.prog 202 [.pointer (some ⟨g,0,none⟩)] w0 fun v w'=>w' = w0 ∧ v = .int .i16 V:=by
  refine c_call Tryz.func202 rfl rfl fun a hk=>?_
  have hk:Kn 7 [(0,.pointer (some ⟨g,0,none⟩))] a:=hk
  refine cR0 ?_
  refine oA0 hk rfl rfl fun a hk=>?_
  refine cE0 ?_
  refine cR0 ?_
  refine oM0 hk rfl rfl fun a hk=>?_
  refine oN0 hk rfl rfl fun a hk=>?_
  refine oF0 hk fo_101_0 rfl rfl fun a hk=>?_
  refine o_load hk ts_45 rfl hV rfl fun a hk=>?_
  refine oA0 hk rfl rfl fun a hk=>?_
  refine cE0 ?_
  refine wp_ret ?_
  refine bT0 rfl hk rfl ?_
  exact ⟨rfl,rfl⟩
theorem qIsFlexible_ProduceRequest {w0:World} {g:Nat} {V:Int} (hV:w0.cell? ⟨g,0 + 0,none⟩ = some (.int .i16 V)):Ret Tryz.prog 203 [.pointer (some ⟨g,0,none⟩)] w0 fun v w'=>w' = w0 ∧ v = .bool (decide (V ≥ 9)):=by
  refine c_call Tryz.func203 rfl rfl fun a hk=>?_
  have hk:Kn 8 [(0,.pointer (some ⟨g,0,none⟩))] a:=hk
  refine cR0 ?_
  refine oA0 hk rfl rfl fun a hk=>?_
  refine cE0 ?_
  refine cR0 ?_
  refine oM0 hk rfl rfl fun a hk=>?_
  refine oN0 hk rfl rfl fun a hk=>?_
  refine oF0 hk fo_101_0 rfl rfl fun a hk=>?_
  refine o_load hk ts_45 rfl hV rfl fun a hk=>?_
  refine o_icmp (b:=decide (V ≥ 9)) hk rfl rfl rfl rfl fun a hk=>?_
  refine oA0 hk rfl rfl fun a hk=>?_
  refine cE0 ?_
  refine wp_ret ?_
  refine bT0 rfl hk rfl ?_
  exact ⟨rfl,rfl⟩
theorem ma_Key_ProduceRequest : methAt Tryz.prog 63 "Key" = some (204, true) := by kernel_rfl
theorem ma_GetVersion_ProduceRequest : methAt Tryz.prog 63 "GetVersion" = some (202, true) := by kernel_rfl
theorem ma_IsFlexible_ProduceRequest : methAt Tryz.prog 63 "IsFlexible" = some (203, true) := by kernel_rfl
theorem ma_AppendTo_ProduceRequest : methAt Tryz.prog 63 "AppendTo" = some (201, true) := by kernel_rfl
theorem ip_ProduceRequest:isPtrT Tryz.prog 63 = true:=by kernel_rfl
theorem req_ProduceRequest {w0:World} {Y:Nat → Prop} {t:T} {g:Nat} {z:Bool} {s:List UInt8} {fv:Value} {c:List Value} {V number:Int} (h0 : 0 ≤ V) (h1:V ≤ 13) (hF:Rep w0 Y (ddFm z s) [fv]) (hs:s.length ≤ 32767) (hzs:z = true → s = []) (hC:Cel w0 Y g 0 (.int .i16 V :: c)) (hR:Rep w0 Y (wrS sch_ProduceRequest true V (decide (V ≥ 9)) (tagged (decide (V ≥ 9)) t)) c) (hsn:t.sane = true) (hroom:(partP sch_ProduceRequest V (decide (V ≥ 9)) t).length + 50000 ≤ room) :
    Ret Tryz.prog 64 [fv,.slice none 0 0,.iface 63 (.pointer (some ⟨g,0,none⟩)),.int .i32 number] w0 fun v w'=>RowTo w0 5 1 (.slice none 0 0) (frameP 0 V number z s (decide (V ≥ 9)) (partP sch_ProduceRequest V (decide (V ≥ 9)) t)).length (bv (frameP 0 V number z s (decide (V ≥ 9)) (partP sch_ProduceRequest V (decide (V ≥ 9)) t))) v w':=by
  obtain ⟨fb,fo,x,rfl,hCf,hRf⟩:=rep_Fm hF
  have hpt:=tagged_part sch_ProduceRequest V (decide (V ≥ 9)) t
  refine c_call Tryz.func64 rfl rfl fun a hk=>?_
  have hk:Kn 60 [(0,.pointer (some ⟨fb,fo,none⟩)),(1,.slice none 0 0),(2,.iface 63 (.pointer (some ⟨g,0,none⟩))),(3,.int .i32 number)] a:=hk
  have hm:Mem w0 Nob Y [.cel g 0 (.int .i16 V :: c),.rep (wrS sch_ProduceRequest true V (decide (V ≥ 9)) (tagged (decide (V ≥ 9)) t)) c,.cel fb fo [x],.rep (ddId z s) [x]] w0:=Mem.start rfl (by simp only [List.forall_mem_cons,List.not_mem_nil,false_imp_iff,implies_true,and_true]; exact ⟨hC,hR,hCf,hRf⟩)
  have hm:=hm.addNil 5 1
  refine cR0 ?_
  refine oA0 hk rfl rfl fun a hk=>?_
  refine cE0 ?_
  refine cR0 ?_
  refine oM0 hk rfl rfl fun a hk=>?_
  refine o_buildSlice (r:=[.int .u8 0,.int .u8 0,.int .u8 0,.int .u8 0]) hk hm rt_24 tz_5 rfl rfl rfl ⟨_,_,_,rfl,rfl,rfl,rfl,_,_,_,rfl,rfl,rfl,rfl,_,_,_,rfl,rfl,rfl,rfl,_,_,_,rfl,rfl,rfl,rfl,rfl⟩ rfl fun a b1 w hk hm=>?_
  refine o_append (i:=1) hk hm rt_24 rfl rfl rfl (src_cells (k:=4) (news:=[.int .u8 0,.int .u8 0,.int .u8 0,.int .u8 0]) te_24 rfl (hm.cells_blk (i:=0) rfl rfl) rfl) (room_len (by omega)) (room_by (by omega)) rfl fun a v1 w hk hm _=>?_
  have hm:=hm.tail
  refine oA0 hk rfl rfl fun a hk=>?_
  refine cE0 ?_
  refine cR0 ?_
  refine oM0 hk rfl rfl fun a hk=>?_
  refine o_invoke (xs:=[]) (vs:=[]) hk rfl (fun k w=>run_methP ma_Key_ProduceRequest ip_ProduceRequest) cb_204 qKey_ProduceRequest trivial rfl fun v w2 a hR hk=>?_
  obtain ⟨rfl,rfl⟩:=hR
  refine oA0 hk rfl rfl fun a hk=>?_
  refine cE0 ?_
  refine cR0 ?_
  refine oM0 hk rfl rfl fun a hk=>?_
  refine o_invoke (xs:=[]) (vs:=[]) hk rfl (fun k w=>run_methP ma_GetVersion_ProduceRequest ip_ProduceRequest) cb_202 (qGetVersion_ProduceRequest (hm.all _ (eA0 (i:=1) rfl) 0 _ rfl).2) trivial rfl fun v w2 a hR hk=>?_
  obtain ⟨rfl,rfl⟩:=hR
  refine oA0 hk rfl rfl fun a hk=>?_
  refine cE0 ?_
  refine cR0 ?_
  refine oM0 hk rfl rfl fun a hk=>?_
  refine oM0 hk rfl rfl fun a hk=>?_
  refine o_call hk cb_97 (appendInt16_c (hm.row (i:=0) rfl) 0 (by omega)) ⟨rfl,rfl,trivial⟩ rfl fun v2 w a hR hk=>?_
  have hm:=hm.rowCall (i:=0) rfl hR
  refine oA0 hk rfl rfl fun a hk=>?_
  refine cE0 ?_
  refine cR0 ?_
  refine oM0 hk rfl rfl fun a hk=>?_
  refine oM0 hk rfl rfl fun a hk=>?_
  refine o_call hk cb_97 (appendInt16_c (hm.row (i:=0) rfl) V (by simp only [fixed_length,List.length_append,counted2]; omega)) ⟨rfl,rfl,trivial⟩ rfl fun v3 w a hR hk=>?_
  have hm:=hm.rowCall (i:=0) rfl hR
  refine oA0 hk rfl rfl fun a hk=>?_
  refine cE0 ?_
  refine cR0 ?_
  refine oM0 hk rfl rfl fun a hk=>?_
  refine oM0 hk rfl rfl fun a hk=>?_
  refine o_call hk cb_98 (appendInt32_c (hm.row (i:=0) rfl) number (by simp only [fixed_length,List.length_append,counted2]; omega)) ⟨rfl,rfl,trivial⟩ rfl fun v4 w a hR hk=>?_
  have hm:=hm.rowCall (i:=0) rfl hR
  refine oA0 hk rfl rfl fun a hk=>?_
  refine cE0 ?_
  refine wp_seq ?_
  refine cR0 ?_
  refine oM0 hk rfl rfl fun a hk=>?_
  refine o_icmp (b:=false) hk rfl rfl rfl rfl fun a hk=>?_
  refine oM0 hk rfl rfl fun a hk=>?_
  refine oS0 hk ⟨_,_,_,_,rfl,rfl,rfl,nb_ft⟩ rfl rfl fun a hk=>?_
  refine oS0 hk ⟨_,_,_,_,rfl,rfl,rfl,nb_ft⟩ rfl rfl fun a hk=>?_
  refine o_pick hk rfl rfl rfl rfl rfl fun a hk=>?_
  refine cE0 ?_
  refine c_condF hk rfl ?_
  refine wp_skip ?_
  refine cT0 ?_
  refine cR0 ?_
  refine oM0 hk rfl rfl fun a hk=>?_
  refine oM0 hk rfl rfl fun a hk=>?_
  refine oN0 hk rfl rfl fun a hk=>?_
  refine oF0 hk fo_134_0 rfl rfl fun a hk=>?_
  refine o_load hk ts_92 rfl (hm.all _ (eA0 (i:=3) rfl) 0 _ rfl).2 rfl fun a hk=>?_
  refine o_call hk cb_99 (appendNullableString_ok (hm.row (i:=0) rfl) (fun _ hv=>hm.yofRow (i:=0) rfl hv) z s hs hzs (hm.rep (i:=4) rfl) (by simp only [fixed_length,List.length_append,counted2]; omega)) ⟨rfl,rfl,trivial⟩ rfl fun v5 w a hR hk=>?_
  have hm:=hm.rowCall (i:=0) rfl hR
  refine oA0 hk rfl rfl fun a hk=>?_
  refine cE0 ?_
  refine wp_seq ?_
  refine cR0 ?_
  refine oM0 hk rfl rfl fun a hk=>?_
  refine o_invoke (xs:=[]) (vs:=[]) hk rfl (fun k w=>run_methP ma_IsFlexible_ProduceRequest ip_ProduceRequest) cb_203 (qIsFlexible_ProduceRequest (hm.all _ (eA0 (i:=1) rfl) 0 _ rfl).2) trivial rfl fun v w2 a hR hk=>?_
  obtain ⟨rfl,rfl⟩:=hR
  refine cE0 ?_
  cases hfl:(decide (V ≥ 9)) with
  | true =>
    rw [hfl] at hk
    refine c_condT hk rfl ?_
    refine cR0 ?_
    refine oA0 hk rfl rfl fun a hk=>?_
    refine cE0 ?_
    refine cR0 ?_
    refine oM0 hk rfl rfl fun a hk=>?_
    refine oM0 hk rfl rfl fun a hk=>?_
    refine o_buildSlice (r:=[.int .u8 0]) hk hm rt_24 tz_5 rfl rfl rfl ⟨_,_,_,rfl,rfl,rfl,rfl,rfl⟩ rfl fun a b2 w hk hm=>?_
    refine o_append (i:=1) hk hm rt_24 rfl rfl rfl (src_cells (k:=1) (news:=[.int .u8 0]) te_24 rfl (hm.cells_blk (i:=0) rfl rfl) rfl) (room_len (by simp only [fixed_length,List.length_append,counted2]; omega)) (room_by (by simp only [fixed_length,List.length_append,counted2]; omega)) rfl fun a v6 w hk hm _=>?_
    have hm:=hm.tail
    refine oA0 hk rfl rfl fun a hk=>?_
    refine cE0 ?_
    refine cR0 ?_
    refine oM0 hk rfl rfl fun a hk=>?_
    refine o_icmp (b:=false) hk rfl rfl rfl rfl fun a hk=>?_
    refine cE0 ?_
    refine c_condF hk rfl ?_
    refine wp_skip ?_
    refine cT0 ?_
    refine cR0 ?_
    refine oM0 hk rfl rfl fun a hk=>?_
    refine oM0 hk rfl rfl fun a hk=>?_
    refine o_invoke (xs:=[.tmp 50]) (vs:=[v6]) hk rfl (fun k w=>run_methP ma_AppendTo_ProduceRequest ip_ProduceRequest) cb_201 (appendTo_ProduceRequest (t:=tagged (decide (V ≥ 9)) t) V h0 h1 (hm.row (i:=0) rfl) (fun _ hv=>hm.yofRow (i:=0) rfl hv) (tagged_sane hsn) (hm.all _ (eA0 (i:=1) rfl)) (hm.rep (i:=2) rfl) (by rw [hpt]; simp only [fixed_length,List.length_append,counted2]; omega)) ⟨rfl,trivial⟩ rfl fun v7 w a hR hk=>?_
    have hm:=hm.rowCall (i:=0) rfl hR
    refine oA0 hk rfl rfl fun a hk=>?_
    refine cE0 ?_
    obtain ⟨p7,cap7,rfl⟩:=row_form (hm.row (i:=0) rfl)
    obtain ⟨n7,hn7⟩ : ∃ q,q = 0 + 4 + (fixed 0 2).length + (fixed V 2).length + (fixed number 4).length + (counted false z s.length 2 ++ s).length + 1 + (partP sch_ProduceRequest V (decide (V ≥ 9)) (tagged (decide (V ≥ 9)) t)).length:=⟨_,rfl⟩
    rw [← hn7] at hm hk
    have hn8:n7 = 4 + (headP 0 V number z s (decide (V ≥ 9)) ++ partP sch_ProduceRequest V (decide (V ≥ 9)) t).length:=by rw [hn7,hpt]; simp only [List.length_append,fixed_length,counted2,head_len,hfl,if_true,Bool.false_eq_true,if_false]; omega
    have h4n : 4 ≤ n7:=by omega
    refine wp_seq ?_
    refine d_startM (K:=6) mixed hm fun w hm=>?_
    refine d_take (i:=0) rfl rfl rfl (by kernel_rfl) (fun _ _ _ h=>h) hk rfl (fun w hm=>r_move hk rfl) hm fun a hk=>?_
    refine d_take (i:=1) rfl rfl rfl (by kernel_rfl) (fun _ _ _ h=>h) hk rfl (fun w hm=>r_sliceTo (k:=0) hk te_24 ts_5 rfl rfl (Nat.zero_le _)) hm fun a hk=>?_
    refine d_one (k:=2) (by kernel_rfl) rfl rfl ?_
    refine oM0 hk rfl rfl fun a hk=>?_
    refine c_endQ (cT0 ⟨fun _=>hm,?_⟩)
    refine d_one (k:=3) (by kernel_rfl) rfl rfl ?_
    refine o_sliceFrom (k:=4) hk te_24 ts_5 rfl rfl h4n rfl fun a hk=>?_
    refine c_endQ (cT0 ⟨fun _=>hm,?_⟩)
    refine d_one (k:=4) (by kernel_rfl) rfl rfl ?_
    refine oL0 hk te_24 rfl rfl fun a hk=>?_
    refine c_endQ (cT0 ⟨fun _=>hm,?_⟩)
    refine d_one (k:=5) (by kernel_rfl) rfl rfl ?_
    refine o_convInt (c:=IntKind.i32.wrap ((n7 - 4:Nat):Int)) hk un_3 ti_21 rfl rfl rfl fun a hk=>?_
    refine c_endQ (cT0 ⟨fun _=>hm,?_⟩)
    refine d_one (k:=6) (by kernel_rfl) rfl rfl ?_
    obtain ⟨gD,cap8,cs,hv8,hbD,hcap8,hnc8,hback⟩:=row_in (hm.row (i:=0) rfl) h4n
    simp only [Value.slice.injEq,true_and] at hv8
    obtain ⟨rfl,rfl⟩:=hv8
    refine o_call hk cb_98 (appendInt32_in hbD hcap8 (Nat.le_trans h4n hnc8) (IntKind.i32.wrap ((n7 - 4:Nat):Int))) ⟨rfl,rfl,trivial⟩ rfl fun v9 w a hR hk=>?_
    have hm:=hm.rowCall (i:=0) rfl (hback _ _ (by rw [bv_length,fixed_length]) hR.1 hR.2)
    refine c_endQ (cT0 ⟨fun h=>Bool.noConfusion (show true = false from h),?_⟩)
    refine d_done (by kernel_rfl) ?_ _
    refine cT0 ?_
    refine cR0 ?_
    refine oM0 hk rfl rfl fun a hk=>?_
    refine oA0 hk rfl rfl fun a hk=>?_
    refine cE0 ?_
    refine wp_ret ?_
    refine bT0 rfl hk rfl ?_
    refine (hm.rowEq (i:=0) rfl ?_ ?_).rowOut (i:=0) rfl
    · rw [hn8,hfl]; unfold frameP; simp only [List.length_append,fixed_length]
    · rw [fixed_i32,show n7 - 4 = (headP 0 V number z s (decide (V ≥ 9)) ++ partP sch_ProduceRequest V (decide (V ≥ 9)) t).length by omega]
      unfold frameP headP
      rw [hpt,hfl]
      simp only [bv_append,bv_cons0,List.nil_append,List.cons_append,List.drop_succ_cons,List.drop_zero,List.append_assoc,if_true,Bool.false_eq_true,if_false,List.append_nil]
  | false =>
    rw [hfl] at hk
    refine c_condF hk rfl ?_
    refine wp_skip ?_
    refine cT0 ?_
    refine cR0 ?_
    refine oM0 hk rfl rfl fun a hk=>?_
    refine oM0 hk rfl rfl fun a hk=>?_
    refine o_invoke (xs:=[.tmp 50]) (vs:=[v5]) hk rfl (fun k w=>run_methP ma_AppendTo_ProduceRequest ip_ProduceRequest) cb_201 (appendTo_ProduceRequest (t:=tagged (decide (V ≥ 9)) t) V h0 h1 (hm.row (i:=0) rfl) (fun _ hv=>hm.yofRow (i:=0) rfl hv) (tagged_sane hsn) (hm.all _ (eA0 (i:=1) rfl)) (hm.rep (i:=2) rfl) (by rw [hpt]; simp only [fixed_length,List.length_append,counted2]; omega)) ⟨rfl,trivial⟩ rfl fun v7 w a hR hk=>?_
    have hm:=hm.rowCall (i:=0) rfl hR
    refine oA0 hk rfl rfl fun a hk=>?_
    refine cE0 ?_
    obtain ⟨p7,cap7,rfl⟩:=row_form (hm.row (i:=0) rfl)
    obtain ⟨n7,hn7⟩ : ∃ q,q = 0 + 4 + (fixed 0 2).length + (fixed V 2).length + (fixed number 4).length + (counted false z s.length 2 ++ s).length + (partP sch_ProduceRequest V (decide (V ≥ 9)) (tagged (decide (V ≥ 9)) t)).length:=⟨_,rfl⟩
    rw [← hn7] at hm hk
    have hn8:n7 = 4 + (headP 0 V number z s (decide (V ≥ 9)) ++ partP sch_ProduceRequest V (decide (V ≥ 9)) t).length:=by rw [hn7,hpt]; simp only [List.length_append,fixed_length,counted2,head_len,hfl,if_true,Bool.false_eq_true,if_false]; omega
    have h4n : 4 ≤ n7:=by omega
    refine wp_seq ?_
    refine d_startM (K:=6) mixed hm fun w hm=>?_
    refine d_take (i:=0) rfl rfl rfl (by kernel_rfl) (fun _ _ _ h=>h) hk rfl (fun w hm=>r_move hk rfl) hm fun a hk=>?_
    refine d_take (i:=1) rfl rfl rfl (by kernel_rfl) (fun _ _ _ h=>h) hk rfl (fun w hm=>r_sliceTo (k:=0) hk te_24 ts_5 rfl rfl (Nat.zero_le _)) hm fun a hk=>?_
    refine d_one (k:=2) (by kernel_rfl) rfl rfl ?_
    refine oM0 hk rfl rfl fun a hk=>?_
    refine c_endQ (cT0 ⟨fun _=>hm,?_⟩)
    refine d_one (k:=3) (by kernel_rfl) rfl rfl ?_
    refine o_sliceFrom (k:=4) hk te_24 ts_5 rfl rfl h4n rfl fun a hk=>?_
    refine c_endQ (cT0 ⟨fun _=>hm,?_⟩)
    refine d_one (k:=4) (by kernel_rfl) rfl rfl ?_
    refine oL0 hk te_24 rfl rfl fun a hk=>?_
    refine c_endQ (cT0 ⟨fun _=>hm,?_⟩)
    refine d_one (k:=5) (by kernel_rfl) rfl rfl ?_
    refine o_convInt (c:=IntKind.i32.wrap ((n7 - 4:Nat):Int)) hk un_3 ti_21 rfl rfl rfl fun a hk=>?_
    refine c_endQ (cT0 ⟨fun _=>hm,?_⟩)
    refine d_one (k:=6) (by kernel_rfl) rfl rfl ?_
    obtain ⟨gD,cap8,cs,hv8,hbD,hcap8,hnc8,hback⟩:=row_in (hm.row (i:=0) rfl) h4n
    simp only [Value.slice.injEq,true_and] at hv8
    obtain ⟨rfl,rfl⟩:=hv8
    refine o_call hk cb_98 (appendInt32_in hbD hcap8 (Nat.le_trans h4n hnc8) (IntKind.i32.wrap ((n7 - 4:Nat):Int))) ⟨rfl,rfl,trivial⟩ rfl fun v9 w a hR hk=>?_
    have hm:=hm.rowCall (i:=0) rfl (hback _ _ (by rw [bv_length,fixed_length]) hR.1 hR.2)
    refine c_endQ (cT0 ⟨fun h=>Bool.noConfusion (show true = false from h),?_⟩)
    refine d_done (by kernel_rfl) ?_ _
    refine cT0 ?_
    refine cR0 ?_
    refine oM0 hk rfl rfl fun a hk=>?_
    refine oA0 hk rfl rfl fun a hk=>?_
    refine cE0 ?_
    refine wp_ret ?_
    refine bT0 rfl hk rfl ?_
    refine (hm.rowEq (i:=0) rfl ?_ ?_).rowOut (i:=0) rfl
    · rw [hn8,hfl]; unfold frameP; simp only [List.length_append,fixed_length]
    · rw [fixed_i32,show n7 - 4 = (headP 0 V number z s (decide (V ≥ 9)) ++ partP sch_ProduceRequest V (decide (V ≥ 9)) t).length by omega]
      unfold frameP headP
      rw [hpt,hfl]
      simp only [bv_append,bv_cons0,List.nil_append,List.cons_append,List.drop_succ_cons,List.drop_zero,List.append_assoc,if_true,Bool.false_eq_true,if_false,List.append_nil]
end Go.Proofs.YthblgheenamnhaaGreatDoorR
