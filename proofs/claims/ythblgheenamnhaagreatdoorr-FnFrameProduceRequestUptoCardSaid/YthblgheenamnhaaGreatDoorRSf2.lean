/- Walks of functions that the laws of this seat reach. No statement of the seat stands here. -/
import Derived.Test.YthblgheenamnhaaGreatDoorRL4
import Derived.Test.YthblgheenamnhaaGreatDoorRRows
import Derived.Test.YthblgheenamnhaaGreatDoorRFa
import Derived.Test.YthblgheenamnhaaGreatDoorRSb
namespace Go.Proofs.YthblgheenamnhaaGreatDoorR
open Go Go.Mk
theorem frame_c {w0:World} {Y:Nat → Prop} {has flex:Bool} {s body:List UInt8} {pi pb:Option Addr} {ci cb:Nat} {key V number:Int} (hN:IntKind.i32.wrap number = number) (hI:Rep w0 Y (ddBs s) [.slice pi s.length ci]) (hB:Rep w0 Y (ddBs body) [.slice pb body.length cb]) (hs:s.length ≤ 32767) (hroom:body.length + 50000 ≤ room) :
    Ret Tryz.prog 15 [.int .i64 key,.int .i64 V,.int .i32 number,.bool has,.slice pi s.length ci,.bool flex,.slice pb body.length cb] w0 fun v w'=>RowTo w0 5 1 (.slice none 0 0) (frameP key V number (!has) (if has then s else []) flex body).length (bv (frameP key V number (!has) (if has then s else []) flex body)) v w':=by
  refine c_call Tryz.func15 rfl rfl fun a hk=>?_
  have hk:Kn 49 [(0,.int .i64 key),(1,.int .i64 V),(2,.int .i32 number),(3,.bool has),(4,.slice pi s.length ci),(5,.bool flex),(6,.slice pb body.length cb)] a:=hk
  have hm:Mem w0 Nob Y [.rep (ddBs s) [.slice pi s.length ci],.rep (ddBs body) [.slice pb body.length cb]] w0:=Mem.start rfl (by simp only [List.forall_mem_cons,List.not_mem_nil,false_imp_iff,implies_true,and_true]; exact ⟨hI,hB⟩)
  refine cR0 ?_
  refine oA0 hk rfl rfl fun a hk=>?_
  refine cE0 ?_
  refine cR0 ?_
  refine oM0 hk rfl rfl fun a hk=>?_
  refine o_call hk cb_34 (fixed_c (Y:=Y) key 2 (by omega)) ⟨rfl,rfl,trivial⟩ rfl fun v1 w a hR hk=>?_
  have hm:=hm.rowNew hR
  refine oM0 hk rfl rfl fun a hk=>?_
  refine o_call hk cb_34 (fixed_c (Y:=Y) V 2 (by omega)) ⟨rfl,rfl,trivial⟩ rfl fun v2 w a hR hk=>?_
  have hm:=hm.rowNew hR
  refine o_append (i:=1) hk hm rt_24 rfl rfl rfl (src_row te_24 (hm.row (i:=0) rfl) (bv_one _)) (room_len (by simp only [List.length_append,List.length_nil,fixed_length,List.length_singleton]; omega)) (room_by (by simp only [List.length_append,List.length_nil,fixed_length,List.length_singleton]; omega)) rfl fun a v3 w hk hm _=>?_
  have hm:=hm.tail
  refine oA0 hk rfl rfl fun a hk=>?_
  refine cE0 ?_
  refine cR0 ?_
  refine oM0 hk rfl rfl fun a hk=>?_
  refine oM0 hk rfl rfl fun a hk=>?_
  refine o_convInt (c:=number) hk un_21 ti_2 rfl (by have:=hN; simp only [IntKind.wrap,IntKind.bits,IntKind.signed] at this ⊢; simp at this ⊢; omega) rfl fun a hk=>?_
  refine o_call hk cb_34 (fixed_c (Y:=Y) number 4 (by omega)) ⟨rfl,rfl,trivial⟩ rfl fun v4 w a hR hk=>?_
  have hm:=hm.rowNew hR
  refine o_append (i:=1) hk hm rt_24 rfl rfl rfl (src_row te_24 (hm.row (i:=0) rfl) (bv_one _)) (room_len (by simp only [List.length_append,List.length_nil,fixed_length,List.length_singleton]; omega)) (room_by (by simp only [List.length_append,List.length_nil,fixed_length,List.length_singleton]; omega)) rfl fun a v5 w hk hm _=>?_
  have hm:=hm.tail
  refine oA0 hk rfl rfl fun a hk=>?_
  refine cE0 ?_
  refine wp_seq ?_
  refine cR0 ?_
  refine oM0 hk rfl rfl fun a hk=>?_
  refine cE0 ?_
  cases has with
  | true =>
    refine c_condT hk rfl ?_
    refine c_reg ?_
    refine oM0 hk rfl rfl fun a hk=>?_
    refine oM0 hk rfl rfl fun a hk=>?_
    refine oL0 hk te_24 rfl rfl fun a hk=>?_
    refine o_call hk cb_34 (fixed_c (Y:=Y) (s.length:Int) 2 (by omega)) ⟨rfl,rfl,trivial⟩ rfl fun v6 w a hR hk=>?_
    have hm:=hm.rowNew hR
    refine o_append (i:=1) hk hm rt_24 rfl rfl rfl (src_row te_24 (hm.row (i:=0) rfl) (bv_one _)) (room_len (by simp only [List.length_append,List.length_nil,fixed_length,List.length_singleton]; omega)) (room_by (by simp only [List.length_append,List.length_nil,fixed_length,List.length_singleton]; omega)) rfl fun a v7 w hk hm _=>?_
    have hm:=hm.tail
    refine oM0 hk rfl rfl fun a hk=>?_
    refine o_append (i:=0) hk hm rt_24 rfl rfl rfl (src_bs te_24 (hm.rep (i:=1) rfl)) (room_len (by simp only [List.length_append,List.length_nil,fixed_length,List.length_singleton]; omega)) (room_by (by simp only [List.length_append,List.length_nil,fixed_length,List.length_singleton]; omega)) rfl fun a v7b w hk hm _=>?_
    refine oA0 hk rfl rfl fun a hk=>?_
    refine c_endQ ?_
    refine cT0 ?_
    refine wp_seq ?_
    refine cR0 ?_
    refine oM0 hk rfl rfl fun a hk=>?_
    refine cE0 ?_
    cases flex with
    | true =>
      refine c_condT hk rfl ?_
      refine c_reg ?_
      refine oM0 hk rfl rfl fun a hk=>?_
      refine o_buildSlice (r:=[.int .u8 0]) hk hm rt_24 tz_5 rfl rfl rfl ⟨_,_,_,rfl,rfl,rfl,rfl,rfl⟩ rfl fun a b2 w hk hm=>?_
      refine o_append (i:=1) hk hm rt_24 rfl rfl rfl (src_cells (k:=1) (news:=[.int .u8 0]) te_24 rfl (hm.cells_blk (i:=0) rfl rfl) rfl) (room_len (by simp only [List.length_append,List.length_nil,fixed_length,List.length_singleton]; omega)) (room_by (by simp only [List.length_append,List.length_nil,fixed_length,List.length_singleton]; omega)) rfl fun a v8 w hk hm _=>?_
      have hm:=hm.tail
      refine oA0 hk rfl rfl fun a hk=>?_
      refine c_endQ ?_
      refine cT0 ?_
      refine cR0 ?_
      refine oM0 hk rfl rfl fun a hk=>?_
      refine oM0 hk rfl rfl fun a hk=>?_
      refine o_append (i:=0) hk hm rt_24 rfl rfl rfl (src_bs te_24 (hm.rep (i:=2) rfl)) (room_len (by simp only [List.length_append,List.length_nil,fixed_length,List.length_singleton]; omega)) (room_by (by simp only [List.length_append,List.length_nil,fixed_length,List.length_singleton]; omega)) rfl fun a v9 w hk hm _=>?_
      refine oA0 hk rfl rfl fun a hk=>?_
      refine cE0 ?_
      have hm:=hm.rowEq (i:=0) (n':=(headP key V number false s true ++ body).length) (xs':=bv (headP key V number false s true ++ body)) rfl (by unfold headP counted; simp only [List.length_append,fixed_length,List.length_singleton,List.length_nil,if_true,Bool.false_eq_true,if_false,Bool.false_and] <;> omega) (by unfold headP counted; simp only [bv_append,bv_zero1,bv_nil0,List.append_assoc,List.append_nil,List.nil_append,if_true,Bool.false_eq_true,if_false,Bool.false_and])
      have hl9:(headP key V number false s true ++ body).length = 10 + s.length * 1 + 1 + body.length:=by rw [List.length_append,head_len]; try simp
      refine cR0 ?_
      refine oM0 hk rfl rfl fun a hk=>?_
      obtain ⟨p9,c9,rfl⟩:=row_form (hm.row (i:=0) rfl)
      refine oL0 hk te_24 rfl rfl fun a hk=>?_
      refine o_call hk cb_34 (fixed_c (Y:=Y) (((headP key V number false s true ++ body).length:Nat):Int) 4 (by omega)) ⟨rfl,rfl,trivial⟩ rfl fun v10 w a hR hk=>?_
      have hm:=hm.rowNew hR
      refine oM0 hk rfl rfl fun a hk=>?_
      refine o_append (i:=0) hk hm rt_24 rfl rfl rfl (src_row te_24 (hm.row (i:=1) rfl) (bv_one _)) (room_len (by rw [fixed_length,hl9]; omega)) (room_by (by rw [fixed_length,hl9]; omega)) rfl fun a v11 w hk hm _=>?_
      refine oA0 hk rfl rfl fun a hk=>?_
      refine cE0 ?_
      refine wp_ret ?_
      refine bT0 rfl hk rfl ?_
      refine (hm.rowEq (i:=0) rfl ?_ ?_).rowOut (i:=0) rfl
      · show _ = (frameP key V number false s true body).length
        unfold frameP; simp only [List.length_append]
      · show _ = bv (frameP key V number false s true body)
        unfold frameP; simp only [bv_append]
    | false =>
      refine c_condF hk rfl ?_
      refine wp_skip ?_
      refine cT0 ?_
      refine cR0 ?_
      refine oM0 hk rfl rfl fun a hk=>?_
      refine oM0 hk rfl rfl fun a hk=>?_
      refine o_append (i:=0) hk hm rt_24 rfl rfl rfl (src_bs te_24 (hm.rep (i:=2) rfl)) (room_len (by simp only [List.length_append,List.length_nil,fixed_length,List.length_singleton]; omega)) (room_by (by simp only [List.length_append,List.length_nil,fixed_length,List.length_singleton]; omega)) rfl fun a v9 w hk hm _=>?_
      refine oA0 hk rfl rfl fun a hk=>?_
      refine cE0 ?_
      have hm:=hm.rowEq (i:=0) (n':=(headP key V number false s false ++ body).length) (xs':=bv (headP key V number false s false ++ body)) rfl (by unfold headP counted; simp only [List.length_append,fixed_length,List.length_singleton,List.length_nil,if_true,Bool.false_eq_true,if_false,Bool.false_and] <;> omega) (by unfold headP counted; simp only [bv_append,bv_zero1,bv_nil0,List.append_assoc,List.append_nil,List.nil_append,if_true,Bool.false_eq_true,if_false,Bool.false_and])
      have hl9:(headP key V number false s false ++ body).length = 10 + s.length * 1 + 0 + body.length:=by rw [List.length_append,head_len]; try simp
      refine cR0 ?_
      refine oM0 hk rfl rfl fun a hk=>?_
      obtain ⟨p9,c9,rfl⟩:=row_form (hm.row (i:=0) rfl)
      refine oL0 hk te_24 rfl rfl fun a hk=>?_
      refine o_call hk cb_34 (fixed_c (Y:=Y) (((headP key V number false s false ++ body).length:Nat):Int) 4 (by omega)) ⟨rfl,rfl,trivial⟩ rfl fun v10 w a hR hk=>?_
      have hm:=hm.rowNew hR
      refine oM0 hk rfl rfl fun a hk=>?_
      refine o_append (i:=0) hk hm rt_24 rfl rfl rfl (src_row te_24 (hm.row (i:=1) rfl) (bv_one _)) (room_len (by rw [fixed_length,hl9]; omega)) (room_by (by rw [fixed_length,hl9]; omega)) rfl fun a v11 w hk hm _=>?_
      refine oA0 hk rfl rfl fun a hk=>?_
      refine cE0 ?_
      refine wp_ret ?_
      refine bT0 rfl hk rfl ?_
      refine (hm.rowEq (i:=0) rfl ?_ ?_).rowOut (i:=0) rfl
      · show _ = (frameP key V number false s false body).length
        unfold frameP; simp only [List.length_append]
      · show _ = bv (frameP key V number false s false body)
        unfold frameP; simp only [bv_append]
  | false =>
    refine c_condF hk rfl ?_
    refine c_reg ?_
    refine oM0 hk rfl rfl fun a hk=>?_
    refine o_call hk cb_34 (fixed_c (Y:=Y) (-1) 2 (by omega)) ⟨rfl,rfl,trivial⟩ rfl fun v6 w a hR hk=>?_
    have hm:=hm.rowNew hR
    refine o_append (i:=1) hk hm rt_24 rfl rfl rfl (src_row te_24 (hm.row (i:=0) rfl) (bv_one _)) (room_len (by simp only [List.length_append,List.length_nil,fixed_length,List.length_singleton]; omega)) (room_by (by simp only [List.length_append,List.length_nil,fixed_length,List.length_singleton]; omega)) rfl fun a v7 w hk hm _=>?_
    have hm:=hm.tail
    refine oA0 hk rfl rfl fun a hk=>?_
    refine c_endQ ?_
    refine cT0 ?_
    refine wp_seq ?_
    refine cR0 ?_
    refine oM0 hk rfl rfl fun a hk=>?_
    refine cE0 ?_
    cases flex with
    | true =>
      refine c_condT hk rfl ?_
      refine c_reg ?_
      refine oM0 hk rfl rfl fun a hk=>?_
      refine o_buildSlice (r:=[.int .u8 0]) hk hm rt_24 tz_5 rfl rfl rfl ⟨_,_,_,rfl,rfl,rfl,rfl,rfl⟩ rfl fun a b2 w hk hm=>?_
      refine o_append (i:=1) hk hm rt_24 rfl rfl rfl (src_cells (k:=1) (news:=[.int .u8 0]) te_24 rfl (hm.cells_blk (i:=0) rfl rfl) rfl) (room_len (by simp only [List.length_append,List.length_nil,fixed_length,List.length_singleton]; omega)) (room_by (by simp only [List.length_append,List.length_nil,fixed_length,List.length_singleton]; omega)) rfl fun a v8 w hk hm _=>?_
      have hm:=hm.tail
      refine oA0 hk rfl rfl fun a hk=>?_
      refine c_endQ ?_
      refine cT0 ?_
      refine cR0 ?_
      refine oM0 hk rfl rfl fun a hk=>?_
      refine oM0 hk rfl rfl fun a hk=>?_
      refine o_append (i:=0) hk hm rt_24 rfl rfl rfl (src_bs te_24 (hm.rep (i:=2) rfl)) (room_len (by simp only [List.length_append,List.length_nil,fixed_length,List.length_singleton]; omega)) (room_by (by simp only [List.length_append,List.length_nil,fixed_length,List.length_singleton]; omega)) rfl fun a v9 w hk hm _=>?_
      refine oA0 hk rfl rfl fun a hk=>?_
      refine cE0 ?_
      have hm:=hm.rowEq (i:=0) (n':=(headP key V number true [] true ++ body).length) (xs':=bv (headP key V number true [] true ++ body)) rfl (by unfold headP counted; simp only [List.length_append,fixed_length,List.length_singleton,List.length_nil,if_true,Bool.false_eq_true,if_false,Bool.false_and] <;> omega) (by unfold headP counted; simp only [bv_append,bv_zero1,bv_nil0,List.append_assoc,List.append_nil,List.nil_append,if_true,Bool.false_eq_true,if_false,Bool.false_and])
      have hl9:(headP key V number true [] true ++ body).length = 10 + s.length * 0 + 1 + body.length:=by rw [List.length_append,head_len]; try simp
      refine cR0 ?_
      refine oM0 hk rfl rfl fun a hk=>?_
      obtain ⟨p9,c9,rfl⟩:=row_form (hm.row (i:=0) rfl)
      refine oL0 hk te_24 rfl rfl fun a hk=>?_
      refine o_call hk cb_34 (fixed_c (Y:=Y) (((headP key V number true [] true ++ body).length:Nat):Int) 4 (by omega)) ⟨rfl,rfl,trivial⟩ rfl fun v10 w a hR hk=>?_
      have hm:=hm.rowNew hR
      refine oM0 hk rfl rfl fun a hk=>?_
      refine o_append (i:=0) hk hm rt_24 rfl rfl rfl (src_row te_24 (hm.row (i:=1) rfl) (bv_one _)) (room_len (by rw [fixed_length,hl9]; omega)) (room_by (by rw [fixed_length,hl9]; omega)) rfl fun a v11 w hk hm _=>?_
      refine oA0 hk rfl rfl fun a hk=>?_
      refine cE0 ?_
      refine wp_ret ?_
      refine bT0 rfl hk rfl ?_
      refine (hm.rowEq (i:=0) rfl ?_ ?_).rowOut (i:=0) rfl
      · show _ = (frameP key V number true [] true body).length
        unfold frameP; simp only [List.length_append]
      · show _ = bv (frameP key V number true [] true body)
        unfold frameP; simp only [bv_append]
    | false =>
      refine c_condF hk rfl ?_
      refine wp_skip ?_
      refine cT0 ?_
      refine cR0 ?_
      refine oM0 hk rfl rfl fun a hk=>?_
      refine oM0 hk rfl rfl fun a hk=>?_
      refine o_append (i:=0) hk hm rt_24 rfl rfl rfl (src_bs te_24 (hm.rep (i:=2) rfl)) (room_len (by simp only [List.length_append,List.length_nil,fixed_length,List.length_singleton]; omega)) (room_by (by simp only [List.length_append,List.length_nil,fixed_length,List.length_singleton]; omega)) rfl fun a v9 w hk hm _=>?_
      refine oA0 hk rfl rfl fun a hk=>?_
      refine cE0 ?_
      have hm:=hm.rowEq (i:=0) (n':=(headP key V number true [] false ++ body).length) (xs':=bv (headP key V number true [] false ++ body)) rfl (by unfold headP counted; simp only [List.length_append,fixed_length,List.length_singleton,List.length_nil,if_true,Bool.false_eq_true,if_false,Bool.false_and] <;> omega) (by unfold headP counted; simp only [bv_append,bv_zero1,bv_nil0,List.append_assoc,List.append_nil,List.nil_append,if_true,Bool.false_eq_true,if_false,Bool.false_and])
      have hl9:(headP key V number true [] false ++ body).length = 10 + s.length * 0 + 0 + body.length:=by rw [List.length_append,head_len]; try simp
      refine cR0 ?_
      refine oM0 hk rfl rfl fun a hk=>?_
      obtain ⟨p9,c9,rfl⟩:=row_form (hm.row (i:=0) rfl)
      refine oL0 hk te_24 rfl rfl fun a hk=>?_
      refine o_call hk cb_34 (fixed_c (Y:=Y) (((headP key V number true [] false ++ body).length:Nat):Int) 4 (by omega)) ⟨rfl,rfl,trivial⟩ rfl fun v10 w a hR hk=>?_
      have hm:=hm.rowNew hR
      refine oM0 hk rfl rfl fun a hk=>?_
      refine o_append (i:=0) hk hm rt_24 rfl rfl rfl (src_row te_24 (hm.row (i:=1) rfl) (bv_one _)) (room_len (by rw [fixed_length,hl9]; omega)) (room_by (by rw [fixed_length,hl9]; omega)) rfl fun a v11 w hk hm _=>?_
      refine oA0 hk rfl rfl fun a hk=>?_
      refine cE0 ?_
      refine wp_ret ?_
      refine bT0 rfl hk rfl ?_
      refine (hm.rowEq (i:=0) rfl ?_ ?_).rowOut (i:=0) rfl
      · show _ = (frameP key V number true [] false body).length
        unfold frameP; simp only [List.length_append]
      · show _ = bv (frameP key V number true [] false body)
        unfold frameP; simp only [bv_append]
end Go.Proofs.YthblgheenamnhaaGreatDoorR
