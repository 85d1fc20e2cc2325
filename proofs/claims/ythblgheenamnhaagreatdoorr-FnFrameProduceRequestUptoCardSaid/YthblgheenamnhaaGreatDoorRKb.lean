/- Walks of functions that the laws of this seat reach. No statement of the seat stands here. -/
import Derived.Test.YthblgheenamnhaaGreatDoorRL4
import Derived.Test.YthblgheenamnhaaGreatDoorRRows
import Derived.Test.YthblgheenamnhaaGreatDoorRFa
namespace Go.Proofs.YthblgheenamnhaaGreatDoorR
open Go Go.Mk
theorem appendUint16_c {w0:World} {v:Value} {n:Nat} {xs:List Value} (hrow:w0.ownsRow 0 5 1 v n xs) (i:Int) (hroom:n + 2 ≤ room):Puts Tryz.prog 5 120 [v,.int .u16 i] v n xs (fixed i 2) w0:=by
  refine c_call Tryz.func120 rfl rfl fun a hk=>?_
  have hk:Kn 13 [(0,v),(1,.int .u16 i)] a:=hk
  have hm:Mem w0 (fun k=>v.ownBlock = some k) (fun k=>v.ownBlock = some k) [.row 5 1 v n xs] w0:=Mem.startRow hrow (fun _ h=>h) rfl (by simp only [List.not_mem_nil,false_imp_iff,implies_true])
  refine cR0 ?_
  refine oA0 hk rfl rfl fun a hk=>?_
  refine cE0 ?_
  refine cR0 ?_
  refine oM0 hk rfl rfl fun a hk=>?_
  refine oM0 hk rfl rfl fun a hk=>?_
  refine o_shr (s:=8) (c:=i / 2 ^ 8) hk rfl rfl rfl rfl fun a hk=>?_
  refine o_convInt (c:=IntKind.u8.wrap (i / 2 ^ 8)) hk un_167 ti_5 rfl rfl rfl fun a hk=>?_
  refine oM0 hk rfl rfl fun a hk=>?_
  refine o_convInt (c:=IntKind.u8.wrap i) hk un_167 ti_5 rfl rfl rfl fun a hk=>?_
  refine o_buildSlice (r:=[.int .u8 (IntKind.u8.wrap (i / 2 ^ 8)),.int .u8 (IntKind.u8.wrap i)]) hk hm rt_24 tz_5 rfl rfl rfl ⟨_,_,_,rfl,rfl,rfl,rfl,_,_,_,rfl,rfl,rfl,rfl,rfl⟩ rfl fun a b1 w hk hm=>?_
  refine o_append (i:=1) hk hm rt_24 rfl rfl rfl (src_cells (k:=2) (news:=[.int .u8 (IntKind.u8.wrap (i / 2 ^ 8)),.int .u8 (IntKind.u8.wrap i)]) te_24 rfl (hm.cells_blk (i:=0) rfl rfl) rfl) (room_len (by omega)) (room_by (by omega)) rfl fun a v2 w hk hm hnilv2=>?_
  refine oA0 hk rfl rfl fun a hk=>?_
  refine cE0 ?_
  refine wp_ret ?_
  refine bT0 rfl hk rfl ?_
  have hr:=hm.rowTo (i:=1) rfl
  rw [fixed_length,bv_fixed2]; exact hr
theorem appendUint32_c {w0:World} {v:Value} {n:Nat} {xs:List Value} (hrow:w0.ownsRow 0 5 1 v n xs) (i:Int) (hroom:n + 4 ≤ room):Puts Tryz.prog 5 121 [v,.int .u32 i] v n xs (fixed i 4) w0:=by
  refine c_call Tryz.func121 rfl rfl fun a hk=>?_
  have hk:Kn 19 [(0,v),(1,.int .u32 i)] a:=hk
  have hm:Mem w0 (fun k=>v.ownBlock = some k) (fun k=>v.ownBlock = some k) [.row 5 1 v n xs] w0:=Mem.startRow hrow (fun _ h=>h) rfl (by simp only [List.not_mem_nil,false_imp_iff,implies_true])
  refine cR0 ?_
  refine oA0 hk rfl rfl fun a hk=>?_
  refine cE0 ?_
  refine cR0 ?_
  refine oM0 hk rfl rfl fun a hk=>?_
  refine oM0 hk rfl rfl fun a hk=>?_
  refine o_shr (s:=24) (c:=i / 2 ^ 24) hk rfl rfl rfl rfl fun a hk=>?_
  refine o_convInt (c:=IntKind.u8.wrap (i / 2 ^ 24)) hk un_65 ti_5 rfl rfl rfl fun a hk=>?_
  refine oM0 hk rfl rfl fun a hk=>?_
  refine o_shr (s:=16) (c:=i / 2 ^ 16) hk rfl rfl rfl rfl fun a hk=>?_
  refine o_convInt (c:=IntKind.u8.wrap (i / 2 ^ 16)) hk un_65 ti_5 rfl rfl rfl fun a hk=>?_
  refine oM0 hk rfl rfl fun a hk=>?_
  refine o_shr (s:=8) (c:=i / 2 ^ 8) hk rfl rfl rfl rfl fun a hk=>?_
  refine o_convInt (c:=IntKind.u8.wrap (i / 2 ^ 8)) hk un_65 ti_5 rfl rfl rfl fun a hk=>?_
  refine oM0 hk rfl rfl fun a hk=>?_
  refine o_convInt (c:=IntKind.u8.wrap i) hk un_65 ti_5 rfl rfl rfl fun a hk=>?_
  refine o_buildSlice (r:=[.int .u8 (IntKind.u8.wrap (i / 2 ^ 24)),.int .u8 (IntKind.u8.wrap (i / 2 ^ 16)),.int .u8 (IntKind.u8.wrap (i / 2 ^ 8)),.int .u8 (IntKind.u8.wrap i)]) hk hm rt_24 tz_5 rfl rfl rfl ⟨_,_,_,rfl,rfl,rfl,rfl,_,_,_,rfl,rfl,rfl,rfl,_,_,_,rfl,rfl,rfl,rfl,_,_,_,rfl,rfl,rfl,rfl,rfl⟩ rfl fun a b1 w hk hm=>?_
  refine o_append (i:=1) hk hm rt_24 rfl rfl rfl (src_cells (k:=4) (news:=[.int .u8 (IntKind.u8.wrap (i / 2 ^ 24)),.int .u8 (IntKind.u8.wrap (i / 2 ^ 16)),.int .u8 (IntKind.u8.wrap (i / 2 ^ 8)),.int .u8 (IntKind.u8.wrap i)]) te_24 rfl (hm.cells_blk (i:=0) rfl rfl) rfl) (room_len (by omega)) (room_by (by omega)) rfl fun a v2 w hk hm hnilv2=>?_
  refine oA0 hk rfl rfl fun a hk=>?_
  refine cE0 ?_
  refine wp_ret ?_
  refine bT0 rfl hk rfl ?_
  have hr:=hm.rowTo (i:=1) rfl
  rw [fixed_length,bv_fixed4]; exact hr
theorem appendUint64_c {w0:World} {v:Value} {n:Nat} {xs:List Value} (hrow:w0.ownsRow 0 5 1 v n xs) (i:Int) (hroom:n + 8 ≤ room):Puts Tryz.prog 5 154 [v,.int .u64 i] v n xs (fixed i 8) w0:=by
  refine c_call Tryz.func154 rfl rfl fun a hk=>?_
  have hk:Kn 31 [(0,v),(1,.int .u64 i)] a:=hk
  have hm:Mem w0 (fun k=>v.ownBlock = some k) (fun k=>v.ownBlock = some k) [.row 5 1 v n xs] w0:=Mem.startRow hrow (fun _ h=>h) rfl (by simp only [List.not_mem_nil,false_imp_iff,implies_true])
  refine cR0 ?_
  refine oA0 hk rfl rfl fun a hk=>?_
  refine cE0 ?_
  refine cR0 ?_
  refine oM0 hk rfl rfl fun a hk=>?_
  refine oM0 hk rfl rfl fun a hk=>?_
  refine o_shr (s:=56) (c:=i / 2 ^ 56) hk rfl rfl rfl rfl fun a hk=>?_
  refine o_convInt (c:=IntKind.u8.wrap (i / 2 ^ 56)) hk un_80 ti_5 rfl rfl rfl fun a hk=>?_
  refine oM0 hk rfl rfl fun a hk=>?_
  refine o_shr (s:=48) (c:=i / 2 ^ 48) hk rfl rfl rfl rfl fun a hk=>?_
  refine o_convInt (c:=IntKind.u8.wrap (i / 2 ^ 48)) hk un_80 ti_5 rfl rfl rfl fun a hk=>?_
  refine oM0 hk rfl rfl fun a hk=>?_
  refine o_shr (s:=40) (c:=i / 2 ^ 40) hk rfl rfl rfl rfl fun a hk=>?_
  refine o_convInt (c:=IntKind.u8.wrap (i / 2 ^ 40)) hk un_80 ti_5 rfl rfl rfl fun a hk=>?_
  refine oM0 hk rfl rfl fun a hk=>?_
  refine o_shr (s:=32) (c:=i / 2 ^ 32) hk rfl rfl rfl rfl fun a hk=>?_
  refine o_convInt (c:=IntKind.u8.wrap (i / 2 ^ 32)) hk un_80 ti_5 rfl rfl rfl fun a hk=>?_
  refine oM0 hk rfl rfl fun a hk=>?_
  refine o_shr (s:=24) (c:=i / 2 ^ 24) hk rfl rfl rfl rfl fun a hk=>?_
  refine o_convInt (c:=IntKind.u8.wrap (i / 2 ^ 24)) hk un_80 ti_5 rfl rfl rfl fun a hk=>?_
  refine oM0 hk rfl rfl fun a hk=>?_
  refine o_shr (s:=16) (c:=i / 2 ^ 16) hk rfl rfl rfl rfl fun a hk=>?_
  refine o_convInt (c:=IntKind.u8.wrap (i / 2 ^ 16)) hk un_80 ti_5 rfl rfl rfl fun a hk=>?_
  refine oM0 hk rfl rfl fun a hk=>?_
  refine o_shr (s:=8) (c:=i / 2 ^ 8) hk rfl rfl rfl rfl fun a hk=>?_
  refine o_convInt (c:=IntKind.u8.wrap (i / 2 ^ 8)) hk un_80 ti_5 rfl rfl rfl fun a hk=>?_
  refine oM0 hk rfl rfl fun a hk=>?_
  refine o_convInt (c:=IntKind.u8.wrap i) hk un_80 ti_5 rfl rfl rfl fun a hk=>?_
  refine o_buildSlice (r:=[.int .u8 (IntKind.u8.wrap (i / 2 ^ 56)),.int .u8 (IntKind.u8.wrap (i / 2 ^ 48)),.int .u8 (IntKind.u8.wrap (i / 2 ^ 40)),.int .u8 (IntKind.u8.wrap (i / 2 ^ 32)),.int .u8 (IntKind.u8.wrap (i / 2 ^ 24)),.int .u8 (IntKind.u8.wrap (i / 2 ^ 16)),.int .u8 (IntKind.u8.wrap (i / 2 ^ 8)),.int .u8 (IntKind.u8.wrap i)]) hk hm rt_24 tz_5 rfl rfl rfl ⟨_,_,_,rfl,rfl,rfl,rfl,_,_,_,rfl,rfl,rfl,rfl,_,_,_,rfl,rfl,rfl,rfl,_,_,_,rfl,rfl,rfl,rfl,_,_,_,rfl,rfl,rfl,rfl,_,_,_,rfl,rfl,rfl,rfl,_,_,_,rfl,rfl,rfl,rfl,_,_,_,rfl,rfl,rfl,rfl,rfl⟩ rfl fun a b1 w hk hm=>?_
  refine o_append (i:=1) hk hm rt_24 rfl rfl rfl (src_cells (k:=8) (news:=[.int .u8 (IntKind.u8.wrap (i / 2 ^ 56)),.int .u8 (IntKind.u8.wrap (i / 2 ^ 48)),.int .u8 (IntKind.u8.wrap (i / 2 ^ 40)),.int .u8 (IntKind.u8.wrap (i / 2 ^ 32)),.int .u8 (IntKind.u8.wrap (i / 2 ^ 24)),.int .u8 (IntKind.u8.wrap (i / 2 ^ 16)),.int .u8 (IntKind.u8.wrap (i / 2 ^ 8)),.int .u8 (IntKind.u8.wrap i)]) te_24 rfl (hm.cells_blk (i:=0) rfl rfl) rfl) (room_len (by omega)) (room_by (by omega)) rfl fun a v2 w hk hm hnilv2=>?_
  refine oA0 hk rfl rfl fun a hk=>?_
  refine cE0 ?_
  refine wp_ret ?_
  refine bT0 rfl hk rfl ?_
  have hr:=hm.rowTo (i:=1) rfl
  rw [fixed_length,bv_fixed8]; exact hr
theorem appendInt16_c {w0:World} {v:Value} {n:Nat} {xs:List Value} (hrow:w0.ownsRow 0 5 1 v n xs) (i:Int) (hroom:n + 2 ≤ room):Puts Tryz.prog 5 97 [v,.int .i16 i] v n xs (fixed i 2) w0:=by
  refine c_call Tryz.func97 rfl rfl fun a hk=>?_
  have hk:Kn 9 [(0,v),(1,.int .i16 i)] a:=hk
  have hm:Mem w0 (fun k=>v.ownBlock = some k) (fun k=>v.ownBlock = some k) [.row 5 1 v n xs] w0:=Mem.startRow hrow (fun _ h=>h) rfl (by simp only [List.not_mem_nil,false_imp_iff,implies_true])
  refine cR0 ?_
  refine oA0 hk rfl rfl fun a hk=>?_
  refine cE0 ?_
  refine cR0 ?_
  refine oM0 hk rfl rfl fun a hk=>?_
  refine oM0 hk rfl rfl fun a hk=>?_
  refine o_convInt (c:=IntKind.u16.wrap i) hk un_45 ti_167 rfl rfl rfl fun a hk=>?_
  refine o_call hk cb_120 (appendUint16_c (hm.row (i:=0) rfl) (IntKind.u16.wrap i) (by omega)) ⟨rfl,rfl,trivial⟩ rfl fun v1 w a hR hk=>?_
  have hm:=hm.rowCall (i:=0) rfl hR
  refine oA0 hk rfl rfl fun a hk=>?_
  refine cE0 ?_
  refine wp_ret ?_
  refine bT0 rfl hk rfl ?_
  have hr:=hm.rowTo (i:=0) rfl
  rw [fixed_length] at hr ⊢; rw [fixed_u16] at hr; exact hr
theorem appendInt32_c {w0:World} {v:Value} {n:Nat} {xs:List Value} (hrow:w0.ownsRow 0 5 1 v n xs) (i:Int) (hroom:n + 4 ≤ room):Puts Tryz.prog 5 98 [v,.int .i32 i] v n xs (fixed i 4) w0:=by
  refine c_call Tryz.func98 rfl rfl fun a hk=>?_
  have hk:Kn 9 [(0,v),(1,.int .i32 i)] a:=hk
  have hm:Mem w0 (fun k=>v.ownBlock = some k) (fun k=>v.ownBlock = some k) [.row 5 1 v n xs] w0:=Mem.startRow hrow (fun _ h=>h) rfl (by simp only [List.not_mem_nil,false_imp_iff,implies_true])
  refine cR0 ?_
  refine oA0 hk rfl rfl fun a hk=>?_
  refine cE0 ?_
  refine cR0 ?_
  refine oM0 hk rfl rfl fun a hk=>?_
  refine oM0 hk rfl rfl fun a hk=>?_
  refine o_convInt (c:=IntKind.u32.wrap i) hk un_21 ti_65 rfl rfl rfl fun a hk=>?_
  refine o_call hk cb_121 (appendUint32_c (hm.row (i:=0) rfl) (IntKind.u32.wrap i) (by omega)) ⟨rfl,rfl,trivial⟩ rfl fun v1 w a hR hk=>?_
  have hm:=hm.rowCall (i:=0) rfl hR
  refine oA0 hk rfl rfl fun a hk=>?_
  refine cE0 ?_
  refine wp_ret ?_
  refine bT0 rfl hk rfl ?_
  have hr:=hm.rowTo (i:=0) rfl
  rw [fixed_length] at hr ⊢; rw [fixed_u32] at hr; exact hr
theorem appendInt64_c {w0:World} {v:Value} {n:Nat} {xs:List Value} (hrow:w0.ownsRow 0 5 1 v n xs) (i:Int) (hroom:n + 8 ≤ room):Puts Tryz.prog 5 149 [v,.int .i64 i] v n xs (fixed i 8) w0:=by
  refine c_call Tryz.func149 rfl rfl fun a hk=>?_
  have hk:Kn 9 [(0,v),(1,.int .i64 i)] a:=hk
  have hm:Mem w0 (fun k=>v.ownBlock = some k) (fun k=>v.ownBlock = some k) [.row 5 1 v n xs] w0:=Mem.startRow hrow (fun _ h=>h) rfl (by simp only [List.not_mem_nil,false_imp_iff,implies_true])
  refine cR0 ?_
  refine oA0 hk rfl rfl fun a hk=>?_
  refine cE0 ?_
  refine cR0 ?_
  refine oM0 hk rfl rfl fun a hk=>?_
  refine oM0 hk rfl rfl fun a hk=>?_
  refine o_convInt (c:=IntKind.u64.wrap i) hk un_2 ti_80 rfl rfl rfl fun a hk=>?_
  refine o_call hk cb_154 (appendUint64_c (hm.row (i:=0) rfl) (IntKind.u64.wrap i) (by omega)) ⟨rfl,rfl,trivial⟩ rfl fun v1 w a hR hk=>?_
  have hm:=hm.rowCall (i:=0) rfl hR
  refine oA0 hk rfl rfl fun a hk=>?_
  refine cE0 ?_
  refine wp_ret ?_
  refine bT0 rfl hk rfl ?_
  have hr:=hm.rowTo (i:=0) rfl
  rw [fixed_length] at hr ⊢; rw [fixed_u64] at hr; exact hr
theorem appendArrayLen_c {w0:World} {v:Value} {n:Nat} {xs:List Value} (hrow:w0.ownsRow 0 5 1 v n xs) (i:Int) (hroom:n + 4 ≤ room):Puts Tryz.prog 5 147 [v,.int .i64 i] v n xs (fixed i 4) w0:=by
  refine c_call Tryz.func147 rfl rfl fun a hk=>?_
  have hk:Kn 9 [(0,v),(1,.int .i64 i)] a:=hk
  have hm:Mem w0 (fun k=>v.ownBlock = some k) (fun k=>v.ownBlock = some k) [.row 5 1 v n xs] w0:=Mem.startRow hrow (fun _ h=>h) rfl (by simp only [List.not_mem_nil,false_imp_iff,implies_true])
  refine cR0 ?_
  refine oA0 hk rfl rfl fun a hk=>?_
  refine cE0 ?_
  refine cR0 ?_
  refine oM0 hk rfl rfl fun a hk=>?_
  refine oM0 hk rfl rfl fun a hk=>?_
  refine o_convInt (c:=IntKind.i32.wrap i) hk un_3 ti_21 rfl rfl rfl fun a hk=>?_
  refine o_call hk cb_98 (appendInt32_c (hm.row (i:=0) rfl) (IntKind.i32.wrap i) (by omega)) ⟨rfl,rfl,trivial⟩ rfl fun v1 w a hR hk=>?_
  have hm:=hm.rowCall (i:=0) rfl hR
  refine oA0 hk rfl rfl fun a hk=>?_
  refine cE0 ?_
  refine wp_ret ?_
  refine bT0 rfl hk rfl ?_
  have hr:=hm.rowTo (i:=0) rfl
  rw [fixed_length] at hr ⊢; rw [fixed_i32] at hr; exact hr
theorem appendString_c {w0:World} {v:Value} {n:Nat} {xs:List Value} (hrow:w0.ownsRow 0 5 1 v n xs) (s:List UInt8) (hroom:n + (2 + s.length) ≤ room):Puts Tryz.prog 5 122 [v,.string (bs s)] v n xs (fixed (s.length:Int) 2 ++ s) w0:=by
  refine c_call Tryz.func122 rfl rfl fun a hk=>?_
  have hk:Kn 13 [(0,v),(1,.string (bs s))] a:=hk
  have hm:Mem w0 (fun k=>v.ownBlock = some k) (fun k=>v.ownBlock = some k) [.row 5 1 v n xs] w0:=Mem.startRow hrow (fun _ h=>h) rfl (by simp only [List.not_mem_nil,false_imp_iff,implies_true])
  refine cR0 ?_
  refine oA0 hk rfl rfl fun a hk=>?_
  refine cE0 ?_
  refine cR0 ?_
  refine oM0 hk rfl rfl fun a hk=>?_
  refine oM0 hk rfl rfl fun a hk=>?_
  refine o_lenStr hk is_9 rfl rfl fun a hk=>?_
  refine o_convInt (c:=IntKind.i16.wrap ((bs s).size:Int)) hk un_3 ti_45 rfl rfl rfl fun a hk=>?_
  refine o_call hk cb_97 (appendInt16_c (hm.row (i:=0) rfl) (IntKind.i16.wrap ((bs s).size:Int)) (by omega)) ⟨rfl,rfl,trivial⟩ rfl fun v1 w a hR hk=>?_
  have hm:=hm.rowCall (i:=0) rfl hR
  refine oA0 hk rfl rfl fun a hk=>?_
  refine cE0 ?_
  refine cR0 ?_
  refine oM0 hk rfl rfl fun a hk=>?_
  refine oM0 hk rfl rfl fun a hk=>?_
  refine o_append (i:=0) hk hm rt_24 rfl rfl rfl (src_str is_9 (bs s)) (room_len (by simp only [bs_size,fixed_length]; omega)) (room_by (by simp only [bs_size,fixed_length]; omega)) rfl fun a v2 w hk hm hnilv2=>?_
  refine oA0 hk rfl rfl fun a hk=>?_
  refine cE0 ?_
  refine wp_ret ?_
  refine bT0 rfl hk rfl ?_
  have hr:=hm.rowTo (i:=0) rfl
  have e1:fixed (IntKind.i16.wrap ((bs s).size:Int)) 2 = fixed (s.length:Int) 2:=by rw [fixed_i16,bs_size]
  rw [byteCells_bs,e1,bs_size] at hr
  rw [List.length_append,bv_append,← Nat.add_assoc,← List.append_assoc]; exact hr
theorem len32_c (u:Nat) (hu:u < 4294967296) (w0:World):Ret Tryz.prog 158 [.int .u32 (u:Int)] w0 fun v w'=>v = .int .i64 ((bl32 u:Nat):Int) ∧ w' = w0:=by
  refine c_call Tryz.func158 rfl rfl fun a hk=>?_
  have hk:Kn 19 [(0,.int .u32 ((u:Nat):Int))] a:=hk
  refine cR0 ?_
  refine oA0 hk rfl rfl fun a hk=>?_
  refine cE0 ?_
  refine wp_seq ?_
  refine cR0 ?_
  refine oM0 hk rfl rfl fun a hk=>?_
  refine o_icmp hk rfl rfl rfl rfl fun a hk=>?_
  refine cE0 ?_
  refine c_cond hk rfl (fun hc=>?_) (fun hc=>?_)
  · simp only [decide_eq_true_eq,decide_eq_false_iff_not,beq_iff_eq,beq_eq_false_iff_ne,ne_eq] at hc
    refine cR0 ?_
    refine oM0 hk rfl rfl fun a hk=>?_
    refine o_shr (s:=16) (c:=((u / 65536:Nat):Int)) hk rfl rfl (shr_lit (by decide)) rfl fun a hk=>?_
    refine oA0 hk rfl rfl fun a hk=>?_
    refine cE0 ?_
    refine c_reg ?_
    refine oA0 hk rfl rfl fun a hk=>?_
    refine c_endQ ?_
    refine cT0 ?_
    refine wp_seq ?_
    refine cR0 ?_
    refine oM0 hk rfl rfl fun a hk=>?_
    refine o_icmp hk rfl rfl rfl rfl fun a hk=>?_
    refine cE0 ?_
    refine c_cond hk rfl (fun hc=>?_) (fun hc=>?_)
    · simp only [decide_eq_true_eq,decide_eq_false_iff_not,beq_iff_eq,beq_eq_false_iff_ne,ne_eq] at hc
      refine cR0 ?_
      refine oM0 hk rfl rfl fun a hk=>?_
      refine o_shr (s:=8) (c:=(((u / 65536) / 256:Nat):Int)) hk rfl rfl (shr_lit (by decide)) rfl fun a hk=>?_
      refine oA0 hk rfl rfl fun a hk=>?_
      refine cE0 ?_
      refine c_reg ?_
      refine oM0 hk rfl rfl fun a hk=>?_
      refine o_iarith (c:=((16 + 8:Nat):Int)) hk rfl rfl rfl (by rw [IntWalk.i64_in _ (by omega)]; omega) rfl fun a hk=>?_
      refine oA0 hk rfl rfl fun a hk=>?_
      refine c_endQ ?_
      refine cT0 ?_
      refine cR0 ?_
      refine oM0 hk rfl rfl fun a hk=>?_
      refine oM0 hk rfl rfl fun a hk=>?_
      refine o_convInt (c:=(((u / 65536) / 256:Nat):Int)) hk un_65 ti_5 rfl (by rw [IntKind.wrap_u8]; omega) rfl fun a hk=>?_
      refine o_indexTab (j:=((u / 65536) / 256)) (f:=bl8) hk is_9 rfl rfl (by omega) (by kernel_rfl) rfl fun a hk=>?_
      have hb8:=bl8_le (i:=(u / 65536) / 256)
      refine o_convInt (c:=((bl8 ((u / 65536) / 256):Nat):Int)) hk un_5 ti_3 rfl (IntWalk.i64_in _ (by omega)) rfl fun a hk=>?_
      refine o_iarith (c:=(((16 + 8) + (bl8 ((u / 65536) / 256)):Nat):Int)) hk rfl rfl rfl (by rw [IntWalk.i64_in _ (by omega)]; omega) rfl fun a hk=>?_
      refine oA0 hk rfl rfl fun a hk=>?_
      refine cE0 ?_
      refine wp_ret ?_
      refine bT0 rfl hk rfl ?_
      exact ⟨by rw [show bl32 u = (16 + 8) + (bl8 ((u / 65536) / 256)) by unfold bl32 bl16; (repeat' split) <;> omega],rfl⟩
    · simp only [decide_eq_true_eq,decide_eq_false_iff_not,beq_iff_eq,beq_eq_false_iff_ne,ne_eq] at hc
      refine wp_skip ?_
      refine cT0 ?_
      refine cR0 ?_
      refine oM0 hk rfl rfl fun a hk=>?_
      refine oM0 hk rfl rfl fun a hk=>?_
      refine o_convInt (c:=((u / 65536:Nat):Int)) hk un_65 ti_5 rfl (by rw [IntKind.wrap_u8]; omega) rfl fun a hk=>?_
      refine o_indexTab (j:=(u / 65536)) (f:=bl8) hk is_9 rfl rfl (by omega) (by kernel_rfl) rfl fun a hk=>?_
      have hb8:=bl8_le (i:=u / 65536)
      refine o_convInt (c:=((bl8 (u / 65536):Nat):Int)) hk un_5 ti_3 rfl (IntWalk.i64_in _ (by omega)) rfl fun a hk=>?_
      refine o_iarith (c:=((16 + (bl8 (u / 65536)):Nat):Int)) hk rfl rfl rfl (by rw [IntWalk.i64_in _ (by omega)]; omega) rfl fun a hk=>?_
      refine oA0 hk rfl rfl fun a hk=>?_
      refine cE0 ?_
      refine wp_ret ?_
      refine bT0 rfl hk rfl ?_
      exact ⟨by rw [show bl32 u = 16 + (bl8 (u / 65536)) by unfold bl32 bl16; (repeat' split) <;> omega],rfl⟩
  · simp only [decide_eq_true_eq,decide_eq_false_iff_not,beq_iff_eq,beq_eq_false_iff_ne,ne_eq] at hc
    refine wp_skip ?_
    refine cT0 ?_
    refine wp_seq ?_
    refine cR0 ?_
    refine oM0 hk rfl rfl fun a hk=>?_
    refine o_icmp hk rfl rfl rfl rfl fun a hk=>?_
    refine cE0 ?_
    refine c_cond hk rfl (fun hc=>?_) (fun hc=>?_)
    · simp only [decide_eq_true_eq,decide_eq_false_iff_not,beq_iff_eq,beq_eq_false_iff_ne,ne_eq] at hc
      refine cR0 ?_
      refine oM0 hk rfl rfl fun a hk=>?_
      refine o_shr (s:=8) (c:=((u / 256:Nat):Int)) hk rfl rfl (shr_lit (by decide)) rfl fun a hk=>?_
      refine oA0 hk rfl rfl fun a hk=>?_
      refine cE0 ?_
      refine c_reg ?_
      refine oM0 hk rfl rfl fun a hk=>?_
      refine o_iarith (c:=((0 + 8:Nat):Int)) hk rfl rfl rfl (by rw [IntWalk.i64_in _ (by omega)]; omega) rfl fun a hk=>?_
      refine oA0 hk rfl rfl fun a hk=>?_
      refine c_endQ ?_
      refine cT0 ?_
      refine cR0 ?_
      refine oM0 hk rfl rfl fun a hk=>?_
      refine oM0 hk rfl rfl fun a hk=>?_
      refine o_convInt (c:=((u / 256:Nat):Int)) hk un_65 ti_5 rfl (by rw [IntKind.wrap_u8]; omega) rfl fun a hk=>?_
      refine o_indexTab (j:=(u / 256)) (f:=bl8) hk is_9 rfl rfl (by omega) (by kernel_rfl) rfl fun a hk=>?_
      have hb8:=bl8_le (i:=u / 256)
      refine o_convInt (c:=((bl8 (u / 256):Nat):Int)) hk un_5 ti_3 rfl (IntWalk.i64_in _ (by omega)) rfl fun a hk=>?_
      refine o_iarith (c:=(((0 + 8) + (bl8 (u / 256)):Nat):Int)) hk rfl rfl rfl (by rw [IntWalk.i64_in _ (by omega)]; omega) rfl fun a hk=>?_
      refine oA0 hk rfl rfl fun a hk=>?_
      refine cE0 ?_
      refine wp_ret ?_
      refine bT0 rfl hk rfl ?_
      exact ⟨by rw [show bl32 u = (0 + 8) + (bl8 (u / 256)) by unfold bl32 bl16; (repeat' split) <;> omega],rfl⟩
    · simp only [decide_eq_true_eq,decide_eq_false_iff_not,beq_iff_eq,beq_eq_false_iff_ne,ne_eq] at hc
      refine wp_skip ?_
      refine cT0 ?_
      refine cR0 ?_
      refine oM0 hk rfl rfl fun a hk=>?_
      refine oM0 hk rfl rfl fun a hk=>?_
      refine o_convInt (c:=((u:Nat):Int)) hk un_65 ti_5 rfl (by rw [IntKind.wrap_u8]; omega) rfl fun a hk=>?_
      refine o_indexTab (j:=u) (f:=bl8) hk is_9 rfl rfl (by omega) (by kernel_rfl) rfl fun a hk=>?_
      have hb8:=bl8_le (i:=u)
      refine o_convInt (c:=((bl8 u:Nat):Int)) hk un_5 ti_3 rfl (IntWalk.i64_in _ (by omega)) rfl fun a hk=>?_
      refine o_iarith (c:=((0 + (bl8 u):Nat):Int)) hk rfl rfl rfl (by rw [IntWalk.i64_in _ (by omega)]; omega) rfl fun a hk=>?_
      refine oA0 hk rfl rfl fun a hk=>?_
      refine cE0 ?_
      refine wp_ret ?_
      refine bT0 rfl hk rfl ?_
      exact ⟨by rw [show bl32 u = 0 + (bl8 u) by unfold bl32 bl16; (repeat' split) <;> omega],rfl⟩
theorem uvarintLen_c (u:Nat) (hu:u < 4294967296) (w0:World):Ret Tryz.prog 155 [.int .u32 (u:Int)] w0 fun v w'=>v = .int .i64 ((uvLen u:Nat):Int) ∧ w' = w0:=by
  refine c_call Tryz.func155 rfl rfl fun a hk=>?_
  have hk:Kn 8 [(0,.int .u32 ((u:Nat):Int))] a:=hk
  have hb:=bl32_le (u:=u)
  have hg:=grp_uv hu
  have hgl:grp (bl32 u) < 256:=by rw [hg]; unfold uvLen; (repeat' split) <;> omega
  refine cR0 ?_
  refine oA0 hk rfl rfl fun a hk=>?_
  refine cE0 ?_
  refine cR0 ?_
  refine oM0 hk rfl rfl fun a hk=>?_
  refine o_call hk cb_158 (len32_c u hu w0) ⟨rfl,trivial⟩ rfl fun v w a hR hk=>?_
  obtain ⟨rfl,hw⟩:=hR
  obtain rfl:w0 = w:=hw.symm
  refine o_convInt (c:=((bl32 u:Nat):Int)) hk un_3 ti_5 rfl (by rw [IntKind.wrap_u8]; omega) rfl fun a hk=>?_
  refine o_indexTab (j:=(bl32 u)) (f:=grp) hk is_9 rfl rfl (by omega) (by kernel_rfl) rfl fun a hk=>?_
  refine o_convInt (c:=((grp (bl32 u):Nat):Int)) hk un_5 ti_3 rfl (IntWalk.i64_in _ (by omega)) rfl fun a hk=>?_
  refine oA0 hk rfl rfl fun a hk=>?_
  refine cE0 ?_
  refine wp_ret ?_
  refine bT0 rfl hk rfl ?_
  exact ⟨by rw [hg],rfl⟩
theorem appendUvarint_ok:Ea.Ok Tryz.prog 5 151 (.uv):=by
  intro w0 v n xs hrow u hu hroom
  have hl:=uvarint_len32 hu
  have hb:=bv_uvarint hu
  rw [hl] at hroom
  unfold uvLen at hroom hl
  unfold uvB at hb
  refine c_call Tryz.func151 rfl rfl fun a hk=>?_
  have hk:Kn 93 [(0,v),(1,.int .u32 ((u:Nat):Int))] a:=hk
  have hm:Mem w0 (fun k=>v.ownBlock = some k) (fun k=>v.ownBlock = some k) [.row 5 1 v n xs] w0:=Mem.startRow hrow (fun _ h=>h) rfl (by simp only [List.not_mem_nil,false_imp_iff,implies_true])
  refine cR0 ?_
  refine oA0 hk rfl rfl fun a hk=>?_
  refine cE0 ?_
  refine wp_seq ?_
  refine cR0 ?_
  refine oM0 hk rfl rfl fun a hk=>?_
  refine o_call hk cb_155 (uvarintLen_c u hu w0) ⟨rfl,trivial⟩ rfl fun v1 w a hR hk=>?_
  obtain ⟨rfl,hw⟩:=hR
  obtain rfl:w0 = w:=hw.symm
  refine cE0 ?_
  refine wp_block ?_
  refine cR0 ?_
  refine o_icmp hk rfl rfl rfl rfl fun a hk=>?_
  refine oA0 hk rfl rfl fun a hk=>?_
  refine cE0 ?_
  refine c_cond hk rfl (fun hc=>?_) (fun hc=>?_)
  · have hcu:=hc
    simp only [beq_iff_eq,beq_eq_false_iff_ne,ne_eq] at hcu
    unfold uvLen at hcu
    replace hcu : 268435456 ≤ u:=by (repeat' split at hcu) <;> omega
    refine cR0 ?_
    refine oM0 hk rfl rfl fun a hk=>?_
    refine oM0 hk rfl rfl fun a hk=>?_
    refine o_ibits (c:=((u % 128:Nat):Int)) hk rfl rfl (and127_u32 _ (by omega)) rfl fun a hk=>?_
    refine o_ibits (c:=(((u % 128) + 128:Nat):Int)) hk rfl rfl (or128_u32 _ (by omega)) rfl fun a hk=>?_
    refine o_convInt (c:=(((u % 128) + 128:Nat):Int)) hk un_65 ti_5 rfl (by rw [IntKind.wrap_u8]; omega) rfl fun a hk=>?_
    refine oM0 hk rfl rfl fun a hk=>?_
    refine o_shr (s:=7) (c:=((u / 128:Nat):Int)) hk rfl rfl (shr_lit (by decide)) rfl fun a hk=>?_
    refine o_ibits (c:=(((u / 128) % 128:Nat):Int)) hk rfl rfl (and127_u32 _ (by omega)) rfl fun a hk=>?_
    refine o_ibits (c:=((((u / 128) % 128) + 128:Nat):Int)) hk rfl rfl (or128_u32 _ (by omega)) rfl fun a hk=>?_
    refine o_convInt (c:=((((u / 128) % 128) + 128:Nat):Int)) hk un_65 ti_5 rfl (by rw [IntKind.wrap_u8]; omega) rfl fun a hk=>?_
    refine oM0 hk rfl rfl fun a hk=>?_
    refine o_shr (s:=14) (c:=((u / 16384:Nat):Int)) hk rfl rfl (shr_lit (by decide)) rfl fun a hk=>?_
    refine o_ibits (c:=(((u / 16384) % 128:Nat):Int)) hk rfl rfl (and127_u32 _ (by omega)) rfl fun a hk=>?_
    refine o_ibits (c:=((((u / 16384) % 128) + 128:Nat):Int)) hk rfl rfl (or128_u32 _ (by omega)) rfl fun a hk=>?_
    refine o_convInt (c:=((((u / 16384) % 128) + 128:Nat):Int)) hk un_65 ti_5 rfl (by rw [IntKind.wrap_u8]; omega) rfl fun a hk=>?_
    refine oM0 hk rfl rfl fun a hk=>?_
    refine o_shr (s:=21) (c:=((u / 2097152:Nat):Int)) hk rfl rfl (shr_lit (by decide)) rfl fun a hk=>?_
    refine o_ibits (c:=(((u / 2097152) % 128:Nat):Int)) hk rfl rfl (and127_u32 _ (by omega)) rfl fun a hk=>?_
    refine o_ibits (c:=((((u / 2097152) % 128) + 128:Nat):Int)) hk rfl rfl (or128_u32 _ (by omega)) rfl fun a hk=>?_
    refine o_convInt (c:=((((u / 2097152) % 128) + 128:Nat):Int)) hk un_65 ti_5 rfl (by rw [IntKind.wrap_u8]; omega) rfl fun a hk=>?_
    refine oM0 hk rfl rfl fun a hk=>?_
    refine o_shr (s:=28) (c:=((u / 268435456:Nat):Int)) hk rfl rfl (shr_lit (by decide)) rfl fun a hk=>?_
    refine o_convInt (c:=((u / 268435456:Nat):Int)) hk un_65 ti_5 rfl (by rw [IntKind.wrap_u8]; omega) rfl fun a hk=>?_
    refine o_buildSlice (r:=[.int .u8 (((u % 128) + 128:Nat):Int),.int .u8 ((((u / 128) % 128) + 128:Nat):Int),.int .u8 ((((u / 16384) % 128) + 128:Nat):Int),.int .u8 ((((u / 2097152) % 128) + 128:Nat):Int),.int .u8 ((u / 268435456:Nat):Int)]) hk hm rt_24 tz_5 rfl rfl rfl ⟨_,_,_,rfl,rfl,rfl,rfl,_,_,_,rfl,rfl,rfl,rfl,_,_,_,rfl,rfl,rfl,rfl,_,_,_,rfl,rfl,rfl,rfl,_,_,_,rfl,rfl,rfl,rfl,rfl⟩ rfl fun a b1 w hk hm=>?_
    refine o_append (i:=1) hk hm rt_24 rfl rfl rfl (src_cells (k:=5) (news:=[.int .u8 (((u % 128) + 128:Nat):Int),.int .u8 ((((u / 128) % 128) + 128:Nat):Int),.int .u8 ((((u / 16384) % 128) + 128:Nat):Int),.int .u8 ((((u / 2097152) % 128) + 128:Nat):Int),.int .u8 ((u / 268435456:Nat):Int)]) te_24 rfl (hm.cells_blk (i:=0) rfl rfl) rfl) (room_len (by (repeat' split at hroom) <;> omega)) (room_by (by (repeat' split at hroom) <;> omega)) rfl fun a v2 w hk hm _=>?_
    refine oA0 hk rfl rfl fun a hk=>?_
    refine cE0 ?_
    refine wp_ret ?_
    refine c_inRet ?_
    refine cQ0 ?_
    refine bT0 rfl hk rfl ?_
    have hr:=hm.rowTo (i:=1) rfl
    have hl2:(uvarint u).length = 5:=by rw [hl]; (repeat' split) <;> omega
    rw [if_neg (by omega),if_neg (by omega),if_neg (by omega),if_neg (by omega)] at hb
    rw [hb,hl2]
    exact hr
  · have hcu:=hc
    simp only [beq_iff_eq,beq_eq_false_iff_ne,ne_eq] at hcu
    unfold uvLen at hcu
    replace hcu:u < 268435456:=by (repeat' split at hcu) <;> omega
    refine cR0 ?_
    refine o_icmp hk rfl rfl rfl rfl fun a hk=>?_
    refine oA0 hk rfl rfl fun a hk=>?_
    refine cE0 ?_
    refine c_cond hk rfl (fun hc=>?_) (fun hc=>?_)
    · have hcu:=hc
      simp only [beq_iff_eq,beq_eq_false_iff_ne,ne_eq] at hcu
      unfold uvLen at hcu
      replace hcu : 2097152 ≤ u ∧ u < 268435456:=by (repeat' split at hcu) <;> omega
      refine cR0 ?_
      refine oM0 hk rfl rfl fun a hk=>?_
      refine oM0 hk rfl rfl fun a hk=>?_
      refine o_ibits (c:=((u % 128:Nat):Int)) hk rfl rfl (and127_u32 _ (by omega)) rfl fun a hk=>?_
      refine o_ibits (c:=(((u % 128) + 128:Nat):Int)) hk rfl rfl (or128_u32 _ (by omega)) rfl fun a hk=>?_
      refine o_convInt (c:=(((u % 128) + 128:Nat):Int)) hk un_65 ti_5 rfl (by rw [IntKind.wrap_u8]; omega) rfl fun a hk=>?_
      refine oM0 hk rfl rfl fun a hk=>?_
      refine o_shr (s:=7) (c:=((u / 128:Nat):Int)) hk rfl rfl (shr_lit (by decide)) rfl fun a hk=>?_
      refine o_ibits (c:=(((u / 128) % 128:Nat):Int)) hk rfl rfl (and127_u32 _ (by omega)) rfl fun a hk=>?_
      refine o_ibits (c:=((((u / 128) % 128) + 128:Nat):Int)) hk rfl rfl (or128_u32 _ (by omega)) rfl fun a hk=>?_
      refine o_convInt (c:=((((u / 128) % 128) + 128:Nat):Int)) hk un_65 ti_5 rfl (by rw [IntKind.wrap_u8]; omega) rfl fun a hk=>?_
      refine oM0 hk rfl rfl fun a hk=>?_
      refine o_shr (s:=14) (c:=((u / 16384:Nat):Int)) hk rfl rfl (shr_lit (by decide)) rfl fun a hk=>?_
      refine o_ibits (c:=(((u / 16384) % 128:Nat):Int)) hk rfl rfl (and127_u32 _ (by omega)) rfl fun a hk=>?_
      refine o_ibits (c:=((((u / 16384) % 128) + 128:Nat):Int)) hk rfl rfl (or128_u32 _ (by omega)) rfl fun a hk=>?_
      refine o_convInt (c:=((((u / 16384) % 128) + 128:Nat):Int)) hk un_65 ti_5 rfl (by rw [IntKind.wrap_u8]; omega) rfl fun a hk=>?_
      refine oM0 hk rfl rfl fun a hk=>?_
      refine o_shr (s:=21) (c:=((u / 2097152:Nat):Int)) hk rfl rfl (shr_lit (by decide)) rfl fun a hk=>?_
      refine o_convInt (c:=((u / 2097152:Nat):Int)) hk un_65 ti_5 rfl (by rw [IntKind.wrap_u8]; omega) rfl fun a hk=>?_
      refine o_buildSlice (r:=[.int .u8 (((u % 128) + 128:Nat):Int),.int .u8 ((((u / 128) % 128) + 128:Nat):Int),.int .u8 ((((u / 16384) % 128) + 128:Nat):Int),.int .u8 ((u / 2097152:Nat):Int)]) hk hm rt_24 tz_5 rfl rfl rfl ⟨_,_,_,rfl,rfl,rfl,rfl,_,_,_,rfl,rfl,rfl,rfl,_,_,_,rfl,rfl,rfl,rfl,_,_,_,rfl,rfl,rfl,rfl,rfl⟩ rfl fun a b3 w hk hm=>?_
      refine o_append (i:=1) hk hm rt_24 rfl rfl rfl (src_cells (k:=4) (news:=[.int .u8 (((u % 128) + 128:Nat):Int),.int .u8 ((((u / 128) % 128) + 128:Nat):Int),.int .u8 ((((u / 16384) % 128) + 128:Nat):Int),.int .u8 ((u / 2097152:Nat):Int)]) te_24 rfl (hm.cells_blk (i:=0) rfl rfl) rfl) (room_len (by (repeat' split at hroom) <;> omega)) (room_by (by (repeat' split at hroom) <;> omega)) rfl fun a v4 w hk hm _=>?_
      refine oA0 hk rfl rfl fun a hk=>?_
      refine cE0 ?_
      refine wp_ret ?_
      refine c_inRet ?_
      refine cQ0 ?_
      refine bT0 rfl hk rfl ?_
      have hr:=hm.rowTo (i:=1) rfl
      have hl2:(uvarint u).length = 4:=by rw [hl]; (repeat' split) <;> omega
      rw [if_neg (by omega),if_neg (by omega),if_neg (by omega),if_pos (by omega)] at hb
      rw [hb,hl2]
      exact hr
    · have hcu:=hc
      simp only [beq_iff_eq,beq_eq_false_iff_ne,ne_eq] at hcu
      unfold uvLen at hcu
      replace hcu:u < 2097152:=by (repeat' split at hcu) <;> omega
      refine cR0 ?_
      refine o_icmp hk rfl rfl rfl rfl fun a hk=>?_
      refine oA0 hk rfl rfl fun a hk=>?_
      refine cE0 ?_
      refine c_cond hk rfl (fun hc=>?_) (fun hc=>?_)
      · have hcu:=hc
        simp only [beq_iff_eq,beq_eq_false_iff_ne,ne_eq] at hcu
        unfold uvLen at hcu
        replace hcu : 16384 ≤ u ∧ u < 2097152:=by (repeat' split at hcu) <;> omega
        refine cR0 ?_
        refine oM0 hk rfl rfl fun a hk=>?_
        refine oM0 hk rfl rfl fun a hk=>?_
        refine o_ibits (c:=((u % 128:Nat):Int)) hk rfl rfl (and127_u32 _ (by omega)) rfl fun a hk=>?_
        refine o_ibits (c:=(((u % 128) + 128:Nat):Int)) hk rfl rfl (or128_u32 _ (by omega)) rfl fun a hk=>?_
        refine o_convInt (c:=(((u % 128) + 128:Nat):Int)) hk un_65 ti_5 rfl (by rw [IntKind.wrap_u8]; omega) rfl fun a hk=>?_
        refine oM0 hk rfl rfl fun a hk=>?_
        refine o_shr (s:=7) (c:=((u / 128:Nat):Int)) hk rfl rfl (shr_lit (by decide)) rfl fun a hk=>?_
        refine o_ibits (c:=(((u / 128) % 128:Nat):Int)) hk rfl rfl (and127_u32 _ (by omega)) rfl fun a hk=>?_
        refine o_ibits (c:=((((u / 128) % 128) + 128:Nat):Int)) hk rfl rfl (or128_u32 _ (by omega)) rfl fun a hk=>?_
        refine o_convInt (c:=((((u / 128) % 128) + 128:Nat):Int)) hk un_65 ti_5 rfl (by rw [IntKind.wrap_u8]; omega) rfl fun a hk=>?_
        refine oM0 hk rfl rfl fun a hk=>?_
        refine o_shr (s:=14) (c:=((u / 16384:Nat):Int)) hk rfl rfl (shr_lit (by decide)) rfl fun a hk=>?_
        refine o_convInt (c:=((u / 16384:Nat):Int)) hk un_65 ti_5 rfl (by rw [IntKind.wrap_u8]; omega) rfl fun a hk=>?_
        refine o_buildSlice (r:=[.int .u8 (((u % 128) + 128:Nat):Int),.int .u8 ((((u / 128) % 128) + 128:Nat):Int),.int .u8 ((u / 16384:Nat):Int)]) hk hm rt_24 tz_5 rfl rfl rfl ⟨_,_,_,rfl,rfl,rfl,rfl,_,_,_,rfl,rfl,rfl,rfl,_,_,_,rfl,rfl,rfl,rfl,rfl⟩ rfl fun a b5 w hk hm=>?_
        refine o_append (i:=1) hk hm rt_24 rfl rfl rfl (src_cells (k:=3) (news:=[.int .u8 (((u % 128) + 128:Nat):Int),.int .u8 ((((u / 128) % 128) + 128:Nat):Int),.int .u8 ((u / 16384:Nat):Int)]) te_24 rfl (hm.cells_blk (i:=0) rfl rfl) rfl) (room_len (by (repeat' split at hroom) <;> omega)) (room_by (by (repeat' split at hroom) <;> omega)) rfl fun a v6 w hk hm _=>?_
        refine oA0 hk rfl rfl fun a hk=>?_
        refine cE0 ?_
        refine wp_ret ?_
        refine c_inRet ?_
        refine cQ0 ?_
        refine bT0 rfl hk rfl ?_
        have hr:=hm.rowTo (i:=1) rfl
        have hl2:(uvarint u).length = 3:=by rw [hl]; (repeat' split) <;> omega
        rw [if_neg (by omega),if_neg (by omega),if_pos (by omega)] at hb
        rw [hb,hl2]
        exact hr
      · have hcu:=hc
        simp only [beq_iff_eq,beq_eq_false_iff_ne,ne_eq] at hcu
        unfold uvLen at hcu
        replace hcu:u < 16384:=by (repeat' split at hcu) <;> omega
        refine cR0 ?_
        refine o_icmp hk rfl rfl rfl rfl fun a hk=>?_
        refine oA0 hk rfl rfl fun a hk=>?_
        refine cE0 ?_
        refine c_cond hk rfl (fun hc=>?_) (fun hc=>?_)
        · have hcu:=hc
          simp only [beq_iff_eq,beq_eq_false_iff_ne,ne_eq] at hcu
          unfold uvLen at hcu
          replace hcu : 128 ≤ u ∧ u < 16384:=by (repeat' split at hcu) <;> omega
          refine cR0 ?_
          refine oM0 hk rfl rfl fun a hk=>?_
          refine oM0 hk rfl rfl fun a hk=>?_
          refine o_ibits (c:=((u % 128:Nat):Int)) hk rfl rfl (and127_u32 _ (by omega)) rfl fun a hk=>?_
          refine o_ibits (c:=(((u % 128) + 128:Nat):Int)) hk rfl rfl (or128_u32 _ (by omega)) rfl fun a hk=>?_
          refine o_convInt (c:=(((u % 128) + 128:Nat):Int)) hk un_65 ti_5 rfl (by rw [IntKind.wrap_u8]; omega) rfl fun a hk=>?_
          refine oM0 hk rfl rfl fun a hk=>?_
          refine o_shr (s:=7) (c:=((u / 128:Nat):Int)) hk rfl rfl (shr_lit (by decide)) rfl fun a hk=>?_
          refine o_convInt (c:=((u / 128:Nat):Int)) hk un_65 ti_5 rfl (by rw [IntKind.wrap_u8]; omega) rfl fun a hk=>?_
          refine o_buildSlice (r:=[.int .u8 (((u % 128) + 128:Nat):Int),.int .u8 ((u / 128:Nat):Int)]) hk hm rt_24 tz_5 rfl rfl rfl ⟨_,_,_,rfl,rfl,rfl,rfl,_,_,_,rfl,rfl,rfl,rfl,rfl⟩ rfl fun a b7 w hk hm=>?_
          refine o_append (i:=1) hk hm rt_24 rfl rfl rfl (src_cells (k:=2) (news:=[.int .u8 (((u % 128) + 128:Nat):Int),.int .u8 ((u / 128:Nat):Int)]) te_24 rfl (hm.cells_blk (i:=0) rfl rfl) rfl) (room_len (by (repeat' split at hroom) <;> omega)) (room_by (by (repeat' split at hroom) <;> omega)) rfl fun a v8 w hk hm _=>?_
          refine oA0 hk rfl rfl fun a hk=>?_
          refine cE0 ?_
          refine wp_ret ?_
          refine c_inRet ?_
          refine cQ0 ?_
          refine bT0 rfl hk rfl ?_
          have hr:=hm.rowTo (i:=1) rfl
          have hl2:(uvarint u).length = 2:=by rw [hl]; (repeat' split) <;> omega
          rw [if_neg (by omega),if_pos (by omega)] at hb
          rw [hb,hl2]
          exact hr
        · have hcu:=hc
          simp only [beq_iff_eq,beq_eq_false_iff_ne,ne_eq] at hcu
          unfold uvLen at hcu
          replace hcu:u < 128:=by (repeat' split at hcu) <;> omega
          refine cR0 ?_
          refine o_icmp hk rfl rfl rfl rfl fun a hk=>?_
          refine oA0 hk rfl rfl fun a hk=>?_
          refine cE0 ?_
          refine c_cond hk rfl (fun hc=>?_) (fun hc=>?_)
          · have hcu:=hc
            simp only [beq_iff_eq,beq_eq_false_iff_ne,ne_eq] at hcu
            unfold uvLen at hcu
            replace hcu:u < 128:=by (repeat' split at hcu) <;> omega
            refine cR0 ?_
            refine oM0 hk rfl rfl fun a hk=>?_
            refine oM0 hk rfl rfl fun a hk=>?_
            refine o_convInt (c:=((u:Nat):Int)) hk un_65 ti_5 rfl (by rw [IntKind.wrap_u8]; omega) rfl fun a hk=>?_
            refine o_buildSlice (r:=[.int .u8 ((u:Nat):Int)]) hk hm rt_24 tz_5 rfl rfl rfl ⟨_,_,_,rfl,rfl,rfl,rfl,rfl⟩ rfl fun a b9 w hk hm=>?_
            refine o_append (i:=1) hk hm rt_24 rfl rfl rfl (src_cells (k:=1) (news:=[.int .u8 ((u:Nat):Int)]) te_24 rfl (hm.cells_blk (i:=0) rfl rfl) rfl) (room_len (by (repeat' split at hroom) <;> omega)) (room_by (by (repeat' split at hroom) <;> omega)) rfl fun a v10 w hk hm _=>?_
            refine oA0 hk rfl rfl fun a hk=>?_
            refine cE0 ?_
            refine wp_ret ?_
            refine c_inRet ?_
            refine cQ0 ?_
            refine bT0 rfl hk rfl ?_
            have hr:=hm.rowTo (i:=1) rfl
            have hl2:(uvarint u).length = 1:=by rw [hl]; (repeat' split) <;> omega
            rw [if_pos (by omega)] at hb
            rw [hb,hl2]
            exact hr
          · have hcu:=hc
            simp only [beq_iff_eq,beq_eq_false_iff_ne,ne_eq] at hcu
            unfold uvLen at hcu
            replace hcu:False:=by (repeat' split at hcu) <;> omega
            exact hcu.elim
theorem appendInt16_ok:Ea.Ok Tryz.prog 5 97 (.fx 2):=by
  intro ik w0 v n xs hik hrow i hroom
  obtain rfl:IntKind.i16 = ik:=Option.some.inj hik
  exact appendInt16_c hrow i hroom
theorem appendInt32_ok:Ea.Ok Tryz.prog 5 98 (.fx 3):=by
  intro ik w0 v n xs hik hrow i hroom
  obtain rfl:IntKind.i32 = ik:=Option.some.inj hik
  exact appendInt32_c hrow i hroom
theorem appendInt64_ok:Ea.Ok Tryz.prog 5 149 (.fx 4):=by
  intro ik w0 v n xs hik hrow i hroom
  obtain rfl:IntKind.i64 = ik:=Option.some.inj hik
  exact appendInt64_c hrow i hroom
theorem appendUint16_ok:Ea.Ok Tryz.prog 5 120 (.fx 5):=by
  intro ik w0 v n xs hik hrow i hroom
  obtain rfl:IntKind.u16 = ik:=Option.some.inj hik
  exact appendUint16_c hrow i hroom
theorem appendInt8_ok:Ea.Ok Tryz.prog 5 150 (.fx 1):=by
  intro ik w0 v n xs hik hrow i hroom
  obtain rfl:IntKind.i8 = ik:=Option.some.inj hik
  have hroom1:n + 1 ≤ room:=hroom
  refine c_call Tryz.func150 rfl rfl fun a hk=>?_
  have hk:Kn 10 [(0,v),(1,.int .i8 i)] a:=hk
  have hm:Mem w0 (fun k=>v.ownBlock = some k) (fun k=>v.ownBlock = some k) [.row 5 1 v n xs] w0:=Mem.startRow hrow (fun _ h=>h) rfl (by simp only [List.not_mem_nil,false_imp_iff,implies_true])
  refine cR0 ?_
  refine oA0 hk rfl rfl fun a hk=>?_
  refine cE0 ?_
  refine cR0 ?_
  refine oM0 hk rfl rfl fun a hk=>?_
  refine oM0 hk rfl rfl fun a hk=>?_
  refine o_convInt (c:=IntKind.u8.wrap i) hk un_126 ti_5 rfl rfl rfl fun a hk=>?_
  refine o_buildSlice (r:=[.int .u8 (IntKind.u8.wrap i)]) hk hm rt_24 tz_5 rfl rfl rfl ⟨_,_,_,rfl,rfl,rfl,rfl,rfl⟩ rfl fun a b1 w hk hm=>?_
  refine o_append (i:=1) hk hm rt_24 rfl rfl rfl (src_cells (k:=1) (news:=[.int .u8 (IntKind.u8.wrap i)]) te_24 rfl (hm.cells_blk (i:=0) rfl rfl) rfl) (room_len (by omega)) (room_by (by omega)) rfl fun a v2 w hk hm _=>?_
  refine oA0 hk rfl rfl fun a hk=>?_
  refine cE0 ?_
  refine wp_ret ?_
  refine bT0 rfl hk rfl ?_
  have hr:=hm.rowTo (i:=1) rfl
  have e1:bv (fixed i 1) = [.int .u8 (IntKind.u8.wrap i)]:=by simp only [fixed,bv_u8]; simp [bv]
  show RowTo w0 _ 1 v (n + (fixed i 1).length) (xs ++ bv (fixed i 1)) _ _
  rw [e1,fixed_length]
  exact hr
theorem appendUuid_ok:Ea.Ok Tryz.prog 5 148 (.uuid):=by
  intro w0 v n xs hrow s hs hroom
  refine c_call Tryz.func148 rfl rfl fun a hk=>?_
  have hk:Kn 8 [(0,v),(1,.agg (bv s).toArray)] a:=hk
  have hm:Mem w0 (fun k=>v.ownBlock = some k) (fun k=>v.ownBlock = some k) [.row 5 1 v n xs] w0:=Mem.startRow hrow (fun _ h=>h) rfl (by simp only [List.not_mem_nil,false_imp_iff,implies_true])
  refine cR0 ?_
  refine o_box hk hm rfl (cellsOf_agg _) rfl fun a b1 w hk hm=>?_
  refine oA0 hk rfl rfl fun a hk=>?_
  refine cE0 ?_
  refine cR0 ?_
  refine oM0 hk rfl rfl fun a hk=>?_
  refine o_sliceArr hk at_115 ts_5 rfl rfl fun a hk=>?_
  refine o_append (i:=1) hk hm rt_24 rfl rfl rfl (src_cells (k:=16) (news:=bv s) te_24 (by rw [bv_length,hs]) (hm.cells_blk (i:=0) rfl (by simp)) (bv_one s)) (room_len (by omega)) (room_by (by omega)) rfl fun a v1 w hk hm _=>?_
  refine oA0 hk rfl rfl fun a hk=>?_
  refine cE0 ?_
  refine wp_ret ?_
  refine bT0 rfl hk rfl ?_
  have hr:=hm.rowTo (i:=1) rfl
  rw [hs]
  exact hr
theorem appendString_ok:Ea.Ok Tryz.prog 5 122 (.str false):=by
  intro w0 v n xs hrow s hs hroom
  have hc:counted false false s.length 2 = fixed (s.length:Int) 2:=rfl
  rw [hc,List.length_append,fixed_length] at hroom
  rw [hc]
  exact appendString_c hrow s hroom
theorem appendCompactString_ok:Ea.Ok Tryz.prog 5 145 (.str true):=by
  intro w0 v n xs hrow s hs hroom
  have hc:counted true false s.length 2 = uvarint (s.length + 1):=rfl
  rw [hc,List.length_append] at hroom
  rw [hc]
  refine c_call Tryz.func145 rfl rfl fun a hk=>?_
  have hk:Kn 14 [(0,v),(1,.string (bs s))] a:=hk
  have hm:Mem w0 (fun k=>v.ownBlock = some k) (fun k=>v.ownBlock = some k) [.row 5 1 v n xs] w0:=Mem.startRow hrow (fun _ h=>h) rfl (by simp only [List.not_mem_nil,false_imp_iff,implies_true])
  refine cR0 ?_
  refine oA0 hk rfl rfl fun a hk=>?_
  refine cE0 ?_
  refine cR0 ?_
  refine oM0 hk rfl rfl fun a hk=>?_
  refine oM0 hk rfl rfl fun a hk=>?_
  refine o_lenStr hk is_9 rfl rfl fun a hk=>?_
  rw [bs_size] at hk
  refine o_convInt (c:=((s.length:Nat):Int)) hk un_3 ti_65 rfl (by rw [IntKind.wrap_u32]; omega) rfl fun a hk=>?_
  refine o_iarith (c:=((1 + s.length:Nat):Int)) hk rfl rfl rfl (by rw [IntKind.wrap_u32]; omega) rfl fun a hk=>?_
  refine o_call hk cb_151 (appendUvarint_ok (hm.row (i:=0) rfl) (1 + s.length) (by omega) (by rw [show 1 + s.length = s.length + 1 by omega]; omega)) ⟨rfl,rfl,trivial⟩ rfl fun v1 w a hR hk=>?_
  have hm:=hm.rowCall (i:=0) rfl hR
  refine oA0 hk rfl rfl fun a hk=>?_
  refine cE0 ?_
  refine cR0 ?_
  refine oM0 hk rfl rfl fun a hk=>?_
  refine oM0 hk rfl rfl fun a hk=>?_
  refine o_append (i:=0) hk hm rt_24 rfl rfl rfl (src_str is_9 (bs s)) (room_len (by rw [bs_size,show 1 + s.length = s.length + 1 by omega]; omega)) (room_by (by rw [bs_size,show 1 + s.length = s.length + 1 by omega]; omega)) rfl fun a v2 w hk hm _=>?_
  refine oA0 hk rfl rfl fun a hk=>?_
  refine cE0 ?_
  refine wp_ret ?_
  refine bT0 rfl hk rfl ?_
  have hr:=hm.rowTo (i:=0) rfl
  rw [byteCells_bs,bs_size,show 1 + s.length = s.length + 1 by omega] at hr
  show RowTo _ _ _ _ (n + (uvarint (s.length + 1) ++ s).length) (xs ++ bv (uvarint (s.length + 1) ++ s)) _ _
  rw [List.length_append,bv_append,← Nat.add_assoc,← List.append_assoc]
  exact hr
theorem appendNullableString_ok:Ea.Ok Tryz.prog 5 99 (.nstr false):=by
  intro w0 Y v x n xs hrow hY z s hs hz hR hroom
  cases z with
  | true =>
    obtain rfl:=hz rfl
    obtain rfl:x = .pointer none:=rep_v_inv hR
    refine c_call Tryz.func99 rfl rfl fun a hk=>?_
    have hk:Kn 14 [(0,v),(1,.pointer none)] a:=hk
    have hm:Mem w0 (fun k=>v.ownBlock = some k) Y [.row 5 1 v n xs] w0:=Mem.startRow hrow hY rfl (by simp only [List.not_mem_nil,false_imp_iff,implies_true])
    refine cR0 ?_
    refine oA0 hk rfl rfl fun a hk=>?_
    refine cE0 ?_
    refine wp_seq ?_
    refine cR0 ?_
    refine oM0 hk rfl rfl fun a hk=>?_
    refine o_ptrNil hk ip_92 rfl rfl fun a hk=>?_
    refine cE0 ?_
    refine c_condT hk rfl ?_
    refine cR0 ?_
    refine oM0 hk rfl rfl fun a hk=>?_
    refine o_call hk cb_97 (appendInt16_c (hm.row (i:=0) rfl) (-1) hroom) ⟨rfl,rfl,trivial⟩ rfl fun v1 w a hR hk=>?_
    have hm:=hm.rowCall (i:=0) rfl hR
    refine oA0 hk rfl rfl fun a hk=>?_
    refine cE0 ?_
    refine wp_ret ?_
    refine cQ0 ?_
    refine bT0 rfl hk rfl ?_
    have hr:=hm.rowTo (i:=0) rfl
    exact hr
  | false =>
    obtain ⟨b,o,cs,hx,hC,hr0⟩ : ∃ b o cs,[x] = [Value.pointer (some ⟨b,o,none⟩)] ∧ Cel w0 Y b o cs ∧ Rep w0 Y (.v (.string (bs s))) cs:=by
      have hR2:Rep w0 Y (.ptr (.v (.string (bs s)))) [x]:=hR
      simpa only [Rep] using hR2
    simp only [Rep] at hr0
    subst hr0
    obtain rfl:x = .pointer (some ⟨b,o,none⟩):=by simpa using hx
    have hcel:w0.cell? ⟨b,o,none⟩ = some (.string (bs s)):=(hC 0 _ rfl).2
    refine c_call Tryz.func99 rfl rfl fun a hk=>?_
    have hk:Kn 14 [(0,v),(1,.pointer (some ⟨b,o,none⟩))] a:=hk
    have hm:Mem w0 (fun k=>v.ownBlock = some k) Y [.row 5 1 v n xs] w0:=Mem.startRow hrow hY rfl (by simp only [List.not_mem_nil,false_imp_iff,implies_true])
    refine cR0 ?_
    refine oA0 hk rfl rfl fun a hk=>?_
    refine cE0 ?_
    refine wp_seq ?_
    refine cR0 ?_
    refine oM0 hk rfl rfl fun a hk=>?_
    refine o_ptrNil hk ip_92 rfl rfl fun a hk=>?_
    refine cE0 ?_
    refine c_condF hk rfl ?_
    refine wp_skip ?_
    refine cT0 ?_
    refine cR0 ?_
    refine oM0 hk rfl rfl fun a hk=>?_
    refine oM0 hk rfl rfl fun a hk=>?_
    refine oN0 hk rfl rfl fun a hk=>?_
    refine o_load hk ts_9 rfl hcel rfl fun a hk=>?_
    refine o_call hk cb_122 (appendString_ok (hm.row (i:=0) rfl) s hs hroom) ⟨rfl,rfl,trivial⟩ rfl fun v1 w a hR hk=>?_
    have hm:=hm.rowCall (i:=0) rfl hR
    refine oA0 hk rfl rfl fun a hk=>?_
    refine cE0 ?_
    refine wp_ret ?_
    refine bT0 rfl hk rfl ?_
    have hr:=hm.rowTo (i:=0) rfl
    exact hr
theorem appendCompactNullableString_ok:Ea.Ok Tryz.prog 5 194 (.nstr true):=by
  intro w0 Y v x n xs hrow hY z s hs hz hR hroom
  cases z with
  | true =>
    obtain rfl:=hz rfl
    obtain rfl:x = .pointer none:=rep_v_inv hR
    refine c_call Tryz.func194 rfl rfl fun a hk=>?_
    have hk:Kn 14 [(0,v),(1,.pointer none)] a:=hk
    have hm:Mem w0 (fun k=>v.ownBlock = some k) Y [.row 5 1 v n xs] w0:=Mem.startRow hrow hY rfl (by simp only [List.not_mem_nil,false_imp_iff,implies_true])
    have e1:counted true true ([]:List UInt8).length 2 ++ ([]:List UInt8) = uvarint 0:=by rw [uvarint_small (by omega)]; rfl
    rw [e1] at hroom ⊢
    refine cR0 ?_
    refine oA0 hk rfl rfl fun a hk=>?_
    refine cE0 ?_
    refine wp_seq ?_
    refine cR0 ?_
    refine oM0 hk rfl rfl fun a hk=>?_
    refine o_ptrNil hk ip_92 rfl rfl fun a hk=>?_
    refine cE0 ?_
    refine c_condT hk rfl ?_
    refine cR0 ?_
    refine oM0 hk rfl rfl fun a hk=>?_
    refine o_call hk cb_151 (appendUvarint_ok (hm.row (i:=0) rfl) 0 (by omega) hroom) ⟨rfl,rfl,trivial⟩ rfl fun v1 w a hR hk=>?_
    have hm:=hm.rowCall (i:=0) rfl hR
    refine oA0 hk rfl rfl fun a hk=>?_
    refine cE0 ?_
    refine wp_ret ?_
    refine cQ0 ?_
    refine bT0 rfl hk rfl ?_
    have hr:=hm.rowTo (i:=0) rfl
    exact hr
  | false =>
    obtain ⟨b,o,cs,hx,hC,hr0⟩ : ∃ b o cs,[x] = [Value.pointer (some ⟨b,o,none⟩)] ∧ Cel w0 Y b o cs ∧ Rep w0 Y (.v (.string (bs s))) cs:=by
      have hR2:Rep w0 Y (.ptr (.v (.string (bs s)))) [x]:=hR
      simpa only [Rep] using hR2
    simp only [Rep] at hr0
    subst hr0
    obtain rfl:x = .pointer (some ⟨b,o,none⟩):=by simpa using hx
    have hcel:w0.cell? ⟨b,o,none⟩ = some (.string (bs s)):=(hC 0 _ rfl).2
    refine c_call Tryz.func194 rfl rfl fun a hk=>?_
    have hk:Kn 14 [(0,v),(1,.pointer (some ⟨b,o,none⟩))] a:=hk
    have hm:Mem w0 (fun k=>v.ownBlock = some k) Y [.row 5 1 v n xs] w0:=Mem.startRow hrow hY rfl (by simp only [List.not_mem_nil,false_imp_iff,implies_true])
    refine cR0 ?_
    refine oA0 hk rfl rfl fun a hk=>?_
    refine cE0 ?_
    refine wp_seq ?_
    refine cR0 ?_
    refine oM0 hk rfl rfl fun a hk=>?_
    refine o_ptrNil hk ip_92 rfl rfl fun a hk=>?_
    refine cE0 ?_
    refine c_condF hk rfl ?_
    refine wp_skip ?_
    refine cT0 ?_
    refine cR0 ?_
    refine oM0 hk rfl rfl fun a hk=>?_
    refine oM0 hk rfl rfl fun a hk=>?_
    refine oN0 hk rfl rfl fun a hk=>?_
    refine o_load hk ts_9 rfl hcel rfl fun a hk=>?_
    refine o_call hk cb_145 (appendCompactString_ok (hm.row (i:=0) rfl) s hs hroom) ⟨rfl,rfl,trivial⟩ rfl fun v1 w a hR hk=>?_
    have hm:=hm.rowCall (i:=0) rfl hR
    refine oA0 hk rfl rfl fun a hk=>?_
    refine cE0 ?_
    refine wp_ret ?_
    refine bT0 rfl hk rfl ?_
    have hr:=hm.rowTo (i:=0) rfl
    exact hr
theorem appendBytes_ok:Ea.Ok Tryz.prog 5 196 (.byt false):=by
  intro w0 Y v x n xs hrow hY s hs hR hroom
  have hc:counted false false s.length 4 = fixed (s.length:Int) 4:=rfl
  rw [hc,List.length_append,fixed_length] at hroom
  rw [hc]
  obtain ⟨ps,caps,rfl⟩:=rep_sl_len hR
  rw [List.length_map] at hR ⊢
  refine c_call Tryz.func196 rfl rfl fun a hk=>?_
  have hk:Kn 13 [(0,v),(1,.slice ps s.length caps)] a:=hk
  have hm:Mem w0 (fun k=>v.ownBlock = some k) Y [.row 5 1 v n xs,.rep (ddBs s) [.slice ps s.length caps]] w0:=Mem.startRow hrow hY rfl (by simp only [List.forall_mem_cons,List.not_mem_nil,false_imp_iff,implies_true,and_true]; exact hR)
  refine cR0 ?_
  refine oA0 hk rfl rfl fun a hk=>?_
  refine cE0 ?_
  refine cR0 ?_
  refine oM0 hk rfl rfl fun a hk=>?_
  refine oM0 hk rfl rfl fun a hk=>?_
  refine oL0 hk te_24 rfl rfl fun a hk=>?_
  refine o_convInt (c:=((s.length:Nat):Int)) hk un_3 ti_21 rfl (by rw [IntKind.wrap_i32]; omega) rfl fun a hk=>?_
  refine o_call hk cb_98 (appendInt32_c (hm.row (i:=0) rfl) ((s.length:Nat):Int) (by omega)) ⟨rfl,rfl,trivial⟩ rfl fun v1 w a hR hk=>?_
  have hm:=hm.rowCall (i:=0) rfl hR
  refine oA0 hk rfl rfl fun a hk=>?_
  refine cE0 ?_
  refine cR0 ?_
  refine oM0 hk rfl rfl fun a hk=>?_
  refine oM0 hk rfl rfl fun a hk=>?_
  refine o_append (i:=0) hk hm rt_24 rfl rfl rfl (src_bs te_24 (hm.rep (i:=1) rfl)) (room_len (by rw [fixed_length]; omega)) (room_by (by rw [fixed_length]; omega)) rfl fun a v2 w hk hm _=>?_
  refine oA0 hk rfl rfl fun a hk=>?_
  refine cE0 ?_
  refine wp_ret ?_
  refine bT0 rfl hk rfl ?_
  have hr:=hm.rowTo (i:=0) rfl
  show RowTo _ _ _ _ (n + (fixed (s.length:Int) 4 ++ s).length) (xs ++ bv (fixed (s.length:Int) 4 ++ s)) _ _
  rw [List.length_append,bv_append,← Nat.add_assoc,← List.append_assoc]
  exact hr
theorem appendCompactBytes_ok:Ea.Ok Tryz.prog 5 195 (.byt true):=by
  intro w0 Y v x n xs hrow hY s hs hR hroom
  have hc:counted true false s.length 4 = uvarint (s.length + 1):=rfl
  rw [hc,List.length_append] at hroom
  rw [hc]
  obtain ⟨ps,caps,rfl⟩:=rep_sl_len hR
  rw [List.length_map] at hR ⊢
  refine c_call Tryz.func195 rfl rfl fun a hk=>?_
  have hk:Kn 14 [(0,v),(1,.slice ps s.length caps)] a:=hk
  have hm:Mem w0 (fun k=>v.ownBlock = some k) Y [.row 5 1 v n xs,.rep (ddBs s) [.slice ps s.length caps]] w0:=Mem.startRow hrow hY rfl (by simp only [List.forall_mem_cons,List.not_mem_nil,false_imp_iff,implies_true,and_true]; exact hR)
  refine cR0 ?_
  refine oA0 hk rfl rfl fun a hk=>?_
  refine cE0 ?_
  refine cR0 ?_
  refine oM0 hk rfl rfl fun a hk=>?_
  refine oM0 hk rfl rfl fun a hk=>?_
  refine oL0 hk te_24 rfl rfl fun a hk=>?_
  refine o_convInt (c:=((s.length:Nat):Int)) hk un_3 ti_65 rfl (by rw [IntKind.wrap_u32]; omega) rfl fun a hk=>?_
  refine o_iarith (c:=((1 + s.length:Nat):Int)) hk rfl rfl rfl (by rw [IntKind.wrap_u32]; omega) rfl fun a hk=>?_
  refine o_call hk cb_151 (appendUvarint_ok (hm.row (i:=0) rfl) (1 + s.length) (by omega) (by rw [show 1 + s.length = s.length + 1 by omega]; omega)) ⟨rfl,rfl,trivial⟩ rfl fun v1 w a hR hk=>?_
  have hm:=hm.rowCall (i:=0) rfl hR
  refine oA0 hk rfl rfl fun a hk=>?_
  refine cE0 ?_
  refine cR0 ?_
  refine oM0 hk rfl rfl fun a hk=>?_
  refine oM0 hk rfl rfl fun a hk=>?_
  refine o_append (i:=0) hk hm rt_24 rfl rfl rfl (src_bs te_24 (hm.rep (i:=1) rfl)) (room_len (by rw [show 1 + s.length = s.length + 1 by omega]; omega)) (room_by (by rw [show 1 + s.length = s.length + 1 by omega]; omega)) rfl fun a v2 w hk hm _=>?_
  refine oA0 hk rfl rfl fun a hk=>?_
  refine cE0 ?_
  refine wp_ret ?_
  refine bT0 rfl hk rfl ?_
  have hr:=hm.rowTo (i:=0) rfl
  rw [show 1 + s.length = s.length + 1 by omega] at hr
  show RowTo _ _ _ _ (n + (uvarint (s.length + 1) ++ s).length) (xs ++ bv (uvarint (s.length + 1) ++ s)) _ _
  rw [List.length_append,bv_append,← Nat.add_assoc,← List.append_assoc]
  exact hr
theorem appendNullableBytes_ok:Ea.Ok Tryz.prog 5 206 (.nbyt false):=by
  intro w0 Y v x n xs hrow hY z s hs hz hR hroom
  cases z with
  | true =>
    obtain rfl:=hz rfl
    obtain rfl:x = .slice none 0 0:=rep_v_inv hR
    refine c_call Tryz.func206 rfl rfl fun a hk=>?_
    have hk:Kn 12 [(0,v),(1,.slice none 0 0)] a:=hk
    have hm:Mem w0 (fun k=>v.ownBlock = some k) Y [.row 5 1 v n xs] w0:=Mem.startRow hrow hY rfl (by simp only [List.not_mem_nil,false_imp_iff,implies_true])
    refine cR0 ?_
    refine oA0 hk rfl rfl fun a hk=>?_
    refine cE0 ?_
    refine wp_seq ?_
    refine cR0 ?_
    refine oM0 hk rfl rfl fun a hk=>?_
    refine o_sliceNil hk te_24 rfl rfl fun a hk=>?_
    refine cE0 ?_
    refine c_condT hk rfl ?_
    refine cR0 ?_
    refine oM0 hk rfl rfl fun a hk=>?_
    refine o_call hk cb_98 (appendInt32_c (hm.row (i:=0) rfl) (-1) hroom) ⟨rfl,rfl,trivial⟩ rfl fun v1 w a hR hk=>?_
    have hm:=hm.rowCall (i:=0) rfl hR
    refine oA0 hk rfl rfl fun a hk=>?_
    refine cE0 ?_
    refine wp_ret ?_
    refine cQ0 ?_
    refine bT0 rfl hk rfl ?_
    have hr:=hm.rowTo (i:=0) rfl
    exact hr
  | false =>
    obtain ⟨ps,caps,rfl,hpn,hB⟩:=rep_slT hR
    refine c_call Tryz.func206 rfl rfl fun a hk=>?_
    have hk:Kn 12 [(0,v),(1,.slice ps s.length caps)] a:=hk
    have hm:Mem w0 (fun k=>v.ownBlock = some k) Y [.row 5 1 v n xs,.rep (ddBs s) [.slice ps s.length caps]] w0:=Mem.startRow hrow hY rfl (by simp only [List.forall_mem_cons,List.not_mem_nil,false_imp_iff,implies_true,and_true]; exact hB)
    refine cR0 ?_
    refine oA0 hk rfl rfl fun a hk=>?_
    refine cE0 ?_
    refine wp_seq ?_
    refine cR0 ?_
    refine oM0 hk rfl rfl fun a hk=>?_
    refine o_sliceNil hk te_24 rfl rfl fun a hk=>?_
    rw [hpn] at hk
    refine cE0 ?_
    refine c_condF hk rfl ?_
    refine wp_skip ?_
    refine cT0 ?_
    refine cR0 ?_
    refine oM0 hk rfl rfl fun a hk=>?_
    refine oM0 hk rfl rfl fun a hk=>?_
    refine o_call hk cb_196 (appendBytes_ok (hm.row (i:=0) rfl) (fun _ hv=>hm.yofRow (i:=0) rfl hv) s hs (hm.rep (i:=1) rfl) hroom) ⟨rfl,rfl,trivial⟩ rfl fun v1 w a hR hk=>?_
    have hm:=hm.rowCall (i:=0) rfl hR
    refine oA0 hk rfl rfl fun a hk=>?_
    refine cE0 ?_
    refine wp_ret ?_
    refine bT0 rfl hk rfl ?_
    have hr:=hm.rowTo (i:=0) rfl
    exact hr
theorem appendCompactNullableBytes_ok:Ea.Ok Tryz.prog 5 205 (.nbyt true):=by
  intro w0 Y v x n xs hrow hY z s hs hz hR hroom
  cases z with
  | true =>
    obtain rfl:=hz rfl
    obtain rfl:x = .slice none 0 0:=rep_v_inv hR
    refine c_call Tryz.func205 rfl rfl fun a hk=>?_
    have hk:Kn 12 [(0,v),(1,.slice none 0 0)] a:=hk
    have hm:Mem w0 (fun k=>v.ownBlock = some k) Y [.row 5 1 v n xs] w0:=Mem.startRow hrow hY rfl (by simp only [List.not_mem_nil,false_imp_iff,implies_true])
    have e1:counted true true ([]:List UInt8).length 4 ++ ([]:List UInt8) = uvarint 0:=by rw [uvarint_small (by omega)]; rfl
    rw [e1] at hroom ⊢
    refine cR0 ?_
    refine oA0 hk rfl rfl fun a hk=>?_
    refine cE0 ?_
    refine wp_seq ?_
    refine cR0 ?_
    refine oM0 hk rfl rfl fun a hk=>?_
    refine o_sliceNil hk te_24 rfl rfl fun a hk=>?_
    refine cE0 ?_
    refine c_condT hk rfl ?_
    refine cR0 ?_
    refine oM0 hk rfl rfl fun a hk=>?_
    refine o_call hk cb_151 (appendUvarint_ok (hm.row (i:=0) rfl) 0 (by omega) hroom) ⟨rfl,rfl,trivial⟩ rfl fun v1 w a hR hk=>?_
    have hm:=hm.rowCall (i:=0) rfl hR
    refine oA0 hk rfl rfl fun a hk=>?_
    refine cE0 ?_
    refine wp_ret ?_
    refine cQ0 ?_
    refine bT0 rfl hk rfl ?_
    have hr:=hm.rowTo (i:=0) rfl
    exact hr
  | false =>
    obtain ⟨ps,caps,rfl,hpn,hB⟩:=rep_slT hR
    refine c_call Tryz.func205 rfl rfl fun a hk=>?_
    have hk:Kn 12 [(0,v),(1,.slice ps s.length caps)] a:=hk
    have hm:Mem w0 (fun k=>v.ownBlock = some k) Y [.row 5 1 v n xs,.rep (ddBs s) [.slice ps s.length caps]] w0:=Mem.startRow hrow hY rfl (by simp only [List.forall_mem_cons,List.not_mem_nil,false_imp_iff,implies_true,and_true]; exact hB)
    refine cR0 ?_
    refine oA0 hk rfl rfl fun a hk=>?_
    refine cE0 ?_
    refine wp_seq ?_
    refine cR0 ?_
    refine oM0 hk rfl rfl fun a hk=>?_
    refine o_sliceNil hk te_24 rfl rfl fun a hk=>?_
    rw [hpn] at hk
    refine cE0 ?_
    refine c_condF hk rfl ?_
    refine wp_skip ?_
    refine cT0 ?_
    refine cR0 ?_
    refine oM0 hk rfl rfl fun a hk=>?_
    refine oM0 hk rfl rfl fun a hk=>?_
    refine o_call hk cb_195 (appendCompactBytes_ok (hm.row (i:=0) rfl) (fun _ hv=>hm.yofRow (i:=0) rfl hv) s hs (hm.rep (i:=1) rfl) hroom) ⟨rfl,rfl,trivial⟩ rfl fun v1 w a hR hk=>?_
    have hm:=hm.rowCall (i:=0) rfl hR
    refine oA0 hk rfl rfl fun a hk=>?_
    refine cE0 ?_
    refine wp_ret ?_
    refine bT0 rfl hk rfl ?_
    have hr:=hm.rowTo (i:=0) rfl
    exact hr
theorem appendArrayLen_ok:Ea.Ok Tryz.prog 5 147 (.cnt false):=by
  intro w0 v n xs hrow k hk hroom
  have hc:counted false false k 4 = fixed (k:Int) 4:=rfl
  rw [hc,fixed_length] at hroom
  rw [hc]
  exact appendArrayLen_c hrow k hroom
theorem appendCompactArrayLen_ok:Ea.Ok Tryz.prog 5 146 (.cnt true):=by
  intro w0 v n xs hrow k hk hroom
  have hc:counted true false k 4 = uvarint (k + 1):=rfl
  rw [hc] at hroom ⊢
  refine c_call Tryz.func146 rfl rfl fun a hk=>?_
  have hk:Kn 10 [(0,v),(1,.int .i64 ((k:Nat):Int))] a:=hk
  have hm:Mem w0 (fun k=>v.ownBlock = some k) (fun k=>v.ownBlock = some k) [.row 5 1 v n xs] w0:=Mem.startRow hrow (fun _ h=>h) rfl (by simp only [List.not_mem_nil,false_imp_iff,implies_true])
  refine cR0 ?_
  refine oA0 hk rfl rfl fun a hk=>?_
  refine cE0 ?_
  refine cR0 ?_
  refine oM0 hk rfl rfl fun a hk=>?_
  refine oM0 hk rfl rfl fun a hk=>?_
  refine o_convInt (c:=((k:Nat):Int)) hk un_3 ti_65 rfl (by rw [IntKind.wrap_u32]; omega) rfl fun a hk=>?_
  refine o_iarith (c:=((1 + k:Nat):Int)) hk rfl rfl rfl (by rw [IntKind.wrap_u32]; omega) rfl fun a hk=>?_
  refine o_call hk cb_151 (appendUvarint_ok (hm.row (i:=0) rfl) (1 + k) (by omega) (by rw [show 1 + k = k + 1 by omega]; exact hroom)) ⟨rfl,rfl,trivial⟩ rfl fun v1 w a hR hk=>?_
  have hm:=hm.rowCall (i:=0) rfl hR
  refine oA0 hk rfl rfl fun a hk=>?_
  refine cE0 ?_
  refine wp_ret ?_
  refine bT0 rfl hk rfl ?_
  have hr:=hm.rowTo (i:=0) rfl
  rw [show 1 + k = k + 1 by omega] at hr
  exact hr
end Go.Proofs.YthblgheenamnhaaGreatDoorR
