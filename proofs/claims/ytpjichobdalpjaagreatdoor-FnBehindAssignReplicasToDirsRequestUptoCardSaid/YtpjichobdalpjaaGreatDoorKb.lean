/- Walks of functions that the laws of this seat reach. No statement of the seat stands here. -/
import Derived.Test.YtpjichobdalpjaaGreatDoorL3
import Derived.Test.YtpjichobdalpjaaGreatDoorRows
import Derived.Test.YtpjichobdalpjaaGreatDoorFa
namespace Go.Proofs.YtpjichobdalpjaaGreatDoor
open Go Go.Mk
theorem appendUint16_c {w0 : World} {v : Value} {n : Nat} {xs : List Value} (hrow : w0.ownsRow 0 5 1 v n xs) (i : Int) (hroom : n + 2 ≤ room) : Puts Tryz.prog 5 210 [v, .int .u16 i] v n xs (fixed i 2) w0 := by
  refine c_call Tryz.func210 rfl rfl fun a hk => ?_
  have hk : Kn 13 [(0, v), (1, .int .u16 i)] a := hk
  have hm : Mem w0 (fun k => v.ownBlock = some k) (fun k => v.ownBlock = some k) [.row 5 1 v n xs] w0 := Mem.startRow hrow (fun _ h => h) rfl (by simp only [List.not_mem_nil, false_imp_iff, implies_true])
  refine c_region ?_
  refine o_assign hk rfl rfl fun a hk => ?_
  refine c_end ?_
  refine c_region ?_
  refine o_move hk rfl rfl fun a hk => ?_
  refine o_move hk rfl rfl fun a hk => ?_
  refine o_shr (s := 8) (c := i / 2 ^ 8) hk rfl rfl rfl rfl fun a hk => ?_
  refine o_convInt (c := IntKind.u8.wrap (i / 2 ^ 8)) hk un_226 ti_5 rfl rfl rfl fun a hk => ?_
  refine o_move hk rfl rfl fun a hk => ?_
  refine o_convInt (c := IntKind.u8.wrap i) hk un_226 ti_5 rfl rfl rfl fun a hk => ?_
  refine o_buildSlice (r := [.int .u8 (IntKind.u8.wrap (i / 2 ^ 8)), .int .u8 (IntKind.u8.wrap i)]) hk hm rt_22 tz_5 rfl rfl rfl ⟨_, _, _, rfl, rfl, rfl, rfl, _, _, _, rfl, rfl, rfl, rfl, rfl⟩ rfl fun a b1 w hk hm => ?_
  refine o_append (i := 1) hk hm rt_22 rfl rfl rfl (src_cells (k := 2) (news := [.int .u8 (IntKind.u8.wrap (i / 2 ^ 8)), .int .u8 (IntKind.u8.wrap i)]) te_22 rfl (hm.cells_blk (i := 0) rfl rfl) rfl) (room_len (by omega)) (room_by (by omega)) rfl fun a v2 w hk hm hnilv2 => ?_
  refine o_assign hk rfl rfl fun a hk => ?_
  refine c_end ?_
  refine wp_ret ?_
  refine b_retTmp rfl hk rfl ?_
  have hr := hm.rowTo (i := 1) rfl
  rw [fixed_length, bv_fixed2]; exact hr
theorem appendUint32_c {w0 : World} {v : Value} {n : Nat} {xs : List Value} (hrow : w0.ownsRow 0 5 1 v n xs) (i : Int) (hroom : n + 4 ≤ room) : Puts Tryz.prog 5 203 [v, .int .u32 i] v n xs (fixed i 4) w0 := by
  refine c_call Tryz.func203 rfl rfl fun a hk => ?_
  have hk : Kn 19 [(0, v), (1, .int .u32 i)] a := hk
  have hm : Mem w0 (fun k => v.ownBlock = some k) (fun k => v.ownBlock = some k) [.row 5 1 v n xs] w0 := Mem.startRow hrow (fun _ h => h) rfl (by simp only [List.not_mem_nil, false_imp_iff, implies_true])
  refine c_region ?_
  refine o_assign hk rfl rfl fun a hk => ?_
  refine c_end ?_
  refine c_region ?_
  refine o_move hk rfl rfl fun a hk => ?_
  refine o_move hk rfl rfl fun a hk => ?_
  refine o_shr (s := 24) (c := i / 2 ^ 24) hk rfl rfl rfl rfl fun a hk => ?_
  refine o_convInt (c := IntKind.u8.wrap (i / 2 ^ 24)) hk un_68 ti_5 rfl rfl rfl fun a hk => ?_
  refine o_move hk rfl rfl fun a hk => ?_
  refine o_shr (s := 16) (c := i / 2 ^ 16) hk rfl rfl rfl rfl fun a hk => ?_
  refine o_convInt (c := IntKind.u8.wrap (i / 2 ^ 16)) hk un_68 ti_5 rfl rfl rfl fun a hk => ?_
  refine o_move hk rfl rfl fun a hk => ?_
  refine o_shr (s := 8) (c := i / 2 ^ 8) hk rfl rfl rfl rfl fun a hk => ?_
  refine o_convInt (c := IntKind.u8.wrap (i / 2 ^ 8)) hk un_68 ti_5 rfl rfl rfl fun a hk => ?_
  refine o_move hk rfl rfl fun a hk => ?_
  refine o_convInt (c := IntKind.u8.wrap i) hk un_68 ti_5 rfl rfl rfl fun a hk => ?_
  refine o_buildSlice (r := [.int .u8 (IntKind.u8.wrap (i / 2 ^ 24)), .int .u8 (IntKind.u8.wrap (i / 2 ^ 16)), .int .u8 (IntKind.u8.wrap (i / 2 ^ 8)), .int .u8 (IntKind.u8.wrap i)]) hk hm rt_22 tz_5 rfl rfl rfl ⟨_, _, _, rfl, rfl, rfl, rfl, _, _, _, rfl, rfl, rfl, rfl, _, _, _, rfl, rfl, rfl, rfl, _, _, _, rfl, rfl, rfl, rfl, rfl⟩ rfl fun a b1 w hk hm => ?_
  refine o_append (i := 1) hk hm rt_22 rfl rfl rfl (src_cells (k := 4) (news := [.int .u8 (IntKind.u8.wrap (i / 2 ^ 24)), .int .u8 (IntKind.u8.wrap (i / 2 ^ 16)), .int .u8 (IntKind.u8.wrap (i / 2 ^ 8)), .int .u8 (IntKind.u8.wrap i)]) te_22 rfl (hm.cells_blk (i := 0) rfl rfl) rfl) (room_len (by omega)) (room_by (by omega)) rfl fun a v2 w hk hm hnilv2 => ?_
  refine o_assign hk rfl rfl fun a hk => ?_
  refine c_end ?_
  refine wp_ret ?_
  refine b_retTmp rfl hk rfl ?_
  have hr := hm.rowTo (i := 1) rfl
  rw [fixed_length, bv_fixed4]; exact hr
theorem appendUint64_c {w0 : World} {v : Value} {n : Nat} {xs : List Value} (hrow : w0.ownsRow 0 5 1 v n xs) (i : Int) (hroom : n + 8 ≤ room) : Puts Tryz.prog 5 208 [v, .int .u64 i] v n xs (fixed i 8) w0 := by
  refine c_call Tryz.func208 rfl rfl fun a hk => ?_
  have hk : Kn 31 [(0, v), (1, .int .u64 i)] a := hk
  have hm : Mem w0 (fun k => v.ownBlock = some k) (fun k => v.ownBlock = some k) [.row 5 1 v n xs] w0 := Mem.startRow hrow (fun _ h => h) rfl (by simp only [List.not_mem_nil, false_imp_iff, implies_true])
  refine c_region ?_
  refine o_assign hk rfl rfl fun a hk => ?_
  refine c_end ?_
  refine c_region ?_
  refine o_move hk rfl rfl fun a hk => ?_
  refine o_move hk rfl rfl fun a hk => ?_
  refine o_shr (s := 56) (c := i / 2 ^ 56) hk rfl rfl rfl rfl fun a hk => ?_
  refine o_convInt (c := IntKind.u8.wrap (i / 2 ^ 56)) hk un_115 ti_5 rfl rfl rfl fun a hk => ?_
  refine o_move hk rfl rfl fun a hk => ?_
  refine o_shr (s := 48) (c := i / 2 ^ 48) hk rfl rfl rfl rfl fun a hk => ?_
  refine o_convInt (c := IntKind.u8.wrap (i / 2 ^ 48)) hk un_115 ti_5 rfl rfl rfl fun a hk => ?_
  refine o_move hk rfl rfl fun a hk => ?_
  refine o_shr (s := 40) (c := i / 2 ^ 40) hk rfl rfl rfl rfl fun a hk => ?_
  refine o_convInt (c := IntKind.u8.wrap (i / 2 ^ 40)) hk un_115 ti_5 rfl rfl rfl fun a hk => ?_
  refine o_move hk rfl rfl fun a hk => ?_
  refine o_shr (s := 32) (c := i / 2 ^ 32) hk rfl rfl rfl rfl fun a hk => ?_
  refine o_convInt (c := IntKind.u8.wrap (i / 2 ^ 32)) hk un_115 ti_5 rfl rfl rfl fun a hk => ?_
  refine o_move hk rfl rfl fun a hk => ?_
  refine o_shr (s := 24) (c := i / 2 ^ 24) hk rfl rfl rfl rfl fun a hk => ?_
  refine o_convInt (c := IntKind.u8.wrap (i / 2 ^ 24)) hk un_115 ti_5 rfl rfl rfl fun a hk => ?_
  refine o_move hk rfl rfl fun a hk => ?_
  refine o_shr (s := 16) (c := i / 2 ^ 16) hk rfl rfl rfl rfl fun a hk => ?_
  refine o_convInt (c := IntKind.u8.wrap (i / 2 ^ 16)) hk un_115 ti_5 rfl rfl rfl fun a hk => ?_
  refine o_move hk rfl rfl fun a hk => ?_
  refine o_shr (s := 8) (c := i / 2 ^ 8) hk rfl rfl rfl rfl fun a hk => ?_
  refine o_convInt (c := IntKind.u8.wrap (i / 2 ^ 8)) hk un_115 ti_5 rfl rfl rfl fun a hk => ?_
  refine o_move hk rfl rfl fun a hk => ?_
  refine o_convInt (c := IntKind.u8.wrap i) hk un_115 ti_5 rfl rfl rfl fun a hk => ?_
  refine o_buildSlice (r := [.int .u8 (IntKind.u8.wrap (i / 2 ^ 56)), .int .u8 (IntKind.u8.wrap (i / 2 ^ 48)), .int .u8 (IntKind.u8.wrap (i / 2 ^ 40)), .int .u8 (IntKind.u8.wrap (i / 2 ^ 32)), .int .u8 (IntKind.u8.wrap (i / 2 ^ 24)), .int .u8 (IntKind.u8.wrap (i / 2 ^ 16)), .int .u8 (IntKind.u8.wrap (i / 2 ^ 8)), .int .u8 (IntKind.u8.wrap i)]) hk hm rt_22 tz_5 rfl rfl rfl ⟨_, _, _, rfl, rfl, rfl, rfl, _, _, _, rfl, rfl, rfl, rfl, _, _, _, rfl, rfl, rfl, rfl, _, _, _, rfl, rfl, rfl, rfl, _, _, _, rfl, rfl, rfl, rfl, _, _, _, rfl, rfl, rfl, rfl, _, _, _, rfl, rfl, rfl, rfl, _, _, _, rfl, rfl, rfl, rfl, rfl⟩ rfl fun a b1 w hk hm => ?_
  refine o_append (i := 1) hk hm rt_22 rfl rfl rfl (src_cells (k := 8) (news := [.int .u8 (IntKind.u8.wrap (i / 2 ^ 56)), .int .u8 (IntKind.u8.wrap (i / 2 ^ 48)), .int .u8 (IntKind.u8.wrap (i / 2 ^ 40)), .int .u8 (IntKind.u8.wrap (i / 2 ^ 32)), .int .u8 (IntKind.u8.wrap (i / 2 ^ 24)), .int .u8 (IntKind.u8.wrap (i / 2 ^ 16)), .int .u8 (IntKind.u8.wrap (i / 2 ^ 8)), .int .u8 (IntKind.u8.wrap i)]) te_22 rfl (hm.cells_blk (i := 0) rfl rfl) rfl) (room_len (by omega)) (room_by (by omega)) rfl fun a v2 w hk hm hnilv2 => ?_
  refine o_assign hk rfl rfl fun a hk => ?_
  refine c_end ?_
  refine wp_ret ?_
  refine b_retTmp rfl hk rfl ?_
  have hr := hm.rowTo (i := 1) rfl
  rw [fixed_length, bv_fixed8]; exact hr
theorem appendInt16_c {w0 : World} {v : Value} {n : Nat} {xs : List Value} (hrow : w0.ownsRow 0 5 1 v n xs) (i : Int) (hroom : n + 2 ≤ room) : Puts Tryz.prog 5 147 [v, .int .i16 i] v n xs (fixed i 2) w0 := by
  refine c_call Tryz.func147 rfl rfl fun a hk => ?_
  have hk : Kn 9 [(0, v), (1, .int .i16 i)] a := hk
  have hm : Mem w0 (fun k => v.ownBlock = some k) (fun k => v.ownBlock = some k) [.row 5 1 v n xs] w0 := Mem.startRow hrow (fun _ h => h) rfl (by simp only [List.not_mem_nil, false_imp_iff, implies_true])
  refine c_region ?_
  refine o_assign hk rfl rfl fun a hk => ?_
  refine c_end ?_
  refine c_region ?_
  refine o_move hk rfl rfl fun a hk => ?_
  refine o_move hk rfl rfl fun a hk => ?_
  refine o_convInt (c := IntKind.u16.wrap i) hk un_50 ti_226 rfl rfl rfl fun a hk => ?_
  refine o_call hk cb_210 (appendUint16_c (hm.row (i := 0) rfl) (IntKind.u16.wrap i) (by omega)) ⟨rfl, rfl, trivial⟩ rfl fun v1 w a hR hk => ?_
  have hm := hm.rowCall (i := 0) rfl hR
  refine o_assign hk rfl rfl fun a hk => ?_
  refine c_end ?_
  refine wp_ret ?_
  refine b_retTmp rfl hk rfl ?_
  have hr := hm.rowTo (i := 0) rfl
  rw [fixed_length] at hr ⊢; rw [fixed_u16] at hr; exact hr
theorem appendInt32_c {w0 : World} {v : Value} {n : Nat} {xs : List Value} (hrow : w0.ownsRow 0 5 1 v n xs) (i : Int) (hroom : n + 4 ≤ room) : Puts Tryz.prog 5 137 [v, .int .i32 i] v n xs (fixed i 4) w0 := by
  refine c_call Tryz.func137 rfl rfl fun a hk => ?_
  have hk : Kn 9 [(0, v), (1, .int .i32 i)] a := hk
  have hm : Mem w0 (fun k => v.ownBlock = some k) (fun k => v.ownBlock = some k) [.row 5 1 v n xs] w0 := Mem.startRow hrow (fun _ h => h) rfl (by simp only [List.not_mem_nil, false_imp_iff, implies_true])
  refine c_region ?_
  refine o_assign hk rfl rfl fun a hk => ?_
  refine c_end ?_
  refine c_region ?_
  refine o_move hk rfl rfl fun a hk => ?_
  refine o_move hk rfl rfl fun a hk => ?_
  refine o_convInt (c := IntKind.u32.wrap i) hk un_21 ti_68 rfl rfl rfl fun a hk => ?_
  refine o_call hk cb_203 (appendUint32_c (hm.row (i := 0) rfl) (IntKind.u32.wrap i) (by omega)) ⟨rfl, rfl, trivial⟩ rfl fun v1 w a hR hk => ?_
  have hm := hm.rowCall (i := 0) rfl hR
  refine o_assign hk rfl rfl fun a hk => ?_
  refine c_end ?_
  refine wp_ret ?_
  refine b_retTmp rfl hk rfl ?_
  have hr := hm.rowTo (i := 0) rfl
  rw [fixed_length] at hr ⊢; rw [fixed_u32] at hr; exact hr
theorem appendInt64_c {w0 : World} {v : Value} {n : Nat} {xs : List Value} (hrow : w0.ownsRow 0 5 1 v n xs) (i : Int) (hroom : n + 8 ≤ room) : Puts Tryz.prog 5 143 [v, .int .i64 i] v n xs (fixed i 8) w0 := by
  refine c_call Tryz.func143 rfl rfl fun a hk => ?_
  have hk : Kn 9 [(0, v), (1, .int .i64 i)] a := hk
  have hm : Mem w0 (fun k => v.ownBlock = some k) (fun k => v.ownBlock = some k) [.row 5 1 v n xs] w0 := Mem.startRow hrow (fun _ h => h) rfl (by simp only [List.not_mem_nil, false_imp_iff, implies_true])
  refine c_region ?_
  refine o_assign hk rfl rfl fun a hk => ?_
  refine c_end ?_
  refine c_region ?_
  refine o_move hk rfl rfl fun a hk => ?_
  refine o_move hk rfl rfl fun a hk => ?_
  refine o_convInt (c := IntKind.u64.wrap i) hk un_2 ti_115 rfl rfl rfl fun a hk => ?_
  refine o_call hk cb_208 (appendUint64_c (hm.row (i := 0) rfl) (IntKind.u64.wrap i) (by omega)) ⟨rfl, rfl, trivial⟩ rfl fun v1 w a hR hk => ?_
  have hm := hm.rowCall (i := 0) rfl hR
  refine o_assign hk rfl rfl fun a hk => ?_
  refine c_end ?_
  refine wp_ret ?_
  refine b_retTmp rfl hk rfl ?_
  have hr := hm.rowTo (i := 0) rfl
  rw [fixed_length] at hr ⊢; rw [fixed_u64] at hr; exact hr
theorem appendArrayLen_c {w0 : World} {v : Value} {n : Nat} {xs : List Value} (hrow : w0.ownsRow 0 5 1 v n xs) (i : Int) (hroom : n + 4 ≤ room) : Puts Tryz.prog 5 128 [v, .int .i64 i] v n xs (fixed i 4) w0 := by
  refine c_call Tryz.func128 rfl rfl fun a hk => ?_
  have hk : Kn 9 [(0, v), (1, .int .i64 i)] a := hk
  have hm : Mem w0 (fun k => v.ownBlock = some k) (fun k => v.ownBlock = some k) [.row 5 1 v n xs] w0 := Mem.startRow hrow (fun _ h => h) rfl (by simp only [List.not_mem_nil, false_imp_iff, implies_true])
  refine c_region ?_
  refine o_assign hk rfl rfl fun a hk => ?_
  refine c_end ?_
  refine c_region ?_
  refine o_move hk rfl rfl fun a hk => ?_
  refine o_move hk rfl rfl fun a hk => ?_
  refine o_convInt (c := IntKind.i32.wrap i) hk un_3 ti_21 rfl rfl rfl fun a hk => ?_
  refine o_call hk cb_137 (appendInt32_c (hm.row (i := 0) rfl) (IntKind.i32.wrap i) (by omega)) ⟨rfl, rfl, trivial⟩ rfl fun v1 w a hR hk => ?_
  have hm := hm.rowCall (i := 0) rfl hR
  refine o_assign hk rfl rfl fun a hk => ?_
  refine c_end ?_
  refine wp_ret ?_
  refine b_retTmp rfl hk rfl ?_
  have hr := hm.rowTo (i := 0) rfl
  rw [fixed_length] at hr ⊢; rw [fixed_i32] at hr; exact hr
theorem appendString_c {w0 : World} {v : Value} {n : Nat} {xs : List Value} (hrow : w0.ownsRow 0 5 1 v n xs) (s : List UInt8) (hroom : n + (2 + s.length) ≤ room) : Puts Tryz.prog 5 130 [v, .string (bs s)] v n xs (fixed (s.length : Int) 2 ++ s) w0 := by
  refine c_call Tryz.func130 rfl rfl fun a hk => ?_
  have hk : Kn 13 [(0, v), (1, .string (bs s))] a := hk
  have hm : Mem w0 (fun k => v.ownBlock = some k) (fun k => v.ownBlock = some k) [.row 5 1 v n xs] w0 := Mem.startRow hrow (fun _ h => h) rfl (by simp only [List.not_mem_nil, false_imp_iff, implies_true])
  refine c_region ?_
  refine o_assign hk rfl rfl fun a hk => ?_
  refine c_end ?_
  refine c_region ?_
  refine o_move hk rfl rfl fun a hk => ?_
  refine o_move hk rfl rfl fun a hk => ?_
  refine o_lenStr hk is_9 rfl rfl fun a hk => ?_
  refine o_convInt (c := IntKind.i16.wrap ((bs s).size : Int)) hk un_3 ti_50 rfl rfl rfl fun a hk => ?_
  refine o_call hk cb_147 (appendInt16_c (hm.row (i := 0) rfl) (IntKind.i16.wrap ((bs s).size : Int)) (by omega)) ⟨rfl, rfl, trivial⟩ rfl fun v1 w a hR hk => ?_
  have hm := hm.rowCall (i := 0) rfl hR
  refine o_assign hk rfl rfl fun a hk => ?_
  refine c_end ?_
  refine c_region ?_
  refine o_move hk rfl rfl fun a hk => ?_
  refine o_move hk rfl rfl fun a hk => ?_
  refine o_append (i := 0) hk hm rt_22 rfl rfl rfl (src_str is_9 (bs s)) (room_len (by simp only [bs_size, fixed_length]; omega)) (room_by (by simp only [bs_size, fixed_length]; omega)) rfl fun a v2 w hk hm hnilv2 => ?_
  refine o_assign hk rfl rfl fun a hk => ?_
  refine c_end ?_
  refine wp_ret ?_
  refine b_retTmp rfl hk rfl ?_
  have hr := hm.rowTo (i := 0) rfl
  have e1 : fixed (IntKind.i16.wrap ((bs s).size : Int)) 2 = fixed (s.length : Int) 2 := by rw [fixed_i16, bs_size]
  rw [byteCells_bs, e1, bs_size] at hr
  rw [List.length_append, bv_append, ← Nat.add_assoc, ← List.append_assoc]; exact hr
theorem len32_c (u : Nat) (hu : u < 4294967296) (w0 : World) : Ret Tryz.prog 235 [.int .u32 (u : Int)] w0 fun v w' => v = .int .i64 ((bl32 u : Nat) : Int) ∧ w' = w0 := by
  refine c_call Tryz.func235 rfl rfl fun a hk => ?_
  have hk : Kn 19 [(0, .int .u32 ((u : Nat) : Int))] a := hk
  refine c_region ?_
  refine o_assign hk rfl rfl fun a hk => ?_
  refine c_end ?_
  refine wp_seq ?_
  refine c_region ?_
  refine o_move hk rfl rfl fun a hk => ?_
  refine o_icmp hk rfl rfl rfl rfl fun a hk => ?_
  refine c_end ?_
  refine c_cond hk rfl (fun hc => ?_) (fun hc => ?_)
  · simp only [decide_eq_true_eq, decide_eq_false_iff_not, beq_iff_eq, beq_eq_false_iff_ne, ne_eq] at hc
    refine c_region ?_
    refine o_move hk rfl rfl fun a hk => ?_
    refine o_shr (s := 16) (c := ((u / 65536 : Nat) : Int)) hk rfl rfl (shr_lit (by decide)) rfl fun a hk => ?_
    refine o_assign hk rfl rfl fun a hk => ?_
    refine c_end ?_
    refine c_reg ?_
    refine o_assign hk rfl rfl fun a hk => ?_
    refine c_endQ ?_
    refine c_then ?_
    refine wp_seq ?_
    refine c_region ?_
    refine o_move hk rfl rfl fun a hk => ?_
    refine o_icmp hk rfl rfl rfl rfl fun a hk => ?_
    refine c_end ?_
    refine c_cond hk rfl (fun hc => ?_) (fun hc => ?_)
    · simp only [decide_eq_true_eq, decide_eq_false_iff_not, beq_iff_eq, beq_eq_false_iff_ne, ne_eq] at hc
      refine c_region ?_
      refine o_move hk rfl rfl fun a hk => ?_
      refine o_shr (s := 8) (c := (((u / 65536) / 256 : Nat) : Int)) hk rfl rfl (shr_lit (by decide)) rfl fun a hk => ?_
      refine o_assign hk rfl rfl fun a hk => ?_
      refine c_end ?_
      refine c_reg ?_
      refine o_move hk rfl rfl fun a hk => ?_
      refine o_iarith (c := ((16 + 8 : Nat) : Int)) hk rfl rfl rfl (by rw [IntWalk.i64_in _ (by omega)]; omega) rfl fun a hk => ?_
      refine o_assign hk rfl rfl fun a hk => ?_
      refine c_endQ ?_
      refine c_then ?_
      refine c_region ?_
      refine o_move hk rfl rfl fun a hk => ?_
      refine o_move hk rfl rfl fun a hk => ?_
      refine o_convInt (c := (((u / 65536) / 256 : Nat) : Int)) hk un_68 ti_5 rfl (by rw [IntKind.wrap_u8]; omega) rfl fun a hk => ?_
      refine o_indexTab (j := ((u / 65536) / 256)) (f := bl8) hk is_9 rfl rfl (by omega) (by kernel_rfl) rfl fun a hk => ?_
      have hb8 := bl8_le (i := (u / 65536) / 256)
      refine o_convInt (c := ((bl8 ((u / 65536) / 256) : Nat) : Int)) hk un_5 ti_3 rfl (IntWalk.i64_in _ (by omega)) rfl fun a hk => ?_
      refine o_iarith (c := (((16 + 8) + (bl8 ((u / 65536) / 256)) : Nat) : Int)) hk rfl rfl rfl (by rw [IntWalk.i64_in _ (by omega)]; omega) rfl fun a hk => ?_
      refine o_assign hk rfl rfl fun a hk => ?_
      refine c_end ?_
      refine wp_ret ?_
      refine b_retTmp rfl hk rfl ?_
      exact ⟨by rw [show bl32 u = (16 + 8) + (bl8 ((u / 65536) / 256)) by unfold bl32 bl16; (repeat' split) <;> omega], rfl⟩
    · simp only [decide_eq_true_eq, decide_eq_false_iff_not, beq_iff_eq, beq_eq_false_iff_ne, ne_eq] at hc
      refine wp_skip ?_
      refine c_then ?_
      refine c_region ?_
      refine o_move hk rfl rfl fun a hk => ?_
      refine o_move hk rfl rfl fun a hk => ?_
      refine o_convInt (c := ((u / 65536 : Nat) : Int)) hk un_68 ti_5 rfl (by rw [IntKind.wrap_u8]; omega) rfl fun a hk => ?_
      refine o_indexTab (j := (u / 65536)) (f := bl8) hk is_9 rfl rfl (by omega) (by kernel_rfl) rfl fun a hk => ?_
      have hb8 := bl8_le (i := u / 65536)
      refine o_convInt (c := ((bl8 (u / 65536) : Nat) : Int)) hk un_5 ti_3 rfl (IntWalk.i64_in _ (by omega)) rfl fun a hk => ?_
      refine o_iarith (c := ((16 + (bl8 (u / 65536)) : Nat) : Int)) hk rfl rfl rfl (by rw [IntWalk.i64_in _ (by omega)]; omega) rfl fun a hk => ?_
      refine o_assign hk rfl rfl fun a hk => ?_
      refine c_end ?_
      refine wp_ret ?_
      refine b_retTmp rfl hk rfl ?_
      exact ⟨by rw [show bl32 u = 16 + (bl8 (u / 65536)) by unfold bl32 bl16; (repeat' split) <;> omega], rfl⟩
  · simp only [decide_eq_true_eq, decide_eq_false_iff_not, beq_iff_eq, beq_eq_false_iff_ne, ne_eq] at hc
    refine wp_skip ?_
    refine c_then ?_
    refine wp_seq ?_
    refine c_region ?_
    refine o_move hk rfl rfl fun a hk => ?_
    refine o_icmp hk rfl rfl rfl rfl fun a hk => ?_
    refine c_end ?_
    refine c_cond hk rfl (fun hc => ?_) (fun hc => ?_)
    · simp only [decide_eq_true_eq, decide_eq_false_iff_not, beq_iff_eq, beq_eq_false_iff_ne, ne_eq] at hc
      refine c_region ?_
      refine o_move hk rfl rfl fun a hk => ?_
      refine o_shr (s := 8) (c := ((u / 256 : Nat) : Int)) hk rfl rfl (shr_lit (by decide)) rfl fun a hk => ?_
      refine o_assign hk rfl rfl fun a hk => ?_
      refine c_end ?_
      refine c_reg ?_
      refine o_move hk rfl rfl fun a hk => ?_
      refine o_iarith (c := ((0 + 8 : Nat) : Int)) hk rfl rfl rfl (by rw [IntWalk.i64_in _ (by omega)]; omega) rfl fun a hk => ?_
      refine o_assign hk rfl rfl fun a hk => ?_
      refine c_endQ ?_
      refine c_then ?_
      refine c_region ?_
      refine o_move hk rfl rfl fun a hk => ?_
      refine o_move hk rfl rfl fun a hk => ?_
      refine o_convInt (c := ((u / 256 : Nat) : Int)) hk un_68 ti_5 rfl (by rw [IntKind.wrap_u8]; omega) rfl fun a hk => ?_
      refine o_indexTab (j := (u / 256)) (f := bl8) hk is_9 rfl rfl (by omega) (by kernel_rfl) rfl fun a hk => ?_
      have hb8 := bl8_le (i := u / 256)
      refine o_convInt (c := ((bl8 (u / 256) : Nat) : Int)) hk un_5 ti_3 rfl (IntWalk.i64_in _ (by omega)) rfl fun a hk => ?_
      refine o_iarith (c := (((0 + 8) + (bl8 (u / 256)) : Nat) : Int)) hk rfl rfl rfl (by rw [IntWalk.i64_in _ (by omega)]; omega) rfl fun a hk => ?_
      refine o_assign hk rfl rfl fun a hk => ?_
      refine c_end ?_
      refine wp_ret ?_
      refine b_retTmp rfl hk rfl ?_
      exact ⟨by rw [show bl32 u = (0 + 8) + (bl8 (u / 256)) by unfold bl32 bl16; (repeat' split) <;> omega], rfl⟩
    · simp only [decide_eq_true_eq, decide_eq_false_iff_not, beq_iff_eq, beq_eq_false_iff_ne, ne_eq] at hc
      refine wp_skip ?_
      refine c_then ?_
      refine c_region ?_
      refine o_move hk rfl rfl fun a hk => ?_
      refine o_move hk rfl rfl fun a hk => ?_
      refine o_convInt (c := ((u : Nat) : Int)) hk un_68 ti_5 rfl (by rw [IntKind.wrap_u8]; omega) rfl fun a hk => ?_
      refine o_indexTab (j := u) (f := bl8) hk is_9 rfl rfl (by omega) (by kernel_rfl) rfl fun a hk => ?_
      have hb8 := bl8_le (i := u)
      refine o_convInt (c := ((bl8 u : Nat) : Int)) hk un_5 ti_3 rfl (IntWalk.i64_in _ (by omega)) rfl fun a hk => ?_
      refine o_iarith (c := ((0 + (bl8 u) : Nat) : Int)) hk rfl rfl rfl (by rw [IntWalk.i64_in _ (by omega)]; omega) rfl fun a hk => ?_
      refine o_assign hk rfl rfl fun a hk => ?_
      refine c_end ?_
      refine wp_ret ?_
      refine b_retTmp rfl hk rfl ?_
      exact ⟨by rw [show bl32 u = 0 + (bl8 u) by unfold bl32 bl16; (repeat' split) <;> omega], rfl⟩
theorem uvarintLen_c (u : Nat) (hu : u < 4294967296) (w0 : World) : Ret Tryz.prog 200 [.int .u32 (u : Int)] w0 fun v w' => v = .int .i64 ((uvLen u : Nat) : Int) ∧ w' = w0 := by
  refine c_call Tryz.func200 rfl rfl fun a hk => ?_
  have hk : Kn 8 [(0, .int .u32 ((u : Nat) : Int))] a := hk
  have hb := bl32_le (u := u)
  have hg := grp_uv hu
  have hgl : grp (bl32 u) < 256 := by rw [hg]; unfold uvLen; (repeat' split) <;> omega
  refine c_region ?_
  refine o_assign hk rfl rfl fun a hk => ?_
  refine c_end ?_
  refine c_region ?_
  refine o_move hk rfl rfl fun a hk => ?_
  refine o_call hk cb_235 (len32_c u hu w0) ⟨rfl, trivial⟩ rfl fun v w a hR hk => ?_
  obtain ⟨rfl, hw⟩ := hR
  obtain rfl : w0 = w := hw.symm
  refine o_convInt (c := ((bl32 u : Nat) : Int)) hk un_3 ti_5 rfl (by rw [IntKind.wrap_u8]; omega) rfl fun a hk => ?_
  refine o_indexTab (j := (bl32 u)) (f := grp) hk is_9 rfl rfl (by omega) (by kernel_rfl) rfl fun a hk => ?_
  refine o_convInt (c := ((grp (bl32 u) : Nat) : Int)) hk un_5 ti_3 rfl (IntWalk.i64_in _ (by omega)) rfl fun a hk => ?_
  refine o_assign hk rfl rfl fun a hk => ?_
  refine c_end ?_
  refine wp_ret ?_
  refine b_retTmp rfl hk rfl ?_
  exact ⟨by rw [hg], rfl⟩
theorem appendUvarint_ok : Ea.Ok Tryz.prog 5 132 (.uv) := by
  intro w0 v n xs hrow u hu hroom
  have hl := uvarint_len32 hu
  have hb := bv_uvarint hu
  rw [hl] at hroom
  unfold uvLen at hroom hl
  unfold uvB at hb
  refine c_call Tryz.func132 rfl rfl fun a hk => ?_
  have hk : Kn 93 [(0, v), (1, .int .u32 ((u : Nat) : Int))] a := hk
  have hm : Mem w0 (fun k => v.ownBlock = some k) (fun k => v.ownBlock = some k) [.row 5 1 v n xs] w0 := Mem.startRow hrow (fun _ h => h) rfl (by simp only [List.not_mem_nil, false_imp_iff, implies_true])
  refine c_region ?_
  refine o_assign hk rfl rfl fun a hk => ?_
  refine c_end ?_
  refine wp_seq ?_
  refine c_region ?_
  refine o_move hk rfl rfl fun a hk => ?_
  refine o_call hk cb_200 (uvarintLen_c u hu w0) ⟨rfl, trivial⟩ rfl fun v1 w a hR hk => ?_
  obtain ⟨rfl, hw⟩ := hR
  obtain rfl : w0 = w := hw.symm
  refine c_end ?_
  refine wp_block ?_
  refine c_region ?_
  refine o_icmp hk rfl rfl rfl rfl fun a hk => ?_
  refine o_assign hk rfl rfl fun a hk => ?_
  refine c_end ?_
  refine c_cond hk rfl (fun hc => ?_) (fun hc => ?_)
  · have hcu := hc
    simp only [beq_iff_eq, beq_eq_false_iff_ne, ne_eq] at hcu
    unfold uvLen at hcu
    replace hcu : 268435456 ≤ u := by (repeat' split at hcu) <;> omega
    refine c_region ?_
    refine o_move hk rfl rfl fun a hk => ?_
    refine o_move hk rfl rfl fun a hk => ?_
    refine o_ibits (c := ((u % 128 : Nat) : Int)) hk rfl rfl (and127_u32 _ (by omega)) rfl fun a hk => ?_
    refine o_ibits (c := (((u % 128) + 128 : Nat) : Int)) hk rfl rfl (or128_u32 _ (by omega)) rfl fun a hk => ?_
    refine o_convInt (c := (((u % 128) + 128 : Nat) : Int)) hk un_68 ti_5 rfl (by rw [IntKind.wrap_u8]; omega) rfl fun a hk => ?_
    refine o_move hk rfl rfl fun a hk => ?_
    refine o_shr (s := 7) (c := ((u / 128 : Nat) : Int)) hk rfl rfl (shr_lit (by decide)) rfl fun a hk => ?_
    refine o_ibits (c := (((u / 128) % 128 : Nat) : Int)) hk rfl rfl (and127_u32 _ (by omega)) rfl fun a hk => ?_
    refine o_ibits (c := ((((u / 128) % 128) + 128 : Nat) : Int)) hk rfl rfl (or128_u32 _ (by omega)) rfl fun a hk => ?_
    refine o_convInt (c := ((((u / 128) % 128) + 128 : Nat) : Int)) hk un_68 ti_5 rfl (by rw [IntKind.wrap_u8]; omega) rfl fun a hk => ?_
    refine o_move hk rfl rfl fun a hk => ?_
    refine o_shr (s := 14) (c := ((u / 16384 : Nat) : Int)) hk rfl rfl (shr_lit (by decide)) rfl fun a hk => ?_
    refine o_ibits (c := (((u / 16384) % 128 : Nat) : Int)) hk rfl rfl (and127_u32 _ (by omega)) rfl fun a hk => ?_
    refine o_ibits (c := ((((u / 16384) % 128) + 128 : Nat) : Int)) hk rfl rfl (or128_u32 _ (by omega)) rfl fun a hk => ?_
    refine o_convInt (c := ((((u / 16384) % 128) + 128 : Nat) : Int)) hk un_68 ti_5 rfl (by rw [IntKind.wrap_u8]; omega) rfl fun a hk => ?_
    refine o_move hk rfl rfl fun a hk => ?_
    refine o_shr (s := 21) (c := ((u / 2097152 : Nat) : Int)) hk rfl rfl (shr_lit (by decide)) rfl fun a hk => ?_
    refine o_ibits (c := (((u / 2097152) % 128 : Nat) : Int)) hk rfl rfl (and127_u32 _ (by omega)) rfl fun a hk => ?_
    refine o_ibits (c := ((((u / 2097152) % 128) + 128 : Nat) : Int)) hk rfl rfl (or128_u32 _ (by omega)) rfl fun a hk => ?_
    refine o_convInt (c := ((((u / 2097152) % 128) + 128 : Nat) : Int)) hk un_68 ti_5 rfl (by rw [IntKind.wrap_u8]; omega) rfl fun a hk => ?_
    refine o_move hk rfl rfl fun a hk => ?_
    refine o_shr (s := 28) (c := ((u / 268435456 : Nat) : Int)) hk rfl rfl (shr_lit (by decide)) rfl fun a hk => ?_
    refine o_convInt (c := ((u / 268435456 : Nat) : Int)) hk un_68 ti_5 rfl (by rw [IntKind.wrap_u8]; omega) rfl fun a hk => ?_
    refine o_buildSlice (r := [.int .u8 (((u % 128) + 128 : Nat) : Int), .int .u8 ((((u / 128) % 128) + 128 : Nat) : Int), .int .u8 ((((u / 16384) % 128) + 128 : Nat) : Int), .int .u8 ((((u / 2097152) % 128) + 128 : Nat) : Int), .int .u8 ((u / 268435456 : Nat) : Int)]) hk hm rt_22 tz_5 rfl rfl rfl ⟨_, _, _, rfl, rfl, rfl, rfl, _, _, _, rfl, rfl, rfl, rfl, _, _, _, rfl, rfl, rfl, rfl, _, _, _, rfl, rfl, rfl, rfl, _, _, _, rfl, rfl, rfl, rfl, rfl⟩ rfl fun a b1 w hk hm => ?_
    refine o_append (i := 1) hk hm rt_22 rfl rfl rfl (src_cells (k := 5) (news := [.int .u8 (((u % 128) + 128 : Nat) : Int), .int .u8 ((((u / 128) % 128) + 128 : Nat) : Int), .int .u8 ((((u / 16384) % 128) + 128 : Nat) : Int), .int .u8 ((((u / 2097152) % 128) + 128 : Nat) : Int), .int .u8 ((u / 268435456 : Nat) : Int)]) te_22 rfl (hm.cells_blk (i := 0) rfl rfl) rfl) (room_len (by (repeat' split at hroom) <;> omega)) (room_by (by (repeat' split at hroom) <;> omega)) rfl fun a v2 w hk hm _ => ?_
    refine o_assign hk rfl rfl fun a hk => ?_
    refine c_end ?_
    refine wp_ret ?_
    refine c_inRet ?_
    refine c_thenRet ?_
    refine b_retTmp rfl hk rfl ?_
    have hr := hm.rowTo (i := 1) rfl
    have hl2 : (uvarint u).length = 5 := by rw [hl]; (repeat' split) <;> omega
    rw [if_neg (by omega), if_neg (by omega), if_neg (by omega), if_neg (by omega)] at hb
    rw [hb, hl2]
    exact hr
  · have hcu := hc
    simp only [beq_iff_eq, beq_eq_false_iff_ne, ne_eq] at hcu
    unfold uvLen at hcu
    replace hcu : u < 268435456 := by (repeat' split at hcu) <;> omega
    refine c_region ?_
    refine o_icmp hk rfl rfl rfl rfl fun a hk => ?_
    refine o_assign hk rfl rfl fun a hk => ?_
    refine c_end ?_
    refine c_cond hk rfl (fun hc => ?_) (fun hc => ?_)
    · have hcu := hc
      simp only [beq_iff_eq, beq_eq_false_iff_ne, ne_eq] at hcu
      unfold uvLen at hcu
      replace hcu : 2097152 ≤ u ∧ u < 268435456 := by (repeat' split at hcu) <;> omega
      refine c_region ?_
      refine o_move hk rfl rfl fun a hk => ?_
      refine o_move hk rfl rfl fun a hk => ?_
      refine o_ibits (c := ((u % 128 : Nat) : Int)) hk rfl rfl (and127_u32 _ (by omega)) rfl fun a hk => ?_
      refine o_ibits (c := (((u % 128) + 128 : Nat) : Int)) hk rfl rfl (or128_u32 _ (by omega)) rfl fun a hk => ?_
      refine o_convInt (c := (((u % 128) + 128 : Nat) : Int)) hk un_68 ti_5 rfl (by rw [IntKind.wrap_u8]; omega) rfl fun a hk => ?_
      refine o_move hk rfl rfl fun a hk => ?_
      refine o_shr (s := 7) (c := ((u / 128 : Nat) : Int)) hk rfl rfl (shr_lit (by decide)) rfl fun a hk => ?_
      refine o_ibits (c := (((u / 128) % 128 : Nat) : Int)) hk rfl rfl (and127_u32 _ (by omega)) rfl fun a hk => ?_
      refine o_ibits (c := ((((u / 128) % 128) + 128 : Nat) : Int)) hk rfl rfl (or128_u32 _ (by omega)) rfl fun a hk => ?_
      refine o_convInt (c := ((((u / 128) % 128) + 128 : Nat) : Int)) hk un_68 ti_5 rfl (by rw [IntKind.wrap_u8]; omega) rfl fun a hk => ?_
      refine o_move hk rfl rfl fun a hk => ?_
      refine o_shr (s := 14) (c := ((u / 16384 : Nat) : Int)) hk rfl rfl (shr_lit (by decide)) rfl fun a hk => ?_
      refine o_ibits (c := (((u / 16384) % 128 : Nat) : Int)) hk rfl rfl (and127_u32 _ (by omega)) rfl fun a hk => ?_
      refine o_ibits (c := ((((u / 16384) % 128) + 128 : Nat) : Int)) hk rfl rfl (or128_u32 _ (by omega)) rfl fun a hk => ?_
      refine o_convInt (c := ((((u / 16384) % 128) + 128 : Nat) : Int)) hk un_68 ti_5 rfl (by rw [IntKind.wrap_u8]; omega) rfl fun a hk => ?_
      refine o_move hk rfl rfl fun a hk => ?_
      refine o_shr (s := 21) (c := ((u / 2097152 : Nat) : Int)) hk rfl rfl (shr_lit (by decide)) rfl fun a hk => ?_
      refine o_convInt (c := ((u / 2097152 : Nat) : Int)) hk un_68 ti_5 rfl (by rw [IntKind.wrap_u8]; omega) rfl fun a hk => ?_
      refine o_buildSlice (r := [.int .u8 (((u % 128) + 128 : Nat) : Int), .int .u8 ((((u / 128) % 128) + 128 : Nat) : Int), .int .u8 ((((u / 16384) % 128) + 128 : Nat) : Int), .int .u8 ((u / 2097152 : Nat) : Int)]) hk hm rt_22 tz_5 rfl rfl rfl ⟨_, _, _, rfl, rfl, rfl, rfl, _, _, _, rfl, rfl, rfl, rfl, _, _, _, rfl, rfl, rfl, rfl, _, _, _, rfl, rfl, rfl, rfl, rfl⟩ rfl fun a b3 w hk hm => ?_
      refine o_append (i := 1) hk hm rt_22 rfl rfl rfl (src_cells (k := 4) (news := [.int .u8 (((u % 128) + 128 : Nat) : Int), .int .u8 ((((u / 128) % 128) + 128 : Nat) : Int), .int .u8 ((((u / 16384) % 128) + 128 : Nat) : Int), .int .u8 ((u / 2097152 : Nat) : Int)]) te_22 rfl (hm.cells_blk (i := 0) rfl rfl) rfl) (room_len (by (repeat' split at hroom) <;> omega)) (room_by (by (repeat' split at hroom) <;> omega)) rfl fun a v4 w hk hm _ => ?_
      refine o_assign hk rfl rfl fun a hk => ?_
      refine c_end ?_
      refine wp_ret ?_
      refine c_inRet ?_
      refine c_thenRet ?_
      refine b_retTmp rfl hk rfl ?_
      have hr := hm.rowTo (i := 1) rfl
      have hl2 : (uvarint u).length = 4 := by rw [hl]; (repeat' split) <;> omega
      rw [if_neg (by omega), if_neg (by omega), if_neg (by omega), if_pos (by omega)] at hb
      rw [hb, hl2]
      exact hr
    · have hcu := hc
      simp only [beq_iff_eq, beq_eq_false_iff_ne, ne_eq] at hcu
      unfold uvLen at hcu
      replace hcu : u < 2097152 := by (repeat' split at hcu) <;> omega
      refine c_region ?_
      refine o_icmp hk rfl rfl rfl rfl fun a hk => ?_
      refine o_assign hk rfl rfl fun a hk => ?_
      refine c_end ?_
      refine c_cond hk rfl (fun hc => ?_) (fun hc => ?_)
      · have hcu := hc
        simp only [beq_iff_eq, beq_eq_false_iff_ne, ne_eq] at hcu
        unfold uvLen at hcu
        replace hcu : 16384 ≤ u ∧ u < 2097152 := by (repeat' split at hcu) <;> omega
        refine c_region ?_
        refine o_move hk rfl rfl fun a hk => ?_
        refine o_move hk rfl rfl fun a hk => ?_
        refine o_ibits (c := ((u % 128 : Nat) : Int)) hk rfl rfl (and127_u32 _ (by omega)) rfl fun a hk => ?_
        refine o_ibits (c := (((u % 128) + 128 : Nat) : Int)) hk rfl rfl (or128_u32 _ (by omega)) rfl fun a hk => ?_
        refine o_convInt (c := (((u % 128) + 128 : Nat) : Int)) hk un_68 ti_5 rfl (by rw [IntKind.wrap_u8]; omega) rfl fun a hk => ?_
        refine o_move hk rfl rfl fun a hk => ?_
        refine o_shr (s := 7) (c := ((u / 128 : Nat) : Int)) hk rfl rfl (shr_lit (by decide)) rfl fun a hk => ?_
        refine o_ibits (c := (((u / 128) % 128 : Nat) : Int)) hk rfl rfl (and127_u32 _ (by omega)) rfl fun a hk => ?_
        refine o_ibits (c := ((((u / 128) % 128) + 128 : Nat) : Int)) hk rfl rfl (or128_u32 _ (by omega)) rfl fun a hk => ?_
        refine o_convInt (c := ((((u / 128) % 128) + 128 : Nat) : Int)) hk un_68 ti_5 rfl (by rw [IntKind.wrap_u8]; omega) rfl fun a hk => ?_
        refine o_move hk rfl rfl fun a hk => ?_
        refine o_shr (s := 14) (c := ((u / 16384 : Nat) : Int)) hk rfl rfl (shr_lit (by decide)) rfl fun a hk => ?_
        refine o_convInt (c := ((u / 16384 : Nat) : Int)) hk un_68 ti_5 rfl (by rw [IntKind.wrap_u8]; omega) rfl fun a hk => ?_
        refine o_buildSlice (r := [.int .u8 (((u % 128) + 128 : Nat) : Int), .int .u8 ((((u / 128) % 128) + 128 : Nat) : Int), .int .u8 ((u / 16384 : Nat) : Int)]) hk hm rt_22 tz_5 rfl rfl rfl ⟨_, _, _, rfl, rfl, rfl, rfl, _, _, _, rfl, rfl, rfl, rfl, _, _, _, rfl, rfl, rfl, rfl, rfl⟩ rfl fun a b5 w hk hm => ?_
        refine o_append (i := 1) hk hm rt_22 rfl rfl rfl (src_cells (k := 3) (news := [.int .u8 (((u % 128) + 128 : Nat) : Int), .int .u8 ((((u / 128) % 128) + 128 : Nat) : Int), .int .u8 ((u / 16384 : Nat) : Int)]) te_22 rfl (hm.cells_blk (i := 0) rfl rfl) rfl) (room_len (by (repeat' split at hroom) <;> omega)) (room_by (by (repeat' split at hroom) <;> omega)) rfl fun a v6 w hk hm _ => ?_
        refine o_assign hk rfl rfl fun a hk => ?_
        refine c_end ?_
        refine wp_ret ?_
        refine c_inRet ?_
        refine c_thenRet ?_
        refine b_retTmp rfl hk rfl ?_
        have hr := hm.rowTo (i := 1) rfl
        have hl2 : (uvarint u).length = 3 := by rw [hl]; (repeat' split) <;> omega
        rw [if_neg (by omega), if_neg (by omega), if_pos (by omega)] at hb
        rw [hb, hl2]
        exact hr
      · have hcu := hc
        simp only [beq_iff_eq, beq_eq_false_iff_ne, ne_eq] at hcu
        unfold uvLen at hcu
        replace hcu : u < 16384 := by (repeat' split at hcu) <;> omega
        refine c_region ?_
        refine o_icmp hk rfl rfl rfl rfl fun a hk => ?_
        refine o_assign hk rfl rfl fun a hk => ?_
        refine c_end ?_
        refine c_cond hk rfl (fun hc => ?_) (fun hc => ?_)
        · have hcu := hc
          simp only [beq_iff_eq, beq_eq_false_iff_ne, ne_eq] at hcu
          unfold uvLen at hcu
          replace hcu : 128 ≤ u ∧ u < 16384 := by (repeat' split at hcu) <;> omega
          refine c_region ?_
          refine o_move hk rfl rfl fun a hk => ?_
          refine o_move hk rfl rfl fun a hk => ?_
          refine o_ibits (c := ((u % 128 : Nat) : Int)) hk rfl rfl (and127_u32 _ (by omega)) rfl fun a hk => ?_
          refine o_ibits (c := (((u % 128) + 128 : Nat) : Int)) hk rfl rfl (or128_u32 _ (by omega)) rfl fun a hk => ?_
          refine o_convInt (c := (((u % 128) + 128 : Nat) : Int)) hk un_68 ti_5 rfl (by rw [IntKind.wrap_u8]; omega) rfl fun a hk => ?_
          refine o_move hk rfl rfl fun a hk => ?_
          refine o_shr (s := 7) (c := ((u / 128 : Nat) : Int)) hk rfl rfl (shr_lit (by decide)) rfl fun a hk => ?_
          refine o_convInt (c := ((u / 128 : Nat) : Int)) hk un_68 ti_5 rfl (by rw [IntKind.wrap_u8]; omega) rfl fun a hk => ?_
          refine o_buildSlice (r := [.int .u8 (((u % 128) + 128 : Nat) : Int), .int .u8 ((u / 128 : Nat) : Int)]) hk hm rt_22 tz_5 rfl rfl rfl ⟨_, _, _, rfl, rfl, rfl, rfl, _, _, _, rfl, rfl, rfl, rfl, rfl⟩ rfl fun a b7 w hk hm => ?_
          refine o_append (i := 1) hk hm rt_22 rfl rfl rfl (src_cells (k := 2) (news := [.int .u8 (((u % 128) + 128 : Nat) : Int), .int .u8 ((u / 128 : Nat) : Int)]) te_22 rfl (hm.cells_blk (i := 0) rfl rfl) rfl) (room_len (by (repeat' split at hroom) <;> omega)) (room_by (by (repeat' split at hroom) <;> omega)) rfl fun a v8 w hk hm _ => ?_
          refine o_assign hk rfl rfl fun a hk => ?_
          refine c_end ?_
          refine wp_ret ?_
          refine c_inRet ?_
          refine c_thenRet ?_
          refine b_retTmp rfl hk rfl ?_
          have hr := hm.rowTo (i := 1) rfl
          have hl2 : (uvarint u).length = 2 := by rw [hl]; (repeat' split) <;> omega
          rw [if_neg (by omega), if_pos (by omega)] at hb
          rw [hb, hl2]
          exact hr
        · have hcu := hc
          simp only [beq_iff_eq, beq_eq_false_iff_ne, ne_eq] at hcu
          unfold uvLen at hcu
          replace hcu : u < 128 := by (repeat' split at hcu) <;> omega
          refine c_region ?_
          refine o_icmp hk rfl rfl rfl rfl fun a hk => ?_
          refine o_assign hk rfl rfl fun a hk => ?_
          refine c_end ?_
          refine c_cond hk rfl (fun hc => ?_) (fun hc => ?_)
          · have hcu := hc
            simp only [beq_iff_eq, beq_eq_false_iff_ne, ne_eq] at hcu
            unfold uvLen at hcu
            replace hcu : u < 128 := by (repeat' split at hcu) <;> omega
            refine c_region ?_
            refine o_move hk rfl rfl fun a hk => ?_
            refine o_move hk rfl rfl fun a hk => ?_
            refine o_convInt (c := ((u : Nat) : Int)) hk un_68 ti_5 rfl (by rw [IntKind.wrap_u8]; omega) rfl fun a hk => ?_
            refine o_buildSlice (r := [.int .u8 ((u : Nat) : Int)]) hk hm rt_22 tz_5 rfl rfl rfl ⟨_, _, _, rfl, rfl, rfl, rfl, rfl⟩ rfl fun a b9 w hk hm => ?_
            refine o_append (i := 1) hk hm rt_22 rfl rfl rfl (src_cells (k := 1) (news := [.int .u8 ((u : Nat) : Int)]) te_22 rfl (hm.cells_blk (i := 0) rfl rfl) rfl) (room_len (by (repeat' split at hroom) <;> omega)) (room_by (by (repeat' split at hroom) <;> omega)) rfl fun a v10 w hk hm _ => ?_
            refine o_assign hk rfl rfl fun a hk => ?_
            refine c_end ?_
            refine wp_ret ?_
            refine c_inRet ?_
            refine c_thenRet ?_
            refine b_retTmp rfl hk rfl ?_
            have hr := hm.rowTo (i := 1) rfl
            have hl2 : (uvarint u).length = 1 := by rw [hl]; (repeat' split) <;> omega
            rw [if_pos (by omega)] at hb
            rw [hb, hl2]
            exact hr
          · have hcu := hc
            simp only [beq_iff_eq, beq_eq_false_iff_ne, ne_eq] at hcu
            unfold uvLen at hcu
            replace hcu : False := by (repeat' split at hcu) <;> omega
            exact hcu.elim
theorem appendInt16_ok : Ea.Ok Tryz.prog 5 147 (.fx 2) := by
  intro ik w0 v n xs hik hrow i hroom
  obtain rfl : IntKind.i16 = ik := Option.some.inj hik
  exact appendInt16_c hrow i hroom
theorem appendInt32_ok : Ea.Ok Tryz.prog 5 137 (.fx 3) := by
  intro ik w0 v n xs hik hrow i hroom
  obtain rfl : IntKind.i32 = ik := Option.some.inj hik
  exact appendInt32_c hrow i hroom
theorem appendInt64_ok : Ea.Ok Tryz.prog 5 143 (.fx 4) := by
  intro ik w0 v n xs hik hrow i hroom
  obtain rfl : IntKind.i64 = ik := Option.some.inj hik
  exact appendInt64_c hrow i hroom
theorem appendUint16_ok : Ea.Ok Tryz.prog 5 210 (.fx 5) := by
  intro ik w0 v n xs hik hrow i hroom
  obtain rfl : IntKind.u16 = ik := Option.some.inj hik
  exact appendUint16_c hrow i hroom
theorem appendInt8_ok : Ea.Ok Tryz.prog 5 154 (.fx 1) := by
  intro ik w0 v n xs hik hrow i hroom
  obtain rfl : IntKind.i8 = ik := Option.some.inj hik
  have hroom1 : n + 1 ≤ room := hroom
  refine c_call Tryz.func154 rfl rfl fun a hk => ?_
  have hk : Kn 10 [(0, v), (1, .int .i8 i)] a := hk
  have hm : Mem w0 (fun k => v.ownBlock = some k) (fun k => v.ownBlock = some k) [.row 5 1 v n xs] w0 := Mem.startRow hrow (fun _ h => h) rfl (by simp only [List.not_mem_nil, false_imp_iff, implies_true])
  refine c_region ?_
  refine o_assign hk rfl rfl fun a hk => ?_
  refine c_end ?_
  refine c_region ?_
  refine o_move hk rfl rfl fun a hk => ?_
  refine o_move hk rfl rfl fun a hk => ?_
  refine o_convInt (c := IntKind.u8.wrap i) hk un_192 ti_5 rfl rfl rfl fun a hk => ?_
  refine o_buildSlice (r := [.int .u8 (IntKind.u8.wrap i)]) hk hm rt_22 tz_5 rfl rfl rfl ⟨_, _, _, rfl, rfl, rfl, rfl, rfl⟩ rfl fun a b1 w hk hm => ?_
  refine o_append (i := 1) hk hm rt_22 rfl rfl rfl (src_cells (k := 1) (news := [.int .u8 (IntKind.u8.wrap i)]) te_22 rfl (hm.cells_blk (i := 0) rfl rfl) rfl) (room_len (by omega)) (room_by (by omega)) rfl fun a v2 w hk hm _ => ?_
  refine o_assign hk rfl rfl fun a hk => ?_
  refine c_end ?_
  refine wp_ret ?_
  refine b_retTmp rfl hk rfl ?_
  have hr := hm.rowTo (i := 1) rfl
  have e1 : bv (fixed i 1) = [.int .u8 (IntKind.u8.wrap i)] := by simp only [fixed, bv_u8]; simp [bv]
  show RowTo w0 _ 1 v (n + (fixed i 1).length) (xs ++ bv (fixed i 1)) _ _
  rw [e1, fixed_length]
  exact hr
theorem appendBool_ok : Ea.Ok Tryz.prog 5 131 (.bool) := by
  intro w0 v n xs hrow b hroom
  refine c_call Tryz.func131 rfl rfl fun a hk => ?_
  have hk : Kn 12 [(0, v), (1, .bool b)] a := hk
  have hm : Mem w0 (fun k => v.ownBlock = some k) (fun k => v.ownBlock = some k) [.row 5 1 v n xs] w0 := Mem.startRow hrow (fun _ h => h) rfl (by simp only [List.not_mem_nil, false_imp_iff, implies_true])
  refine c_region ?_
  refine o_assign hk rfl rfl fun a hk => ?_
  refine c_end ?_
  refine wp_seq ?_
  refine c_region ?_
  refine o_move hk rfl rfl fun a hk => ?_
  refine c_end ?_
  refine c_cond hk rfl (fun hc => ?_) (fun hc => ?_)
  · subst hc
    refine c_region ?_
    refine o_move hk rfl rfl fun a hk => ?_
    refine o_buildSlice (r := [.int .u8 ((1 : Nat) : Int)]) hk hm rt_22 tz_5 rfl rfl rfl ⟨_, _, _, rfl, rfl, rfl, rfl, rfl⟩ rfl fun a b1 w hk hm => ?_
    refine o_append (i := 1) hk hm rt_22 rfl rfl rfl (src_cells (k := 1) (news := [.int .u8 ((1 : Nat) : Int)]) te_22 rfl (hm.cells_blk (i := 0) rfl rfl) rfl) (room_len (by omega)) (room_by (by omega)) rfl fun a v2 w hk hm _ => ?_
    refine o_assign hk rfl rfl fun a hk => ?_
    refine c_end ?_
    refine wp_ret ?_
    refine c_thenRet ?_
    refine b_retTmp rfl hk rfl ?_
    have hr := hm.rowTo (i := 1) rfl
    exact hr
  · subst hc
    refine wp_skip ?_
    refine c_then ?_
    refine c_region ?_
    refine o_move hk rfl rfl fun a hk => ?_
    refine o_buildSlice (r := [.int .u8 ((0 : Nat) : Int)]) hk hm rt_22 tz_5 rfl rfl rfl ⟨_, _, _, rfl, rfl, rfl, rfl, rfl⟩ rfl fun a b3 w hk hm => ?_
    refine o_append (i := 1) hk hm rt_22 rfl rfl rfl (src_cells (k := 1) (news := [.int .u8 ((0 : Nat) : Int)]) te_22 rfl (hm.cells_blk (i := 0) rfl rfl) rfl) (room_len (by omega)) (room_by (by omega)) rfl fun a v4 w hk hm _ => ?_
    refine o_assign hk rfl rfl fun a hk => ?_
    refine c_end ?_
    refine wp_ret ?_
    refine b_retTmp rfl hk rfl ?_
    have hr := hm.rowTo (i := 1) rfl
    exact hr
theorem appendUuid_ok : Ea.Ok Tryz.prog 5 144 (.uuid) := by
  intro w0 v n xs hrow s hs hroom
  refine c_call Tryz.func144 rfl rfl fun a hk => ?_
  have hk : Kn 8 [(0, v), (1, .agg (bv s).toArray)] a := hk
  have hm : Mem w0 (fun k => v.ownBlock = some k) (fun k => v.ownBlock = some k) [.row 5 1 v n xs] w0 := Mem.startRow hrow (fun _ h => h) rfl (by simp only [List.not_mem_nil, false_imp_iff, implies_true])
  refine c_region ?_
  refine o_box hk hm rfl (cellsOf_agg _) rfl fun a b1 w hk hm => ?_
  refine o_assign hk rfl rfl fun a hk => ?_
  refine c_end ?_
  refine c_region ?_
  refine o_move hk rfl rfl fun a hk => ?_
  refine o_sliceArr hk at_101 ts_5 rfl rfl fun a hk => ?_
  refine o_append (i := 1) hk hm rt_22 rfl rfl rfl (src_cells (k := 16) (news := bv s) te_22 (by rw [bv_length, hs]) (hm.cells_blk (i := 0) rfl (by simp)) (bv_one s)) (room_len (by omega)) (room_by (by omega)) rfl fun a v1 w hk hm _ => ?_
  refine o_assign hk rfl rfl fun a hk => ?_
  refine c_end ?_
  refine wp_ret ?_
  refine b_retTmp rfl hk rfl ?_
  have hr := hm.rowTo (i := 1) rfl
  rw [hs]
  exact hr
theorem appendString_ok : Ea.Ok Tryz.prog 5 130 (.str false) := by
  intro w0 v n xs hrow s hs hroom
  have hc : counted false false s.length 2 = fixed (s.length : Int) 2 := rfl
  rw [hc, List.length_append, fixed_length] at hroom
  rw [hc]
  exact appendString_c hrow s hroom
theorem appendCompactString_ok : Ea.Ok Tryz.prog 5 129 (.str true) := by
  intro w0 v n xs hrow s hs hroom
  have hc : counted true false s.length 2 = uvarint (s.length + 1) := rfl
  rw [hc, List.length_append] at hroom
  rw [hc]
  refine c_call Tryz.func129 rfl rfl fun a hk => ?_
  have hk : Kn 14 [(0, v), (1, .string (bs s))] a := hk
  have hm : Mem w0 (fun k => v.ownBlock = some k) (fun k => v.ownBlock = some k) [.row 5 1 v n xs] w0 := Mem.startRow hrow (fun _ h => h) rfl (by simp only [List.not_mem_nil, false_imp_iff, implies_true])
  refine c_region ?_
  refine o_assign hk rfl rfl fun a hk => ?_
  refine c_end ?_
  refine c_region ?_
  refine o_move hk rfl rfl fun a hk => ?_
  refine o_move hk rfl rfl fun a hk => ?_
  refine o_lenStr hk is_9 rfl rfl fun a hk => ?_
  rw [bs_size] at hk
  refine o_convInt (c := ((s.length : Nat) : Int)) hk un_3 ti_68 rfl (by rw [IntKind.wrap_u32]; omega) rfl fun a hk => ?_
  refine o_iarith (c := ((1 + s.length : Nat) : Int)) hk rfl rfl rfl (by rw [IntKind.wrap_u32]; omega) rfl fun a hk => ?_
  refine o_call hk cb_132 (appendUvarint_ok (hm.row (i := 0) rfl) (1 + s.length) (by omega) (by rw [show 1 + s.length = s.length + 1 by omega]; omega)) ⟨rfl, rfl, trivial⟩ rfl fun v1 w a hR hk => ?_
  have hm := hm.rowCall (i := 0) rfl hR
  refine o_assign hk rfl rfl fun a hk => ?_
  refine c_end ?_
  refine c_region ?_
  refine o_move hk rfl rfl fun a hk => ?_
  refine o_move hk rfl rfl fun a hk => ?_
  refine o_append (i := 0) hk hm rt_22 rfl rfl rfl (src_str is_9 (bs s)) (room_len (by rw [bs_size, show 1 + s.length = s.length + 1 by omega]; omega)) (room_by (by rw [bs_size, show 1 + s.length = s.length + 1 by omega]; omega)) rfl fun a v2 w hk hm _ => ?_
  refine o_assign hk rfl rfl fun a hk => ?_
  refine c_end ?_
  refine wp_ret ?_
  refine b_retTmp rfl hk rfl ?_
  have hr := hm.rowTo (i := 0) rfl
  rw [byteCells_bs, bs_size, show 1 + s.length = s.length + 1 by omega] at hr
  show RowTo _ _ _ _ (n + (uvarint (s.length + 1) ++ s).length) (xs ++ bv (uvarint (s.length + 1) ++ s)) _ _
  rw [List.length_append, bv_append, ← Nat.add_assoc, ← List.append_assoc]
  exact hr
theorem appendArrayLen_ok : Ea.Ok Tryz.prog 5 128 (.cnt false) := by
  intro w0 v n xs hrow k hk hroom
  have hc : counted false false k 4 = fixed (k : Int) 4 := rfl
  rw [hc, fixed_length] at hroom
  rw [hc]
  exact appendArrayLen_c hrow k hroom
theorem appendCompactArrayLen_ok : Ea.Ok Tryz.prog 5 127 (.cnt true) := by
  intro w0 v n xs hrow k hk hroom
  have hc : counted true false k 4 = uvarint (k + 1) := rfl
  rw [hc] at hroom ⊢
  refine c_call Tryz.func127 rfl rfl fun a hk => ?_
  have hk : Kn 10 [(0, v), (1, .int .i64 ((k : Nat) : Int))] a := hk
  have hm : Mem w0 (fun k => v.ownBlock = some k) (fun k => v.ownBlock = some k) [.row 5 1 v n xs] w0 := Mem.startRow hrow (fun _ h => h) rfl (by simp only [List.not_mem_nil, false_imp_iff, implies_true])
  refine c_region ?_
  refine o_assign hk rfl rfl fun a hk => ?_
  refine c_end ?_
  refine c_region ?_
  refine o_move hk rfl rfl fun a hk => ?_
  refine o_move hk rfl rfl fun a hk => ?_
  refine o_convInt (c := ((k : Nat) : Int)) hk un_3 ti_68 rfl (by rw [IntKind.wrap_u32]; omega) rfl fun a hk => ?_
  refine o_iarith (c := ((1 + k : Nat) : Int)) hk rfl rfl rfl (by rw [IntKind.wrap_u32]; omega) rfl fun a hk => ?_
  refine o_call hk cb_132 (appendUvarint_ok (hm.row (i := 0) rfl) (1 + k) (by omega) (by rw [show 1 + k = k + 1 by omega]; exact hroom)) ⟨rfl, rfl, trivial⟩ rfl fun v1 w a hR hk => ?_
  have hm := hm.rowCall (i := 0) rfl hR
  refine o_assign hk rfl rfl fun a hk => ?_
  refine c_end ?_
  refine wp_ret ?_
  refine b_retTmp rfl hk rfl ?_
  have hr := hm.rowTo (i := 0) rfl
  rw [show 1 + k = k + 1 by omega] at hr
  exact hr
theorem appendNullableArrayLen_ok : Ea.Ok Tryz.prog 5 139 (.ncnt false) := by
  intro w0 v n xs hrow k z hk hroom
  refine c_call Tryz.func139 rfl rfl fun a hk => ?_
  have hk : Kn 14 [(0, v), (1, .int .i64 ((k : Nat) : Int)), (2, .bool z)] a := hk
  have hm : Mem w0 (fun k => v.ownBlock = some k) (fun k => v.ownBlock = some k) [.row 5 1 v n xs] w0 := Mem.startRow hrow (fun _ h => h) rfl (by simp only [List.not_mem_nil, false_imp_iff, implies_true])
  have hroom4 : n + 4 ≤ room := by cases z <;> exact hroom
  refine c_region ?_
  refine o_assign hk rfl rfl fun a hk => ?_
  refine c_end ?_
  refine wp_seq ?_
  refine c_region ?_
  refine o_move hk rfl rfl fun a hk => ?_
  refine c_end ?_
  refine c_cond hk rfl (fun hc => ?_) (fun hc => ?_)
  · subst hc
    refine c_region ?_
    refine o_move hk rfl rfl fun a hk => ?_
    refine o_call hk cb_137 (appendInt32_c (hm.row (i := 0) rfl) (-1) hroom4) ⟨rfl, rfl, trivial⟩ rfl fun v1 w a hR hk => ?_
    have hm := hm.rowCall (i := 0) rfl hR
    refine o_assign hk rfl rfl fun a hk => ?_
    refine c_end ?_
    refine wp_ret ?_
    refine c_thenRet ?_
    refine b_retTmp rfl hk rfl ?_
    have hr := hm.rowTo (i := 0) rfl
    exact hr
  · subst hc
    refine wp_skip ?_
    refine c_then ?_
    refine c_region ?_
    refine o_move hk rfl rfl fun a hk => ?_
    refine o_move hk rfl rfl fun a hk => ?_
    refine o_convInt (c := ((k : Nat) : Int)) hk un_3 ti_21 rfl (by rw [IntKind.wrap_i32]; omega) rfl fun a hk => ?_
    refine o_call hk cb_137 (appendInt32_c (hm.row (i := 0) rfl) ((k : Nat) : Int) hroom4) ⟨rfl, rfl, trivial⟩ rfl fun v2 w a hR hk => ?_
    have hm := hm.rowCall (i := 0) rfl hR
    refine o_assign hk rfl rfl fun a hk => ?_
    refine c_end ?_
    refine wp_ret ?_
    refine b_retTmp rfl hk rfl ?_
    have hr := hm.rowTo (i := 0) rfl
    exact hr
theorem appendCompactNullableArrayLen_ok : Ea.Ok Tryz.prog 5 138 (.ncnt true) := by
  intro w0 v n xs hrow k z hk hroom
  refine c_call Tryz.func138 rfl rfl fun a hk => ?_
  have hk : Kn 15 [(0, v), (1, .int .i64 ((k : Nat) : Int)), (2, .bool z)] a := hk
  have hm : Mem w0 (fun k => v.ownBlock = some k) (fun k => v.ownBlock = some k) [.row 5 1 v n xs] w0 := Mem.startRow hrow (fun _ h => h) rfl (by simp only [List.not_mem_nil, false_imp_iff, implies_true])
  have e0 : uvarint 0 = counted true true k 4 := by rw [uvarint_small (by omega)]; rfl
  have e1 : uvarint (1 + k) = counted true false k 4 := by rw [show 1 + k = k + 1 by omega]; rfl
  refine c_region ?_
  refine o_assign hk rfl rfl fun a hk => ?_
  refine c_end ?_
  refine wp_seq ?_
  refine c_region ?_
  refine o_move hk rfl rfl fun a hk => ?_
  refine c_end ?_
  refine c_cond hk rfl (fun hc => ?_) (fun hc => ?_)
  · subst hc
    refine c_region ?_
    refine o_move hk rfl rfl fun a hk => ?_
    refine o_call hk cb_132 (appendUvarint_ok (hm.row (i := 0) rfl) 0 (by omega) (by rw [e0]; exact hroom)) ⟨rfl, rfl, trivial⟩ rfl fun v1 w a hR hk => ?_
    have hm := hm.rowCall (i := 0) rfl hR
    refine o_assign hk rfl rfl fun a hk => ?_
    refine c_end ?_
    refine wp_ret ?_
    refine c_thenRet ?_
    refine b_retTmp rfl hk rfl ?_
    have hr := hm.rowTo (i := 0) rfl
    first | (rw [e0] at hr; exact hr) | (rw [e1] at hr; exact hr)
  · subst hc
    refine wp_skip ?_
    refine c_then ?_
    refine c_region ?_
    refine o_move hk rfl rfl fun a hk => ?_
    refine o_move hk rfl rfl fun a hk => ?_
    refine o_convInt (c := ((k : Nat) : Int)) hk un_3 ti_68 rfl (by rw [IntKind.wrap_u32]; omega) rfl fun a hk => ?_
    refine o_iarith (c := ((1 + k : Nat) : Int)) hk rfl rfl rfl (by rw [IntKind.wrap_u32]; omega) rfl fun a hk => ?_
    refine o_call hk cb_132 (appendUvarint_ok (hm.row (i := 0) rfl) (1 + k) (by omega) (by rw [e1]; exact hroom)) ⟨rfl, rfl, trivial⟩ rfl fun v2 w a hR hk => ?_
    have hm := hm.rowCall (i := 0) rfl hR
    refine o_assign hk rfl rfl fun a hk => ?_
    refine c_end ?_
    refine wp_ret ?_
    refine b_retTmp rfl hk rfl ?_
    have hr := hm.rowTo (i := 0) rfl
    first | (rw [e0] at hr; exact hr) | (rw [e1] at hr; exact hr)
end Go.Proofs.YtpjichobdalpjaaGreatDoor
