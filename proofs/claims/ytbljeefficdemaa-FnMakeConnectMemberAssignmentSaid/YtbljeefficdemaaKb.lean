/- Walks of functions that the laws of this seat reach. No statement of the seat stands here. -/
import Derived.Test.YtbljeefficdemaaMkOpen
import Derived.Test.YtbljeefficdemaaRows
import Derived.Test.YtbljeefficdemaaFa
namespace Go.Proofs.Ytbljeefficdemaa
open Go Go.Mk
theorem appendUint16_c {w0 : World} {v : Value} {n : Nat} {xs : List Value} (hrow : w0.ownsRow 0 5 1 v n xs) (i : Int) (hroom : n + 2 ≤ room) : Puts Try.prog 5 54 [v, .int .u16 i] v n xs (fixed i 2) w0 := by
  refine c_call Try.func54 rfl rfl fun a hk => ?_
  have hk : Kn 13 [(0, v), (1, .int .u16 i)] a := hk
  have hm : Mem w0 (fun k => v.ownBlock = some k) (fun k => v.ownBlock = some k) [.row 5 1 v n xs] w0 := Mem.startRow hrow (fun _ h => h) rfl (by simp only [List.not_mem_nil, false_imp_iff, implies_true])
  refine c_region ?_
  refine o_assign hk rfl rfl fun a hk => ?_
  refine c_end ?_
  refine c_region ?_
  refine o_move hk rfl rfl fun a hk => ?_
  refine o_move hk rfl rfl fun a hk => ?_
  refine o_shr (s := 8) (c := i / 2 ^ 8) hk rfl rfl rfl rfl fun a hk => ?_
  refine o_convInt (c := IntKind.u8.wrap (i / 2 ^ 8)) hk un_106 ti_5 rfl rfl rfl fun a hk => ?_
  refine o_move hk rfl rfl fun a hk => ?_
  refine o_convInt (c := IntKind.u8.wrap i) hk un_106 ti_5 rfl rfl rfl fun a hk => ?_
  refine o_buildSlice (r := [.int .u8 (IntKind.u8.wrap (i / 2 ^ 8)), .int .u8 (IntKind.u8.wrap i)]) hk hm rt_22 tz_5 rfl rfl rfl ⟨_, _, _, rfl, rfl, rfl, rfl, _, _, _, rfl, rfl, rfl, rfl, rfl⟩ rfl fun a b1 w hk hm => ?_
  refine o_append (i := 1) hk hm rt_22 rfl rfl rfl (src_cells (k := 2) (news := [.int .u8 (IntKind.u8.wrap (i / 2 ^ 8)), .int .u8 (IntKind.u8.wrap i)]) te_22 rfl (hm.cells_blk (i := 0) rfl rfl) rfl) (room_len (by omega)) (room_by (by omega)) rfl fun a v2 w hk hm hnilv2 => ?_
  refine o_assign hk rfl rfl fun a hk => ?_
  refine c_end ?_
  refine wp_ret ?_
  refine b_retTmp rfl hk rfl ?_
  have hr := hm.rowTo (i := 1) rfl
  rw [fixed_length, bv_fixed2]; exact hr
theorem appendUint32_c {w0 : World} {v : Value} {n : Nat} {xs : List Value} (hrow : w0.ownsRow 0 5 1 v n xs) (i : Int) (hroom : n + 4 ≤ room) : Puts Try.prog 5 55 [v, .int .u32 i] v n xs (fixed i 4) w0 := by
  refine c_call Try.func55 rfl rfl fun a hk => ?_
  have hk : Kn 19 [(0, v), (1, .int .u32 i)] a := hk
  have hm : Mem w0 (fun k => v.ownBlock = some k) (fun k => v.ownBlock = some k) [.row 5 1 v n xs] w0 := Mem.startRow hrow (fun _ h => h) rfl (by simp only [List.not_mem_nil, false_imp_iff, implies_true])
  refine c_region ?_
  refine o_assign hk rfl rfl fun a hk => ?_
  refine c_end ?_
  refine c_region ?_
  refine o_move hk rfl rfl fun a hk => ?_
  refine o_move hk rfl rfl fun a hk => ?_
  refine o_shr (s := 24) (c := i / 2 ^ 24) hk rfl rfl rfl rfl fun a hk => ?_
  refine o_convInt (c := IntKind.u8.wrap (i / 2 ^ 24)) hk un_58 ti_5 rfl rfl rfl fun a hk => ?_
  refine o_move hk rfl rfl fun a hk => ?_
  refine o_shr (s := 16) (c := i / 2 ^ 16) hk rfl rfl rfl rfl fun a hk => ?_
  refine o_convInt (c := IntKind.u8.wrap (i / 2 ^ 16)) hk un_58 ti_5 rfl rfl rfl fun a hk => ?_
  refine o_move hk rfl rfl fun a hk => ?_
  refine o_shr (s := 8) (c := i / 2 ^ 8) hk rfl rfl rfl rfl fun a hk => ?_
  refine o_convInt (c := IntKind.u8.wrap (i / 2 ^ 8)) hk un_58 ti_5 rfl rfl rfl fun a hk => ?_
  refine o_move hk rfl rfl fun a hk => ?_
  refine o_convInt (c := IntKind.u8.wrap i) hk un_58 ti_5 rfl rfl rfl fun a hk => ?_
  refine o_buildSlice (r := [.int .u8 (IntKind.u8.wrap (i / 2 ^ 24)), .int .u8 (IntKind.u8.wrap (i / 2 ^ 16)), .int .u8 (IntKind.u8.wrap (i / 2 ^ 8)), .int .u8 (IntKind.u8.wrap i)]) hk hm rt_22 tz_5 rfl rfl rfl ⟨_, _, _, rfl, rfl, rfl, rfl, _, _, _, rfl, rfl, rfl, rfl, _, _, _, rfl, rfl, rfl, rfl, _, _, _, rfl, rfl, rfl, rfl, rfl⟩ rfl fun a b1 w hk hm => ?_
  refine o_append (i := 1) hk hm rt_22 rfl rfl rfl (src_cells (k := 4) (news := [.int .u8 (IntKind.u8.wrap (i / 2 ^ 24)), .int .u8 (IntKind.u8.wrap (i / 2 ^ 16)), .int .u8 (IntKind.u8.wrap (i / 2 ^ 8)), .int .u8 (IntKind.u8.wrap i)]) te_22 rfl (hm.cells_blk (i := 0) rfl rfl) rfl) (room_len (by omega)) (room_by (by omega)) rfl fun a v2 w hk hm hnilv2 => ?_
  refine o_assign hk rfl rfl fun a hk => ?_
  refine c_end ?_
  refine wp_ret ?_
  refine b_retTmp rfl hk rfl ?_
  have hr := hm.rowTo (i := 1) rfl
  rw [fixed_length, bv_fixed4]; exact hr
theorem appendUint64_c {w0 : World} {v : Value} {n : Nat} {xs : List Value} (hrow : w0.ownsRow 0 5 1 v n xs) (i : Int) (hroom : n + 8 ≤ room) : Puts Try.prog 5 59 [v, .int .u64 i] v n xs (fixed i 8) w0 := by
  refine c_call Try.func59 rfl rfl fun a hk => ?_
  have hk : Kn 31 [(0, v), (1, .int .u64 i)] a := hk
  have hm : Mem w0 (fun k => v.ownBlock = some k) (fun k => v.ownBlock = some k) [.row 5 1 v n xs] w0 := Mem.startRow hrow (fun _ h => h) rfl (by simp only [List.not_mem_nil, false_imp_iff, implies_true])
  refine c_region ?_
  refine o_assign hk rfl rfl fun a hk => ?_
  refine c_end ?_
  refine c_region ?_
  refine o_move hk rfl rfl fun a hk => ?_
  refine o_move hk rfl rfl fun a hk => ?_
  refine o_shr (s := 56) (c := i / 2 ^ 56) hk rfl rfl rfl rfl fun a hk => ?_
  refine o_convInt (c := IntKind.u8.wrap (i / 2 ^ 56)) hk un_94 ti_5 rfl rfl rfl fun a hk => ?_
  refine o_move hk rfl rfl fun a hk => ?_
  refine o_shr (s := 48) (c := i / 2 ^ 48) hk rfl rfl rfl rfl fun a hk => ?_
  refine o_convInt (c := IntKind.u8.wrap (i / 2 ^ 48)) hk un_94 ti_5 rfl rfl rfl fun a hk => ?_
  refine o_move hk rfl rfl fun a hk => ?_
  refine o_shr (s := 40) (c := i / 2 ^ 40) hk rfl rfl rfl rfl fun a hk => ?_
  refine o_convInt (c := IntKind.u8.wrap (i / 2 ^ 40)) hk un_94 ti_5 rfl rfl rfl fun a hk => ?_
  refine o_move hk rfl rfl fun a hk => ?_
  refine o_shr (s := 32) (c := i / 2 ^ 32) hk rfl rfl rfl rfl fun a hk => ?_
  refine o_convInt (c := IntKind.u8.wrap (i / 2 ^ 32)) hk un_94 ti_5 rfl rfl rfl fun a hk => ?_
  refine o_move hk rfl rfl fun a hk => ?_
  refine o_shr (s := 24) (c := i / 2 ^ 24) hk rfl rfl rfl rfl fun a hk => ?_
  refine o_convInt (c := IntKind.u8.wrap (i / 2 ^ 24)) hk un_94 ti_5 rfl rfl rfl fun a hk => ?_
  refine o_move hk rfl rfl fun a hk => ?_
  refine o_shr (s := 16) (c := i / 2 ^ 16) hk rfl rfl rfl rfl fun a hk => ?_
  refine o_convInt (c := IntKind.u8.wrap (i / 2 ^ 16)) hk un_94 ti_5 rfl rfl rfl fun a hk => ?_
  refine o_move hk rfl rfl fun a hk => ?_
  refine o_shr (s := 8) (c := i / 2 ^ 8) hk rfl rfl rfl rfl fun a hk => ?_
  refine o_convInt (c := IntKind.u8.wrap (i / 2 ^ 8)) hk un_94 ti_5 rfl rfl rfl fun a hk => ?_
  refine o_move hk rfl rfl fun a hk => ?_
  refine o_convInt (c := IntKind.u8.wrap i) hk un_94 ti_5 rfl rfl rfl fun a hk => ?_
  refine o_buildSlice (r := [.int .u8 (IntKind.u8.wrap (i / 2 ^ 56)), .int .u8 (IntKind.u8.wrap (i / 2 ^ 48)), .int .u8 (IntKind.u8.wrap (i / 2 ^ 40)), .int .u8 (IntKind.u8.wrap (i / 2 ^ 32)), .int .u8 (IntKind.u8.wrap (i / 2 ^ 24)), .int .u8 (IntKind.u8.wrap (i / 2 ^ 16)), .int .u8 (IntKind.u8.wrap (i / 2 ^ 8)), .int .u8 (IntKind.u8.wrap i)]) hk hm rt_22 tz_5 rfl rfl rfl ⟨_, _, _, rfl, rfl, rfl, rfl, _, _, _, rfl, rfl, rfl, rfl, _, _, _, rfl, rfl, rfl, rfl, _, _, _, rfl, rfl, rfl, rfl, _, _, _, rfl, rfl, rfl, rfl, _, _, _, rfl, rfl, rfl, rfl, _, _, _, rfl, rfl, rfl, rfl, _, _, _, rfl, rfl, rfl, rfl, rfl⟩ rfl fun a b1 w hk hm => ?_
  refine o_append (i := 1) hk hm rt_22 rfl rfl rfl (src_cells (k := 8) (news := [.int .u8 (IntKind.u8.wrap (i / 2 ^ 56)), .int .u8 (IntKind.u8.wrap (i / 2 ^ 48)), .int .u8 (IntKind.u8.wrap (i / 2 ^ 40)), .int .u8 (IntKind.u8.wrap (i / 2 ^ 32)), .int .u8 (IntKind.u8.wrap (i / 2 ^ 24)), .int .u8 (IntKind.u8.wrap (i / 2 ^ 16)), .int .u8 (IntKind.u8.wrap (i / 2 ^ 8)), .int .u8 (IntKind.u8.wrap i)]) te_22 rfl (hm.cells_blk (i := 0) rfl rfl) rfl) (room_len (by omega)) (room_by (by omega)) rfl fun a v2 w hk hm hnilv2 => ?_
  refine o_assign hk rfl rfl fun a hk => ?_
  refine c_end ?_
  refine wp_ret ?_
  refine b_retTmp rfl hk rfl ?_
  have hr := hm.rowTo (i := 1) rfl
  rw [fixed_length, bv_fixed8]; exact hr
theorem appendInt16_c {w0 : World} {v : Value} {n : Nat} {xs : List Value} (hrow : w0.ownsRow 0 5 1 v n xs) (i : Int) (hroom : n + 2 ≤ room) : Puts Try.prog 5 39 [v, .int .i16 i] v n xs (fixed i 2) w0 := by
  refine c_call Try.func39 rfl rfl fun a hk => ?_
  have hk : Kn 9 [(0, v), (1, .int .i16 i)] a := hk
  have hm : Mem w0 (fun k => v.ownBlock = some k) (fun k => v.ownBlock = some k) [.row 5 1 v n xs] w0 := Mem.startRow hrow (fun _ h => h) rfl (by simp only [List.not_mem_nil, false_imp_iff, implies_true])
  refine c_region ?_
  refine o_assign hk rfl rfl fun a hk => ?_
  refine c_end ?_
  refine c_region ?_
  refine o_move hk rfl rfl fun a hk => ?_
  refine o_move hk rfl rfl fun a hk => ?_
  refine o_convInt (c := IntKind.u16.wrap i) hk un_45 ti_106 rfl rfl rfl fun a hk => ?_
  refine o_call hk cb_54 (appendUint16_c (hm.row (i := 0) rfl) (IntKind.u16.wrap i) (by omega)) ⟨rfl, rfl, trivial⟩ rfl fun v1 w a hR hk => ?_
  have hm := hm.rowCall (i := 0) rfl hR
  refine o_assign hk rfl rfl fun a hk => ?_
  refine c_end ?_
  refine wp_ret ?_
  refine b_retTmp rfl hk rfl ?_
  have hr := hm.rowTo (i := 0) rfl
  rw [fixed_length] at hr ⊢; rw [fixed_u16] at hr; exact hr
theorem appendInt32_c {w0 : World} {v : Value} {n : Nat} {xs : List Value} (hrow : w0.ownsRow 0 5 1 v n xs) (i : Int) (hroom : n + 4 ≤ room) : Puts Try.prog 5 40 [v, .int .i32 i] v n xs (fixed i 4) w0 := by
  refine c_call Try.func40 rfl rfl fun a hk => ?_
  have hk : Kn 9 [(0, v), (1, .int .i32 i)] a := hk
  have hm : Mem w0 (fun k => v.ownBlock = some k) (fun k => v.ownBlock = some k) [.row 5 1 v n xs] w0 := Mem.startRow hrow (fun _ h => h) rfl (by simp only [List.not_mem_nil, false_imp_iff, implies_true])
  refine c_region ?_
  refine o_assign hk rfl rfl fun a hk => ?_
  refine c_end ?_
  refine c_region ?_
  refine o_move hk rfl rfl fun a hk => ?_
  refine o_move hk rfl rfl fun a hk => ?_
  refine o_convInt (c := IntKind.u32.wrap i) hk un_21 ti_58 rfl rfl rfl fun a hk => ?_
  refine o_call hk cb_55 (appendUint32_c (hm.row (i := 0) rfl) (IntKind.u32.wrap i) (by omega)) ⟨rfl, rfl, trivial⟩ rfl fun v1 w a hR hk => ?_
  have hm := hm.rowCall (i := 0) rfl hR
  refine o_assign hk rfl rfl fun a hk => ?_
  refine c_end ?_
  refine wp_ret ?_
  refine b_retTmp rfl hk rfl ?_
  have hr := hm.rowTo (i := 0) rfl
  rw [fixed_length] at hr ⊢; rw [fixed_u32] at hr; exact hr
theorem appendInt64_c {w0 : World} {v : Value} {n : Nat} {xs : List Value} (hrow : w0.ownsRow 0 5 1 v n xs) (i : Int) (hroom : n + 8 ≤ room) : Puts Try.prog 5 52 [v, .int .i64 i] v n xs (fixed i 8) w0 := by
  refine c_call Try.func52 rfl rfl fun a hk => ?_
  have hk : Kn 9 [(0, v), (1, .int .i64 i)] a := hk
  have hm : Mem w0 (fun k => v.ownBlock = some k) (fun k => v.ownBlock = some k) [.row 5 1 v n xs] w0 := Mem.startRow hrow (fun _ h => h) rfl (by simp only [List.not_mem_nil, false_imp_iff, implies_true])
  refine c_region ?_
  refine o_assign hk rfl rfl fun a hk => ?_
  refine c_end ?_
  refine c_region ?_
  refine o_move hk rfl rfl fun a hk => ?_
  refine o_move hk rfl rfl fun a hk => ?_
  refine o_convInt (c := IntKind.u64.wrap i) hk un_2 ti_94 rfl rfl rfl fun a hk => ?_
  refine o_call hk cb_59 (appendUint64_c (hm.row (i := 0) rfl) (IntKind.u64.wrap i) (by omega)) ⟨rfl, rfl, trivial⟩ rfl fun v1 w a hR hk => ?_
  have hm := hm.rowCall (i := 0) rfl hR
  refine o_assign hk rfl rfl fun a hk => ?_
  refine c_end ?_
  refine wp_ret ?_
  refine b_retTmp rfl hk rfl ?_
  have hr := hm.rowTo (i := 0) rfl
  rw [fixed_length] at hr ⊢; rw [fixed_u64] at hr; exact hr
theorem appendArrayLen_c {w0 : World} {v : Value} {n : Nat} {xs : List Value} (hrow : w0.ownsRow 0 5 1 v n xs) (i : Int) (hroom : n + 4 ≤ room) : Puts Try.prog 5 41 [v, .int .i64 i] v n xs (fixed i 4) w0 := by
  refine c_call Try.func41 rfl rfl fun a hk => ?_
  have hk : Kn 9 [(0, v), (1, .int .i64 i)] a := hk
  have hm : Mem w0 (fun k => v.ownBlock = some k) (fun k => v.ownBlock = some k) [.row 5 1 v n xs] w0 := Mem.startRow hrow (fun _ h => h) rfl (by simp only [List.not_mem_nil, false_imp_iff, implies_true])
  refine c_region ?_
  refine o_assign hk rfl rfl fun a hk => ?_
  refine c_end ?_
  refine c_region ?_
  refine o_move hk rfl rfl fun a hk => ?_
  refine o_move hk rfl rfl fun a hk => ?_
  refine o_convInt (c := IntKind.i32.wrap i) hk un_3 ti_21 rfl rfl rfl fun a hk => ?_
  refine o_call hk cb_40 (appendInt32_c (hm.row (i := 0) rfl) (IntKind.i32.wrap i) (by omega)) ⟨rfl, rfl, trivial⟩ rfl fun v1 w a hR hk => ?_
  have hm := hm.rowCall (i := 0) rfl hR
  refine o_assign hk rfl rfl fun a hk => ?_
  refine c_end ?_
  refine wp_ret ?_
  refine b_retTmp rfl hk rfl ?_
  have hr := hm.rowTo (i := 0) rfl
  rw [fixed_length] at hr ⊢; rw [fixed_i32] at hr; exact hr
theorem appendString_c {w0 : World} {v : Value} {n : Nat} {xs : List Value} (hrow : w0.ownsRow 0 5 1 v n xs) (s : List UInt8) (hroom : n + (2 + s.length) ≤ room) : Puts Try.prog 5 42 [v, .string (bs s)] v n xs (fixed (s.length : Int) 2 ++ s) w0 := by
  refine c_call Try.func42 rfl rfl fun a hk => ?_
  have hk : Kn 13 [(0, v), (1, .string (bs s))] a := hk
  have hm : Mem w0 (fun k => v.ownBlock = some k) (fun k => v.ownBlock = some k) [.row 5 1 v n xs] w0 := Mem.startRow hrow (fun _ h => h) rfl (by simp only [List.not_mem_nil, false_imp_iff, implies_true])
  refine c_region ?_
  refine o_assign hk rfl rfl fun a hk => ?_
  refine c_end ?_
  refine c_region ?_
  refine o_move hk rfl rfl fun a hk => ?_
  refine o_move hk rfl rfl fun a hk => ?_
  refine o_lenStr hk is_9 rfl rfl fun a hk => ?_
  refine o_convInt (c := IntKind.i16.wrap ((bs s).size : Int)) hk un_3 ti_45 rfl rfl rfl fun a hk => ?_
  refine o_call hk cb_39 (appendInt16_c (hm.row (i := 0) rfl) (IntKind.i16.wrap ((bs s).size : Int)) (by omega)) ⟨rfl, rfl, trivial⟩ rfl fun v1 w a hR hk => ?_
  have hm := hm.rowCall (i := 0) rfl hR
  refine o_assign hk rfl rfl fun a hk => ?_
  refine c_end ?_
  refine c_region ?_
  refine o_move hk rfl rfl fun a hk => ?_
  refine o_move hk rfl rfl fun a hk => ?_
  refine o_append (i := 0) hk hm rt_22 rfl rfl rfl (src_str is_9 (bs s)) (room_len (by simp only [bs_size, fixed_length]; omega)) (room_by (by simp only [bs_size, fixed_length]; omega)) rfl fun a v2 w hk hm hnilv2 => ?_
  refine o_assign hk rfl rfl fun a hk => ?_
  refine c_end ?_
  refine wp_ret ?_
  refine b_retTmp rfl hk rfl ?_
  have hr := hm.rowTo (i := 0) rfl
  have e1 : fixed (IntKind.i16.wrap ((bs s).size : Int)) 2 = fixed (s.length : Int) 2 := by rw [fixed_i16, bs_size]
  rw [byteCells_bs, e1, bs_size] at hr
  rw [List.length_append, bv_append, ← Nat.add_assoc, ← List.append_assoc]; exact hr
end Go.Proofs.Ytbljeefficdemaa
