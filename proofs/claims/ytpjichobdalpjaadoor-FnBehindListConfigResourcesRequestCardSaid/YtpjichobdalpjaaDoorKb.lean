/- Walks of functions that the laws of this seat reach. No statement of the seat stands here. -/
import Derived.Test.YtpjichobdalpjaaDoorL3
import Derived.Test.YtpjichobdalpjaaDoorRows
import Derived.Test.YtpjichobdalpjaaDoorFa
namespace Go.Proofs.YtpjichobdalpjaaDoor
open Go Go.Mk
theorem appendUint32_c {w0 : World} {v : Value} {n : Nat} {xs : List Value} (hrow : w0.ownsRow 0 5 1 v n xs) (i : Int) (hroom : n + 4 ≤ room) : Puts Tryd.prog 5 55 [v, .int .u32 i] v n xs (fixed i 4) w0 := by
  refine c_call Tryd.func55 rfl rfl fun a hk => ?_
  have hk : Kn 19 [(0, v), (1, .int .u32 i)] a := hk
  have hm : Mem w0 (fun k => v.ownBlock = some k) (fun k => v.ownBlock = some k) [.row 5 1 v n xs] w0 := Mem.startRow hrow (fun _ h => h) rfl (by simp only [List.not_mem_nil, false_imp_iff, implies_true])
  refine c_region ?_
  refine o_assign hk rfl rfl fun a hk => ?_
  refine c_end ?_
  refine c_region ?_
  refine o_move hk rfl rfl fun a hk => ?_
  refine o_move hk rfl rfl fun a hk => ?_
  refine o_shr (s := 24) (c := i / 2 ^ 24) hk rfl rfl rfl rfl fun a hk => ?_
  refine o_convInt (c := IntKind.u8.wrap (i / 2 ^ 24)) hk un_52 ti_5 rfl rfl rfl fun a hk => ?_
  refine o_move hk rfl rfl fun a hk => ?_
  refine o_shr (s := 16) (c := i / 2 ^ 16) hk rfl rfl rfl rfl fun a hk => ?_
  refine o_convInt (c := IntKind.u8.wrap (i / 2 ^ 16)) hk un_52 ti_5 rfl rfl rfl fun a hk => ?_
  refine o_move hk rfl rfl fun a hk => ?_
  refine o_shr (s := 8) (c := i / 2 ^ 8) hk rfl rfl rfl rfl fun a hk => ?_
  refine o_convInt (c := IntKind.u8.wrap (i / 2 ^ 8)) hk un_52 ti_5 rfl rfl rfl fun a hk => ?_
  refine o_move hk rfl rfl fun a hk => ?_
  refine o_convInt (c := IntKind.u8.wrap i) hk un_52 ti_5 rfl rfl rfl fun a hk => ?_
  refine o_buildSlice (r := [.int .u8 (IntKind.u8.wrap (i / 2 ^ 24)), .int .u8 (IntKind.u8.wrap (i / 2 ^ 16)), .int .u8 (IntKind.u8.wrap (i / 2 ^ 8)), .int .u8 (IntKind.u8.wrap i)]) hk hm rt_22 tz_5 rfl rfl rfl ⟨_, _, _, rfl, rfl, rfl, rfl, _, _, _, rfl, rfl, rfl, rfl, _, _, _, rfl, rfl, rfl, rfl, _, _, _, rfl, rfl, rfl, rfl, rfl⟩ rfl fun a b1 w hk hm => ?_
  refine o_append (i := 1) hk hm rt_22 rfl rfl rfl (src_cells (k := 4) (news := [.int .u8 (IntKind.u8.wrap (i / 2 ^ 24)), .int .u8 (IntKind.u8.wrap (i / 2 ^ 16)), .int .u8 (IntKind.u8.wrap (i / 2 ^ 8)), .int .u8 (IntKind.u8.wrap i)]) te_22 rfl (hm.cells_blk (i := 0) rfl rfl) rfl) (room_len (by omega)) (room_by (by omega)) rfl fun a v2 w hk hm hnilv2 => ?_
  refine o_assign hk rfl rfl fun a hk => ?_
  refine c_end ?_
  refine wp_ret ?_
  refine b_retTmp rfl hk rfl ?_
  have hr := hm.rowTo (i := 1) rfl
  rw [fixed_length, bv_fixed4]; exact hr
theorem appendInt32_c {w0 : World} {v : Value} {n : Nat} {xs : List Value} (hrow : w0.ownsRow 0 5 1 v n xs) (i : Int) (hroom : n + 4 ≤ room) : Puts Tryd.prog 5 47 [v, .int .i32 i] v n xs (fixed i 4) w0 := by
  refine c_call Tryd.func47 rfl rfl fun a hk => ?_
  have hk : Kn 9 [(0, v), (1, .int .i32 i)] a := hk
  have hm : Mem w0 (fun k => v.ownBlock = some k) (fun k => v.ownBlock = some k) [.row 5 1 v n xs] w0 := Mem.startRow hrow (fun _ h => h) rfl (by simp only [List.not_mem_nil, false_imp_iff, implies_true])
  refine c_region ?_
  refine o_assign hk rfl rfl fun a hk => ?_
  refine c_end ?_
  refine c_region ?_
  refine o_move hk rfl rfl fun a hk => ?_
  refine o_move hk rfl rfl fun a hk => ?_
  refine o_convInt (c := IntKind.u32.wrap i) hk un_21 ti_52 rfl rfl rfl fun a hk => ?_
  refine o_call hk cb_55 (appendUint32_c (hm.row (i := 0) rfl) (IntKind.u32.wrap i) (by omega)) ⟨rfl, rfl, trivial⟩ rfl fun v1 w a hR hk => ?_
  have hm := hm.rowCall (i := 0) rfl hR
  refine o_assign hk rfl rfl fun a hk => ?_
  refine c_end ?_
  refine wp_ret ?_
  refine b_retTmp rfl hk rfl ?_
  have hr := hm.rowTo (i := 0) rfl
  rw [fixed_length] at hr ⊢; rw [fixed_u32] at hr; exact hr
theorem appendArrayLen_c {w0 : World} {v : Value} {n : Nat} {xs : List Value} (hrow : w0.ownsRow 0 5 1 v n xs) (i : Int) (hroom : n + 4 ≤ room) : Puts Tryd.prog 5 30 [v, .int .i64 i] v n xs (fixed i 4) w0 := by
  refine c_call Tryd.func30 rfl rfl fun a hk => ?_
  have hk : Kn 9 [(0, v), (1, .int .i64 i)] a := hk
  have hm : Mem w0 (fun k => v.ownBlock = some k) (fun k => v.ownBlock = some k) [.row 5 1 v n xs] w0 := Mem.startRow hrow (fun _ h => h) rfl (by simp only [List.not_mem_nil, false_imp_iff, implies_true])
  refine c_region ?_
  refine o_assign hk rfl rfl fun a hk => ?_
  refine c_end ?_
  refine c_region ?_
  refine o_move hk rfl rfl fun a hk => ?_
  refine o_move hk rfl rfl fun a hk => ?_
  refine o_convInt (c := IntKind.i32.wrap i) hk un_3 ti_21 rfl rfl rfl fun a hk => ?_
  refine o_call hk cb_47 (appendInt32_c (hm.row (i := 0) rfl) (IntKind.i32.wrap i) (by omega)) ⟨rfl, rfl, trivial⟩ rfl fun v1 w a hR hk => ?_
  have hm := hm.rowCall (i := 0) rfl hR
  refine o_assign hk rfl rfl fun a hk => ?_
  refine c_end ?_
  refine wp_ret ?_
  refine b_retTmp rfl hk rfl ?_
  have hr := hm.rowTo (i := 0) rfl
  rw [fixed_length] at hr ⊢; rw [fixed_i32] at hr; exact hr
theorem len32_c (u : Nat) (hu : u < 4294967296) (w0 : World) : Ret Tryd.prog 56 [.int .u32 (u : Int)] w0 fun v w' => v = .int .i64 ((bl32 u : Nat) : Int) ∧ w' = w0 := by
  refine c_call Tryd.func56 rfl rfl fun a hk => ?_
  have hk : Kn 19 [(0, .int .u32 ((u : Nat) : Int))] a := hk
  refine c_region ?_
  refine o_assign hk rfl rfl fun a hk => ?_
  refine c_end ?_
  refine wp_seq ?_
  refine c_region ?_
  refine o_move hk rfl rfl fun a hk => ?_
  refine o_icmp hk rfl rfl rfl rfl fun a hk => ?_
  refine c_end ?_
  refine c_cond hk rfl (fun hc => ?_) (fun hc => ?_)
  · simp only [decide_eq_true_eq, decide_eq_false_iff_not, beq_iff_eq, beq_eq_false_iff_ne, ne_eq] at hc
    refine c_region ?_
    refine o_move hk rfl rfl fun a hk => ?_
    refine o_shr (s := 16) (c := ((u / 65536 : Nat) : Int)) hk rfl rfl (shr_lit (by decide)) rfl fun a hk => ?_
    refine o_assign hk rfl rfl fun a hk => ?_
    refine c_end ?_
    refine c_reg ?_
    refine o_assign hk rfl rfl fun a hk => ?_
    refine c_endQ ?_
    refine c_then ?_
    refine wp_seq ?_
    refine c_region ?_
    refine o_move hk rfl rfl fun a hk => ?_
    refine o_icmp hk rfl rfl rfl rfl fun a hk => ?_
    refine c_end ?_
    refine c_cond hk rfl (fun hc => ?_) (fun hc => ?_)
    · simp only [decide_eq_true_eq, decide_eq_false_iff_not, beq_iff_eq, beq_eq_false_iff_ne, ne_eq] at hc
      refine c_region ?_
      refine o_move hk rfl rfl fun a hk => ?_
      refine o_shr (s := 8) (c := (((u / 65536) / 256 : Nat) : Int)) hk rfl rfl (shr_lit (by decide)) rfl fun a hk => ?_
      refine o_assign hk rfl rfl fun a hk => ?_
      refine c_end ?_
      refine c_reg ?_
      refine o_move hk rfl rfl fun a hk => ?_
      refine o_iarith (c := ((16 + 8 : Nat) : Int)) hk rfl rfl rfl (by rw [IntWalk.i64_in _ (by omega)]; omega) rfl fun a hk => ?_
      refine o_assign hk rfl rfl fun a hk => ?_
      refine c_endQ ?_
      refine c_then ?_
      refine c_region ?_
      refine o_move hk rfl rfl fun a hk => ?_
      refine o_move hk rfl rfl fun a hk => ?_
      refine o_convInt (c := (((u / 65536) / 256 : Nat) : Int)) hk un_52 ti_5 rfl (by rw [IntKind.wrap_u8]; omega) rfl fun a hk => ?_
      refine o_indexTab (j := ((u / 65536) / 256)) (f := bl8) hk is_9 rfl rfl (by omega) (by kernel_rfl) rfl fun a hk => ?_
      have hb8 := bl8_le (i := (u / 65536) / 256)
      refine o_convInt (c := ((bl8 ((u / 65536) / 256) : Nat) : Int)) hk un_5 ti_3 rfl (IntWalk.i64_in _ (by omega)) rfl fun a hk => ?_
      refine o_iarith (c := (((16 + 8) + (bl8 ((u / 65536) / 256)) : Nat) : Int)) hk rfl rfl rfl (by rw [IntWalk.i64_in _ (by omega)]; omega) rfl fun a hk => ?_
      refine o_assign hk rfl rfl fun a hk => ?_
      refine c_end ?_
      refine wp_ret ?_
      refine b_retTmp rfl hk rfl ?_
      exact ⟨by rw [show bl32 u = (16 + 8) + (bl8 ((u / 65536) / 256)) by unfold bl32 bl16; (repeat' split) <;> omega], rfl⟩
    · simp only [decide_eq_true_eq, decide_eq_false_iff_not, beq_iff_eq, beq_eq_false_iff_ne, ne_eq] at hc
      refine wp_skip ?_
      refine c_then ?_
      refine c_region ?_
      refine o_move hk rfl rfl fun a hk => ?_
      refine o_move hk rfl rfl fun a hk => ?_
      refine o_convInt (c := ((u / 65536 : Nat) : Int)) hk un_52 ti_5 rfl (by rw [IntKind.wrap_u8]; omega) rfl fun a hk => ?_
      refine o_indexTab (j := (u / 65536)) (f := bl8) hk is_9 rfl rfl (by omega) (by kernel_rfl) rfl fun a hk => ?_
      have hb8 := bl8_le (i := u / 65536)
      refine o_convInt (c := ((bl8 (u / 65536) : Nat) : Int)) hk un_5 ti_3 rfl (IntWalk.i64_in _ (by omega)) rfl fun a hk => ?_
      refine o_iarith (c := ((16 + (bl8 (u / 65536)) : Nat) : Int)) hk rfl rfl rfl (by rw [IntWalk.i64_in _ (by omega)]; omega) rfl fun a hk => ?_
      refine o_assign hk rfl rfl fun a hk => ?_
      refine c_end ?_
      refine wp_ret ?_
      refine b_retTmp rfl hk rfl ?_
      exact ⟨by rw [show bl32 u = 16 + (bl8 (u / 65536)) by unfold bl32 bl16; (repeat' split) <;> omega], rfl⟩
  · simp only [decide_eq_true_eq, decide_eq_false_iff_not, beq_iff_eq, beq_eq_false_iff_ne, ne_eq] at hc
    refine wp_skip ?_
    refine c_then ?_
    refine wp_seq ?_
    refine c_region ?_
    refine o_move hk rfl rfl fun a hk => ?_
    refine o_icmp hk rfl rfl rfl rfl fun a hk => ?_
    refine c_end ?_
    refine c_cond hk rfl (fun hc => ?_) (fun hc => ?_)
    · simp only [decide_eq_true_eq, decide_eq_false_iff_not, beq_iff_eq, beq_eq_false_iff_ne, ne_eq] at hc
      refine c_region ?_
      refine o_move hk rfl rfl fun a hk => ?_
      refine o_shr (s := 8) (c := ((u / 256 : Nat) : Int)) hk rfl rfl (shr_lit (by decide)) rfl fun a hk => ?_
      refine o_assign hk rfl rfl fun a hk => ?_
      refine c_end ?_
      refine c_reg ?_
      refine o_move hk rfl rfl fun a hk => ?_
      refine o_iarith (c := ((0 + 8 : Nat) : Int)) hk rfl rfl rfl (by rw [IntWalk.i64_in _ (by omega)]; omega) rfl fun a hk => ?_
      refine o_assign hk rfl rfl fun a hk => ?_
      refine c_endQ ?_
      refine c_then ?_
      refine c_region ?_
      refine o_move hk rfl rfl fun a hk => ?_
      refine o_move hk rfl rfl fun a hk => ?_
      refine o_convInt (c := ((u / 256 : Nat) : Int)) hk un_52 ti_5 rfl (by rw [IntKind.wrap_u8]; omega) rfl fun a hk => ?_
      refine o_indexTab (j := (u / 256)) (f := bl8) hk is_9 rfl rfl (by omega) (by kernel_rfl) rfl fun a hk => ?_
      have hb8 := bl8_le (i := u / 256)
      refine o_convInt (c := ((bl8 (u / 256) : Nat) : Int)) hk un_5 ti_3 rfl (IntWalk.i64_in _ (by omega)) rfl fun a hk => ?_
      refine o_iarith (c := (((0 + 8) + (bl8 (u / 256)) : Nat) : Int)) hk rfl rfl rfl (by rw [IntWalk.i64_in _ (by omega)]; omega) rfl fun a hk => ?_
      refine o_assign hk rfl rfl fun a hk => ?_
      refine c_end ?_
      refine wp_ret ?_
      refine b_retTmp rfl hk rfl ?_
      exact ⟨by rw [show bl32 u = (0 + 8) + (bl8 (u / 256)) by unfold bl32 bl16; (repeat' split) <;> omega], rfl⟩
    · simp only [decide_eq_true_eq, decide_eq_false_iff_not, beq_iff_eq, beq_eq_false_iff_ne, ne_eq] at hc
      refine wp_skip ?_
      refine c_then ?_
      refine c_region ?_
      refine o_move hk rfl rfl fun a hk => ?_
      refine o_move hk rfl rfl fun a hk => ?_
      refine o_convInt (c := ((u : Nat) : Int)) hk un_52 ti_5 rfl (by rw [IntKind.wrap_u8]; omega) rfl fun a hk => ?_
      refine o_indexTab (j := u) (f := bl8) hk is_9 rfl rfl (by omega) (by kernel_rfl) rfl fun a hk => ?_
      have hb8 := bl8_le (i := u)
      refine o_convInt (c := ((bl8 u : Nat) : Int)) hk un_5 ti_3 rfl (IntWalk.i64_in _ (by omega)) rfl fun a hk => ?_
      refine o_iarith (c := ((0 + (bl8 u) : Nat) : Int)) hk rfl rfl rfl (by rw [IntWalk.i64_in _ (by omega)]; omega) rfl fun a hk => ?_
      refine o_assign hk rfl rfl fun a hk => ?_
      refine c_end ?_
      refine wp_ret ?_
      refine b_retTmp rfl hk rfl ?_
      exact ⟨by rw [show bl32 u = 0 + (bl8 u) by unfold bl32 bl16; (repeat' split) <;> omega], rfl⟩
theorem uvarintLen_c (u : Nat) (hu : u < 4294967296) (w0 : World) : Ret Tryd.prog 48 [.int .u32 (u : Int)] w0 fun v w' => v = .int .i64 ((uvLen u : Nat) : Int) ∧ w' = w0 := by
  refine c_call Tryd.func48 rfl rfl fun a hk => ?_
  have hk : Kn 8 [(0, .int .u32 ((u : Nat) : Int))] a := hk
  have hb := bl32_le (u := u)
  have hg := grp_uv hu
  have hgl : grp (bl32 u) < 256 := by rw [hg]; unfold uvLen; (repeat' split) <;> omega
  refine c_region ?_
  refine o_assign hk rfl rfl fun a hk => ?_
  refine c_end ?_
  refine c_region ?_
  refine o_move hk rfl rfl fun a hk => ?_
  refine o_call hk cb_56 (len32_c u hu w0) ⟨rfl, trivial⟩ rfl fun v w a hR hk => ?_
  obtain ⟨rfl, hw⟩ := hR
  obtain rfl : w0 = w := hw.symm
  refine o_convInt (c := ((bl32 u : Nat) : Int)) hk un_3 ti_5 rfl (by rw [IntKind.wrap_u8]; omega) rfl fun a hk => ?_
  refine o_indexTab (j := (bl32 u)) (f := grp) hk is_9 rfl rfl (by omega) (by kernel_rfl) rfl fun a hk => ?_
  refine o_convInt (c := ((grp (bl32 u) : Nat) : Int)) hk un_5 ti_3 rfl (IntWalk.i64_in _ (by omega)) rfl fun a hk => ?_
  refine o_assign hk rfl rfl fun a hk => ?_
  refine c_end ?_
  refine wp_ret ?_
  refine b_retTmp rfl hk rfl ?_
  exact ⟨by rw [hg], rfl⟩
theorem appendUvarint_ok : Ea.Ok Tryd.prog 5 32 (.uv) := by
  intro w0 v n xs hrow u hu hroom
  have hl := uvarint_len32 hu
  have hb := bv_uvarint hu
  rw [hl] at hroom
  unfold uvLen at hroom hl
  unfold uvB at hb
  refine c_call Tryd.func32 rfl rfl fun a hk => ?_
  have hk : Kn 93 [(0, v), (1, .int .u32 ((u : Nat) : Int))] a := hk
  have hm : Mem w0 (fun k => v.ownBlock = some k) (fun k => v.ownBlock = some k) [.row 5 1 v n xs] w0 := Mem.startRow hrow (fun _ h => h) rfl (by simp only [List.not_mem_nil, false_imp_iff, implies_true])
  refine c_region ?_
  refine o_assign hk rfl rfl fun a hk => ?_
  refine c_end ?_
  refine wp_seq ?_
  refine c_region ?_
  refine o_move hk rfl rfl fun a hk => ?_
  refine o_call hk cb_48 (uvarintLen_c u hu w0) ⟨rfl, trivial⟩ rfl fun v1 w a hR hk => ?_
  obtain ⟨rfl, hw⟩ := hR
  obtain rfl : w0 = w := hw.symm
  refine c_end ?_
  refine wp_block ?_
  refine c_region ?_
  refine o_icmp hk rfl rfl rfl rfl fun a hk => ?_
  refine o_assign hk rfl rfl fun a hk => ?_
  refine c_end ?_
  refine c_cond hk rfl (fun hc => ?_) (fun hc => ?_)
  · have hcu := hc
    simp only [beq_iff_eq, beq_eq_false_iff_ne, ne_eq] at hcu
    unfold uvLen at hcu
    replace hcu : 268435456 ≤ u := by (repeat' split at hcu) <;> omega
    refine c_region ?_
    refine o_move hk rfl rfl fun a hk => ?_
    refine o_move hk rfl rfl fun a hk => ?_
    refine o_ibits (c := ((u % 128 : Nat) : Int)) hk rfl rfl (and127_u32 _ (by omega)) rfl fun a hk => ?_
    refine o_ibits (c := (((u % 128) + 128 : Nat) : Int)) hk rfl rfl (or128_u32 _ (by omega)) rfl fun a hk => ?_
    refine o_convInt (c := (((u % 128) + 128 : Nat) : Int)) hk un_52 ti_5 rfl (by rw [IntKind.wrap_u8]; omega) rfl fun a hk => ?_
    refine o_move hk rfl rfl fun a hk => ?_
    refine o_shr (s := 7) (c := ((u / 128 : Nat) : Int)) hk rfl rfl (shr_lit (by decide)) rfl fun a hk => ?_
    refine o_ibits (c := (((u / 128) % 128 : Nat) : Int)) hk rfl rfl (and127_u32 _ (by omega)) rfl fun a hk => ?_
    refine o_ibits (c := ((((u / 128) % 128) + 128 : Nat) : Int)) hk rfl rfl (or128_u32 _ (by omega)) rfl fun a hk => ?_
    refine o_convInt (c := ((((u / 128) % 128) + 128 : Nat) : Int)) hk un_52 ti_5 rfl (by rw [IntKind.wrap_u8]; omega) rfl fun a hk => ?_
    refine o_move hk rfl rfl fun a hk => ?_
    refine o_shr (s := 14) (c := ((u / 16384 : Nat) : Int)) hk rfl rfl (shr_lit (by decide)) rfl fun a hk => ?_
    refine o_ibits (c := (((u / 16384) % 128 : Nat) : Int)) hk rfl rfl (and127_u32 _ (by omega)) rfl fun a hk => ?_
    refine o_ibits (c := ((((u / 16384) % 128) + 128 : Nat) : Int)) hk rfl rfl (or128_u32 _ (by omega)) rfl fun a hk => ?_
    refine o_convInt (c := ((((u / 16384) % 128) + 128 : Nat) : Int)) hk un_52 ti_5 rfl (by rw [IntKind.wrap_u8]; omega) rfl fun a hk => ?_
    refine o_move hk rfl rfl fun a hk => ?_
    refine o_shr (s := 21) (c := ((u / 2097152 : Nat) : Int)) hk rfl rfl (shr_lit (by decide)) rfl fun a hk => ?_
    refine o_ibits (c := (((u / 2097152) % 128 : Nat) : Int)) hk rfl rfl (and127_u32 _ (by omega)) rfl fun a hk => ?_
    refine o_ibits (c := ((((u / 2097152) % 128) + 128 : Nat) : Int)) hk rfl rfl (or128_u32 _ (by omega)) rfl fun a hk => ?_
    refine o_convInt (c := ((((u / 2097152) % 128) + 128 : Nat) : Int)) hk un_52 ti_5 rfl (by rw [IntKind.wrap_u8]; omega) rfl fun a hk => ?_
    refine o_move hk rfl rfl fun a hk => ?_
    refine o_shr (s := 28) (c := ((u / 268435456 : Nat) : Int)) hk rfl rfl (shr_lit (by decide)) rfl fun a hk => ?_
    refine o_convInt (c := ((u / 268435456 : Nat) : Int)) hk un_52 ti_5 rfl (by rw [IntKind.wrap_u8]; omega) rfl fun a hk => ?_
    refine o_buildSlice (r := [.int .u8 (((u % 128) + 128 : Nat) : Int), .int .u8 ((((u / 128) % 128) + 128 : Nat) : Int), .int .u8 ((((u / 16384) % 128) + 128 : Nat) : Int), .int .u8 ((((u / 2097152) % 128) + 128 : Nat) : Int), .int .u8 ((u / 268435456 : Nat) : Int)]) hk hm rt_22 tz_5 rfl rfl rfl ⟨_, _, _, rfl, rfl, rfl, rfl, _, _, _, rfl, rfl, rfl, rfl, _, _, _, rfl, rfl, rfl, rfl, _, _, _, rfl, rfl, rfl, rfl, _, _, _, rfl, rfl, rfl, rfl, rfl⟩ rfl fun a b1 w hk hm => ?_
    refine o_append (i := 1) hk hm rt_22 rfl rfl rfl (src_cells (k := 5) (news := [.int .u8 (((u % 128) + 128 : Nat) : Int), .int .u8 ((((u / 128) % 128) + 128 : Nat) : Int), .int .u8 ((((u / 16384) % 128) + 128 : Nat) : Int), .int .u8 ((((u / 2097152) % 128) + 128 : Nat) : Int), .int .u8 ((u / 268435456 : Nat) : Int)]) te_22 rfl (hm.cells_blk (i := 0) rfl rfl) rfl) (room_len (by (repeat' split at hroom) <;> omega)) (room_by (by (repeat' split at hroom) <;> omega)) rfl fun a v2 w hk hm _ => ?_
    refine o_assign hk rfl rfl fun a hk => ?_
    refine c_end ?_
    refine wp_ret ?_
    refine c_inRet ?_
    refine c_thenRet ?_
    refine b_retTmp rfl hk rfl ?_
    have hr := hm.rowTo (i := 1) rfl
    have hl2 : (uvarint u).length = 5 := by rw [hl]; (repeat' split) <;> omega
    rw [if_neg (by omega), if_neg (by omega), if_neg (by omega), if_neg (by omega)] at hb
    rw [hb, hl2]
    exact hr
  · have hcu := hc
    simp only [beq_iff_eq, beq_eq_false_iff_ne, ne_eq] at hcu
    unfold uvLen at hcu
    replace hcu : u < 268435456 := by (repeat' split at hcu) <;> omega
    refine c_region ?_
    refine o_icmp hk rfl rfl rfl rfl fun a hk => ?_
    refine o_assign hk rfl rfl fun a hk => ?_
    refine c_end ?_
    refine c_cond hk rfl (fun hc => ?_) (fun hc => ?_)
    · have hcu := hc
      simp only [beq_iff_eq, beq_eq_false_iff_ne, ne_eq] at hcu
      unfold uvLen at hcu
      replace hcu : 2097152 ≤ u ∧ u < 268435456 := by (repeat' split at hcu) <;> omega
      refine c_region ?_
      refine o_move hk rfl rfl fun a hk => ?_
      refine o_move hk rfl rfl fun a hk => ?_
      refine o_ibits (c := ((u % 128 : Nat) : Int)) hk rfl rfl (and127_u32 _ (by omega)) rfl fun a hk => ?_
      refine o_ibits (c := (((u % 128) + 128 : Nat) : Int)) hk rfl rfl (or128_u32 _ (by omega)) rfl fun a hk => ?_
      refine o_convInt (c := (((u % 128) + 128 : Nat) : Int)) hk un_52 ti_5 rfl (by rw [IntKind.wrap_u8]; omega) rfl fun a hk => ?_
      refine o_move hk rfl rfl fun a hk => ?_
      refine o_shr (s := 7) (c := ((u / 128 : Nat) : Int)) hk rfl rfl (shr_lit (by decide)) rfl fun a hk => ?_
      refine o_ibits (c := (((u / 128) % 128 : Nat) : Int)) hk rfl rfl (and127_u32 _ (by omega)) rfl fun a hk => ?_
      refine o_ibits (c := ((((u / 128) % 128) + 128 : Nat) : Int)) hk rfl rfl (or128_u32 _ (by omega)) rfl fun a hk => ?_
      refine o_convInt (c := ((((u / 128) % 128) + 128 : Nat) : Int)) hk un_52 ti_5 rfl (by rw [IntKind.wrap_u8]; omega) rfl fun a hk => ?_
      refine o_move hk rfl rfl fun a hk => ?_
      refine o_shr (s := 14) (c := ((u / 16384 : Nat) : Int)) hk rfl rfl (shr_lit (by decide)) rfl fun a hk => ?_
      refine o_ibits (c := (((u / 16384) % 128 : Nat) : Int)) hk rfl rfl (and127_u32 _ (by omega)) rfl fun a hk => ?_
      refine o_ibits (c := ((((u / 16384) % 128) + 128 : Nat) : Int)) hk rfl rfl (or128_u32 _ (by omega)) rfl fun a hk => ?_
      refine o_convInt (c := ((((u / 16384) % 128) + 128 : Nat) : Int)) hk un_52 ti_5 rfl (by rw [IntKind.wrap_u8]; omega) rfl fun a hk => ?_
      refine o_move hk rfl rfl fun a hk => ?_
      refine o_shr (s := 21) (c := ((u / 2097152 : Nat) : Int)) hk rfl rfl (shr_lit (by decide)) rfl fun a hk => ?_
      refine o_convInt (c := ((u / 2097152 : Nat) : Int)) hk un_52 ti_5 rfl (by rw [IntKind.wrap_u8]; omega) rfl fun a hk => ?_
      refine o_buildSlice (r := [.int .u8 (((u % 128) + 128 : Nat) : Int), .int .u8 ((((u / 128) % 128) + 128 : Nat) : Int), .int .u8 ((((u / 16384) % 128) + 128 : Nat) : Int), .int .u8 ((u / 2097152 : Nat) : Int)]) hk hm rt_22 tz_5 rfl rfl rfl ⟨_, _, _, rfl, rfl, rfl, rfl, _, _, _, rfl, rfl, rfl, rfl, _, _, _, rfl, rfl, rfl, rfl, _, _, _, rfl, rfl, rfl, rfl, rfl⟩ rfl fun a b3 w hk hm => ?_
      refine o_append (i := 1) hk hm rt_22 rfl rfl rfl (src_cells (k := 4) (news := [.int .u8 (((u % 128) + 128 : Nat) : Int), .int .u8 ((((u / 128) % 128) + 128 : Nat) : Int), .int .u8 ((((u / 16384) % 128) + 128 : Nat) : Int), .int .u8 ((u / 2097152 : Nat) : Int)]) te_22 rfl (hm.cells_blk (i := 0) rfl rfl) rfl) (room_len (by (repeat' split at hroom) <;> omega)) (room_by (by (repeat' split at hroom) <;> omega)) rfl fun a v4 w hk hm _ => ?_
      refine o_assign hk rfl rfl fun a hk => ?_
      refine c_end ?_
      refine wp_ret ?_
      refine c_inRet ?_
      refine c_thenRet ?_
      refine b_retTmp rfl hk rfl ?_
      have hr := hm.rowTo (i := 1) rfl
      have hl2 : (uvarint u).length = 4 := by rw [hl]; (repeat' split) <;> omega
      rw [if_neg (by omega), if_neg (by omega), if_neg (by omega), if_pos (by omega)] at hb
      rw [hb, hl2]
      exact hr
    · have hcu := hc
      simp only [beq_iff_eq, beq_eq_false_iff_ne, ne_eq] at hcu
      unfold uvLen at hcu
      replace hcu : u < 2097152 := by (repeat' split at hcu) <;> omega
      refine c_region ?_
      refine o_icmp hk rfl rfl rfl rfl fun a hk => ?_
      refine o_assign hk rfl rfl fun a hk => ?_
      refine c_end ?_
      refine c_cond hk rfl (fun hc => ?_) (fun hc => ?_)
      · have hcu := hc
        simp only [beq_iff_eq, beq_eq_false_iff_ne, ne_eq] at hcu
        unfold uvLen at hcu
        replace hcu : 16384 ≤ u ∧ u < 2097152 := by (repeat' split at hcu) <;> omega
        refine c_region ?_
        refine o_move hk rfl rfl fun a hk => ?_
        refine o_move hk rfl rfl fun a hk => ?_
        refine o_ibits (c := ((u % 128 : Nat) : Int)) hk rfl rfl (and127_u32 _ (by omega)) rfl fun a hk => ?_
        refine o_ibits (c := (((u % 128) + 128 : Nat) : Int)) hk rfl rfl (or128_u32 _ (by omega)) rfl fun a hk => ?_
        refine o_convInt (c := (((u % 128) + 128 : Nat) : Int)) hk un_52 ti_5 rfl (by rw [IntKind.wrap_u8]; omega) rfl fun a hk => ?_
        refine o_move hk rfl rfl fun a hk => ?_
        refine o_shr (s := 7) (c := ((u / 128 : Nat) : Int)) hk rfl rfl (shr_lit (by decide)) rfl fun a hk => ?_
        refine o_ibits (c := (((u / 128) % 128 : Nat) : Int)) hk rfl rfl (and127_u32 _ (by omega)) rfl fun a hk => ?_
        refine o_ibits (c := ((((u / 128) % 128) + 128 : Nat) : Int)) hk rfl rfl (or128_u32 _ (by omega)) rfl fun a hk => ?_
        refine o_convInt (c := ((((u / 128) % 128) + 128 : Nat) : Int)) hk un_52 ti_5 rfl (by rw [IntKind.wrap_u8]; omega) rfl fun a hk => ?_
        refine o_move hk rfl rfl fun a hk => ?_
        refine o_shr (s := 14) (c := ((u / 16384 : Nat) : Int)) hk rfl rfl (shr_lit (by decide)) rfl fun a hk => ?_
        refine o_convInt (c := ((u / 16384 : Nat) : Int)) hk un_52 ti_5 rfl (by rw [IntKind.wrap_u8]; omega) rfl fun a hk => ?_
        refine o_buildSlice (r := [.int .u8 (((u % 128) + 128 : Nat) : Int), .int .u8 ((((u / 128) % 128) + 128 : Nat) : Int), .int .u8 ((u / 16384 : Nat) : Int)]) hk hm rt_22 tz_5 rfl rfl rfl ⟨_, _, _, rfl, rfl, rfl, rfl, _, _, _, rfl, rfl, rfl, rfl, _, _, _, rfl, rfl, rfl, rfl, rfl⟩ rfl fun a b5 w hk hm => ?_
        refine o_append (i := 1) hk hm rt_22 rfl rfl rfl (src_cells (k := 3) (news := [.int .u8 (((u % 128) + 128 : Nat) : Int), .int .u8 ((((u / 128) % 128) + 128 : Nat) : Int), .int .u8 ((u / 16384 : Nat) : Int)]) te_22 rfl (hm.cells_blk (i := 0) rfl rfl) rfl) (room_len (by (repeat' split at hroom) <;> omega)) (room_by (by (repeat' split at hroom) <;> omega)) rfl fun a v6 w hk hm _ => ?_
        refine o_assign hk rfl rfl fun a hk => ?_
        refine c_end ?_
        refine wp_ret ?_
        refine c_inRet ?_
        refine c_thenRet ?_
        refine b_retTmp rfl hk rfl ?_
        have hr := hm.rowTo (i := 1) rfl
        have hl2 : (uvarint u).length = 3 := by rw [hl]; (repeat' split) <;> omega
        rw [if_neg (by omega), if_neg (by omega), if_pos (by omega)] at hb
        rw [hb, hl2]
        exact hr
      · have hcu := hc
        simp only [beq_iff_eq, beq_eq_false_iff_ne, ne_eq] at hcu
        unfold uvLen at hcu
        replace hcu : u < 16384 := by (repeat' split at hcu) <;> omega
        refine c_region ?_
        refine o_icmp hk rfl rfl rfl rfl fun a hk => ?_
        refine o_assign hk rfl rfl fun a hk => ?_
        refine c_end ?_
        refine c_cond hk rfl (fun hc => ?_) (fun hc => ?_)
        · have hcu := hc
          simp only [beq_iff_eq, beq_eq_false_iff_ne, ne_eq] at hcu
          unfold uvLen at hcu
          replace hcu : 128 ≤ u ∧ u < 16384 := by (repeat' split at hcu) <;> omega
          refine c_region ?_
          refine o_move hk rfl rfl fun a hk => ?_
          refine o_move hk rfl rfl fun a hk => ?_
          refine o_ibits (c := ((u % 128 : Nat) : Int)) hk rfl rfl (and127_u32 _ (by omega)) rfl fun a hk => ?_
          refine o_ibits (c := (((u % 128) + 128 : Nat) : Int)) hk rfl rfl (or128_u32 _ (by omega)) rfl fun a hk => ?_
          refine o_convInt (c := (((u % 128) + 128 : Nat) : Int)) hk un_52 ti_5 rfl (by rw [IntKind.wrap_u8]; omega) rfl fun a hk => ?_
          refine o_move hk rfl rfl fun a hk => ?_
          refine o_shr (s := 7) (c := ((u / 128 : Nat) : Int)) hk rfl rfl (shr_lit (by decide)) rfl fun a hk => ?_
          refine o_convInt (c := ((u / 128 : Nat) : Int)) hk un_52 ti_5 rfl (by rw [IntKind.wrap_u8]; omega) rfl fun a hk => ?_
          refine o_buildSlice (r := [.int .u8 (((u % 128) + 128 : Nat) : Int), .int .u8 ((u / 128 : Nat) : Int)]) hk hm rt_22 tz_5 rfl rfl rfl ⟨_, _, _, rfl, rfl, rfl, rfl, _, _, _, rfl, rfl, rfl, rfl, rfl⟩ rfl fun a b7 w hk hm => ?_
          refine o_append (i := 1) hk hm rt_22 rfl rfl rfl (src_cells (k := 2) (news := [.int .u8 (((u % 128) + 128 : Nat) : Int), .int .u8 ((u / 128 : Nat) : Int)]) te_22 rfl (hm.cells_blk (i := 0) rfl rfl) rfl) (room_len (by (repeat' split at hroom) <;> omega)) (room_by (by (repeat' split at hroom) <;> omega)) rfl fun a v8 w hk hm _ => ?_
          refine o_assign hk rfl rfl fun a hk => ?_
          refine c_end ?_
          refine wp_ret ?_
          refine c_inRet ?_
          refine c_thenRet ?_
          refine b_retTmp rfl hk rfl ?_
          have hr := hm.rowTo (i := 1) rfl
          have hl2 : (uvarint u).length = 2 := by rw [hl]; (repeat' split) <;> omega
          rw [if_neg (by omega), if_pos (by omega)] at hb
          rw [hb, hl2]
          exact hr
        · have hcu := hc
          simp only [beq_iff_eq, beq_eq_false_iff_ne, ne_eq] at hcu
          unfold uvLen at hcu
          replace hcu : u < 128 := by (repeat' split at hcu) <;> omega
          refine c_region ?_
          refine o_icmp hk rfl rfl rfl rfl fun a hk => ?_
          refine o_assign hk rfl rfl fun a hk => ?_
          refine c_end ?_
          refine c_cond hk rfl (fun hc => ?_) (fun hc => ?_)
          · have hcu := hc
            simp only [beq_iff_eq, beq_eq_false_iff_ne, ne_eq] at hcu
            unfold uvLen at hcu
            replace hcu : u < 128 := by (repeat' split at hcu) <;> omega
            refine c_region ?_
            refine o_move hk rfl rfl fun a hk => ?_
            refine o_move hk rfl rfl fun a hk => ?_
            refine o_convInt (c := ((u : Nat) : Int)) hk un_52 ti_5 rfl (by rw [IntKind.wrap_u8]; omega) rfl fun a hk => ?_
            refine o_buildSlice (r := [.int .u8 ((u : Nat) : Int)]) hk hm rt_22 tz_5 rfl rfl rfl ⟨_, _, _, rfl, rfl, rfl, rfl, rfl⟩ rfl fun a b9 w hk hm => ?_
            refine o_append (i := 1) hk hm rt_22 rfl rfl rfl (src_cells (k := 1) (news := [.int .u8 ((u : Nat) : Int)]) te_22 rfl (hm.cells_blk (i := 0) rfl rfl) rfl) (room_len (by (repeat' split at hroom) <;> omega)) (room_by (by (repeat' split at hroom) <;> omega)) rfl fun a v10 w hk hm _ => ?_
            refine o_assign hk rfl rfl fun a hk => ?_
            refine c_end ?_
            refine wp_ret ?_
            refine c_inRet ?_
            refine c_thenRet ?_
            refine b_retTmp rfl hk rfl ?_
            have hr := hm.rowTo (i := 1) rfl
            have hl2 : (uvarint u).length = 1 := by rw [hl]; (repeat' split) <;> omega
            rw [if_pos (by omega)] at hb
            rw [hb, hl2]
            exact hr
          · have hcu := hc
            simp only [beq_iff_eq, beq_eq_false_iff_ne, ne_eq] at hcu
            unfold uvLen at hcu
            replace hcu : False := by (repeat' split at hcu) <;> omega
            exact hcu.elim
theorem appendInt32_ok : Ea.Ok Tryd.prog 5 47 (.fx 3) := by
  intro ik w0 v n xs hik hrow i hroom
  obtain rfl : IntKind.i32 = ik := Option.some.inj hik
  exact appendInt32_c hrow i hroom
theorem appendInt8_ok : Ea.Ok Tryd.prog 5 31 (.fx 1) := by
  intro ik w0 v n xs hik hrow i hroom
  obtain rfl : IntKind.i8 = ik := Option.some.inj hik
  have hroom1 : n + 1 ≤ room := hroom
  refine c_call Tryd.func31 rfl rfl fun a hk => ?_
  have hk : Kn 10 [(0, v), (1, .int .i8 i)] a := hk
  have hm : Mem w0 (fun k => v.ownBlock = some k) (fun k => v.ownBlock = some k) [.row 5 1 v n xs] w0 := Mem.startRow hrow (fun _ h => h) rfl (by simp only [List.not_mem_nil, false_imp_iff, implies_true])
  refine c_region ?_
  refine o_assign hk rfl rfl fun a hk => ?_
  refine c_end ?_
  refine c_region ?_
  refine o_move hk rfl rfl fun a hk => ?_
  refine o_move hk rfl rfl fun a hk => ?_
  refine o_convInt (c := IntKind.u8.wrap i) hk un_72 ti_5 rfl rfl rfl fun a hk => ?_
  refine o_buildSlice (r := [.int .u8 (IntKind.u8.wrap i)]) hk hm rt_22 tz_5 rfl rfl rfl ⟨_, _, _, rfl, rfl, rfl, rfl, rfl⟩ rfl fun a b1 w hk hm => ?_
  refine o_append (i := 1) hk hm rt_22 rfl rfl rfl (src_cells (k := 1) (news := [.int .u8 (IntKind.u8.wrap i)]) te_22 rfl (hm.cells_blk (i := 0) rfl rfl) rfl) (room_len (by omega)) (room_by (by omega)) rfl fun a v2 w hk hm _ => ?_
  refine o_assign hk rfl rfl fun a hk => ?_
  refine c_end ?_
  refine wp_ret ?_
  refine b_retTmp rfl hk rfl ?_
  have hr := hm.rowTo (i := 1) rfl
  have e1 : bv (fixed i 1) = [.int .u8 (IntKind.u8.wrap i)] := by simp only [fixed, bv_u8]; simp [bv]
  show RowTo w0 _ 1 v (n + (fixed i 1).length) (xs ++ bv (fixed i 1)) _ _
  rw [e1, fixed_length]
  exact hr
theorem appendArrayLen_ok : Ea.Ok Tryd.prog 5 30 (.cnt false) := by
  intro w0 v n xs hrow k hk hroom
  have hc : counted false false k 4 = fixed (k : Int) 4 := rfl
  rw [hc, fixed_length] at hroom
  rw [hc]
  exact appendArrayLen_c hrow k hroom
theorem appendCompactArrayLen_ok : Ea.Ok Tryd.prog 5 29 (.cnt true) := by
  intro w0 v n xs hrow k hk hroom
  have hc : counted true false k 4 = uvarint (k + 1) := rfl
  rw [hc] at hroom ⊢
  refine c_call Tryd.func29 rfl rfl fun a hk => ?_
  have hk : Kn 10 [(0, v), (1, .int .i64 ((k : Nat) : Int))] a := hk
  have hm : Mem w0 (fun k => v.ownBlock = some k) (fun k => v.ownBlock = some k) [.row 5 1 v n xs] w0 := Mem.startRow hrow (fun _ h => h) rfl (by simp only [List.not_mem_nil, false_imp_iff, implies_true])
  refine c_region ?_
  refine o_assign hk rfl rfl fun a hk => ?_
  refine c_end ?_
  refine c_region ?_
  refine o_move hk rfl rfl fun a hk => ?_
  refine o_move hk rfl rfl fun a hk => ?_
  refine o_convInt (c := ((k : Nat) : Int)) hk un_3 ti_52 rfl (by rw [IntKind.wrap_u32]; omega) rfl fun a hk => ?_
  refine o_iarith (c := ((1 + k : Nat) : Int)) hk rfl rfl rfl (by rw [IntKind.wrap_u32]; omega) rfl fun a hk => ?_
  refine o_call hk cb_32 (appendUvarint_ok (hm.row (i := 0) rfl) (1 + k) (by omega) (by rw [show 1 + k = k + 1 by omega]; exact hroom)) ⟨rfl, rfl, trivial⟩ rfl fun v1 w a hR hk => ?_
  have hm := hm.rowCall (i := 0) rfl hR
  refine o_assign hk rfl rfl fun a hk => ?_
  refine c_end ?_
  refine wp_ret ?_
  refine b_retTmp rfl hk rfl ?_
  have hr := hm.rowTo (i := 0) rfl
  rw [show 1 + k = k + 1 by omega] at hr
  exact hr
end Go.Proofs.YtpjichobdalpjaaDoor
