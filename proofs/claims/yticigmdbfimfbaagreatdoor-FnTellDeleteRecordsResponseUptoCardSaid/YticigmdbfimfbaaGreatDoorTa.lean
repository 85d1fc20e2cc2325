/- Walks of functions that the laws of this seat reach. No statement of the seat stands here. -/
import Derived.Test.YticigmdbfimfbaaGreatDoorL4
import Derived.Test.YticigmdbfimfbaaGreatDoorRows
import Derived.Test.YticigmdbfimfbaaGreatDoorFa
import Derived.Test.YticigmdbfimfbaaGreatDoorSa
namespace Go.Proofs.YticigmdbfimfbaaGreatDoor
open Go Go.Mk
theorem number_c {w0 : World} {Y : Nat → Prop} {n : Int} (k : Nat) : Ret Tryz.prog 101 [.int .i64 (k : Int), .int .i64 n] w0 fun v w' => Agr Nob w0 w' ∧ v = .int .i64 (numberK k n) := by
  refine c_call Tryz.func101 rfl rfl fun a hk => ?_
  have hk : Kn 31 [(0, .int .i64 (k : Int)), (1, .int .i64 n)] a := hk
  have hm : Mem w0 Nob Y [] w0 := Mem.start rfl (by simp)
  refine c_region ?_
  refine o_assign hk rfl rfl fun a hk => ?_
  refine c_end ?_
  refine wp_seq ?_
  refine c_region ?_
  refine o_move hk rfl rfl fun a hk => ?_
  refine c_end ?_
  refine wp_block ?_
  refine c_region ?_
  refine o_icmp hk rfl rfl rfl rfl fun a hk => ?_
  refine o_assign hk rfl rfl fun a hk => ?_
  refine c_end ?_
  refine c_cond hk rfl (fun hc => ?_) (fun hc => ?_)
  · have hc1 := eq_of_beq hc
    refine c_region ?_
    refine o_move hk rfl rfl fun a hk => ?_
    refine o_ibits (c := n % 2) hk rfl rfl (and1_i64 n) rfl fun a hk => ?_
    refine o_assign hk rfl rfl fun a hk => ?_
    refine c_end ?_
    refine wp_ret ?_
    refine c_inRet ?_
    refine c_thenRet ?_
    refine b_retTmp rfl hk rfl ?_
    exact ⟨hm.agr, by first | (have e := number_0 (n := n) (k := k) (by omega); rw [e]) | (have e := number_1 (n := n) (k := k) (by omega); rw [e]) | (have e := number_2 (n := n) (k := k) (by omega); rw [e]) | (have e := number_3 (n := n) (k := k) (by omega); rw [e]) | (have e := number_5 (n := n) (k := k) (by omega); rw [e]) | (have e := number_n (n := n) (k := k) (by omega) (by omega) (by omega) (by omega) (by omega); rw [e])⟩
  · have hc2 := beq_eq_false_iff_ne.1 hc
    refine c_region ?_
    refine o_icmp hk rfl rfl rfl rfl fun a hk => ?_
    refine o_assign hk rfl rfl fun a hk => ?_
    refine c_end ?_
    refine c_cond hk rfl (fun hc => ?_) (fun hc => ?_)
    · have hc3 := eq_of_beq hc
      refine c_region ?_
      refine o_move hk rfl rfl fun a hk => ?_
      refine o_convInt (c := IntKind.i8.wrap n) hk un_2 ti_132 rfl rfl rfl fun a hk => ?_
      refine o_convInt (c := (IntKind.i8.wrap n)) hk un_132 ti_2 rfl (wrap_in_i64 .i8 (by simp)) rfl fun a hk => ?_
      refine o_assign hk rfl rfl fun a hk => ?_
      refine c_end ?_
      refine wp_ret ?_
      refine c_inRet ?_
      refine c_thenRet ?_
      refine b_retTmp rfl hk rfl ?_
      exact ⟨hm.agr, by first | (have e := number_0 (n := n) (k := k) (by omega); rw [e]) | (have e := number_1 (n := n) (k := k) (by omega); rw [e]) | (have e := number_2 (n := n) (k := k) (by omega); rw [e]) | (have e := number_3 (n := n) (k := k) (by omega); rw [e]) | (have e := number_5 (n := n) (k := k) (by omega); rw [e]) | (have e := number_n (n := n) (k := k) (by omega) (by omega) (by omega) (by omega) (by omega); rw [e])⟩
    · have hc4 := beq_eq_false_iff_ne.1 hc
      refine c_region ?_
      refine o_icmp hk rfl rfl rfl rfl fun a hk => ?_
      refine o_assign hk rfl rfl fun a hk => ?_
      refine c_end ?_
      refine c_cond hk rfl (fun hc => ?_) (fun hc => ?_)
      · have hc5 := eq_of_beq hc
        refine c_region ?_
        refine o_move hk rfl rfl fun a hk => ?_
        refine o_convInt (c := IntKind.i16.wrap n) hk un_2 ti_46 rfl rfl rfl fun a hk => ?_
        refine o_convInt (c := (IntKind.i16.wrap n)) hk un_46 ti_2 rfl (wrap_in_i64 .i16 (by simp)) rfl fun a hk => ?_
        refine o_assign hk rfl rfl fun a hk => ?_
        refine c_end ?_
        refine wp_ret ?_
        refine c_inRet ?_
        refine c_thenRet ?_
        refine b_retTmp rfl hk rfl ?_
        exact ⟨hm.agr, by first | (have e := number_0 (n := n) (k := k) (by omega); rw [e]) | (have e := number_1 (n := n) (k := k) (by omega); rw [e]) | (have e := number_2 (n := n) (k := k) (by omega); rw [e]) | (have e := number_3 (n := n) (k := k) (by omega); rw [e]) | (have e := number_5 (n := n) (k := k) (by omega); rw [e]) | (have e := number_n (n := n) (k := k) (by omega) (by omega) (by omega) (by omega) (by omega); rw [e])⟩
      · have hc6 := beq_eq_false_iff_ne.1 hc
        refine c_region ?_
        refine o_icmp hk rfl rfl rfl rfl fun a hk => ?_
        refine o_assign hk rfl rfl fun a hk => ?_
        refine c_end ?_
        refine c_cond hk rfl (fun hc => ?_) (fun hc => ?_)
        · have hc7 := eq_of_beq hc
          refine c_region ?_
          refine o_move hk rfl rfl fun a hk => ?_
          refine o_convInt (c := IntKind.i32.wrap n) hk un_2 ti_21 rfl rfl rfl fun a hk => ?_
          refine o_convInt (c := (IntKind.i32.wrap n)) hk un_21 ti_2 rfl (wrap_in_i64 .i32 (by simp)) rfl fun a hk => ?_
          refine o_assign hk rfl rfl fun a hk => ?_
          refine c_end ?_
          refine wp_ret ?_
          refine c_inRet ?_
          refine c_thenRet ?_
          refine b_retTmp rfl hk rfl ?_
          exact ⟨hm.agr, by first | (have e := number_0 (n := n) (k := k) (by omega); rw [e]) | (have e := number_1 (n := n) (k := k) (by omega); rw [e]) | (have e := number_2 (n := n) (k := k) (by omega); rw [e]) | (have e := number_3 (n := n) (k := k) (by omega); rw [e]) | (have e := number_5 (n := n) (k := k) (by omega); rw [e]) | (have e := number_n (n := n) (k := k) (by omega) (by omega) (by omega) (by omega) (by omega); rw [e])⟩
        · have hc8 := beq_eq_false_iff_ne.1 hc
          refine c_region ?_
          refine o_icmp hk rfl rfl rfl rfl fun a hk => ?_
          refine o_assign hk rfl rfl fun a hk => ?_
          refine c_end ?_
          refine c_cond hk rfl (fun hc => ?_) (fun hc => ?_)
          · have hc9 := eq_of_beq hc
            refine c_region ?_
            refine o_move hk rfl rfl fun a hk => ?_
            refine o_convInt (c := IntKind.u16.wrap n) hk un_2 ti_167 rfl rfl rfl fun a hk => ?_
            refine o_convInt (c := (IntKind.u16.wrap n)) hk un_167 ti_2 rfl (wrap_in_i64 .u16 (by simp)) rfl fun a hk => ?_
            refine o_assign hk rfl rfl fun a hk => ?_
            refine c_end ?_
            refine wp_ret ?_
            refine c_inRet ?_
            refine c_thenRet ?_
            refine b_retTmp rfl hk rfl ?_
            exact ⟨hm.agr, by first | (have e := number_0 (n := n) (k := k) (by omega); rw [e]) | (have e := number_1 (n := n) (k := k) (by omega); rw [e]) | (have e := number_2 (n := n) (k := k) (by omega); rw [e]) | (have e := number_3 (n := n) (k := k) (by omega); rw [e]) | (have e := number_5 (n := n) (k := k) (by omega); rw [e]) | (have e := number_n (n := n) (k := k) (by omega) (by omega) (by omega) (by omega) (by omega); rw [e])⟩
          · have hc10 := beq_eq_false_iff_ne.1 hc
            refine wp_skip ?_
            refine c_inNormal ?_
            refine c_then ?_
            refine c_region ?_
            refine o_move hk rfl rfl fun a hk => ?_
            refine o_assign hk rfl rfl fun a hk => ?_
            refine c_end ?_
            refine wp_ret ?_
            refine b_retTmp rfl hk rfl ?_
            exact ⟨hm.agr, by first | (have e := number_0 (n := n) (k := k) (by omega); rw [e]) | (have e := number_1 (n := n) (k := k) (by omega); rw [e]) | (have e := number_2 (n := n) (k := k) (by omega); rw [e]) | (have e := number_3 (n := n) (k := k) (by omega); rw [e]) | (have e := number_5 (n := n) (k := k) (by omega); rw [e]) | (have e := number_n (n := n) (k := k) (by omega) (by omega) (by omega) (by omega) (by omega); rw [e])⟩
end Go.Proofs.YticigmdbfimfbaaGreatDoor
