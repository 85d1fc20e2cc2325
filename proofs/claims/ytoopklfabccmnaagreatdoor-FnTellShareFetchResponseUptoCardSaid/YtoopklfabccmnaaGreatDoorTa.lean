/- Walks of functions that the laws of this seat reach. No statement of the seat stands here. -/
import Derived.Test.YtoopklfabccmnaaGreatDoorL4
import Derived.Test.YtoopklfabccmnaaGreatDoorRows
import Derived.Test.YtoopklfabccmnaaGreatDoorFa
import Derived.Test.YtoopklfabccmnaaGreatDoorSa
namespace Go.Proofs.YtoopklfabccmnaaGreatDoor
open Go Go.Mk
theorem number_c {w0:World} {Y:Nat → Prop} {n:Int} (k:Nat):Ret Tryz.prog 118 [.int .i64 (k:Int),.int .i64 n] w0 fun v w'=>Agr Nob w0 w' ∧ v = .int .i64 (numberK k n):=by
  refine c_call Tryz.func118 rfl rfl fun a hk=>?_
  have hk:Kn 31 [(0,.int .i64 (k:Int)),(1,.int .i64 n)] a:=hk
  have hm:Mem w0 Nob Y [] w0:=Mem.start rfl (by simp)
  refine cR0 ?_
  refine oA0 hk rfl rfl fun a hk=>?_
  refine cE0 ?_
  refine wp_seq ?_
  refine cR0 ?_
  refine oM0 hk rfl rfl fun a hk=>?_
  refine cE0 ?_
  refine wp_block ?_
  refine cR0 ?_
  refine o_icmp hk rfl rfl rfl rfl fun a hk=>?_
  refine oA0 hk rfl rfl fun a hk=>?_
  refine cE0 ?_
  refine c_cond hk rfl (fun hc=>?_) (fun hc=>?_)
  · have hc1:=eq_of_beq hc
    refine cR0 ?_
    refine oM0 hk rfl rfl fun a hk=>?_
    refine o_ibits (c:=n % 2) hk rfl rfl (and1_i64 n) rfl fun a hk=>?_
    refine oA0 hk rfl rfl fun a hk=>?_
    refine cE0 ?_
    refine wp_ret ?_
    refine c_inRet ?_
    refine cQ0 ?_
    refine bT0 rfl hk rfl ?_
    exact ⟨hm.agr,by first | (have e:=number_0 (n:=n) (k:=k) (by omega); rw [e]) | (have e:=number_1 (n:=n) (k:=k) (by omega); rw [e]) | (have e:=number_2 (n:=n) (k:=k) (by omega); rw [e]) | (have e:=number_3 (n:=n) (k:=k) (by omega); rw [e]) | (have e:=number_5 (n:=n) (k:=k) (by omega); rw [e]) | (have e:=number_n (n:=n) (k:=k) (by omega) (by omega) (by omega) (by omega) (by omega); rw [e])⟩
  · have hc2:=beq_eq_false_iff_ne.1 hc
    refine cR0 ?_
    refine o_icmp hk rfl rfl rfl rfl fun a hk=>?_
    refine oA0 hk rfl rfl fun a hk=>?_
    refine cE0 ?_
    refine c_cond hk rfl (fun hc=>?_) (fun hc=>?_)
    · have hc3:=eq_of_beq hc
      refine cR0 ?_
      refine oM0 hk rfl rfl fun a hk=>?_
      refine o_convInt (c:=IntKind.i8.wrap n) hk un_2 ti_211 rfl rfl rfl fun a hk=>?_
      refine o_convInt (c:=(IntKind.i8.wrap n)) hk un_211 ti_2 rfl (wrap_in_i64 .i8 (by simp)) rfl fun a hk=>?_
      refine oA0 hk rfl rfl fun a hk=>?_
      refine cE0 ?_
      refine wp_ret ?_
      refine c_inRet ?_
      refine cQ0 ?_
      refine bT0 rfl hk rfl ?_
      exact ⟨hm.agr,by first | (have e:=number_0 (n:=n) (k:=k) (by omega); rw [e]) | (have e:=number_1 (n:=n) (k:=k) (by omega); rw [e]) | (have e:=number_2 (n:=n) (k:=k) (by omega); rw [e]) | (have e:=number_3 (n:=n) (k:=k) (by omega); rw [e]) | (have e:=number_5 (n:=n) (k:=k) (by omega); rw [e]) | (have e:=number_n (n:=n) (k:=k) (by omega) (by omega) (by omega) (by omega) (by omega); rw [e])⟩
    · have hc4:=beq_eq_false_iff_ne.1 hc
      refine cR0 ?_
      refine o_icmp hk rfl rfl rfl rfl fun a hk=>?_
      refine oA0 hk rfl rfl fun a hk=>?_
      refine cE0 ?_
      refine c_cond hk rfl (fun hc=>?_) (fun hc=>?_)
      · have hc5:=eq_of_beq hc
        refine cR0 ?_
        refine oM0 hk rfl rfl fun a hk=>?_
        refine o_convInt (c:=IntKind.i16.wrap n) hk un_2 ti_46 rfl rfl rfl fun a hk=>?_
        refine o_convInt (c:=(IntKind.i16.wrap n)) hk un_46 ti_2 rfl (wrap_in_i64 .i16 (by simp)) rfl fun a hk=>?_
        refine oA0 hk rfl rfl fun a hk=>?_
        refine cE0 ?_
        refine wp_ret ?_
        refine c_inRet ?_
        refine cQ0 ?_
        refine bT0 rfl hk rfl ?_
        exact ⟨hm.agr,by first | (have e:=number_0 (n:=n) (k:=k) (by omega); rw [e]) | (have e:=number_1 (n:=n) (k:=k) (by omega); rw [e]) | (have e:=number_2 (n:=n) (k:=k) (by omega); rw [e]) | (have e:=number_3 (n:=n) (k:=k) (by omega); rw [e]) | (have e:=number_5 (n:=n) (k:=k) (by omega); rw [e]) | (have e:=number_n (n:=n) (k:=k) (by omega) (by omega) (by omega) (by omega) (by omega); rw [e])⟩
      · have hc6:=beq_eq_false_iff_ne.1 hc
        refine cR0 ?_
        refine o_icmp hk rfl rfl rfl rfl fun a hk=>?_
        refine oA0 hk rfl rfl fun a hk=>?_
        refine cE0 ?_
        refine c_cond hk rfl (fun hc=>?_) (fun hc=>?_)
        · have hc7:=eq_of_beq hc
          refine cR0 ?_
          refine oM0 hk rfl rfl fun a hk=>?_
          refine o_convInt (c:=IntKind.i32.wrap n) hk un_2 ti_21 rfl rfl rfl fun a hk=>?_
          refine o_convInt (c:=(IntKind.i32.wrap n)) hk un_21 ti_2 rfl (wrap_in_i64 .i32 (by simp)) rfl fun a hk=>?_
          refine oA0 hk rfl rfl fun a hk=>?_
          refine cE0 ?_
          refine wp_ret ?_
          refine c_inRet ?_
          refine cQ0 ?_
          refine bT0 rfl hk rfl ?_
          exact ⟨hm.agr,by first | (have e:=number_0 (n:=n) (k:=k) (by omega); rw [e]) | (have e:=number_1 (n:=n) (k:=k) (by omega); rw [e]) | (have e:=number_2 (n:=n) (k:=k) (by omega); rw [e]) | (have e:=number_3 (n:=n) (k:=k) (by omega); rw [e]) | (have e:=number_5 (n:=n) (k:=k) (by omega); rw [e]) | (have e:=number_n (n:=n) (k:=k) (by omega) (by omega) (by omega) (by omega) (by omega); rw [e])⟩
        · have hc8:=beq_eq_false_iff_ne.1 hc
          refine cR0 ?_
          refine o_icmp hk rfl rfl rfl rfl fun a hk=>?_
          refine oA0 hk rfl rfl fun a hk=>?_
          refine cE0 ?_
          refine c_cond hk rfl (fun hc=>?_) (fun hc=>?_)
          · have hc9:=eq_of_beq hc
            refine cR0 ?_
            refine oM0 hk rfl rfl fun a hk=>?_
            refine o_convInt (c:=IntKind.u16.wrap n) hk un_2 ti_145 rfl rfl rfl fun a hk=>?_
            refine o_convInt (c:=(IntKind.u16.wrap n)) hk un_145 ti_2 rfl (wrap_in_i64 .u16 (by simp)) rfl fun a hk=>?_
            refine oA0 hk rfl rfl fun a hk=>?_
            refine cE0 ?_
            refine wp_ret ?_
            refine c_inRet ?_
            refine cQ0 ?_
            refine bT0 rfl hk rfl ?_
            exact ⟨hm.agr,by first | (have e:=number_0 (n:=n) (k:=k) (by omega); rw [e]) | (have e:=number_1 (n:=n) (k:=k) (by omega); rw [e]) | (have e:=number_2 (n:=n) (k:=k) (by omega); rw [e]) | (have e:=number_3 (n:=n) (k:=k) (by omega); rw [e]) | (have e:=number_5 (n:=n) (k:=k) (by omega); rw [e]) | (have e:=number_n (n:=n) (k:=k) (by omega) (by omega) (by omega) (by omega) (by omega); rw [e])⟩
          · have hc10:=beq_eq_false_iff_ne.1 hc
            refine wp_skip ?_
            refine cN0 ?_
            refine cT0 ?_
            refine cR0 ?_
            refine oM0 hk rfl rfl fun a hk=>?_
            refine oA0 hk rfl rfl fun a hk=>?_
            refine cE0 ?_
            refine wp_ret ?_
            refine bT0 rfl hk rfl ?_
            exact ⟨hm.agr,by first | (have e:=number_0 (n:=n) (k:=k) (by omega); rw [e]) | (have e:=number_1 (n:=n) (k:=k) (by omega); rw [e]) | (have e:=number_2 (n:=n) (k:=k) (by omega); rw [e]) | (have e:=number_3 (n:=n) (k:=k) (by omega); rw [e]) | (have e:=number_5 (n:=n) (k:=k) (by omega); rw [e]) | (have e:=number_n (n:=n) (k:=k) (by omega) (by omega) (by omega) (by omega) (by omega); rw [e])⟩
end Go.Proofs.YtoopklfabccmnaaGreatDoor
