/- Walks of functions that the laws of this seat reach. No statement of the seat stands here. -/
import Derived.Test.YtpjichobdalpjaaDoorL5
import Derived.Test.YtpjichobdalpjaaDoorRows
import Derived.Test.YtpjichobdalpjaaDoorFa
import Derived.Test.YtpjichobdalpjaaDoorRg
namespace Go.Proofs.YtpjichobdalpjaaDoor
open Go Go.Mk
theorem rdInt8_c {w0 : World} {Y : Nat → Prop} {rb : Nat} {s : RS} (hb : RdrAt w0 Y rb 83 s) (hY : Y rb) : Ret Tryd.prog 45 [.pointer (some ⟨rb, 0, none⟩)] w0 fun v w' => Agr (fun k => k = rb) w0 w' ∧ v = .int .i8 (IntKind.i8.wrap ((RS.num 1 s).1 : Int)) ∧ RdrAt w' (fun b => b < w0.heap.size ∧ Y b) rb 83 (RS.num 1 s).2 := by
  obtain ⟨x, hb, hx⟩ := hb
  obtain ⟨px, capx, rfl, hcap⟩ := src_form hx
  refine c_call Tryd.func45 rfl rfl fun a hk => ?_
  have hk : Kn 32 [(0, .pointer (some ⟨rb, 0, none⟩))] a := hk
  have hm : Mem w0 (fun k => k = rb) Y [.blk rb [.slice px ((s.src.getD []).length) capx, .bool s.bad] 83, .rep (ddSrc s.src) [.slice px ((s.src.getD []).length) capx]] w0 := Mem.startBlk hb hY rfl (by simp only [List.forall_mem_cons, List.not_mem_nil, false_imp_iff, implies_true, and_true]; exact hx)
  refine c_region ?_
  refine o_assign hk rfl rfl fun a hk => ?_
  refine c_end ?_
  refine wp_seq ?_
  refine c_region ?_
  refine o_move hk rfl rfl fun a hk => ?_
  refine o_nilCheck hk rfl rfl fun a hk => ?_
  refine o_fieldAddr hk fo_83_0 rfl rfl fun a hk => ?_
  refine o_load hk ts_22 rfl (hm.cell_blk (i := 0) rfl rfl) rfl fun a hk => ?_
  refine o_lenSlice hk te_22 rfl rfl fun a hk => ?_
  refine o_icmp hk rfl rfl rfl rfl fun a hk => ?_
  refine c_end ?_
  refine c_cond hk rfl (fun hc => ?_) (fun hc => ?_)
  · have hlt : s.l.length < 1 := by have := of_decide_eq_true hc; unfold RS.l; omega
    have hn : RS.num 1 s = (0, RS.fail) := by unfold RS.num; rw [if_pos hlt]
    rw [hn]
    refine c_region ?_
    refine o_move hk rfl rfl fun a hk => ?_
    refine o_nilCheck hk rfl rfl fun a hk => ?_
    refine o_fieldAddr hk fo_83_1 rfl rfl fun a hk => ?_
    refine o_store (i := 0) hk hm ts_4 rfl rfl rfl rfl rfl rfl (Nat.le_of_ble_eq_true rfl) fun a w hk hm => ?_
    refine c_end ?_
    refine c_region ?_
    refine o_move hk rfl rfl fun a hk => ?_
    refine o_nilCheck hk rfl rfl fun a hk => ?_
    refine o_fieldAddr hk fo_83_0 rfl rfl fun a hk => ?_
    refine o_store (i := 0) hk hm ts_22 rfl rfl rfl rfl rfl rfl (Nat.le_of_ble_eq_true rfl) fun a w hk hm => ?_
    refine c_end ?_
    refine c_region ?_
    refine o_assign hk rfl rfl fun a hk => ?_
    refine c_end ?_
    refine wp_ret ?_
    refine c_thenRet ?_
    refine b_retTmp rfl hk rfl ?_
    exact ⟨hm.agr, rfl, _, hm.blkAt (i := 0) rfl, rep_v _⟩
  · have hge : 1 ≤ (s.src.getD []).length := by have := of_decide_eq_false hc; omega
    obtain ⟨l, hl⟩ : ∃ l, s.src = some l := by cases h : s.src with | none => rw [h] at hge; simp at hge | some l => exact ⟨l, rfl⟩
    have hn : RS.num 1 s = (be (l.take 1), ⟨some (l.drop 1), s.bad⟩) := by unfold RS.num RS.l; rw [if_neg (by omega), hl]; rfl
    rw [hn]
    simp only [hl, Option.getD_some] at hge hcap hm hk
    have hbe := Er.be_take1 hge
    obtain ⟨bs_, off, cap, hpx, -, hC⟩ : ∃ b off cap, Value.slice px l.length capx = .slice (some ⟨b, off, none⟩) l.length cap ∧ l.length ≤ cap ∧ Cel w0 (Yof w0 Y [.blk rb [.slice px l.length capx, .bool s.bad] 83, .rep (ddSrc (some l)) [.slice px l.length capx]]) b off (bv l) := by
      rcases src_some (hm.rep (i := 1) rfl) with ⟨h0, _⟩ | h
      · rw [h0] at hge; simp at hge
      · exact h
    obtain ⟨rfl, -, rfl⟩ := Value.slice.inj hpx
    have hm := hm.add (e := .cel bs_ off (bv l)) rfl hC
    refine wp_skip ?_
    refine c_then ?_
    refine c_region ?_
    refine o_move hk rfl rfl fun a hk => ?_
    refine o_nilCheck hk rfl rfl fun a hk => ?_
    refine o_fieldAddr hk fo_83_0 rfl rfl fun a hk => ?_
    refine o_load hk ts_22 rfl (hm.cell_blk (i := 1) rfl rfl) rfl fun a hk => ?_
    refine o_indexAddr (j := 0) hk te_22 ts_5 rfl rfl (by omega) rfl fun a hk => ?_
    refine o_load hk ts_5 rfl (hm.cell_cel (i := 0) (j := 0) rfl (bv_get (by omega))) rfl fun a hk => ?_
    refine o_assign hk rfl rfl fun a hk => ?_
    refine c_end ?_
    refine c_region ?_
    refine o_move hk rfl rfl fun a hk => ?_
    refine o_move hk rfl rfl fun a hk => ?_
    refine o_nilCheck hk rfl rfl fun a hk => ?_
    refine o_fieldAddr hk fo_83_0 rfl rfl fun a hk => ?_
    refine o_load hk ts_22 rfl (hm.cell_blk (i := 1) rfl rfl) rfl fun a hk => ?_
    refine o_sliceFrom (k := 1) hk te_22 ts_5 rfl rfl hge rfl fun a hk => ?_
    refine o_nilCheck hk rfl rfl fun a hk => ?_
    refine o_fieldAddr hk fo_83_0 rfl rfl fun a hk => ?_
    refine o_store (i := 1) hk hm ts_22 rfl rfl (cells1 (rfl)) rfl rfl rfl (Nat.le_of_ble_eq_true rfl) fun a w hk hm => ?_
    refine c_end ?_
    refine c_region ?_
    refine o_move hk rfl rfl fun a hk => ?_
    refine o_convInt (c := IntKind.i8.wrap (((l.getD 0 0).toNat : Nat) : Int)) hk un_5 ti_72 rfl rfl rfl fun a hk => ?_
    refine o_assign hk rfl rfl fun a hk => ?_
    refine c_end ?_
    refine wp_ret ?_
    refine b_retTmp rfl hk rfl ?_
    exact ⟨hm.agr, by rw [hbe], _, hm.blkAt (i := 1) rfl, hm.out (src_from (o := some l) (hm.rep (i := 2) rfl) hge)⟩
end Go.Proofs.YtpjichobdalpjaaDoor
