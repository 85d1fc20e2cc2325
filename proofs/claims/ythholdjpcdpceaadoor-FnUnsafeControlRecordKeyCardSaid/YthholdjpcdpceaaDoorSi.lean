/- Walks of functions that the laws of this seat reach. No statement of the seat stands here. -/
import Derived.Test.YthholdjpcdpceaaDoorL2
import Derived.Test.YthholdjpcdpceaaDoorRows
import Derived.Test.YthholdjpcdpceaaDoorFa
import Derived.Test.YthholdjpcdpceaaDoorSg
namespace Go.Proofs.YthholdjpcdpceaaDoor
open Go Go.Mk
theorem write_c {w0 : World} {Y : Nat → Prop} {fs : List Fld} {t : T} {ct : List Value} {p : Option Addr} {cap : Nat} {flex : Bool} (fx V : Int) (hpt : PartC flex fs) (hfx : (decide (fx ≥ 0) && decide (V ≥ fx)) = flex) (hF : Rep w0 Y (.sl false 8 (fs.map ddFd)) [.slice p fs.length cap]) (hT : Rep w0 Y (ddT t) ct) (hsn : t.sane = true) (hroom : (partP fs V flex t).length ≤ room) : Ret Tryd.prog 39 [.agg #[.slice p fs.length cap, .int .i64 fx], .int .i64 V, .agg ct.toArray] w0 fun v w' => RowTo w0 5 1 (.slice none 0 0) (partP fs V flex t).length (bv (partP fs V flex t)) v w' := by
  obtain ⟨pst, capst, pt, capt, put, caput, rfl⟩ := rep_T7 hT
  refine c_call Tryd.func39 rfl rfl fun a hk => ?_
  have hk : Kn 21 [(0, .agg #[.slice p fs.length cap, .int .i64 fx]), (1, .int .i64 V), (2, .agg #[.int .i64 t.n, .slice pst t.s.length capst, .bool t.z, .slice pt t.l.length capt, .slice put t.u.length caput])] a := hk
  have hm : Mem w0 Nob Y [.rep (.sl false 8 (fs.map ddFd)) [.slice p fs.length cap], .rep (ddT t) [.int .i64 t.n, .slice pst t.s.length capst, .bool t.z, .slice pt t.l.length capt, .slice put t.u.length caput]] w0 := Mem.start rfl (by simp only [List.forall_mem_cons, List.not_mem_nil, false_imp_iff, implies_true, and_true]; exact ⟨hF, hT⟩)
  refine cR0 ?_
  refine o_box hk hm rfl rfl rfl fun a b1 w hk hm => ?_
  refine o_box hk hm rfl rfl rfl fun a b2 w hk hm => ?_
  refine oA0 hk rfl rfl fun a hk => ?_
  refine cE0 ?_
  refine cR0 ?_
  refine oF0 hk fo_32_0 rfl rfl fun a hk => ?_
  refine o_load hk ts_30 rfl (hm.cell_blk (i := 1) rfl rfl) rfl fun a hk => ?_
  refine oM0 hk rfl rfl fun a hk => ?_
  refine oF0 hk fo_32_1 rfl rfl fun a hk => ?_
  refine o_load hk ts_3 rfl (hm.cell_blk (i := 1) rfl rfl) rfl fun a hk => ?_
  refine o_icmp hk rfl rfl rfl rfl fun a hk => ?_
  refine oM0 hk rfl rfl fun a hk => ?_
  rcases Bool.eq_false_or_eq_true (decide ((fx : Int) ≥ 0)) with hb3 | hb3
  · rw [hb3] at hk
    refine o_want (o' := _) hk ⟨_, _, _, rfl, rfl, rfl⟩ rfl ?_
    refine oM0 hk rfl rfl fun a hk => ?_
    refine o_want (o' := _) hk ⟨_, _, _, rfl, rfl, rfl⟩ rfl ?_
    refine oF0 hk fo_32_1 rfl rfl fun a hk => ?_
    refine o_want (o' := _) hk ⟨_, _, _, rfl, rfl, rfl⟩ rfl ?_
    refine o_load hk ts_3 rfl (hm.cell_blk (i := 1) rfl rfl) rfl fun a hk => ?_
    refine o_want (o' := _) hk ⟨_, _, _, rfl, rfl, rfl⟩ rfl ?_
    refine o_icmp hk rfl rfl rfl rfl fun a hk => ?_
    refine o_pick hk rfl rfl rfl rfl rfl fun a hk => ?_
    refine o_loadN (cs := [.int .i64 t.n, .slice pst t.s.length capst, .bool t.z, .slice pt t.l.length capt, .slice put t.u.length caput]) hk ts_37 rfl (hm.cells_blk (i := 0) rfl rfl) rfl fun a hk => ?_
    have e : (decide ((V : Int) ≥ fx)) = flex := by rw [← hfx, hb3]; simp
    refine o_call hk cb_80 (hpt V (hm.rep (i := 2) rfl) (hm.rep (i := 3) rfl) hsn hroom) ⟨rfl, rfl, by rw [← e]; rfl, rfl, trivial⟩ rfl fun v4 w a hR hk => ?_
    have hm := hm.rowNew hR
    refine oA0 hk rfl rfl fun a hk => ?_
    refine cE0 ?_
    refine wp_ret ?_
    refine bT0 rfl hk rfl ?_
    have hr := hm.rowOut (i := 0) rfl
    exact hr
  · rw [hb3] at hk
    refine oS0 hk ⟨_, _, _, _, rfl, rfl, rfl, nb_ft⟩ rfl rfl fun a hk => ?_
    refine oS0 hk ⟨_, _, _, _, rfl, rfl, rfl, nb_ft⟩ rfl rfl fun a hk => ?_
    refine oS0 hk ⟨_, _, _, _, rfl, rfl, rfl, nb_ft⟩ rfl rfl fun a hk => ?_
    refine oS0 hk ⟨_, _, _, _, rfl, rfl, rfl, nb_ft⟩ rfl rfl fun a hk => ?_
    refine o_pick hk rfl rfl rfl rfl rfl fun a hk => ?_
    refine o_loadN (cs := [.int .i64 t.n, .slice pst t.s.length capst, .bool t.z, .slice pt t.l.length capt, .slice put t.u.length caput]) hk ts_37 rfl (hm.cells_blk (i := 0) rfl rfl) rfl fun a hk => ?_
    have e : (false) = flex := by rw [← hfx, hb3]; simp
    refine o_call hk cb_80 (hpt V (hm.rep (i := 2) rfl) (hm.rep (i := 3) rfl) hsn hroom) ⟨rfl, rfl, by rw [← e]; rfl, rfl, trivial⟩ rfl fun v5 w a hR hk => ?_
    have hm := hm.rowNew hR
    refine oA0 hk rfl rfl fun a hk => ?_
    refine cE0 ?_
    refine wp_ret ?_
    refine bT0 rfl hk rfl ?_
    have hr := hm.rowOut (i := 0) rfl
    exact hr
theorem kept_c {w0 : World} {Y : Nat → Prop} {fs : List Fld} {t : T} {ct : List Value} {p : Option Addr} {cap : Nat} {flex : Bool} (fx V : Int) (hpt : PartC flex fs) (hfx : (decide (fx ≥ 0) && decide (V ≥ fx)) = flex) (hF : Rep w0 Y (.sl false 8 (fs.map ddFd)) [.slice p fs.length cap]) (hT : Rep w0 Y (ddT t) ct) (hsn : t.sane = true) (hroom : 2 + (partP fs V flex t).length ≤ room) : Ret Tryd.prog 11 [.agg #[.slice p fs.length cap, .int .i64 fx], .int .i64 V, .agg ct.toArray] w0 fun v w' => RowTo w0 5 1 (.slice none 0 0) (fixed V 2 ++ partP fs V flex t).length (bv (fixed V 2 ++ partP fs V flex t)) v w' := by
  obtain ⟨pst, capst, pt, capt, put, caput, rfl⟩ := rep_T7 hT
  refine c_call Tryd.func11 rfl rfl fun a hk => ?_
  have hk : Kn 14 [(0, .agg #[.slice p fs.length cap, .int .i64 fx]), (1, .int .i64 V), (2, .agg #[.int .i64 t.n, .slice pst t.s.length capst, .bool t.z, .slice pt t.l.length capt, .slice put t.u.length caput])] a := hk
  have hm : Mem w0 Nob Y [.rep (.sl false 8 (fs.map ddFd)) [.slice p fs.length cap], .rep (ddT t) [.int .i64 t.n, .slice pst t.s.length capst, .bool t.z, .slice pt t.l.length capt, .slice put t.u.length caput]] w0 := Mem.start rfl (by simp only [List.forall_mem_cons, List.not_mem_nil, false_imp_iff, implies_true, and_true]; exact ⟨hF, hT⟩)
  refine cR0 ?_
  refine o_box hk hm rfl rfl rfl fun a b1 w hk hm => ?_
  refine o_box hk hm rfl rfl rfl fun a b2 w hk hm => ?_
  refine oA0 hk rfl rfl fun a hk => ?_
  refine cE0 ?_
  refine wp_seq ?_
  refine d_startM (K := 6) mixed hm fun w hm => ?_
  refine d_take (i := 0) rfl rfl rfl (by kernel_rfl) (fun _ _ _ h => h) hk rfl (fun w hm => r_move hk rfl) hm fun a hk => ?_
  refine d_take (i := 2) rfl rfl rfl (by kernel_rfl) (fun _ _ _ h => h) hk rfl (fun w hm => r_loadN (cs := [.slice p fs.length cap, .int .i64 fx]) hk ts_32 rfl (hm.cells_blk (i := 1) rfl rfl)) hm fun a hk => ?_
  refine d_take (i := 3) rfl rfl rfl (by kernel_rfl) (fun _ _ _ h => h) hk rfl (fun w hm => r_move hk rfl) hm fun a hk => ?_
  refine d_take (i := 4) rfl rfl rfl (by kernel_rfl) (fun _ _ _ h => h) hk rfl (fun w hm => r_loadN (cs := [.int .i64 t.n, .slice pst t.s.length capst, .bool t.z, .slice pt t.l.length capt, .slice put t.u.length caput]) hk ts_37 rfl (hm.cells_blk (i := 0) rfl rfl)) hm fun a hk => ?_
  refine d_one (k := 1) (by kernel_rfl) rfl rfl ?_
  refine o_call hk cb_38 (fixed_c (Y := Y) V 2 (by decide)) ⟨rfl, rfl, trivial⟩ rfl fun v3 w a hR hk => ?_
  have hm := hm.rowNew hR
  refine c_endQ (cT0 ⟨fun _ => hm.tail, ?_⟩)
  refine d_one (k := 5) (by kernel_rfl) rfl rfl ?_
  refine o_call hk cb_39 (write_c fx V hpt hfx (hm.rep (i := 3) rfl) (hm.rep (i := 4) rfl) hsn (by omega)) ⟨rfl, rfl, rfl, trivial⟩ rfl fun v4 w a hR hk => ?_
  have hm := hm.rowNew hR
  refine c_endQ (cT0 ⟨fun _ => hm.tail.tail, ?_⟩)
  refine d_one (k := 6) (by kernel_rfl) rfl rfl ?_
  refine o_append (i := 1) hk hm rt_22 rfl rfl rfl (src_row te_22 (hm.row (i := 0) rfl) (bv_one _)) (room_len (by rw [fixed_length]; omega)) (room_by (by rw [fixed_length]; omega)) rfl fun a v5 w hk hm _ => ?_
  have hm := hm.rowEq (i := 1) (n' := (fixed V 2 ++ (partP fs V flex t)).length) (xs' := bv (fixed V 2 ++ (partP fs V flex t))) rfl List.length_append.symm (bv_append _ _).symm
  refine c_endQ (cT0 ⟨fun h => Bool.noConfusion (show true = false from h), ?_⟩)
  refine d_one (k := 7) (by kernel_rfl) rfl rfl ?_
  refine oA0 hk rfl rfl fun a hk => ?_
  refine c_endQ (cT0 ⟨fun h => Bool.noConfusion (show true = false from h), ?_⟩)
  refine d_done (by kernel_rfl) ?_ _
  refine cT0 ?_
  refine wp_ret ?_
  refine bT0 rfl hk rfl ?_
  have hr := hm.rowOut (i := 1) rfl
  exact hr
end Go.Proofs.YthholdjpcdpceaaDoor
