/- Walks of functions that the laws of this seat reach. No statement of the seat stands here. -/
import Derived.Test.YticigmdbfimfbaaDoorL3
import Derived.Test.YticigmdbfimfbaaDoorRows
import Derived.Test.YticigmdbfimfbaaDoorFa
import Derived.Test.YticigmdbfimfbaaDoorRj
import Derived.Test.YticigmdbfimfbaaDoorSch
namespace Go.Proofs.YticigmdbfimfbaaDoor
open Go Go.Mk
theorem dflt_EnvelopeRequest {good gv : Value} {gb : Nat} : Er.RkOk Tryd.prog 118 good gb gv 84 (.dflt []) := Er.rk_dflt0 (er := 118) (good := good) (gb := gb) (gv := gv) Tryd.func84 rfl rfl rfl
theorem rk_dflt_EnvelopeRequest {gv : Value} : Er.RkOk Tryd.prog 118 .nilIface 1 gv 84 (.dflt []) := by
  apply @dflt_EnvelopeRequest .nilIface gv 1
theorem rk_Int32 {gv : Value} : Er.RkOk Tryd.prog 118 .nilIface 1 gv 91 (.val 3 false false) := by
  apply Er.rk_num (k := 3) (ik := .i32) rfl
  exact (fun h1 h2 => rdInt32_c h1 h2)
theorem rk_Int16 {gv : Value} : Er.RkOk Tryd.prog 118 .nilIface 1 gv 92 (.val 2 false false) := by
  apply Er.rk_num (k := 2) (ik := .i16) rfl
  exact (fun h1 h2 => rdInt16_c h1 h2)
theorem rk_tags {gv : Value} : Er.RkOk Tryd.prog 118 .nilIface 1 gv 93 (.tags) := by
  apply @readTags_ok .nilIface gv 1
theorem rk_Complete {gv : Value} : Er.RkOk Tryd.prog 118 .nilIface 1 gv 94 (.done) := by
  apply @rdComplete_c gv
theorem rk_Int64 {gv : Value} : Er.RkOk Tryd.prog 118 .nilIface 1 gv 99 (.val 4 false false) := by
  apply Er.rk_num (k := 4) (ik := .i64) rfl
  exact (fun h1 h2 => rdInt64_c h1 h2)
theorem rk_CompactBytes {gv : Value} : Er.RkOk Tryd.prog 118 .nilIface 1 gv 100 (.val 9 false true) := by
  apply Er.rk_bytes
  exact (fun h1 h2 => rdCompactBytes_c h1 h2)
theorem rk_Bytes {gv : Value} : Er.RkOk Tryd.prog 118 .nilIface 1 gv 101 (.val 9 false false) := by
  apply Er.rk_bytes
  exact (fun h1 h2 => rdBytes_c h1 h2)
theorem rk_CompactNullableBytes {gv : Value} : Er.RkOk Tryd.prog 118 .nilIface 1 gv 102 (.val 9 true true) := by
  apply Er.rk_bytes
  exact (fun h1 h2 => rdCompactNullableBytes_c h1 h2)
theorem rk_NullableBytes {gv : Value} : Er.RkOk Tryd.prog 118 .nilIface 1 gv 103 (.val 9 true false) := by
  apply Er.rk_bytes
  exact (fun h1 h2 => rdNullableBytes_c h1 h2)
theorem rk_CompactArrayLen {gv : Value} : Er.RkOk Tryd.prog 118 .nilIface 1 gv 104 (.cnt true) := by
  apply (fun {w0 Y rb s} => rdCompactArrayLen_c (w0 := w0) (Y := Y) (rb := rb) (s := s))
theorem rk_ArrayLen {gv : Value} : Er.RkOk Tryd.prog 118 .nilIface 1 gv 105 (.cnt false) := by
  apply (fun {w0 Y rb s} => rdArrayLen_c (w0 := w0) (Y := Y) (rb := rb) (s := s))
theorem rk_Ok {gv : Value} : Er.RkOk Tryd.prog 118 .nilIface 1 gv 106 (.ok) := by
  apply @rdOk_ok .nilIface gv 1
theorem rk_Uuid {gv : Value} : Er.RkOk Tryd.prog 118 .nilIface 1 gv 108 (.val 7 false false) := by
  apply Er.rk_uuid
  exact (fun h1 h2 => rdUuid_c h1 h2)
def cfgR : List (Nat × Er.RK) := (84, .dflt []) :: (91, .val 3 false false) :: (92, .val 2 false false) :: (93, .tags) :: (94, .done) :: (99, .val 4 false false) :: (100, .val 9 false true) :: (101, .val 9 false false) :: (102, .val 9 true true) :: (103, .val 9 true false) :: (104, .cnt true) :: (105, .cnt false) :: (106, .ok) :: (108, .val 7 false false) :: []
noncomputable def cxR (gv : Value) (n m rt V : Nat) (flex : Bool) : Er.Cx := ⟨Tryd.prog, n, m, rt, 118, cfgR, V, flex, .nilIface, 1, gv⟩
theorem cfgR_ok {gv : Value} {n m rt V : Nat} {flex : Bool} : Er.CfgOk (cxR gv n m rt V flex) := by
  intro f ck h
  simp only [cxR, cfgR, List.mem_cons, Prod.mk.injEq, List.not_mem_nil, or_false] at h
  rcases h with ⟨rfl, rfl⟩ | ⟨rfl, rfl⟩ | ⟨rfl, rfl⟩ | ⟨rfl, rfl⟩ | ⟨rfl, rfl⟩ | ⟨rfl, rfl⟩ | ⟨rfl, rfl⟩ | ⟨rfl, rfl⟩ | ⟨rfl, rfl⟩ | ⟨rfl, rfl⟩ | ⟨rfl, rfl⟩ | ⟨rfl, rfl⟩ | ⟨rfl, rfl⟩ | ⟨rfl, rfl⟩
  · exact ⟨@rk_dflt_EnvelopeRequest gv, cb_84⟩
  · exact ⟨@rk_Int32 gv, cb_91⟩
  · exact ⟨@rk_Int16 gv, cb_92⟩
  · exact ⟨@rk_tags gv, cb_93⟩
  · exact ⟨@rk_Complete gv, cb_94⟩
  · exact ⟨@rk_Int64 gv, cb_99⟩
  · exact ⟨@rk_CompactBytes gv, cb_100⟩
  · exact ⟨@rk_Bytes gv, cb_101⟩
  · exact ⟨@rk_CompactNullableBytes gv, cb_102⟩
  · exact ⟨@rk_NullableBytes gv, cb_103⟩
  · exact ⟨@rk_CompactArrayLen gv, cb_104⟩
  · exact ⟨@rk_ArrayLen gv, cb_105⟩
  · exact ⟨@rk_Ok gv, cb_106⟩
  · exact ⟨@rk_Uuid gv, cb_108⟩
noncomputable def cxR_EnvelopeRequest (gv : Value) (V : Nat) : Er.Cx := cxR gv 54 14 6 V (decide ((V : Int) ≥ 0))
theorem rchk_EnvelopeRequest (gv : Value) : (List.range 1).all (fun V => Er.rdTop (cxR_EnvelopeRequest gv V) sch_EnvelopeRequest true false Tryd.f85) = true := by kernel_rfl
theorem readFrom_EnvelopeRequest {w0 : World} {Y : Nat → Prop} {v gv : Value} {o : Option (List UInt8)} {g : Nat} (V : Nat) (h1 : V ≤ 0) (hg : w0.heap[g]? = some (.cells (.int .i16 (V : Int) :: Er.dflS sch_EnvelopeRequest true).toArray 111 (0, 0))) (hR : Rep w0 Y (ddSrc o) [v]) (hY : Y g) (hG : ¬ Y 1 ∧ w0.cell? ⟨1, 0, none⟩ = some gv) :
    Ret Tryd.prog 85 [.pointer (some ⟨g, 0, none⟩), v, .bool false] w0 fun x w' => Er.Told .nilIface gv sch_EnvelopeRequest true V (decide ((V : Int) ≥ 0)) o g 111 Y w0 x w' := by
  have h : Er.rdTop (cxR_EnvelopeRequest gv V) sch_EnvelopeRequest true false Tryd.f85 = true := Ea.all_range (rchk_EnvelopeRequest gv) (by omega)
  exact Er.rd_sound (cx := cxR_EnvelopeRequest gv V) (fn := Tryd.f85) cfgR_ok Tryd.func85 h hg hR hY hG
theorem ReadFrom_EnvelopeRequest {w0 : World} {Y : Nat → Prop} {v gv : Value} {o : Option (List UInt8)} {g : Nat} (V : Nat) (h1 : V ≤ 0) (hg : w0.heap[g]? = some (.cells (.int .i16 (V : Int) :: Er.dflS sch_EnvelopeRequest true).toArray 111 (0, 0))) (hR : Rep w0 Y (ddSrc o) [v]) (hY : Y g) (hG : ¬ Y 1 ∧ w0.cell? ⟨1, 0, none⟩ = some gv) :
    Ret Tryd.prog 57 [.pointer (some ⟨g, 0, none⟩), v] w0 fun x w' => Er.Told .nilIface gv sch_EnvelopeRequest true V (decide ((V : Int) ≥ 0)) o g 111 Y w0 x w' := by
  refine c_call Tryd.func57 rfl rfl fun a hk => ?_
  have hk : Kn 8 [(0, .pointer (some ⟨g, 0, none⟩)), (1, v)] a := hk
  refine cR0 ?_
  refine oA0 hk rfl rfl fun a hk => ?_
  refine cE0 ?_
  refine cR0 ?_
  refine oM0 hk rfl rfl fun a hk => ?_
  refine oM0 hk rfl rfl fun a hk => ?_
  refine o_call hk cb_85 (readFrom_EnvelopeRequest V h1 hg hR hY hG) ⟨rfl, rfl, rfl, trivial⟩ rfl fun x w a hR hk => ?_
  refine oA0 hk rfl rfl fun a hk => ?_
  refine cE0 ?_
  refine wp_ret ?_
  refine bT0 rfl hk rfl ?_
  exact hR
theorem newPtrD_EnvelopeRequest {w0 : World} : Ret Tryd.prog 54 [] w0 fun v w' => Agr Nob w0 w' ∧ w0.heap.size < w'.heap.size ∧ v = .pointer (some ⟨w0.heap.size, 0, none⟩) ∧ w'.heap[w0.heap.size]? = some (.cells (.int .i16 0 :: Er.dflS sch_EnvelopeRequest true).toArray 111 (0, 0)) := by
  refine c_call Tryd.func54 rfl rfl fun a hk => ?_
  have hk : Kn 3 [] a := hk
  refine cR0 ?_
  refine oA0 hk rfl rfl fun a hk => ?_
  refine cE0 ?_
  refine cR0 ?_
  refine Er.o_allocW (cs := [.int .i16 0, .slice none 0 0, .slice none 0 0, .slice none 0 0, .map none]) hk tz_111 rfl rfl fun a w1 ag1 lt1 hb1 hk => ?_
  refine cE0 ?_
  refine cR0 ?_
  refine o_call hk cb_84 (dflt_EnvelopeRequest (good := .nilIface) (gv := .nilIface) (gb := 1) (pre := []) (post := []) (c := [.int .i16 0, .slice none 0 0, .slice none 0 0, .slice none 0 0, .map none]) hb1 (by decide)) ⟨rfl, trivial⟩ rfl fun v w2 a hR hk => ?_
  obtain ⟨ag2, hb2⟩ := hR
  refine cE0 ?_
  refine cR0 ?_
  refine oA0 hk rfl rfl fun a hk => ?_
  refine cE0 ?_
  refine wp_ret ?_
  refine bT0 rfl hk rfl ?_
  exact ⟨ag1.trans ag2 (fun _ _ x => x) (fun i hi x => by omega), Nat.lt_of_lt_of_le lt1 ag2.size, rfl, hb2⟩
end Go.Proofs.YticigmdbfimfbaaDoor
