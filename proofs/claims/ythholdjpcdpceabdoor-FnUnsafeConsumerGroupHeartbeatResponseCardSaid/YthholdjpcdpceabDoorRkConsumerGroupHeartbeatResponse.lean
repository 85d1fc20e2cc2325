/- Walks of functions that the laws of this seat reach. No statement of the seat stands here. -/
import Derived.Test.YthholdjpcdpceabDoorL3
import Derived.Test.YthholdjpcdpceabDoorRows
import Derived.Test.YthholdjpcdpceabDoorFa
import Derived.Test.YthholdjpcdpceabDoorRj
import Derived.Test.YthholdjpcdpceabDoorSch
namespace Go.Proofs.YthholdjpcdpceabDoor
open Go Go.Mk
theorem dflt_ConsumerGroupHeartbeatResponse {good gv : Value} {gb : Nat} : Er.RkOk Tryd.prog 120 good gb gv 70 (.dflt []) := by
  intro w0 b ty pre c post hbk hd
  refine c_call Tryd.func70 rfl rfl fun a hk => ?_
  have hk : Kn 7 [(0, .pointer (some ⟨b, pre.length, none⟩))] a := hk
  have hm : Mem w0 (fun k => k = b) (fun k => k = b) [.blk b (pre ++ c ++ post) ty] w0 := Mem.startBlk (Z := fun k => k = b) (m := []) hbk rfl rfl (by simp)
  refine cR0 ?_
  refine oM0 hk rfl rfl fun a hk => ?_
  refine oN0 hk rfl rfl fun a hk => ?_
  refine oF0 hk fo_97_7 rfl rfl fun a hk => ?_
  refine oA0 hk rfl rfl fun a hk => ?_
  refine cE0 ?_
  refine c_reg ?_
  refine oM0 hk rfl rfl fun a hk => ?_
  refine c_endQ ?_
  refine b_endNone rfl hk ?_
  exact ⟨hm.agr, hm.all _ (eA0 (i := 0) rfl)⟩
theorem dflt_ConsumerGroupHeartbeatResponseAssignment {good gv : Value} {gb : Nat} : Er.RkOk Tryd.prog 120 good gb gv 110 (.dflt []) := Er.rk_dflt0 (er := 120) (good := good) (gb := gb) (gv := gv) Tryd.func110 rfl rfl rfl
theorem dflt_ConsumerGroupHeartbeatResponseAssignmentTopic {good gv : Value} {gb : Nat} : Er.RkOk Tryd.prog 120 good gb gv 111 (.dflt []) := Er.rk_dflt0 (er := 120) (good := good) (gb := gb) (gv := gv) Tryd.func111 rfl rfl rfl
theorem rk_dflt_ConsumerGroupHeartbeatResponse {gv : Value} : Er.RkOk Tryd.prog 120 .nilIface 1 gv 70 (.dflt []) := by
  apply @dflt_ConsumerGroupHeartbeatResponse .nilIface gv 1
theorem rk_Int16 {gv : Value} : Er.RkOk Tryd.prog 120 .nilIface 1 gv 83 (.val 2 false false) := by
  apply Er.rk_num (k := 2) (ik := .i16) rfl
  exact (fun h1 h2 => rdInt16_c h1 h2)
theorem rk_CompactArrayLen {gv : Value} : Er.RkOk Tryd.prog 120 .nilIface 1 gv 84 (.cnt true) := by
  apply (fun {w0 Y rb s} => rdCompactArrayLen_c (w0 := w0) (Y := Y) (rb := rb) (s := s))
theorem rk_ArrayLen {gv : Value} : Er.RkOk Tryd.prog 120 .nilIface 1 gv 85 (.cnt false) := by
  apply (fun {w0 Y rb s} => rdArrayLen_c (w0 := w0) (Y := Y) (rb := rb) (s := s))
theorem rk_Ok {gv : Value} : Er.RkOk Tryd.prog 120 .nilIface 1 gv 86 (.ok) := by
  apply @rdOk_ok .nilIface gv 1
theorem rk_Complete {gv : Value} : Er.RkOk Tryd.prog 120 .nilIface 1 gv 87 (.done) := by
  apply @rdComplete_c gv
theorem rk_UnsafeCompactString {gv : Value} : Er.RkOk Tryd.prog 120 .nilIface 1 gv 89 (.val 8 false true) := by
  apply Er.rk_text
  exact (fun h1 h2 => rdUnsafeCompactString_c h1 h2)
theorem rk_UnsafeString {gv : Value} : Er.RkOk Tryd.prog 120 .nilIface 1 gv 90 (.val 8 false false) := by
  apply Er.rk_text
  exact (fun h1 h2 => rdUnsafeString_c h1 h2)
theorem rk_CompactString {gv : Value} : Er.RkOk Tryd.prog 120 .nilIface 1 gv 91 (.val 8 false true) := by
  apply Er.rk_text
  exact (fun h1 h2 => rdCompactString_c h1 h2)
theorem rk_String {gv : Value} : Er.RkOk Tryd.prog 120 .nilIface 1 gv 92 (.val 8 false false) := by
  apply Er.rk_text
  exact (fun h1 h2 => rdString_c h1 h2)
theorem rk_Int32 {gv : Value} : Er.RkOk Tryd.prog 120 .nilIface 1 gv 93 (.val 3 false false) := by
  apply Er.rk_num (k := 3) (ik := .i32) rfl
  exact (fun h1 h2 => rdInt32_c h1 h2)
theorem rk_tags {gv : Value} : Er.RkOk Tryd.prog 120 .nilIface 1 gv 94 (.tags) := by
  apply @readTags_ok .nilIface gv 1
theorem rk_Uuid {gv : Value} : Er.RkOk Tryd.prog 120 .nilIface 1 gv 96 (.val 7 false false) := by
  apply Er.rk_uuid
  exact (fun h1 h2 => rdUuid_c h1 h2)
theorem rk_UnsafeCompactNullableString {gv : Value} : Er.RkOk Tryd.prog 120 .nilIface 1 gv 101 (.val 8 true true) := by
  apply Er.rk_textN
  exact (fun h1 h2 => rdUnsafeCompactNullableString_c h1 h2)
theorem rk_CompactNullableString {gv : Value} : Er.RkOk Tryd.prog 120 .nilIface 1 gv 102 (.val 8 true true) := by
  apply Er.rk_textN
  exact (fun h1 h2 => rdCompactNullableString_c h1 h2)
theorem rk_UnsafeNullableString {gv : Value} : Er.RkOk Tryd.prog 120 .nilIface 1 gv 103 (.val 8 true false) := by
  apply Er.rk_textN
  exact (fun h1 h2 => rdUnsafeNullableString_c h1 h2)
theorem rk_NullableString {gv : Value} : Er.RkOk Tryd.prog 120 .nilIface 1 gv 104 (.val 8 true false) := by
  apply Er.rk_textN
  exact (fun h1 h2 => rdNullableString_c h1 h2)
theorem rk_Uint16 {gv : Value} : Er.RkOk Tryd.prog 120 .nilIface 1 gv 106 (.val 5 false false) := by
  apply Er.rk_num (k := 5) (ik := .u16) rfl
  exact (fun h1 h2 => Ret.mono (rdUint16_c h1 h2) fun v w' hv => ⟨hv.1, by show v = .int .u16 (IntKind.u16.wrap ((RS.num 2 _).1 : Int)); rw [Er.wrap_u16_num]; exact hv.2.1, hv.2.2⟩)
theorem rk_Bool {gv : Value} : Er.RkOk Tryd.prog 120 .nilIface 1 gv 107 (.val 0 false false) := by
  apply Er.rk_bool
  exact (fun h1 h2 => rdBool_c h1 h2)
theorem rk_Int8 {gv : Value} : Er.RkOk Tryd.prog 120 .nilIface 1 gv 109 (.val 1 false false) := by
  apply Er.rk_num (k := 1) (ik := .i8) rfl
  exact (fun h1 h2 => rdInt8_c h1 h2)
theorem rk_dflt_ConsumerGroupHeartbeatResponseAssignment {gv : Value} : Er.RkOk Tryd.prog 120 .nilIface 1 gv 110 (.dflt []) := by
  apply @dflt_ConsumerGroupHeartbeatResponseAssignment .nilIface gv 1
theorem rk_dflt_ConsumerGroupHeartbeatResponseAssignmentTopic {gv : Value} : Er.RkOk Tryd.prog 120 .nilIface 1 gv 111 (.dflt []) := by
  apply @dflt_ConsumerGroupHeartbeatResponseAssignmentTopic .nilIface gv 1
theorem rk_Int64 {gv : Value} : Er.RkOk Tryd.prog 120 .nilIface 1 gv 120 (.val 4 false false) := by
  apply Er.rk_num (k := 4) (ik := .i64) rfl
  exact (fun h1 h2 => rdInt64_c h1 h2)
def cfgR : List (Nat × Er.RK) := (70, .dflt []) :: (83, .val 2 false false) :: (84, .cnt true) :: (85, .cnt false) :: (86, .ok) :: (87, .done) :: (89, .val 8 false true) :: (90, .val 8 false false) :: (91, .val 8 false true) :: (92, .val 8 false false) :: (93, .val 3 false false) :: (94, .tags) :: (96, .val 7 false false) :: (101, .val 8 true true) :: (102, .val 8 true true) :: (103, .val 8 true false) :: (104, .val 8 true false) :: (106, .val 5 false false) :: (107, .val 0 false false) :: (109, .val 1 false false) :: (110, .dflt []) :: (111, .dflt []) :: (120, .val 4 false false) :: []
noncomputable def cxR (gv : Value) (n m rt V : Nat) (flex : Bool) : Er.Cx := ⟨Tryd.prog, n, m, rt, 120, cfgR, V, flex, .nilIface, 1, gv⟩
theorem cfgR_ok {gv : Value} {n m rt V : Nat} {flex : Bool} : Er.CfgOk (cxR gv n m rt V flex) := by
  intro f ck h
  simp only [cxR, cfgR, List.mem_cons, Prod.mk.injEq, List.not_mem_nil, or_false] at h
  rcases h with ⟨rfl, rfl⟩ | ⟨rfl, rfl⟩ | ⟨rfl, rfl⟩ | ⟨rfl, rfl⟩ | ⟨rfl, rfl⟩ | ⟨rfl, rfl⟩ | ⟨rfl, rfl⟩ | ⟨rfl, rfl⟩ | ⟨rfl, rfl⟩ | ⟨rfl, rfl⟩ | ⟨rfl, rfl⟩ | ⟨rfl, rfl⟩ | ⟨rfl, rfl⟩ | ⟨rfl, rfl⟩ | ⟨rfl, rfl⟩ | ⟨rfl, rfl⟩ | ⟨rfl, rfl⟩ | ⟨rfl, rfl⟩ | ⟨rfl, rfl⟩ | ⟨rfl, rfl⟩ | ⟨rfl, rfl⟩ | ⟨rfl, rfl⟩ | ⟨rfl, rfl⟩
  · exact ⟨@rk_dflt_ConsumerGroupHeartbeatResponse gv, cb_70⟩
  · exact ⟨@rk_Int16 gv, cb_83⟩
  · exact ⟨@rk_CompactArrayLen gv, cb_84⟩
  · exact ⟨@rk_ArrayLen gv, cb_85⟩
  · exact ⟨@rk_Ok gv, cb_86⟩
  · exact ⟨@rk_Complete gv, cb_87⟩
  · exact ⟨@rk_UnsafeCompactString gv, cb_89⟩
  · exact ⟨@rk_UnsafeString gv, cb_90⟩
  · exact ⟨@rk_CompactString gv, cb_91⟩
  · exact ⟨@rk_String gv, cb_92⟩
  · exact ⟨@rk_Int32 gv, cb_93⟩
  · exact ⟨@rk_tags gv, cb_94⟩
  · exact ⟨@rk_Uuid gv, cb_96⟩
  · exact ⟨@rk_UnsafeCompactNullableString gv, cb_101⟩
  · exact ⟨@rk_CompactNullableString gv, cb_102⟩
  · exact ⟨@rk_UnsafeNullableString gv, cb_103⟩
  · exact ⟨@rk_NullableString gv, cb_104⟩
  · exact ⟨@rk_Uint16 gv, cb_106⟩
  · exact ⟨@rk_Bool gv, cb_107⟩
  · exact ⟨@rk_Int8 gv, cb_109⟩
  · exact ⟨@rk_dflt_ConsumerGroupHeartbeatResponseAssignment gv, cb_110⟩
  · exact ⟨@rk_dflt_ConsumerGroupHeartbeatResponseAssignmentTopic gv, cb_111⟩
  · exact ⟨@rk_Int64 gv, cb_120⟩
noncomputable def cxR_ConsumerGroupHeartbeatResponse (gv : Value) (V : Nat) : Er.Cx := cxR gv 192 32 6 V (decide ((V : Int) ≥ 0))
theorem rchk_ConsumerGroupHeartbeatResponse (gv : Value) : (List.range 2).all (fun V => Er.rdTop (cxR_ConsumerGroupHeartbeatResponse gv V) sch_ConsumerGroupHeartbeatResponse true false Tryd.f71) = true := by kernel_rfl
theorem readFrom_ConsumerGroupHeartbeatResponse {w0 : World} {Y : Nat → Prop} {v gv : Value} {o : Option (List UInt8)} {g : Nat} (V : Nat) (h1 : V ≤ 1) (hg : w0.heap[g]? = some (.cells (.int .i16 (V : Int) :: Er.dflS sch_ConsumerGroupHeartbeatResponse true).toArray 97 (0, 0))) (hR : Rep w0 Y (ddSrc o) [v]) (hY : Y g) (hG : ¬ Y 1 ∧ w0.cell? ⟨1, 0, none⟩ = some gv) :
    Ret Tryd.prog 71 [.pointer (some ⟨g, 0, none⟩), v, .bool false] w0 fun x w' => Er.Told .nilIface gv sch_ConsumerGroupHeartbeatResponse true V (decide ((V : Int) ≥ 0)) o g 97 Y w0 x w' := by
  have h : Er.rdTop (cxR_ConsumerGroupHeartbeatResponse gv V) sch_ConsumerGroupHeartbeatResponse true false Tryd.f71 = true := Ea.all_range (rchk_ConsumerGroupHeartbeatResponse gv) (by omega)
  exact Er.rd_sound (cx := cxR_ConsumerGroupHeartbeatResponse gv V) (fn := Tryd.f71) cfgR_ok Tryd.func71 h hg hR hY hG
theorem ReadFrom_ConsumerGroupHeartbeatResponse {w0 : World} {Y : Nat → Prop} {v gv : Value} {o : Option (List UInt8)} {g : Nat} (V : Nat) (h1 : V ≤ 1) (hg : w0.heap[g]? = some (.cells (.int .i16 (V : Int) :: Er.dflS sch_ConsumerGroupHeartbeatResponse true).toArray 97 (0, 0))) (hR : Rep w0 Y (ddSrc o) [v]) (hY : Y g) (hG : ¬ Y 1 ∧ w0.cell? ⟨1, 0, none⟩ = some gv) :
    Ret Tryd.prog 42 [.pointer (some ⟨g, 0, none⟩), v] w0 fun x w' => Er.Told .nilIface gv sch_ConsumerGroupHeartbeatResponse true V (decide ((V : Int) ≥ 0)) o g 97 Y w0 x w' := by
  refine c_call Tryd.func42 rfl rfl fun a hk => ?_
  have hk : Kn 8 [(0, .pointer (some ⟨g, 0, none⟩)), (1, v)] a := hk
  refine cR0 ?_
  refine oA0 hk rfl rfl fun a hk => ?_
  refine cE0 ?_
  refine cR0 ?_
  refine oM0 hk rfl rfl fun a hk => ?_
  refine oM0 hk rfl rfl fun a hk => ?_
  refine o_call hk cb_71 (readFrom_ConsumerGroupHeartbeatResponse V h1 hg hR hY hG) ⟨rfl, rfl, rfl, trivial⟩ rfl fun x w a hR hk => ?_
  refine oA0 hk rfl rfl fun a hk => ?_
  refine cE0 ?_
  refine wp_ret ?_
  refine bT0 rfl hk rfl ?_
  exact hR
theorem rchkU_ConsumerGroupHeartbeatResponse (gv : Value) : (List.range 2).all (fun V => Er.rdTop (cxR_ConsumerGroupHeartbeatResponse gv V) sch_ConsumerGroupHeartbeatResponse true true Tryd.f71) = true := by kernel_rfl
theorem readFromU_ConsumerGroupHeartbeatResponse {w0 : World} {Y : Nat → Prop} {v gv : Value} {o : Option (List UInt8)} {g : Nat} (V : Nat) (h1 : V ≤ 1) (hg : w0.heap[g]? = some (.cells (.int .i16 (V : Int) :: Er.dflS sch_ConsumerGroupHeartbeatResponse true).toArray 97 (0, 0))) (hR : Rep w0 Y (ddSrc o) [v]) (hY : Y g) (hG : ¬ Y 1 ∧ w0.cell? ⟨1, 0, none⟩ = some gv) :
    Ret Tryd.prog 71 [.pointer (some ⟨g, 0, none⟩), v, .bool true] w0 fun x w' => Er.Told .nilIface gv sch_ConsumerGroupHeartbeatResponse true V (decide ((V : Int) ≥ 0)) o g 97 Y w0 x w' := by
  have h : Er.rdTop (cxR_ConsumerGroupHeartbeatResponse gv V) sch_ConsumerGroupHeartbeatResponse true true Tryd.f71 = true := Ea.all_range (rchkU_ConsumerGroupHeartbeatResponse gv) (by omega)
  exact Er.rd_sound (cx := cxR_ConsumerGroupHeartbeatResponse gv V) (fn := Tryd.f71) cfgR_ok Tryd.func71 h hg hR hY hG
theorem ReadFromU_ConsumerGroupHeartbeatResponse {w0 : World} {Y : Nat → Prop} {v gv : Value} {o : Option (List UInt8)} {g : Nat} (V : Nat) (h1 : V ≤ 1) (hg : w0.heap[g]? = some (.cells (.int .i16 (V : Int) :: Er.dflS sch_ConsumerGroupHeartbeatResponse true).toArray 97 (0, 0))) (hR : Rep w0 Y (ddSrc o) [v]) (hY : Y g) (hG : ¬ Y 1 ∧ w0.cell? ⟨1, 0, none⟩ = some gv) :
    Ret Tryd.prog 44 [.pointer (some ⟨g, 0, none⟩), v] w0 fun x w' => Er.Told .nilIface gv sch_ConsumerGroupHeartbeatResponse true V (decide ((V : Int) ≥ 0)) o g 97 Y w0 x w' := by
  refine c_call Tryd.func44 rfl rfl fun a hk => ?_
  have hk : Kn 8 [(0, .pointer (some ⟨g, 0, none⟩)), (1, v)] a := hk
  refine cR0 ?_
  refine oA0 hk rfl rfl fun a hk => ?_
  refine cE0 ?_
  refine cR0 ?_
  refine oM0 hk rfl rfl fun a hk => ?_
  refine oM0 hk rfl rfl fun a hk => ?_
  refine o_call hk cb_71 (readFromU_ConsumerGroupHeartbeatResponse V h1 hg hR hY hG) ⟨rfl, rfl, rfl, trivial⟩ rfl fun x w a hR hk => ?_
  refine oA0 hk rfl rfl fun a hk => ?_
  refine cE0 ?_
  refine wp_ret ?_
  refine bT0 rfl hk rfl ?_
  exact hR
theorem newPtrD_ConsumerGroupHeartbeatResponse {w0 : World} : Ret Tryd.prog 39 [] w0 fun v w' => Agr Nob w0 w' ∧ w0.heap.size < w'.heap.size ∧ v = .pointer (some ⟨w0.heap.size, 0, none⟩) ∧ w'.heap[w0.heap.size]? = some (.cells (.int .i16 0 :: Er.dflS sch_ConsumerGroupHeartbeatResponse true).toArray 97 (0, 0)) := by
  refine c_call Tryd.func39 rfl rfl fun a hk => ?_
  have hk : Kn 3 [] a := hk
  refine cR0 ?_
  refine oA0 hk rfl rfl fun a hk => ?_
  refine cE0 ?_
  refine cR0 ?_
  refine Er.o_allocW (cs := [.int .i16 0, .int .i32 0, .int .i16 0, .pointer none, .pointer none, .int .i32 0, .int .i32 0, .pointer none, .map none]) hk tz_97 rfl rfl fun a w1 ag1 lt1 hb1 hk => ?_
  refine cE0 ?_
  refine cR0 ?_
  refine o_call hk cb_70 (dflt_ConsumerGroupHeartbeatResponse (good := .nilIface) (gv := .nilIface) (gb := 1) (pre := []) (post := []) (c := [.int .i16 0, .int .i32 0, .int .i16 0, .pointer none, .pointer none, .int .i32 0, .int .i32 0, .pointer none, .map none]) hb1 (by decide)) ⟨rfl, trivial⟩ rfl fun v w2 a hR hk => ?_
  obtain ⟨ag2, hb2⟩ := hR
  refine cE0 ?_
  refine cR0 ?_
  refine oA0 hk rfl rfl fun a hk => ?_
  refine cE0 ?_
  refine wp_ret ?_
  refine bT0 rfl hk rfl ?_
  exact ⟨ag1.trans ag2 (fun _ _ x => x) (fun i hi x => by omega), Nat.lt_of_lt_of_le lt1 ag2.size, rfl, hb2⟩
end Go.Proofs.YthholdjpcdpceabDoor
