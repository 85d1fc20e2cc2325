/- Walks of functions that the laws of this seat reach. No statement of the seat stands here. -/
import Derived.Test.YtoopklfabccmnaaGreatDoorL3
import Derived.Test.YtoopklfabccmnaaGreatDoorRows
import Derived.Test.YtoopklfabccmnaaGreatDoorFa
import Derived.Test.YtoopklfabccmnaaGreatDoorRj
import Derived.Test.YtoopklfabccmnaaGreatDoorSch
namespace Go.Proofs.YtoopklfabccmnaaGreatDoor
open Go Go.Mk
theorem dflt_ShareFetchResponse {good gv:Value} {gb:Nat}:Er.RkOk Tryz.prog 190 good gb gv 150 (.dflt []):=Er.rk_dflt0 (er:=190) (good:=good) (gb:=gb) (gv:=gv) Tryz.func150 rfl rfl rfl
theorem dflt_ShareFetchResponseTopic {good gv:Value} {gb:Nat}:Er.RkOk Tryz.prog 190 good gb gv 217 (.dflt []):=Er.rk_dflt0 (er:=190) (good:=good) (gb:=gb) (gv:=gv) Tryz.func217 rfl rfl rfl
theorem dflt_ShareFetchResponseTopicPartition {good gv:Value} {gb:Nat}:Er.RkOk Tryz.prog 190 good gb gv 218 (.dflt []):=by
  intro w0 b ty pre c post hbk hd
  refine c_call Tryz.func218 rfl rfl fun a hk=>?_
  have hk:Kn 7 [(0,.pointer (some ⟨b,pre.length,none⟩))] a:=hk
  have hm:Mem w0 (fun k=>k = b) (fun k=>k = b) [.blk b (pre ++ c ++ post) ty] w0:=Mem.startBlk (Z:=fun k=>k = b) (m:=[]) hbk rfl rfl (by simp)
  refine cR0 ?_
  refine oM0 hk rfl rfl fun a hk=>?_
  refine oN0 hk rfl rfl fun a hk=>?_
  refine oF0 hk fo_243_5 rfl rfl fun a hk=>?_
  refine oA0 hk rfl rfl fun a hk=>?_
  refine cE0 ?_
  refine c_reg ?_
  refine oM0 hk rfl rfl fun a hk=>?_
  refine c_endQ ?_
  refine b_endNone rfl hk ?_
  exact ⟨hm.agr,hm.all _ (eA0 (i:=0) rfl)⟩
theorem dflt_ShareFetchResponseTopicPartitionCurrentLeader {good gv:Value} {gb:Nat}:Er.RkOk Tryz.prog 190 good gb gv 219 (.dflt []):=Er.rk_dflt0 (er:=190) (good:=good) (gb:=gb) (gv:=gv) Tryz.func219 rfl rfl rfl
theorem dflt_ShareFetchResponseTopicPartitionAcquiredRecord {good gv:Value} {gb:Nat}:Er.RkOk Tryz.prog 190 good gb gv 222 (.dflt []):=Er.rk_dflt0 (er:=190) (good:=good) (gb:=gb) (gv:=gv) Tryz.func222 rfl rfl rfl
theorem dflt_ShareFetchResponseNodeEndpoint {good gv:Value} {gb:Nat}:Er.RkOk Tryz.prog 190 good gb gv 223 (.dflt []):=Er.rk_dflt0 (er:=190) (good:=good) (gb:=gb) (gv:=gv) Tryz.func223 rfl rfl rfl
theorem rk_dflt_ShareFetchResponse {gv:Value}:Er.RkOk Tryz.prog 190 .nilIface 1 gv 150 (.dflt []):=by
  apply @dflt_ShareFetchResponse .nilIface gv 1
theorem rk_CompactString {gv:Value}:Er.RkOk Tryz.prog 190 .nilIface 1 gv 158 (.val 8 false true):=by
  apply Er.rk_text
  exact (fun h1 h2=>rdCompactString_c h1 h2)
theorem rk_String {gv:Value}:Er.RkOk Tryz.prog 190 .nilIface 1 gv 159 (.val 8 false false):=by
  apply Er.rk_text
  exact (fun h1 h2=>rdString_c h1 h2)
theorem rk_Int32 {gv:Value}:Er.RkOk Tryz.prog 190 .nilIface 1 gv 160 (.val 3 false false):=by
  apply Er.rk_num (k:=3) (ik:=.i32) rfl
  exact (fun h1 h2=>rdInt32_c h1 h2)
theorem rk_CompactNullableString {gv:Value}:Er.RkOk Tryz.prog 190 .nilIface 1 gv 162 (.val 8 true true):=by
  apply Er.rk_textN
  exact (fun h1 h2=>rdCompactNullableString_c h1 h2)
theorem rk_NullableString {gv:Value}:Er.RkOk Tryz.prog 190 .nilIface 1 gv 164 (.val 8 true false):=by
  apply Er.rk_textN
  exact (fun h1 h2=>rdNullableString_c h1 h2)
theorem rk_Int64 {gv:Value}:Er.RkOk Tryz.prog 190 .nilIface 1 gv 165 (.val 4 false false):=by
  apply Er.rk_num (k:=4) (ik:=.i64) rfl
  exact (fun h1 h2=>rdInt64_c h1 h2)
theorem rk_CompactArrayLen {gv:Value}:Er.RkOk Tryz.prog 190 .nilIface 1 gv 166 (.cnt true):=by
  apply (fun {w0 Y rb s}=>rdCompactArrayLen_c (w0:=w0) (Y:=Y) (rb:=rb) (s:=s))
theorem rk_ArrayLen {gv:Value}:Er.RkOk Tryz.prog 190 .nilIface 1 gv 167 (.cnt false):=by
  apply (fun {w0 Y rb s}=>rdArrayLen_c (w0:=w0) (Y:=Y) (rb:=rb) (s:=s))
theorem rk_Ok {gv:Value}:Er.RkOk Tryz.prog 190 .nilIface 1 gv 168 (.ok):=by
  apply @rdOk_ok .nilIface gv 1
theorem rk_Complete {gv:Value}:Er.RkOk Tryz.prog 190 .nilIface 1 gv 169 (.done):=by
  apply @rdComplete_c gv
theorem rk_Uuid {gv:Value}:Er.RkOk Tryz.prog 190 .nilIface 1 gv 171 (.val 7 false false):=by
  apply Er.rk_uuid
  exact (fun h1 h2=>rdUuid_c h1 h2)
theorem rk_tags {gv:Value}:Er.RkOk Tryz.prog 190 .nilIface 1 gv 173 (.tags):=by
  apply @readTags_ok .nilIface gv 1
theorem rk_Int16 {gv:Value}:Er.RkOk Tryz.prog 190 .nilIface 1 gv 180 (.val 2 false false):=by
  apply Er.rk_num (k:=2) (ik:=.i16) rfl
  exact (fun h1 h2=>rdInt16_c h1 h2)
theorem rk_Uint16 {gv:Value}:Er.RkOk Tryz.prog 190 .nilIface 1 gv 193 (.val 5 false false):=by
  apply Er.rk_num (k:=5) (ik:=.u16) rfl
  exact (fun h1 h2=>Ret.mono (rdUint16_c h1 h2) fun v w' hv=>⟨hv.1,by show v = .int .u16 (IntKind.u16.wrap ((RS.num 2 _).1:Int)); rw [Er.wrap_u16_num]; exact hv.2.1,hv.2.2⟩)
theorem rk_Bool {gv:Value}:Er.RkOk Tryz.prog 190 .nilIface 1 gv 211 (.val 0 false false):=by
  apply Er.rk_bool
  exact (fun h1 h2=>rdBool_c h1 h2)
theorem rk_Int8 {gv:Value}:Er.RkOk Tryz.prog 190 .nilIface 1 gv 212 (.val 1 false false):=by
  apply Er.rk_num (k:=1) (ik:=.i8) rfl
  exact (fun h1 h2=>rdInt8_c h1 h2)
theorem rk_dflt_ShareFetchResponseTopic {gv:Value}:Er.RkOk Tryz.prog 190 .nilIface 1 gv 217 (.dflt []):=by
  apply @dflt_ShareFetchResponseTopic .nilIface gv 1
theorem rk_dflt_ShareFetchResponseTopicPartition {gv:Value}:Er.RkOk Tryz.prog 190 .nilIface 1 gv 218 (.dflt []):=by
  apply @dflt_ShareFetchResponseTopicPartition .nilIface gv 1
theorem rk_dflt_ShareFetchResponseTopicPartitionCurrentLeader {gv:Value}:Er.RkOk Tryz.prog 190 .nilIface 1 gv 219 (.dflt []):=by
  apply @dflt_ShareFetchResponseTopicPartitionCurrentLeader .nilIface gv 1
theorem rk_CompactNullableBytes {gv:Value}:Er.RkOk Tryz.prog 190 .nilIface 1 gv 220 (.val 9 true true):=by
  apply Er.rk_bytes
  exact (fun h1 h2=>rdCompactNullableBytes_c h1 h2)
theorem rk_NullableBytes {gv:Value}:Er.RkOk Tryz.prog 190 .nilIface 1 gv 221 (.val 9 true false):=by
  apply Er.rk_bytes
  exact (fun h1 h2=>rdNullableBytes_c h1 h2)
theorem rk_dflt_ShareFetchResponseTopicPartitionAcquiredRecord {gv:Value}:Er.RkOk Tryz.prog 190 .nilIface 1 gv 222 (.dflt []):=by
  apply @dflt_ShareFetchResponseTopicPartitionAcquiredRecord .nilIface gv 1
theorem rk_dflt_ShareFetchResponseNodeEndpoint {gv:Value}:Er.RkOk Tryz.prog 190 .nilIface 1 gv 223 (.dflt []):=by
  apply @dflt_ShareFetchResponseNodeEndpoint .nilIface gv 1
def cfgR:List (Nat × Er.RK):=(150,.dflt []) :: (158,.val 8 false true) :: (159,.val 8 false false) :: (160,.val 3 false false) :: (162,.val 8 true true) :: (164,.val 8 true false) :: (165,.val 4 false false) :: (166,.cnt true) :: (167,.cnt false) :: (168,.ok) :: (169,.done) :: (171,.val 7 false false) :: (173,.tags) :: (180,.val 2 false false) :: (193,.val 5 false false) :: (211,.val 0 false false) :: (212,.val 1 false false) :: (217,.dflt []) :: (218,.dflt []) :: (219,.dflt []) :: (220,.val 9 true true) :: (221,.val 9 true false) :: (222,.dflt []) :: (223,.dflt []) :: []
noncomputable def cxR (gv:Value) (n m rt V:Nat) (flex:Bool):Er.Cx:=⟨Tryz.prog,n,m,rt,190,cfgR,V,flex,.nilIface,1,gv⟩
theorem cfgR_ok {gv:Value} {n m rt V:Nat} {flex:Bool}:Er.CfgOk (cxR gv n m rt V flex):=by
  intro f ck h
  simp only [cxR,cfgR,List.mem_cons,Prod.mk.injEq,List.not_mem_nil,or_false] at h
  rcases h with ⟨rfl,rfl⟩ | ⟨rfl,rfl⟩ | ⟨rfl,rfl⟩ | ⟨rfl,rfl⟩ | ⟨rfl,rfl⟩ | ⟨rfl,rfl⟩ | ⟨rfl,rfl⟩ | ⟨rfl,rfl⟩ | ⟨rfl,rfl⟩ | ⟨rfl,rfl⟩ | ⟨rfl,rfl⟩ | ⟨rfl,rfl⟩ | ⟨rfl,rfl⟩ | ⟨rfl,rfl⟩ | ⟨rfl,rfl⟩ | ⟨rfl,rfl⟩ | ⟨rfl,rfl⟩ | ⟨rfl,rfl⟩ | ⟨rfl,rfl⟩ | ⟨rfl,rfl⟩ | ⟨rfl,rfl⟩ | ⟨rfl,rfl⟩ | ⟨rfl,rfl⟩ | ⟨rfl,rfl⟩
  · exact ⟨@rk_dflt_ShareFetchResponse gv,cb_150⟩
  · exact ⟨@rk_CompactString gv,cb_158⟩
  · exact ⟨@rk_String gv,cb_159⟩
  · exact ⟨@rk_Int32 gv,cb_160⟩
  · exact ⟨@rk_CompactNullableString gv,cb_162⟩
  · exact ⟨@rk_NullableString gv,cb_164⟩
  · exact ⟨@rk_Int64 gv,cb_165⟩
  · exact ⟨@rk_CompactArrayLen gv,cb_166⟩
  · exact ⟨@rk_ArrayLen gv,cb_167⟩
  · exact ⟨@rk_Ok gv,cb_168⟩
  · exact ⟨@rk_Complete gv,cb_169⟩
  · exact ⟨@rk_Uuid gv,cb_171⟩
  · exact ⟨@rk_tags gv,cb_173⟩
  · exact ⟨@rk_Int16 gv,cb_180⟩
  · exact ⟨@rk_Uint16 gv,cb_193⟩
  · exact ⟨@rk_Bool gv,cb_211⟩
  · exact ⟨@rk_Int8 gv,cb_212⟩
  · exact ⟨@rk_dflt_ShareFetchResponseTopic gv,cb_217⟩
  · exact ⟨@rk_dflt_ShareFetchResponseTopicPartition gv,cb_218⟩
  · exact ⟨@rk_dflt_ShareFetchResponseTopicPartitionCurrentLeader gv,cb_219⟩
  · exact ⟨@rk_CompactNullableBytes gv,cb_220⟩
  · exact ⟨@rk_NullableBytes gv,cb_221⟩
  · exact ⟨@rk_dflt_ShareFetchResponseTopicPartitionAcquiredRecord gv,cb_222⟩
  · exact ⟨@rk_dflt_ShareFetchResponseNodeEndpoint gv,cb_223⟩
noncomputable def cxR_ShareFetchResponse (gv:Value) (V:Nat):Er.Cx:=cxR gv 377 57 6 V (decide ((V:Int) ≥ 0))
theorem rchk_ShareFetchResponse (gv:Value):(List.range 3).all (fun V=>Er.rdTop (cxR_ShareFetchResponse gv V) schR_ShareFetchResponse true false Tryz.f152) = true:=by kernel_rfl
theorem readFrom_ShareFetchResponse {w0:World} {Y:Nat → Prop} {v gv:Value} {o:Option (List UInt8)} {g:Nat} (V:Nat) (h1:V ≤ 2) (hg:w0.heap[g]? = some (.cells (.int .i16 (V:Int) :: Er.dflS schR_ShareFetchResponse true).toArray 179 (0,0))) (hR:Rep w0 Y (ddSrc o) [v]) (hY:Y g) (hG : ¬ Y 1 ∧ w0.cell? ⟨1,0,none⟩ = some gv) :
    Ret Tryz.prog 152 [.pointer (some ⟨g,0,none⟩),v,.bool false] w0 fun x w'=>Er.Told .nilIface gv schR_ShareFetchResponse true V (decide ((V:Int) ≥ 0)) o g 179 Y w0 x w':=by
  have h:Er.rdTop (cxR_ShareFetchResponse gv V) schR_ShareFetchResponse true false Tryz.f152 = true:=Ea.all_range (rchk_ShareFetchResponse gv) (by omega)
  exact Er.rd_sound (cx:=cxR_ShareFetchResponse gv V) (fn:=Tryz.f152) cfgR_ok Tryz.func152 h hg hR hY hG
theorem ReadFrom_ShareFetchResponse {w0:World} {Y:Nat → Prop} {v gv:Value} {o:Option (List UInt8)} {g:Nat} (V:Nat) (h1:V ≤ 2) (hg:w0.heap[g]? = some (.cells (.int .i16 (V:Int) :: Er.dflS schR_ShareFetchResponse true).toArray 179 (0,0))) (hR:Rep w0 Y (ddSrc o) [v]) (hY:Y g) (hG : ¬ Y 1 ∧ w0.cell? ⟨1,0,none⟩ = some gv) :
    Ret Tryz.prog 100 [.pointer (some ⟨g,0,none⟩),v] w0 fun x w'=>Er.Told .nilIface gv schR_ShareFetchResponse true V (decide ((V:Int) ≥ 0)) o g 179 Y w0 x w':=by
  refine c_call Tryz.func100 rfl rfl fun a hk=>?_
  have hk:Kn 8 [(0,.pointer (some ⟨g,0,none⟩)),(1,v)] a:=hk
  refine cR0 ?_
  refine oA0 hk rfl rfl fun a hk=>?_
  refine cE0 ?_
  refine cR0 ?_
  refine oM0 hk rfl rfl fun a hk=>?_
  refine oM0 hk rfl rfl fun a hk=>?_
  refine o_call hk cb_152 (readFrom_ShareFetchResponse V h1 hg hR hY hG) ⟨rfl,rfl,rfl,trivial⟩ rfl fun x w a hR hk=>?_
  refine oA0 hk rfl rfl fun a hk=>?_
  refine cE0 ?_
  refine wp_ret ?_
  refine bT0 rfl hk rfl ?_
  exact hR
theorem newPtrD_ShareFetchResponse {w0:World}:Ret Tryz.prog 95 [] w0 fun v w'=>Agr Nob w0 w' ∧ w0.heap.size < w'.heap.size ∧ v = .pointer (some ⟨w0.heap.size,0,none⟩) ∧ w'.heap[w0.heap.size]? = some (.cells (.int .i16 0 :: Er.dflS schR_ShareFetchResponse true).toArray 179 (0,0)):=by
  refine c_call Tryz.func95 rfl rfl fun a hk=>?_
  have hk:Kn 3 [] a:=hk
  refine cR0 ?_
  refine oA0 hk rfl rfl fun a hk=>?_
  refine cE0 ?_
  refine cR0 ?_
  refine Er.o_allocW (cs:=[.int .i16 0,.int .i32 0,.int .i16 0,.pointer none,.int .i32 0,.slice none 0 0,.slice none 0 0,.map none]) hk tz_179 rfl rfl fun a w1 ag1 lt1 hb1 hk=>?_
  refine cE0 ?_
  refine cR0 ?_
  refine o_call hk cb_150 (dflt_ShareFetchResponse (good:=.nilIface) (gv:=.nilIface) (gb:=1) (pre:=[]) (post:=[]) (c:=[.int .i16 0,.int .i32 0,.int .i16 0,.pointer none,.int .i32 0,.slice none 0 0,.slice none 0 0,.map none]) hb1 (by decide)) ⟨rfl,trivial⟩ rfl fun v w2 a hR hk=>?_
  obtain ⟨ag2,hb2⟩:=hR
  refine cE0 ?_
  refine cR0 ?_
  refine oA0 hk rfl rfl fun a hk=>?_
  refine cE0 ?_
  refine wp_ret ?_
  refine bT0 rfl hk rfl ?_
  exact ⟨ag1.trans ag2 (fun _ _ x=>x) (fun i hi x=>by omega),Nat.lt_of_lt_of_le lt1 ag2.size,rfl,hb2⟩
end Go.Proofs.YtoopklfabccmnaaGreatDoor
