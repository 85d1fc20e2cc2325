/- Walks of functions that the laws of this seat reach. No statement of the seat stands here. -/
import Derived.Test.YtoopklfabccmnaaGreatDoorL4
import Derived.Test.YtoopklfabccmnaaGreatDoorRows
import Derived.Test.YtoopklfabccmnaaGreatDoorFa
import Derived.Test.YtoopklfabccmnaaGreatDoorTt
import Derived.Test.YtoopklfabccmnaaGreatDoorTf
import Derived.Test.YtoopklfabccmnaaGreatDoorTg2
import Derived.Test.YtoopklfabccmnaaGreatDoorTh
import Derived.Test.YtoopklfabccmnaaGreatDoorSch
namespace Go.Proofs.YtoopklfabccmnaaGreatDoor
open Go Go.Mk
theorem ddq_sShareFetchResponseTopicPartitionCurrentLeader (q:T):ddS sch_sShareFetchResponseTopicPartitionCurrentLeader true q = .agg [.v (.int .i32 (IntKind.i32.wrap (q.at_ 0).n)),.v (.int .i32 (IntKind.i32.wrap (q.at_ 1).n)),ddTagMap q.u]:=rfl
theorem tells_sShareFetchResponseTopicPartitionCurrentLeader (q:T):telP sch_sShareFetchResponseTopicPartitionCurrentLeader q = .mk 0 [] false [ofNum (IntKind.i32.wrap (q.at_ 0).n),ofNum (IntKind.i32.wrap (q.at_ 1).n)] (sortU q.u):=congrArg (fun l=>T.mk 0 [] false l (sortU q.u)) (cons_eq rfl (cons_eq rfl (rfl)))
theorem clo_sShareFetchResponseTopicPartitionCurrentLeader:CloOk Tryz.prog 37 69 270:=by
 intro w S k SE tb YE us p lv x h1 h2 h3 h4 h5 h6 h7 h8 h9
 refine c_call Tryz.func270 rfl rfl fun a hk=>?_
 have hk:Kn 14 [(0,.int .u32 (p.1:Int)),(1,x),(2,.pointer (some ⟨tb,0,none⟩))] a:=hk
 exact tl_clo (s:=5) treeP tagP rfl rfl (by kernel_rfl) (by kernel_rfl) (by decide) (by decide) h1 h2 h3 h4 h5 h6 h7 h8 h9 hk
theorem tell_sShareFetchResponseTopicPartitionCurrentLeader:TellOk Tryz.prog 245 sch_sShareFetchResponseTopicPartitionCurrentLeader true 0:=by
 intro w0 Y b off cs q hC hR hq
 rw [tells_sShareFetchResponseTopicPartitionCurrentLeader]
 refine c_call Tryz.func245 rfl rfl fun a hk=>?_
 have hk:Kn 33 [(0,.pointer (some ⟨b,off,none⟩))] a:=hk
 refine tl_start (m:=2) (su:=4) (sv:=5) treeP rowT (by decide) rfl (by decide) (by decide) (by decide) (by decide) (by decide) (by decide) hC hR hk fun a w1 w rb tb bb Y1 hb hC hR hk ht=>?_
 rw [ddq_sShareFetchResponseTopicPartitionCurrentLeader] at hR
 have hR:=rep_agg_inv hR
 obtain ⟨c0,C0,hC,hR⟩:=cel_unV hC hR
 obtain ⟨c1,C1,hC,hR⟩:=cel_unV hC hR
 obtain ⟨xt,ct,Ct,hC,rt,hR⟩:=cel_un1 (one1_mp _ _) hC hR
 refine tl_num (s:=6) (k:=0)  treeP rfl rfl (by kernel_rfl) (by kernel_rfl) (by decide) (by decide) (by decide) fo_240_0 ts_21 un_21 ti_2 (wrap_in_i64 .i32 (by simp)) (fun _ _ _ _ _ h=>h) C0 hk ht fun a w hk ht=>?_
 refine tl_num (s:=15) (k:=1)  treeP rfl rfl (by kernel_rfl) (by kernel_rfl) (by decide) (by decide) (by decide) fo_240_1 ts_21 un_21 ti_2 (wrap_in_i64 .i32 (by simp)) (fun _ _ _ _ _ h=>h) C1 hk ht fun a w hk ht=>?_
 exact tl_end (s:=24) (fE:=108) (fS:=110) (g:=270) treeP tagP each_cP cb_108 sorted_ok cb_110 clo_sShareFetchResponseTopicPartitionCurrentLeader cb_270 rfl rfl (fun h=>Bool.noConfusion h) (by decide) (by decide) (by decide) fo_240_2 Ct rt (fine_spec hq).2.2.2.2.1 (fine_spec hq).2.2.1 (fine_spec hq).2.2.2.1 (sortU_perm _) (sortU_rise (fine_spec hq).2.2.2.2.1) hb hk ht
theorem len_sShareFetchResponseTopicPartitionCurrentLeader (q:T) {w:World} {Y:Nat → Prop}:∀ c,Rep w Y (ddS sch_sShareFetchResponseTopicPartitionCurrentLeader true q) c → c.length = 3:=by
 intro c h
 rw [ddq_sShareFetchResponseTopicPartitionCurrentLeader] at h
 have h0:=rep_agg_inv h
 clear h
 obtain ⟨c1,rfl,h1⟩:=h0.unV
 clear h0
 obtain ⟨c2,rfl,h2⟩:=h1.unV
 clear h1
 obtain ⟨x,c3,rfl,_,h3⟩:=h2.un1 (one1_mp _ _)
 have e:c3 = []:=by simpa [RepL] using h3
 rw [e]; rfl
theorem ddq_sShareFetchResponseTopicPartitionAcquiredRecord (q:T):ddS sch_sShareFetchResponseTopicPartitionAcquiredRecord true q = .agg [.v (.int .i64 (q.at_ 0).n),.v (.int .i64 (q.at_ 1).n),.v (.int .i16 (IntKind.i16.wrap (q.at_ 2).n)),ddTagMap q.u]:=rfl
theorem tells_sShareFetchResponseTopicPartitionAcquiredRecord (q:T):telP sch_sShareFetchResponseTopicPartitionAcquiredRecord q = .mk 0 [] false [ofNum (q.at_ 0).n,ofNum (q.at_ 1).n,ofNum (IntKind.i16.wrap (q.at_ 2).n)] (sortU q.u):=congrArg (fun l=>T.mk 0 [] false l (sortU q.u)) (cons_eq rfl (cons_eq rfl (cons_eq rfl (rfl))))
theorem clo_sShareFetchResponseTopicPartitionAcquiredRecord:CloOk Tryz.prog 37 69 271:=by
 intro w S k SE tb YE us p lv x h1 h2 h3 h4 h5 h6 h7 h8 h9
 refine c_call Tryz.func271 rfl rfl fun a hk=>?_
 have hk:Kn 14 [(0,.int .u32 (p.1:Int)),(1,x),(2,.pointer (some ⟨tb,0,none⟩))] a:=hk
 exact tl_clo (s:=5) treeP tagP rfl rfl (by kernel_rfl) (by kernel_rfl) (by decide) (by decide) h1 h2 h3 h4 h5 h6 h7 h8 h9 hk
theorem tell_sShareFetchResponseTopicPartitionAcquiredRecord:TellOk Tryz.prog 247 sch_sShareFetchResponseTopicPartitionAcquiredRecord true 0:=by
 intro w0 Y b off cs q hC hR hq
 rw [tells_sShareFetchResponseTopicPartitionAcquiredRecord]
 refine c_call Tryz.func247 rfl rfl fun a hk=>?_
 have hk:Kn 40 [(0,.pointer (some ⟨b,off,none⟩))] a:=hk
 refine tl_start (m:=3) (su:=4) (sv:=5) treeP rowT (by decide) rfl (by decide) (by decide) (by decide) (by decide) (by decide) (by decide) hC hR hk fun a w1 w rb tb bb Y1 hb hC hR hk ht=>?_
 rw [ddq_sShareFetchResponseTopicPartitionAcquiredRecord] at hR
 have hR:=rep_agg_inv hR
 obtain ⟨c0,C0,hC,hR⟩:=cel_unV hC hR
 obtain ⟨c1,C1,hC,hR⟩:=cel_unV hC hR
 obtain ⟨c2,C2,hC,hR⟩:=cel_unV hC hR
 obtain ⟨xt,ct,Ct,hC,rt,hR⟩:=cel_un1 (one1_mp _ _) hC hR
 refine tl_raw (s:=6) (k:=0)  treeP rfl rfl (by kernel_rfl) (by kernel_rfl) (by decide) (by decide) (by decide) fo_248_0 ts_2 (fun _ _ _ _ _ h=>h) C0 hk ht fun a w hk ht=>?_
 refine tl_raw (s:=14) (k:=1)  treeP rfl rfl (by kernel_rfl) (by kernel_rfl) (by decide) (by decide) (by decide) fo_248_1 ts_2 (fun _ _ _ _ _ h=>h) C1 hk ht fun a w hk ht=>?_
 refine tl_num (s:=22) (k:=2)  treeP rfl rfl (by kernel_rfl) (by kernel_rfl) (by decide) (by decide) (by decide) fo_248_2 ts_46 un_46 ti_2 (wrap_in_i64 .i16 (by simp)) (fun _ _ _ _ _ h=>h) C2 hk ht fun a w hk ht=>?_
 exact tl_end (s:=31) (fE:=108) (fS:=110) (g:=271) treeP tagP each_cP cb_108 sorted_ok cb_110 clo_sShareFetchResponseTopicPartitionAcquiredRecord cb_271 rfl rfl (fun h=>Bool.noConfusion h) (by decide) (by decide) (by decide) fo_248_3 Ct rt (fine_spec hq).2.2.2.2.1 (fine_spec hq).2.2.1 (fine_spec hq).2.2.2.1 (sortU_perm _) (sortU_rise (fine_spec hq).2.2.2.2.1) hb hk ht
theorem len_sShareFetchResponseTopicPartitionAcquiredRecord (q:T) {w:World} {Y:Nat → Prop}:∀ c,Rep w Y (ddS sch_sShareFetchResponseTopicPartitionAcquiredRecord true q) c → c.length = 4:=by
 intro c h
 rw [ddq_sShareFetchResponseTopicPartitionAcquiredRecord] at h
 have h0:=rep_agg_inv h
 clear h
 obtain ⟨c1,rfl,h1⟩:=h0.unV
 clear h0
 obtain ⟨c2,rfl,h2⟩:=h1.unV
 clear h1
 obtain ⟨c3,rfl,h3⟩:=h2.unV
 clear h2
 obtain ⟨x,c4,rfl,_,h4⟩:=h3.un1 (one1_mp _ _)
 have e:c4 = []:=by simpa [RepL] using h4
 rw [e]; rfl
theorem ddq_sShareFetchResponseTopicPartition (q:T):ddS schR_sShareFetchResponseTopicPartition true q = .agg [.v (.int .i32 (IntKind.i32.wrap (q.at_ 0).n)),.v (.int .i16 (IntKind.i16.wrap (q.at_ 1).n)),if (q.at_ 2).z then .v (.pointer none) else .ptr (.v (.string (bs (q.at_ 2).s))),.v (.int .i16 (IntKind.i16.wrap (q.at_ 3).n)),if (q.at_ 4).z then .v (.pointer none) else .ptr (.v (.string (bs (q.at_ 4).s))),ddS sch_sShareFetchResponseTopicPartitionCurrentLeader true (q.at_ 5),if (q.at_ 6).z then .v (.slice none 0 0) else .sl true 1 ((q.at_ 6).s.map ddB),if (q.at_ 7).z then .v (.slice none 0 0) else .sl true 4 ((q.at_ 7).l.map (ddS sch_sShareFetchResponseTopicPartitionAcquiredRecord true)),ddTagMap q.u]:=rfl
theorem tells_sShareFetchResponseTopicPartition (q:T):telP schR_sShareFetchResponseTopicPartition q = .mk 0 [] false [ofNum (IntKind.i32.wrap (q.at_ 0).n),ofNum (IntKind.i16.wrap (q.at_ 1).n),(if (q.at_ 2).z then ofNil else ofOct (q.at_ 2).s),ofNum (IntKind.i16.wrap (q.at_ 3).n),(if (q.at_ 4).z then ofNil else ofOct (q.at_ 4).s),telP sch_sShareFetchResponseTopicPartitionCurrentLeader (q.at_ 5),.mk 0 (if (q.at_ 6).z then [] else (q.at_ 6).s) (q.at_ 6).z [] [],.mk 0 [] (q.at_ 7).z ((lzL (q.at_ 7).z (q.at_ 7).l).map (telV 10 (-1) (telP sch_sShareFetchResponseTopicPartitionAcquiredRecord))) []] (sortU q.u):=congrArg (fun l=>T.mk 0 [] false l (sortU q.u)) (cons_eq rfl (cons_eq rfl (cons_eq (tel_textN (nu:=0) (q.at_ 2) (by decide)) (cons_eq rfl (cons_eq (tel_textN (nu:=0) (q.at_ 4) (by decide)) (cons_eq rfl (cons_eq rfl (cons_eq (tel_list _) (rfl)))))))))
theorem clo_sShareFetchResponseTopicPartition:CloOk Tryz.prog 37 69 248:=by
 intro w S k SE tb YE us p lv x h1 h2 h3 h4 h5 h6 h7 h8 h9
 refine c_call Tryz.func248 rfl rfl fun a hk=>?_
 have hk:Kn 14 [(0,.int .u32 (p.1:Int)),(1,x),(2,.pointer (some ⟨tb,0,none⟩))] a:=hk
 exact tl_clo (s:=5) treeP tagP rfl rfl (by kernel_rfl) (by kernel_rfl) (by decide) (by decide) h1 h2 h3 h4 h5 h6 h7 h8 h9 hk
theorem tell_sShareFetchResponseTopicPartition:TellOk Tryz.prog 224 schR_sShareFetchResponseTopicPartition true 0:=by
 intro w0 Y b off cs q hC hR hq
 rw [tells_sShareFetchResponseTopicPartition]
 refine c_call Tryz.func224 rfl rfl fun a hk=>?_
 have hk:Kn 130 [(0,.pointer (some ⟨b,off,none⟩))] a:=hk
 refine tl_start (m:=8) (su:=5) (sv:=6) treeP rowT (by decide) rfl (by decide) (by decide) (by decide) (by decide) (by decide) (by decide) hC hR hk fun a w1 w rb tb bb Y1 hb hC hR hk ht=>?_
 rw [ddq_sShareFetchResponseTopicPartition] at hR
 have hR:=rep_agg_inv hR
 obtain ⟨c0,C0,hC,hR⟩:=cel_unV hC hR
 obtain ⟨c1,C1,hC,hR⟩:=cel_unV hC hR
 obtain ⟨x2,c2,C2,hC,r2,hR⟩:=cel_un1 (one1_ite (one1_v _) (one1_ptr _)) hC hR
 obtain ⟨c3,C3,hC,hR⟩:=cel_unV hC hR
 obtain ⟨x4,c4,C4,hC,r4,hR⟩:=cel_un1 (one1_ite (one1_v _) (one1_ptr _)) hC hR
 obtain ⟨x5,c5,C5,hC,r5,hR⟩:=cel_unN (n:=3) hC hR (len_sShareFetchResponseTopicPartitionCurrentLeader _)
 obtain ⟨x6,c6,C6,hC,r6,hR⟩:=cel_un1 (one1_ite (one1_v _) (one1_sl _ _ _)) hC hR
 obtain ⟨x7,c7,C7,hC,r7,hR⟩:=cel_un1 (one1_ite (one1_v _) (one1_sl _ _ _)) hC hR
 obtain ⟨xt,ct,Ct,hC,rt,hR⟩:=cel_un1 (one1_mp _ _) hC hR
 refine tl_num (s:=7) (k:=0)  treeP rfl rfl (by kernel_rfl) (by kernel_rfl) (by decide) (by decide) (by decide) fo_243_0 ts_21 un_21 ti_2 (wrap_in_i64 .i32 (by simp)) (fun _ _ _ _ _ h=>h) C0 hk ht fun a w hk ht=>?_
 refine tl_num (s:=16) (k:=1)  treeP rfl rfl (by kernel_rfl) (by kernel_rfl) (by decide) (by decide) (by decide) fo_243_1 ts_46 un_46 ti_2 (wrap_in_i64 .i16 (by simp)) (fun _ _ _ _ _ h=>h) C1 hk ht fun a w hk ht=>?_
 refine tl_call (s:=25) (k:=2) (F:=106) (tr:=(if (q.at_ 2).z then ofNil else ofOct (q.at_ 2).s)) treeP rfl rfl (by kernel_rfl) (by kernel_rfl) (by decide) (by decide) (by decide) fo_243_2 ts_92 cb_106 (fun hm=>textTree_c (q.at_ 2).z (q.at_ 2).s (rep_in hm r2)) (fun _ _ _ _ _ h=>h) C2 hk ht fun a w hk ht=>?_
 refine tl_num (s:=33) (k:=3)  treeP rfl rfl (by kernel_rfl) (by kernel_rfl) (by decide) (by decide) (by decide) fo_243_3 ts_46 un_46 ti_2 (wrap_in_i64 .i16 (by simp)) (fun _ _ _ _ _ h=>h) C3 hk ht fun a w hk ht=>?_
 refine tl_call (s:=42) (k:=4) (F:=106) (tr:=(if (q.at_ 4).z then ofNil else ofOct (q.at_ 4).s)) treeP rfl rfl (by kernel_rfl) (by kernel_rfl) (by decide) (by decide) (by decide) fo_243_4 ts_92 cb_106 (fun hm=>textTree_c (q.at_ 4).z (q.at_ 4).s (rep_in hm r4)) (fun _ _ _ _ _ h=>h) C4 hk ht fun a w hk ht=>?_
 refine tl_addr (s:=50) (k:=5) (F:=245) (tr:=telP sch_sShareFetchResponseTopicPartitionCurrentLeader (q.at_ 5)) treeP rfl rfl (by kernel_rfl) (by kernel_rfl) (by decide) (by decide) (by decide) fo_243_5 cb_245 (fun hm=>tell_sShareFetchResponseTopicPartitionCurrentLeader (cel_in hm (C5:Cel _ _ _ (_ + 0) _)) (rep_in hm r5) (fine_at hq 5)) (fun _ _ _ _ _ h=>h) hk ht fun a w hk ht=>?_
 refine tl_call (s:=57) (k:=6) (F:=246) (tr:=.mk 0 (if (q.at_ 6).z then [] else (q.at_ 6).s) (q.at_ 6).z [] []) treeP rfl rfl (by kernel_rfl) (by kernel_rfl) (by decide) (by decide) (by decide) fo_243_6 ts_22 cb_246 (fun hm=>octetsTree_c (q.at_ 6).z (if (q.at_ 6).z then [] else (q.at_ 6).s) (fun h=>by rw [h]; rfl) (oct_room (fine_at hq 6)) (rep_in hm (oct_open r6))) (fun _ _ _ _ _ h=>h) C6 hk ht fun a w hk ht=>?_
 obtain ⟨sp7,cap7,rfl,hz7,r7⟩:=rep_listN (G:=(telV 10 (-1) (telP sch_sShareFetchResponseTopicPartitionAcquiredRecord))) r7
 refine tl_null (s:=65) (k:=7)  treeP rfl rfl (by kernel_rfl) (by kernel_rfl) (by decide) (by decide) (by decide) fo_243_7 ts_241 te_241 ts_4 (fun _ _ _ _ _ h=>h) C7 hk ht fun a w hk ht=>?_
 refine tl_list (s:=74) (k:=7) (iv:=4) (tz:=120) (tsl:=(lzL (q.at_ 7).z (q.at_ 7).l).map (telV 10 (-1) (telP sch_sShareFetchResponseTopicPartitionAcquiredRecord))) treeP tz_4 ts_4 rfl (by kernel_rfl) (by kernel_rfl) (by kernel_rfl) (by kernel_rfl) (by decide) (by decide) (by decide) (by decide) (by decide) (lz_len (fine_at hq 7)) fo_243_7 ts_241 te_241 (fun _ _ _ _ _ h=>h) C7 hk ht ?_ ?_ fun a w hk ht=>?_
 ·intro Q j a w hj hQ hk ht K
  obtain ⟨b2,o2,c2,rfl,hE,hCE⟩:=list_at r7 (j:=j) (by simpa using hj)
  exact tl_A_call (p:=84) (s:=74) (k:=7) rfl rfl (by kernel_rfl) (by kernel_rfl) (by kernel_rfl) (by kernel_rfl) treeP rowT (by decide) rfl (by decide) (by decide) (by decide) (by decide) hj (lz_len (fine_at hq 7)) fo_243_7 ts_241 te_241 ts_248 cb_247 (fun hm=>by rw [getD_mapT hj]; exact tell_sShareFetchResponseTopicPartitionAcquiredRecord (cel_in hm hCE) (rep_in hm hE) (lz_fine (fine_at hq 7) j)) hQ C7 hk ht K
 ·intro Q j a w hj hQ hk ht K
  obtain ⟨b2,o2,c2,rfl,hE,hCE⟩:=list_at r7 (j:=j) (by simpa using hj)
  exact tl_B_call (p:=102) (s:=74) (k:=7) (by decide) rfl (by kernel_rfl) (by kernel_rfl) treeP rowT (by decide) rfl (by decide) (by decide) (by decide) (by decide) hj (lz_len (fine_at hq 7)) fo_243_7 ts_241 te_241 ts_248 cb_247 (fun hm=>by rw [getD_mapT hj]; exact tell_sShareFetchResponseTopicPartitionAcquiredRecord (cel_in hm hCE) (rep_in hm hE) (lz_fine (fine_at hq 7) j)) hQ C7 hk ht K
 rw [hz7] at ht
 exact tl_end (s:=121) (fE:=108) (fS:=110) (g:=248) treeP tagP each_cP cb_108 sorted_ok cb_110 clo_sShareFetchResponseTopicPartition cb_248 rfl rfl (fun h=>Bool.noConfusion h) (by decide) (by decide) (by decide) fo_243_8 Ct rt (fine_spec hq).2.2.2.2.1 (fine_spec hq).2.2.1 (fine_spec hq).2.2.2.1 (sortU_perm _) (sortU_rise (fine_spec hq).2.2.2.2.1) hb hk ht
theorem ddq_sShareFetchResponseTopic (q:T):ddS schR_sShareFetchResponseTopic true q = .agg [.agg ((sixteen (q.at_ 0).s).map ddB),if (q.at_ 1).z then .v (.slice none 0 0) else .sl true 11 ((q.at_ 1).l.map (ddS schR_sShareFetchResponseTopicPartition true)),ddTagMap q.u]:=rfl
theorem tells_sShareFetchResponseTopic (q:T):telP schR_sShareFetchResponseTopic q = .mk 0 [] false [ofOct (sixteen (q.at_ 0).s),.mk 0 [] (q.at_ 1).z ((lzL (q.at_ 1).z (q.at_ 1).l).map (telV 10 (-1) (telP schR_sShareFetchResponseTopicPartition))) []] (sortU q.u):=congrArg (fun l=>T.mk 0 [] false l (sortU q.u)) (cons_eq rfl (cons_eq (tel_list _) (rfl)))
theorem clo_sShareFetchResponseTopic:CloOk Tryz.prog 37 69 225:=by
 intro w S k SE tb YE us p lv x h1 h2 h3 h4 h5 h6 h7 h8 h9
 refine c_call Tryz.func225 rfl rfl fun a hk=>?_
 have hk:Kn 14 [(0,.int .u32 (p.1:Int)),(1,x),(2,.pointer (some ⟨tb,0,none⟩))] a:=hk
 exact tl_clo (s:=5) treeP tagP rfl rfl (by kernel_rfl) (by kernel_rfl) (by decide) (by decide) h1 h2 h3 h4 h5 h6 h7 h8 h9 hk
theorem tell_sShareFetchResponseTopic:TellOk Tryz.prog 153 schR_sShareFetchResponseTopic true 0:=by
 intro w0 Y b off cs q hC hR hq
 rw [tells_sShareFetchResponseTopic]
 refine c_call Tryz.func153 rfl rfl fun a hk=>?_
 have hk:Kn 81 [(0,.pointer (some ⟨b,off,none⟩))] a:=hk
 refine tl_start (m:=2) (su:=5) (sv:=6) treeP rowT (by decide) rfl (by decide) (by decide) (by decide) (by decide) (by decide) (by decide) hC hR hk fun a w1 w rb tb bb Y1 hb hC hR hk ht=>?_
 rw [ddq_sShareFetchResponseTopic] at hR
 have hR:=rep_agg_inv hR
 obtain ⟨c0,C0,hC,hR⟩:=cel_un16 hC hR
 obtain ⟨x1,c1,C1,hC,r1,hR⟩:=cel_un1 (one1_ite (one1_v _) (one1_sl _ _ _)) hC hR
 obtain ⟨xt,ct,Ct,hC,rt,hR⟩:=cel_un1 (one1_mp _ _) hC hR
 refine tl_uuid (s:=7) (k:=0)  treeP rfl rfl (by kernel_rfl) (by kernel_rfl) (by decide) (by decide) (by decide) fo_184_0 ar_103 ts_5 te_22 rt_22 (fun _ _ _ _ _ h=>h) C0 hk ht fun a w hk ht=>?_
 obtain ⟨sp1,cap1,rfl,hz1,r1⟩:=rep_listN (G:=(telV 10 (-1) (telP schR_sShareFetchResponseTopicPartition))) r1
 refine tl_null (s:=16) (k:=1)  treeP rfl rfl (by kernel_rfl) (by kernel_rfl) (by decide) (by decide) (by decide) fo_184_1 ts_182 te_182 ts_4 (fun _ _ _ _ _ h=>h) C1 hk ht fun a w hk ht=>?_
 refine tl_list (s:=25) (k:=1) (iv:=4) (tz:=71) (tsl:=(lzL (q.at_ 1).z (q.at_ 1).l).map (telV 10 (-1) (telP schR_sShareFetchResponseTopicPartition))) treeP tz_4 ts_4 rfl (by kernel_rfl) (by kernel_rfl) (by kernel_rfl) (by kernel_rfl) (by decide) (by decide) (by decide) (by decide) (by decide) (lz_len (fine_at hq 1)) fo_184_1 ts_182 te_182 (fun _ _ _ _ _ h=>h) C1 hk ht ?_ ?_ fun a w hk ht=>?_
 ·intro Q j a w hj hQ hk ht K
  obtain ⟨b2,o2,c2,rfl,hE,hCE⟩:=list_at r1 (j:=j) (by simpa using hj)
  exact tl_A_call (p:=35) (s:=25) (k:=1) rfl rfl (by kernel_rfl) (by kernel_rfl) (by kernel_rfl) (by kernel_rfl) treeP rowT (by decide) rfl (by decide) (by decide) (by decide) (by decide) hj (lz_len (fine_at hq 1)) fo_184_1 ts_182 te_182 ts_243 cb_224 (fun hm=>by rw [getD_mapT hj]; exact tell_sShareFetchResponseTopicPartition (cel_in hm hCE) (rep_in hm hE) (lz_fine (fine_at hq 1) j)) hQ C1 hk ht K
 ·intro Q j a w hj hQ hk ht K
  obtain ⟨b2,o2,c2,rfl,hE,hCE⟩:=list_at r1 (j:=j) (by simpa using hj)
  exact tl_B_call (p:=53) (s:=25) (k:=1) (by decide) rfl (by kernel_rfl) (by kernel_rfl) treeP rowT (by decide) rfl (by decide) (by decide) (by decide) (by decide) hj (lz_len (fine_at hq 1)) fo_184_1 ts_182 te_182 ts_243 cb_224 (fun hm=>by rw [getD_mapT hj]; exact tell_sShareFetchResponseTopicPartition (cel_in hm hCE) (rep_in hm hE) (lz_fine (fine_at hq 1) j)) hQ C1 hk ht K
 rw [hz1] at ht
 exact tl_end (s:=72) (fE:=108) (fS:=110) (g:=225) treeP tagP each_cP cb_108 sorted_ok cb_110 clo_sShareFetchResponseTopic cb_225 rfl rfl (fun h=>Bool.noConfusion h) (by decide) (by decide) (by decide) fo_184_2 Ct rt (fine_spec hq).2.2.2.2.1 (fine_spec hq).2.2.1 (fine_spec hq).2.2.2.1 (sortU_perm _) (sortU_rise (fine_spec hq).2.2.2.2.1) hb hk ht
theorem ddq_sShareFetchResponseNodeEndpoint (q:T):ddS sch_sShareFetchResponseNodeEndpoint true q = .agg [.v (.int .i32 (IntKind.i32.wrap (q.at_ 0).n)),.v (.string (bs (q.at_ 1).s)),.v (.int .i32 (IntKind.i32.wrap (q.at_ 2).n)),if (q.at_ 3).z then .v (.pointer none) else .ptr (.v (.string (bs (q.at_ 3).s))),ddTagMap q.u]:=rfl
theorem tells_sShareFetchResponseNodeEndpoint (q:T):telP sch_sShareFetchResponseNodeEndpoint q = .mk 0 [] false [ofNum (IntKind.i32.wrap (q.at_ 0).n),ofOct (q.at_ 1).s,ofNum (IntKind.i32.wrap (q.at_ 2).n),(if (q.at_ 3).z then ofNil else ofOct (q.at_ 3).s)] (sortU q.u):=congrArg (fun l=>T.mk 0 [] false l (sortU q.u)) (cons_eq rfl (cons_eq rfl (cons_eq rfl (cons_eq (tel_textN (nu:=0) (q.at_ 3) (by decide)) (rfl)))))
theorem clo_sShareFetchResponseNodeEndpoint:CloOk Tryz.prog 37 69 226:=by
 intro w S k SE tb YE us p lv x h1 h2 h3 h4 h5 h6 h7 h8 h9
 refine c_call Tryz.func226 rfl rfl fun a hk=>?_
 have hk:Kn 14 [(0,.int .u32 (p.1:Int)),(1,x),(2,.pointer (some ⟨tb,0,none⟩))] a:=hk
 exact tl_clo (s:=5) treeP tagP rfl rfl (by kernel_rfl) (by kernel_rfl) (by decide) (by decide) h1 h2 h3 h4 h5 h6 h7 h8 h9 hk
theorem tell_sShareFetchResponseNodeEndpoint:TellOk Tryz.prog 154 sch_sShareFetchResponseNodeEndpoint true 0:=by
 intro w0 Y b off cs q hC hR hq
 rw [tells_sShareFetchResponseNodeEndpoint]
 refine c_call Tryz.func154 rfl rfl fun a hk=>?_
 have hk:Kn 50 [(0,.pointer (some ⟨b,off,none⟩))] a:=hk
 refine tl_start (m:=4) (su:=4) (sv:=5) treeP rowT (by decide) rfl (by decide) (by decide) (by decide) (by decide) (by decide) (by decide) hC hR hk fun a w1 w rb tb bb Y1 hb hC hR hk ht=>?_
 rw [ddq_sShareFetchResponseNodeEndpoint] at hR
 have hR:=rep_agg_inv hR
 obtain ⟨c0,C0,hC,hR⟩:=cel_unV hC hR
 obtain ⟨c1,C1,hC,hR⟩:=cel_unV hC hR
 obtain ⟨c2,C2,hC,hR⟩:=cel_unV hC hR
 obtain ⟨x3,c3,C3,hC,r3,hR⟩:=cel_un1 (one1_ite (one1_v _) (one1_ptr _)) hC hR
 obtain ⟨xt,ct,Ct,hC,rt,hR⟩:=cel_un1 (one1_mp _ _) hC hR
 refine tl_num (s:=6) (k:=0)  treeP rfl rfl (by kernel_rfl) (by kernel_rfl) (by decide) (by decide) (by decide) fo_188_0 ts_21 un_21 ti_2 (wrap_in_i64 .i32 (by simp)) (fun _ _ _ _ _ h=>h) C0 hk ht fun a w hk ht=>?_
 refine tl_text (s:=15) (k:=1)  treeP rfl rfl (by kernel_rfl) (by kernel_rfl) (by decide) (by decide) (by decide) fo_188_1 ts_9 is_9 iy_22 (fun _ _ _ _ _ h=>h) C1 hk ht fun a w hk ht=>?_
 refine tl_num (s:=24) (k:=2)  treeP rfl rfl (by kernel_rfl) (by kernel_rfl) (by decide) (by decide) (by decide) fo_188_2 ts_21 un_21 ti_2 (wrap_in_i64 .i32 (by simp)) (fun _ _ _ _ _ h=>h) C2 hk ht fun a w hk ht=>?_
 refine tl_call (s:=33) (k:=3) (F:=106) (tr:=(if (q.at_ 3).z then ofNil else ofOct (q.at_ 3).s)) treeP rfl rfl (by kernel_rfl) (by kernel_rfl) (by decide) (by decide) (by decide) fo_188_3 ts_92 cb_106 (fun hm=>textTree_c (q.at_ 3).z (q.at_ 3).s (rep_in hm r3)) (fun _ _ _ _ _ h=>h) C3 hk ht fun a w hk ht=>?_
 exact tl_end (s:=41) (fE:=108) (fS:=110) (g:=226) treeP tagP each_cP cb_108 sorted_ok cb_110 clo_sShareFetchResponseNodeEndpoint cb_226 rfl rfl (fun h=>Bool.noConfusion h) (by decide) (by decide) (by decide) fo_188_4 Ct rt (fine_spec hq).2.2.2.2.1 (fine_spec hq).2.2.1 (fine_spec hq).2.2.2.1 (sortU_perm _) (sortU_rise (fine_spec hq).2.2.2.2.1) hb hk ht
theorem ddq_ShareFetchResponse (q:T):ddS schR_ShareFetchResponse true q = .agg [.v (.int .i32 (IntKind.i32.wrap (q.at_ 0).n)),.v (.int .i16 (IntKind.i16.wrap (q.at_ 1).n)),if (q.at_ 2).z then .v (.pointer none) else .ptr (.v (.string (bs (q.at_ 2).s))),.v (.int .i32 (IntKind.i32.wrap (q.at_ 3).n)),if (q.at_ 4).z then .v (.slice none 0 0) else .sl true 18 ((q.at_ 4).l.map (ddS schR_sShareFetchResponseTopic true)),if (q.at_ 5).z then .v (.slice none 0 0) else .sl true 5 ((q.at_ 5).l.map (ddS sch_sShareFetchResponseNodeEndpoint true)),ddTagMap q.u]:=rfl
theorem tells_ShareFetchResponse (q:T):telP schR_ShareFetchResponse q = .mk 0 [] false [ofNum (IntKind.i32.wrap (q.at_ 0).n),ofNum (IntKind.i16.wrap (q.at_ 1).n),(if (q.at_ 2).z then ofNil else ofOct (q.at_ 2).s),ofNum (IntKind.i32.wrap (q.at_ 3).n),.mk 0 [] (q.at_ 4).z ((lzL (q.at_ 4).z (q.at_ 4).l).map (telV 10 (-1) (telP schR_sShareFetchResponseTopic))) [],.mk 0 [] (q.at_ 5).z ((lzL (q.at_ 5).z (q.at_ 5).l).map (telV 10 (-1) (telP sch_sShareFetchResponseNodeEndpoint))) []] (sortU q.u):=congrArg (fun l=>T.mk 0 [] false l (sortU q.u)) (cons_eq rfl (cons_eq rfl (cons_eq (tel_textN (nu:=0) (q.at_ 2) (by decide)) (cons_eq rfl (cons_eq (tel_list _) (cons_eq (tel_list _) (rfl)))))))
theorem clo_ShareFetchResponse:CloOk Tryz.prog 37 69 155:=by
 intro w S k SE tb YE us p lv x h1 h2 h3 h4 h5 h6 h7 h8 h9
 refine c_call Tryz.func155 rfl rfl fun a hk=>?_
 have hk:Kn 14 [(0,.int .u32 (p.1:Int)),(1,x),(2,.pointer (some ⟨tb,0,none⟩))] a:=hk
 exact tl_clo (s:=5) treeP tagP rfl rfl (by kernel_rfl) (by kernel_rfl) (by decide) (by decide) h1 h2 h3 h4 h5 h6 h7 h8 h9 hk
theorem tell_ShareFetchResponse:TellOk Tryz.prog 101 schR_ShareFetchResponse true 1:=by
 intro w0 Y b off cs q hC hR hq
 rw [tells_ShareFetchResponse]
 refine c_call Tryz.func101 rfl rfl fun a hk=>?_
 have hk:Kn 164 [(0,.pointer (some ⟨b,off,none⟩))] a:=hk
 refine tl_start (m:=6) (su:=6) (sv:=7) treeP rowT (by decide) rfl (by decide) (by decide) (by decide) (by decide) (by decide) (by decide) hC hR hk fun a w1 w rb tb bb Y1 hb hC hR hk ht=>?_
 rw [ddq_ShareFetchResponse] at hR
 have hR:=rep_agg_inv hR
 obtain ⟨c0,C0,hC,hR⟩:=cel_unV hC hR
 obtain ⟨c1,C1,hC,hR⟩:=cel_unV hC hR
 obtain ⟨x2,c2,C2,hC,r2,hR⟩:=cel_un1 (one1_ite (one1_v _) (one1_ptr _)) hC hR
 obtain ⟨c3,C3,hC,hR⟩:=cel_unV hC hR
 obtain ⟨x4,c4,C4,hC,r4,hR⟩:=cel_un1 (one1_ite (one1_v _) (one1_sl _ _ _)) hC hR
 obtain ⟨x5,c5,C5,hC,r5,hR⟩:=cel_un1 (one1_ite (one1_v _) (one1_sl _ _ _)) hC hR
 obtain ⟨xt,ct,Ct,hC,rt,hR⟩:=cel_un1 (one1_mp _ _) hC hR
 refine tl_num (s:=8) (k:=0)  treeP rfl rfl (by kernel_rfl) (by kernel_rfl) (by decide) (by decide) (by decide) fo_179_1 ts_21 un_21 ti_2 (wrap_in_i64 .i32 (by simp)) (fun _ _ _ _ _ h=>h) C0 hk ht fun a w hk ht=>?_
 refine tl_num (s:=17) (k:=1)  treeP rfl rfl (by kernel_rfl) (by kernel_rfl) (by decide) (by decide) (by decide) fo_179_2 ts_46 un_46 ti_2 (wrap_in_i64 .i16 (by simp)) (fun _ _ _ _ _ h=>h) C1 hk ht fun a w hk ht=>?_
 refine tl_call (s:=26) (k:=2) (F:=106) (tr:=(if (q.at_ 2).z then ofNil else ofOct (q.at_ 2).s)) treeP rfl rfl (by kernel_rfl) (by kernel_rfl) (by decide) (by decide) (by decide) fo_179_3 ts_92 cb_106 (fun hm=>textTree_c (q.at_ 2).z (q.at_ 2).s (rep_in hm r2)) (fun _ _ _ _ _ h=>h) C2 hk ht fun a w hk ht=>?_
 refine tl_num (s:=34) (k:=3)  treeP rfl rfl (by kernel_rfl) (by kernel_rfl) (by decide) (by decide) (by decide) fo_179_4 ts_21 un_21 ti_2 (wrap_in_i64 .i32 (by simp)) (fun _ _ _ _ _ h=>h) C3 hk ht fun a w hk ht=>?_
 obtain ⟨sp4,cap4,rfl,hz4,r4⟩:=rep_listN (G:=(telV 10 (-1) (telP schR_sShareFetchResponseTopic))) r4
 refine tl_null (s:=43) (k:=4)  treeP rfl rfl (by kernel_rfl) (by kernel_rfl) (by decide) (by decide) (by decide) fo_179_5 ts_176 te_176 ts_4 (fun _ _ _ _ _ h=>h) C4 hk ht fun a w hk ht=>?_
 refine tl_list (s:=52) (k:=4) (iv:=4) (tz:=98) (tsl:=(lzL (q.at_ 4).z (q.at_ 4).l).map (telV 10 (-1) (telP schR_sShareFetchResponseTopic))) treeP tz_4 ts_4 rfl (by kernel_rfl) (by kernel_rfl) (by kernel_rfl) (by kernel_rfl) (by decide) (by decide) (by decide) (by decide) (by decide) (lz_len (fine_at hq 4)) fo_179_5 ts_176 te_176 (fun _ _ _ _ _ h=>h) C4 hk ht ?_ ?_ fun a w hk ht=>?_
 ·intro Q j a w hj hQ hk ht K
  obtain ⟨b2,o2,c2,rfl,hE,hCE⟩:=list_at r4 (j:=j) (by simpa using hj)
  exact tl_A_call (p:=62) (s:=52) (k:=4) rfl rfl (by kernel_rfl) (by kernel_rfl) (by kernel_rfl) (by kernel_rfl) treeP rowT (by decide) rfl (by decide) (by decide) (by decide) (by decide) hj (lz_len (fine_at hq 4)) fo_179_5 ts_176 te_176 ts_184 cb_153 (fun hm=>by rw [getD_mapT hj]; exact tell_sShareFetchResponseTopic (cel_in hm hCE) (rep_in hm hE) (lz_fine (fine_at hq 4) j)) hQ C4 hk ht K
 ·intro Q j a w hj hQ hk ht K
  obtain ⟨b2,o2,c2,rfl,hE,hCE⟩:=list_at r4 (j:=j) (by simpa using hj)
  exact tl_B_call (p:=80) (s:=52) (k:=4) (by decide) rfl (by kernel_rfl) (by kernel_rfl) treeP rowT (by decide) rfl (by decide) (by decide) (by decide) (by decide) hj (lz_len (fine_at hq 4)) fo_179_5 ts_176 te_176 ts_184 cb_153 (fun hm=>by rw [getD_mapT hj]; exact tell_sShareFetchResponseTopic (cel_in hm hCE) (rep_in hm hE) (lz_fine (fine_at hq 4) j)) hQ C4 hk ht K
 rw [hz4] at ht
 obtain ⟨sp5,cap5,rfl,hz5,r5⟩:=rep_listN (G:=(telV 10 (-1) (telP sch_sShareFetchResponseNodeEndpoint))) r5
 refine tl_null (s:=99) (k:=5)  treeP rfl rfl (by kernel_rfl) (by kernel_rfl) (by decide) (by decide) (by decide) fo_179_6 ts_177 te_177 ts_4 (fun _ _ _ _ _ h=>h) C5 hk ht fun a w hk ht=>?_
 refine tl_list (s:=108) (k:=5) (iv:=5) (tz:=154) (tsl:=(lzL (q.at_ 5).z (q.at_ 5).l).map (telV 10 (-1) (telP sch_sShareFetchResponseNodeEndpoint))) treeP tz_4 ts_4 rfl (by kernel_rfl) (by kernel_rfl) (by kernel_rfl) (by kernel_rfl) (by decide) (by decide) (by decide) (by decide) (by decide) (lz_len (fine_at hq 5)) fo_179_6 ts_177 te_177 (fun _ _ _ _ _ h=>h) C5 hk ht ?_ ?_ fun a w hk ht=>?_
 ·intro Q j a w hj hQ hk ht K
  obtain ⟨b2,o2,c2,rfl,hE,hCE⟩:=list_at r5 (j:=j) (by simpa using hj)
  exact tl_A_call (p:=118) (s:=108) (k:=5) rfl rfl (by kernel_rfl) (by kernel_rfl) (by kernel_rfl) (by kernel_rfl) treeP rowT (by decide) rfl (by decide) (by decide) (by decide) (by decide) hj (lz_len (fine_at hq 5)) fo_179_6 ts_177 te_177 ts_188 cb_154 (fun hm=>by rw [getD_mapT hj]; exact tell_sShareFetchResponseNodeEndpoint (cel_in hm hCE) (rep_in hm hE) (lz_fine (fine_at hq 5) j)) hQ C5 hk ht K
 ·intro Q j a w hj hQ hk ht K
  obtain ⟨b2,o2,c2,rfl,hE,hCE⟩:=list_at r5 (j:=j) (by simpa using hj)
  exact tl_B_call (p:=136) (s:=108) (k:=5) (by decide) rfl (by kernel_rfl) (by kernel_rfl) treeP rowT (by decide) rfl (by decide) (by decide) (by decide) (by decide) hj (lz_len (fine_at hq 5)) fo_179_6 ts_177 te_177 ts_188 cb_154 (fun hm=>by rw [getD_mapT hj]; exact tell_sShareFetchResponseNodeEndpoint (cel_in hm hCE) (rep_in hm hE) (lz_fine (fine_at hq 5) j)) hQ C5 hk ht K
 rw [hz5] at ht
 exact tl_end (s:=155) (fE:=108) (fS:=110) (g:=155) treeP tagP each_cP cb_108 sorted_ok cb_110 clo_ShareFetchResponse cb_155 rfl rfl (fun h=>Bool.noConfusion h) (by decide) (by decide) (by decide) fo_179_7 Ct rt (fine_spec hq).2.2.2.2.1 (fine_spec hq).2.2.1 (fine_spec hq).2.2.2.1 (sortU_perm _) (sortU_rise (fine_spec hq).2.2.2.2.1) hb hk ht
end Go.Proofs.YtoopklfabccmnaaGreatDoor
