/- Walks of functions that the laws of this seat reach. No statement of the seat stands here. -/
import Derived.Test.YtoopklfabccmnaaGreatDoorL4
import Derived.Test.YtoopklfabccmnaaGreatDoorRows
import Derived.Test.YtoopklfabccmnaaGreatDoorFa
import Derived.Test.YtoopklfabccmnaaGreatDoorTd
namespace Go.Proofs.YtoopklfabccmnaaGreatDoor
open Go Go.Mk
set_option maxRecDepth 100000 in
theorem Told_walk {fs:List Fld} (hF:∀ f ∈ fs,ToldFC f) (hU:∀ f ∈ fs,UsuC [f]) (hn:noTagFs fs = true) (hok:tagsOk fs = true) (hlen:fs.length ≤ 1000) {w0:World} {Y:Nat → Prop} {t g:T} {p:Option Addr} {cap:Nat} {ct cg:List Value} (V:Int) (flex:Bool) (hFs:Rep w0 Y (.sl false 8 (fs.map ddFd)) [.slice p fs.length cap]) (hT:Rep w0 Y (ddT t) ct) (hG:Rep w0 Y (ddT g) cg) (hsn:t.sane = true) (hgn:g.sane = true) (hgm:g.small = true) :
  Ret Tryz.prog 17 [.slice p fs.length cap,.int .i64 V,.bool flex,.agg ct.toArray,.agg cg.toArray] w0 fun v w'=>Agr Nob w0 w' ∧ v = .bool (toldP fs V flex t g):=by
 have hgs:=sane_spec hgn
 have hts:=sane_spec hsn
 obtain ⟨pst,capst,pt,capt,put,caput,rfl⟩:=rep_T7 hT
 obtain ⟨psg,capsg,pg,capg,pug,capug,rfl⟩:=rep_T7 hG
 refine c_call Tryz.func17 rfl rfl fun a hk=>?_
 have hk:Kn 120 [(0,.slice p fs.length cap),(1,.int .i64 V),(2,.bool flex),(3,.agg #[.int .i64 t.n,.slice pst t.s.length capst,.bool t.z,.slice pt t.l.length capt,.slice put t.u.length caput]),(4,.agg #[.int .i64 g.n,.slice psg g.s.length capsg,.bool g.z,.slice pg g.l.length capg,.slice pug g.u.length capug])] a:=hk
 have hm:Mem w0 Nob Y [.rep (.sl false 8 (fs.map ddFd)) [.slice p fs.length cap],.rep (ddT t) [.int .i64 t.n,.slice pst t.s.length capst,.bool t.z,.slice pt t.l.length capt,.slice put t.u.length caput],.rep (ddT g) [.int .i64 g.n,.slice psg g.s.length capsg,.bool g.z,.slice pg g.l.length capg,.slice pug g.u.length capug]] w0:=Mem.start rfl (by simp only [List.forall_mem_cons,List.not_mem_nil,false_imp_iff,implies_true,and_true]; exact ⟨hFs,hT,hG⟩)
 have hus:∀ k,(g.u.getD k (0,[])).2.length < 4611686018427387904:=small_tag hgm
 refine cR0 ?_
 refine o_box hk hm rfl rfl rfl fun a b1 w hk hm=>?_
 refine o_box hk hm rfl rfl rfl fun a b2 w hk hm=>?_
 refine oA0 hk rfl rfl fun a hk=>?_
 refine cE0 ?_
 refine wp_seq ?_
 refine cR0 ?_
 refine oF0 hk fo_26_3 rfl rfl fun a hk=>?_
 refine o_load hk ts_23 rfl (hm.cell_blk (i:=0) rfl rfl) rfl fun a hk=>?_
 refine oL0 hk te_23 rfl rfl fun a hk=>?_
 refine oM0 hk rfl rfl fun a hk=>?_
 refine oL0 hk te_29 rfl rfl fun a hk=>?_
 refine o_icmp hk rfl rfl rfl rfl fun a hk=>?_
 refine cE0 ?_
 refine c_cond hk rfl (fun hc=>?_) (fun hc=>?_)
 ·refine cR0 ?_
  refine oA0 hk rfl rfl fun a hk=>?_
  refine cE0 ?_
  refine wp_ret ?_
  refine cQ0 ?_
  refine bT0 rfl hk rfl ?_
  first | exact ⟨hm.agr,congrArg Value.bool (toldP_tlen (by rw [hL]; first | exact hc | simpa using hc))⟩ | exact ⟨hm.agr,congrArg Value.bool (toldP_len hc)⟩
 ·refine wp_skip ?_
  refine cT0 ?_
  refine wp_seq ?_
  refine cR0 ?_
  refine oM0 hk rfl rfl fun a hk=>?_
  refine oL0 hk te_29 rfl rfl fun a hk=>?_
  refine oM0 hk rfl rfl fun a hk=>?_
  refine cE0 ?_
  have hglen:g.l.length = fs.length:=by have:=bne_eq_false_iff_eq.1 hc; omega
  have hl0:=hc
  refine c_range (L0:=[(0,.slice p fs.length cap),(1,.int .i64 V),(2,.bool flex),(8,.pointer (some ⟨b1,0,none⟩)),(9,.pointer (some ⟨b2,0,none⟩)),(23,.slice p fs.length cap)]) (N:=fs.length) (by omega) (fun k L w=>L = [(0,.slice p fs.length cap),(1,.int .i64 V),(2,.bool flex),(8,.pointer (some ⟨b1,0,none⟩)),(9,.pointer (some ⟨b2,0,none⟩)),(23,.slice p fs.length cap)] ∧ (List.range k).all (tpAt fs V flex t g) = true ∧ Mem w0 Nob Y [.blk b2 [.int .i64 g.n,.slice psg g.s.length capsg,.bool g.z,.slice pg g.l.length capg,.slice pug g.u.length capug] 26,.blk b1 [.int .i64 t.n,.slice pst t.s.length capst,.bool t.z,.slice pt t.l.length capt,.slice put t.u.length caput] 26,.rep (.sl false 8 (fs.map ddFd)) [.slice p fs.length cap],.rep (ddT t) [.int .i64 t.n,.slice pst t.s.length capst,.bool t.z,.slice pt t.l.length capt,.slice put t.u.length caput],.rep (ddT g) [.int .i64 g.n,.slice psg g.s.length capsg,.bool g.z,.slice pg g.l.length capg,.slice pug g.u.length capug]] w) (hk.sub ⟨rfl,rfl,rfl,rfl,rfl,rfl,rfl,rfl,trivial⟩) ⟨rfl,rfl,hm⟩ rfl rfl rfl rfl rfl rfl rfl (fun k L a w hlt hR hk=>?_) rfl (fun L a w hR hk=>?_)
  ·obtain ⟨rfl,hI0,hm⟩:=hR
   obtain ⟨hlty,bly,offy,ey,hply,hely,hRey,hCey⟩:=rep_sl_get (hm.rep (i:=2) rfl) (getD_map ddFd fs k FNIL hlt)
   obtain ⟨pfy,capfy,rfl,-⟩:=rep_Fd hRey
   have hm:=hm.add (e:=.rep (ddFd (fs.getD k FNIL)) [.int .i64 (((fs.getD k FNIL).kind:Nat):Int),.int .i64 ((fs.getD k FNIL).fr),.int .i64 ((fs.getD k FNIL).to),.int .i64 ((fs.getD k FNIL).nu),.int .i64 ((fs.getD k FNIL).tag),.int .i64 ((fs.getD k FNIL).df),.int .i64 (((fs.getD k FNIL).of:Nat):Int),.slice pfy ((fs.getD k FNIL).sub.length) capfy]) rfl hRey
   have hm:=hm.add (e:=.cel bly (offy + k * 8) [.int .i64 (((fs.getD k FNIL).kind:Nat):Int),.int .i64 ((fs.getD k FNIL).fr),.int .i64 ((fs.getD k FNIL).to),.int .i64 ((fs.getD k FNIL).nu),.int .i64 ((fs.getD k FNIL).tag),.int .i64 ((fs.getD k FNIL).df),.int .i64 (((fs.getD k FNIL).of:Nat):Int),.slice pfy ((fs.getD k FNIL).sub.length) capfy]) rfl hCey
   have hltg:k < g.l.length:=by omega
   have htag:(fs.getD k FNIL).tag < 0:=noTag_tag (noTag_mem hn _ (getD_mem hlt))
   obtain ⟨hltz,blz,offz,ez,hplz,helz,hRez,hCez⟩:=rep_sl_get (rep_T_l (hm.rep (i:=6) rfl)) (getD_map ddT g.l k T.nil hltg)
   obtain ⟨psz,capsz,pz,capz,puz,capuz,rfl⟩:=rep_T7 hRez
   have hm:=hm.add (e:=.rep (ddT (g.l.getD k T.nil)) [.int .i64 ((g.l.getD k T.nil).n),.slice psz ((g.l.getD k T.nil).s.length) capsz,.bool ((g.l.getD k T.nil).z),.slice pz ((g.l.getD k T.nil).l.length) capz,.slice puz ((g.l.getD k T.nil).u.length) capuz]) rfl hRez
   have hm:=hm.add (e:=.cel blz (offz + k * 5) [.int .i64 ((g.l.getD k T.nil).n),.slice psz ((g.l.getD k T.nil).s.length) capsz,.bool ((g.l.getD k T.nil).z),.slice pz ((g.l.getD k T.nil).l.length) capz,.slice puz ((g.l.getD k T.nil).u.length) capuz]) rfl hCez
   refine cR0 ?_
   refine oM0 hk rfl rfl fun a hk=>?_
   refine oI0 (j:=k) (b:=bly) (off:=offy) hk te_29 ts_51 (by rw [← hply]; rfl) rfl hlty rfl fun a hk=>?_
   refine o_loadN (cs:=[.int .i64 (((fs.getD k FNIL).kind:Nat):Int),.int .i64 ((fs.getD k FNIL).fr),.int .i64 ((fs.getD k FNIL).to),.int .i64 ((fs.getD k FNIL).nu),.int .i64 ((fs.getD k FNIL).tag),.int .i64 ((fs.getD k FNIL).df),.int .i64 (((fs.getD k FNIL).of:Nat):Int),.slice pfy ((fs.getD k FNIL).sub.length) capfy]) hk ts_51 rfl (hm.cells_cel (i:=2) (k:=0) rfl rfl) rfl fun a hk=>?_
   refine o_alloc hk hm tz_51 rfl rfl fun a b3 w hk hm=>?_
   refine oA0 hk rfl rfl fun a hk=>?_
   refine o_store (i:=0) hk hm ts_51 rfl rfl rfl rfl rfl rfl (Nat.le_of_ble_eq_true rfl) fun a w hk hm=>?_
   refine cE0 ?_
   refine cR0 ?_
   refine o_loadN (cs:=[.int .i64 t.n,.slice pst t.s.length capst,.bool t.z,.slice pt t.l.length capt,.slice put t.u.length caput]) hk ts_26 rfl (hm.cells_blk (i:=6) rfl rfl) rfl fun a hk=>?_
   refine oM0 hk rfl rfl fun a hk=>?_
   refine o_call hk cb_49 (at_spec (t:=t) k (hm.rep (i:=8) rfl)) ⟨rfl,rfl,trivial⟩ rfl fun v w a hR hk=>?_
   obtain ⟨hp,ca1,rfl,hR⟩:=hR
   obtain ⟨psa1,capsa1,pa1,capa1,pua1,capua1,rfl⟩:=rep_T7 hR
   have hm:=hm.result hp hR
   refine o_alloc hk hm tz_26 rfl rfl fun a b4 w hk hm=>?_
   refine o_store (i:=0) hk hm ts_26 rfl rfl rfl rfl rfl rfl (Nat.le_of_ble_eq_true rfl) fun a w hk hm=>?_
   refine cE0 ?_
   refine wp_seq ?_
   refine c_cut (fun a w=>Kn 120 [(54,.bool ((fs.getD k FNIL).has V)),(0,.slice p fs.length cap),(1,.int .i64 V),(2,.bool flex),(8,.pointer (some ⟨b1,0,none⟩)),(9,.pointer (some ⟨b2,0,none⟩)),(11,.int .i64 ((k:Nat):Int)),(12,.pointer (some ⟨b3,0,none⟩)),(13,.pointer (some ⟨b4,0,none⟩)),(23,.slice p fs.length cap),(24,.int .i64 ((fs.length:Nat):Int)),(25,.int .i64 ((k:Nat):Int))] a ∧ Mem w0 Nob Y [.blk b4 [.int .i64 ((t.at_ k).n),.slice psa1 ((t.at_ k).s.length) capsa1,.bool ((t.at_ k).z),.slice pa1 ((t.at_ k).l.length) capa1,.slice pua1 ((t.at_ k).u.length) capua1] 26,.rep (ddT (t.at_ k)) [.int .i64 ((t.at_ k).n),.slice psa1 ((t.at_ k).s.length) capsa1,.bool ((t.at_ k).z),.slice pa1 ((t.at_ k).l.length) capa1,.slice pua1 ((t.at_ k).u.length) capua1],.blk b3 [.int .i64 (((fs.getD k FNIL).kind:Nat):Int),.int .i64 ((fs.getD k FNIL).fr),.int .i64 ((fs.getD k FNIL).to),.int .i64 ((fs.getD k FNIL).nu),.int .i64 ((fs.getD k FNIL).tag),.int .i64 ((fs.getD k FNIL).df),.int .i64 (((fs.getD k FNIL).of:Nat):Int),.slice pfy ((fs.getD k FNIL).sub.length) capfy] 51,.cel blz (offz + k * 5) [.int .i64 ((g.l.getD k T.nil).n),.slice psz ((g.l.getD k T.nil).s.length) capsz,.bool ((g.l.getD k T.nil).z),.slice pz ((g.l.getD k T.nil).l.length) capz,.slice puz ((g.l.getD k T.nil).u.length) capuz],.rep (ddT (g.l.getD k T.nil)) [.int .i64 ((g.l.getD k T.nil).n),.slice psz ((g.l.getD k T.nil).s.length) capsz,.bool ((g.l.getD k T.nil).z),.slice pz ((g.l.getD k T.nil).l.length) capz,.slice puz ((g.l.getD k T.nil).u.length) capuz],.cel bly (offy + k * 8) [.int .i64 (((fs.getD k FNIL).kind:Nat):Int),.int .i64 ((fs.getD k FNIL).fr),.int .i64 ((fs.getD k FNIL).to),.int .i64 ((fs.getD k FNIL).nu),.int .i64 ((fs.getD k FNIL).tag),.int .i64 ((fs.getD k FNIL).df),.int .i64 (((fs.getD k FNIL).of:Nat):Int),.slice pfy ((fs.getD k FNIL).sub.length) capfy],.rep (ddFd (fs.getD k FNIL)) [.int .i64 (((fs.getD k FNIL).kind:Nat):Int),.int .i64 ((fs.getD k FNIL).fr),.int .i64 ((fs.getD k FNIL).to),.int .i64 ((fs.getD k FNIL).nu),.int .i64 ((fs.getD k FNIL).tag),.int .i64 ((fs.getD k FNIL).df),.int .i64 (((fs.getD k FNIL).of:Nat):Int),.slice pfy ((fs.getD k FNIL).sub.length) capfy],.blk b2 [.int .i64 g.n,.slice psg g.s.length capsg,.bool g.z,.slice pg g.l.length capg,.slice pug g.u.length capug] 26,.blk b1 [.int .i64 t.n,.slice pst t.s.length capst,.bool t.z,.slice pt t.l.length capt,.slice put t.u.length caput] 26,.rep (.sl false 8 (fs.map ddFd)) [.slice p fs.length cap],.rep (ddT t) [.int .i64 t.n,.slice pst t.s.length capst,.bool t.z,.slice pt t.l.length capt,.slice put t.u.length caput],.rep (ddT g) [.int .i64 g.n,.slice psg g.s.length capsg,.bool g.z,.slice pg g.l.length capg,.slice pug g.u.length capug]] w) ?_ (fun a w hJ=>?_)
   ·refine c_reg ?_
    refine oF0 hk fo_51_4 rfl rfl fun a hk=>?_
    refine o_load hk ts_3 rfl (hm.cell_blk (i:=2) rfl rfl) rfl fun a hk=>?_
    refine o_icmp hk rfl rfl rfl rfl fun a hk=>?_
    rw [decide_eq_true htag] at hk
    refine oM0 hk rfl rfl fun a hk=>?_
    refine o_want (o':=_) hk ⟨_,_,_,rfl,rfl,rfl⟩ rfl ?_
    refine o_loadN (cs:=[.int .i64 (((fs.getD k FNIL).kind:Nat):Int),.int .i64 ((fs.getD k FNIL).fr),.int .i64 ((fs.getD k FNIL).to),.int .i64 ((fs.getD k FNIL).nu),.int .i64 ((fs.getD k FNIL).tag),.int .i64 ((fs.getD k FNIL).df),.int .i64 (((fs.getD k FNIL).of:Nat):Int),.slice pfy ((fs.getD k FNIL).sub.length) capfy]) hk ts_51 rfl (hm.cells_blk (i:=2) rfl rfl) rfl fun a hk=>?_
    refine o_want (o':=_) hk ⟨_,_,_,rfl,rfl,rfl⟩ rfl ?_
    refine oM0 hk rfl rfl fun a hk=>?_
    refine o_want (o':=_) hk ⟨_,_,_,rfl,rfl,rfl⟩ rfl ?_
    refine o_call hk cb_50 (has_c V (hm.rep (i:=6) rfl)) ⟨rfl,rfl,trivial⟩ rfl fun v w a hR hk=>?_
    obtain ⟨hp,rfl⟩:=hR
    have hm:=hm.pure hp
    refine o_pick hk rfl rfl rfl rfl rfl fun a hk=>?_
    refine oM0 hk rfl rfl fun a hk=>?_
    rcases Bool.eq_false_or_eq_true ((fs.getD k FNIL).has V) with hb5 | hb5
    ·rw [hb5] at hk
     refine oS0 hk ⟨_,_,_,_,rfl,rfl,rfl,nb_tf⟩ rfl rfl fun a hk=>?_
     refine oS0 hk ⟨_,_,_,_,rfl,rfl,rfl,nb_tf⟩ rfl rfl fun a hk=>?_
     refine oS0 hk ⟨_,_,_,_,rfl,rfl,rfl,nb_tf⟩ rfl rfl fun a hk=>?_
     refine oS0 hk ⟨_,_,_,_,rfl,rfl,rfl,nb_tf⟩ rfl rfl fun a hk=>?_
     refine oS0 hk ⟨_,_,_,_,rfl,rfl,rfl,(nb_u _)⟩ rfl rfl fun a hk=>?_
     refine oS0 hk ⟨_,_,_,_,rfl,rfl,rfl,nb_tf⟩ rfl rfl fun a hk=>?_
     refine oS0 hk ⟨_,_,_,_,rfl,rfl,rfl,nb_tf⟩ rfl rfl fun a hk=>?_
     refine oS0 hk ⟨_,_,_,_,rfl,rfl,rfl,(nb_u _)⟩ rfl rfl fun a hk=>?_
     refine oS0 hk ⟨_,_,_,_,rfl,rfl,rfl,(nb_u _)⟩ rfl rfl fun a hk=>?_
     refine oS0 hk ⟨_,_,_,_,rfl,rfl,rfl,(nb_u _)⟩ rfl rfl fun a hk=>?_
     refine oS0 hk ⟨_,_,_,_,rfl,rfl,rfl,(nb_u _)⟩ rfl rfl fun a hk=>?_
     refine oS0 hk ⟨_,_,_,_,rfl,rfl,rfl,nb_tf⟩ rfl rfl fun a hk=>?_
     refine o_pick hk rfl rfl rfl rfl rfl fun a hk=>?_
     refine c_endQ ?_
     refine cT0 ?_
     have e:(.bool (true):Value) = .bool ((fs.getD k FNIL).has V):=by first | (simp only [hb5,Bool.true_and,Bool.false_and,Bool.or_true,Bool.true_or,Bool.or_false,Bool.false_or,Bool.and_true,Bool.and_false]; done) | rfl | (exfalso; omega)
     rw [e] at hk; exact ⟨hk.sub ⟨rfl,rfl,rfl,rfl,rfl,rfl,rfl,rfl,rfl,rfl,rfl,rfl,trivial⟩,hm⟩
    ·rw [hb5] at hk
     refine o_want (o':=_) hk ⟨_,_,_,rfl,rfl,rfl⟩ rfl ?_
     refine oF0 hk fo_51_4 rfl rfl fun a hk=>?_
     refine o_want (o':=_) hk ⟨_,_,_,rfl,rfl,rfl⟩ rfl ?_
     refine o_load hk ts_3 rfl (hm.cell_blk (i:=2) rfl rfl) rfl fun a hk=>?_
     refine o_want (o':=_) hk ⟨_,_,_,rfl,rfl,rfl⟩ rfl ?_
     refine o_icmp hk rfl rfl rfl rfl fun a hk=>?_
     rw [show decide (((fs.getD k FNIL).tag:Int) ≥ 0) = false from decide_eq_false (by omega)] at hk
     refine o_want (o':=_) hk ⟨_,_,_,rfl,rfl,rfl⟩ rfl ?_
     refine oM0 hk rfl rfl fun a hk=>?_
     refine oS0 hk ⟨_,_,_,_,rfl,rfl,rfl,nb_ft⟩ rfl rfl fun a hk=>?_
     refine o_want (o':=_) hk ⟨_,_,_,rfl,rfl,rfl⟩ rfl ?_
     refine o_pick hk rfl rfl rfl rfl rfl fun a hk=>?_
     refine o_want (o':=_) hk ⟨_,_,_,rfl,rfl,rfl⟩ rfl ?_
     refine oM0 hk rfl rfl fun a hk=>?_
     refine oS0 hk ⟨_,_,_,_,rfl,rfl,rfl,nb_ft⟩ rfl rfl fun a hk=>?_
     refine oS0 hk ⟨_,_,_,_,rfl,rfl,rfl,nb_ft⟩ rfl rfl fun a hk=>?_
     refine oS0 hk ⟨_,_,_,_,rfl,rfl,rfl,nb_ft⟩ rfl rfl fun a hk=>?_
     refine oS0 hk ⟨_,_,_,_,rfl,rfl,rfl,nb_ft⟩ rfl rfl fun a hk=>?_
     refine o_want (o':=_) hk ⟨_,_,_,rfl,rfl,rfl⟩ rfl ?_
     refine o_pick hk rfl rfl rfl rfl rfl fun a hk=>?_
     refine o_pick hk rfl rfl rfl rfl rfl fun a hk=>?_
     refine c_endQ ?_
     refine cT0 ?_
     have e:(.bool (false):Value) = .bool ((fs.getD k FNIL).has V):=by first | (simp only [hb5,Bool.true_and,Bool.false_and,Bool.or_true,Bool.true_or,Bool.or_false,Bool.false_or,Bool.and_true,Bool.and_false]; done) | rfl | (exfalso; omega)
     rw [e] at hk; exact ⟨hk.sub ⟨rfl,rfl,rfl,rfl,rfl,rfl,rfl,rfl,rfl,rfl,rfl,rfl,trivial⟩,hm⟩
   obtain ⟨hk,hm⟩:=hJ
   refine c_cond hk rfl (fun hc=>?_) (fun hc=>?_)
   ·refine wp_seq ?_
    refine wp_seq ?_
    refine d_startM (K:=10) mixed hm fun w hm=>?_
    refine d_take (i:=0) rfl rfl rfl (by kernel_rfl) (fun _ _ _ h=>h) hk rfl (fun w hm=>r_loadN (cs:=[.int .i64 (((fs.getD k FNIL).kind:Nat):Int),.int .i64 ((fs.getD k FNIL).fr),.int .i64 ((fs.getD k FNIL).to),.int .i64 ((fs.getD k FNIL).nu),.int .i64 ((fs.getD k FNIL).tag),.int .i64 ((fs.getD k FNIL).df),.int .i64 (((fs.getD k FNIL).of:Nat):Int),.slice pfy ((fs.getD k FNIL).sub.length) capfy]) hk ts_51 rfl (hm.cells_blk (i:=2) rfl rfl)) hm fun a hk=>?_
    refine d_take (i:=1) rfl rfl rfl (by kernel_rfl) (fun _ _ _ h=>h) hk rfl (fun w hm=>r_move hk rfl) hm fun a hk=>?_
    refine d_take (i:=2) rfl rfl rfl (by kernel_rfl) (fun _ _ _ h=>h) hk rfl (fun w hm=>r_move hk rfl) hm fun a hk=>?_
    refine d_take (i:=3) rfl rfl rfl (by kernel_rfl) (fun _ _ _ h=>h) hk rfl (fun w hm=>r_loadN (cs:=[.int .i64 ((t.at_ k).n),.slice psa1 ((t.at_ k).s.length) capsa1,.bool ((t.at_ k).z),.slice pa1 ((t.at_ k).l.length) capa1,.slice pua1 ((t.at_ k).u.length) capua1]) hk ts_26 rfl (hm.cells_blk (i:=0) rfl rfl)) hm fun a hk=>?_
    refine d_take (i:=4) rfl rfl rfl (by kernel_rfl) (fun _ _ _ h=>h) hk rfl (fun w hm=>rF0 hk fo_26_3 rfl) hm fun a hk=>?_
    refine d_take (i:=5) rfl rfl rfl (by kernel_rfl) (fun _ _ _ h=>h) hk rfl (fun w hm=>r_load1 hk ts_23 rfl (hm.cell_blk (i:=7) rfl rfl)) hm fun a hk=>?_
    refine d_one (k:=6) (by kernel_rfl) rfl rfl ?_
    refine oM0 hk rfl rfl fun a hk=>?_
    refine c_endQ (cT0 ⟨fun _=>hm,?_⟩)
    refine d_one (k:=7) (by kernel_rfl) rfl rfl ?_
    refine oI0 (j:=k) (b:=blz) (off:=offz) hk te_23 ts_26 (by rw [← hplz]; rfl) rfl hltz rfl fun a hk=>?_
    refine c_endQ (cT0 ⟨fun _=>hm,?_⟩)
    refine d_one (k:=8) (by kernel_rfl) rfl rfl ?_
    refine o_loadN (cs:=[.int .i64 ((g.l.getD k T.nil).n),.slice psz ((g.l.getD k T.nil).s.length) capsz,.bool ((g.l.getD k T.nil).z),.slice pz ((g.l.getD k T.nil).l.length) capz,.slice puz ((g.l.getD k T.nil).u.length) capuz]) hk ts_26 rfl (hm.cells_cel (i:=3) (k:=0) rfl rfl) rfl fun a hk=>?_
    refine c_endQ (cT0 ⟨fun _=>hm,?_⟩)
    refine d_one (k:=9) (by kernel_rfl) rfl rfl ?_
    refine o_call hk cb_52 (hF (fs.getD k FNIL) (getD_mem hlt) V flex (hm.rep (i:=6) rfl) (hm.rep (i:=1) rfl) (hm.rep (i:=4) rfl) (sane_at hsn k) (sane_getD hgs.2.2.2 k) (small_getD hgm k)) ⟨rfl,rfl,rfl,rfl,rfl,trivial⟩ rfl fun v w a hR hk=>?_
    obtain ⟨hp,rfl⟩:=hR
    have hm:=hm.pure hp
    refine c_endQ (cT0 ⟨fun _=>hm,?_⟩)
    refine d_one (k:=10) (by kernel_rfl) rfl rfl ?_
    refine o_not hk rfl rfl fun a hk=>?_
    refine c_endQ (cT0 ⟨fun h=>Bool.noConfusion (show true = false from h),?_⟩)
    refine d_done (by kernel_rfl) ?_ _
    refine cT0 ?_
    refine c_cond hk rfl (fun hc=>?_) (fun hc=>?_)
    ·refine cR0 ?_
     refine oA0 hk rfl rfl fun a hk=>?_
     refine cE0 ?_
     refine wp_ret ?_
     refine cQ0 ?_
     refine cQ0 ?_
     refine c_inRet ?_
     refine c_roundRet ?_
     refine cQ0 ?_
     refine bT0 rfl hk rfl ?_
     exact ⟨hm.agr,congrArg Value.bool (toldP_loopF hlt (by first | exact (tpAt_has (by assumption)).trans ((Bool.not_eq_true' _).mp hc) | exact (tpAt_not (by assumption)).trans ((Bool.not_eq_true' _).mp hc)))⟩
    ·refine wp_skip ?_
     refine cT0 ?_
     refine wp_exit ?_
     refine c_thenExit ?_
     refine c_inSame ?_
     exact c_round (L':=[(0,.slice p fs.length cap),(1,.int .i64 V),(2,.bool flex),(8,.pointer (some ⟨b1,0,none⟩)),(9,.pointer (some ⟨b2,0,none⟩)),(23,.slice p fs.length cap)]) hk ⟨rfl,rfl,rfl,rfl,rfl,rfl,rfl,rfl,trivial⟩ rfl ⟨rfl,(range_all_succ hI0 (by first | exact (tpAt_has (by assumption)).trans ((Bool.not_eq_false' _).mp hc) | exact (tpAt_not (by assumption)).trans ((Bool.not_eq_false' _).mp hc))),hm.tail.tail.tail.tail.tail.tail.tail⟩
   ·refine wp_skip ?_
    refine cT0 ?_
    refine wp_seq ?_
    refine d_startM (K:=10) mixed hm fun w hm=>?_
    refine d_take (i:=0) rfl rfl rfl (by kernel_rfl) (fun _ _ _ h=>h) hk rfl (fun w hm=>r_loadN (cs:=[.int .i64 (((fs.getD k FNIL).kind:Nat):Int),.int .i64 ((fs.getD k FNIL).fr),.int .i64 ((fs.getD k FNIL).to),.int .i64 ((fs.getD k FNIL).nu),.int .i64 ((fs.getD k FNIL).tag),.int .i64 ((fs.getD k FNIL).df),.int .i64 (((fs.getD k FNIL).of:Nat):Int),.slice pfy ((fs.getD k FNIL).sub.length) capfy]) hk ts_51 rfl (hm.cells_blk (i:=2) rfl rfl)) hm fun a hk=>?_
    refine d_take (i:=2) rfl rfl rfl (by kernel_rfl) (fun _ _ _ h=>h) hk rfl (fun w hm=>rF0 hk fo_26_3 rfl) hm fun a hk=>?_
    refine d_take (i:=3) rfl rfl rfl (by kernel_rfl) (fun _ _ _ h=>h) hk rfl (fun w hm=>r_load1 hk ts_23 rfl (hm.cell_blk (i:=7) rfl rfl)) hm fun a hk=>?_
    refine d_take (i:=4) rfl rfl rfl (by kernel_rfl) (fun _ _ _ h=>h) hk rfl (fun w hm=>r_move hk rfl) hm fun a hk=>?_
    refine d_take (i:=5) rfl rfl rfl (by kernel_rfl) (fun _ _ _ h=>h) hk rfl (fun w hm=>r_indexAddr (j:=k) (b:=blz) (off:=offz) hk te_23 ts_26 (by rw [← hplz]; rfl) rfl hltz) hm fun a hk=>?_
    refine d_take (i:=6) rfl rfl rfl (by kernel_rfl) (fun _ _ _ h=>h) hk rfl (fun w hm=>r_loadN (cs:=[.int .i64 ((g.l.getD k T.nil).n),.slice psz ((g.l.getD k T.nil).s.length) capsz,.bool ((g.l.getD k T.nil).z),.slice pz ((g.l.getD k T.nil).l.length) capz,.slice puz ((g.l.getD k T.nil).u.length) capuz]) hk ts_26 rfl (hm.cells_cel (i:=3) (k:=0) rfl rfl)) hm fun a hk=>?_
    refine d_two (k:=1) (k2:=7) (by kernel_rfl) rfl rfl rfl rfl ?_ ?_
    ·refine o_buildSlice (r:=[.int .i64 (((fs.getD k FNIL).kind:Nat):Int),.int .i64 ((fs.getD k FNIL).fr),.int .i64 ((fs.getD k FNIL).to),.int .i64 ((fs.getD k FNIL).nu),.int .i64 ((fs.getD k FNIL).tag),.int .i64 ((fs.getD k FNIL).df),.int .i64 (((fs.getD k FNIL).of:Nat):Int),.slice pfy ((fs.getD k FNIL).sub.length) capfy]) hk hm rt_29 tz_51 rfl rfl rfl ⟨_,_,_,rfl,rfl,rfl,rfl,rfl⟩ rfl fun a b6 w hk hm=>?_
     refine c_endQ (cT0 ⟨fun _=>hm.tail,?_⟩)
     refine d_one (k:=7) (by kernel_rfl) rfl rfl ?_
     refine o_buildSlice (r:=[.int .i64 ((g.l.getD k T.nil).n),.slice psz ((g.l.getD k T.nil).s.length) capsz,.bool ((g.l.getD k T.nil).z),.slice pz ((g.l.getD k T.nil).l.length) capz,.slice puz ((g.l.getD k T.nil).u.length) capuz]) hk hm rt_23 tz_26 rfl rfl rfl ⟨_,_,_,rfl,rfl,rfl,rfl,rfl⟩ rfl fun a b7 w hk hm=>?_
     refine c_endQ (cT0 ⟨fun _=>hm.tail.tail,?_⟩)
     refine d_one (k:=8) (by kernel_rfl) rfl rfl ?_
     refine o_build (r:=[.int .i64 0,.slice none 0 0,.bool false,.slice (some ⟨b7,0,none⟩) 1 1,.slice none 0 0]) hk tz_26 rfl fok_26 ⟨_,_,_,rfl,rfl,fa_26_3,rfl,rfl⟩ rfl fun a hk=>?_
     refine c_endQ (cT0 ⟨fun _=>hm.tail.tail,?_⟩)
     refine d_one (k:=9) (by kernel_rfl) rfl rfl ?_
     have hm:=hm.freezeLit (i:=1) (n:=1) (sz:=8) (l:=[(fs.getD k FNIL)].map ddFd) rfl id rfl rfl (by decide) (show RepE _ _ 8 [ddFd (fs.getD k FNIL)] _ from RepE.consC (c1:=[.int .i64 (((fs.getD k FNIL).kind:Nat):Int),.int .i64 ((fs.getD k FNIL).fr),.int .i64 ((fs.getD k FNIL).to),.int .i64 ((fs.getD k FNIL).nu),.int .i64 ((fs.getD k FNIL).tag),.int .i64 ((fs.getD k FNIL).df),.int .i64 (((fs.getD k FNIL).of:Nat):Int),.slice pfy ((fs.getD k FNIL).sub.length) capfy]) rfl (hm.rep (i:=8) rfl) (RepE.nil _ _ _))
     have hm:=hm.freezeLit (i:=0) (n:=1) (sz:=5) (l:=[(g.l.getD k T.nil)].map ddT) rfl id rfl rfl (by decide) (show RepE _ _ 5 [ddT (g.l.getD k T.nil)] _ from RepE.consC (c1:=[.int .i64 ((g.l.getD k T.nil).n),.slice psz ((g.l.getD k T.nil).s.length) capsz,.bool ((g.l.getD k T.nil).z),.slice pz ((g.l.getD k T.nil).l.length) capz,.slice puz ((g.l.getD k T.nil).u.length) capuz]) rfl (hm.rep (i:=6) rfl) (RepE.nil _ _ _))
     refine o_call hk cb_53 (hU (fs.getD k FNIL) (getD_mem hlt) (t:=.mk 0 [] false [(g.l.getD k T.nil)] []) (hm.rep (i:=1) rfl) (rep_T_mk (t:=.mk 0 [] false [(g.l.getD k T.nil)] []) (by simp [Rep,ddBs,T.s]) (hm.rep (i:=0) rfl) (by simp [Rep,ddTags,T.u])) (sane_mk (by simp) (by simp) (by simp) (by simp) (by intro x hx; rw [List.mem_singleton.1 hx]; exact sane_getD hgs.2.2.2 k))) ⟨rfl,rfl,trivial⟩ rfl fun v w a hR hk=>?_
     obtain ⟨hp,rfl⟩:=hR
     have hm:=hm.pure hp
     rw [show ((T.mk 0 [] false [(g.l.getD k T.nil)] []).u.isEmpty && usuFs [(fs.getD k FNIL)] (T.mk 0 [] false [(g.l.getD k T.nil)] []).l 0) = usuF (fs.getD k FNIL) (g.l.getD k T.nil) from usu_single] at hk
     refine c_endQ (cT0 ⟨fun _=>hm.tail.tail,?_⟩)
     refine d_one (k:=10) (by kernel_rfl) rfl rfl ?_
     refine o_not hk rfl rfl fun a hk=>?_
     refine c_endQ (cT0 ⟨fun h=>Bool.noConfusion (show true = false from h),?_⟩)
     refine d_done (by kernel_rfl) ?_ _
     refine cT0 ?_
     refine c_cond hk rfl (fun hc=>?_) (fun hc=>?_)
     ·refine cR0 ?_
      refine oA0 hk rfl rfl fun a hk=>?_
      refine cE0 ?_
      refine wp_ret ?_
      refine c_inRet ?_
      refine c_roundRet ?_
      refine cQ0 ?_
      refine bT0 rfl hk rfl ?_
      exact ⟨hm.agr,congrArg Value.bool (toldP_loopF hlt (by first | exact (tpAt_has (by assumption)).trans ((Bool.not_eq_true' _).mp hc) | exact (tpAt_not (by assumption)).trans ((Bool.not_eq_true' _).mp hc)))⟩
     ·refine wp_skip ?_
      refine cN0 ?_
      exact c_round (L':=[(0,.slice p fs.length cap),(1,.int .i64 V),(2,.bool flex),(8,.pointer (some ⟨b1,0,none⟩)),(9,.pointer (some ⟨b2,0,none⟩)),(23,.slice p fs.length cap)]) hk ⟨rfl,rfl,rfl,rfl,rfl,rfl,rfl,rfl,trivial⟩ rfl ⟨rfl,(range_all_succ hI0 (by first | exact (tpAt_has (by assumption)).trans ((Bool.not_eq_false' _).mp hc) | exact (tpAt_not (by assumption)).trans ((Bool.not_eq_false' _).mp hc))),hm.tail.tail.tail.tail.tail.tail.tail.tail.tail⟩
    ·refine o_buildSlice (r:=[.int .i64 ((g.l.getD k T.nil).n),.slice psz ((g.l.getD k T.nil).s.length) capsz,.bool ((g.l.getD k T.nil).z),.slice pz ((g.l.getD k T.nil).l.length) capz,.slice puz ((g.l.getD k T.nil).u.length) capuz]) hk hm rt_23 tz_26 rfl rfl rfl ⟨_,_,_,rfl,rfl,rfl,rfl,rfl⟩ rfl fun a b8 w hk hm=>?_
     refine c_endQ (cT0 ⟨fun _=>hm.tail,?_⟩)
     refine d_two (k:=1) (k2:=8) (by kernel_rfl) rfl rfl rfl rfl ?_ ?_
     ·refine o_buildSlice (r:=[.int .i64 (((fs.getD k FNIL).kind:Nat):Int),.int .i64 ((fs.getD k FNIL).fr),.int .i64 ((fs.getD k FNIL).to),.int .i64 ((fs.getD k FNIL).nu),.int .i64 ((fs.getD k FNIL).tag),.int .i64 ((fs.getD k FNIL).df),.int .i64 (((fs.getD k FNIL).of:Nat):Int),.slice pfy ((fs.getD k FNIL).sub.length) capfy]) hk hm rt_29 tz_51 rfl rfl rfl ⟨_,_,_,rfl,rfl,rfl,rfl,rfl⟩ rfl fun a b9 w hk hm=>?_
      refine c_endQ (cT0 ⟨fun _=>hm.tail.tail,?_⟩)
      refine d_one (k:=8) (by kernel_rfl) rfl rfl ?_
      refine o_build (r:=[.int .i64 0,.slice none 0 0,.bool false,.slice (some ⟨b8,0,none⟩) 1 1,.slice none 0 0]) hk tz_26 rfl fok_26 ⟨_,_,_,rfl,rfl,fa_26_3,rfl,rfl⟩ rfl fun a hk=>?_
      refine c_endQ (cT0 ⟨fun _=>hm.tail.tail,?_⟩)
      refine d_one (k:=9) (by kernel_rfl) rfl rfl ?_
      have hm:=hm.freezeLit (i:=0) (n:=1) (sz:=8) (l:=[(fs.getD k FNIL)].map ddFd) rfl id rfl rfl (by decide) (show RepE _ _ 8 [ddFd (fs.getD k FNIL)] _ from RepE.consC (c1:=[.int .i64 (((fs.getD k FNIL).kind:Nat):Int),.int .i64 ((fs.getD k FNIL).fr),.int .i64 ((fs.getD k FNIL).to),.int .i64 ((fs.getD k FNIL).nu),.int .i64 ((fs.getD k FNIL).tag),.int .i64 ((fs.getD k FNIL).df),.int .i64 (((fs.getD k FNIL).of:Nat):Int),.slice pfy ((fs.getD k FNIL).sub.length) capfy]) rfl (hm.rep (i:=8) rfl) (RepE.nil _ _ _))
      have hm:=hm.freezeLit (i:=1) (n:=1) (sz:=5) (l:=[(g.l.getD k T.nil)].map ddT) rfl id rfl rfl (by decide) (show RepE _ _ 5 [ddT (g.l.getD k T.nil)] _ from RepE.consC (c1:=[.int .i64 ((g.l.getD k T.nil).n),.slice psz ((g.l.getD k T.nil).s.length) capsz,.bool ((g.l.getD k T.nil).z),.slice pz ((g.l.getD k T.nil).l.length) capz,.slice puz ((g.l.getD k T.nil).u.length) capuz]) rfl (hm.rep (i:=6) rfl) (RepE.nil _ _ _))
      refine o_call hk cb_53 (hU (fs.getD k FNIL) (getD_mem hlt) (t:=.mk 0 [] false [(g.l.getD k T.nil)] []) (hm.rep (i:=0) rfl) (rep_T_mk (t:=.mk 0 [] false [(g.l.getD k T.nil)] []) (by simp [Rep,ddBs,T.s]) (hm.rep (i:=1) rfl) (by simp [Rep,ddTags,T.u])) (sane_mk (by simp) (by simp) (by simp) (by simp) (by intro x hx; rw [List.mem_singleton.1 hx]; exact sane_getD hgs.2.2.2 k))) ⟨rfl,rfl,trivial⟩ rfl fun v w a hR hk=>?_
      obtain ⟨hp,rfl⟩:=hR
      have hm:=hm.pure hp
      rw [show ((T.mk 0 [] false [(g.l.getD k T.nil)] []).u.isEmpty && usuFs [(fs.getD k FNIL)] (T.mk 0 [] false [(g.l.getD k T.nil)] []).l 0) = usuF (fs.getD k FNIL) (g.l.getD k T.nil) from usu_single] at hk
      refine c_endQ (cT0 ⟨fun _=>hm.tail.tail,?_⟩)
      refine d_one (k:=10) (by kernel_rfl) rfl rfl ?_
      refine o_not hk rfl rfl fun a hk=>?_
      refine c_endQ (cT0 ⟨fun h=>Bool.noConfusion (show true = false from h),?_⟩)
      refine d_done (by kernel_rfl) ?_ _
      refine cT0 ?_
      refine c_cond hk rfl (fun hc=>?_) (fun hc=>?_)
      ·refine cR0 ?_
       refine oA0 hk rfl rfl fun a hk=>?_
       refine cE0 ?_
       refine wp_ret ?_
       refine c_inRet ?_
       refine c_roundRet ?_
       refine cQ0 ?_
       refine bT0 rfl hk rfl ?_
       exact ⟨hm.agr,congrArg Value.bool (toldP_loopF hlt (by first | exact (tpAt_has (by assumption)).trans ((Bool.not_eq_true' _).mp hc) | exact (tpAt_not (by assumption)).trans ((Bool.not_eq_true' _).mp hc)))⟩
      ·refine wp_skip ?_
       refine cN0 ?_
       exact c_round (L':=[(0,.slice p fs.length cap),(1,.int .i64 V),(2,.bool flex),(8,.pointer (some ⟨b1,0,none⟩)),(9,.pointer (some ⟨b2,0,none⟩)),(23,.slice p fs.length cap)]) hk ⟨rfl,rfl,rfl,rfl,rfl,rfl,rfl,rfl,trivial⟩ rfl ⟨rfl,(range_all_succ hI0 (by first | exact (tpAt_has (by assumption)).trans ((Bool.not_eq_false' _).mp hc) | exact (tpAt_not (by assumption)).trans ((Bool.not_eq_false' _).mp hc))),hm.tail.tail.tail.tail.tail.tail.tail.tail.tail⟩
     ·refine o_build (r:=[.int .i64 0,.slice none 0 0,.bool false,.slice (some ⟨b8,0,none⟩) 1 1,.slice none 0 0]) hk tz_26 rfl fok_26 ⟨_,_,_,rfl,rfl,fa_26_3,rfl,rfl⟩ rfl fun a hk=>?_
      refine c_endQ (cT0 ⟨fun _=>hm.tail,?_⟩)
      refine d_one (k:=1) (by kernel_rfl) rfl rfl ?_
      refine o_buildSlice (r:=[.int .i64 (((fs.getD k FNIL).kind:Nat):Int),.int .i64 ((fs.getD k FNIL).fr),.int .i64 ((fs.getD k FNIL).to),.int .i64 ((fs.getD k FNIL).nu),.int .i64 ((fs.getD k FNIL).tag),.int .i64 ((fs.getD k FNIL).df),.int .i64 (((fs.getD k FNIL).of:Nat):Int),.slice pfy ((fs.getD k FNIL).sub.length) capfy]) hk hm rt_29 tz_51 rfl rfl rfl ⟨_,_,_,rfl,rfl,rfl,rfl,rfl⟩ rfl fun a b10 w hk hm=>?_
      refine c_endQ (cT0 ⟨fun _=>hm.tail.tail,?_⟩)
      refine d_one (k:=9) (by kernel_rfl) rfl rfl ?_
      have hm:=hm.freezeLit (i:=0) (n:=1) (sz:=8) (l:=[(fs.getD k FNIL)].map ddFd) rfl id rfl rfl (by decide) (show RepE _ _ 8 [ddFd (fs.getD k FNIL)] _ from RepE.consC (c1:=[.int .i64 (((fs.getD k FNIL).kind:Nat):Int),.int .i64 ((fs.getD k FNIL).fr),.int .i64 ((fs.getD k FNIL).to),.int .i64 ((fs.getD k FNIL).nu),.int .i64 ((fs.getD k FNIL).tag),.int .i64 ((fs.getD k FNIL).df),.int .i64 (((fs.getD k FNIL).of:Nat):Int),.slice pfy ((fs.getD k FNIL).sub.length) capfy]) rfl (hm.rep (i:=8) rfl) (RepE.nil _ _ _))
      have hm:=hm.freezeLit (i:=1) (n:=1) (sz:=5) (l:=[(g.l.getD k T.nil)].map ddT) rfl id rfl rfl (by decide) (show RepE _ _ 5 [ddT (g.l.getD k T.nil)] _ from RepE.consC (c1:=[.int .i64 ((g.l.getD k T.nil).n),.slice psz ((g.l.getD k T.nil).s.length) capsz,.bool ((g.l.getD k T.nil).z),.slice pz ((g.l.getD k T.nil).l.length) capz,.slice puz ((g.l.getD k T.nil).u.length) capuz]) rfl (hm.rep (i:=6) rfl) (RepE.nil _ _ _))
      refine o_call hk cb_53 (hU (fs.getD k FNIL) (getD_mem hlt) (t:=.mk 0 [] false [(g.l.getD k T.nil)] []) (hm.rep (i:=0) rfl) (rep_T_mk (t:=.mk 0 [] false [(g.l.getD k T.nil)] []) (by simp [Rep,ddBs,T.s]) (hm.rep (i:=1) rfl) (by simp [Rep,ddTags,T.u])) (sane_mk (by simp) (by simp) (by simp) (by simp) (by intro x hx; rw [List.mem_singleton.1 hx]; exact sane_getD hgs.2.2.2 k))) ⟨rfl,rfl,trivial⟩ rfl fun v w a hR hk=>?_
      obtain ⟨hp,rfl⟩:=hR
      have hm:=hm.pure hp
      rw [show ((T.mk 0 [] false [(g.l.getD k T.nil)] []).u.isEmpty && usuFs [(fs.getD k FNIL)] (T.mk 0 [] false [(g.l.getD k T.nil)] []).l 0) = usuF (fs.getD k FNIL) (g.l.getD k T.nil) from usu_single] at hk
      refine c_endQ (cT0 ⟨fun _=>hm.tail.tail,?_⟩)
      refine d_one (k:=10) (by kernel_rfl) rfl rfl ?_
      refine o_not hk rfl rfl fun a hk=>?_
      refine c_endQ (cT0 ⟨fun h=>Bool.noConfusion (show true = false from h),?_⟩)
      refine d_done (by kernel_rfl) ?_ _
      refine cT0 ?_
      refine c_cond hk rfl (fun hc=>?_) (fun hc=>?_)
      ·refine cR0 ?_
       refine oA0 hk rfl rfl fun a hk=>?_
       refine cE0 ?_
       refine wp_ret ?_
       refine c_inRet ?_
       refine c_roundRet ?_
       refine cQ0 ?_
       refine bT0 rfl hk rfl ?_
       exact ⟨hm.agr,congrArg Value.bool (toldP_loopF hlt (by first | exact (tpAt_has (by assumption)).trans ((Bool.not_eq_true' _).mp hc) | exact (tpAt_not (by assumption)).trans ((Bool.not_eq_true' _).mp hc)))⟩
      ·refine wp_skip ?_
       refine cN0 ?_
       exact c_round (L':=[(0,.slice p fs.length cap),(1,.int .i64 V),(2,.bool flex),(8,.pointer (some ⟨b1,0,none⟩)),(9,.pointer (some ⟨b2,0,none⟩)),(23,.slice p fs.length cap)]) hk ⟨rfl,rfl,rfl,rfl,rfl,rfl,rfl,rfl,trivial⟩ rfl ⟨rfl,(range_all_succ hI0 (by first | exact (tpAt_has (by assumption)).trans ((Bool.not_eq_false' _).mp hc) | exact (tpAt_not (by assumption)).trans ((Bool.not_eq_false' _).mp hc))),hm.tail.tail.tail.tail.tail.tail.tail.tail.tail⟩
  ·obtain ⟨rfl,hI0,hm⟩:=hR
   have hall:=hI0
   refine cT0 ?_
   refine cR0 ?_
   refine oM0 hk rfl rfl fun a hk=>?_
   refine oF0 hk fo_26_4 rfl rfl fun a hk=>?_
   refine o_load hk ts_24 rfl (hm.cell_blk (i:=1) rfl rfl) rfl fun a hk=>?_
   refine o_call hk cb_54 (unknown_c (hm.rep (i:=2) rfl) (rep_T_u (hm.rep (i:=3) rfl)) (by omega) hok) ⟨rfl,rfl,trivial⟩ rfl fun v w a hR hk=>?_
   obtain ⟨hp,puu,cuu,rfl,hR⟩:=hR
   have hm:=hm.result hp hR
   refine oA0 hk rfl rfl fun a hk=>?_
   refine cE0 ?_
   refine wp_seq ?_
   refine cR0 ?_
   refine oM0 hk rfl rfl fun a hk=>?_
   refine o_not hk rfl rfl fun a hk=>?_
   refine cE0 ?_
   refine c_cond hk rfl (fun hc=>?_) (fun hc=>?_)
   ·have hL:tgL fs flex t = []:=by unfold tgL; rw [if_neg (by simpa using hc)]
    refine c_reg ?_
    refine oA0 hk rfl rfl fun a hk=>?_
    refine c_endQ ?_
    refine cT0 ?_
    refine wp_seq ?_
    refine cR0 ?_
    refine oF0 hk fo_26_4 rfl rfl fun a hk=>?_
    refine o_load hk ts_24 rfl (hm.cell_blk (i:=1) rfl rfl) rfl fun a hk=>?_
    refine oL0 hk te_24 rfl rfl fun a hk=>?_
    refine oM0 hk rfl rfl fun a hk=>?_
    refine oL0 hk te_24 rfl rfl fun a hk=>?_
    refine o_icmp hk rfl rfl rfl rfl fun a hk=>?_
    refine cE0 ?_
    refine c_cond hk rfl (fun hc=>?_) (fun hc=>?_)
    ·refine cR0 ?_
     refine oA0 hk rfl rfl fun a hk=>?_
     refine cE0 ?_
     refine wp_ret ?_
     refine cQ0 ?_
     refine bT0 rfl hk rfl ?_
     first | exact ⟨hm.agr,congrArg Value.bool (toldP_tlen (by rw [hL]; first | exact hc | simpa using hc))⟩ | exact ⟨hm.agr,congrArg Value.bool (toldP_len hc)⟩
    ·refine wp_skip ?_
     refine cT0 ?_
     refine wp_seq ?_
     refine cR0 ?_
     refine oM0 hk rfl rfl fun a hk=>?_
     refine oL0 hk te_24 rfl rfl fun a hk=>?_
     refine oM0 hk rfl rfl fun a hk=>?_
     refine cE0 ?_
     have hg0:(((g.u.length:Nat):Int) != (((tgL fs flex t).length:Nat):Int)) = false:=by rw [hL]; simpa using hc
     have hall2:(List.range (tgL fs flex t).length).all (tgAt (tgL fs flex t) g) = true:=by rw [hL]; rfl
     refine c_range (L0:=[]) (N:=0) (by omega) (fun _ L w=>L = [] ∧ Mem w0 Nob Y [.rep (ddTags (unknownP fs t.u)) [.slice puu ((unknownP fs t.u).length) cuu],.blk b2 [.int .i64 g.n,.slice psg g.s.length capsg,.bool g.z,.slice pg g.l.length capg,.slice pug g.u.length capug] 26,.blk b1 [.int .i64 t.n,.slice pst t.s.length capst,.bool t.z,.slice pt t.l.length capt,.slice put t.u.length caput] 26,.rep (.sl false 8 (fs.map ddFd)) [.slice p fs.length cap],.rep (ddT t) [.int .i64 t.n,.slice pst t.s.length capst,.bool t.z,.slice pt t.l.length capt,.slice put t.u.length caput],.rep (ddT g) [.int .i64 g.n,.slice psg g.s.length capsg,.bool g.z,.slice pg g.l.length capg,.slice pug g.u.length capug]] w) (hk.sub ⟨rfl,rfl,trivial⟩) ⟨rfl,hm⟩ rfl rfl rfl rfl rfl rfl rfl (fun k L a w hlt hR hk=>absurd hlt (by omega)) rfl (fun L a w hR hk=>?_)
     obtain ⟨rfl,hm⟩:=hR
     refine cT0 ?_
     refine cR0 ?_
     refine oA0 hk rfl rfl fun a hk=>?_
     refine cE0 ?_
     refine wp_ret ?_
     refine bT0 rfl hk rfl ?_
     exact ⟨hm.agr,congrArg Value.bool (toldP_T hl0 hall hg0 hall2)⟩
   ·have hL:tgL fs flex t = unknownP fs t.u:=by unfold tgL; rw [if_pos (by simpa using hc)]
    refine wp_skip ?_
    refine cT0 ?_
    refine wp_seq ?_
    refine cR0 ?_
    refine oF0 hk fo_26_4 rfl rfl fun a hk=>?_
    refine o_load hk ts_24 rfl (hm.cell_blk (i:=1) rfl rfl) rfl fun a hk=>?_
    refine oL0 hk te_24 rfl rfl fun a hk=>?_
    refine oM0 hk rfl rfl fun a hk=>?_
    refine oL0 hk te_24 rfl rfl fun a hk=>?_
    refine o_icmp hk rfl rfl rfl rfl fun a hk=>?_
    refine cE0 ?_
    refine c_cond hk rfl (fun hc=>?_) (fun hc=>?_)
    ·refine cR0 ?_
     refine oA0 hk rfl rfl fun a hk=>?_
     refine cE0 ?_
     refine wp_ret ?_
     refine cQ0 ?_
     refine bT0 rfl hk rfl ?_
     first | exact ⟨hm.agr,congrArg Value.bool (toldP_tlen (by rw [hL]; first | exact hc | simpa using hc))⟩ | exact ⟨hm.agr,congrArg Value.bool (toldP_len hc)⟩
    ·refine wp_skip ?_
     refine cT0 ?_
     refine wp_seq ?_
     refine cR0 ?_
     refine oM0 hk rfl rfl fun a hk=>?_
     refine oL0 hk te_24 rfl rfl fun a hk=>?_
     refine oM0 hk rfl rfl fun a hk=>?_
     refine cE0 ?_
     have hulen:g.u.length = (unknownP fs t.u).length:=by have:=bne_eq_false_iff_eq.1 hc; omega
     have hg0:(((g.u.length:Nat):Int) != (((tgL fs flex t).length:Nat):Int)) = false:=by rw [hL]; exact hc
     refine c_range (L0:=[(9,.pointer (some ⟨b2,0,none⟩)),(90,.slice puu ((unknownP fs t.u).length) cuu)]) (N:=(unknownP fs t.u).length) (by omega) (fun k L w=>L = [(9,.pointer (some ⟨b2,0,none⟩)),(90,.slice puu ((unknownP fs t.u).length) cuu)] ∧ (List.range k).all (tgAt (unknownP fs t.u) g) = true ∧ Mem w0 Nob Y [.rep (ddTags (unknownP fs t.u)) [.slice puu ((unknownP fs t.u).length) cuu],.blk b2 [.int .i64 g.n,.slice psg g.s.length capsg,.bool g.z,.slice pg g.l.length capg,.slice pug g.u.length capug] 26,.blk b1 [.int .i64 t.n,.slice pst t.s.length capst,.bool t.z,.slice pt t.l.length capt,.slice put t.u.length caput] 26,.rep (.sl false 8 (fs.map ddFd)) [.slice p fs.length cap],.rep (ddT t) [.int .i64 t.n,.slice pst t.s.length capst,.bool t.z,.slice pt t.l.length capt,.slice put t.u.length caput],.rep (ddT g) [.int .i64 g.n,.slice psg g.s.length capsg,.bool g.z,.slice pg g.l.length capg,.slice pug g.u.length capug]] w) (hk.sub ⟨rfl,rfl,rfl,rfl,trivial⟩) ⟨rfl,rfl,hm⟩ rfl rfl rfl rfl rfl rfl rfl (fun k L a w hlt hR hk=>?_) rfl (fun L a w hR hk=>?_)
     ·obtain ⟨rfl,hI0,hm⟩:=hR
      obtain ⟨hltq,blq,offq,eq,hplq,helq,hReq,hCeq⟩:=rep_sl_get (hm.rep (i:=0) rfl) (getD_map ddTag (unknownP fs t.u) k (0,[]) hlt)
      obtain ⟨ptq,captq,rfl,-⟩:=rep_Tag hReq
      have hm:=hm.add (e:=.rep (ddTag ((unknownP fs t.u).getD k (0,[]))) [.int .u32 ((((unknownP fs t.u).getD k (0,[])).1:Nat):Int),.slice ptq (((unknownP fs t.u).getD k (0,[])).2.length) captq]) rfl hReq
      have hm:=hm.add (e:=.cel blq (offq + k * 2) [.int .u32 ((((unknownP fs t.u).getD k (0,[])).1:Nat):Int),.slice ptq (((unknownP fs t.u).getD k (0,[])).2.length) captq]) rfl hCeq
      have hltu:k < g.u.length:=by omega
      obtain ⟨hltr,blr,offr,er,hplr,helr,hRer,hCer⟩:=rep_sl_get (rep_T_u (hm.rep (i:=7) rfl)) (getD_map ddTag g.u k (0,[]) hltu)
      obtain ⟨ptr,captr,rfl,-⟩:=rep_Tag hRer
      have hm:=hm.add (e:=.rep (ddTag (g.u.getD k (0,[]))) [.int .u32 (((g.u.getD k (0,[])).1:Nat):Int),.slice ptr ((g.u.getD k (0,[])).2.length) captr]) rfl hRer
      have hm:=hm.add (e:=.cel blr (offr + k * 2) [.int .u32 (((g.u.getD k (0,[])).1:Nat):Int),.slice ptr ((g.u.getD k (0,[])).2.length) captr]) rfl hCer
      refine cR0 ?_
      refine oM0 hk rfl rfl fun a hk=>?_
      refine oI0 (j:=k) (b:=blq) (off:=offq) hk te_24 ts_66 (by rw [← hplq]; rfl) rfl hltq rfl fun a hk=>?_
      refine o_loadN (cs:=[.int .u32 ((((unknownP fs t.u).getD k (0,[])).1:Nat):Int),.slice ptq (((unknownP fs t.u).getD k (0,[])).2.length) captq]) hk ts_66 rfl (hm.cells_cel (i:=2) (k:=0) rfl rfl) rfl fun a hk=>?_
      refine o_alloc hk hm tz_66 rfl rfl fun a b11 w hk hm=>?_
      refine oA0 hk rfl rfl fun a hk=>?_
      refine o_store (i:=0) hk hm ts_66 rfl rfl rfl rfl rfl rfl (Nat.le_of_ble_eq_true rfl) fun a w hk hm=>?_
      refine cE0 ?_
      refine wp_seq ?_
      refine d_startM (K:=21) mixed hm fun w hm=>?_
      refine d_take (i:=0) rfl rfl rfl (by kernel_rfl) (fun _ _ _ h=>h) hk rfl (fun w hm=>rF0 hk fo_26_4 rfl) hm fun a hk=>?_
      refine d_take (i:=1) rfl rfl rfl (by kernel_rfl) (fun _ _ _ h=>h) hk rfl (fun w hm=>r_load1 hk ts_24 rfl (hm.cell_blk (i:=6) rfl rfl)) hm fun a hk=>?_
      refine d_take (i:=2) rfl rfl rfl (by kernel_rfl) (fun _ _ _ h=>h) hk rfl (fun w hm=>r_move hk rfl) hm fun a hk=>?_
      refine d_take (i:=3) rfl rfl rfl (by kernel_rfl) (fun _ _ _ h=>h) hk rfl (fun w hm=>r_indexAddr (j:=k) (b:=blr) (off:=offr) hk te_24 ts_66 (by rw [← hplr]; rfl) rfl hltr) hm fun a hk=>?_
      refine d_take (i:=4) rfl rfl rfl (by kernel_rfl) (fun _ _ _ h=>h) hk rfl (fun w hm=>rF0 hk fo_66_0 rfl) hm fun a hk=>?_
      refine d_take (i:=5) rfl rfl rfl (by kernel_rfl) (fun _ _ _ h=>h) hk rfl (fun w hm=>r_load1 hk ts_64 rfl (hm.cell_cel (i:=1) (j:=0) rfl rfl)) hm fun a hk=>?_
      refine d_one (k:=6) (by kernel_rfl) rfl rfl ?_
      refine oF0 hk fo_66_0 rfl rfl fun a hk=>?_
      refine c_endQ (cT0 ⟨fun _=>hm,?_⟩)
      refine d_one (k:=7) (by kernel_rfl) rfl rfl ?_
      refine o_load hk ts_64 rfl (hm.cell_blk (i:=0) rfl rfl) rfl fun a hk=>?_
      refine c_endQ (cT0 ⟨fun _=>hm,?_⟩)
      refine d_one (k:=8) (by kernel_rfl) rfl rfl ?_
      refine o_icmp hk rfl rfl rfl rfl fun a hk=>?_
      refine c_endQ (cT0 ⟨fun _=>hm,?_⟩)
      refine d_one (k:=9) (by kernel_rfl) rfl rfl ?_
      refine oM0 hk rfl rfl fun a hk=>?_
      refine c_endQ (cT0 ⟨fun _=>hm,?_⟩)
      rcases Bool.eq_false_or_eq_true ((((((g.u.getD k (0,[])).1:Nat):Int):Int) != ((((unknownP fs t.u).getD k (0,[])).1:Nat):Int))) with hb12 | hb12
      ·rw [hb12] at hk
       refine d_takeN (i:=10) rfl ⟨_,_,_,_,rfl,rfl,rfl,nb_tf⟩ rfl (by kernel_rfl) (fun _ _ _ h=>h) hk rfl hm fun a hk=>?_
       refine d_takeN (i:=11) rfl ⟨_,_,_,_,rfl,rfl,rfl,nb_tf⟩ rfl (by kernel_rfl) (fun _ _ _ h=>h) hk rfl hm fun a hk=>?_
       refine d_takeN (i:=12) rfl ⟨_,_,_,_,rfl,rfl,rfl,nb_tf⟩ rfl (by kernel_rfl) (fun _ _ _ h=>h) hk rfl hm fun a hk=>?_
       refine d_takeN (i:=13) rfl ⟨_,_,_,_,rfl,rfl,rfl,nb_tf⟩ rfl (by kernel_rfl) (fun _ _ _ h=>h) hk rfl hm fun a hk=>?_
       refine d_takeN (i:=14) rfl ⟨_,_,_,_,rfl,rfl,rfl,nb_tf⟩ rfl (by kernel_rfl) (fun _ _ _ h=>h) hk rfl hm fun a hk=>?_
       refine d_takeN (i:=15) rfl ⟨_,_,_,_,rfl,rfl,rfl,nb_tf⟩ rfl (by kernel_rfl) (fun _ _ _ h=>h) hk rfl hm fun a hk=>?_
       refine d_oneN (k:=16) (by kernel_rfl) rfl hk ⟨_,_,_,_,rfl,rfl,rfl,nb_tf⟩ rfl rfl hm fun a hk=>?_
       refine d_oneN (k:=17) (by kernel_rfl) rfl hk ⟨_,_,_,_,rfl,rfl,rfl,nb_tf⟩ rfl rfl hm fun a hk=>?_
       refine d_oneN (k:=18) (by kernel_rfl) rfl hk ⟨_,_,_,_,rfl,rfl,rfl,nb_tf⟩ rfl rfl hm fun a hk=>?_
       refine d_oneN (k:=19) (by kernel_rfl) rfl hk ⟨_,_,_,_,rfl,rfl,rfl,nb_tf⟩ rfl rfl hm fun a hk=>?_
       refine d_oneN (k:=20) (by kernel_rfl) rfl hk ⟨_,_,_,_,rfl,rfl,rfl,nb_tf⟩ rfl rfl hm fun a hk=>?_
       refine d_one (k:=21) (by kernel_rfl) rfl rfl ?_
       refine o_pick hk rfl rfl rfl rfl rfl fun a hk=>?_
       refine c_endQ (cT0 ⟨fun h=>Bool.noConfusion (show true = false from h),?_⟩)
       refine d_done (by kernel_rfl) ?_ _
       refine cT0 ?_
       refine c_condT hk rfl ?_
       refine cR0 ?_
       refine oA0 hk rfl rfl fun a hk=>?_
       refine cE0 ?_
       refine wp_ret ?_
       refine c_inRet ?_
       refine c_roundRet ?_
       refine cQ0 ?_
       refine bT0 rfl hk rfl ?_
       exact ⟨hm.agr,congrArg Value.bool (toldP_tagF (k:=k) (by rw [hL]; exact hlt) (by rw [hL]; first | exact tgAt_bad1 (by assumption) | exact tgAt_bad2 (by assumption)))⟩
      ·rw [hb12] at hk
       refine d_takeW (i:=10) rfl ⟨_,_,_,rfl,rfl,rfl⟩ rfl (by kernel_rfl) (fun _ _ _ h=>h) hk rfl (fun w hm=>rF0 hk fo_26_4 rfl) hm fun a hk=>?_
       refine d_takeW (i:=11) rfl ⟨_,_,_,rfl,rfl,rfl⟩ rfl (by kernel_rfl) (fun _ _ _ h=>h) hk rfl (fun w hm=>r_load1 hk ts_24 rfl (hm.cell_blk (i:=6) rfl rfl)) hm fun a hk=>?_
       refine d_takeW (i:=12) rfl ⟨_,_,_,rfl,rfl,rfl⟩ rfl (by kernel_rfl) (fun _ _ _ h=>h) hk rfl (fun w hm=>r_move hk rfl) hm fun a hk=>?_
       refine d_takeW (i:=13) rfl ⟨_,_,_,rfl,rfl,rfl⟩ rfl (by kernel_rfl) (fun _ _ _ h=>h) hk rfl (fun w hm=>r_indexAddr (j:=k) (b:=blr) (off:=offr) hk te_24 ts_66 (by rw [← hplr]; rfl) rfl hltr) hm fun a hk=>?_
       refine d_takeW (i:=14) rfl ⟨_,_,_,rfl,rfl,rfl⟩ rfl (by kernel_rfl) (fun _ _ _ h=>h) hk rfl (fun w hm=>rF0 hk fo_66_1 rfl) hm fun a hk=>?_
       refine d_takeW (i:=15) rfl ⟨_,_,_,rfl,rfl,rfl⟩ rfl (by kernel_rfl) (fun _ _ _ h=>h) hk rfl (fun w hm=>r_load1 hk ts_22 rfl (hm.cell_cel (i:=1) (j:=1) rfl rfl)) hm fun a hk=>?_
       refine d_oneW (k:=16) (by kernel_rfl) rfl hk ⟨_,_,_,rfl,rfl,rfl⟩ rfl ?_
       refine oF0 hk fo_66_1 rfl rfl fun a hk=>?_
       refine c_endQ (cT0 ⟨fun _=>hm,?_⟩)
       refine d_oneW (k:=17) (by kernel_rfl) rfl hk ⟨_,_,_,rfl,rfl,rfl⟩ rfl ?_
       refine o_load hk ts_22 rfl (hm.cell_blk (i:=0) rfl rfl) rfl fun a hk=>?_
       refine c_endQ (cT0 ⟨fun _=>hm,?_⟩)
       refine d_oneW (k:=18) (by kernel_rfl) rfl hk ⟨_,_,_,rfl,rfl,rfl⟩ rfl ?_
       refine o_call hk cb_56 (whole_c (rep_Tag2 (hm.rep (i:=4) rfl))) ⟨rfl,trivial⟩ rfl fun v w a hR hk=>?_
       obtain ⟨hp,rfl,hR⟩:=hR
       have hm:=hm.result hp hR
       have hwl:=whole_len (((unknownP fs t.u).getD k (0,[])).2)
       refine c_endQ (cT0 ⟨fun _=>hm.tail,?_⟩)
       refine d_oneW (k:=19) (by kernel_rfl) rfl hk ⟨_,_,_,rfl,rfl,rfl⟩ rfl ?_
       refine o_call hk cb_55 (same_c (rep_Tag2 (hm.rep (i:=3) rfl)) (hm.rep (i:=0) rfl) (by have:=hus k; omega)) ⟨rfl,rfl,trivial⟩ rfl fun v w a hR hk=>?_
       obtain ⟨hp,rfl⟩:=hR
       have hm:=hm.pure hp
       refine c_endQ (cT0 ⟨fun _=>hm.tail,?_⟩)
       refine d_oneW (k:=20) (by kernel_rfl) rfl hk ⟨_,_,_,rfl,rfl,rfl⟩ rfl ?_
       refine o_not hk rfl rfl fun a hk=>?_
       refine c_endQ (cT0 ⟨fun _=>hm.tail,?_⟩)
       refine d_one (k:=21) (by kernel_rfl) rfl rfl ?_
       refine o_pick hk rfl rfl rfl rfl rfl fun a hk=>?_
       refine c_endQ (cT0 ⟨fun h=>Bool.noConfusion (show true = false from h),?_⟩)
       refine d_done (by kernel_rfl) ?_ _
       refine cT0 ?_
       refine c_cond hk rfl (fun hc=>?_) (fun hc=>?_)
       ·refine cR0 ?_
        refine oA0 hk rfl rfl fun a hk=>?_
        refine cE0 ?_
        refine wp_ret ?_
        refine c_inRet ?_
        refine c_roundRet ?_
        refine cQ0 ?_
        refine bT0 rfl hk rfl ?_
        exact ⟨hm.agr,congrArg Value.bool (toldP_tagF (k:=k) (by rw [hL]; exact hlt) (by rw [hL]; first | exact tgAt_bad1 (by assumption) | exact tgAt_bad2 (by assumption)))⟩
       ·refine wp_skip ?_
        refine cN0 ?_
        exact c_round (L':=[(9,.pointer (some ⟨b2,0,none⟩)),(90,.slice puu ((unknownP fs t.u).length) cuu)]) hk ⟨rfl,rfl,rfl,rfl,trivial⟩ rfl ⟨rfl,(range_all_succ hI0 (tgAt_ok (by assumption) (by assumption))),hm.tail.tail.tail.tail.tail.tail⟩
     ·obtain ⟨rfl,hI0,hm⟩:=hR
      have hall2:(List.range (tgL fs flex t).length).all (tgAt (tgL fs flex t) g) = true:=by rw [hL]; exact hI0
      refine cT0 ?_
      refine cR0 ?_
      refine oA0 hk rfl rfl fun a hk=>?_
      refine cE0 ?_
      refine wp_ret ?_
      refine bT0 rfl hk rfl ?_
      exact ⟨hm.agr,congrArg Value.bool (toldP_T hl0 hall hg0 hall2)⟩
theorem Told_of {fs:List Fld} (hF:∀ f ∈ fs,ToldFC f) (hU:∀ f ∈ fs,UsuC [f]) (hn:noTagFs fs = true) (hok:tagsOk fs = true) (hlen:fs.length ≤ 1000):ToldC fs :=
 fun V flex hFs hT hG hsn hgn hgm=>Told_walk hF hU hn hok hlen V flex hFs hT hG hsn hgn hgm
theorem usu_one {fs:List Fld} (h:tidyFs fs = true):∀ f ∈ fs,UsuC [f]:=fun f hf=>usu_c (fs:=[f]) (by simp only [tidyFs,Bool.and_true]; exact tidy_mem h f hf) (by simp)
theorem told_cF:∀ f:Fld,tidyF f = true → noTagF f = true → ToldFC f:=Fld_ind fun f ih h hn=>by
 have ht:=tidy_spec h
 have hns:=noTag_sub hn
 have hP:ToldC f.sub:=Told_of (fun g hg=>ih g hg (tidy_mem ht.2.2.2.2 g hg) (noTag_mem hns g hg)) (usu_one ht.2.2.2.2) hns (tidy_tags ht.2.2.2.2) ht.2.2.2.1
 have hone:f.kind = 11 → ToldFC (oneOf f):=fun _=>@told_walk (oneOf f) hP (fun h11=>by
  have h2:f.of = 11:=h11
  have:=ht.2.1
  omega) ht.2.1
 exact @told_walk f hP hone ht.2.1
theorem told_c {fs:List Fld} (h:tidyFs fs = true) (hn:noTagFs fs = true) (hl:fs.length ≤ 1000):ToldC fs:=Told_of (fun f hf=>told_cF f (tidy_mem h f hf) (noTag_mem hn f hf)) (usu_one h) hn (tidy_tags h) hl
end Go.Proofs.YtoopklfabccmnaaGreatDoor
