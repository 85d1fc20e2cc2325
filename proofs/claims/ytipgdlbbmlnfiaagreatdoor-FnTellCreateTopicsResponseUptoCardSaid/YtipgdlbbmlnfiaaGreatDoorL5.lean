/- Walks of programs, step by step: what holds of memory behind each; the reference in plain words. No statement of a seat stands here. -/
import Derived.Test.YtipgdlbbmlnfiaaGreatDoorL4
namespace Go.Mk
open Go
theorem aKt {ops:List Oper}{L:Array Bool}{k:Nat}{r:List Nat}(h:alones ops L (k::r)=true):Region.ready .any ops.toArray L=[k]:=by
 simp only[alones,Bool.and_eq_true,decide_eq_true_eq] at h
 exact h.1
theorem aKB {ops:List Oper}{L:Array Bool}{k:Nat}{r:List Nat}(h:alones ops L (k::r)=true):alones ops (L.setIfInBounds k true) r=true:=by
 simp only[alones,Bool.and_eq_true] at h
 exact h.2
section
variable {P:Program}{Q:Exit→Act→World→Prop}{a:Act}{w0 w:World}{Y:Nat→Prop}{tb bb τ tL m k n s id fi o b off tS tX sX iv j by_:Nat}{ts tsl:List T}{z:Bool}{pr:Value}{ops:List Oper}{kI:Int}
variable {ty0 ty1 ty2 ty3 ty4 ty5 ty6 ty7 ty8 ty9 ty10 ty11 ty12 ty13 ty14 ty15 ty16 ty17 ty18 ty19 ty20 ty21 ty22 ty23:Nat}{ps0 ps1 ps2 ps3 ps4 ps5 ps6 ps7 ps8 ps9 ps10 ps11 ps12 ps13 ps14 ps15 ps16 ps17 ps18 ps19 ps20 ps21 ps22 ps23:String}{af0 af1 af2 af3 af4 af5 af6 af7 af8 af9 af10 af11 af12 af13 af14 af15 af16 af17 af18 af19 af20 af21 af22 af23:Array Edge}
theorem aEJ {b2 o2 cap id9 eX eS:Nat}{be:Bool}{F:Nat}{tys:Array Nat}{p:Nat}(hps:p=s+10)
  (ho:ops=[⟨some p,.fieldAddr τ (.tmp 3) 3,ty0,ps0,af0,none⟩,
   ⟨some (p+1),.load tL (.tmp p),ty1,ps1,af1,none⟩,
   ⟨some (p+2),.indexAddr tL (.tmp (p+1)) (.const (.int .i64 kI)),ty2,ps2,af2,none⟩,
   ⟨some (p+3),.fieldAddr τ (.tmp (p+2)) 3,ty3,ps3,af3,none⟩,
   ⟨some (p+4),.load tL (.tmp (p+3)),ty4,ps4,af4,none⟩,
   ⟨some (p+5),.move (.tmp 0),ty5,ps5,af5,none⟩,
   ⟨some (p+6),.nilCheck (.tmp (p+5)),ty6,ps6,af6,none⟩,
   ⟨some (p+7),.fieldAddr tS (.tmp (p+6)) fi,ty7,ps7,af7,none⟩,
   ⟨some (p+8),.load tX (.tmp (p+7)),ty8,ps8,af8,none⟩,
   ⟨some (p+9),.move (.tmp iv),ty9,ps9,af9,none⟩,
   ⟨some (p+10),.indexAddr tX (.tmp (p+8)) (.tmp (p+9)),ty10,ps10,af10,none⟩,
   ⟨some (p+11),.call ⟨.value (.func F),[.tmp (p+10)].toArray,tys⟩,ty11,ps11,af11,none⟩,
   ⟨some (p+12),.call ⟨.builtin .len,#[.tmp (p+4)],#[tL]⟩,ty12,ps12,af12,none⟩,
   ⟨some (p+13),.buildSlice tL 1 #[(0,(.const (.agg #[.int .i64 0,.slice none 0 0,.bool false,.slice none 0 0,.slice none 0 0])))],ty13,ps13,af13,none⟩,
   ⟨some (p+14),.call ⟨.builtin .append,#[.tmp (p+4),.tmp (p+13)],#[tL,tL]⟩,ty14,ps14,af14,none⟩,
   ⟨some (p+15),.indexAddr tL (.tmp (p+1)) (.const (.int .i64 kI)),ty15,ps15,af15,none⟩,
   ⟨some (p+16),.fieldAddr τ (.tmp (p+15)) 3,ty16,ps16,af16,none⟩,
   ⟨none,.store tL (.tmp (p+16)) (.tmp (p+14)),ty17,ps17,af17,none⟩])
  (h1:takes ops 14 (Array.replicate ops.length false) [0,1,2,3,4,5,6,7,8,9,10,12]=true) (h2:decide (Region.ready .any ops.toArray (aGs (Array.replicate ops.length false) [0,1,2,3,4,5,6,7,8,9,10,12])=[11,13])=true) (h3:alones ops ((aGs (Array.replicate ops.length false) [0,1,2,3,4,5,6,7,8,9,10,12]).setIfInBounds 11 true) [13,14,15,16,17]=true) (h4:alones ops ((aGs (Array.replicate ops.length false) [0,1,2,3,4,5,6,7,8,9,10,12]).setIfInBounds 13 true) [11,14,15,16,17]=true)
  (hp:TreeP P τ tL) (hrt:aGN P tL=some (τ,5,by_)) (hby:by_≤1000) (hkI:kI=((k:Nat):Int)) (hs : 3<s) (hiv : 3<iv∧iv<s) (hn:p+18+1≤n) (hkm:k<m) (hj:j<tsl.length) (hN:tsl.length≤32767)
  (hf:aAC P tS fi=some o) (hX:aCm P tX=some (false,sX)) (hE:aBA P tX=some eX) (hES:aCm P eX=some (be,eS)) (hcb:cb0 P F=true) (hF:∀ {w:World} {m:List Ent},Mem w0 Nob Y m w→Ret P F [.pointer (some ⟨b2,o2+j*eS,none⟩)] w fun v w'=>Agr Nob w w'∧∃ c',v=.agg c'.toArray∧Rep w' (fun b=>b<w.heap.size∧Yof w0 Y m b) (ddT (tsl.getD j T.nil)) c')
  (hQ:∀ c a d v w,Q (.panic c) (Act.put a (some d) v) w→Q (.panic c) a w) (hC:Cel w0 Y b (off+o) [.slice (some ⟨b2,o2,none⟩) tsl.length cap]) (hk:Kn n (kb iv s j tsl.length b off tb pr) a) (ht:TBl w0 Y tb bb τ m k ts z tsl j w)
  (K:∀ a' w',Kn n (kb iv s j tsl.length b off tb pr) a'→TBl w0 Y tb bb τ m k ts z tsl (j+1) w'→Q .normal a' w') :
  (Code.seq (.region id ops.toArray true) (.region id9 [⟨some (p+17),.indexAddr tL (.tmp (p+14)) (.tmp (p+12)),ty20,ps20,af20,none⟩,⟨none,.store τ (.tmp (p+17)) (.tmp (p+11)),ty21,ps21,af21,none⟩].toArray false)).wp P Q a w:=by
 subst ho
 obtain⟨vr,rs,xs,hm,hxl,hrl⟩:=ht
 obtain⟨pv,cv,rfl⟩:=aDx (hm.row (i:=1) rfl)
 simp only[takes,Bool.and_eq_true] at h1
 obtain⟨t0,t1,t2,t3,t4,t5,t6,t7,t8,t9,t10,t12,_⟩:=h1
 refine wp_seq ?_
 refine aAW (K:=14) hp.mixed hm fun w hm=>?_
 have hkI2:∀ l,ev l (.const (.int .i64 kI))=some (.int .i64 ((k:Nat):Int)):=fun l=>by rw[hkI];rfl
 refine aAh (i:=0) rfl rfl rfl t0 (fun c a w h=>hQ c a _ _ w h) hk (aAH (by omega)) (fun w hm=>rF0 (b:=tb) (off:=0) hk hp.fL (by simp (disch:=omega) only[kb,bl,ev,lkS,lkN])) hm fun a hk=>?_
 refine aAh (i:=1) rfl rfl rfl t1 (fun c a w h=>hQ c a _ _ w h) hk (aAH (by omega)) (fun w hm=>aAL (p:=⟨tb,0+3,none⟩) hk hp.sL (by simp (disch:=omega) only[kb,bl,ev,lkS]) (hm.cell_blk (i:=3) rfl rfl)) hm fun a hk=>?_
 refine aAh (i:=2) rfl rfl rfl t2 (fun c a w h=>hQ c a _ _ w h) hk (aAH (by omega)) (fun w hm=>aA4 (j:=k) (b:=bb) (off:=0) (k:=m) (c:=m) (kk:=.i64) hk hp.eL hp.sT (by simp (disch:=omega) only[kb,bl,ev,lkS]) (hkI2 _) hkm) hm fun a hk=>?_
 refine aAh (i:=3) rfl rfl rfl t3 (fun c a w h=>hQ c a _ _ w h) hk (aAH (by omega)) (fun w hm=>rF0 (b:=bb) (off:=0+k*5) hk hp.fL (by simp (disch:=omega) only[kb,bl,ev,lkS])) hm fun a hk=>?_
 refine aAh (i:=4) rfl rfl rfl t4 (fun c a w h=>hQ c a _ _ w h) hk (aAH (by omega)) (fun w hm=>aAL (p:=⟨bb,0+k*5+3,none⟩) hk hp.sL (by simp (disch:=omega) only[kb,bl,ev,lkS]) (hm.cell_blk (i:=4) rfl (aRj hxl))) hm fun a hk=>?_
 refine aAh (i:=5) rfl rfl rfl t5 (fun c a w h=>hQ c a _ _ w h) hk (aAH (by omega)) (fun w hm=>aA6 (v:=.pointer (some ⟨b,off,none⟩)) hk (by simp (disch:=omega) only[kb,bl,ev,lkS,lkN])) hm fun a hk=>?_
 refine aAh (i:=6) rfl rfl rfl t6 (fun c a w h=>hQ c a _ _ w h) hk (aAH (by omega)) (fun w hm=>aFT (p:=⟨b,off,none⟩) hk (by simp (disch:=omega) only[kb,bl,ev,lkS])) hm fun a hk=>?_
 refine aAh (i:=7) rfl rfl rfl t7 (fun c a w h=>hQ c a _ _ w h) hk (aAH (by omega)) (fun w hm=>rF0 (b:=b) (off:=off) hk hf (by simp (disch:=omega) only[kb,bl,ev,lkS])) hm fun a hk=>?_
 refine aAh (i:=8) rfl rfl rfl t8 (fun c a w h=>hQ c a _ _ w h) hk (aAH (by omega)) (fun w hm=>aAL (p:=⟨b,off+o,none⟩) hk hX (by simp (disch:=omega) only[kb,bl,ev,lkS]) (aDe hm hC).one) hm fun a hk=>?_
 refine aAh (i:=9) rfl rfl rfl t9 (fun c a w h=>hQ c a _ _ w h) hk (aAH (by omega)) (fun w hm=>aA6 (v:=.int .i64 (j:Int)) hk (by simp (disch:=omega) only[kb,bl,ev,lkS,lkN])) hm fun a hk=>?_
 refine aAh (i:=10) rfl rfl rfl t10 (fun c a w h=>hQ c a _ _ w h) hk (aAH (by omega)) (fun w hm=>aA4 (j:=j) (b:=b2) (off:=o2) (k:=tsl.length) (c:=cap) (kk:=.i64) hk hE hES (by simp (disch:=omega) only[kb,bl,ev,lkS,lkN]) (by simp (disch:=omega) only[kb,bl,ev,lkS]) hj) hm fun a hk=>?_
 refine aAh (i:=12) rfl rfl rfl t12 (fun c a w h=>hQ c a _ _ w h) hk (aAH (by omega)) (fun w hm=>aN5 (p:=pv) (k:=j) (c:=cv) hk hp.eL (by simp (disch:=omega) only[kb,bl,ev,lkS,lkN])) hm fun a hk=>?_
 have h6:=of_decide_eq_true h2
 have r3:=aKt h3
 have r4:=aKt h4
 refine aWp (k:=11) (k2:=13) h6 rfl rfl rfl rfl ?_ ?_
 ·refine aAk (vs:=[.pointer (some ⟨b2,o2+j*eS,none⟩)]) hk hcb (hF hm) ⟨(by simp (disch:=omega) only[kb,bl,ev,lkS,lkN]),trivial⟩ (aAH (by omega)) fun v w a hR hk=>?_
  obtain⟨hg,c',rfl,hR⟩:=hR
  have hm:=hm.result hg hR
  refine aAb (cT0 ⟨fun _=>hm.tail,?_⟩)
  refine aAt (k:=13) r3 rfl rfl ?_
  refine aLg (v:=.agg #[.int .i64 0,.slice none 0 0,.bool false,.slice none 0 0,.slice none 0 0]) (c:=zT) hk hm hrt rfl rfl rfl rfl rfl (aAH (by omega)) fun a b1 w hk hm=>?_
  refine aAb (cT0 ⟨fun _=>hm.tail.tail,?_⟩)
  refine aU8 (e:=1) (p:=p) (ia:=14) (ii:=15) (iF:=16) (is:=17) (c':=c') hp hrt hby (aKB h3) rfl rfl rfl rfl hkI hs hiv hps (by omega) hn hkm hj hN (by simp[aDI]) hxl hrl (hk.sub (by simp (disch:=omega) only[bl,kb,looks,lkS,lkN,and_self])) hm K
 ·refine aLg (v:=.agg #[.int .i64 0,.slice none 0 0,.bool false,.slice none 0 0,.slice none 0 0]) (c:=zT) hk hm hrt rfl rfl rfl rfl rfl (aAH (by omega)) fun a b1 w hk hm=>?_
  refine aAb (cT0 ⟨fun _=>hm.tail,?_⟩)
  refine aAt (k:=11) r4 rfl rfl ?_
  refine aAk (vs:=[.pointer (some ⟨b2,o2+j*eS,none⟩)]) hk hcb (hF hm) ⟨(by simp (disch:=omega) only[kb,bl,ev,lkS,lkN]),trivial⟩ (aAH (by omega)) fun v w a hR hk=>?_
  obtain⟨hg,c',rfl,hR⟩:=hR
  have hm:=hm.result hg hR
  refine aAb (cT0 ⟨fun _=>hm.tail.tail,?_⟩)
  have hm:=hm.pick [1,0,2,3,4,5,6] rfl rfl
  refine aU8 (e:=1) (p:=p) (ia:=14) (ii:=15) (iF:=16) (is:=17) (c':=c') hp hrt hby (aKB h4) rfl rfl rfl rfl hkI hs hiv hps (by omega) hn hkm hj hN (by simp[aDI]) hxl hrl (hk.sub (by simp (disch:=omega) only[bl,kb,looks,lkS,lkN,and_self])) hm K
theorem aEE {b2 o2 cap eX eS:Nat}{be:Bool}{F:Nat}{tys:Array Nat}{p:Nat}(hps:s+10≤p)
  (ho:ops=[⟨some p,.fieldAddr τ (.tmp 3) 3,ty0,ps0,af0,none⟩,
   ⟨some (p+1),.load tL (.tmp p),ty1,ps1,af1,none⟩,
   ⟨some (p+2),.fieldAddr τ (.tmp 3) 3,ty2,ps2,af2,none⟩,
   ⟨some (p+3),.load tL (.tmp (p+2)),ty3,ps3,af3,none⟩,
   ⟨some (p+4),.indexAddr tL (.tmp (p+3)) (.const (.int .i64 kI)),ty4,ps4,af4,none⟩,
   ⟨some (p+5),.fieldAddr τ (.tmp (p+4)) 3,ty5,ps5,af5,none⟩,
   ⟨some (p+6),.load tL (.tmp (p+5)),ty6,ps6,af6,none⟩,
   ⟨some (p+7),.move (.tmp 0),ty7,ps7,af7,none⟩,
   ⟨some (p+8),.nilCheck (.tmp (p+7)),ty8,ps8,af8,none⟩,
   ⟨some (p+9),.fieldAddr tS (.tmp (p+8)) fi,ty9,ps9,af9,none⟩,
   ⟨some (p+10),.load tX (.tmp (p+9)),ty10,ps10,af10,none⟩,
   ⟨some (p+11),.move (.tmp iv),ty11,ps11,af11,none⟩,
   ⟨some (p+12),.indexAddr tX (.tmp (p+10)) (.tmp (p+11)),ty12,ps12,af12,none⟩,
   ⟨some (p+13),.call ⟨.value (.func F),[.tmp (p+12)].toArray,tys⟩,ty13,ps13,af13,none⟩,
   ⟨some (p+14),.buildSlice tL 1 #[(0,.tmp (p+13))],ty14,ps14,af14,none⟩,
   ⟨some (p+15),.call ⟨.builtin .append,#[.tmp (p+6),.tmp (p+14)],#[tL,tL]⟩,ty15,ps15,af15,none⟩,
   ⟨some (p+16),.indexAddr tL (.tmp (p+1)) (.const (.int .i64 kI)),ty16,ps16,af16,none⟩,
   ⟨some (p+17),.fieldAddr τ (.tmp (p+16)) 3,ty17,ps17,af17,none⟩,
   ⟨none,.store tL (.tmp (p+17)) (.tmp (p+15)),ty18,ps18,af18,none⟩])
  (h1:takes ops 18 (Array.replicate ops.length false) [0,1,2,3,4,5,6,7,8,9,10,11,12]=true) (h2:alones ops (aGs (Array.replicate ops.length false) [0,1,2,3,4,5,6,7,8,9,10,11,12]) [13,14,15,16,17,18]=true)
  (hp:TreeP P τ tL) (hrt:aGN P tL=some (τ,5,by_)) (hby:by_≤1000) (hkI:kI=((k:Nat):Int)) (hs : 3<s) (hiv : 3<iv∧iv<s) (hn:p+18+1≤n) (hkm:k<m) (hj:j<tsl.length) (hN:tsl.length≤32767)
  (hf:aAC P tS fi=some o) (hX:aCm P tX=some (false,sX)) (hE:aBA P tX=some eX) (hES:aCm P eX=some (be,eS)) (hcb:cb0 P F=true) (hF:∀ {w:World} {m:List Ent},Mem w0 Nob Y m w→Ret P F [.pointer (some ⟨b2,o2+j*eS,none⟩)] w fun v w'=>Agr Nob w w'∧∃ c',v=.agg c'.toArray∧Rep w' (fun b=>b<w.heap.size∧Yof w0 Y m b) (ddT (tsl.getD j T.nil)) c')
  (hQ:∀ c a d v w,Q (.panic c) (Act.put a (some d) v) w→Q (.panic c) a w) (hC:Cel w0 Y b (off+o) [.slice (some ⟨b2,o2,none⟩) tsl.length cap]) (hk:Kn n (kb iv s j tsl.length b off tb pr) a) (ht:TBl w0 Y tb bb τ m k ts z tsl j w)
  (K:∀ a' w',Kn n (kb iv s j tsl.length b off tb pr) a'→TBl w0 Y tb bb τ m k ts z tsl (j+1) w'→Q .normal a' w') :
  (Code.region id ops.toArray true).wp P Q a w:=by
 subst ho
 obtain⟨vr,rs,xs,hm,hxl,hrl⟩:=ht
 obtain⟨pv,cv,rfl⟩:=aDx (hm.row (i:=1) rfl)
 simp only[takes,Bool.and_eq_true] at h1
 obtain⟨t0,t1,t2,t3,t4,t5,t6,t7,t8,t9,t10,t11,t12,_⟩:=h1
 have hkI2:∀ l,ev l (.const (.int .i64 kI))=some (.int .i64 ((k:Nat):Int)):=fun l=>by rw[hkI];rfl
 refine aLF (M:=Mem w0 Nob Y (TBm tb bb τ m ts xs (aK9 z (.slice pv j cv)++zTs (m - (k+1))))) (K:=18) hp.mixed ?_
 have hm:=hm.pure (Agr.drew Nob w)
 generalize w.drew=w at hm ⊢
 refine aAh (i:=0) rfl rfl rfl t0 (fun c a w h=>hQ c a _ _ w h) hk (aAH (by omega)) (fun w hm=>rF0 (b:=tb) (off:=0) hk hp.fL (by simp (disch:=omega) only[kb,bl,ev,lkS,lkN])) hm.tail.tail fun a hk=>?_
 refine aAh (i:=1) rfl rfl rfl t1 (fun c a w h=>hQ c a _ _ w h) hk (aAH (by omega)) (fun w hm=>aAL (p:=⟨tb,0+3,none⟩) hk hp.sL (by simp (disch:=omega) only[kb,bl,ev,lkS]) (hm.cell_blk (i:=1) rfl rfl)) hm.tail.tail fun a hk=>?_
 refine aAh (i:=2) rfl rfl rfl t2 (fun c a w h=>hQ c a _ _ w h) hk (aAH (by omega)) (fun w hm=>rF0 (b:=tb) (off:=0) hk hp.fL (by simp (disch:=omega) only[kb,bl,ev,lkS,lkN])) hm.tail.tail fun a hk=>?_
 refine aAh (i:=3) rfl rfl rfl t3 (fun c a w h=>hQ c a _ _ w h) hk (aAH (by omega)) (fun w hm=>aAL (p:=⟨tb,0+3,none⟩) hk hp.sL (by simp (disch:=omega) only[kb,bl,ev,lkS]) (hm.cell_blk (i:=1) rfl rfl)) hm.tail.tail fun a hk=>?_
 refine aAh (i:=4) rfl rfl rfl t4 (fun c a w h=>hQ c a _ _ w h) hk (aAH (by omega)) (fun w hm=>aA4 (j:=k) (b:=bb) (off:=0) (k:=m) (c:=m) (kk:=.i64) hk hp.eL hp.sT (by simp (disch:=omega) only[kb,bl,ev,lkS]) (hkI2 _) hkm) hm.tail.tail fun a hk=>?_
 refine aAh (i:=5) rfl rfl rfl t5 (fun c a w h=>hQ c a _ _ w h) hk (aAH (by omega)) (fun w hm=>rF0 (b:=bb) (off:=0+k*5) hk hp.fL (by simp (disch:=omega) only[kb,bl,ev,lkS])) hm.tail.tail fun a hk=>?_
 refine aAh (i:=6) rfl rfl rfl t6 (fun c a w h=>hQ c a _ _ w h) hk (aAH (by omega)) (fun w hm=>aAL (p:=⟨bb,0+k*5+3,none⟩) hk hp.sL (by simp (disch:=omega) only[kb,bl,ev,lkS]) (hm.cell_blk (i:=2) rfl (aRj hxl))) hm.tail.tail fun a hk=>?_
 refine aAh (i:=7) rfl rfl rfl t7 (fun c a w h=>hQ c a _ _ w h) hk (aAH (by omega)) (fun w hm=>aA6 (v:=.pointer (some ⟨b,off,none⟩)) hk (by simp (disch:=omega) only[kb,bl,ev,lkS,lkN])) hm.tail.tail fun a hk=>?_
 refine aAh (i:=8) rfl rfl rfl t8 (fun c a w h=>hQ c a _ _ w h) hk (aAH (by omega)) (fun w hm=>aFT (p:=⟨b,off,none⟩) hk (by simp (disch:=omega) only[kb,bl,ev,lkS])) hm.tail.tail fun a hk=>?_
 refine aAh (i:=9) rfl rfl rfl t9 (fun c a w h=>hQ c a _ _ w h) hk (aAH (by omega)) (fun w hm=>rF0 (b:=b) (off:=off) hk hf (by simp (disch:=omega) only[kb,bl,ev,lkS])) hm.tail.tail fun a hk=>?_
 refine aAh (i:=10) rfl rfl rfl t10 (fun c a w h=>hQ c a _ _ w h) hk (aAH (by omega)) (fun w hm=>aAL (p:=⟨b,off+o,none⟩) hk hX (by simp (disch:=omega) only[kb,bl,ev,lkS]) (aDe hm hC).one) hm.tail.tail fun a hk=>?_
 refine aAh (i:=11) rfl rfl rfl t11 (fun c a w h=>hQ c a _ _ w h) hk (aAH (by omega)) (fun w hm=>aA6 (v:=.int .i64 (j:Int)) hk (by simp (disch:=omega) only[kb,bl,ev,lkS,lkN])) hm.tail.tail fun a hk=>?_
 refine aAh (i:=12) rfl rfl rfl t12 (fun c a w h=>hQ c a _ _ w h) hk (aAH (by omega)) (fun w hm=>aA4 (j:=j) (b:=b2) (off:=o2) (k:=tsl.length) (c:=cap) (kk:=.i64) hk hE hES (by simp (disch:=omega) only[kb,bl,ev,lkS,lkN]) (by simp (disch:=omega) only[kb,bl,ev,lkS]) hj) hm.tail.tail fun a hk=>?_
 have r0:=aKt h2
 refine aAt (k:=13) r0 rfl rfl ?_
 refine aAk (vs:=[.pointer (some ⟨b2,o2+j*eS,none⟩)]) hk hcb (hF hm) ⟨(by simp (disch:=omega) only[kb,bl,ev,lkS]),trivial⟩ (aAH (by omega)) fun v w a hR hk=>?_
 obtain⟨hg,c',rfl,hR⟩:=hR
 have hm:=hm.result hg hR
 refine aAb ⟨fun _=>hm.tail.tail.tail,?_⟩
 refine aYV (e:=1) (p:=p) (ib:=14) (ia:=15) (ii:=16) (iF:=17) (is:=18) (c':=c') hp hrt hby (aKB h2) rfl rfl rfl rfl rfl hkI hs hiv hps (by omega) hn hkm hj hN (by simp) hxl hrl (hk.sub (by simp (disch:=omega) only[bl,kb,looks,lkS,lkN,and_self])) hm K
end
end Go.Mk
namespace Go.Mk
open Go
def aUS (P:Program)(w0:World)(Y:Nat→Prop)(tb bb τ m k n s iv b off:Nat)(pr:Value)(ts:List T)(z:Bool)(tsl:List T)(A:Code):Prop :=
 ∀ {Q:Exit→Act→World→Prop} {j:Nat} {a:Act} {w:World},j<tsl.length→(∀ c a d v w,Q (.panic c) (Act.put a (some d) v) w→Q (.panic c) a w)→Kn n (kb iv s j tsl.length b off tb pr) a→TBl w0 Y tb bb τ m k ts z tsl j w →
  (∀ a' w',Kn n (kb iv s j tsl.length b off tb pr) a'→TBl w0 Y tb bb τ m k ts z tsl (j+1) w'→Q .normal a' w')→A.wp P Q a w
section
variable {P:Program}{Q:Exit→Act→World→Prop}{a:Act}{w0 w:World}{Y:Nat→Prop}{tb bb τ tL m k n s id fi o b off tS tX sX iv eX tB cap:Nat}{ts tsl:List T}{sp:Option Addr}{pr:Value}{y A B:Code}{ops:List Oper}
variable {id0 idb r4 r5 r6 r7 r11 tz t2 t3:Nat}{ty0 ty1 ty2 ty3 ty4 ty5 ty6 ty7 ty8 ty9 ty10 ty11 ty12 ty13 ty14 ty15:Nat}{ps0 ps1 ps2 ps3 ps4 ps5 ps6 ps7 ps8 ps9 ps10 ps11 ps12 ps13 ps14 ps15:String}{af0 af1 af2 af3 af4 af5 af6 af7 af8 af9 af10 af11 af12 af13 af14 af15:Array Edge}
theorem aHU (hp:TreeP P τ tL)(hB:aBB P tB=some (.bool false))(hZ:aCm P tB=some (false,1))
  (ho:ops=[⟨some (s+8),.alloc tB,ty0,ps0,af0,none⟩,⟨none,.store tB (.tmp (s+8)) (.const (.bool true)),ty1,ps1,af1,none⟩,⟨none,.store tB (.tmp (s+8)) (.const (.bool false)),ty2,ps2,af2,none⟩,⟨some (s+9),.load tB (.tmp (s+8)),ty3,ps3,af3,none⟩])
  (h1:decide (Region.ready .any ops.toArray (Array.replicate 4 false)=[0])=true) (h2:decide (Region.ready .any ops.toArray ((Array.replicate 4 false).setIfInBounds 0 true)=[1,2])=true)
  (h3:alones ops (((Array.replicate 4 false).setIfInBounds 0 true).setIfInBounds 1 true) [2,3]=true) (h4:alones ops (((Array.replicate 4 false).setIfInBounds 0 true).setIfInBounds 2 true) [1,3]=true)
  (hs : 3<s) (hiv : 3<iv∧iv<s) (htz:s+10≤tz) (hn:tz<n) (_hkm:k<m) (hN:tsl.length≤32767)
  (hf:aAC P tS fi=some o) (hX:aCm P tX=some (false,sX)) (hE:aBA P tX=some eX) (hQ:∀ c a d v w,Q (.panic c) (Act.put a (some d) v) w→Q (.panic c) a w)
  (hC:Cel w0 Y b (off+o) [.slice sp tsl.length cap]) (hk:Kn n (bl b off tb pr) a) (ht:TBz w0 Y tb bb τ m k ts sp.isNone w)
  (hA:aUS P w0 Y tb bb τ m k n s iv b off pr ts sp.isNone tsl A) (hBB:aUS P w0 Y tb bb τ m k n s iv b off pr ts sp.isNone tsl B)
  (K:∀ a' w',Kn n (bl b off tb pr) a'→TB w0 Y tb bb τ m (k+1) (ts++[.mk 0 [] sp.isNone tsl []]) w'→y.wp P Q a' w') :
  (Code.seq (Code.seq (.region r4 [⟨some s,.move (.tmp 0),ty4,ps4,af4,none⟩,⟨some (s+1),.nilCheck (.tmp s),ty5,ps5,af5,none⟩,⟨some (s+2),.fieldAddr tS (.tmp (s+1)) fi,ty6,ps6,af6,none⟩,⟨some (s+3),.load tX (.tmp (s+2)),ty7,ps7,af7,none⟩,
    ⟨some (s+4),.call ⟨.builtin .len,#[.tmp (s+3)],#[tX]⟩,ty8,ps8,af8,none⟩,⟨some (s+5),.move (.const (.int .i64 0)),ty9,ps9,af9,none⟩].toArray false)
   (.block id0 (.loop (.seq (.region r5 [⟨some (s+6),.binOp .lss t2 (.tmp (s+5)) (.tmp (s+4)) t3,ty10,ps10,af10,none⟩].toArray false)
    (.seq (.cond (.tmp (s+6)) .skip (.exit id0)) (.seq (.block idb
     (.seq (.region r6 [⟨some (s+7),.move (.tmp (s+5)),ty11,ps11,af11,none⟩,⟨some iv,.assign (.tmp (s+7)),ty12,ps12,af12,none⟩].toArray false) (.seq (.region r7 ops.toArray true) (.cond (.tmp (s+9)) A B))))
     (.region r11 [⟨some tz,.binOp .add t2 (.tmp (s+5)) (.const (.int .i64 1)) t3,ty13,ps13,af13,none⟩,⟨some (s+5),.move (.tmp tz),ty13,ps14,af14,none⟩].toArray false))))))) y).wp P Q a w:=by
 obtain⟨⟨xs,hm⟩,hlen⟩:=ht
 have hxl:xs.length=k*5:=by
  have:=aBf.length (hm.els (i:=0) rfl)
  rw[List.length_map,hlen] at this
  exact this
 refine wp_seq ?_
 refine cR0 ?_
 refine oM0 (v:=.pointer (some ⟨b,off,none⟩)) hk (by simp (disch:=omega) only[bl,ev,lkS]) (aAH (by omega)) fun a hk=>?_
 refine oN0 (p:=⟨b,off,none⟩) hk (by simp (disch:=omega) only[bl,ev,lkS]) (aAH (by omega)) fun a hk=>?_
 refine oF0 (b:=b) (off:=off) hk hf (by simp (disch:=omega) only[bl,ev,lkS]) (aAH (by omega)) fun a hk=>?_
 refine aAq (p:=⟨b,off+o,none⟩) hk hX (by simp (disch:=omega) only[bl,ev,lkS]) (aDe hm hC).one (aAH (by omega)) fun a hk=>?_
 refine oL0 (p:=sp) (k:=tsl.length) (c:=cap) hk hE (by simp (disch:=omega) only[bl,ev,lkS]) (aAH (by omega)) fun a hk=>?_
 refine oM0 (v:=.int .i64 0) hk rfl (aAH (by omega)) fun a hk=>?_
 refine cE0 ?_
 have hm:=hm.addNil τ 5
 have hm:=hm.addEls 5
 have hsb:aHD tz (s+6) (s+5) (bl b off tb pr)=true:=aMC (by simp only[bl,List.forall_mem_cons,List.not_mem_nil,false_imp_iff,implies_true,and_true];omega)
 refine aCF (L0:=bl b off tb pr) tsl.length (by omega) (fun j L w=>L=bl b off tb pr∧TBl w0 Y tb bb τ m k ts sp.isNone tsl j w) (hk.sub (by simp (disch:=omega) only[bl,looks,lkS,lkN,and_self])) ⟨rfl,.slice none 0 0,[],xs,by simpa [TLm,TBm] using hm,hxl,rfl⟩
  (aAH (by omega)) (aAH (by omega)) (aAH hn) (aRw (by omega)) (aRw (by omega)) (aRw (by omega)) (aRw (by omega)) ?_ hsb ?_
 ·rintro j L a w hj ⟨rfl,vr,rs,xs,hm,hxl,hrl⟩ hk
  refine cR0 ?_
  refine oM0 (v:=.int .i64 (j:Int)) hk (by simp (disch:=omega) only[bl,ev,lkS,lkN]) (aAH (by omega)) fun a hk=>?_
  refine oA0 (v:=.int .i64 (j:Int)) hk (by simp (disch:=omega) only[bl,ev,lkS]) (aAH (by omega)) fun a hk=>?_
  refine cE0 ?_
  refine aYR (N:=tsl.length) (j:=j) (b:=b) (off:=off) (tb:=tb) (pr:=pr) hp hB hZ ho h1 h2 h3 h4 hs hiv (by omega) (hk.sub (by simp (disch:=omega) only[bl,kb,looks,lkS,lkN,and_self])) hm (fun a w hk hm=>?_) (fun a w hk hm=>?_)
  ·exact hA hj (fun c a d v w h=>hQ c a d v w h) hk ⟨_,_,_,hm,hxl,hrl⟩ fun a' w' hk' ht'=>cN0 (aBb (L':=bl b off tb pr) hk' (by simp (disch:=omega) only[bl,kb,looks,lkS,lkN,and_self]) hsb ⟨rfl,ht'⟩)
  ·exact hBB hj (fun c a d v w h=>hQ c a d v w h) hk ⟨_,_,_,hm,hxl,hrl⟩ fun a' w' hk' ht'=>cN0 (aBb (L':=bl b off tb pr) hk' (by simp (disch:=omega) only[bl,kb,looks,lkS,lkN,and_self]) hsb ⟨rfl,ht'⟩)
 ·rintro L a w ⟨rfl,vr,rs,xs,hm,hxl,hrl⟩ hk
  have hm:=hm.freezeRow (i:=1) (st:=false) rfl (noX _) (hm.els (i:=0) rfl) (by rw[List.length_map,List.take_length]) (fun _=>rfl)
  rw[List.take_length] at hm
  have hm:=hm.elsPush (i:=2) (d:=ddT (.mk 0 [] sp.isNone tsl [])) (c:=aK9 sp.isNone vr) rfl (aC8 (t:=.mk 0 [] sp.isNone tsl []) (by simp[Rep,aDJ,T.s]) (hm.rep (i:=1) rfl) (by simp[Rep,aBR,T.u])) rfl
  have hm:=hm.tail.tail
  refine cT0 (K a w (hk.sub (by simp (disch:=omega) only[bl,looks,lkS,lkN,and_self])) ⟨⟨xs++aK9 sp.isNone vr,?_⟩,by rw[List.length_append,hlen];rfl⟩)
  simpa [TBm,aBn] using hm
end
end Go.Mk
namespace Go.Mk
open Go
theorem aWZ:∀ N:Nat,madeCells zT.toArray (N*5)=(zTs N).toArray:=by
 intro N
 apply Array.ext'
 simp only[madeCells,Array.toList_map,Array.toList_range]
 induction N with
 | zero=>rfl
 | succ N ih =>
  rw[show (N+1)*5=5+N*5 by omega,List.range_add,List.map_append,zTs,List.map_map,← ih]
  congr 1
  apply List.map_congr_left
  intro j _
  show zT.toArray[(5+j)%5]! = zT.toArray[j%5]!
  rw[Nat.add_mod_left]
section
variable {P:Program}{ops:Array Oper}{Q:Exit→Act→World→Prop}{rest:List Oper}{a:Act}{w w0:World}{n:Nat}{l:List (Nat × Value)}{X Z:Nat→Prop}{m:List Ent}
variable {d:Nat}{ty:Nat}{ps:String}{af:Array Edge}
theorem aYy {t τ by_ N:Nat}{nI:Int}(hp:TreeP P τ t)(hk:Kn n l a)(hm:Mem w0 X Z m w)(ht:aGN P t=some (τ,5,by_))(hnI:nI=((N:Nat):Int))(hN:N≤1000)(hby:by_≤1000)(hd:Nat.blt d n=true)
  (K:∀ a' b w',Kn n ((d,.slice (some ⟨b,0,none⟩) N N)::l) a'→Mem w0 X Z (.blk b (zTs N) τ::m) w'→wpList P ops Q rest a' w') :
  wpList P ops Q (⟨some d,.makeSlice t (.const (.int .i64 nI)) (.const (.int .i64 nI)),ty,ps,af,none⟩::rest) a w:=by
 subst hnI
 obtain⟨i,z',h1,h2,h3,h4,h5,rfl⟩:=aF2 ht
 have hz':z'=.agg zT.toArray:=by
  have hz:=hp.zT
  unfold aBB at hz
  rw[h2] at hz
  simp only[Option.bind_some,h3,Option.some.injEq] at hz
  exact hz
 subst hz'
 have hb:(i.bytes:Int)*(N:Int)≤281474976710656:=by
  have:i.bytes*N≤1000*1000:=Nat.mul_le_mul hby hN
  omega
 have hr:=run_make (P:=P) w t τ i _ h1 h2 h3 .i64 .i64 (N:Int) (N:Int) (by omega) (by omega) hb (by omega)
 have e1:=aWZ N
 have hcells:(Value.agg zT.toArray).cells=zT.toArray:=rfl
 simp only[Int.toNat_natCast,hcells,h5,e1] at hr
 refine aAD (v:=.slice (some ⟨w.heap.size,0,none⟩) N N) (w':=w.alloc (.cells (zTs N).toArray τ)) hk rfl rfl hd ?_ fun a' hk'=>K a' _ _ hk' (hm.alloc _ τ)
 unfold aDp execOp
 have hy:a.eval (.const (.int .i64 (N:Int)))=.int .i64 (N:Int):=rfl
 simp only[Sem.run_bind,hy,hr,Result.andThen_ok,Sem.run_pure]
end
structure Base (w0:World) (Y:Nat→Prop) (w1:World) (Y1:Nat→Prop) (rb τ : Nat):Prop where
 agr:Agr Nob w0 w1
 lt:rb<w1.heap.size
 ge:w0.heap.size≤rb
 blk:w1.heap[rb]? = some (.cells zT.toArray τ (0,0))
 up:∀ i,i<w0.heap.size→Y i→Y1 i
 at_:Y1 rb
 small:∀ i,Y1 i→i<w1.heap.size
section
variable {P:Program}{Q:Exit→Act→World→Prop}{a:Act}{w0 w:World}{Y:Nat→Prop}{τ tL m n b off oc by_ r0 r1 su sv:Nat}{y:Code}{d:DD}{cs:List Value}{nI:Int}
variable {ty0 ty1 ty2 ty3 ty4:Nat}{ps0 ps1 ps2 ps3 ps4:String}{af0 af1 af2 af3 af4:Array Edge}
theorem aDE (hp:TreeP P τ tL)(hrt:aGN P tL=some (τ,5,by_))(hby:by_≤1000)(hnI:nI=((m:Nat):Int))(hm1:m≤1000)(hu : 3<su)(hv : 3<sv∧sv≠su)(hun:su<n)(hvn:sv<n)(hn4 : 4<n)
  (hC:Cel w0 Y b oc cs) (hR:Rep w0 Y d cs) (hk:Kn n [(0,.pointer (some ⟨b,off,none⟩))] a)
  (K:∀ a' w1 w rb tb bb Y1,Base w0 Y w1 Y1 rb τ→Cel w1 Y1 b oc cs→Rep w1 Y1 d cs→Kn n (bl b off tb (.pointer (some ⟨rb,0,none⟩))) a'→TB w1 Y1 tb bb τ m 0 [] w→y.wp P Q a' w) :
  (Code.seq (.region r0 [⟨some 2,.alloc τ,ty0,ps0,af0,none⟩].toArray false) (Code.seq (.region r1 [⟨some su,.makeSlice tL (.const (.int .i64 nI)) (.const (.int .i64 nI)),ty1,ps1,af1,none⟩,⟨some sv,.build τ [(3,.tmp su)].toArray,ty2,ps2,af2,none⟩,
   ⟨some 3,.alloc τ,ty3,ps3,af3,none⟩,⟨none,.store τ (.tmp 3) (.tmp sv),ty4,ps4,af4,none⟩].toArray false) y)).wp P Q a w0:=by
 have hm:Mem w0 Nob Y [.cel b oc cs,.rep d cs] w0:=Mem.start rfl (by simp only[List.forall_mem_cons,List.not_mem_nil,false_imp_iff,implies_true,and_true];exact⟨hC,hR⟩)
 refine cR0 ?_
 refine aA5 hk hm hp.zT rfl (aAH (by omega)) fun a rb w1 hk hm=>?_
 refine cE0 ?_
 have hown:=hm.own rb (by simp[muts,Ent.mut])
 have hbase:Base w0 Y w1 (Yof w0 Y [.blk rb zT τ,.cel b oc cs,.rep d cs]) rb τ :=
  ⟨hm.agr,hown.1,Nat.le_of_not_lt fun h=>(hown.2 h).elim,hm.all _ (eA0 (i:=0) rfl),fun i hi hy=>.inl ⟨hi,hy⟩,.inr (by simp[muts,Ent.mut]),fun i hi=>Yof.lt hm hi⟩
 have hC1:Cel w1 (Yof w0 Y [.blk rb zT τ,.cel b oc cs,.rep d cs]) b oc cs:=hm.all _ (eA0 (i:=1) rfl)
 have hR1:Rep w1 (Yof w0 Y [.blk rb zT τ,.cel b oc cs,.rep d cs]) d cs:=hm.rep (i:=2) rfl
 generalize Yof w0 Y [.blk rb zT τ,.cel b oc cs,.rep d cs]=Y1 at hbase hC1 hR1
 clear hm
 have hm:Mem w1 Nob Y1 [] w1:=Mem.start rfl (by simp)
 refine cR0 ?_
 refine aYy (nI:=nI) (N:=m) hp hk hm hrt hnI hm1 hby (aAH hun) fun a bb w hk hm=>?_
 refine aAJ (parts:=[(3,.tmp su)]) (r:=[.int .i64 0,.slice none 0 0,.bool false,.slice (some ⟨bb,0,none⟩) m m,.slice none 0 0]) hk hp.zT rfl hp.ok ⟨.slice (some ⟨bb,0,none⟩) m m,[.slice (some ⟨bb,0,none⟩) m m],3,lkS,rfl,hp.a3,rfl,rfl⟩ (aAH hvn) fun a hk=>?_
 refine aA5 hk hm hp.zT rfl (aAH (by omega)) fun a tb w hk hm=>?_
 refine aAz (i:=0) (b:=tb) (off:=0) (v:=.agg [.int .i64 0,.slice none 0 0,.bool false,.slice (some ⟨bb,0,none⟩) m m,.slice none 0 0].toArray) (cs:=zT) (vs:=[.int .i64 0,.slice none 0 0,.bool false,.slice (some ⟨bb,0,none⟩) m m,.slice none 0 0])
  hk hm hp.sT (by simp (disch:=omega) only[ev,lkS]) (by simp (disch:=omega) only[ev,lkS,lkN]) rfl rfl rfl rfl (Nat.le_refl 5) fun a w hk hm=>?_
 refine cE0 ?_
 have hm:=hm.addEls 5
 refine K a w1 w rb tb bb Y1 hbase hC1 hR1 (hk.sub (by simp (disch:=omega) only[bl,looks,lkS,lkN,and_self])) ⟨⟨[],?_⟩,rfl⟩
 rw[Nat.sub_zero]
 exact hm
end
end Go.Mk
namespace Go.Mk
open Go
def bAC (P:Program)(f:Nat):Prop:=∀ {w0:World} {Y X:Nat→Prop} {b off:Nat} {c:Value} {u us:List (Nat × List UInt8)} {g:Nat} {lb:List Value} (J:Nat→Nat→World→Prop),
 (u.map (·.1)).Nodup→u.length≤32767→us.Perm u→rising us→Cel w0 Y b off [c]→Rep w0 Y (aAN u) [c]→(∀ k,k<w0.heap.size→X k→Y k)→cb0 P g=true→(∀ w1,Agr Nob w0 w1→J w1.heap.size 0 w1) →
 (∀ S k p x w,us[k]? = some p→w0.heap.size≤S→S≤w.heap.size→J S k w→Rep w (Ea.Yw Y w0) (aDJ p.2) [x] →
  Ret P g ([.int .u32 (p.1:Int),x]++lb) w fun _ w'=>J S (k+1) w'∧Agr (fun i=>(i<w0.heap.size∧X i)∨S≤i) w w') →
 Ret P f [.pointer (some ⟨b,off,none⟩),.func (.func g) #[] lb.toArray] w0 fun _ w'=>∃ S,w0.heap.size≤S∧S≤w'.heap.size∧J S us.length w'∧Agr (fun i=>i<w0.heap.size∧X i) w0 w'
structure TagP (P:Program) (τ tU tG t8 u8:Nat):Prop where
 sU:aCm P tU=some (false,1)
 eU:aBA P tU=some tG
 rU:∃ by_,aGN P tU=some (tG,2,by_)∧by_≤1000
 e8:aBA P t8=some u8
 r8:aGN P t8=some (u8,1,1)
 zG:aBB P tG=some (.agg #[.int .u32 0,.slice none 0 0])
 ok:aI5 P tG=true
 g0:aFh P tG 0=some (0,1)
 g1:aFh P tG 1=some (1,1)
def aZ5 (τ tG tb:Nat)(lv:Value)(YE:Nat→Prop)(us:List (Nat × List UInt8))(S k:Nat)(w:World):Prop :=
 ∃ uv rs,w.heap[tb]? = some (.cells [.int .i64 0,.slice none 0 0,.bool false,lv,uv].toArray τ (0,0))∧w.ownsRow 0 tG 2 uv k rs∧aBf w (fun i=>YE i∨uv.ownBlock=some i) 2 ((us.take k).map aBT) rs∧(∀ i,uv.ownBlock=some i→S≤i)
section
variable {P:Program}{Q:Exit→Act→World→Prop}{a:Act}{w0 w1 w:World}{Y Y1 YE:Nat→Prop}{tb bb τ tL tU tG t8 u8 m n s id fi o b off tS S k SE:Nat}{us u:List (Nat × List UInt8)}{ops:List Oper}{lv x:Value}{p:Nat × List UInt8}{fn:Func}
variable {ty0 ty1 ty2 ty3 ty4 ty5 ty6 ty7 ty8 ty9 ty10 ty11:Nat}{ps0 ps1 ps2 ps3 ps4 ps5 ps6 ps7 ps8 ps9 ps10 ps11:String}{af0 af1 af2 af3 af4 af5 af6 af7 af8 af9 af10 af11:Array Edge}
set_option maxHeartbeats 2000000 in
theorem aG9 (hp:TreeP P τ tL)(hg:TagP P τ tU tG t8 u8)(hres:fn.results=#[])
  (ho:ops=[⟨some s,.fieldAddr τ (.tmp 2) 4,ty0,ps0,af0,none⟩,⟨some (s+1),.load tU (.tmp s),ty1,ps1,af1,none⟩,⟨some (s+2),.move (.tmp 0),ty2,ps2,af2,none⟩,⟨some (s+3),.move (.tmp 1),ty3,ps3,af3,none⟩,
   ⟨some (s+4),.call ⟨.builtin .append,#[.const (.slice none 0 0),.tmp (s+3)],#[t8,t8]⟩,ty4,ps4,af4,none⟩,⟨some (s+5),.build tG [(0,.tmp (s+2)),(1,.tmp (s+4))].toArray,ty5,ps5,af5,none⟩,⟨some (s+6),.buildSlice tU 1 #[(0,.tmp (s+5))],ty6,ps6,af6,none⟩,
   ⟨some (s+7),.call ⟨.builtin .append,#[.tmp (s+1),.tmp (s+6)],#[tU,tU]⟩,ty7,ps7,af7,none⟩,⟨some (s+8),.fieldAddr τ (.tmp 2) 4,ty8,ps8,af8,none⟩,⟨none,.store tU (.tmp (s+8)) (.tmp (s+7)),ty9,ps9,af9,none⟩])
  (h1:takes ops 7 (Array.replicate ops.length false) [0,1,2,3]=true) (h2:alones ops (aGs (Array.replicate ops.length false) [0,1,2,3]) [4,5,6,7,8,9]=true) (hs : 2<s) (hn:s+9≤n)
  (hpk:us[k]? = some p) (hul:us.length≤32767) (hpl:p.2.length≤32767) (hSE:SE≤S) (hSw:S≤w1.heap.size) (hYE:∀ i,YE i→i<SE) (hYt:YE tb) (hJ:aZ5 τ tG tb lv YE us S k w1)
  (hR:Rep w1 (fun i=>YE i∨SE≤i) (aDJ p.2) [x]) (hk:Kn n [(0,.int .u32 (p.1:Int)),(1,x),(2,.pointer (some ⟨tb,0,none⟩))] a) :
  (Code.region id ops.toArray true).wp P (bodyPost P fn fun e w'=>∃ v,e=.returned v∧(aZ5 τ tG tb lv YE us S (k+1) w'∧Agr (fun i=>i=tb∨S≤i) w1 w')) a w1:=by
 subst ho
 obtain⟨uv,rs,hB,hrow,hels,hown⟩:=hJ
 obtain⟨by_,hrU,hby⟩:=hg.rU
 have htb:tb<SE:=hYE tb hYt
 have hkl:k<us.length:=(List.getElem?_eq_some_iff.1 hpk).1
 have hm:Mem w1 (fun i=>i=tb∨uv.ownBlock=some i) (fun i=>YE i∨uv.ownBlock=some i) [.els 2 ((us.take k).map aBT) rs,.blk tb [.int .i64 0,.slice none 0 0,.bool false,lv,uv] τ,.row tG 2 uv k rs,.rep (aDJ p.2) [x]] w1:=by
  refine Mem.startX ?_ ?_ ?_ ?_
  ·rintro i (rfl|hi)
   ·exact .inl hYt
   ·exact .inr hi
  ·simp only[muts,Ent.mut,List.append_nil,List.nil_append,List.singleton_append,List.nodup_cons]
   refine⟨fun hb=>?_,by cases uv.ownBlock<;>simp⟩
   have:=hown tb (by simpa using hb)
   omega
  ·intro i hi
   simp only[muts,Ent.mut,List.append_nil,List.nil_append,List.singleton_append,List.mem_cons] at hi
   rcases hi with rfl|hi
   ·exact⟨by omega,.inl rfl⟩
   ·have hi':uv.ownBlock=some i:=by simpa using hi
    exact⟨(hrow.lt i hi').2,.inr hi'⟩
  ·simp only[List.forall_mem_cons,List.not_mem_nil,false_imp_iff,implies_true,and_true]
   exact⟨hels,hB,hrow,Rep.move (fun i _ hy=>⟨rfl,fun h=>hy (h.elim .inl fun h=>.inr (Nat.le_trans hSE (hown i h)))⟩) _ _ hR⟩
 simp only[takes,Bool.and_eq_true] at h1
 obtain⟨t0,t1,t2,t3,_⟩:=h1
 simp only[alones,Bool.and_eq_true,decide_eq_true_eq] at h2
 obtain⟨r4,r5,r6,r7,r8,r9,r10⟩:=h2
 have hge:∀ (q:Nat) (L':Array Bool),L'.getD 7 false=true→(L'.setIfInBounds q true).getD 7 false=true:=fun q L' h=>getD_set_true h
 have g1:=aMr (L:=(((aGs (Array.replicate 10 false) [0,1,2,3]).setIfInBounds 4 true).setIfInBounds 5 true).setIfInBounds 6 true) (j:=7) (by simp[aDI])
 refine aAW (K:=7) hp.mixed hm fun w hm=>?_
 refine aAh (i:=0) rfl rfl rfl t0 (fun _ _ _ h=>h) hk (aAH (by omega)) (fun w hm=>rF0 (b:=tb) (off:=0) hk hp.fU (by simp (disch:=omega) only[ev,lkS,lkN])) hm fun a hk=>?_
 refine aAh (i:=1) rfl rfl rfl t1 (fun _ _ _ h=>h) hk (aAH (by omega)) (fun w hm=>aAL (p:=⟨tb,0+4,none⟩) hk hg.sU (by simp (disch:=omega) only[ev,lkS]) (hm.cell_blk (i:=1) rfl rfl)) hm fun a hk=>?_
 refine aAh (i:=2) rfl rfl rfl t2 (fun _ _ _ h=>h) hk (aAH (by omega)) (fun w hm=>aA6 (v:=.int .u32 (p.1:Int)) hk (by simp (disch:=omega) only[ev,lkS,lkN])) hm fun a hk=>?_
 refine aAh (i:=3) rfl rfl rfl t3 (fun _ _ _ h=>h) hk (aAH (by omega)) (fun w hm=>aA6 (v:=x) hk (by simp (disch:=omega) only[ev,lkS,lkN])) hm fun a hk=>?_
 refine aAt (k:=4) r4 rfl rfl ?_
 have hm2:=hm.addNil u8 1
 refine aBs (i:=0) (v:=.slice none 0 0) (xv:=x) hk hm2 hg.r8 rfl rfl (by simp (disch:=omega) only[ev,lkS]) (aLb hg.e8 (hm2.rep (i:=4) rfl)) (aCK (by unfold room;omega)) (aD3 (by unfold room;omega)) (aAH (by omega)) fun a v1 w hk hm _=>?_
 have hm:=hm.freezeRow (i:=0) (st:=false) rfl (fun i hi hX=>by
  rcases hX with rfl|hX
  ·exact aEt hm.nodup (i:=0) (j:=2) (by decide) rfl rfl i (by simp[Ent.mut,hi]) (by simp[Ent.mut])
  ·exact aEt hm.nodup (i:=0) (j:=3) (by decide) rfl rfl i (by simp[Ent.mut,hi]) (by simp[Ent.mut,hX])) (aNk p.2) (by rw[List.length_map,Nat.zero_add]) (fun _=>rfl)
 refine aAb (cT0 ⟨fun _=>hm.tail,?_⟩)
 obtain⟨p1,c1,rfl⟩:=aCS (hm.rep (i:=0) rfl)
 refine aAt (k:=5) r5 rfl rfl ?_
 refine aAJ (parts:=[(0,.tmp (s+2)),(1,.tmp (s+4))]) (r:=[.int .u32 (p.1:Int),.slice p1 (p.2.map ddB).length c1]) hk hg.zG rfl hg.ok ⟨.int .u32 (p.1:Int),[.int .u32 (p.1:Int)],0,(by simp (disch:=omega) only[ev,lkS,lkN]),rfl,hg.g0,rfl,.slice p1 (p.2.map ddB).length c1,[.slice p1 (p.2.map ddB).length c1],1,(by simp (disch:=omega) only[ev,lkS]),rfl,hg.g1,rfl,rfl⟩ (aAH (by omega)) fun a hk=>?_
 refine aAb (cT0 ⟨fun _=>hm.tail,?_⟩)
 refine aAt (k:=6) r6 rfl rfl ?_
 refine aLg (v:=.agg [.int .u32 (p.1:Int),.slice p1 (p.2.map ddB).length c1].toArray) (c:=[.int .u32 (p.1:Int),.slice p1 (p.2.map ddB).length c1]) hk hm hrU (by simp (disch:=omega) only[ev,lkS]) rfl rfl rfl rfl (aAH (by omega)) fun a b1 w hk hm=>?_
 refine aAb (cT0 ⟨fun _=>hm.tail.tail,?_⟩)
 refine aAt (k:=7) r7 rfl rfl ?_
 refine aBs (i:=4) (v:=uv) (xv:=.slice (some ⟨b1,0,none⟩) 1 1) hk hm hrU (by simp (disch:=omega) only[ev,lkS,lkN]) rfl (by simp (disch:=omega) only[ev,lkS]) (aDP (k:=1) (news:=[.int .u32 (p.1:Int),.slice p1 (p.2.map ddB).length c1]) hg.eU rfl (hm.cells_blk (i:=0) rfl rfl) rfl) (by unfold maxLen;omega)
  (Nat.le_trans (Nat.mul_le_mul_left _ hby) (by omega)) (aAH (by omega)) fun a uv' w hk hm _=>?_
 refine aAb (cT0 ⟨fun h=>absurd (g1.symm.trans h) (by decide),?_⟩)
 refine aAt (k:=8) r8 rfl rfl ?_
 refine oF0 (b:=tb) (off:=0) hk hp.fU (by simp (disch:=omega) only[ev,lkS,lkN]) (aAH (by omega)) fun a hk=>?_
 refine aAb (cT0 ⟨fun h=>absurd ((hge _ _ g1).symm.trans h) (by decide),?_⟩)
 refine aAt (k:=9) r9 rfl rfl ?_
 have hone:uv'.oneCell'=true:=aHV (hm.row (i:=4) rfl)
 refine aAz (i:=3) (b:=tb) (off:=0+4) (v:=uv') (vs:=[uv']) (cs:=[.int .i64 0,.slice none 0 0,.bool false,lv,uv]) hk hm hg.sU (by simp (disch:=omega) only[ev,lkS]) (by simp (disch:=omega) only[ev,lkS,lkN]) (aE7 hone) rfl (aVT hone) rfl (Nat.le_refl 5) fun a w' hk hm=>?_
 have hm:=hm.elsPush (i:=2) (d:=aBT p) rfl (aLL (hm.rep (i:=1) rfl)) rfl
 have hts:((us.take (k+1)).map aBT)=(us.take k).map aBT++[aBT p]:=by
  have hgd:us.getD k (0,[])=p:=by rw[List.getD_eq_getElem?_getD,hpk];rfl
  rw[aFu aBT us k (0,[]) hkl,hgd]
 rw[← hts] at hm
 refine aAb (cT0 ⟨fun h=>absurd ((hge _ _ (hge _ _ g1)).symm.trans h) (by decide),?_⟩)
 have hso:∀ i,uv'.ownBlock=some i→S≤i:=fun i hi=>by
  have hb:=hm.own i (aBI (eA0 (i:=4) rfl) (by simp[Ent.mut,hi]))
  by_cases hlt:i<w1.heap.size
  ·rcases hb.2 hlt with rfl|h
   ·exact absurd (by simp[Ent.mut]) (aEt hm.nodup (i:=4) (j:=3) (by decide) rfl rfl i (by simp[Ent.mut,hi]))
   ·exact hown i h
  ·omega
 refine aBh r10 (aB4 hres hk ⟨⟨uv',_,hm.all _ (eA0 (i:=3) rfl),hm.row (i:=4) rfl,aBf.move (fun i _ hy=>⟨rfl,fun h=>hy ?_⟩) _ _ _ (hm.els (i:=2) rfl),hso⟩,hm.agr.mono fun i _ h=>?_⟩) _
 ·rcases h with h|h
  ·exact .inl ⟨Nat.lt_of_lt_of_le (hYE i h) (Nat.le_trans hSE hSw),.inl h⟩
  ·exact .inr (aBI (eA0 (i:=4) rfl) (by simp[Ent.mut,h]))
 ·rcases h with h|h
  ·exact .inl h
  ·exact .inr (hown i h)
end
end Go.Mk
namespace Go.Mk
open Go
def aJ2 (P:Program)(τ tG g:Nat):Prop:=∀ {w:World} {S k SE tb:Nat} {YE:Nat→Prop} {us:List (Nat × List UInt8)} {p:Nat × List UInt8} {lv x:Value},
 us[k]? = some p→us.length≤32767→p.2.length≤32767→SE≤S→S≤w.heap.size→(∀ i,YE i→i<SE)→YE tb→aZ5 τ tG tb lv YE us S k w→Rep w (fun i=>YE i∨SE≤i) (aDJ p.2) [x] →
 Ret P g [.int .u32 (p.1:Int),x,.pointer (some ⟨tb,0,none⟩)] w fun _ w'=>aZ5 τ tG tb lv YE us S (k+1) w'∧Agr (fun i=>i=tb∨S≤i) w w'
def aR5 (P:Program)(f:Nat):Prop:=∀ {w0:World} {Y:Nat→Prop} {u:List (Nat × List UInt8)} {p:Option Addr} {cap:Nat},Rep w0 Y (aBR u) [.slice p u.length cap]→rising u→u.length≤32767→Ret P f [.slice p u.length cap] w0 fun _ w'=>Agr Nob w0 w'
section
variable {P:Program}{a:Act}{w0 w1 w:World}{Y Y1:Nat→Prop}{tb bb rb τ tL tU tG t8 u8 m n s rid fi o b off tS fE fS g:Nat}{us u:List (Nat × List UInt8)}{ops:List Oper}{c:Value}{fn:Func}{ts:List T}{dr:Bool}{r1 r2 r3:Nat}{tys1 tys2:Array Nat}
variable {ty0 ty1 ty2 ty3 ty4 ty5 ty6 ty7 ty8 ty9:Nat}{ps0 ps1 ps2 ps3 ps4 ps5 ps6 ps7 ps8 ps9:String}{af0 af1 af2 af3 af4 af5 af6 af7 af8 af9:Array Edge}
theorem aX4 {cs:List Value}{t:T}{Z:Nat→Prop}(hp:TreeP P τ tL)(hres:fn.results=#[.cell 2 τ])(ho:ops=[⟨some s,.load τ (.tmp 3),ty0,ps0,af0,none⟩,⟨none,.store τ (.tmp 2) (.tmp s),ty1,ps1,af1,none⟩])
  (hdr:dr=true→takes ops 1 (Array.replicate 2 false) [0]=true∧alones ops ((Array.replicate 2 false).setIfInBounds 0 true) [1]=true) (hs : 3<s) (hn:s<n) (hbase:Base w0 Y w1 Y1 rb τ) (hag:Agr Nob w1 w) (hZ:∀ i,Y1 i→Z i) (_hZw:∀ i,Z i→i<w.heap.size)
  (hcs:∀ j v,cs[j]? = some v→w.cell? ⟨tb,0+j,none⟩=some v) (hR:Rep w Z (ddT t) cs)
  (hk:Kn n (bl b off tb (.pointer (some ⟨rb,0,none⟩))) a) :
  (Code.seq (.region rid ops.toArray dr) .ret).wp P (bodyPost P fn fun e w'=>∃ v,e=.returned v∧(Agr Nob w0 w'∧∃ c',v=.agg c'.toArray∧Rep w' (fun i=>i<w0.heap.size∧Y i) (ddT t) c')) a w:=by
 subst ho
 obtain⟨c1,c2,c3,c4,c5⟩:=aLV hR
 have hcl:cs.length=5:=by rw[c5];rfl
 have hrb:w.heap[rb]? = some (.cells zT.toArray τ (0,0)):=(hag.block rb hbase.lt id).trans hbase.blk
 have hrl:rb<w.heap.size:=(Array.getElem?_eq_some_iff.1 hrb).1
 have hm:Mem w (fun i=>i=rb) Z [.blk rb zT τ,.rep (ddT t) cs] w:=by
  refine Mem.startX ?_ (by simp[muts,Ent.mut]) ?_ ?_
  ·rintro i rfl;exact hZ _ hbase.at_
  ·intro i hi
   simp only[muts,Ent.mut,List.append_nil,List.mem_cons,List.not_mem_nil,or_false] at hi
   subst hi;exact⟨hrl,rfl⟩
  ·simp only[List.forall_mem_cons,List.not_mem_nil,false_imp_iff,implies_true,and_true]
   exact⟨hrb,hR⟩
 have fin:∀ (w':World) (a:Act),Kn n ((s,.agg cs.toArray)::bl b off tb (.pointer (some ⟨rb,0,none⟩))) a→Mem w (fun i=>i=rb) Z [.blk rb cs τ,.rep (ddT t) cs] w' →
   Code.ret.wp P (bodyPost P fn fun e w'=>∃ v,e=.returned v∧(Agr Nob w0 w'∧∃ c',v=.agg c'.toArray∧Rep w' (fun i=>i<w0.heap.size∧Y i) (ddT t) c')) a w':=by
  intro w' a hk hm
  refine wp_ret ?_
  refine aDf (i:=0) (cs:=cs) hres (by rw[hcl];exact hp.sT) hk hm (by simp (disch:=omega) only[bl,lkS,lkN]) rfl ⟨?_,cs,rfl,?_⟩
  ·refine (hbase.agr.trans hag (Z:=Nob) (fun _ _ x=>x) (fun _ _ x=>x)).trans hm.agr (fun _ _ x=>x) (fun i hi hx=>?_)
   have:=hbase.ge
   omega
  ·refine Rep.move (fun i _ hy=>⟨rfl,fun h=>hy (.inl ⟨?_,hZ i (hbase.up i h.1 h.2)⟩)⟩) _ _ (hm.rep (i:=1) rfl)
   exact Nat.lt_of_lt_of_le h.1 (Nat.le_trans hbase.agr.size hag.size)
 cases dr with
 | false =>
  refine cR0 ?_
  refine aAM (b:=tb) (off:=0) (cs:=cs) hk (by rw[hcl];exact hp.sT) (by simp (disch:=omega) only[bl,ev,lkS,lkN]) hcs (aAH hn) fun a hk=>?_
  refine aAz (i:=0) (b:=rb) (off:=0) (v:=.agg cs.toArray) (vs:=cs) (cs:=zT) hk hm hp.sT (by simp (disch:=omega) only[bl,ev,lkS,lkN]) (by simp (disch:=omega) only[bl,ev,lkS]) (by simp[cellsOf]) hcl (aEK hR) rfl (by rw[hcl];exact Nat.le_refl 5) fun a w' hk hm=>?_
  rw[aHc (by rw[hcl];rfl)] at hm
  refine cE0 ?_
  exact fin w' a hk hm
 | true =>
  obtain⟨h1,h2⟩:=hdr rfl
  simp only[takes,Bool.and_eq_true] at h1
  simp only[alones,Bool.and_eq_true,decide_eq_true_eq] at h2
  refine wp_seq ?_
  refine aLF (M:=fun w'=>Agr Nob w w') (K:=1) hp.mixed ?_
  have hdw:Agr Nob w w.drew:=Agr.drew Nob w
  have hmd:=hm.pure hdw
  refine aAh (i:=0) rfl rfl rfl h1.1 (fun _ _ _ h=>h) hk (aAH hn) (fun w' hw'=>aBq (b:=tb) (off:=0) (cs:=cs) hk (by rw[hcl];exact hp.sT) (by simp (disch:=omega) only[bl,ev,lkS,lkN]) (fun j v hj=>by
   have h0:=hcs j v hj
   rw[World.cell?_of_block (w:=w) (w':=w') (a:=⟨tb,0+j,none⟩) (hw'.block tb (aIv h0) id)]
   exact h0)) hdw fun a hk=>?_
  refine aAt (k:=1) h2.1 rfl rfl ?_
  refine aAz (i:=0) (b:=rb) (off:=0) (v:=.agg cs.toArray) (vs:=cs) (cs:=zT) hk hmd hp.sT (by simp (disch:=omega) only[bl,ev,lkS,lkN]) (by simp (disch:=omega) only[bl,ev,lkS]) (by simp[cellsOf]) hcl (aEK hR) rfl (by rw[hcl];exact Nat.le_refl 5) fun a w' hk hm=>?_
  rw[aHc (by rw[hcl];rfl)] at hm
  refine aAb (cT0 ⟨fun h=>Bool.noConfusion (show true=false from h),?_⟩)
  exact aBh h2.2 (cT0 (fin w' a hk hm)) _
theorem aHa (hp:TreeP P τ tL)(hg:TagP P τ tU tG t8 u8)(hE:bAC P fE)(hcE:cb0 P fE=true)(hSo:aR5 P fS)(hcS:cb0 P fS=true)(hCl:aJ2 P τ tG g)(hcg:cb0 P g=true)(hres:fn.results=#[.cell 2 τ])
  (ho:ops=[⟨some (s+8),.load τ (.tmp 3),ty0,ps0,af0,none⟩,⟨none,.store τ (.tmp 2) (.tmp (s+8)),ty1,ps1,af1,none⟩])
  (hdr:dr=true→takes ops 1 (Array.replicate 2 false) [0]=true∧alones ops ((Array.replicate 2 false).setIfInBounds 0 true) [1]=true) (hs : 3<s) (hn:s+8<n) (hm1:m≤1000)
  (hf:aAC P tS fi=some o) (hC:Cel w1 Y1 b (off+o) [c]) (hR:Rep w1 Y1 (aAN u) [c]) (hnd:(u.map (·.1)).Nodup) (hul:u.length≤32767) (hup:∀ p ∈ u,p.2.length≤32767) (hpm:us.Perm u) (hri:rising us)
  (hbase:Base w0 Y w1 Y1 rb τ) (hk:Kn n (bl b off tb (.pointer (some ⟨rb,0,none⟩))) a) (ht:TB w1 Y1 tb bb τ m m ts w) :
  (Code.seq (.region r1 [⟨some s,.move (.tmp 0),ty2,ps2,af2,none⟩,⟨some (s+1),.nilCheck (.tmp s),ty3,ps3,af3,none⟩,⟨some (s+2),.fieldAddr tS (.tmp (s+1)) fi,ty4,ps4,af4,none⟩,⟨some (s+3),.makeFunc (.func g) #[] [.tmp 3].toArray,ty5,ps5,af5,none⟩,
    ⟨some (s+4),.call ⟨.value (.func fE),[.tmp (s+2),.tmp (s+3)].toArray,tys1⟩,ty6,ps6,af6,none⟩].toArray false)
   (Code.seq (.region r2 [⟨some (s+5),.fieldAddr τ (.tmp 3) 4,ty7,ps7,af7,none⟩,⟨some (s+6),.load tU (.tmp (s+5)),ty8,ps8,af8,none⟩,⟨some (s+7),.call ⟨.value (.func fS),[.tmp (s+6)].toArray,tys2⟩,ty9,ps9,af9,none⟩].toArray false)
    (Code.seq (.region rid ops.toArray dr) .ret))).wp P (bodyPost P fn fun e w'=>∃ v,e=.returned v∧(Agr Nob w0 w'∧∃ c',v=.agg c'.toArray∧Rep w' (fun i=>i<w0.heap.size∧Y i) (ddT (.mk 0 [] false ts us)) c')) a w:=by
 obtain⟨⟨xs,hm⟩,hlen⟩:=ht
 rw[Nat.sub_self] at hm
 have hxl:xs.length=m*5:=by
  have:=aBf.length (hm.els (i:=0) rfl)
  rw[List.length_map,hlen] at this
  exact this
 have htb:=hm.own tb (by simp[TBm,muts,Ent.mut])
 have hbb:=hm.own bb (by simp[TBm,muts,Ent.mut])
 have htbb:tb≠bb:=by
  have:=hm.nodup
  simp only[TBm,muts,Ent.mut,List.nil_append,List.singleton_append,List.nodup_cons,List.mem_cons,List.not_mem_nil,or_false,not_false_eq_true,List.nodup_nil,and_true,List.append_nil] at this
  exact this
 refine cR0 ?_
 refine oM0 (v:=.pointer (some ⟨b,off,none⟩)) hk (by simp (disch:=omega) only[bl,ev,lkS]) (aAH (by omega)) fun a hk=>?_
 refine oN0 (p:=⟨b,off,none⟩) hk (by simp (disch:=omega) only[bl,ev,lkS]) (aAH (by omega)) fun a hk=>?_
 refine oF0 (b:=b) (off:=off) hk hf (by simp (disch:=omega) only[bl,ev,lkS]) (aAH (by omega)) fun a hk=>?_
 refine aOe (xs:=[.tmp 3]) (vs:=[.pointer (some ⟨tb,0,none⟩)]) hk ⟨(by simp (disch:=omega) only[bl,ev,lkS,lkN]),trivial⟩ (aAH (by omega)) fun a hk=>?_
 have hEach:=hE (w0:=w) (Y:=Yof w1 Y1 (TBm tb bb τ m ts xs (zTs 0))) (X:=fun i=>i=tb) (b:=b) (off:=off+o) (c:=c) (u:=u) (us:=us) (g:=g) (lb:=[.pointer (some ⟨tb,0,none⟩)])
  (fun S k w'=>aZ5 τ tG tb (.slice (some ⟨bb,0,none⟩) m m) (Yof w1 Y1 (TBm tb bb τ m ts xs (zTs 0))) us S k w') hnd hul hpm hri (aDe hm hC) (aDS hm hR) (fun i _ hi=>by subst hi;exact .inr (by simp[TBm,muts,Ent.mut])) hcg ?_ ?_
 rotate_left
 ·intro w2 hag
  have hB:w2.heap[tb]? = _:=(hag.block tb htb.1 id).trans (hm.all _ (eA0 (i:=1) rfl))
  exact⟨.slice none 0 0,[],hB,World.ownsRow_nil w2 0 tG 2,aBf.nil _ _ _,fun i hi=>by simp[Value.ownBlock] at hi⟩
 ·intro S k p x w2 hpk hS1 hS2 hJ hx
  have hlk:us.length=u.length:=hpm.length_eq
  refine Ret.mono (hCl (SE:=w.heap.size) hpk (by omega) (hup p (hpm.mem_iff.1 (List.mem_of_getElem? hpk))) hS1 hS2 (fun i hi=>Yof.lt hm hi) (.inr (by simp[TBm,muts,Ent.mut])) hJ hx) ?_
  rintro _ w' ⟨h1,h2⟩
  refine⟨h1,h2.mono fun i _ h=>?_⟩
  rcases h with rfl|h
  ·exact .inl ⟨htb.1,rfl⟩
  ·exact .inr h
 refine aAk (vs:=[.pointer (some ⟨b,off+o,none⟩),.func (.func g) #[] #[.pointer (some ⟨tb,0,none⟩)]]) hk hcE hEach ⟨(by simp (disch:=omega) only[bl,ev,lkS,lkN]),(by simp (disch:=omega) only[bl,ev,lkS]),trivial⟩ (aAH (by omega)) fun v2 w2 a hR2 hk=>?_
 obtain⟨S,hS1,hS2,⟨uv,rs,hB,hrow,hels,hown⟩,hag⟩:=hR2
 rw[List.take_length] at hels
 have hm2:Mem w1 Nob Y1 [.els 2 (us.map aBT) rs,.row tG 2 uv us.length rs,.els 5 (ts.map ddT) xs,.blk tb [.int .i64 0,.slice none 0 0,.bool false,.slice (some ⟨bb,0,none⟩) m m,uv] τ,.blk bb (xs++zTs 0) τ] w2:=by
  have hmu:∀ i,i ∈ muts [.els 2 (us.map aBT) rs,.row tG 2 uv us.length rs,.els 5 (ts.map ddT) xs,.blk tb [.int .i64 0,.slice none 0 0,.bool false,.slice (some ⟨bb,0,none⟩) m m,uv] τ,.blk bb (xs++zTs 0) τ] ↔ (uv.ownBlock=some i∨i=tb∨i=bb):=fun i=>by simp[muts,Ent.mut]
  refine hm.rebuild (A:=fun i=>i<w.heap.size∧i=tb) hag (fun i hi=>by rw[hi.2];simp[TBm,muts,Ent.mut]) ?_ (fun i hi=>?_) ?_
  ·simp only[muts,Ent.mut,List.nil_append,List.singleton_append,List.append_nil,List.nodup_append,List.nodup_cons,List.mem_cons,List.not_mem_nil,or_false,not_false_eq_true,List.nodup_nil,and_true]
   refine⟨by cases uv.ownBlock<;>simp,htbb,fun i hi j hj=>?_⟩
   have:=hown i (by simpa using hi)
   rcases hj with rfl|rfl
   ·have:=htb.1;omega
   ·have:=hbb.1;omega
  ·rcases (hmu i).1 hi with h|rfl|rfl
   ·exact .inr ⟨Nat.le_trans hS1 (hown i h),(hrow.lt i h).2⟩
   ·exact .inl (by simp[TBm,muts,Ent.mut])
   ·exact .inl (by simp[TBm,muts,Ent.mut])
  ·simp only[List.forall_mem_cons,List.not_mem_nil,false_imp_iff,implies_true,and_true]
   refine⟨.inr (aBf.move (fun i _ hy=>⟨rfl,fun h=>hy ?_⟩) _ _ _ hels),.inr hrow,.inl ⟨by simp[TBm],by simp[Ent.mut]⟩,.inr hB,.inl ⟨by simp[TBm],fun i hi h=>?_⟩⟩
   ·rcases h with h|h
    ·exact .inl (.inl h)
    ·rcases (hmu i).1 h with h|rfl|rfl
     ·exact .inr h
     ·exact .inl (.inr (by simp[TBm,muts,Ent.mut]))
     ·exact .inl (.inr (by simp[TBm,muts,Ent.mut]))
   ·simp only[Ent.mut,List.mem_cons,List.not_mem_nil,or_false] at hi
    subst hi
    exact htbb h.2.symm
 refine cE0 ?_
 have hm3:=hm2.freezeRow (i:=1) (st:=false) rfl (noX _) (hm2.els (i:=0) rfl) (by rw[List.length_map]) (fun _=>rfl)
 obtain⟨pu,cu,hcu⟩:=aCS (hm3.rep (i:=1) rfl)
 rw[List.length_map] at hcu
 subst hcu
 refine cR0 ?_
 refine oF0 (b:=tb) (off:=0) hk hp.fU (by simp (disch:=omega) only[bl,ev,lkS,lkN]) (aAH (by omega)) fun a hk=>?_
 refine aAq (p:=⟨tb,0+4,none⟩) hk hg.sU (by simp (disch:=omega) only[bl,ev,lkS]) (hm3.cell_blk (i:=3) rfl rfl) (aAH (by omega)) fun a hk=>?_
 refine aAk (vs:=[.slice pu us.length cu]) hk hcS (hSo (hm3.rep (i:=1) rfl) hri (by rw[hpm.length_eq];exact hul)) ⟨(by simp (disch:=omega) only[bl,ev,lkS]),trivial⟩ (aAH (by omega)) fun v4 w4 a hR4 hk=>?_
 have hm4:=hm3.pure hR4
 refine cE0 ?_
 have hm5:=hm4.freezeLit (i:=4) (sz:=5) (n:=m) (l:=ts.map ddT) rfl id (by rw[List.length_map,hlen]) (by simp[zTs,hxl]) (by unfold maxLen;omega) (by have:=hm4.els (i:=2) rfl;simpa [zTs] using this)
 have hrep:Rep w4 _ (ddT (.mk 0 [] false ts us)) [.int .i64 0,.slice none 0 0,.bool false,.slice (some ⟨bb,0,none⟩) m m,.slice pu us.length cu]:=aC8 (t:=.mk 0 [] false ts us) (by simp[Rep,aDJ,T.s]) (hm5.rep (i:=4) rfl) (hm5.rep (i:=1) rfl)
 refine aX4 (s:=s+8) (tb:=tb) (b:=b) (off:=off) (rb:=rb) hp hres ho hdr (by omega) (by omega) hbase hm5.agr (fun i hi=>.inl ⟨hbase.small i hi,hi⟩) (fun i hi=>Yof.lt hm5 hi) (fun j v hj=>hm5.cell_blk (i:=3) rfl (by rw[Nat.zero_add];exact hj)) hrep (hk.sub (by simp (disch:=omega) only[bl,looks,lkS,lkN,and_self]))
end
end Go.Mk
namespace Go.Mk
open Go
mutual
def T.fine:T→Bool
 | .mk _ s _ l u=>decide (s.length≤32767)&&decide (l.length≤32767)&&decide (u.length≤32767)&&u.all (fun p=>decide (p.2.length≤32767))&&decide ((u.map (·.1)).Nodup)&&T.fines l
def T.fines:List T→Bool
 | []=>true
 | t::r=>t.fine&&T.fines r
end
theorem aMY:∀ {l:List T},T.fines l=true ↔ ∀ t ∈ l,t.fine=true
 | []=>by simp[T.fines]
 | t::r=>by
  simp only[T.fines,Bool.and_eq_true,List.mem_cons,forall_eq_or_imp]
  rw[aMY (l:=r)]
theorem aAB {t:T}(h:t.fine=true):t.s.length≤32767∧t.l.length≤32767∧t.u.length≤32767∧(∀ p ∈ t.u,p.2.length≤32767)∧(t.u.map (·.1)).Nodup∧∀ x ∈ t.l,x.fine=true:=by
 cases t with
 | mk n s z l u =>
  simp only[T.fine,Bool.and_eq_true,decide_eq_true_eq,List.all_eq_true] at h
  obtain⟨⟨⟨⟨⟨h0,h1⟩,h2⟩,h3⟩,h5⟩,h4⟩:=h
  exact⟨h0,h1,h2,fun p hp=>h3 p hp,h5,aMY.1 h4⟩
theorem aX2 {n:Int}{s:List UInt8}{z:Bool}{l:List T}{u:List (Nat × List UInt8)}(h0:s.length≤32767)(h1:l.length≤32767)(h2:u.length≤32767)(h3:∀ p ∈ u,p.2.length≤32767)(h5:(u.map (·.1)).Nodup)(h4:∀ x ∈ l,x.fine=true):(T.mk n s z l u).fine=true:=by
 simp only[T.fine,Bool.and_eq_true,decide_eq_true_eq,List.all_eq_true]
 exact⟨⟨⟨⟨⟨h0,h1⟩,h2⟩,fun p hp=>h3 p hp⟩,h5⟩,aMY.2 h4⟩
theorem aPo {t:T}(h:t.fine=true)(k:Nat):(t.l.getD k T.nil).fine=true:=by
 rw[List.getD_eq_getElem?_getD]
 cases hk:t.l[k]? with
 | none=>rfl
 | some x=>exact (aAB h).2.2.2.2.2 x (List.mem_of_getElem? hk)
theorem aA3 {t:T}(h:t.fine=true)(k:Nat):(t.at_ k).fine=true:=aPo h k
theorem aK2:∀ t:T,t.tiny=true→t.fine=true:=aYL fun t ih h=>by
 have hs:=aId h
 cases t with
 | mk n s z l u=>exact aX2 hs.1 hs.2.1 hs.2.2.1 hs.2.2.2.1 (aKg hs.2.2.2.2.1).2 (fun x hx=>ih x hx (hs.2.2.2.2.2 x hx))
theorem aLc (u:Nat × List UInt8):∀ l,(aTI u l).Perm (u::l)
 | []=>List.Perm.refl _
 | x::r=>by
  simp only[aTI]
  split
  ·exact List.Perm.refl _
  ·exact ((aLc u r).cons x).trans (List.Perm.swap u x r)
theorem aBM (u:List (Nat × List UInt8)):(aDn u).Perm u:=by
 have key:∀ (u acc:List (Nat × List UInt8)),(u.foldl (fun out x=>aTI x out) acc).Perm (acc++u):=by
  intro u
  induction u with
  | nil=>intro acc;simp
  | cons x r ih =>
   intro acc
   simp only[List.foldl_cons]
   refine (ih _).trans ?_
   refine ((aLc x acc).append_right r).trans ?_
   simpa using (List.perm_middle (l₁:=acc) (a:=x) (l₂:=r)).symm
 simpa [aDn] using key u []
theorem aNa {u:Nat × List UInt8}:∀ {l:List (Nat × List UInt8)},rising l→(∀ x ∈ l,x.1≠u.1)→rising (aTI u l)
 | [],_,_=>⟨by simp,trivial⟩
 | x::r,h,hn=>by
  simp only[aTI]
  split
  ·rename_i hlt
   refine⟨fun q hq=>?_,h⟩
   rcases List.mem_cons.1 hq with rfl|hq
   ·exact hlt
   ·exact Nat.lt_trans hlt (h.1 q hq)
  ·rename_i hlt
   have hx:=hn x List.mem_cons_self
   refine⟨fun q hq=>?_,aNa h.2 fun y hy=>hn y (List.mem_cons_of_mem _ hy)⟩
   rcases List.mem_cons.1 ((aLc u r).mem_iff.1 hq) with rfl|hq
   ·omega
   ·exact h.1 q hq
theorem aCa {u:List (Nat × List UInt8)}(h:(u.map (·.1)).Nodup):rising (aDn u):=by
 have key:∀ (u acc:List (Nat × List UInt8)),rising acc→((acc++u).map (·.1)).Nodup→rising (u.foldl (fun out x=>aTI x out) acc):=by
  intro u
  induction u with
  | nil=>intro acc h _;exact h
  | cons x r ih =>
   intro acc ha hn
   simp only[List.foldl_cons]
   refine ih _ (aNa ha fun y hy e=>?_) ?_
   ·rw[List.map_append,List.nodup_append] at hn
    exact hn.2.2 y.1 (List.mem_map_of_mem hy) x.1 (by simp) e
   ·refine ((((aLc x acc).append_right r).trans ?_).map (·.1)).nodup_iff.2 hn
    simpa using (List.perm_middle (l₁:=acc) (a:=x) (l₂:=r)).symm
 exact key u [] trivial (by simpa using h)
section
variable {w:World}{Y:Nat→Prop}{b o n:Nat}{cs:List Value}{d:DD}{r:List DD}{v:Value}
theorem Cel.hd {x:Value}{c:List Value}(h:Cel w Y b o (x::c)):Cel w Y b o [x]:=fun j u hj=>by
 cases j with
 | zero=>exact h 0 u (by simpa using hj)
 | succ j=>simp at hj
theorem Cel.tl {x:Value}{c:List Value}(h:Cel w Y b o (x::c)):Cel w Y b (o+1) c:=fun j u hj=>by
 have:=h (j+1) u (by simpa using hj)
 rw[show o+1+j=o+(j+1) by omega]
 exact this
theorem Cel.fst {c d:List Value}(h:Cel w Y b o (c++d)):Cel w Y b o c:=fun j u hj=>h j u (by rw[List.getElem?_append_left (List.getElem?_eq_some_iff.1 hj).1];exact hj)
theorem Cel.snd {c d:List Value}(h:Cel w Y b o (c++d))(hl:c.length=n):Cel w Y b (o+n) d:=fun j u hj=>by
 have:=h (n+j) u (by rw[List.getElem?_append_right (by omega),hl,Nat.add_sub_cancel_left];exact hj)
 rw[show o+n+j=o+(n+j) by omega]
 exact this
theorem aBu (hC:Cel w Y b o cs)(hR:aCh w Y (.v v::r) cs):∃ c2,Cel w Y b o [v]∧Cel w Y b (o+1) c2∧aCh w Y r c2:=by
 obtain⟨c2,rfl,h⟩:=hR.unV
 exact⟨c2,hC.hd,hC.tl,h⟩
theorem aB1 (hd:aWQ d)(hC:Cel w Y b o cs)(hR:aCh w Y (d::r) cs):∃ x c2,Cel w Y b o [x]∧Cel w Y b (o+1) c2∧Rep w Y d [x]∧aCh w Y r c2:=by
 obtain⟨x,c2,rfl,h1,h⟩:=hR.un1 hd
 exact⟨x,c2,hC.hd,hC.tl,h1,h⟩
theorem aYp {s:List UInt8}{c:List Value}:aCh w Y (s.map ddB) c→c=bv s:=by
 induction s generalizing c with
 | nil=>intro h;simpa [aCh,bv] using h
 | cons x s ih =>
  intro h
  obtain⟨c2,rfl,h2⟩:=aCh.unV h
  rw[ih h2]
  rfl
theorem aSu {s:List UInt8}(hC:Cel w Y b o cs)(hR:aCh w Y (.agg ((sixteen s).map ddB)::r) cs):∃ c2,Cel w Y b o (bv (sixteen s))∧Cel w Y b (o+16) c2∧aCh w Y r c2:=by
 simp only[aCh] at hR
 obtain⟨c1,c2,rfl,h1,h2⟩:=hR
 have h3:=aYp (aA8 h1)
 subst h3
 exact⟨c2,hC.fst,hC.snd (by rw[aCV,aAK]),h2⟩
theorem aYH (hC:Cel w Y b o cs)(hR:aCh w Y (d::r) cs)(hn:∀ c,Rep w Y d c→c.length=n):∃ c1 c2,Cel w Y b o c1∧Cel w Y b (o+n) c2∧Rep w Y d c1∧aCh w Y r c2:=by
 simp only[aCh] at hR
 obtain⟨c1,c2,rfl,h1,h2⟩:=hR
 exact⟨c1,c2,hC.fst,hC.snd (hn _ h1),h1,h2⟩
end
def lzL (z:Bool)(l:List T):List T:=if z then [] else l
theorem aEM {w:World}{Y:Nat→Prop}{F:T→DD}{G:T→T}{l:List T}{z:Bool}{esz:Nat}{x:Value}(h:Rep w Y (if z then .v (.slice none 0 0) else .sl true esz (l.map F)) [x]) :
  ∃ sp cap,x=.slice sp ((lzL z l).map G).length cap∧sp.isNone=z∧Rep w Y (.sl false esz ((lzL z l).map F)) [.slice sp ((lzL z l).map G).length cap]:=by
 cases z with
 | true =>
  obtain rfl:=aEI h
  exact⟨none,0,rfl,rfl,by simp[Rep,lzL]⟩
 | false =>
  have h':Rep w Y (.sl true esz (l.map F)) [x]:=h
  rcases aLZ h' with ⟨h1,p,rfl,h2⟩|⟨b,off,cap,cs,rfl,h2,h3,h4⟩
  ·have hl:l=[]:=by simpa using h1
   subst hl
   cases p with
   | none=>exact absurd rfl (h2 rfl)
   | some a=>exact⟨some a,0,rfl,rfl,by simp[Rep,lzL]⟩
  ·refine⟨some ⟨b,off,none⟩,cap,by simp[lzL],rfl,?_⟩
   simp only[Rep]
   exact .inr ⟨b,off,cap,cs,by simp[lzL],by simpa [lzL] using h2,h3,by simpa [lzL] using h4⟩
theorem aBN {G:T→T}{l:List T}{j:Nat}(h:j<(l.map G).length):(l.map G).getD j T.nil=G (l.getD j T.nil):=by
 rw[List.length_map] at h
 simp[h]
theorem aDo {q:T}(h:q.fine=true)(j:Nat):((lzL q.z q.l).getD j T.nil).fine=true:=by
 unfold lzL
 split
 ·rfl
 ·exact aPo h j
theorem aCN {G:T→T}{q:T}(h:q.fine=true):((lzL q.z q.l).map G).length≤32767:=by
 rw[List.length_map]
 unfold lzL
 split
 ·simp
 ·exact (aAB h).2.1
theorem aDl {w:World}{Y:Nat→Prop}{F:T→DD}{l:List T}{esz n cap:Nat}{sp:Option Addr}(h:Rep w Y (.sl false esz (l.map F)) [.slice sp n cap]){j:Nat}(hj:j<l.length) :
  ∃ b o cs,sp=some ⟨b,o,none⟩∧Rep w Y (F (l.getD j T.nil)) cs∧Cel w Y b (o+j*esz) cs:=by
 obtain⟨_,b,o,cs,h1,_,h3,h4⟩:=aBa h (aBw F l j T.nil hj)
 exact⟨b,o,cs,h1,h3,h4⟩
theorem aA0 {α : Type}{a b : α}{l m:List α}(h:a=b)(k:l=m):a::l=b::m:=by rw[h,k]
theorem aR7 (q:T):aBK (q.n%2)=aBK (if (q.n%2==1) then 1 else 0):=by
 congr 1
 split
 ·rename_i h;exact eq_of_beq h
 ·rename_i h
  have:q.n%2≠1:=fun e=>h (by rw[e];rfl)
  omega
theorem aM8 {nu:Int}(q:T)(h : 0≤nu):(if 0≤nu∧q.z=true then ofNil else aCk q.s)=(if q.z then ofNil else aCk q.s):=by
 cases q.z<;>simp[h]
theorem aF8 {of:Nat}{fr to nu tag df:Int}{sub:List Fld}(q:T):aQk (.mk 11 fr to nu tag df of sub) q=.mk 0 [] q.z ((lzL q.z q.l).map (aE9 of (-1) (aCo sub))) []:=by
 rw[aM4]
 cases hz:q.z<;>simp[lzL,Fld.kind,Fld.of,Fld.sub]
def aHd (P:Program)(f:Nat)(fs:List Fld)(tg:Bool)(v0:Nat):Prop:=∀ {w0:World} {Y:Nat→Prop} {b off:Nat} {cs:List Value} {q:T},Cel w0 Y b (off+v0) cs→Rep w0 Y (ddS fs tg q) cs→q.fine=true →
 Ret P f [.pointer (some ⟨b,off,none⟩)] w0 fun v w'=>Agr Nob w0 w'∧∃ c',v=.agg c'.toArray∧Rep w' (fun i=>i<w0.heap.size∧Y i) (ddT (aCo fs q)) c'
end Go.Mk
namespace Go.Mk
open Go
theorem aB3 {n:Int}{s:List UInt8}{z:Bool}(h:s.length≤32767):(T.mk n s z [] []).sane=true:=aGH (by omega) (by simp) (by simp) (by simp) (by simp)
theorem aPx {kind:Nat}{null:Bool}{gp:T→T}{t:T}(hp:kind=10→(gp t).sane=true):(aLS kind null gp t).sane=true:=by
 unfold aLS
 split
 ·exact aB3 (by simp)
 ·exact aB3 (by rw[aAK];omega)
 ·split
  ·exact aB3 (by simp)
  ·exact aB3 (aBG _)
 ·split
  ·exact aB3 (by simp)
  ·exact aB3 (aBG _)
 ·exact hp rfl
 ·exact aB3 (by simp)
theorem aUb {f:Fld}{V:Int}{gp:T→T}{t:T}(ht:t.sane=true)(hp:∀ x,x.sane=true→(gp x).sane=true):(aVn f V gp t).sane=true:=by
 unfold aVn
 split
 ·refine aGH (by simp) ?_ (by simp) (by simp) ?_
  ·split
   ·simp
   ·rw[List.length_map];have:=aE6 t.l;omega
  ·intro x hx
   split at hx
   ·cases hx
   ·obtain⟨y,hy,rfl⟩:=List.mem_map.1 hx
    exact aPx fun _=>hp y ((aBD ht).2.2.2 y (List.mem_of_mem_take hy))
 ·split
  ·split
   ·exact aB3 (by simp)
   ·exact hp t ht
  ·exact aPx fun _=>hp t ht
theorem aWX:∀ f:Fld,aKh f=true→(dfF f).sane=true:=aEW fun f ih h=>by
 have ht:=aDT h
 cases f with
 | mk kind fr to nu tag df of sub =>
  unfold dfF
  split
  ·exact aB3 (by simp)
  ·split
   ·exact aB3 (by simp)
   ·split
    ·exact aB3 (by simp)
    ·split
     ·split
      ·exact aB3 (by simp)
      ·refine aGH (by simp) ?_ (by simp) (by simp) ?_
       ·rw[aKr];have:sub.length≤1000:=ht.2.2.2.1;omega
       ·intro x hx
        obtain⟨g,hg,rfl⟩:=aOP hx
        exact ih g hg (aBC ht.2.2.2.2 g hg)
     ·exact aB3 (by simp)
theorem aN0 {V:Int}{flex:Bool}:∀ {fs:List Fld} {l:List T} {i:Nat} {x:T},x ∈ aHB fs V flex l i→∃ f ∈ fs,∃ k,x=(if f.gets V flex (l.getD k T.nil) then aPm f V flex (l.getD k T.nil) else dfF f)
 | [],_,_,x,h=>by simp[aHB] at h
 | f::r,l,i,x,h=>by
  simp only[aHB,List.mem_cons] at h
  rcases h with rfl|h
  ·exact⟨f,List.mem_cons_self,_,rfl⟩
  ·obtain⟨g,hg,t,e⟩:=aN0 h
   exact⟨g,List.mem_cons_of_mem _ hg,t,e⟩
theorem aLO {fs:List Fld}{V:Int}{flex:Bool}(hl:fs.length≤1000)(ht:aFa fs=true)(hf:∀ f ∈ fs,∀ t:T,t.sane=true→(aPm f V flex t).sane=true)(t:T)(hs:t.sane=true):(aGb fs V flex t).sane=true:=by
 unfold aGb
 have htg:=Ea.tagsOk_fit fs hs
 refine aGH (by simp) (by rw[aJA];omega) ?_ ?_ ?_
 ·split
  ·have:=htg.2.1;omega
  ·simp
 ·intro p hp
  split at hp
  ·exact (htg.2.2 p hp).1
  ·cases hp
 ·intro x hx
  obtain⟨f,hm,k,rfl⟩:=aN0 hx
  split
  ·exact hf f hm _ (aIQ hs k)
  ·exact aWX f (aBC ht f hm)
theorem aT9 {V:Int}{flex:Bool}:∀ f:Fld,aKh f=true→∀ t:T,t.sane=true→(aPm f V flex t).sane=true:=aEW fun f ih h t hs=>by
 have ht:=aDT h
 rw[aOL]
 exact aUb hs fun x hx=>aLO ht.2.2.2.1 ht.2.2.2.2 (fun g hg=>ih g hg (aBC ht.2.2.2.2 g hg)) x hx
theorem aLd {fs:List Fld}{V:Int}{flex:Bool}(h:aFa fs=true)(hl:fs.length≤1000)(t:T)(hs:t.sane=true):(aGb fs V flex t).sane=true:=aLO hl h (fun f hf=>aT9 f (aBC h f hf)) t hs
theorem aQb {kind:Nat}{nu:Int}{pt:T→T}{q:T}(hq:q.sane=true)(hp:kind=10→(pt q).sane=true):(aE9 kind nu pt q).sane=true:=by
 have hs:=aBD hq
 unfold aE9
 split
 ·exact aB3 (by simp)
 ·exact aB3 (by rw[aAK];omega)
 ·split
  ·exact aB3 (by simp)
  ·exact aGH hs.1 (by simp) (by simp) (by simp) (by simp)
 ·refine aGH ?_ (by simp) (by simp) (by simp) (by simp)
  split
  ·simp
  ·exact hs.1
 ·split
  ·exact aB3 (by simp)
  ·exact hp rfl
 ·exact aB3 (by simp)
theorem aL5 {fs:List Fld}(hl:fs.length≤1000)(hf:∀ f ∈ fs,∀ q:T,q.sane=true→(aQk f q).sane=true)(q:T)(hq:q.sane=true):(aCo fs q).sane=true:=by
 have hs:=aBD hq
 unfold aCo
 refine aGH (by simp) (by rw[aGp];omega) ?_ ?_ ?_
 ·rw[(aBM q.u).length_eq];exact hs.2.2.1
 ·intro p hp
  exact aH8 hq p ((aBM q.u).mem_iff.1 hp)
 ·intro x hx
  obtain⟨g,hg,k,rfl⟩:=aKY hx
  exact hf g hg _ (aCG hs.2.2.2 k)
theorem aTU:∀ f:Fld,aKh f=true→∀ q:T,q.sane=true→(aQk f q).sane=true:=aEW fun f ih h q hq=>by
 have ht:=aDT h
 have hp:∀ q:T,q.sane=true→(aCo f.sub q).sane=true:=fun q hq=>aL5 ht.2.2.2.1 (fun g hg=>ih g hg (aBC ht.2.2.2.2 g hg)) q hq
 have hs:=aBD hq
 rw[aM4]
 split
 ·refine aGH (by simp) ?_ (by simp) (by simp) ?_
  ·split
   ·simp
   ·rw[List.length_map];exact hs.2.1
  ·intro x hx
   split at hx
   ·cases hx
   ·obtain⟨y,hy,rfl⟩:=List.mem_map.1 hx
    exact aQb (hs.2.2.2 y hy) fun _=>hp y (hs.2.2.2 y hy)
 ·exact aQb hq fun _=>hp q hq
theorem aKK {fs:List Fld}(h:aFa fs=true)(hl:fs.length≤1000)(q:T)(hq:q.sane=true):(aCo fs q).sane=true:=aL5 hl (fun f hf=>aTU f (aBC h f hf)) q hq
theorem aJZ {flex:Bool}{fs:List Fld}{V:Int}(ho:aHR fs=true)(hk:aL8 fs V flex=true)(t:T)(hsn:t.sane=true)(hlen:(aBk fs V flex t).length<4294967296):rdP fs V flex ⟨some (aBk fs V flex t),false⟩≠none:=fun h=>by
 have hp:=aPH ho hk t hsn hlen []
 rw[List.append_nil] at hp
 rw[hp] at h
 cases h
theorem aJL {gv:Value}{fs:List Fld}{tg flex:Bool}{V:Nat}{t:T}{g ety:Nat}{Y:Nat→Prop}{w0 w':World}{x:Value}(ho:aHR fs=true)(hk:aL8 fs V flex=true)(hsn:t.sane=true)(hlen:(aBk fs V flex t).length<4294967296)
  (h:Er.Told .nilIface gv fs tg V flex (some (aBk fs V flex t)) g ety Y w0 x w') :
  Agr (fun k=>k=g) w0 w'∧x=.nilIface∧∃ c',w'.heap[g]? = some (.cells (.int .i16 (V:Int)::c').toArray ety (0,0))∧Rep w' (fun b=>b<w0.heap.size∧Y b) (ddS fs tg (aGb fs V flex t)) c':=by
 obtain⟨h1,h2,-⟩:=h
 have hp:=aPH ho hk t hsn hlen []
 rw[List.append_nil] at hp
 obtain⟨h3,c',h4,h5⟩:=h2 _ _ hp rfl
 exact⟨h1,h3,c',h4,h5⟩
section
variable {P:Program}{a:Act}{w:World}{n:Nat}{l:List (Nat × Value)}
theorem aHN {w0:World}{X Z:Nat→Prop}{m:List Ent}{fn:Func}{s t u i b e:Nat}{cs:List Value}{v':Value}{R:Value→World→Prop}(hr:fn.results=#[.cell s t,.tmp u])(ht:aCm P t=some (true,cs.length))
  (hk:Kn n l a) (hm:Mem w0 X Z m w) (hv:look l s=some (.pointer (some ⟨b,0,none⟩))) (hv':look l u=some v') (hi:aBi m i=some (.blk b cs e)) (h:R (.tuple #[.agg cs.toArray,v']) w) :
  bodyPost P fn (fun e w'=>∃ v,e=.returned v∧R v w') .ret a w:=by
 refine bodyPost_ret (v:=.tuple #[.agg cs.toArray,v']) ?_ hk.defers ⟨_,rfl,h⟩
 have hc:=aEP (P:=P) (w:=w) (b:=b) (off:=0) (cs:=cs) (fun j u hj=>hm.cell_blk hi (by rw[Nat.zero_add];exact hj))
 have hs:a.tmps[s]?.getD undef=.pointer (some ⟨b,0,none⟩):=by rw[← Array.getD_eq_getD_getElem?];exact hk.at_ s _ hv
 have hu:a.tmps[u]?.getD undef=v':=by rw[← Array.getD_eq_getD_getElem?];exact hk.at_ u _ hv'
 simp[results,hr,hs,hu,asAddr,loadVar,aJV ht,aCw ht,hc]
end
end Go.Mk
namespace Go.Mk
open Go
section
variable {f:Fld}{V:Int}{flex:Bool}{t g:T}
def aOh (f:Fld)(V:Int)(flex:Bool)(t g:T)(k:Nat):Bool:=aHs (aKI f) V flex ((things t.l).getD k T.nil) (g.l.getD k T.nil)
def aHP (f:Fld)(V:Int)(flex:Bool)(t g:T):Bool :=
 if f.kind=11 then decide (g.l.length=(things t.l).length)&&(List.range (things t.l).length).all (aOh f V flex t g) else aNG f.kind (aH5 f.sub V flex) t g
theorem aNN {p:T→T→Bool}:∀ {l m:List T},m.length=l.length→aXz p l m=(List.range l.length).all (fun k=>p (l.getD k T.nil) (m.getD k T.nil))
 | [],[],_=>rfl
 | a::r,b::s,h=>by
  have ih:=aNN (p:=p) (l:=r) (m:=s) (by simpa using h)
  rw[aXz,ih,List.length_cons,List.range_succ_eq_map,List.all_cons,List.all_map]
  rfl
 | [],_::_,h=>by simp at h
 | _::_,[],h=>by simp at h
theorem aTQ (f:Fld)(V:Int):(aKI f).may V=false:=by simp[aKI,Fld.may,Fld.nu]
theorem aW0 (hof:f.of≤10)(x y:T):aHs (aKI f) V flex x y=if (decide (f.of=8)||decide (f.of=10))&&y.z then false else aNG f.of (aH5 f.sub V flex) x y:=by
 rw[aOm]
 unfold aTS
 rw[aS3,aTQ]
 have h1:(aKI f).kind=f.of:=rfl
 have h2:(aKI f).sub=f.sub:=rfl
 rw[h1,h2]
 have h3 : ¬ f.of=11:=by omega
 simp only[Bool.or_false,h3,if_false,Bool.false_eq_true]
 cases y.z<;>simp
theorem aKm (hof:f.of≤10):aHs f V flex t g=if (decide (f.kind=8)||decide (f.kind=10)||f.may V)&&(g.z != f.null V t) then false else if f.null V t then true else aHP f V flex t g:=by
 rw[aOm]
 unfold aTS aHP
 by_cases h11:f.kind=11
 ·rw[if_pos h11,if_pos h11]
  have e:(decide (g.l.length=(things t.l).length)&&aXz (fun x y=>if (decide (f.of=8)||decide (f.of=10))&&y.z then false else aNG f.of (aH5 f.sub V flex) x y) (things t.l) g.l) =
    (decide (g.l.length=(things t.l).length)&&(List.range (things t.l).length).all (aOh f V flex t g)):=by
   by_cases hl:g.l.length=(things t.l).length
   ·rw[aNN hl]
    congr 2
    funext k
    exact (aW0 hof _ _).symm
   ·rw[decide_eq_false hl];rfl
  rw[e]
 ·rw[if_neg h11,if_neg h11]
theorem aUx:f.may V=true ↔ (f.nu≥0∧V≥f.nu):=by unfold Fld.may;simp
theorem aU7 (hof:f.of≤10)(hA:f.kind=8∨f.kind=10∨(f.nu≥0∧V≥f.nu))(h:(g.z != f.null V t)=true):false=aHs f V flex t g:=by
 rw[aKm hof,h,Bool.and_true,if_pos]
 rcases hA with h|h|h
 ·simp[h]
 ·simp[h]
 ·simp[aUx.2 h]
theorem aTw (hof:f.of≤10)(h8:f.kind≠8)(h10:f.kind≠10)(hm : ¬ (f.nu≥0∧V≥f.nu)):aHs f V flex t g=if f.null V t then true else aHP f V flex t g:=by
 rw[aKm hof,if_neg]
 have:f.may V=false:=by
  cases h:f.may V with
  | false=>rfl
  | true=>exact absurd (aUx.1 h) hm
 simp[h8,h10,this]
theorem aUy (hof:f.of≤10)(h:(g.z != f.null V t)=false):aHs f V flex t g=if f.null V t then true else aHP f V flex t g:=by
 rw[aKm hof,h,Bool.and_false];rfl
theorem aRF (hk:f.kind=8∨f.kind=9):decide (g.s=whole t.s)=aHP f V flex t g:=by
 unfold aHP
 rw[if_neg (by omega)]
 rcases hk with h|h<;>rw[h]<;>rfl
theorem aTv (hk:f.kind=7):decide (g.s=sixteen t.s)=aHP f V flex t g:=by
 unfold aHP
 rw[if_neg (by omega),hk];rfl
theorem aSo (hk:f.kind=10):aH5 f.sub V flex t g=aHP f V flex t g:=by
 unfold aHP
 rw[if_neg (by omega),hk];rfl
theorem aUN (h7:f.kind≠7)(h8:f.kind≠8)(h9:f.kind≠9)(h10:f.kind≠10)(h11:f.kind≠11):((g.n:Int)==aC3 f.kind t.n)=aHP f V flex t g:=by
 unfold aHP
 rw[if_neg h11]
 unfold aNG
 split
 ·contradiction
 ·contradiction
 ·contradiction
 ·contradiction
 ·exact Bool.eq_iff_iff.2 (by simp)
theorem aJg (hk:f.kind=11)(h:(((g.l.length:Nat):Int) != (((things t.l).length:Nat):Int))=true):false=aHP f V flex t g:=by
 unfold aHP
 rw[if_pos hk]
 have : ¬ g.l.length=(things t.l).length:=fun e=>by rw[e] at h;simp at h
 rw[decide_eq_false this];rfl
theorem aHj {k:Nat}(hk:f.kind=11)(hlt:k<(things t.l).length)(h:(!aOh f V flex t g k)=true):false=aHP f V flex t g:=by
 unfold aHP
 rw[if_pos hk,aAR hlt ((Bool.not_eq_true' _).mp h),Bool.and_false]
theorem aKE (hk:f.kind=11)(h:(((g.l.length:Nat):Int) != (((things t.l).length:Nat):Int))=false)(hI:(List.range (things t.l).length).all (aOh f V flex t g)=true):true=aHP f V flex t g:=by
 unfold aHP
 rw[if_pos hk,hI,Bool.and_true]
 have:g.l.length=(things t.l).length:=by have:=bne_eq_false_iff_eq.1 h;omega
 rw[decide_eq_true this]
def aSX (f:Fld)(V:Int):Bool:=decide (f.nu≥0)&&decide (V≥f.nu)
def aJ8 (f:Fld)(V:Int)(t g:T):Bool:=((((f.kind:Nat):Int)==8)||(((f.kind:Nat):Int)==10)||aSX f V)&&(g.z != f.null V t)
theorem aUI (hof:f.of≤10)(h:aJ8 f V t g=true):false=aHs f V flex t g:=by
 unfold aJ8 aSX at h
 simp only[Bool.and_eq_true,Bool.or_eq_true,beq_iff_eq,decide_eq_true_eq] at h
 exact aU7 hof (by omega) h.2
theorem aW8 (hof:f.of≤10)(h:aJ8 f V t g=false):aHs f V flex t g=if f.null V t then true else aHP f V flex t g:=by
 cases hz:(g.z != f.null V t) with
 | false=>exact aUy hof hz
 | true =>
  unfold aJ8 aSX at h
  rw[hz,Bool.and_true] at h
  simp only[Bool.or_eq_false_iff,beq_eq_false_iff_ne,ne_eq,Bool.and_eq_false_iff,decide_eq_false_iff_not] at h
  exact aTw hof (by omega) (by omega) (by omega)
end
end Go.Mk
namespace Go.Mk
open Go
section
variable {fs:List Fld}{V:Int}{flex:Bool}{t g:T}
def aVv (fs:List Fld)(V:Int)(flex:Bool)(t g:T)(j:Nat):Bool:=if (fs.getD j aAm).gets V flex (t.at_ j) then aHs (fs.getD j aAm) V flex (t.at_ j) (g.l.getD j T.nil) else aFd (fs.getD j aAm) (g.l.getD j T.nil)
theorem aL1:∀ (fs:List Fld) (l m:List T) (i:Nat),aK3 fs V flex l m i=(List.range fs.length).all (fun j=>if (fs.getD j aAm).gets V flex (l.getD (i+j) T.nil) then aHs (fs.getD j aAm) V flex (l.getD (i+j) T.nil) (m.getD (i+j) T.nil) else aFd (fs.getD j aAm) (m.getD (i+j) T.nil))
 | [],_,_,_=>by simp[aK3]
 | f::r,l,m,i=>by
  rw[aK3,aL1 r l m (i+1),List.length_cons,List.range_succ_eq_map,List.all_cons,List.all_map]
  congr 1
  congr 1
  funext j
  simp only[Function.comp,List.getD_cons_succ]
  rw[show i+1+j=i+(j+1) by omega]
theorem aST (fs:List Fld)(t g:T):aK3 fs V flex t.l g.l 0=(List.range fs.length).all (aVv fs V flex t g):=by
 rw[aL1]
 congr 1
 funext j
 rw[Nat.zero_add];rfl
def tgL (fs:List Fld)(flex:Bool)(t:T):List (Nat × List UInt8):=if flex then aAo fs t.u else []
def aTs (L:List (Nat × List UInt8))(g:T)(k:Nat):Bool:=decide ((g.u.getD k (0,[])).1=(L.getD k (0,[])).1)&&decide ((g.u.getD k (0,[])).2=whole (L.getD k (0,[])).2)
theorem bAP:∀ {u L:List (Nat × List UInt8)},u.length=L.length→((u=L.map aRG) ↔ (List.range L.length).all (fun k=>decide ((u.getD k (0,[])).1=(L.getD k (0,[])).1)&&decide ((u.getD k (0,[])).2=whole (L.getD k (0,[])).2))=true)
 | [],[],_=>by simp
 | a::r,b::s,h=>by
  have ih:=bAP (u:=r) (L:=s) (by simpa using h)
  rw[List.length_cons,List.range_succ_eq_map,List.all_cons,List.all_map,List.map_cons,List.cons.injEq,ih,Bool.and_eq_true]
  refine and_congr ?_ Iff.rfl
  obtain⟨a1,a2⟩:=a
  obtain⟨b1,b2⟩:=b
  simp[aRG]
 | [],_::_,h=>by simp at h
 | _::_,[],h=>by simp at h
theorem aLa:aH5 fs V flex t g=(decide (g.l.length=fs.length)&&(List.range fs.length).all (aVv fs V flex t g)&&(decide (g.u.length=(tgL fs flex t).length)&&(List.range (tgL fs flex t).length).all (aTs (tgL fs flex t) g))):=by
 unfold aH5
 rw[aST]
 congr 1
 have e:(if flex then aUf fs t.u else [])=(tgL fs flex t).map aRG:=by
  unfold tgL
  cases flex with
  | true=>exact aQI fs t.u
  | false=>rfl
 rw[e]
 by_cases hl:g.u.length=(tgL fs flex t).length
 ·rw[decide_eq_true hl,Bool.true_and]
  exact Bool.eq_iff_iff.2 (by rw[decide_eq_true_eq];exact bAP hl)
 ·rw[decide_eq_false hl,Bool.false_and,decide_eq_false]
  intro h
  rw[h] at hl
  simp at hl
theorem aNc (h:(((g.l.length:Nat):Int) != ((fs.length:Nat):Int))=true):false=aH5 fs V flex t g:=by
 rw[aLa]
 have : ¬ g.l.length=fs.length:=fun e=>by rw[e] at h;simp at h
 rw[decide_eq_false this];rfl
theorem aIO {k:Nat}(hlt:k<fs.length)(h:aVv fs V flex t g k=false):false=aH5 fs V flex t g:=by
 rw[aLa,aAR hlt h,Bool.and_false,Bool.false_and]
theorem aLt (h:(((g.u.length:Nat):Int) != (((tgL fs flex t).length:Nat):Int))=true):false=aH5 fs V flex t g:=by
 rw[aLa]
 have : ¬ g.u.length=(tgL fs flex t).length:=fun e=>by rw[e] at h;simp at h
 rw[decide_eq_false this,Bool.false_and,Bool.and_false]
theorem aNK {k:Nat}(hlt:k<(tgL fs flex t).length)(h:aTs (tgL fs flex t) g k=false):false=aH5 fs V flex t g:=by
 rw[aLa,aAR hlt h,Bool.and_false,Bool.and_false]
theorem aTZ (h1:(((g.l.length:Nat):Int) != ((fs.length:Nat):Int))=false)(h2:(List.range fs.length).all (aVv fs V flex t g)=true)(h3:(((g.u.length:Nat):Int) != (((tgL fs flex t).length:Nat):Int))=false)(h4:(List.range (tgL fs flex t).length).all (aTs (tgL fs flex t) g)=true):true=aH5 fs V flex t g:=by
 rw[aLa,h2,h4]
 have e1:g.l.length=fs.length:=by have:=bne_eq_false_iff_eq.1 h1;omega
 have e3:g.u.length=(tgL fs flex t).length:=by have:=bne_eq_false_iff_eq.1 h3;omega
 rw[decide_eq_true e1,decide_eq_true e3];rfl
theorem aHJ {k:Nat}(h:(fs.getD k aAm).gets V flex (t.at_ k)=true):aVv fs V flex t g k=aHs (fs.getD k aAm) V flex (t.at_ k) (g.l.getD k T.nil):=by unfold aVv;rw[if_pos h]
theorem aHC {k:Nat}(h:(fs.getD k aAm).gets V flex (t.at_ k)=false):aVv fs V flex t g k=aFd (fs.getD k aAm) (g.l.getD k T.nil):=by unfold aVv;rw[if_neg (by rw[h];exact Bool.false_ne_true)]
theorem aLM {f:Fld}{x:T}:(([]:List (Nat × List UInt8)).isEmpty&&aIS [f] [x] 0)=aFd f x:=by simp[aIS]
theorem aYc {L:List (Nat × List UInt8)}{k:Nat}(h1:((((g.u.getD k (0,[])).1:Nat):Int) != (((L.getD k (0,[])).1:Nat):Int))=false)(h2:(!decide ((g.u.getD k (0,[])).2=whole (L.getD k (0,[])).2))=false):aTs L g k=true:=by
 unfold aTs
 have e1:=bne_eq_false_iff_eq.1 h1
 rw[decide_eq_true (by omega),Bool.true_and]
 exact (Bool.not_eq_false' _).mp h2
theorem aP0 {L:List (Nat × List UInt8)}{k:Nat}(h1:((((g.u.getD k (0,[])).1:Nat):Int) != (((L.getD k (0,[])).1:Nat):Int))=true):aTs L g k=false:=by
 unfold aTs
 have e1:=bne_iff_ne.1 h1
 rw[decide_eq_false (by omega),Bool.false_and]
theorem aPr {L:List (Nat × List UInt8)}{k:Nat}(h2:(!decide ((g.u.getD k (0,[])).2=whole (L.getD k (0,[])).2))=true):aTs L g k=false:=by
 unfold aTs
 rw[(Bool.not_eq_true' _).mp h2,Bool.and_false]
theorem aT6 (h:g.small=true)(k:Nat):(g.u.getD k (0,[])).2.length<4611686018427387904:=by
 rw[List.getD_eq_getElem?_getD]
 cases hk:g.u[k]? with
 | none=>simp
 | some x =>
  have:=(aLJ h).2.2.2.1 x (List.mem_of_getElem? hk)
  simp only[Option.getD_some]
  omega
end
section
variable {f:Fld}{V:Int}{flex:Bool}{x:T}
theorem aIM (h1:decide (f.tag<0)=true)(h2:f.has V=true):(Value.bool true)=.bool (f.gets V flex x):=by rw[aQX (of_decide_eq_true h1),h2]
theorem aKf (h1:decide (f.tag<0)=true)(h2:f.has V=false):(Value.bool false)=.bool (f.gets V flex x):=by rw[aQX (of_decide_eq_true h1),h2]
theorem aRK (h1:decide (f.tag<0)=false):f.gets V flex x=(flex&&!aD8 f x):=by
 have h2:=of_decide_eq_false h1
 unfold Fld.gets Fld.inl
 rw[h1,decide_eq_true (show 0≤f.tag by omega),Bool.false_and,Bool.false_or,Bool.true_and]
theorem aFX (h1:decide (f.tag<0)=false)(h2:flex=false):(Value.bool false)=.bool (f.gets V flex x):=by rw[aRK h1,h2];rfl
theorem aG2 (h1:decide (f.tag<0)=false)(h2:flex=true):(Value.bool (!aD8 f x))=.bool (f.gets V flex x):=by rw[aRK h1,h2];rfl
theorem aIG {a b:Value}(h1:decide (f.tag<0)=true)(h2:decide (f.tag≥0)=true):a=b:=by
 have h3:=of_decide_eq_true h1
 have h4:=of_decide_eq_true h2
 omega
theorem aHk {a b:Value}(h1:decide (f.tag<0)=false)(h2:decide (f.tag≥0)=false):a=b:=by
 have h3:=of_decide_eq_false h1
 have h4:=of_decide_eq_false h2
 omega
end
end Go.Mk
