/- Walks of functions that the seat's laws reach. -/
import Derived.Test.YtipgdlbbmlnfiaaGreatDoorL5
import Derived.Test.YtipgdlbbmlnfiaaGreatDoorRows
import Derived.Test.YtipgdlbbmlnfiaaGreatDoorFa
import Derived.Test.YtipgdlbbmlnfiaaGreatDoorTt
import Derived.Test.YtipgdlbbmlnfiaaGreatDoorTf
import Derived.Test.YtipgdlbbmlnfiaaGreatDoorTg2
import Derived.Test.YtipgdlbbmlnfiaaGreatDoorTh
import Derived.Test.YtipgdlbbmlnfiaaGreatDoorSch
namespace Go.Proofs.YtipgdlbbmlnfiaaGreatDoor
open Go Go.Mk
theorem aB5 (q:T):ddS aAj true q=.agg [.v (.int .i32 (IntKind.i32.wrap (q.at_ 0).n)),.v (.int .i16 (IntKind.i16.wrap (q.at_ 1).n)),.v (.int .i32 (IntKind.i32.wrap (q.at_ 2).n)),.v (.int .i32 (IntKind.i32.wrap (q.at_ 3).n)),aAN q.u]:=rfl
theorem aDC (q:T):aCo aAj q=.mk 0 [] false [aBK (IntKind.i32.wrap (q.at_ 0).n),aBK (IntKind.i16.wrap (q.at_ 1).n),aBK (IntKind.i32.wrap (q.at_ 2).n),aBK (IntKind.i32.wrap (q.at_ 3).n)] (aDn q.u):=congrArg (fun l=>T.mk 0 [] false l (aDn q.u)) (aA0 rfl (aA0 rfl (aA0 rfl (aA0 rfl (rfl)))))
theorem aD5:aJ2 Tryz.prog 37 69 154:=by
 intro w S k SE tb YE us p lv x h1 h2 h3 h4 h5 h6 h7 h8 h9
 refine aAy Tryz.func154 rfl rfl fun a hk=>?_
 have hk:Kn 14 [(0,.int .u32 (p.1:Int)),(1,x),(2,.pointer (some ⟨tb,0,none⟩))] a:=hk
 exact aG9 (s:=5) aAQ aDt rfl rfl (by kernel_rfl) (by kernel_rfl) (by decide) (by decide) h1 h2 h3 h4 h5 h6 h7 h8 h9 hk
theorem aBZ:aHd Tryz.prog 123 aAj true 0:=by
 intro w0 Y b off cs q hC hR hq
 rw[aDC]
 refine aAy Tryz.func123 rfl rfl fun a hk=>?_
 have hk:Kn 51 [(0,.pointer (some ⟨b,off,none⟩))] a:=hk
 refine aDE (m:=4) (su:=4) (sv:=5) aAQ aJt (by decide) rfl (by decide) (by decide) (by decide) (by decide) (by decide) (by decide) hC hR hk fun a w1 w rb tb bb Y1 hb hC hR hk ht=>?_
 rw[aB5] at hR
 have hR:=aA8 hR
 obtain⟨c0,C0,hC,hR⟩:=aBu hC hR
 obtain⟨c1,C1,hC,hR⟩:=aBu hC hR
 obtain⟨c2,C2,hC,hR⟩:=aBu hC hR
 obtain⟨c3,C3,hC,hR⟩:=aBu hC hR
 obtain⟨xt,ct,Ct,hC,rt,hR⟩:=aB1 (aC0 _ _) hC hR
 refine aDU (s:=6) (k:=0)  aAQ rfl rfl (by kernel_rfl) (by kernel_rfl) (by decide) (by decide) (by decide) aVj aIe aI7 aKJ (aAU .i32 (by simp)) (fun _ _ _ _ _ h=>h) C0 hk ht fun a w hk ht=>?_
 refine aDU (s:=15) (k:=1)  aAQ rfl rfl (by kernel_rfl) (by kernel_rfl) (by decide) (by decide) (by decide) aVF aMb aKQ aKJ (aAU .i16 (by simp)) (fun _ _ _ _ _ h=>h) C1 hk ht fun a w hk ht=>?_
 refine aDU (s:=24) (k:=2)  aAQ rfl rfl (by kernel_rfl) (by kernel_rfl) (by decide) (by decide) (by decide) aWd aIe aI7 aKJ (aAU .i32 (by simp)) (fun _ _ _ _ _ h=>h) C2 hk ht fun a w hk ht=>?_
 refine aDU (s:=33) (k:=3)  aAQ rfl rfl (by kernel_rfl) (by kernel_rfl) (by decide) (by decide) (by decide) aVq aIe aI7 aKJ (aAU .i32 (by simp)) (fun _ _ _ _ _ h=>h) C3 hk ht fun a w hk ht=>?_
 exact aHa (s:=42) (fE:=67) (fS:=69) (g:=154) aAQ aDt aEz aKi aCA aKw aD5 bAq rfl rfl (fun h=>Bool.noConfusion h) (by decide) (by decide) (by decide) aWU Ct rt (aAB hq).2.2.2.2.1 (aAB hq).2.2.1 (aAB hq).2.2.2.1 (aBM _) (aCa (aAB hq).2.2.2.2.1) hb hk ht
theorem aI9 (q:T){w:World}{Y:Nat→Prop}:∀ c,Rep w Y (ddS aAj true q) c→c.length=5:=by
 intro c h
 rw[aB5] at h
 have h0:=aA8 h
 clear h
 obtain⟨c1,rfl,h1⟩:=h0.unV
 clear h0
 obtain⟨c2,rfl,h2⟩:=h1.unV
 clear h1
 obtain⟨c3,rfl,h3⟩:=h2.unV
 clear h2
 obtain⟨c4,rfl,h4⟩:=h3.unV
 clear h3
 obtain⟨x,c5,rfl,_,h5⟩:=h4.un1 (aC0 _ _)
 have e:c5=[]:=by simpa [aCh] using h5
 rw[e];rfl
theorem aFH (q:T):ddS aAs true q=.agg [.v (.string (bs (q.at_ 0).s)),if (q.at_ 1).z then .v (.slice none 0 0) else .sl true 5 ((q.at_ 1).l.map (ddS aAj true)),aAN q.u]:=rfl
theorem aFi (q:T):aCo aAs q=.mk 0 [] false [aCk (q.at_ 0).s,.mk 0 [] (q.at_ 1).z ((lzL (q.at_ 1).z (q.at_ 1).l).map (aE9 10 (-1) (aCo aAj))) []] (aDn q.u):=congrArg (fun l=>T.mk 0 [] false l (aDn q.u)) (aA0 rfl (aA0 (aF8 _) (rfl)))
theorem aFG:aJ2 Tryz.prog 37 69 124:=by
 intro w S k SE tb YE us p lv x h1 h2 h3 h4 h5 h6 h7 h8 h9
 refine aAy Tryz.func124 rfl rfl fun a hk=>?_
 have hk:Kn 14 [(0,.int .u32 (p.1:Int)),(1,x),(2,.pointer (some ⟨tb,0,none⟩))] a:=hk
 exact aG9 (s:=5) aAQ aDt rfl rfl (by kernel_rfl) (by kernel_rfl) (by decide) (by decide) h1 h2 h3 h4 h5 h6 h7 h8 h9 hk
theorem aCW:aHd Tryz.prog 81 aAs true 0:=by
 intro w0 Y b off cs q hC hR hq
 rw[aFi]
 refine aAy Tryz.func81 rfl rfl fun a hk=>?_
 have hk:Kn 81 [(0,.pointer (some ⟨b,off,none⟩))] a:=hk
 refine aDE (m:=2) (su:=5) (sv:=6) aAQ aJt (by decide) rfl (by decide) (by decide) (by decide) (by decide) (by decide) (by decide) hC hR hk fun a w1 w rb tb bb Y1 hb hC hR hk ht=>?_
 rw[aFH] at hR
 have hR:=aA8 hR
 obtain⟨c0,C0,hC,hR⟩:=aBu hC hR
 obtain⟨x1,c1,C1,hC,r1,hR⟩:=aB1 (aEv (aH9 _) (aFo _ _ _)) hC hR
 obtain⟨xt,ct,Ct,hC,rt,hR⟩:=aB1 (aC0 _ _) hC hR
 refine aKa (s:=7) (k:=0)  aAQ rfl rfl (by kernel_rfl) (by kernel_rfl) (by decide) (by decide) (by decide) aWO aVe aS5 aLp (fun _ _ _ _ _ h=>h) C0 hk ht fun a w hk ht=>?_
 obtain⟨sp1,cap1,rfl,hz1,r1⟩:=aEM (G:=(aE9 10 (-1) (aCo aAj))) r1
 refine aHQ (s:=16) (k:=1)  aAQ rfl rfl (by kernel_rfl) (by kernel_rfl) (by decide) (by decide) (by decide) aMc aR9 aRN aHp (fun _ _ _ _ _ h=>h) C1 hk ht fun a w hk ht=>?_
 refine aHU (s:=25) (k:=1) (iv:=4) (tz:=71) (tsl:=(lzL (q.at_ 1).z (q.at_ 1).l).map (aE9 10 (-1) (aCo aAj))) aAQ aVf aHp rfl (by kernel_rfl) (by kernel_rfl) (by kernel_rfl) (by kernel_rfl) (by decide) (by decide) (by decide) (by decide) (by decide) (aCN (aA3 hq 1)) aMc aR9 aRN (fun _ _ _ _ _ h=>h) C1 hk ht ?_ ?_ fun a w hk ht=>?_
 ·intro Q j a w hj hQ hk ht K
  obtain⟨b2,o2,c2,rfl,hE,hCE⟩:=aDl r1 (j:=j) (by simpa using hj)
  exact aEJ (p:=35) (s:=25) (k:=1) rfl rfl (by kernel_rfl) (by kernel_rfl) (by kernel_rfl) (by kernel_rfl) aAQ aJt (by decide) rfl (by decide) (by decide) (by decide) (by decide) hj (aCN (aA3 hq 1)) aMc aR9 aRN aXO aXW (fun hm=>by rw[aBN hj];exact aBZ (aDe hm hCE) (aDS hm hE) (aDo (aA3 hq 1) j)) hQ C1 hk ht K
 ·intro Q j a w hj hQ hk ht K
  obtain⟨b2,o2,c2,rfl,hE,hCE⟩:=aDl r1 (j:=j) (by simpa using hj)
  exact aEE (p:=53) (s:=25) (k:=1) (by decide) rfl (by kernel_rfl) (by kernel_rfl) aAQ aJt (by decide) rfl (by decide) (by decide) (by decide) (by decide) hj (aCN (aA3 hq 1)) aMc aR9 aRN aXO aXW (fun hm=>by rw[aBN hj];exact aBZ (aDe hm hCE) (aDS hm hE) (aDo (aA3 hq 1) j)) hQ C1 hk ht K
 rw[hz1] at ht
 exact aHa (s:=72) (fE:=67) (fS:=69) (g:=124) aAQ aDt aEz aKi aCA aKw aFG aZ6 rfl rfl (fun h=>Bool.noConfusion h) (by decide) (by decide) (by decide) aV6 Ct rt (aAB hq).2.2.2.2.1 (aAB hq).2.2.1 (aAB hq).2.2.2.1 (aBM _) (aCa (aAB hq).2.2.2.2.1) hb hk ht
theorem aCg (q:T):ddS aAl true q=.agg [.v (.int .i32 (IntKind.i32.wrap (q.at_ 0).n)),.v (.string (bs (q.at_ 1).s)),.v (.int .u16 (IntKind.u16.wrap (q.at_ 2).n)),aAN q.u]:=rfl
theorem aDY (q:T):aCo aAl q=.mk 0 [] false [aBK (IntKind.i32.wrap (q.at_ 0).n),aCk (q.at_ 1).s,aBK (IntKind.u16.wrap (q.at_ 2).n)] (aDn q.u):=congrArg (fun l=>T.mk 0 [] false l (aDn q.u)) (aA0 rfl (aA0 rfl (aA0 rfl (rfl))))
theorem aEj:aJ2 Tryz.prog 37 69 125:=by
 intro w S k SE tb YE us p lv x h1 h2 h3 h4 h5 h6 h7 h8 h9
 refine aAy Tryz.func125 rfl rfl fun a hk=>?_
 have hk:Kn 14 [(0,.int .u32 (p.1:Int)),(1,x),(2,.pointer (some ⟨tb,0,none⟩))] a:=hk
 exact aG9 (s:=5) aAQ aDt rfl rfl (by kernel_rfl) (by kernel_rfl) (by decide) (by decide) h1 h2 h3 h4 h5 h6 h7 h8 h9 hk
theorem aCd:aHd Tryz.prog 82 aAl true 0:=by
 intro w0 Y b off cs q hC hR hq
 rw[aDY]
 refine aAy Tryz.func82 rfl rfl fun a hk=>?_
 have hk:Kn 42 [(0,.pointer (some ⟨b,off,none⟩))] a:=hk
 refine aDE (m:=3) (su:=4) (sv:=5) aAQ aJt (by decide) rfl (by decide) (by decide) (by decide) (by decide) (by decide) (by decide) hC hR hk fun a w1 w rb tb bb Y1 hb hC hR hk ht=>?_
 rw[aCg] at hR
 have hR:=aA8 hR
 obtain⟨c0,C0,hC,hR⟩:=aBu hC hR
 obtain⟨c1,C1,hC,hR⟩:=aBu hC hR
 obtain⟨c2,C2,hC,hR⟩:=aBu hC hR
 obtain⟨xt,ct,Ct,hC,rt,hR⟩:=aB1 (aC0 _ _) hC hR
 refine aDU (s:=6) (k:=0)  aAQ rfl rfl (by kernel_rfl) (by kernel_rfl) (by decide) (by decide) (by decide) aW6 aIe aI7 aKJ (aAU .i32 (by simp)) (fun _ _ _ _ _ h=>h) C0 hk ht fun a w hk ht=>?_
 refine aKa (s:=15) (k:=1)  aAQ rfl rfl (by kernel_rfl) (by kernel_rfl) (by decide) (by decide) (by decide) aWK aVe aS5 aLp (fun _ _ _ _ _ h=>h) C1 hk ht fun a w hk ht=>?_
 refine aDU (s:=24) (k:=2)  aAQ rfl rfl (by kernel_rfl) (by kernel_rfl) (by decide) (by decide) (by decide) aWf aZJ aV4 aKJ (aAU .u16 (by simp)) (fun _ _ _ _ _ h=>h) C2 hk ht fun a w hk ht=>?_
 exact aHa (s:=33) (fE:=67) (fS:=69) (g:=125) aAQ aDt aEz aKi aCA aKw aEj bAV rfl rfl (fun h=>Bool.noConfusion h) (by decide) (by decide) (by decide) aWP Ct rt (aAB hq).2.2.2.2.1 (aAB hq).2.2.1 (aAB hq).2.2.2.1 (aBM _) (aCa (aAB hq).2.2.2.2.1) hb hk ht
theorem aJh (q:T){w:World}{Y:Nat→Prop}:∀ c,Rep w Y (ddS aAl true q) c→c.length=4:=by
 intro c h
 rw[aCg] at h
 have h0:=aA8 h
 clear h
 obtain⟨c1,rfl,h1⟩:=h0.unV
 clear h0
 obtain⟨c2,rfl,h2⟩:=h1.unV
 clear h1
 obtain⟨c3,rfl,h3⟩:=h2.unV
 clear h2
 obtain⟨x,c4,rfl,_,h4⟩:=h3.un1 (aC0 _ _)
 have e:c4=[]:=by simpa [aCh] using h4
 rw[e];rfl
theorem aHA (q:T):ddS aAc true q=.agg [.v (.int .i16 (IntKind.i16.wrap (q.at_ 0).n)),if (q.at_ 1).z then .v (.slice none 0 0) else .sl true 3 ((q.at_ 1).l.map (ddS aAs true)),if (q.at_ 2).z then .v (.slice none 0 0) else .sl true 4 ((q.at_ 2).l.map (ddS aAl true)),aAN q.u]:=rfl
theorem aGX (q:T):aCo aAc q=.mk 0 [] false [aBK (IntKind.i16.wrap (q.at_ 0).n),.mk 0 [] (q.at_ 1).z ((lzL (q.at_ 1).z (q.at_ 1).l).map (aE9 10 (-1) (aCo aAs))) [],.mk 0 [] (q.at_ 2).z ((lzL (q.at_ 2).z (q.at_ 2).l).map (aE9 10 (-1) (aCo aAl))) []] (aDn q.u):=congrArg (fun l=>T.mk 0 [] false l (aDn q.u)) (aA0 rfl (aA0 (aF8 _) (aA0 (aF8 _) (rfl))))
theorem aHy:aJ2 Tryz.prog 37 69 83:=by
 intro w S k SE tb YE us p lv x h1 h2 h3 h4 h5 h6 h7 h8 h9
 refine aAy Tryz.func83 rfl rfl fun a hk=>?_
 have hk:Kn 14 [(0,.int .u32 (p.1:Int)),(1,x),(2,.pointer (some ⟨tb,0,none⟩))] a:=hk
 exact aG9 (s:=5) aAQ aDt rfl rfl (by kernel_rfl) (by kernel_rfl) (by decide) (by decide) h1 h2 h3 h4 h5 h6 h7 h8 h9 hk
theorem aG1:aHd Tryz.prog 48 aAc true 1:=by
 intro w0 Y b off cs q hC hR hq
 rw[aGX]
 refine aAy Tryz.func48 rfl rfl fun a hk=>?_
 have hk:Kn 138 [(0,.pointer (some ⟨b,off,none⟩))] a:=hk
 refine aDE (m:=3) (su:=6) (sv:=7) aAQ aJt (by decide) rfl (by decide) (by decide) (by decide) (by decide) (by decide) (by decide) hC hR hk fun a w1 w rb tb bb Y1 hb hC hR hk ht=>?_
 rw[aHA] at hR
 have hR:=aA8 hR
 obtain⟨c0,C0,hC,hR⟩:=aBu hC hR
 obtain⟨x1,c1,C1,hC,r1,hR⟩:=aB1 (aEv (aH9 _) (aFo _ _ _)) hC hR
 obtain⟨x2,c2,C2,hC,r2,hR⟩:=aB1 (aEv (aH9 _) (aFo _ _ _)) hC hR
 obtain⟨xt,ct,Ct,hC,rt,hR⟩:=aB1 (aC0 _ _) hC hR
 refine aDU (s:=8) (k:=0)  aAQ rfl rfl (by kernel_rfl) (by kernel_rfl) (by decide) (by decide) (by decide) aVX aMb aKQ aKJ (aAU .i16 (by simp)) (fun _ _ _ _ _ h=>h) C0 hk ht fun a w hk ht=>?_
 obtain⟨sp1,cap1,rfl,hz1,r1⟩:=aEM (G:=(aE9 10 (-1) (aCo aAs))) r1
 refine aHQ (s:=17) (k:=1)  aAQ rfl rfl (by kernel_rfl) (by kernel_rfl) (by decide) (by decide) (by decide) aMp aRI aRY aHp (fun _ _ _ _ _ h=>h) C1 hk ht fun a w hk ht=>?_
 refine aHU (s:=26) (k:=1) (iv:=4) (tz:=72) (tsl:=(lzL (q.at_ 1).z (q.at_ 1).l).map (aE9 10 (-1) (aCo aAs))) aAQ aVf aHp rfl (by kernel_rfl) (by kernel_rfl) (by kernel_rfl) (by kernel_rfl) (by decide) (by decide) (by decide) (by decide) (by decide) (aCN (aA3 hq 1)) aMp aRI aRY (fun _ _ _ _ _ h=>h) C1 hk ht ?_ ?_ fun a w hk ht=>?_
 ·intro Q j a w hj hQ hk ht K
  obtain⟨b2,o2,c2,rfl,hE,hCE⟩:=aDl r1 (j:=j) (by simpa using hj)
  exact aEJ (p:=36) (s:=26) (k:=1) rfl rfl (by kernel_rfl) (by kernel_rfl) (by kernel_rfl) (by kernel_rfl) aAQ aJt (by decide) rfl (by decide) (by decide) (by decide) (by decide) hj (aCN (aA3 hq 1)) aMp aRI aRY aXS bAL (fun hm=>by rw[aBN hj];exact aCW (aDe hm hCE) (aDS hm hE) (aDo (aA3 hq 1) j)) hQ C1 hk ht K
 ·intro Q j a w hj hQ hk ht K
  obtain⟨b2,o2,c2,rfl,hE,hCE⟩:=aDl r1 (j:=j) (by simpa using hj)
  exact aEE (p:=54) (s:=26) (k:=1) (by decide) rfl (by kernel_rfl) (by kernel_rfl) aAQ aJt (by decide) rfl (by decide) (by decide) (by decide) (by decide) hj (aCN (aA3 hq 1)) aMp aRI aRY aXS bAL (fun hm=>by rw[aBN hj];exact aCW (aDe hm hCE) (aDS hm hE) (aDo (aA3 hq 1) j)) hQ C1 hk ht K
 rw[hz1] at ht
 obtain⟨sp2,cap2,rfl,hz2,r2⟩:=aEM (G:=(aE9 10 (-1) (aCo aAl))) r2
 refine aHQ (s:=73) (k:=2)  aAQ rfl rfl (by kernel_rfl) (by kernel_rfl) (by decide) (by decide) (by decide) aMn aSq aR2 aHp (fun _ _ _ _ _ h=>h) C2 hk ht fun a w hk ht=>?_
 refine aHU (s:=82) (k:=2) (iv:=5) (tz:=128) (tsl:=(lzL (q.at_ 2).z (q.at_ 2).l).map (aE9 10 (-1) (aCo aAl))) aAQ aVf aHp rfl (by kernel_rfl) (by kernel_rfl) (by kernel_rfl) (by kernel_rfl) (by decide) (by decide) (by decide) (by decide) (by decide) (aCN (aA3 hq 2)) aMn aSq aR2 (fun _ _ _ _ _ h=>h) C2 hk ht ?_ ?_ fun a w hk ht=>?_
 ·intro Q j a w hj hQ hk ht K
  obtain⟨b2,o2,c2,rfl,hE,hCE⟩:=aDl r2 (j:=j) (by simpa using hj)
  exact aEJ (p:=92) (s:=82) (k:=2) rfl rfl (by kernel_rfl) (by kernel_rfl) (by kernel_rfl) (by kernel_rfl) aAQ aJt (by decide) rfl (by decide) (by decide) (by decide) (by decide) hj (aCN (aA3 hq 2)) aMn aSq aR2 aXv bAT (fun hm=>by rw[aBN hj];exact aCd (aDe hm hCE) (aDS hm hE) (aDo (aA3 hq 2) j)) hQ C2 hk ht K
 ·intro Q j a w hj hQ hk ht K
  obtain⟨b2,o2,c2,rfl,hE,hCE⟩:=aDl r2 (j:=j) (by simpa using hj)
  exact aEE (p:=110) (s:=82) (k:=2) (by decide) rfl (by kernel_rfl) (by kernel_rfl) aAQ aJt (by decide) rfl (by decide) (by decide) (by decide) (by decide) hj (aCN (aA3 hq 2)) aMn aSq aR2 aXv bAT (fun hm=>by rw[aBN hj];exact aCd (aDe hm hCE) (aDS hm hE) (aDo (aA3 hq 2) j)) hQ C2 hk ht K
 rw[hz2] at ht
 exact aHa (s:=129) (fE:=67) (fS:=69) (g:=83) aAQ aDt aEz aKi aCA aKw aHy bB3 rfl rfl (fun h=>Bool.noConfusion h) (by decide) (by decide) (by decide) aV7 Ct rt (aAB hq).2.2.2.2.1 (aAB hq).2.2.1 (aAB hq).2.2.2.1 (aBM _) (aCa (aAB hq).2.2.2.2.1) hb hk ht
end Go.Proofs.YtipgdlbbmlnfiaaGreatDoor
