/- Walks of functions that the seat's laws reach. -/
import Derived.Test.YtipgdlbbmlnfiaaGreatDoorL5
import Derived.Test.YtipgdlbbmlnfiaaGreatDoorRows
import Derived.Test.YtipgdlbbmlnfiaaGreatDoorFa
import Derived.Test.YtipgdlbbmlnfiaaGreatDoorTt
import Derived.Test.YtipgdlbbmlnfiaaGreatDoorTf
import Derived.Test.YtipgdlbbmlnfiaaGreatDoorTg2
import Derived.Test.YtipgdlbbmlnfiaaGreatDoorTh
import Derived.Test.YtipgdlbbmlnfiaaGreatDoorSch
namespace Go.Proofs.YtipgdlbbmlnfiaaGreatDoor
open Go Go.Mk
theorem aBz (q:T):ddS aAf true q=.agg [.v (.int .i64 (q.at_ 0).n),.v (.int .i32 (IntKind.i32.wrap (q.at_ 1).n)),aAN q.u]:=rfl
theorem aCE (q:T):aCo aAf q=.mk 0 [] false [aBK (q.at_ 0).n,aBK (IntKind.i32.wrap (q.at_ 1).n)] (aDn q.u):=congrArg (fun l=>T.mk 0 [] false l (aDn q.u)) (aA0 rfl (aA0 rfl (rfl)))
theorem aCR:aJ2 Tryz.prog 37 69 180:=by
 intro w S k SE tb YE us p lv x h1 h2 h3 h4 h5 h6 h7 h8 h9
 refine aAy Tryz.func180 rfl rfl fun a hk=>?_
 have hk:Kn 14 [(0,.int .u32 (p.1:Int)),(1,x),(2,.pointer (some ⟨tb,0,none⟩))] a:=hk
 exact aG9 (s:=5) aAQ aDt rfl rfl (by kernel_rfl) (by kernel_rfl) (by decide) (by decide) h1 h2 h3 h4 h5 h6 h7 h8 h9 hk
theorem aCL:aHd Tryz.prog 156 aAf true 0:=by
 intro w0 Y b off cs q hC hR hq
 rw[aCE]
 refine aAy Tryz.func156 rfl rfl fun a hk=>?_
 have hk:Kn 32 [(0,.pointer (some ⟨b,off,none⟩))] a:=hk
 refine aDE (m:=2) (su:=4) (sv:=5) aAQ aJt (by decide) rfl (by decide) (by decide) (by decide) (by decide) (by decide) (by decide) hC hR hk fun a w1 w rb tb bb Y1 hb hC hR hk ht=>?_
 rw[aBz] at hR
 have hR:=aA8 hR
 obtain⟨c0,C0,hC,hR⟩:=aBu hC hR
 obtain⟨c1,C1,hC,hR⟩:=aBu hC hR
 obtain⟨xt,ct,Ct,hC,rt,hR⟩:=aB1 (aC0 _ _) hC hR
 refine aXF (s:=6) (k:=0)  aAQ rfl rfl (by kernel_rfl) (by kernel_rfl) (by decide) (by decide) (by decide) aVZ aOX (fun _ _ _ _ _ h=>h) C0 hk ht fun a w hk ht=>?_
 refine aDU (s:=14) (k:=1)  aAQ rfl rfl (by kernel_rfl) (by kernel_rfl) (by decide) (by decide) (by decide) aVC aIe aI7 aKJ (aAU .i32 (by simp)) (fun _ _ _ _ _ h=>h) C1 hk ht fun a w hk ht=>?_
 exact aHa (s:=23) (fE:=67) (fS:=69) (g:=180) aAQ aDt aEz aKi aCA aKw aCR bAj rfl rfl (fun h=>Bool.noConfusion h) (by decide) (by decide) (by decide) aWJ Ct rt (aAB hq).2.2.2.2.1 (aAB hq).2.2.1 (aAB hq).2.2.2.1 (aBM _) (aCa (aAB hq).2.2.2.2.1) hb hk ht
theorem aCP (q:T){w:World}{Y:Nat→Prop}:∀ c,Rep w Y (ddS aAf true q) c→c.length=3:=by
 intro c h
 rw[aBz] at h
 have h0:=aA8 h
 clear h
 obtain⟨c1,rfl,h1⟩:=h0.unV
 clear h0
 obtain⟨c2,rfl,h2⟩:=h1.unV
 clear h1
 obtain⟨x,c3,rfl,_,h3⟩:=h2.un1 (aC0 _ _)
 have e:c3=[]:=by simpa [aCh] using h3
 rw[e];rfl
theorem aEe (q:T):ddS aAn true q=.agg [.v (.int .i32 (IntKind.i32.wrap (q.at_ 0).n)),.v (.int .i32 (IntKind.i32.wrap (q.at_ 1).n)),ddS aAf true (q.at_ 2),.v (.int .i64 (q.at_ 3).n),.agg ((sixteen (q.at_ 4).s).map ddB),aAN q.u]:=rfl
theorem aD1 (q:T):aCo aAn q=.mk 0 [] false [aBK (IntKind.i32.wrap (q.at_ 0).n),aBK (IntKind.i32.wrap (q.at_ 1).n),aCo aAf (q.at_ 2),aBK (q.at_ 3).n,aCk (sixteen (q.at_ 4).s)] (aDn q.u):=congrArg (fun l=>T.mk 0 [] false l (aDn q.u)) (aA0 rfl (aA0 rfl (aA0 rfl (aA0 rfl (aA0 rfl (rfl))))))
theorem aEn:aJ2 Tryz.prog 37 69 157:=by
 intro w S k SE tb YE us p lv x h1 h2 h3 h4 h5 h6 h7 h8 h9
 refine aAy Tryz.func157 rfl rfl fun a hk=>?_
 have hk:Kn 14 [(0,.int .u32 (p.1:Int)),(1,x),(2,.pointer (some ⟨tb,0,none⟩))] a:=hk
 exact aG9 (s:=5) aAQ aDt rfl rfl (by kernel_rfl) (by kernel_rfl) (by decide) (by decide) h1 h2 h3 h4 h5 h6 h7 h8 h9 hk
theorem aCc:aHd Tryz.prog 136 aAn true 0:=by
 intro w0 Y b off cs q hC hR hq
 rw[aD1]
 refine aAy Tryz.func136 rfl rfl fun a hk=>?_
 have hk:Kn 57 [(0,.pointer (some ⟨b,off,none⟩))] a:=hk
 refine aDE (m:=5) (su:=4) (sv:=5) aAQ aJt (by decide) rfl (by decide) (by decide) (by decide) (by decide) (by decide) (by decide) hC hR hk fun a w1 w rb tb bb Y1 hb hC hR hk ht=>?_
 rw[aEe] at hR
 have hR:=aA8 hR
 obtain⟨c0,C0,hC,hR⟩:=aBu hC hR
 obtain⟨c1,C1,hC,hR⟩:=aBu hC hR
 obtain⟨x2,c2,C2,hC,r2,hR⟩:=aYH (n:=3) hC hR (aCP _)
 obtain⟨c3,C3,hC,hR⟩:=aBu hC hR
 obtain⟨c4,C4,hC,hR⟩:=aSu hC hR
 obtain⟨xt,ct,Ct,hC,rt,hR⟩:=aB1 (aC0 _ _) hC hR
 refine aDU (s:=6) (k:=0)  aAQ rfl rfl (by kernel_rfl) (by kernel_rfl) (by decide) (by decide) (by decide) aW3 aIe aI7 aKJ (aAU .i32 (by simp)) (fun _ _ _ _ _ h=>h) C0 hk ht fun a w hk ht=>?_
 refine aDU (s:=15) (k:=1)  aAQ rfl rfl (by kernel_rfl) (by kernel_rfl) (by decide) (by decide) (by decide) aW5 aIe aI7 aKJ (aAU .i32 (by simp)) (fun _ _ _ _ _ h=>h) C1 hk ht fun a w hk ht=>?_
 refine aZg (s:=24) (k:=2) (F:=156) (tr:=aCo aAf (q.at_ 2)) aAQ rfl rfl (by kernel_rfl) (by kernel_rfl) (by decide) (by decide) (by decide) aR4 bAx (fun hm=>aCL (aDe hm (C2:Cel _ _ _ (_+0) _)) (aDS hm r2) (aA3 hq 2)) (fun _ _ _ _ _ h=>h) hk ht fun a w hk ht=>?_
 refine aXF (s:=31) (k:=3)  aAQ rfl rfl (by kernel_rfl) (by kernel_rfl) (by decide) (by decide) (by decide) aWv aOX (fun _ _ _ _ _ h=>h) C3 hk ht fun a w hk ht=>?_
 refine aTz (s:=39) (k:=4)  aAQ rfl rfl (by kernel_rfl) (by kernel_rfl) (by decide) (by decide) (by decide) aWC aXh aDQ aA9 aEZ (fun _ _ _ _ _ h=>h) C4 hk ht fun a w hk ht=>?_
 exact aHa (s:=48) (fE:=67) (fS:=69) (g:=157) aAQ aDt aEz aKi aCA aKw aEn bAK rfl rfl (fun h=>Bool.noConfusion h) (by decide) (by decide) (by decide) aV3 Ct rt (aAB hq).2.2.2.2.1 (aAB hq).2.2.1 (aAB hq).2.2.2.1 (aBM _) (aCa (aAB hq).2.2.2.2.1) hb hk ht
theorem aGr (q:T):ddS aAv true q=.agg [.v (.string (bs (q.at_ 0).s)),if (q.at_ 1).z then .v (.slice none 0 0) else .sl true 23 ((q.at_ 1).l.map (ddS aAn true)),aAN q.u]:=rfl
theorem aFK (q:T):aCo aAv q=.mk 0 [] false [aCk (q.at_ 0).s,.mk 0 [] (q.at_ 1).z ((lzL (q.at_ 1).z (q.at_ 1).l).map (aE9 10 (-1) (aCo aAn))) []] (aDn q.u):=congrArg (fun l=>T.mk 0 [] false l (aDn q.u)) (aA0 rfl (aA0 (aF8 _) (rfl)))
theorem aGf:aJ2 Tryz.prog 37 69 137:=by
 intro w S k SE tb YE us p lv x h1 h2 h3 h4 h5 h6 h7 h8 h9
 refine aAy Tryz.func137 rfl rfl fun a hk=>?_
 have hk:Kn 14 [(0,.int .u32 (p.1:Int)),(1,x),(2,.pointer (some ⟨tb,0,none⟩))] a:=hk
 exact aG9 (s:=5) aAQ aDt rfl rfl (by kernel_rfl) (by kernel_rfl) (by decide) (by decide) h1 h2 h3 h4 h5 h6 h7 h8 h9 hk
theorem aDj:aHd Tryz.prog 88 aAv true 0:=by
 intro w0 Y b off cs q hC hR hq
 rw[aFK]
 refine aAy Tryz.func88 rfl rfl fun a hk=>?_
 have hk:Kn 81 [(0,.pointer (some ⟨b,off,none⟩))] a:=hk
 refine aDE (m:=2) (su:=5) (sv:=6) aAQ aJt (by decide) rfl (by decide) (by decide) (by decide) (by decide) (by decide) (by decide) hC hR hk fun a w1 w rb tb bb Y1 hb hC hR hk ht=>?_
 rw[aGr] at hR
 have hR:=aA8 hR
 obtain⟨c0,C0,hC,hR⟩:=aBu hC hR
 obtain⟨x1,c1,C1,hC,r1,hR⟩:=aB1 (aEv (aH9 _) (aFo _ _ _)) hC hR
 obtain⟨xt,ct,Ct,hC,rt,hR⟩:=aB1 (aC0 _ _) hC hR
 refine aKa (s:=7) (k:=0)  aAQ rfl rfl (by kernel_rfl) (by kernel_rfl) (by decide) (by decide) (by decide) aVV aVe aS5 aLp (fun _ _ _ _ _ h=>h) C0 hk ht fun a w hk ht=>?_
 obtain⟨sp1,cap1,rfl,hz1,r1⟩:=aEM (G:=(aE9 10 (-1) (aCo aAn))) r1
 refine aHQ (s:=16) (k:=1)  aAQ rfl rfl (by kernel_rfl) (by kernel_rfl) (by decide) (by decide) (by decide) aMj aSf aRp aHp (fun _ _ _ _ _ h=>h) C1 hk ht fun a w hk ht=>?_
 refine aHU (s:=25) (k:=1) (iv:=4) (tz:=71) (tsl:=(lzL (q.at_ 1).z (q.at_ 1).l).map (aE9 10 (-1) (aCo aAn))) aAQ aVf aHp rfl (by kernel_rfl) (by kernel_rfl) (by kernel_rfl) (by kernel_rfl) (by decide) (by decide) (by decide) (by decide) (by decide) (aCN (aA3 hq 1)) aMj aSf aRp (fun _ _ _ _ _ h=>h) C1 hk ht ?_ ?_ fun a w hk ht=>?_
 ·intro Q j a w hj hQ hk ht K
  obtain⟨b2,o2,c2,rfl,hE,hCE⟩:=aDl r1 (j:=j) (by simpa using hj)
  exact aEJ (p:=35) (s:=25) (k:=1) rfl rfl (by kernel_rfl) (by kernel_rfl) (by kernel_rfl) (by kernel_rfl) aAQ aJt (by decide) rfl (by decide) (by decide) (by decide) (by decide) hj (aCN (aA3 hq 1)) aMj aSf aRp aXK aXi (fun hm=>by rw[aBN hj];exact aCc (aDe hm hCE) (aDS hm hE) (aDo (aA3 hq 1) j)) hQ C1 hk ht K
 ·intro Q j a w hj hQ hk ht K
  obtain⟨b2,o2,c2,rfl,hE,hCE⟩:=aDl r1 (j:=j) (by simpa using hj)
  exact aEE (p:=53) (s:=25) (k:=1) (by decide) rfl (by kernel_rfl) (by kernel_rfl) aAQ aJt (by decide) rfl (by decide) (by decide) (by decide) (by decide) hj (aCN (aA3 hq 1)) aMj aSf aRp aXK aXi (fun hm=>by rw[aBN hj];exact aCc (aDe hm hCE) (aDS hm hE) (aDo (aA3 hq 1) j)) hQ C1 hk ht K
 rw[hz1] at ht
 exact aHa (s:=72) (fE:=67) (fS:=69) (g:=137) aAQ aDt aEz aKi aCA aKw aGf aZV rfl rfl (fun h=>Bool.noConfusion h) (by decide) (by decide) (by decide) aWT Ct rt (aAB hq).2.2.2.2.1 (aAB hq).2.2.1 (aAB hq).2.2.2.1 (aBM _) (aCa (aAB hq).2.2.2.2.1) hb hk ht
theorem aIp (q:T):ddS aAd true q=.agg [if (q.at_ 0).z then .v (.pointer none) else .ptr (.v (.string (bs (q.at_ 0).s))),.v (.int .i32 (IntKind.i32.wrap (q.at_ 1).n)),.v (.int .i32 (IntKind.i32.wrap (q.at_ 2).n)),if (q.at_ 3).z then .v (.slice none 0 0) else .sl true 3 ((q.at_ 3).l.map (ddS aAv true)),aAN q.u]:=rfl
theorem aHq (q:T):aCo aAd q=.mk 0 [] false [(if (q.at_ 0).z then ofNil else aCk (q.at_ 0).s),aBK (IntKind.i32.wrap (q.at_ 1).n),aBK (IntKind.i32.wrap (q.at_ 2).n),.mk 0 [] (q.at_ 3).z ((lzL (q.at_ 3).z (q.at_ 3).l).map (aE9 10 (-1) (aCo aAv))) []] (aDn q.u):=congrArg (fun l=>T.mk 0 [] false l (aDn q.u)) (aA0 (aM8 (nu:=0) (q.at_ 0) (by decide)) (aA0 rfl (aA0 rfl (aA0 (aF8 _) (rfl)))))
theorem aIb:aJ2 Tryz.prog 37 69 89:=by
 intro w S k SE tb YE us p lv x h1 h2 h3 h4 h5 h6 h7 h8 h9
 refine aAy Tryz.func89 rfl rfl fun a hk=>?_
 have hk:Kn 14 [(0,.int .u32 (p.1:Int)),(1,x),(2,.pointer (some ⟨tb,0,none⟩))] a:=hk
 exact aG9 (s:=5) aAQ aDt rfl rfl (by kernel_rfl) (by kernel_rfl) (by decide) (by decide) h1 h2 h3 h4 h5 h6 h7 h8 h9 hk
theorem aHX:aHd Tryz.prog 54 aAd true 1:=by
 intro w0 Y b off cs q hC hR hq
 rw[aHq]
 refine aAy Tryz.func54 rfl rfl fun a hk=>?_
 have hk:Kn 98 [(0,.pointer (some ⟨b,off,none⟩))] a:=hk
 refine aDE (m:=4) (su:=5) (sv:=6) aAQ aJt (by decide) rfl (by decide) (by decide) (by decide) (by decide) (by decide) (by decide) hC hR hk fun a w1 w rb tb bb Y1 hb hC hR hk ht=>?_
 rw[aIp] at hR
 have hR:=aA8 hR
 obtain⟨x0,c0,C0,hC,r0,hR⟩:=aB1 (aEv (aH9 _) (aO3 _)) hC hR
 obtain⟨c1,C1,hC,hR⟩:=aBu hC hR
 obtain⟨c2,C2,hC,hR⟩:=aBu hC hR
 obtain⟨x3,c3,C3,hC,r3,hR⟩:=aB1 (aEv (aH9 _) (aFo _ _ _)) hC hR
 obtain⟨xt,ct,Ct,hC,rt,hR⟩:=aB1 (aC0 _ _) hC hR
 refine aNs (s:=7) (k:=0) (F:=87) (tr:=(if (q.at_ 0).z then ofNil else aCk (q.at_ 0).s)) aAQ rfl rfl (by kernel_rfl) (by kernel_rfl) (by decide) (by decide) (by decide) aVx aTC aZo (fun hm=>aLy (q.at_ 0).z (q.at_ 0).s (aDS hm r0)) (fun _ _ _ _ _ h=>h) C0 hk ht fun a w hk ht=>?_
 refine aDU (s:=15) (k:=1)  aAQ rfl rfl (by kernel_rfl) (by kernel_rfl) (by decide) (by decide) (by decide) aPi aIe aI7 aKJ (aAU .i32 (by simp)) (fun _ _ _ _ _ h=>h) C1 hk ht fun a w hk ht=>?_
 refine aDU (s:=24) (k:=2)  aAQ rfl rfl (by kernel_rfl) (by kernel_rfl) (by decide) (by decide) (by decide) aPc aIe aI7 aKJ (aAU .i32 (by simp)) (fun _ _ _ _ _ h=>h) C2 hk ht fun a w hk ht=>?_
 obtain⟨sp3,cap3,rfl,hz3,r3⟩:=aEM (G:=(aE9 10 (-1) (aCo aAv))) r3
 refine aHQ (s:=33) (k:=3)  aAQ rfl rfl (by kernel_rfl) (by kernel_rfl) (by decide) (by decide) (by decide) aMu aSj aSv aHp (fun _ _ _ _ _ h=>h) C3 hk ht fun a w hk ht=>?_
 refine aHU (s:=42) (k:=3) (iv:=4) (tz:=88) (tsl:=(lzL (q.at_ 3).z (q.at_ 3).l).map (aE9 10 (-1) (aCo aAv))) aAQ aVf aHp rfl (by kernel_rfl) (by kernel_rfl) (by kernel_rfl) (by kernel_rfl) (by decide) (by decide) (by decide) (by decide) (by decide) (aCN (aA3 hq 3)) aMu aSj aSv (fun _ _ _ _ _ h=>h) C3 hk ht ?_ ?_ fun a w hk ht=>?_
 ·intro Q j a w hj hQ hk ht K
  obtain⟨b2,o2,c2,rfl,hE,hCE⟩:=aDl r3 (j:=j) (by simpa using hj)
  exact aEJ (p:=52) (s:=42) (k:=3) rfl rfl (by kernel_rfl) (by kernel_rfl) (by kernel_rfl) (by kernel_rfl) aAQ aJt (by decide) rfl (by decide) (by decide) (by decide) (by decide) hj (aCN (aA3 hq 3)) aMu aSj aSv aXN bAo (fun hm=>by rw[aBN hj];exact aDj (aDe hm hCE) (aDS hm hE) (aDo (aA3 hq 3) j)) hQ C3 hk ht K
 ·intro Q j a w hj hQ hk ht K
  obtain⟨b2,o2,c2,rfl,hE,hCE⟩:=aDl r3 (j:=j) (by simpa using hj)
  exact aEE (p:=70) (s:=42) (k:=3) (by decide) rfl (by kernel_rfl) (by kernel_rfl) aAQ aJt (by decide) rfl (by decide) (by decide) (by decide) (by decide) hj (aCN (aA3 hq 3)) aMu aSj aSv aXN bAo (fun hm=>by rw[aBN hj];exact aDj (aDe hm hCE) (aDS hm hE) (aDo (aA3 hq 3) j)) hQ C3 hk ht K
 rw[hz3] at ht
 exact aHa (s:=89) (fE:=67) (fS:=69) (g:=89) aAQ aDt aEz aKi aCA aKw aIb bBj rfl rfl (fun h=>Bool.noConfusion h) (by decide) (by decide) (by decide) aWD Ct rt (aAB hq).2.2.2.2.1 (aAB hq).2.2.1 (aAB hq).2.2.2.1 (aBM _) (aCa (aAB hq).2.2.2.2.1) hb hk ht
end Go.Proofs.YtipgdlbbmlnfiaaGreatDoor
