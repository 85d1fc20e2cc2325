/- Walks of functions that the seat's laws reach. -/
import Derived.Test.YtipgdlbbmlnfiaaGreatDoorL5
import Derived.Test.YtipgdlbbmlnfiaaGreatDoorRows
import Derived.Test.YtipgdlbbmlnfiaaGreatDoorFa
import Derived.Test.YtipgdlbbmlnfiaaGreatDoorTt
import Derived.Test.YtipgdlbbmlnfiaaGreatDoorTf
import Derived.Test.YtipgdlbbmlnfiaaGreatDoorTg2
import Derived.Test.YtipgdlbbmlnfiaaGreatDoorTh
import Derived.Test.YtipgdlbbmlnfiaaGreatDoorSch
namespace Go.Proofs.YtipgdlbbmlnfiaaGreatDoor
open Go Go.Mk
theorem aBW (q:T):ddS aAg true q=.agg [.v (.int .i32 (IntKind.i32.wrap (q.at_ 0).n)),.v (.int .i16 (IntKind.i16.wrap (q.at_ 1).n)),.v (.int .i32 (IntKind.i32.wrap (q.at_ 2).n)),.v (.int .i32 (IntKind.i32.wrap (q.at_ 3).n)),aAN q.u]:=rfl
theorem aDg (q:T):aCo aAg q=.mk 0 [] false [aBK (IntKind.i32.wrap (q.at_ 0).n),aBK (IntKind.i16.wrap (q.at_ 1).n),aBK (IntKind.i32.wrap (q.at_ 2).n),aBK (IntKind.i32.wrap (q.at_ 3).n)] (aDn q.u):=congrArg (fun l=>T.mk 0 [] false l (aDn q.u)) (aA0 rfl (aA0 rfl (aA0 rfl (aA0 rfl (rfl)))))
theorem aDF:aJ2 Tryz.prog 37 69 148:=by
 intro w S k SE tb YE us p lv x h1 h2 h3 h4 h5 h6 h7 h8 h9
 refine aAy Tryz.func148 rfl rfl fun a hk=>?_
 have hk:Kn 14 [(0,.int .u32 (p.1:Int)),(1,x),(2,.pointer (some ⟨tb,0,none⟩))] a:=hk
 exact aG9 (s:=5) aAQ aDt rfl rfl (by kernel_rfl) (by kernel_rfl) (by decide) (by decide) h1 h2 h3 h4 h5 h6 h7 h8 h9 hk
theorem aBS:aHd Tryz.prog 113 aAg true 0:=by
 intro w0 Y b off cs q hC hR hq
 rw[aDg]
 refine aAy Tryz.func113 rfl rfl fun a hk=>?_
 have hk:Kn 51 [(0,.pointer (some ⟨b,off,none⟩))] a:=hk
 refine aDE (m:=4) (su:=4) (sv:=5) aAQ aJt (by decide) rfl (by decide) (by decide) (by decide) (by decide) (by decide) (by decide) hC hR hk fun a w1 w rb tb bb Y1 hb hC hR hk ht=>?_
 rw[aBW] at hR
 have hR:=aA8 hR
 obtain⟨c0,C0,hC,hR⟩:=aBu hC hR
 obtain⟨c1,C1,hC,hR⟩:=aBu hC hR
 obtain⟨c2,C2,hC,hR⟩:=aBu hC hR
 obtain⟨c3,C3,hC,hR⟩:=aBu hC hR
 obtain⟨xt,ct,Ct,hC,rt,hR⟩:=aB1 (aC0 _ _) hC hR
 refine aDU (s:=6) (k:=0)  aAQ rfl rfl (by kernel_rfl) (by kernel_rfl) (by decide) (by decide) (by decide) aWY aIe aI7 aKJ (aAU .i32 (by simp)) (fun _ _ _ _ _ h=>h) C0 hk ht fun a w hk ht=>?_
 refine aDU (s:=15) (k:=1)  aAQ rfl rfl (by kernel_rfl) (by kernel_rfl) (by decide) (by decide) (by decide) aXf aMb aKQ aKJ (aAU .i16 (by simp)) (fun _ _ _ _ _ h=>h) C1 hk ht fun a w hk ht=>?_
 refine aDU (s:=24) (k:=2)  aAQ rfl rfl (by kernel_rfl) (by kernel_rfl) (by decide) (by decide) (by decide) aVG aIe aI7 aKJ (aAU .i32 (by simp)) (fun _ _ _ _ _ h=>h) C2 hk ht fun a w hk ht=>?_
 refine aDU (s:=33) (k:=3)  aAQ rfl rfl (by kernel_rfl) (by kernel_rfl) (by decide) (by decide) (by decide) aWw aIe aI7 aKJ (aAU .i32 (by simp)) (fun _ _ _ _ _ h=>h) C3 hk ht fun a w hk ht=>?_
 exact aHa (s:=42) (fE:=67) (fS:=69) (g:=148) aAQ aDt aEz aKi aCA aKw aDF bAs rfl rfl (fun h=>Bool.noConfusion h) (by decide) (by decide) (by decide) aXc Ct rt (aAB hq).2.2.2.2.1 (aAB hq).2.2.1 (aAB hq).2.2.2.1 (aBM _) (aCa (aAB hq).2.2.2.2.1) hb hk ht
theorem aIJ (q:T){w:World}{Y:Nat→Prop}:∀ c,Rep w Y (ddS aAg true q) c→c.length=5:=by
 intro c h
 rw[aBW] at h
 have h0:=aA8 h
 clear h
 obtain⟨c1,rfl,h1⟩:=h0.unV
 clear h0
 obtain⟨c2,rfl,h2⟩:=h1.unV
 clear h1
 obtain⟨c3,rfl,h3⟩:=h2.unV
 clear h2
 obtain⟨c4,rfl,h4⟩:=h3.unV
 clear h3
 obtain⟨x,c5,rfl,_,h5⟩:=h4.un1 (aC0 _ _)
 have e:c5=[]:=by simpa [aCh] using h5
 rw[e];rfl
theorem aFe (q:T):ddS aAp true q=.agg [.v (.string (bs (q.at_ 0).s)),if (q.at_ 1).z then .v (.slice none 0 0) else .sl true 5 ((q.at_ 1).l.map (ddS aAg true)),aAN q.u]:=rfl
theorem aED (q:T):aCo aAp q=.mk 0 [] false [aCk (q.at_ 0).s,.mk 0 [] (q.at_ 1).z ((lzL (q.at_ 1).z (q.at_ 1).l).map (aE9 10 (-1) (aCo aAg))) []] (aDn q.u):=congrArg (fun l=>T.mk 0 [] false l (aDn q.u)) (aA0 rfl (aA0 (aF8 _) (rfl)))
theorem aFf:aJ2 Tryz.prog 37 69 114:=by
 intro w S k SE tb YE us p lv x h1 h2 h3 h4 h5 h6 h7 h8 h9
 refine aAy Tryz.func114 rfl rfl fun a hk=>?_
 have hk:Kn 14 [(0,.int .u32 (p.1:Int)),(1,x),(2,.pointer (some ⟨tb,0,none⟩))] a:=hk
 exact aG9 (s:=5) aAQ aDt rfl rfl (by kernel_rfl) (by kernel_rfl) (by decide) (by decide) h1 h2 h3 h4 h5 h6 h7 h8 h9 hk
theorem aCH:aHd Tryz.prog 65 aAp true 0:=by
 intro w0 Y b off cs q hC hR hq
 rw[aED]
 refine aAy Tryz.func65 rfl rfl fun a hk=>?_
 have hk:Kn 81 [(0,.pointer (some ⟨b,off,none⟩))] a:=hk
 refine aDE (m:=2) (su:=5) (sv:=6) aAQ aJt (by decide) rfl (by decide) (by decide) (by decide) (by decide) (by decide) (by decide) hC hR hk fun a w1 w rb tb bb Y1 hb hC hR hk ht=>?_
 rw[aFe] at hR
 have hR:=aA8 hR
 obtain⟨c0,C0,hC,hR⟩:=aBu hC hR
 obtain⟨x1,c1,C1,hC,r1,hR⟩:=aB1 (aEv (aH9 _) (aFo _ _ _)) hC hR
 obtain⟨xt,ct,Ct,hC,rt,hR⟩:=aB1 (aC0 _ _) hC hR
 refine aKa (s:=7) (k:=0)  aAQ rfl rfl (by kernel_rfl) (by kernel_rfl) (by decide) (by decide) (by decide) aZk aVe aS5 aLp (fun _ _ _ _ _ h=>h) C0 hk ht fun a w hk ht=>?_
 obtain⟨sp1,cap1,rfl,hz1,r1⟩:=aEM (G:=(aE9 10 (-1) (aCo aAg))) r1
 refine aHQ (s:=16) (k:=1)  aAQ rfl rfl (by kernel_rfl) (by kernel_rfl) (by decide) (by decide) (by decide) aOD aWN aWr aHp (fun _ _ _ _ _ h=>h) C1 hk ht fun a w hk ht=>?_
 refine aHU (s:=25) (k:=1) (iv:=4) (tz:=71) (tsl:=(lzL (q.at_ 1).z (q.at_ 1).l).map (aE9 10 (-1) (aCo aAg))) aAQ aVf aHp rfl (by kernel_rfl) (by kernel_rfl) (by kernel_rfl) (by kernel_rfl) (by decide) (by decide) (by decide) (by decide) (by decide) (aCN (aA3 hq 1)) aOD aWN aWr (fun _ _ _ _ _ h=>h) C1 hk ht ?_ ?_ fun a w hk ht=>?_
 ·intro Q j a w hj hQ hk ht K
  obtain⟨b2,o2,c2,rfl,hE,hCE⟩:=aDl r1 (j:=j) (by simpa using hj)
  exact aEJ (p:=35) (s:=25) (k:=1) rfl rfl (by kernel_rfl) (by kernel_rfl) (by kernel_rfl) (by kernel_rfl) aAQ aJt (by decide) rfl (by decide) (by decide) (by decide) (by decide) hj (aCN (aA3 hq 1)) aOD aWN aWr aXA aXR (fun hm=>by rw[aBN hj];exact aBS (aDe hm hCE) (aDS hm hE) (aDo (aA3 hq 1) j)) hQ C1 hk ht K
 ·intro Q j a w hj hQ hk ht K
  obtain⟨b2,o2,c2,rfl,hE,hCE⟩:=aDl r1 (j:=j) (by simpa using hj)
  exact aEE (p:=53) (s:=25) (k:=1) (by decide) rfl (by kernel_rfl) (by kernel_rfl) aAQ aJt (by decide) rfl (by decide) (by decide) (by decide) (by decide) hj (aCN (aA3 hq 1)) aOD aWN aWr aXA aXR (fun hm=>by rw[aBN hj];exact aBS (aDe hm hCE) (aDS hm hE) (aDo (aA3 hq 1) j)) hQ C1 hk ht K
 rw[hz1] at ht
 exact aHa (s:=72) (fE:=67) (fS:=69) (g:=114) aAQ aDt aEz aKi aCA aKw aFf bAQ rfl rfl (fun h=>Bool.noConfusion h) (by decide) (by decide) (by decide) aYn Ct rt (aAB hq).2.2.2.2.1 (aAB hq).2.2.1 (aAB hq).2.2.2.1 (aBM _) (aCa (aAB hq).2.2.2.2.1) hb hk ht
theorem aB2 (q:T):ddS aAi true q=.agg [.v (.int .i32 (IntKind.i32.wrap (q.at_ 0).n)),.v (.string (bs (q.at_ 1).s)),.v (.int .u16 (IntKind.u16.wrap (q.at_ 2).n)),aAN q.u]:=rfl
theorem aDK (q:T):aCo aAi q=.mk 0 [] false [aBK (IntKind.i32.wrap (q.at_ 0).n),aCk (q.at_ 1).s,aBK (IntKind.u16.wrap (q.at_ 2).n)] (aDn q.u):=congrArg (fun l=>T.mk 0 [] false l (aDn q.u)) (aA0 rfl (aA0 rfl (aA0 rfl (rfl))))
theorem aD4:aJ2 Tryz.prog 37 69 115:=by
 intro w S k SE tb YE us p lv x h1 h2 h3 h4 h5 h6 h7 h8 h9
 refine aAy Tryz.func115 rfl rfl fun a hk=>?_
 have hk:Kn 14 [(0,.int .u32 (p.1:Int)),(1,x),(2,.pointer (some ⟨tb,0,none⟩))] a:=hk
 exact aG9 (s:=5) aAQ aDt rfl rfl (by kernel_rfl) (by kernel_rfl) (by decide) (by decide) h1 h2 h3 h4 h5 h6 h7 h8 h9 hk
theorem aBY:aHd Tryz.prog 66 aAi true 0:=by
 intro w0 Y b off cs q hC hR hq
 rw[aDK]
 refine aAy Tryz.func66 rfl rfl fun a hk=>?_
 have hk:Kn 42 [(0,.pointer (some ⟨b,off,none⟩))] a:=hk
 refine aDE (m:=3) (su:=4) (sv:=5) aAQ aJt (by decide) rfl (by decide) (by decide) (by decide) (by decide) (by decide) (by decide) hC hR hk fun a w1 w rb tb bb Y1 hb hC hR hk ht=>?_
 rw[aB2] at hR
 have hR:=aA8 hR
 obtain⟨c0,C0,hC,hR⟩:=aBu hC hR
 obtain⟨c1,C1,hC,hR⟩:=aBu hC hR
 obtain⟨c2,C2,hC,hR⟩:=aBu hC hR
 obtain⟨xt,ct,Ct,hC,rt,hR⟩:=aB1 (aC0 _ _) hC hR
 refine aDU (s:=6) (k:=0)  aAQ rfl rfl (by kernel_rfl) (by kernel_rfl) (by decide) (by decide) (by decide) aYO aIe aI7 aKJ (aAU .i32 (by simp)) (fun _ _ _ _ _ h=>h) C0 hk ht fun a w hk ht=>?_
 refine aKa (s:=15) (k:=1)  aAQ rfl rfl (by kernel_rfl) (by kernel_rfl) (by decide) (by decide) (by decide) aYa aVe aS5 aLp (fun _ _ _ _ _ h=>h) C1 hk ht fun a w hk ht=>?_
 refine aDU (s:=24) (k:=2)  aAQ rfl rfl (by kernel_rfl) (by kernel_rfl) (by decide) (by decide) (by decide) aYu aZJ aV4 aKJ (aAU .u16 (by simp)) (fun _ _ _ _ _ h=>h) C2 hk ht fun a w hk ht=>?_
 exact aHa (s:=33) (fE:=67) (fS:=69) (g:=115) aAQ aDt aEz aKi aCA aKw aD4 bAt rfl rfl (fun h=>Bool.noConfusion h) (by decide) (by decide) (by decide) aZu Ct rt (aAB hq).2.2.2.2.1 (aAB hq).2.2.1 (aAB hq).2.2.2.1 (aBM _) (aCa (aAB hq).2.2.2.2.1) hb hk ht
theorem aJa (q:T){w:World}{Y:Nat→Prop}:∀ c,Rep w Y (ddS aAi true q) c→c.length=4:=by
 intro c h
 rw[aB2] at h
 have h0:=aA8 h
 clear h
 obtain⟨c1,rfl,h1⟩:=h0.unV
 clear h0
 obtain⟨c2,rfl,h2⟩:=h1.unV
 clear h1
 obtain⟨c3,rfl,h3⟩:=h2.unV
 clear h2
 obtain⟨x,c4,rfl,_,h4⟩:=h3.un1 (aC0 _ _)
 have e:c4=[]:=by simpa [aCh] using h4
 rw[e];rfl
theorem aGU (q:T):ddS aAa true q=.agg [.v (.int .i16 (IntKind.i16.wrap (q.at_ 0).n)),if (q.at_ 1).z then .v (.slice none 0 0) else .sl true 3 ((q.at_ 1).l.map (ddS aAp true)),if (q.at_ 2).z then .v (.slice none 0 0) else .sl true 4 ((q.at_ 2).l.map (ddS aAi true)),aAN q.u]:=rfl
theorem aGm (q:T):aCo aAa q=.mk 0 [] false [aBK (IntKind.i16.wrap (q.at_ 0).n),.mk 0 [] (q.at_ 1).z ((lzL (q.at_ 1).z (q.at_ 1).l).map (aE9 10 (-1) (aCo aAp))) [],.mk 0 [] (q.at_ 2).z ((lzL (q.at_ 2).z (q.at_ 2).l).map (aE9 10 (-1) (aCo aAi))) []] (aDn q.u):=congrArg (fun l=>T.mk 0 [] false l (aDn q.u)) (aA0 rfl (aA0 (aF8 _) (aA0 (aF8 _) (rfl))))
theorem aGV:aJ2 Tryz.prog 37 69 68:=by
 intro w S k SE tb YE us p lv x h1 h2 h3 h4 h5 h6 h7 h8 h9
 refine aAy Tryz.func68 rfl rfl fun a hk=>?_
 have hk:Kn 14 [(0,.int .u32 (p.1:Int)),(1,x),(2,.pointer (some ⟨tb,0,none⟩))] a:=hk
 exact aG9 (s:=5) aAQ aDt rfl rfl (by kernel_rfl) (by kernel_rfl) (by decide) (by decide) h1 h2 h3 h4 h5 h6 h7 h8 h9 hk
theorem aGG:aHd Tryz.prog 32 aAa true 1:=by
 intro w0 Y b off cs q hC hR hq
 rw[aGm]
 refine aAy Tryz.func32 rfl rfl fun a hk=>?_
 have hk:Kn 138 [(0,.pointer (some ⟨b,off,none⟩))] a:=hk
 refine aDE (m:=3) (su:=6) (sv:=7) aAQ aJt (by decide) rfl (by decide) (by decide) (by decide) (by decide) (by decide) (by decide) hC hR hk fun a w1 w rb tb bb Y1 hb hC hR hk ht=>?_
 rw[aGU] at hR
 have hR:=aA8 hR
 obtain⟨c0,C0,hC,hR⟩:=aBu hC hR
 obtain⟨x1,c1,C1,hC,r1,hR⟩:=aB1 (aEv (aH9 _) (aFo _ _ _)) hC hR
 obtain⟨x2,c2,C2,hC,r2,hR⟩:=aB1 (aEv (aH9 _) (aFo _ _ _)) hC hR
 obtain⟨xt,ct,Ct,hC,rt,hR⟩:=aB1 (aC0 _ _) hC hR
 refine aDU (s:=8) (k:=0)  aAQ rfl rfl (by kernel_rfl) (by kernel_rfl) (by decide) (by decide) (by decide) aZm aMb aKQ aKJ (aAU .i16 (by simp)) (fun _ _ _ _ _ h=>h) C0 hk ht fun a w hk ht=>?_
 obtain⟨sp1,cap1,rfl,hz1,r1⟩:=aEM (G:=(aE9 10 (-1) (aCo aAp))) r1
 refine aHQ (s:=17) (k:=1)  aAQ rfl rfl (by kernel_rfl) (by kernel_rfl) (by decide) (by decide) (by decide) aOH aVI aVD aHp (fun _ _ _ _ _ h=>h) C1 hk ht fun a w hk ht=>?_
 refine aHU (s:=26) (k:=1) (iv:=4) (tz:=72) (tsl:=(lzL (q.at_ 1).z (q.at_ 1).l).map (aE9 10 (-1) (aCo aAp))) aAQ aVf aHp rfl (by kernel_rfl) (by kernel_rfl) (by kernel_rfl) (by kernel_rfl) (by decide) (by decide) (by decide) (by decide) (by decide) (aCN (aA3 hq 1)) aOH aVI aVD (fun _ _ _ _ _ h=>h) C1 hk ht ?_ ?_ fun a w hk ht=>?_
 ·intro Q j a w hj hQ hk ht K
  obtain⟨b2,o2,c2,rfl,hE,hCE⟩:=aDl r1 (j:=j) (by simpa using hj)
  exact aEJ (p:=36) (s:=26) (k:=1) rfl rfl (by kernel_rfl) (by kernel_rfl) (by kernel_rfl) (by kernel_rfl) aAQ aJt (by decide) rfl (by decide) (by decide) (by decide) (by decide) hj (aCN (aA3 hq 1)) aOH aVI aVD bAO bAY (fun hm=>by rw[aBN hj];exact aCH (aDe hm hCE) (aDS hm hE) (aDo (aA3 hq 1) j)) hQ C1 hk ht K
 ·intro Q j a w hj hQ hk ht K
  obtain⟨b2,o2,c2,rfl,hE,hCE⟩:=aDl r1 (j:=j) (by simpa using hj)
  exact aEE (p:=54) (s:=26) (k:=1) (by decide) rfl (by kernel_rfl) (by kernel_rfl) aAQ aJt (by decide) rfl (by decide) (by decide) (by decide) (by decide) hj (aCN (aA3 hq 1)) aOH aVI aVD bAO bAY (fun hm=>by rw[aBN hj];exact aCH (aDe hm hCE) (aDS hm hE) (aDo (aA3 hq 1) j)) hQ C1 hk ht K
 rw[hz1] at ht
 obtain⟨sp2,cap2,rfl,hz2,r2⟩:=aEM (G:=(aE9 10 (-1) (aCo aAi))) r2
 refine aHQ (s:=73) (k:=2)  aAQ rfl rfl (by kernel_rfl) (by kernel_rfl) (by decide) (by decide) (by decide) aOV aWo aWA aHp (fun _ _ _ _ _ h=>h) C2 hk ht fun a w hk ht=>?_
 refine aHU (s:=82) (k:=2) (iv:=5) (tz:=128) (tsl:=(lzL (q.at_ 2).z (q.at_ 2).l).map (aE9 10 (-1) (aCo aAi))) aAQ aVf aHp rfl (by kernel_rfl) (by kernel_rfl) (by kernel_rfl) (by kernel_rfl) (by decide) (by decide) (by decide) (by decide) (by decide) (aCN (aA3 hq 2)) aOV aWo aWA (fun _ _ _ _ _ h=>h) C2 hk ht ?_ ?_ fun a w hk ht=>?_
 ·intro Q j a w hj hQ hk ht K
  obtain⟨b2,o2,c2,rfl,hE,hCE⟩:=aDl r2 (j:=j) (by simpa using hj)
  exact aEJ (p:=92) (s:=82) (k:=2) rfl rfl (by kernel_rfl) (by kernel_rfl) (by kernel_rfl) (by kernel_rfl) aAQ aJt (by decide) rfl (by decide) (by decide) (by decide) (by decide) hj (aCN (aA3 hq 2)) aOV aWo aWA aZ3 bAJ (fun hm=>by rw[aBN hj];exact aBY (aDe hm hCE) (aDS hm hE) (aDo (aA3 hq 2) j)) hQ C2 hk ht K
 ·intro Q j a w hj hQ hk ht K
  obtain⟨b2,o2,c2,rfl,hE,hCE⟩:=aDl r2 (j:=j) (by simpa using hj)
  exact aEE (p:=110) (s:=82) (k:=2) (by decide) rfl (by kernel_rfl) (by kernel_rfl) aAQ aJt (by decide) rfl (by decide) (by decide) (by decide) (by decide) hj (aCN (aA3 hq 2)) aOV aWo aWA aZ3 bAJ (fun hm=>by rw[aBN hj];exact aBY (aDe hm hCE) (aDS hm hE) (aDo (aA3 hq 2) j)) hQ C2 hk ht K
 rw[hz2] at ht
 exact aHa (s:=129) (fE:=67) (fS:=69) (g:=68) aAQ aDt aEz aKi aCA aKw aGV bBf rfl rfl (fun h=>Bool.noConfusion h) (by decide) (by decide) (by decide) aY3 Ct rt (aAB hq).2.2.2.2.1 (aAB hq).2.2.1 (aAB hq).2.2.2.1 (aBM _) (aCa (aAB hq).2.2.2.2.1) hb hk ht
end Go.Proofs.YtipgdlbbmlnfiaaGreatDoor
