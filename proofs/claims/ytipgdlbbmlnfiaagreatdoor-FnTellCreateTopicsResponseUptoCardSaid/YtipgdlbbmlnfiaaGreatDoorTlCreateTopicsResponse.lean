/- Walks of functions that the seat's laws reach. -/
import Derived.Test.YtipgdlbbmlnfiaaGreatDoorL5
import Derived.Test.YtipgdlbbmlnfiaaGreatDoorRows
import Derived.Test.YtipgdlbbmlnfiaaGreatDoorFa
import Derived.Test.YtipgdlbbmlnfiaaGreatDoorTt
import Derived.Test.YtipgdlbbmlnfiaaGreatDoorTf
import Derived.Test.YtipgdlbbmlnfiaaGreatDoorTg2
import Derived.Test.YtipgdlbbmlnfiaaGreatDoorTh
import Derived.Test.YtipgdlbbmlnfiaaGreatDoorSch
namespace Go.Proofs.YtipgdlbbmlnfiaaGreatDoor
open Go Go.Mk
theorem aEN (q:T):ddS aAr true q=.agg [.v (.string (bs (q.at_ 0).s)),if (q.at_ 1).z then .v (.pointer none) else .ptr (.v (.string (bs (q.at_ 1).s))),.v (.bool ((q.at_ 2).n%2==1)),.v (.int .i8 (IntKind.i8.wrap (q.at_ 3).n)),.v (.bool ((q.at_ 4).n%2==1)),aAN q.u]:=rfl
theorem aEq (q:T):aCo aAr q=.mk 0 [] false [aCk (q.at_ 0).s,(if (q.at_ 1).z then ofNil else aCk (q.at_ 1).s),aBK (if ((q.at_ 2).n%2==1) then 1 else 0),aBK (IntKind.i8.wrap (q.at_ 3).n),aBK (if ((q.at_ 4).n%2==1) then 1 else 0)] (aDn q.u):=congrArg (fun l=>T.mk 0 [] false l (aDn q.u)) (aA0 rfl (aA0 (aM8 (nu:=0) (q.at_ 1) (by decide)) (aA0 (aR7 (q.at_ 2)) (aA0 rfl (aA0 (aR7 (q.at_ 4)) (rfl))))))
theorem aEO:aJ2 Tryz.prog 37 69 159:=by
 intro w S k SE tb YE us p lv x h1 h2 h3 h4 h5 h6 h7 h8 h9
 refine aAy Tryz.func159 rfl rfl fun a hk=>?_
 have hk:Kn 14 [(0,.int .u32 (p.1:Int)),(1,x),(2,.pointer (some ⟨tb,0,none⟩))] a:=hk
 exact aG9 (s:=5) aAQ aDt rfl rfl (by kernel_rfl) (by kernel_rfl) (by decide) (by decide) h1 h2 h3 h4 h5 h6 h7 h8 h9 hk
theorem aCp:aHd Tryz.prog 142 aAr true 0:=by
 intro w0 Y b off cs q hC hR hq
 rw[aEq]
 refine aAy Tryz.func142 rfl rfl fun a hk=>?_
 have hk:Kn 57 [(0,.pointer (some ⟨b,off,none⟩))] a:=hk
 refine aDE (m:=5) (su:=4) (sv:=5) aAQ aJt (by decide) rfl (by decide) (by decide) (by decide) (by decide) (by decide) (by decide) hC hR hk fun a w1 w rb tb bb Y1 hb hC hR hk ht=>?_
 rw[aEN] at hR
 have hR:=aA8 hR
 obtain⟨c0,C0,hC,hR⟩:=aBu hC hR
 obtain⟨x1,c1,C1,hC,r1,hR⟩:=aB1 (aEv (aH9 _) (aO3 _)) hC hR
 obtain⟨c2,C2,hC,hR⟩:=aBu hC hR
 obtain⟨c3,C3,hC,hR⟩:=aBu hC hR
 obtain⟨c4,C4,hC,hR⟩:=aBu hC hR
 obtain⟨xt,ct,Ct,hC,rt,hR⟩:=aB1 (aC0 _ _) hC hR
 refine aKa (s:=6) (k:=0)  aAQ rfl rfl (by kernel_rfl) (by kernel_rfl) (by decide) (by decide) (by decide) aVO aVe aS5 aLp (fun _ _ _ _ _ h=>h) C0 hk ht fun a w hk ht=>?_
 refine aNs (s:=15) (k:=1) (F:=87) (tr:=(if (q.at_ 1).z then ofNil else aCk (q.at_ 1).s)) aAQ rfl rfl (by kernel_rfl) (by kernel_rfl) (by decide) (by decide) (by decide) aVH aTC aZo (fun hm=>aLy (q.at_ 1).z (q.at_ 1).s (aDS hm r1)) (fun _ _ _ _ _ h=>h) C1 hk ht fun a w hk ht=>?_
 refine aNs (s:=23) (k:=2) (F:=158) (tr:=aBK (if ((q.at_ 2).n%2==1) then 1 else 0)) aAQ rfl rfl (by kernel_rfl) (by kernel_rfl) (by decide) (by decide) (by decide) aVE aHp aXP (fun _=>aNR _) (fun _ _ _ _ _ h=>h) C2 hk ht fun a w hk ht=>?_
 refine aDU (s:=31) (k:=3)  aAQ rfl rfl (by kernel_rfl) (by kernel_rfl) (by decide) (by decide) (by decide) aSk aXC aXp aKJ (aAU .i8 (by simp)) (fun _ _ _ _ _ h=>h) C3 hk ht fun a w hk ht=>?_
 refine aNs (s:=40) (k:=4) (F:=158) (tr:=aBK (if ((q.at_ 4).n%2==1) then 1 else 0)) aAQ rfl rfl (by kernel_rfl) (by kernel_rfl) (by decide) (by decide) (by decide) aVw aHp aXP (fun _=>aNR _) (fun _ _ _ _ _ h=>h) C4 hk ht fun a w hk ht=>?_
 exact aHa (s:=48) (fE:=67) (fS:=69) (g:=159) aAQ aDt aEz aKi aCA aKw aEO aZ0 rfl rfl (fun h=>Bool.noConfusion h) (by decide) (by decide) (by decide) aVK Ct rt (aAB hq).2.2.2.2.1 (aAB hq).2.2.1 (aAB hq).2.2.2.1 (aBM _) (aCa (aAB hq).2.2.2.2.1) hb hk ht
theorem aGg (q:T):ddS aAw true q=.agg [.v (.string (bs (q.at_ 0).s)),.agg ((sixteen (q.at_ 1).s).map ddB),.v (.int .i16 (IntKind.i16.wrap (q.at_ 2).n)),if (q.at_ 3).z then .v (.pointer none) else .ptr (.v (.string (bs (q.at_ 3).s))),.v (.int .i16 (IntKind.i16.wrap (q.at_ 4).n)),.v (.int .i32 (IntKind.i32.wrap (q.at_ 5).n)),.v (.int .i16 (IntKind.i16.wrap (q.at_ 6).n)),if (q.at_ 7).z then .v (.slice none 0 0) else .sl true 6 ((q.at_ 7).l.map (ddS aAr true)),aAN q.u]:=rfl
theorem aFN (q:T):aCo aAw q=.mk 0 [] false [aCk (q.at_ 0).s,aCk (sixteen (q.at_ 1).s),aBK (IntKind.i16.wrap (q.at_ 2).n),(if (q.at_ 3).z then ofNil else aCk (q.at_ 3).s),aBK (IntKind.i16.wrap (q.at_ 4).n),aBK (IntKind.i32.wrap (q.at_ 5).n),aBK (IntKind.i16.wrap (q.at_ 6).n),.mk 0 [] (q.at_ 7).z ((lzL (q.at_ 7).z (q.at_ 7).l).map (aE9 10 (-1) (aCo aAr))) []] (aDn q.u):=congrArg (fun l=>T.mk 0 [] false l (aDn q.u)) (aA0 rfl (aA0 rfl (aA0 rfl (aA0 (aM8 (nu:=1) (q.at_ 3) (by decide)) (aA0 rfl (aA0 rfl (aA0 rfl (aA0 (aF8 _) (rfl)))))))))
theorem aGl:aJ2 Tryz.prog 37 69 143:=by
 intro w S k SE tb YE us p lv x h1 h2 h3 h4 h5 h6 h7 h8 h9
 refine aAy Tryz.func143 rfl rfl fun a hk=>?_
 have hk:Kn 14 [(0,.int .u32 (p.1:Int)),(1,x),(2,.pointer (some ⟨tb,0,none⟩))] a:=hk
 exact aG9 (s:=5) aAQ aDt rfl rfl (by kernel_rfl) (by kernel_rfl) (by decide) (by decide) h1 h2 h3 h4 h5 h6 h7 h8 h9 hk
theorem aDm:aHd Tryz.prog 93 aAw true 0:=by
 intro w0 Y b off cs q hC hR hq
 rw[aFN]
 refine aAy Tryz.func93 rfl rfl fun a hk=>?_
 have hk:Kn 134 [(0,.pointer (some ⟨b,off,none⟩))] a:=hk
 refine aDE (m:=8) (su:=5) (sv:=6) aAQ aJt (by decide) rfl (by decide) (by decide) (by decide) (by decide) (by decide) (by decide) hC hR hk fun a w1 w rb tb bb Y1 hb hC hR hk ht=>?_
 rw[aGg] at hR
 have hR:=aA8 hR
 obtain⟨c0,C0,hC,hR⟩:=aBu hC hR
 obtain⟨c1,C1,hC,hR⟩:=aSu hC hR
 obtain⟨c2,C2,hC,hR⟩:=aBu hC hR
 obtain⟨x3,c3,C3,hC,r3,hR⟩:=aB1 (aEv (aH9 _) (aO3 _)) hC hR
 obtain⟨c4,C4,hC,hR⟩:=aBu hC hR
 obtain⟨c5,C5,hC,hR⟩:=aBu hC hR
 obtain⟨c6,C6,hC,hR⟩:=aBu hC hR
 obtain⟨x7,c7,C7,hC,r7,hR⟩:=aB1 (aEv (aH9 _) (aFo _ _ _)) hC hR
 obtain⟨xt,ct,Ct,hC,rt,hR⟩:=aB1 (aC0 _ _) hC hR
 refine aKa (s:=7) (k:=0)  aAQ rfl rfl (by kernel_rfl) (by kernel_rfl) (by decide) (by decide) (by decide) aWz aVe aS5 aLp (fun _ _ _ _ _ h=>h) C0 hk ht fun a w hk ht=>?_
 refine aTz (s:=16) (k:=1)  aAQ rfl rfl (by kernel_rfl) (by kernel_rfl) (by decide) (by decide) (by decide) aWy aXh aDQ aA9 aEZ (fun _ _ _ _ _ h=>h) C1 hk ht fun a w hk ht=>?_
 refine aDU (s:=25) (k:=2)  aAQ rfl rfl (by kernel_rfl) (by kernel_rfl) (by decide) (by decide) (by decide) aVt aMb aKQ aKJ (aAU .i16 (by simp)) (fun _ _ _ _ _ h=>h) C2 hk ht fun a w hk ht=>?_
 refine aNs (s:=34) (k:=3) (F:=87) (tr:=(if (q.at_ 3).z then ofNil else aCk (q.at_ 3).s)) aAQ rfl rfl (by kernel_rfl) (by kernel_rfl) (by decide) (by decide) (by decide) aVu aTC aZo (fun hm=>aLy (q.at_ 3).z (q.at_ 3).s (aDS hm r3)) (fun _ _ _ _ _ h=>h) C3 hk ht fun a w hk ht=>?_
 refine aDU (s:=42) (k:=4)  aAQ rfl rfl (by kernel_rfl) (by kernel_rfl) (by decide) (by decide) (by decide) aVL aMb aKQ aKJ (aAU .i16 (by simp)) (fun _ _ _ _ _ h=>h) C4 hk ht fun a w hk ht=>?_
 refine aDU (s:=51) (k:=5)  aAQ rfl rfl (by kernel_rfl) (by kernel_rfl) (by decide) (by decide) (by decide) aSn aIe aI7 aKJ (aAU .i32 (by simp)) (fun _ _ _ _ _ h=>h) C5 hk ht fun a w hk ht=>?_
 refine aDU (s:=60) (k:=6)  aAQ rfl rfl (by kernel_rfl) (by kernel_rfl) (by decide) (by decide) (by decide) aR1 aMb aKQ aKJ (aAU .i16 (by simp)) (fun _ _ _ _ _ h=>h) C6 hk ht fun a w hk ht=>?_
 obtain⟨sp7,cap7,rfl,hz7,r7⟩:=aEM (G:=(aE9 10 (-1) (aCo aAr))) r7
 refine aHQ (s:=69) (k:=7)  aAQ rfl rfl (by kernel_rfl) (by kernel_rfl) (by decide) (by decide) (by decide) aMo aR6 aRS aHp (fun _ _ _ _ _ h=>h) C7 hk ht fun a w hk ht=>?_
 refine aHU (s:=78) (k:=7) (iv:=4) (tz:=124) (tsl:=(lzL (q.at_ 7).z (q.at_ 7).l).map (aE9 10 (-1) (aCo aAr))) aAQ aVf aHp rfl (by kernel_rfl) (by kernel_rfl) (by kernel_rfl) (by kernel_rfl) (by decide) (by decide) (by decide) (by decide) (by decide) (aCN (aA3 hq 7)) aMo aR6 aRS (fun _ _ _ _ _ h=>h) C7 hk ht ?_ ?_ fun a w hk ht=>?_
 ·intro Q j a w hj hQ hk ht K
  obtain⟨b2,o2,c2,rfl,hE,hCE⟩:=aDl r7 (j:=j) (by simpa using hj)
  exact aEJ (p:=88) (s:=78) (k:=7) rfl rfl (by kernel_rfl) (by kernel_rfl) (by kernel_rfl) (by kernel_rfl) aAQ aJt (by decide) rfl (by decide) (by decide) (by decide) (by decide) hj (aCN (aA3 hq 7)) aMo aR6 aRS aXs aXg (fun hm=>by rw[aBN hj];exact aCp (aDe hm hCE) (aDS hm hE) (aDo (aA3 hq 7) j)) hQ C7 hk ht K
 ·intro Q j a w hj hQ hk ht K
  obtain⟨b2,o2,c2,rfl,hE,hCE⟩:=aDl r7 (j:=j) (by simpa using hj)
  exact aEE (p:=106) (s:=78) (k:=7) (by decide) rfl (by kernel_rfl) (by kernel_rfl) aAQ aJt (by decide) rfl (by decide) (by decide) (by decide) (by decide) hj (aCN (aA3 hq 7)) aMo aR6 aRS aXs aXg (fun hm=>by rw[aBN hj];exact aCp (aDe hm hCE) (aDS hm hE) (aDo (aA3 hq 7) j)) hQ C7 hk ht K
 rw[hz7] at ht
 exact aHa (s:=125) (fE:=67) (fS:=69) (g:=143) aAQ aDt aEz aKi aCA aKw aGl bAG rfl rfl (fun h=>Bool.noConfusion h) (by decide) (by decide) (by decide) aVs Ct rt (aAB hq).2.2.2.2.1 (aAB hq).2.2.1 (aAB hq).2.2.2.1 (aBM _) (aCa (aAB hq).2.2.2.2.1) hb hk ht
theorem aH7 (q:T):ddS aAe true q=.agg [.v (.int .i32 (IntKind.i32.wrap (q.at_ 0).n)),if (q.at_ 1).z then .v (.slice none 0 0) else .sl true 24 ((q.at_ 1).l.map (ddS aAw true)),aAN q.u]:=rfl
theorem aHw (q:T):aCo aAe q=.mk 0 [] false [aBK (IntKind.i32.wrap (q.at_ 0).n),.mk 0 [] (q.at_ 1).z ((lzL (q.at_ 1).z (q.at_ 1).l).map (aE9 10 (-1) (aCo aAw))) []] (aDn q.u):=congrArg (fun l=>T.mk 0 [] false l (aDn q.u)) (aA0 rfl (aA0 (aF8 _) (rfl)))
theorem aIk:aJ2 Tryz.prog 37 69 94:=by
 intro w S k SE tb YE us p lv x h1 h2 h3 h4 h5 h6 h7 h8 h9
 refine aAy Tryz.func94 rfl rfl fun a hk=>?_
 have hk:Kn 14 [(0,.int .u32 (p.1:Int)),(1,x),(2,.pointer (some ⟨tb,0,none⟩))] a:=hk
 exact aG9 (s:=5) aAQ aDt rfl rfl (by kernel_rfl) (by kernel_rfl) (by decide) (by decide) h1 h2 h3 h4 h5 h6 h7 h8 h9 hk
theorem aHZ:aHd Tryz.prog 60 aAe true 1:=by
 intro w0 Y b off cs q hC hR hq
 rw[aHw]
 refine aAy Tryz.func60 rfl rfl fun a hk=>?_
 have hk:Kn 81 [(0,.pointer (some ⟨b,off,none⟩))] a:=hk
 refine aDE (m:=2) (su:=5) (sv:=6) aAQ aJt (by decide) rfl (by decide) (by decide) (by decide) (by decide) (by decide) (by decide) hC hR hk fun a w1 w rb tb bb Y1 hb hC hR hk ht=>?_
 rw[aH7] at hR
 have hR:=aA8 hR
 obtain⟨c0,C0,hC,hR⟩:=aBu hC hR
 obtain⟨x1,c1,C1,hC,r1,hR⟩:=aB1 (aEv (aH9 _) (aFo _ _ _)) hC hR
 obtain⟨xt,ct,Ct,hC,rt,hR⟩:=aB1 (aC0 _ _) hC hR
 refine aDU (s:=7) (k:=0)  aAQ rfl rfl (by kernel_rfl) (by kernel_rfl) (by decide) (by decide) (by decide) aVY aIe aI7 aKJ (aAU .i32 (by simp)) (fun _ _ _ _ _ h=>h) C0 hk ht fun a w hk ht=>?_
 obtain⟨sp1,cap1,rfl,hz1,r1⟩:=aEM (G:=(aE9 10 (-1) (aCo aAw))) r1
 refine aHQ (s:=16) (k:=1)  aAQ rfl rfl (by kernel_rfl) (by kernel_rfl) (by decide) (by decide) (by decide) aMs aSw aRR aHp (fun _ _ _ _ _ h=>h) C1 hk ht fun a w hk ht=>?_
 refine aHU (s:=25) (k:=1) (iv:=4) (tz:=71) (tsl:=(lzL (q.at_ 1).z (q.at_ 1).l).map (aE9 10 (-1) (aCo aAw))) aAQ aVf aHp rfl (by kernel_rfl) (by kernel_rfl) (by kernel_rfl) (by kernel_rfl) (by decide) (by decide) (by decide) (by decide) (by decide) (aCN (aA3 hq 1)) aMs aSw aRR (fun _ _ _ _ _ h=>h) C1 hk ht ?_ ?_ fun a w hk ht=>?_
 ·intro Q j a w hj hQ hk ht K
  obtain⟨b2,o2,c2,rfl,hE,hCE⟩:=aDl r1 (j:=j) (by simpa using hj)
  exact aEJ (p:=35) (s:=25) (k:=1) rfl rfl (by kernel_rfl) (by kernel_rfl) (by kernel_rfl) (by kernel_rfl) aAQ aJt (by decide) rfl (by decide) (by decide) (by decide) (by decide) hj (aCN (aA3 hq 1)) aMs aSw aRR aXG bAy (fun hm=>by rw[aBN hj];exact aDm (aDe hm hCE) (aDS hm hE) (aDo (aA3 hq 1) j)) hQ C1 hk ht K
 ·intro Q j a w hj hQ hk ht K
  obtain⟨b2,o2,c2,rfl,hE,hCE⟩:=aDl r1 (j:=j) (by simpa using hj)
  exact aEE (p:=53) (s:=25) (k:=1) (by decide) rfl (by kernel_rfl) (by kernel_rfl) aAQ aJt (by decide) rfl (by decide) (by decide) (by decide) (by decide) hj (aCN (aA3 hq 1)) aMs aSw aRR aXG bAy (fun hm=>by rw[aBN hj];exact aDm (aDe hm hCE) (aDS hm hE) (aDo (aA3 hq 1) j)) hQ C1 hk ht K
 rw[hz1] at ht
 exact aHa (s:=72) (fE:=67) (fS:=69) (g:=94) aAQ aDt aEz aKi aCA aKw aIk bB1 rfl rfl (fun h=>Bool.noConfusion h) (by decide) (by decide) (by decide) aVR Ct rt (aAB hq).2.2.2.2.1 (aAB hq).2.2.1 (aAB hq).2.2.2.1 (aBM _) (aCa (aAB hq).2.2.2.2.1) hb hk ht
end Go.Proofs.YtipgdlbbmlnfiaaGreatDoor
