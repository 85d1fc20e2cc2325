/- Walks of functions that the seat's laws reach. -/
import Derived.Test.YtipgdlbbmlnfiaaGreatDoorL4
import Derived.Test.YtipgdlbbmlnfiaaGreatDoorRows
import Derived.Test.YtipgdlbbmlnfiaaGreatDoorFa
import Derived.Test.YtipgdlbbmlnfiaaGreatDoorRh
namespace Go.Proofs.YtipgdlbbmlnfiaaGreatDoor
open Go Go.Mk
theorem aJp {w0:World}{g off e key:Nat}{cs:List Value}{p:Option Nat}{ks:List Nat}{vs:List Value}{x:Value}(hb:w0.heap[g]?=some (.cells cs.toArray e (0,0)))(hc:cs[off]?=some (.map p))(hM:aM2 w0 p ks vs) :
  Ret Tryz.prog 109 [.pointer (some ⟨g,off,none⟩),.int .u32 (key:Int),x] w0 fun _ w'=>Agr (fun k=>k=g∨p=some k) w0 w'∧∃ r,w'.heap[g]?=some (.cells (spl cs off [.map (some r)]).toArray e (0,0)) ∧
   aGE w' r (aPl ks vs key x).1 (aPl ks vs key x).2∧(p=some r∨(p=none∧w0.heap.size≤r)):=by
 have hol:off<cs.length:=by
  have:=(List.getElem?_eq_some_iff.1 hc).1
  exact this
 have hm:=Mem.startTags hb hM
 refine aAy Tryz.func109 rfl rfl fun a hk=>?_
 have hk:Kn 21 [(0,.pointer (some ⟨g,off,none⟩)),(1,.int .u32 (key:Int)),(2,x)] a:=hk
 refine wp_seq ?_
 refine cR0 ?_
 refine oM0 hk rfl rfl fun a hk=>?_
 refine oN0 hk rfl rfl fun a hk=>?_
 refine oF0 hk aJo rfl rfl fun a hk=>?_
 refine aAq hk aPQ rfl (hm.cell_blk (i:=0) rfl hc) rfl fun a hk=>?_
 refine aXe hk bB7 rfl rfl fun a hk=>?_
 refine cE0 ?_
 cases p with
 | none =>
  obtain⟨rfl,rfl⟩:=hM
  refine aEm hk rfl ?_
  refine aC2 ?_
  refine oM0 hk rfl rfl fun a hk=>?_
  refine aUj hk rfl fun a b w1 hbs hp hM1 hk=>?_
  have hm:=hm.mapNew (i:=1) rfl hp hbs hM1
  refine oN0 hk rfl rfl fun a hk=>?_
  refine oF0 hk aJo rfl rfl fun a hk=>?_
  refine aAz (i:=0) hk hm aPQ rfl rfl rfl rfl rfl rfl hol fun a w hk hm=>?_
  refine aAb ?_
  refine cT0 ?_
  refine aC2 ?_
  refine oM0 hk rfl rfl fun a hk=>?_
  refine oN0 hk rfl rfl fun a hk=>?_
  refine oF0 hk aJo rfl rfl fun a hk=>?_
  refine aAq hk aPQ rfl (hm.cell_blk (i:=0) rfl (aWh hol)) rfl fun a hk=>?_
  refine oM0 hk rfl rfl fun a hk=>?_
  refine oM0 hk rfl rfl fun a hk=>?_
  refine aMR hk aSJ rfl rfl rfl (hm.mapOr (i:=1) rfl) fun a w2 hp2 hM2 hk=>?_
  have hm:=hm.setEnt (i:=1) (e':=.mapb (some b) _ _) rfl rfl rfl hp2 hM2
  refine aAb ?_
  refine aB4 rfl hk ?_
  exact⟨hm.agr,b,hm.blkAt (i:=0) rfl,hm.mapOr (i:=1) rfl,.inr ⟨rfl,by omega⟩⟩
 | some r =>
  refine aB9 hk rfl ?_
  refine wp_skip ?_
  refine cT0 ?_
  refine aC2 ?_
  refine oM0 hk rfl rfl fun a hk=>?_
  refine oN0 hk rfl rfl fun a hk=>?_
  refine oF0 hk aJo rfl rfl fun a hk=>?_
  refine aAq hk aPQ rfl (hm.cell_blk (i:=0) rfl hc) rfl fun a hk=>?_
  refine oM0 hk rfl rfl fun a hk=>?_
  refine oM0 hk rfl rfl fun a hk=>?_
  refine aMR hk aSJ rfl rfl rfl (hm.mapOr (i:=1) rfl) fun a w2 hp2 hM2 hk=>?_
  have hm:=hm.setEnt (i:=1) (e':=.mapb (some r) _ _) rfl rfl rfl hp2 hM2
  refine aAb ?_
  refine aB4 rfl hk ?_
  exact⟨hm.agr,r,by rw[aRg hc];exact hm.blkAt (i:=0) rfl,hm.mapOr (i:=1) rfl,.inl rfl⟩
theorem aIE {good gv:Value}{gb:Nat}:Er.RkOk Tryz.prog 142 good gb gv 107 .tags:=by
 intro w0 Y rb s hb hY
 have hrb:=hb.lt
 obtain⟨x0,hbk,hx0⟩:=hb
 refine aAy Tryz.func107 rfl rfl fun a hk=>?_
 have hk:Kn 24 [(0,.pointer (some ⟨rb,0,none⟩))] a:=hk
 refine cR0 ?_
 refine Er.o_allocW hk bAc rfl rfl fun a w1 ag1 lt1 hb2 hk=>?_
 refine cE0 ?_
 refine cR0 ?_
 refine Er.o_allocW hk bAc rfl rfl fun a w2 ag2 lt2 hb3 hk=>?_
 refine cE0 ?_
 obtain⟨b2,hB2⟩ : ∃ b,b=w0.heap.size:=⟨_,rfl⟩
 obtain⟨b3,hB3⟩ : ∃ b,b=w1.heap.size:=⟨_,rfl⟩
 rw[← hB2,← hB3] at hk
 rw[← hB2] at hb2
 rw[← hB3] at hb3
 have hb2':w2.heap[b2]?=some (.cells #[.map none] 84 (0,0)):=(ag2.block b2 (by omega) id).trans hb2
 have hT:Er.TgAt w0 Y rb 142 84 b2 b3 w2 [] s none []:=by
  refine⟨(ag1.trans ag2 (fun _ _ x=>x) (fun _ _ x=>x)).mono (fun _ _ x=>x.elim),⟨x0,?_,?_⟩,hb2',hb3,⟨rfl,rfl⟩,aCh.nil,fun r hr=>by cases hr⟩
  ·rw[ag2.block rb (by omega) id,ag1.block rb (by omega) id];exact hbk
  ·refine Rep.move (fun i hi hn=>⟨(ag2.block i (by omega) id).trans (ag1.block i hi id),fun hy=>?_⟩) _ _ hx0
   rcases hy with hy|hy|hy|hy
   ·exact hn hy.2
   ·omega
   ·omega
   ·cases hy
 have hbb:rb<w0.heap.size∧w0.heap.size≤b2∧w0.heap.size≤b3:=⟨hrb,by omega,by omega⟩
 have hne:b2≠b3:=by omega
 refine wp_seq ?_
 refine cR0 ?_
 refine oM0 hk rfl rfl fun a hk=>?_
 refine aAk hk aJ7 (aC4 (Y:=Er.Yt w0 Y b2 b3 none) hT.rdr (Er.TgAt.yrb hY hrb)) ⟨rfl,trivial⟩ rfl fun v w3 a hR hk=>?_
 obtain⟨ag3,rfl,hr3⟩:=hR
 have hT:=hT.read hbb hY ag3 hr3
 refine oA0 hk rfl rfl fun a hk=>?_
 refine cE0 ?_
 have hn0:=Er.uv_lt s
 refine aL3 (fun k a w=>k<4294967296∧Kn 24 [(0,.pointer (some ⟨rb,0,none⟩)),(2,.pointer (some ⟨b2,0,none⟩)),(3,.pointer (some ⟨b3,0,none⟩)),(4,.int .u32 (k:Int))] a ∧
  ∃ u sk p vs,Er.TgAt w0 Y rb 142 84 b2 b3 w u sk p vs∧aI4 s=aJd k u sk) (RS.uv s).1
  ⟨hn0,hk.sub ⟨rfl,rfl,rfl,rfl,trivial⟩,[],(RS.uv s).2,none,[],hT,rfl⟩ ?_
 rintro k a w ⟨hkn,hk,u,sk,p,vs,hT,hrd⟩
 refine wp_seq ?_
 refine cR0 ?_
 refine oM0 hk rfl rfl fun a hk=>?_
 refine aAx (b:=decide (0<k)) hk rfl rfl (by simp[icmp]) rfl fun a hk=>?_
 refine cE0 ?_
 by_cases hk0 : 0<k
 ·rw[decide_eq_true hk0] at hk
  refine aEm hk rfl ?_
  refine wp_skip ?_
  refine cT0 ?_
  refine wp_seq ?_
  refine wp_block ?_
  obtain⟨k,rfl⟩ : ∃ q,k=q+1:=⟨k - 1,by omega⟩
  refine cR0 ?_
  refine oM0 hk rfl rfl fun a hk=>?_
  refine aAk hk aJ7 (aC4 (Y:=Er.Yt w0 Y b2 b3 p) hT.rdr (Er.TgAt.yrb hY hrb)) ⟨rfl,trivial⟩ rfl fun v w4 a hR hk=>?_
  obtain⟨ag4,rfl,hr4⟩:=hR
  have hT:=hT.read hbb hY ag4 hr4
  refine oM0 hk rfl rfl fun a hk=>?_
  refine aAk hk aJ7 (aC4 (Y:=Er.Yt w0 Y b2 b3 p) hT.rdr (Er.TgAt.yrb hY hrb)) ⟨rfl,trivial⟩ rfl fun v w5 a hR hk=>?_
  obtain⟨ag5,rfl,hr5⟩:=hR
  have hT:=hT.read hbb hY ag5 hr5
  refine oA0 hk rfl rfl fun a hk=>?_
  refine oA0 hk rfl rfl fun a hk=>?_
  refine cE0 ?_
  refine aC2 ?_
  refine oM0 hk rfl rfl fun a hk=>?_
  refine oM0 hk rfl rfl fun a hk=>?_
  refine oM0 hk rfl rfl fun a hk=>?_
  refine aAG (c:=((RS.uv (RS.uv sk).2).1:Int)) hk aQY aTb rfl (Er.uv_i64 _) rfl fun a hk=>?_
  refine aAk hk aJ5 (aF7 ((RS.uv (RS.uv sk).2).1:Int) (Y:=Er.Yt w0 Y b2 b3 p) hT.rdr (Er.TgAt.yrb hY hrb)) ⟨rfl,rfl,trivial⟩ rfl fun v w6 a hR hk=>?_
  obtain⟨ag6,hv6,hr6⟩:=hR
  have hT6:=hT.read hbb hY ag6 hr6
  have hsz6:=hT.agr.size
  have hx:Rep w6 (Er.Yt w0 Y b2 b3 p) (aDJ ((RS.span ((RS.uv (RS.uv sk).2).1:Int) (RS.uv (RS.uv sk).2).2).1.getD [])) [v]:=by
   refine Rep.move (fun i _ hn=>⟨rfl,fun hy=>hn ⟨?_,hy⟩⟩) _ _ (aHi hv6)
   rcases hy with hy|hy|hy|hy
   ·omega
   ·have:=(Array.getElem?_eq_some_iff.1 hT.h2).1;omega
   ·have:=(Array.getElem?_eq_some_iff.1 hT.h3).1;omega
   ·exact (hT.own i hy).2.2.2
  refine aAk hk aQh (aJp (cs:=[.map p]) (off:=0) (key:=(RS.uv sk).1) (x:=v) hT6.h3 rfl hT6.mp) ⟨rfl,rfl,rfl,trivial⟩ rfl fun vv w7 a hR hk=>?_
  obtain⟨ag7,r,h73,hM7,hr7⟩:=hR
  obtain⟨vs',hT7⟩:=hT6.set ⟨hrb,hbb.2.1,hbb.2.2,hne⟩ hx ag7 h73 hM7 hr7
  refine aAb ?_
  refine cN0 ?_
  refine cT0 ?_
  refine aC2 ?_
  refine oM0 hk rfl rfl fun a hk=>?_
  refine aCj (i:=((k+1:Nat):Int)) (j:=1) (z:=(k:Int)) (c:=(k:Int)) hk rfl rfl (by simp[iarith]) (by simp only[IntKind.wrap,IntKind.bits,IntKind.signed];simp;omega) rfl fun a hk=>?_
  refine oA0 hk rfl rfl fun a hk=>?_
  refine aAb ?_
  exact cT0 ⟨k,by omega,by omega,hk.sub ⟨rfl,rfl,rfl,rfl,trivial⟩,_,_,_,_,hT7,by rw[hrd,Er.rdTagsN_succ]⟩
 ·have hk00:k=0:=by omega
  subst hk00
  rw[decide_eq_false (by omega)] at hk
  refine aB9 hk rfl ?_
  refine wp_exit ?_
  refine aBd ?_
  refine aBd ?_
  refine aD9 ?_
  refine cT0 ?_
  have hu:aI4 s=(u,sk):=by rw[hrd];rfl
  refine cR0 ?_
  refine aAM (cs:=[.map p]) hk aX3 rfl (fun j u hj=>by
   cases j with
   | zero=>simp only[List.getElem?_cons_zero,Option.some.injEq] at hj;subst hj;simp[World.cell?,hT.h3]
   | succ j=>simp at hj) rfl fun a hk=>?_
  refine Er.o_storeB (pre:=[]) (post:=[]) (cs:=[.map none]) (o:=0) (b:=b2) (u:=.agg [.map p].toArray) hk aX3 rfl rfl rfl rfl hT.h2 (by simp[cellsOf]) fun a w8 ag8 hb8 hk=>?_
  refine cE0 ?_
  obtain⟨f1,f2,f3⟩:=hT.fin hbb hY ag8
  refine wp_ret ?_
  refine Er.b_retCellW (cs:=[.map p]) rfl aX3 hk rfl (fun j u hj=>by
   cases j with
   | zero=>simp only[List.getElem?_cons_zero,Option.some.injEq] at hj;subst hj;simp[World.cell?,hb8,cellsOf]
   | succ j=>simp at hj) ⟨f1,by rw[hu];exact f2,by rw[hu];exact f3⟩
end Go.Proofs.YtipgdlbbmlnfiaaGreatDoor
