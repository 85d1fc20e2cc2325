/- Walks of programs, step by step: what holds of memory behind each; the reference in plain words. No statement of a seat stands here. -/
import Derived.Test.YtipgdlbbmlnfiaaGreatDoorL2
namespace Go.Mk.Er
open Go Go.Mk
def IV (E:En)(e0:Nat→Lv)(w0:World)(Y:Nat→Prop)(items:List It)(g0:G)(s0:RS)(σ : St)(a:Act)(w:World):Prop:=∃ e l s cs S,Inv E e0 w0 Y items g0 s0 σ a w e l s cs S
theorem aBJ {Y:Nat→Prop}{σ : St}{e:Lv}(h : σ.pd=none):Yl Y σ e=Y:=by
 funext k
 unfold Yl
 rw[h]
 simp
theorem bAN {Y:Nat→Prop}{σ : St}{e:Lv}{k:Nat}(h:Y k):Yl Y σ e k:=.inl h
theorem aGa {cx:Cx}{σ σ':St}{d:Nat}{v:AV}(h:put cx σ d v=some σ'):Nat.blt d cx.n=true∧σ'={ σ with sl:=(d,v)::σ.sl }:=by
 unfold put at h
 split at h
 ·rename_i hb
  exact⟨hb,(Option.some.inj h).symm⟩
 ·cases h
theorem aEx {α : Type}{xs:Array α}{l:List α}(h:xs.toList=l):xs=l.toArray:=by subst h;simp
theorem aEb:∀ {cfg:List (Nat × RK)} {f:Nat} {c:RK},aMi cfg f=some c→(f,c) ∈ cfg
 | [],f,c,h=>by simp[aMi] at h
 | (k,c')::r,f,c,h=>by
  simp only[aMi] at h
  split at h
  ·rename_i hb
   obtain rfl:=Nat.eq_of_beq_eq_true hb
   obtain rfl:=Option.some.inj h
   exact List.mem_cons_self
  ·exact List.mem_cons_of_mem _ (aEb h)
def AR (E:En)(w:World)(Y:Nat→Prop)(e:Nat→Lv):List AV→List Value→Prop
 | [],[]=>True
 | p::r,q::s=>VR E w Y e p q∧AR E w Y e r s
 | _,_=>False
theorem SR.evs {E:En}{w:World}{Y:Nat→Prop}{e:Nat→Lv}{sl:List (Nat × AV)}{l:List (Nat × Value)}(h:SR E w Y e sl l):∀ {xs:List Operand} {ars:List AV},aevs sl xs=some ars→∃ vs,Mk.evs l xs vs∧AR E w Y e ars vs
 | [],ars,hx=>by simp only[aevs,Option.some.injEq] at hx;subst hx;exact⟨[],trivial,trivial⟩
 | x::r,ars,hx=>by
  simp only[aevs] at hx
  split at hx
  ·rename_i v vs hv hvs
   simp only[Option.some.injEq] at hx
   subst hx
   obtain⟨u,h1,h2⟩:=h.ev hv
   obtain⟨us,h3,h4⟩:=h.evs hvs
   exact⟨u::us,⟨h1,h3⟩,h2,h4⟩
  ·cases hx
theorem AR.one {E:En}{w:World}{Y:Nat→Prop}{e:Nat→Lv}{a:AV}{vs:List Value}(h:AR E w Y e [a] vs):∃ x,vs=[x]∧VR E w Y e a x:=by
 match vs,h with
 | [x],h=>exact⟨x,rfl,h.1⟩
theorem aCT (s:List UInt8):(bv (sixteen s)).length=16:=by rw[aCV,aAK]
section
variable {E:En}{e0 e:Nat→Lv}{w0 w w':World}{Y:Nat→Prop}{items:List It}{g0:G}{s0 s:RS}{σ σ':St}{a a':Act}{l:List (Nat × Value)}{cs:List Value}{S:LS}
theorem Inv.put (h:Inv E e0 w0 Y items g0 s0 σ a w e l s cs S){d:Nat}{v:AV}{x:Value}(hk:Kn E.cx.n ((d,x)::l) a')(hv:VR E w (Yl Y σ (e E.cur)) e v x):Inv E e0 w0 Y items g0 s0 { σ with sl:=(d,v)::σ.sl } a' w e ((d,x)::l) s cs S :=
 ⟨h.ls,h.same,hk,⟨rfl,hv,h.sr⟩,h.agr,h.rdr,h.blk,h.cel,h.none_,h.pend,h.fr⟩
def aEL (e:Nat→Lv)(cur:Nat)(g:G):Nat→Lv:=fun l=>if l=cur then { e l with g:=g } else e l
def aIz (e:Nat→Lv)(cur:Nat)(n:Int):Nat→Lv:=fun l=>if l=cur then { e l with cnt:=n } else e l
def aJj (e:Nat→Lv)(cur:Nat)(b:Bool):Nat→Lv:=fun l=>if l=cur then { e l with bad:=b } else e l
def aKS (e:Nat→Lv)(cur:Nat)(b:Nat):Nat→Lv:=fun l=>if l=cur then { e l with lb:=b } else e l
theorem aRU {cur l:Nat}{g:G}(h:l≠cur):aEL e cur g l=e l:=by unfold aEL;rw[if_neg h]
theorem aCe {cur:Nat}{g:G}:aEL e cur g cur={ e cur with g:=g }:=by unfold aEL;rw[if_pos rfl]
theorem aMy {cur l:Nat}{n:Int}(h:l≠cur):aIz e cur n l=e l:=by unfold aIz;rw[if_neg h]
theorem aJD {cur:Nat}{n:Int}:aIz e cur n cur={ e cur with cnt:=n }:=by unfold aIz;rw[if_pos rfl]
theorem aWe {cur l:Nat}{b:Bool}(h:l≠cur):aJj e cur b l=e l:=by unfold aJj;rw[if_neg h]
theorem aEu {cur:Nat}{b:Bool}:aJj e cur b cur={ e cur with bad:=b }:=by unfold aJj;rw[if_pos rfl]
theorem aR3 {cur l b:Nat}(h:l≠cur):aKS e cur b l=e l:=by unfold aKS;rw[if_neg h]
theorem aHI {cur b:Nat}:aKS e cur b cur={ e cur with lb:=b }:=by unfold aKS;rw[if_pos rfl]
theorem aMI.wG {cur:Nat}(h:aMI cur e0 e)(g:G):aMI cur e0 (aEL e cur g):=by
 obtain⟨h1,h2⟩:=h
 refine⟨fun l hl=>by rw[aRU hl];exact h1 l hl,?_⟩
 rw[aCe];exact h2
theorem aMI.wC {cur:Nat}(h:aMI cur e0 e)(n:Int):aMI cur e0 (aIz e cur n):=by
 obtain⟨h1,h2⟩:=h
 refine⟨fun l hl=>by rw[aMy hl];exact h1 l hl,?_⟩
 rw[aJD];exact h2
theorem aMI.wB {cur:Nat}(h:aMI cur e0 e)(b:Bool):aMI cur e0 (aJj e cur b):=by
 obtain⟨h1,h2⟩:=h
 refine⟨fun l hl=>by rw[aWe hl];exact h1 l hl,?_⟩
 rw[aEu];exact h2
theorem aMI.wL {cur:Nat}(h:aMI cur e0 e)(b:Nat):aMI cur e0 (aKS e cur b):=by
 obtain⟨h1,h2⟩:=h
 refine⟨fun l hl=>by rw[aR3 hl];exact h1 l hl,?_⟩
 rw[aHI];exact h2
def GOk:It→G→G→Prop
 | .fld i,g,g'=>(∀ j,j≠i→g'.q j=g.q j)∧g'.u=g.u
 | .tags,g,g'=>g'.q=g.q
 | .ktags _,_,_=>False
theorem VR.unr {it:It}{g:G}(hg:GOk it (e E.cur).g g):∀ (v:AV) (x:Value),VR E w Y e v x→VR E w Y (aEL e E.cur g) (AV.unr it v) x:=by
 have hb:∀ l,(aEL e E.cur g l).b=(e l).b:=fun l=>by unfold aEL;split<;>rfl
 have ho:∀ l,(aEL e E.cur g l).off=(e l).off:=fun l=>by unfold aEL;split<;>rfl
 have hc:∀ l,(aEL e E.cur g l).cnt=(e l).cnt:=fun l=>by unfold aEL;split<;>rfl
 have hl:∀ l,(aEL e E.cur g l).lb=(e l).lb:=fun l=>by unfold aEL;split<;>rfl
 have hi:∀ l,(aEL e E.cur g l).ix=(e l).ix:=fun l=>by unfold aEL;split<;>rfl
 have hv:∀ l,(aEL e E.cur g l).sv=(e l).sv:=fun l=>by unfold aEL;split<;>rfl
 have hm:∀ l x,aOo (aEL e E.cur g l) x ↔ aOo (e l) x:=fun l x=>by unfold aOo;rw[hc,hl]
 intro v x h
 cases v with
 | okb p=>cases it<;>trivial
 | res=>cases it<;>trivial
 | val j =>
  cases it with
  | fld i =>
   show VR E w Y _ (if Nat.beq i j then .junk else .val j) x
   split
   ·trivial
   ·rename_i hne
    obtain⟨s,h1,h2,h3⟩:=h
    refine⟨s,h1,?_,h3⟩
    rw[aCe]
    have:j≠i:=fun e=>hne (by rw[e];simp)
    show Rep w Y (ddF _ _ (g.q j)) _
    rw[hg.1 j this]
    exact h2
  | tags =>
   obtain⟨s,h1,h2,h3⟩:=h
   refine⟨s,h1,?_,h3⟩
   rw[aCe]
   show Rep w Y (ddF _ _ (g.q j)) _
   rw[hg]
   exact h2
  | ktags _=>exact hg.elim
 | tagv =>
  cases it with
  | fld i =>
   show Rep w Y (aAN (aEL e E.cur g E.cur).g.u) _
   rw[aCe]
   show Rep w Y (aAN g.u) _
   rw[hg.2]
   exact h
  | tags=>trivial
  | ktags _=>exact hg.elim
 | junk=>cases it<;>trivial
 | k u=>cases it<;>exact h
 | rdr=>cases it<;>exact h
 | ptr l o=>cases it<;>(show x=_;rw[hb,ho];exact h)
 | cnt l=>cases it<;>(show x=_;rw[hc];exact h)
 | gt0=>cases it<;>(show x=_;rw[hc];exact h)
 | eq0=>cases it<;>(show x=_;rw[hc];exact h)
 | base l m=>cases it<;>(show aGe _ m x;rw[hc];exact h)
 | made=>cases it<;>(show 0<_∧aOo _ x;rw[hc,hm];exact h)
 | arr l m=>cases it<;>(show (0<_→aOo _ x)∧(_≤0→aGe _ m x);rw[hc,hm];exact h)
 | box j =>
  cases it with
  | fld i =>
   show VR E w Y _ (if Nat.beq i j then .junk else .box j) x
   split
   ·trivial
   ·rename_i hne
    obtain⟨s,b,h1,h2,h3,h4⟩:=h
    refine⟨s,b,h1,h2,h3,?_⟩
    rw[aCe]
    have:j≠i:=fun e=>hne (by rw[e];simp)
    show Cel w Y b 0 (bv (sixteen (g.q j).s))
    rw[hg.1 j this]
    exact h4
  | tags =>
   obtain⟨s,b,h1,h2,h3,h4⟩:=h
   refine⟨s,b,h1,h2,h3,?_⟩
   rw[aCe]
   show Cel w Y b 0 (bv (sixteen (g.q j).s))
   rw[hg]
   exact h4
  | ktags _=>exact hg.elim
 | idx l=>cases it<;>(show x=_;rw[hi];exact h)
 | sv l j=>cases it<;>(show x=_;rw[hv];exact h)
theorem ACs.free {fs:List Fld}{tg:Bool}{it:It}{g g':G}(hg:GOk it g g'):∀ {l:List AC} {c:List Value},l.all (AC.free it)=true→ACs w Y fs tg g l c→ACs w Y fs tg g' l c
 | [],[],_,_=>trivial
 | [],_::_,_,h=>h.elim
 | _::_,[],_,h=>h.elim
 | p::r,x::c,hf,h=>by
  simp only[List.all_cons,Bool.and_eq_true] at hf
  refine⟨?_,ACs.free hg hf.2 h.2⟩
  have h1:=h.1
  have hf1:=hf.1
  cases p with
  | k v=>exact h1
  | got j =>
   show Rep w Y (ddF _ _ (g'.q j)) [x]
   cases it with
   | fld i =>
    have:j≠i:=fun e=>by subst e;simp[AC.free] at hf1
    rw[hg.1 j this];exact h1
   | tags=>rw[hg];exact h1
   | ktags _=>exact hg.elim
  | gotu j k =>
   show (bv (sixteen (g'.q j).s))[k]? = some x
   cases it with
   | fld i =>
    have:j≠i:=fun e=>by subst e;simp[AC.free] at hf1
    rw[hg.1 j this];exact h1
   | tags=>rw[hg];exact h1
   | ktags _=>exact hg.elim
  | sub j a =>
   show ACR w Y (fs.getD j aAm).sub tg (gT (g'.q j)) a x
   cases it with
   | fld i =>
    have:j≠i:=fun e=>by subst e;simp[AC.free] at hf1
    rw[hg.1 j this];exact h1
   | tags=>rw[hg];exact h1
   | ktags _=>exact hg.elim
  | tags =>
   cases it with
   | fld i =>
    show Rep w Y (aAN g'.u) [x]
    rw[hg.2];exact h1
   | tags=>simp[AC.free] at hf1
   | ktags _=>exact hg.elim
theorem Inv.read (B:Base E e0 w0 Y)(h:Inv E e0 w0 Y items g0 s0 σ a w e l s cs S)(hpd : σ.pd=none){it:It}{r:List It}(htodo : σ.todo=it::r)(hfree : σ.cells.all (AC.free it)=true){g:G}{s':RS}(hrd:rdI S.fs E.cx.V E.cx.flex (e E.cur).g s it=some (g,s'))
  (hg:GOk it (e E.cur).g g)
  (hag:Agr (fun k=>k=E.rb) w w') (hr:aBx w' (fun b=>b<w.heap.size∧Y b) E.rb E.cx.er s') {d:Nat} {v:AV} {x:Value} (hk:Kn E.cx.n ((d,x)::l) a') (hv:VR E w' Y (aEL e E.cur g) v x) :
  Inv E e0 w0 Y items g0 s0 ⟨(d,v)::aGd (AV.unr it) σ.sl,σ.cells,r,none,false⟩ a' w' (aEL e E.cur g) ((d,x)::l) s' cs S:=by
 have hY:=aBJ (Y:=Y) (e:=e E.cur) hpd
 have hsz:=h.agr.size
 have hmv:∀ i,i<w.heap.size→¬ Y i→w'.heap[i]? = w.heap[i]? ∧ ¬ Y i:=fun i hi hy=>⟨hag.block i hi (fun e=>hy (by rw[e];exact B.yr)),hy⟩
 have hsr:=h.sr
 have hcel:=h.cel
 have hrdr:=h.rdr
 rw[hY] at hsr hcel hrdr
 have hYn:∀ (σ : St) (e:Lv),σ.pd=none→Yl Y σ e=Y:=fun σ e h=>aBJ h
 refine⟨h.ls,h.same.wG g,hk,?_,h.agr.trans hag (fun _ _ x=>x) (fun _ _ x=>.inl x),?_,?_,?_,fun _=>?_,fun p hp=>(by cases hp),fun hp=>(by cases hp)⟩
 ·rw[hYn _ _ rfl]
  exact⟨rfl,hv,(hsr.move hmv).map (VR.unr hg)⟩
 ·rw[hYn _ _ rfl]
  obtain⟨u,h1,h2⟩:=hr
  exact⟨u,h1,Rep.move (fun i hi hn=>⟨rfl,fun hy=>hn ⟨Nat.lt_of_lt_of_le (B.old i hy) hsz,hy⟩⟩) _ _ h2⟩
 ·rw[hag.block _ (Array.getElem?_eq_some_iff.1 h.blk).1 (Ne.symm B.ne)]
  exact h.blk
 ·rw[hYn _ _ rfl,aCe]
  exact (hcel.move hmv).free hg hfree
 ·have hsp:=h.none_ hpd
  unfold spec at hsp ⊢
  rw[hsp,htodo]
  show (rdI S.fs E.cx.V E.cx.flex (e E.cur).g s it).bind _=_
  rw[hrd,aCe]
  rfl
theorem bA2 {σ : St}{e:Lv}(h:∀ p,σ.pd=some p→p.z=none):Yl Y σ e=Y:=by
 funext k
 unfold Yl
 refine propext ⟨fun hk=>hk.elim id ?_,.inl⟩
 rintro ⟨p,z,h1,h2,_⟩
 rw[h p h1] at h2
 cases h2
theorem VR.unl {n:Int}:∀ (v:AV) (x:Value),VR E w Y e v x→VR E w Y (aIz e E.cur n) (AV.unl E.cur v) x:=by
 have hb:∀ l,(aIz e E.cur n l).b=(e l).b:=fun l=>by unfold aIz;split<;>rfl
 have ho:∀ l,(aIz e E.cur n l).off=(e l).off:=fun l=>by unfold aIz;split<;>rfl
 have hi:∀ l,(aIz e E.cur n l).ix=(e l).ix:=fun l=>by unfold aIz;split<;>rfl
 have hg:(aIz e E.cur n E.cur).g=(e E.cur).g:=by rw[aJD]
 intro v x h
 cases v with
 | okb p=>trivial
 | res=>trivial
 | val j =>
  obtain⟨s,h1,h2,h3⟩:=h
  exact⟨s,h1,by rw[hg];exact h2,h3⟩
 | tagv=>show Rep w Y (aAN (aIz e E.cur n E.cur).g.u) _;rw[hg];exact h
 | junk=>trivial
 | k u=>exact h
 | rdr=>exact h
 | ptr l o=>show x=_;rw[hb,ho];exact h
 | cnt l =>
  show VR E w Y _ (if Nat.beq l E.cur then .junk else .cnt l) x
  split
  ·trivial
  ·rename_i hne
   show x=_
   rw[aMy (fun e=>hne (by rw[e];simp))]
   exact h
 | gt0=>trivial
 | eq0=>trivial
 | made=>trivial
 | box j =>
  obtain⟨s,b,h1,h2,h3,h4⟩:=h
  exact⟨s,b,h1,h2,h3,by rw[hg];exact h4⟩
 | base l m =>
  cases m with
  | nn=>exact h
  | ne=>exact h
  | nz =>
   show VR E w Y _ (if Nat.beq l E.cur then .junk else .base l .nz) x
   split
   ·trivial
   ·rename_i hne
    show aGe (aIz e E.cur n l).cnt Md.nz x
    rw[aMy (fun e=>hne (by rw[e];simp))]
    exact h
 | arr l m =>
  show VR E w Y _ (if Nat.beq l E.cur then .junk else .arr l m) x
  split
  ·trivial
  ·rename_i hne
   show (0<_→aOo _ x)∧(_≤0→aGe _ m x)
   rw[aMy (fun e=>hne (by rw[e];simp))]
   exact h
 | idx l=>show x=_;rw[hi];exact h
 | sv l j=>show x=_;rw[show (aIz e E.cur n l).sv=(e l).sv by unfold aIz;split<;>rfl];exact h
theorem VR.unf {b:Bool}:∀ (v:AV) (x:Value),VR E w Y e v x→VR E w Y (aJj e E.cur b) (AV.unf v) x:=by
 have hl:∀ l,∃ b',aJj e E.cur b l={ e l with bad:=b' }:=fun l=>by unfold aJj;split;exact⟨b,rfl⟩;exact⟨(e l).bad,rfl⟩
 intro v x h
 cases v with
 | okb p=>trivial
 | res=>trivial
 | val j =>
  obtain⟨s,h1,h2,h3⟩:=h
  obtain⟨b',hb⟩:=hl E.cur
  exact⟨s,h1,by rw[hb];exact h2,h3⟩
 | tagv=>obtain⟨b',hb⟩:=hl E.cur;show Rep w Y (aAN (aJj e E.cur b E.cur).g.u) _;rw[hb];exact h
 | junk=>trivial
 | k u=>exact h
 | rdr=>exact h
 | ptr l o=>obtain⟨b',hb⟩:=hl l;show x=_;rw[hb];exact h
 | cnt l=>obtain⟨b',hb⟩:=hl l;show x=_;rw[hb];exact h
 | gt0=>obtain⟨b',hb⟩:=hl E.cur;show x=_;rw[hb];exact h
 | eq0=>obtain⟨b',hb⟩:=hl E.cur;show x=_;rw[hb];exact h
 | made=>obtain⟨b',hb⟩:=hl E.cur;show 0<(aJj e E.cur b E.cur).cnt∧aOo _ x;rw[hb];exact h
 | box j =>
  obtain⟨s,b1,h1,h2,h3,h4⟩:=h
  obtain⟨b',hb⟩:=hl E.cur
  exact⟨s,b1,h1,h2,h3,by rw[hb];exact h4⟩
 | base l m=>obtain⟨b',hb⟩:=hl l;show aGe _ m x;rw[hb];exact h
 | arr l m=>obtain⟨b',hb⟩:=hl l;show (0<_→aOo _ x)∧(_≤0→aGe _ m x);rw[hb];exact h
 | idx l=>obtain⟨b',hb⟩:=hl l;show x=_;rw[hb];exact h
 | sv l j=>obtain⟨b',hb⟩:=hl l;show x=_;rw[hb];exact h
theorem aPJ.move {f:Fld}{tg:Bool}{z:List Value}{lv:Lv}{xs:List T}{Y':Nat→Prop}(hm:∀ i,i<w.heap.size→¬ Y i→w'.heap[i]? = w.heap[i]? ∧ ¬ Y' i)(hb:w'.heap[lv.lb]? = w.heap[lv.lb]?)(h:aPJ w Y f tg z lv xs):aPJ w' Y' f tg z lv xs:=by
 obtain⟨D,sl,ety,h1,h2⟩:=h
 exact⟨D,sl,ety,hb.trans h1,aBf.move hm _ _ _ h2⟩
theorem bA7.move {cx:Cx}{f:Fld}{tg:Bool}{lv:Lv}{s1 s:RS}{p:Pd}{Y':Nat→Prop}(hm:∀ i,i<w.heap.size→¬ Y i→w'.heap[i]? = w.heap[i]? ∧ ¬ Y' i)(hb:w0.heap.size≤lv.lb→lv.lb<w.heap.size→w'.heap[lv.lb]? = w.heap[lv.lb]?)(h:bA7 cx w0 w Y f tg lv s1 s p):bA7 cx w0 w' Y' f tg lv s1 s p:=by
 obtain⟨h1,h2,h3,h4,h5,h6⟩:=h
 have hlt:∀ {z:List Value} {xs:List T},aPJ w Y f tg z lv xs→lv.lb<w.heap.size:=fun h=>by
  obtain⟨_,_,_,h,_⟩:=h
  exact (Array.getElem?_eq_some_iff.1 h).1
 refine⟨h1,h2,h3,h4,fun hp=>?_,fun hp z hz=>?_⟩
 ·obtain⟨xs,k1,k2,k3⟩:=h5 hp
  refine⟨xs,k1,k2,fun z hz=>⟨(k3 z hz).1,fun hc=>?_⟩⟩
  obtain⟨k4,k5⟩:=(k3 z hz).2 hc
  exact⟨k4,k5.move hm (hb k4 (hlt k5))⟩
 ·refine⟨(h6 hp z hz).1,fun hc=>?_⟩
  obtain⟨k4,k5⟩:=(h6 hp z hz).2 hc
  exact⟨k4,k5.move hm (hb k4 (hlt k5))⟩
theorem ACs.set1 {fs:List Fld}{tg:Bool}{g:G}{v:Value}:∀ {l:List AC} {c:List Value} (i:Nat),ACs w Y fs tg g l c→ACs w Y fs tg g (l.set i (.k v)) (c.set i v)
 | [],[],_,_=>trivial
 | _::_,_::_,0,h=>⟨rfl,h.2⟩
 | _::_,_::_,i+1,h=>⟨h.1,ACs.set1 i h.2⟩
 | [],_::_,_,h=>h.elim
 | _::_,[],_,h=>h.elim
theorem aMS {fs:List Fld}{tg:Bool}{g:G}:∀ {ds:List (Nat × Value)} {l:List AC} {c:List Value},ACs w Y fs tg g l c→ACs w Y fs tg g (bA3 ds l) (aXy ds c)
 | [],_,_,h=>h
 | d::r,_l,_c,h=>aMS (ds:=r) (ACs.set1 d.1 h)
theorem Inv.write (B:Base E e0 w0 Y)(h:Inv E e0 w0 Y items g0 s0 σ a w e l s cs S){cells:List AC}{cs':List Value}(hag:Agr (fun k=>k=(e0 E.cur).b) w w')(hb:w'.heap[(e0 E.cur).b]? = some (.cells ((e0 E.cur).pre++cs'++(e0 E.cur).post).toArray (e0 E.cur).ty (0,0)))
  (hc:ACs w (Yl Y σ (e E.cur)) S.fs S.tg (e E.cur).g cells cs') (hk:Kn E.cx.n l a'):Inv E e0 w0 Y items g0 s0 { σ with cells:=cells } a' w' e l s cs' S:=by
 have hmv:∀ i,i<w.heap.size→¬ Yl Y σ (e E.cur) i→w'.heap[i]? = w.heap[i]? ∧ ¬ Yl Y σ (e E.cur) i:=fun i hi hy=>⟨hag.block i hi (fun e=>hy (.inl (by rw[e];exact B.yb))),hy⟩
 refine⟨h.ls,h.same,hk,h.sr.move hmv,h.agr.trans hag (fun _ _ x=>x) (fun _ _ x=>.inr x),?_,hb,hc.move hmv,h.none_,fun p hp=>?_,h.fr⟩
 ·obtain⟨u,h1,h2⟩:=h.rdr
  have hlt:=(Array.getElem?_eq_some_iff.1 h1).1
  exact⟨u,by rw[hag.block _ hlt B.ne];exact h1,Rep.move hmv _ _ h2⟩
 ·obtain⟨i,r,s1,k1,k2,k3,k4⟩:=h.pend p hp
  refine⟨i,r,s1,k1,k2,k3,k4.move hmv fun q1 q2=>hag.block _ q2 (fun e=>?_)⟩
  have:=B.old _ B.yb
  omega
end
theorem bAb {kind:Nat}{nul cp flex:Bool}{s:RS}(h:kind<8∨cp=flex):rdV kind nul cp s=rdV kind nul flex s:=by
 rcases h with h|h
 ·match kind,h with
  | 0,_=>rfl
  | 1,_=>rfl
  | 2,_=>rfl
  | 3,_=>rfl
  | 4,_=>rfl
  | 5,_=>rfl
  | 6,_=>rfl
  | 7,_=>rfl
 ·rw[h]
theorem aOZ {f:Fld}{V:Int}{flex:Bool}{s:RS}(h:f.kind<10):rdF f V flex s=some (rdV f.kind (f.mayR V) flex s):=by
 rw[aL4]
 unfold rdQ
 rw[if_neg (by omega),if_neg (by omega)]
 exact aXB (by omega)
theorem aJC {f:Fld}{tg:Bool}{t:T}(h:f.kind≠11):ddF f tg t=aKy f.kind f.nu (ddS f.sub tg) t:=by
 cases f with
 | mk kind fr to nu tag df of sub =>
  unfold ddF
  rw[if_neg (show ¬ kind=11 from h)]
  rfl
section
variable {E:En}{e0 e:Nat→Lv}{w0 w w':World}{Y:Nat→Prop}{items:List It}{g0:G}{s0 s:RS}{σ σ':St}{a a':Act}{l:List (Nat × Value)}{cs:List Value}{S:LS}
variable {ops:Array Oper}{Q:Exit→Act→World→Prop}{rest:List Oper}{d:Option Nat}{ty:Nat}{ps:String}{af:Array Edge}{f:Nat}{xs:List Operand}{tys:Array Nat}{vs:List Value}{ars:List AV}
theorem aQ6 (B:Base E e0 w0 Y)(hI:Inv E e0 w0 Y items g0 s0 σ a w e l s cs S)(hx:Mk.evs l xs vs)(ha:AR E w (Yl Y σ (e E.cur)) e ars vs)(h:xcall E.cx E.ls E.cur σ d (aMi E.cx.cfg f) ars=some σ')
    (K:∀ a' w',IV E e0 w0 Y items g0 s0 σ' a' w'→wpList E.cx.P ops Q rest a' w'):wpList E.cx.P ops Q (⟨d,.call ⟨.value (.func f),xs.toArray,tys⟩,ty,ps,af,none⟩::rest) a w:=by
  cases hck:aMi E.cx.cfg f with
  | none=>rw[hck] at h;simp[xcall] at h
  | some ck =>
    obtain⟨hc,hcal⟩:=B.cfg f ck (aEb hck)
    rw[hck] at h
    have hsz:=hI.agr.size
    have back:∀ {w':World} {d:DD} {c:List Value},Rep w' (fun b=>b<w.heap.size∧Y b) d c→Rep w' Y d c:=fun hr =>
      Rep.move (fun i _ hn=>⟨rfl,fun hy=>hn ⟨Nat.lt_of_lt_of_le (B.old i hy) hsz,hy⟩⟩) _ _ hr
    unfold xcall at h
    split at h
    · -- a value
      rename_i kind nul cp hck'
      obtain rfl:=Option.some.inj hck'
      split at h
      · rename_i d1 i r s1 hto hls hpd
        split at h
        · rename_i hb
          simp only[Bool.and_eq_true,Bool.or_eq_true,Bool.not_eq_true',beq_iff_eq] at hb
          obtain⟨⟨⟨⟨b1,b2⟩,b3⟩,b4⟩,b5⟩:=hb
          split at h
          · rename_i hfree
            obtain⟨hdn,rfl⟩:=aGa h
            have hls':=hI.ls
            rw[hls] at hls'
            obtain rfl:=Option.some.inj hls'
            have hpd' : σ.pd=none:=by
              cases hp : σ.pd with
              | none=>rfl
              | some p=>rw[hp] at hpd;cases hpd
            have hk:=Nat.eq_of_beq_eq_true b1
            have hk10:kind<10:=by simpa [Nat.blt_eq] using b2
            obtain⟨x,rfl,rfl⟩:=ha.one
            have hY:=aBJ (Y:=Y) (e:=e E.cur) hpd'
            have hrdr:=hI.rdr
            rw[hY] at hrdr
            refine aAk hI.kn hcal (hc (s1.fs.getD i aAm).nu (ddS (s1.fs.getD i aAm).sub s1.tg) (fun h8=>?_) hrdr B.yr) hx hdn fun v w' a' hv hk'=>?_
            · rcases b4 with b4|b4
              · rw[h8] at b4;simp at b4
              · exact b4
            · obtain⟨v1,v2,v3⟩:=hv
              have hrd:rdF (s1.fs.getD i aAm) E.cx.V E.cx.flex s=some (rdV kind nul cp s):=by
                rw[aOZ (by omega),hk,← b3]
                congr 1
                refine (bAb ?_).symm
                rcases b5 with b5|b5
                · exact .inl (by simpa [Nat.blt_eq] using b5)
                · exact .inr b5
              refine K a' w' ⟨_,_,_,_,_,hI.read B hpd' hto hfree (g:=(e E.cur).g.set i (rdV kind nul cp s).1) (s':=(rdV kind nul cp s).2) (by
                show (rdF (s1.fs.getD i aAm) E.cx.V E.cx.flex s).map _=_
                rw[hrd];rfl) ⟨fun j hj=>by simp[G.set,hj],rfl⟩ v1 v3 hk' (v:=.val i) ⟨s1,hls,?_,fun h7=>v2.2 (by rw[← hk];exact h7)⟩⟩
              rw[aCe]
              have:((e E.cur).g.set i (rdV kind nul cp s).1).q i=(rdV kind nul cp s).1:=by simp[G.set]
              show Rep w' Y (ddF _ _ (((e E.cur).g.set i (rdV kind nul cp s).1).q i)) _
              rw[this,aJC (by omega),hk]
              exact back v2.1
          · cases h
        · cases h
      · cases h
    · -- a count
      rename_i cp hck'
      obtain rfl:=Option.some.inj hck'
      split at h
      · rename_i d1 i r s1 hto hls hpd
        split at h
        · rename_i hb
          simp only[Bool.and_eq_true,beq_iff_eq] at hb
          obtain⟨b1,rfl⟩:=hb
          obtain⟨hdn,rfl⟩:=aGa h
          have hls':=hI.ls
          rw[hls] at hls'
          obtain rfl:=Option.some.inj hls'
          have hpd' : σ.pd=none:=by
            cases hp : σ.pd with
            | none=>rfl
            | some p=>rw[hp] at hpd;cases hpd
          have hk:=Nat.eq_of_beq_eq_true b1
          obtain⟨x,rfl,rfl⟩:=ha.one
          have hY:=aBJ (Y:=Y) (e:=e E.cur) hpd'
          have hrdr:=hI.rdr
          have hsr:=hI.sr
          have hcel:=hI.cel
          rw[hY] at hrdr hsr hcel
          refine aAk hI.kn hcal (hc hrdr B.yr) hx hdn fun v w' a' hv hk'=>?_
          obtain⟨v1,rfl,v3⟩:=hv
          have hmv:∀ i,i<w.heap.size→¬ Y i→w'.heap[i]? = w.heap[i]? ∧ ¬ Y i:=fun i hi hy=>⟨v1.block i hi (fun e=>hy (by rw[e];exact B.yr)),hy⟩
          have hYn:∀ (σ : St) (lv:Lv),σ.pd=some ⟨none,.un,none,false⟩→Yl Y σ lv=Y:=fun σ lv h=>bA2 fun p hp=>by
            rw[h] at hp
            obtain rfl:=Option.some.inj hp
            rfl
          refine K a' w' ⟨aIz e E.cur (aEp E.cx.flex s).1,(d1,.int .i32 (aEp E.cx.flex s).1)::l,(aEp E.cx.flex s).2,cs,s1,?_⟩
          refine⟨hls,hI.same.wC _,hk',?_,hI.agr.trans v1 (fun _ _ x=>x) (fun _ _ x=>.inl x),?_,?_,?_,fun hp=>(by cases hp),fun p hp=>?_,fun hp=>(by cases hp)⟩
          · rw[hYn _ _ rfl]
            exact⟨rfl,by show _=Value.int .i32 (aIz e E.cur (aEp E.cx.flex s).1 E.cur).cnt;rw[aJD],(hsr.move hmv).map VR.unl⟩
          · rw[hYn _ _ rfl]
            obtain⟨u,h1,h2⟩:=v3
            exact⟨u,h1,back h2⟩
          · rw[v1.block _ (Array.getElem?_eq_some_iff.1 hI.blk).1 (Ne.symm B.ne)]
            exact hI.blk
          · rw[hYn _ _ rfl,aJD]
            exact hcel.move hmv
          · obtain rfl:=Option.some.inj hp
            refine⟨i,r,s,hto,hk,?_,?_⟩
            · have hsp:=hI.none_ hpd'
              unfold spec at hsp ⊢
              rw[hsp,aJD]
            · rw[aJD]
              exact⟨rfl,fun b hb=>(by cases hb),trivial,fun _=>rfl,fun hb=>(by cases hb),fun _ z hz=>(by cases hz)⟩
        · cases h
      · cases h
    · -- ok?
      rename_i hck'
      obtain rfl:=Option.some.inj hck'
      split at h
      · rename_i d1
        obtain⟨hdn,rfl⟩:=aGa h
        obtain⟨x,rfl,rfl⟩:=ha.one
        refine aAk hI.kn hcal (hc hI.rdr) hx hdn fun v w' a' hv hk'=>?_
        obtain⟨rfl,rfl⟩:=hv
        refine K a' w' ⟨aJj e E.cur s.bad,(d1,.bool (!s.bad))::l,s,cs,S,?_⟩
        have hY:∀ sl fr,Yl Y ⟨sl,σ.cells,σ.todo,σ.pd,fr⟩ (aJj e E.cur s.bad E.cur)=Yl Y σ (e E.cur):=fun sl fr=>by rw[aEu];rfl
        refine⟨hI.ls,hI.same.wB _,hk',?_,hI.agr,?_,hI.blk,?_,fun hp=>?_,fun p hp=>?_,fun _=>by rw[aEu]⟩
        · rw[hY]
          exact⟨rfl,by show _=Value.bool (if true then !(aJj e E.cur s.bad E.cur).bad else _);rw[aEu];rfl,hI.sr.map VR.unf⟩
        · rw[hY];exact hI.rdr
        · rw[hY,aEu];exact hI.cel
        · have:=hI.none_ hp;rw[aEu];exact this
        · obtain⟨i,r,s1,k1,k2,k3,k4⟩:=hI.pend p hp
          rw[hY,aEu]
          exact⟨i,r,s1,k1,k2,k3,k4⟩
      · cases h
    · -- the end
      rename_i hck'
      obtain rfl:=Option.some.inj hck'
      split at h
      · rename_i d1
        obtain⟨hdn,rfl⟩:=aGa h
        obtain⟨x,rfl,rfl⟩:=ha.one
        refine aAk hI.kn hcal (hc hI.rdr (B.glob hI.agr)) hx hdn fun v w' a' hv hk'=>?_
        obtain⟨rfl,hv1,hv2⟩:=hv
        refine K a' w' ⟨aJj e E.cur s.bad,(d1,v)::l,s,cs,S,?_⟩
        have hY:∀ sl fr,Yl Y ⟨sl,σ.cells,σ.todo,σ.pd,fr⟩ (aJj e E.cur s.bad E.cur)=Yl Y σ (e E.cur):=fun sl fr=>by rw[aEu];rfl
        refine⟨hI.ls,hI.same.wB _,hk',?_,hI.agr,?_,hI.blk,?_,fun hp=>?_,fun p hp=>?_,fun _=>by rw[aEu]⟩
        · rw[hY]
          exact⟨rfl,by
            show ((aJj e E.cur s.bad E.cur).bad=false→_)∧((aJj e E.cur s.bad E.cur).bad=true→_)
            rw[aEu];exact⟨hv1,hv2⟩,hI.sr.map VR.unf⟩
        · rw[hY];exact hI.rdr
        · rw[hY,aEu];exact hI.cel
        · have:=hI.none_ hp;rw[aEu];exact this
        · obtain⟨i,r,s1,k1,k2,k3,k4⟩:=hI.pend p hp
          rw[hY,aEu]
          exact⟨i,r,s1,k1,k2,k3,k4⟩
      · cases h
    · -- tags
      rename_i hck'
      obtain rfl:=Option.some.inj hck'
      split at h
      · rename_i d1 r hto hpd
        split at h
        · rename_i hfree
          obtain⟨hdn,rfl⟩:=aGa h
          have hpd' : σ.pd=none:=by
            cases hp : σ.pd with
            | none=>rfl
            | some p=>rw[hp] at hpd;cases hpd
          obtain⟨x,rfl,rfl⟩:=ha.one
          have hY:=aBJ (Y:=Y) (e:=e E.cur) hpd'
          have hrdr:=hI.rdr
          rw[hY] at hrdr
          refine aAk hI.kn hcal (hc hrdr B.yr) hx hdn fun v w' a' hv hk'=>?_
          obtain⟨v1,v2,v3⟩:=hv
          refine K a' w' ⟨_,_,_,_,_,hI.read B hpd' hto hfree (g:=⟨(e E.cur).g.q,(aI4 s).1⟩) (s':=(aI4 s).2) rfl rfl v1 v3 hk' (v:=.tagv) ?_⟩
          show Rep w' Y (aAN (aEL e E.cur _ E.cur).g.u) _
          rw[aCe]
          exact back v2
        · cases h
      · cases h
    · -- defaults
      rename_i ds l1 hck'
      obtain rfl:=Option.some.inj hck'
      split at h
      all_goals first
        | (rename_i hb
           simp only[Bool.and_eq_true,List.all_eq_true] at hb
           obtain⟨hl,hds⟩:=hb
           obtain rfl:=Nat.eq_of_beq_eq_true hl
           obtain⟨x,rfl,rfl⟩:=ha.one
           have hlen:=hI.cel.length
           have hoff:(e E.cur).off+0=(e0 E.cur).pre.length:=by rw[Nat.add_zero,hI.same.2.2.1,B.off]
           have hbb:=hI.same.2.1
           have hdl:∀ p ∈ ds,p.1<cs.length:=fun p hp=>by have:=(hds p hp).1;rw[← hlen];simpa [Nat.blt_eq] using this
           have hc':=hc hI.blk hdl
           rw[← hoff,← hbb] at hc'
           first
             | (obtain rfl:=Option.some.inj h
                refine aYx hI.kn hcal hc' hx fun v w' a' hv hk'=>?_
                rw[hbb] at hv
                exact K a' w' ⟨e,l,s,_,S,hI.write B hv.1 hv.2 (aMS hI.cel) hk'⟩)
             | (obtain⟨hdn,rfl⟩:=aGa h
                refine aAk hI.kn hcal hc' hx hdn fun v w' a' hv hk'=>?_
                rw[hbb] at hv
                have hW:=hI.write B hv.1 hv.2 (aMS hI.cel) hI.kn
                exact K a' w' ⟨e,_,s,_,S,hW.put hk' trivial⟩))
        | cases h
    · cases h
end
end Go.Mk.Er
namespace Go.Mk.Er
open Go Go.Mk
theorem aMD {n:Nat}{z:List Value}:(many n z).length=n*z.length:=by
 induction n with
 | zero=>simp[many]
 | succ n ih=>simp only[many,List.replicate_succ,List.flatten_cons,List.length_append] at ih ⊢;rw[ih,Nat.add_mul];omega
theorem aVr {n:Nat}{z:List Value}:∀ {j:Nat},j<n*z.length→(many n z)[j]? = z[j%z.length]?:=by
 induction n with
 | zero=>intro j h;simp at h
 | succ n ih =>
  intro j h
  have e:many (n+1) z=z++many n z:=by simp[many,List.replicate_succ]
  rw[e]
  by_cases hj:j<z.length
  ·rw[List.getElem?_append_left hj,Nat.mod_eq_of_lt hj]
  ·rw[List.getElem?_append_right (by omega),ih (by rw[Nat.add_mul] at h;omega),Nat.mod_eq_sub_mod (a:=j) (by omega)]
theorem aTN {n:Nat}{z:Value}:(madeCells z.cells (n*(cellsOf z).length)).toList=many n (cellsOf z):=by
 apply List.ext_getElem?
 intro j
 by_cases hj:j<n*(cellsOf z).length
 ·rw[aVr hj]
  have hz:z.cells=(cellsOf z).toArray:=aBv z
  have hpos : 0<(cellsOf z).length:=by
   rcases Nat.eq_zero_or_pos (cellsOf z).length with h|h
   ·rw[h] at hj;omega
   ·exact h
  have hm:j%(cellsOf z).length<(cellsOf z).length:=Nat.mod_lt _ hpos
  simp[madeCells,hz,hj,hm]
 ·have h1:(many n (cellsOf z)).length≤j:=by rw[aMD];omega
  rw[List.getElem?_eq_none h1]
  simp[madeCells]
  omega
section
variable {P:Program}{ops:Array Oper}{Q:Exit→Act→World→Prop}{rest:List Oper}{a:Act}{w:World}{n:Nat}{l:List (Nat × Value)}
variable {d:Nat}{ty:Nat}{ps:String}{af:Array Edge}
theorem aRs {z:Value}{N sz:Nat}(h:z.cells.size=sz):(if N=0∨sz=0 then (#[]:Array Value) else Builtin.zeroCells z.cells N)=Builtin.zeroCells z.cells N:=by
 split
 ·rename_i h0
  apply Array.ext'
  have:N*z.cells.size=0:=by rw[h];rcases h0 with h0|h0<;>simp[h0]
  simp[Builtin.zeroCells,this]
 ·rfl
theorem aNC {z:Value}{N:Nat}:(Builtin.zeroCells z.cells N).toList=many N (cellsOf z):=by
 have:Builtin.zeroCells z.cells N=madeCells z.cells (N*(cellsOf z).length):=by
  have hz:z.cells.size=(cellsOf z).length:=by rw[aBv];simp
  unfold Builtin.zeroCells madeCells
  rw[hz]
 rw[this,aTN]
theorem aUE {s x:Operand}{t tx e sz by_ N:Nat}{z:Value}{kx k:IntKind}{base:Option Addr}(hk:Kn n l a)(ht:aGN P t=some (e,sz,by_))(hz:aBB P e=some z)(htx:aH0 P tx=some kx)(hs:ev l s=some (.slice base 0 0))
  (hx:ev l x=some (.int k (N:Int))) (hpos : 0<N) (hmm:N≤2147483648) (hb:by_≤65536) (hd:Nat.blt d n=true)
  (K:∀ a' w' cap slack,N≤cap→Agr Nob w w'→w'.heap[w.heap.size]? = some (.cells (many N (cellsOf z)++slack).toArray e (0,0))→Kn n ((d,.slice (some ⟨w.heap.size,0,none⟩) N cap)::l) a'→wpList P ops Q rest a' w') :
  wpList P ops Q (⟨some d,.call ⟨.builtin .append,#[s,x],#[t,tx]⟩,ty,ps,af,none⟩::rest) a w:=by
 obtain⟨ii,z',h1,h2,h3,h4,h5,rfl⟩:=aF2 ht
 have hz':z'=z:=by unfold aBB at hz;rw[h2] at hz;simp[h3] at hz;exact hz
 subst hz'
 have hu:=aPG htx
 have hold:(Builtin.firstCells ii.size 0 (.slice base 0 0)).run P w.drew=.ok ([]:List Value).toArray w.drew:=by
  cases base with
  | none=>exact run_firstCells_none w.drew ii.size 0 0 0
  | some ad=>exact run_firstCells_some (P:=P) w.drew ii.size 0 ad 0 0 [] (by simp) (by intro j u hj;simp at hj)
 have hbytes:N*ii.bytes≤140737488355328:=by
  have:N*ii.bytes≤2147483648*65536:=Nat.mul_le_mul hmm hb
  omega
 have hfit:=growslice_fits (need:=N) (old:=0) hpos hbytes
 have hge:=grownCap_ge w N 0 e
 refine aAD (v:=.slice (some ⟨w.heap.size,0,none⟩) N (grownCap w N 0 e)) (w':=w.drew.alloc (.cells ((many N (cellsOf z')).toArray++Builtin.zeroCells z'.cells (grownCap w N 0 e - N)) e)) hk rfl rfl hd ?_
  fun a' hk'=>K a' _ (grownCap w N 0 e) (Builtin.zeroCells z'.cells (grownCap w N 0 e - N)).toList hge ((Agr.drew _ w).trans (Agr.alloc _ w.drew _) (fun _ _ h=>h) (fun _ _ h=>h)) ?_ hk'
 ·unfold aDp execOp
  have hw:IntKind.i64.wrap (N:Int)=(N:Int):=by simp only[IntKind.wrap,IntKind.bits,IntKind.signed];simp;omega
  have hn0 : ¬ N=0:=by omega
  have hb2 : ¬ (281474976710656<(N:Int)*(ii.bytes:Int)):=by
   have:((N*ii.bytes:Nat):Int)=(N:Int)*(ii.bytes:Int):=by simp
   omega
  have h63' : ¬ (9223372036854775807<(N:Int)):=by omega
  have h48' : ¬ (281474976710656<Builtin.nextslicecap N 0*ii.bytes):=by omega
  have hzz:=aRs (z:=z') (N:=N) h4
  have hzm:Builtin.zeroCells z'.cells N=(many N (cellsOf z')).toArray:=by
   apply Array.ext'
   rw[aNC]
  rw[hzm] at hzz
  have hN0 : ¬ (N:Int)<0:=by omega
  have hzz2:∀ (p:Prop) [Decidable p],(p→ii.size=0)→(if p then (#[]:Array Value) else (many N (cellsOf z')).toArray)=(many N (cellsOf z')).toArray:=fun p _ hp=>by
   split
   ·rename_i h0
    rw[← hzm,← aRs (z:=z') (N:=N) h4,if_pos (.inr (hp h0))]
   ·rfl
  by_cases hs0:ii.size=0
  ·have hz0:many N (cellsOf z')=[]:=by
    apply List.eq_nil_of_length_eq_zero
    have:(cellsOf z').length=0:=by rw[← hs0,← h4,aBv];simp
    rw[aMD,this,Nat.mul_zero]
   have hold0:=hold
   rw[hs0] at hold0
   simp[hs0,resolve,invoke,builtin,hk.eval hs,hk.eval hx,Builtin.append_,run_underlying h1,run_underlying hu,asInt,asIntOf,hw,hn0,hb2,sizeOf,typeInfo,zeroValue,h2,h3,h63',h48',Question.forced,newRow,grownCap,hzm]
   rw[if_neg hN0]
   simp[hold0,hz0]
  ·simp[resolve,invoke,builtin,hk.eval hs,hk.eval hx,Builtin.append_,run_underlying h1,run_underlying hu,asInt,asIntOf,hw,hn0,hb2,sizeOf,typeInfo,zeroValue,h2,h3,h63',h48',Question.forced,hold,newRow,grownCap,hzm]
   rw[if_neg hN0,if_neg (Nat.ne_of_gt (Nat.mul_pos hpos (Nat.pos_of_ne_zero hs0)))]
 ·have:=heap_alloc_new w.drew (.cells ((many N (cellsOf z')).toArray++Builtin.zeroCells z'.cells (grownCap w N 0 e - N)) e)
  rw[show w.drew.heap.size=w.heap.size from rfl] at this
  rw[this]
  congr 2
  apply Array.ext'
  simp
end
theorem aOt:∀ {l m:List It},aQH l m=true→l=m
 | [],[],_=>rfl
 | a::r,b::s,h=>by
  simp only[aQH,Bool.and_eq_true] at h
  have:a=b:=by
   have h1:=h.1
   cases a<;>cases b<;>simp only[It.is,Bool.false_eq_true] at h1<;>first|rfl|rw[Nat.eq_of_beq_eq_true h1]
  rw[this,aOt h.2]
 | [],_::_,h=>by simp[aQH] at h
 | _::_,[],h=>by simp[aQH] at h
section
variable {E:En}{w:World}{Y:Nat→Prop}{e:Nat→Lv}
theorem AV.is_vr {u v:AV}{x:Value}(h:AV.is u v=true)(hv:VR E w Y e v x):VR E w Y e u x:=by
  unfold AV.is at h
  split at h
  all_goals first
    | (rw[aUh h];exact hv)
    | (simp only[Bool.and_eq_true] at h
       rw[Nat.eq_of_beq_eq_true h.1,Nat.eq_of_beq_eq_true h.2]
       exact hv)
    | (rw[Nat.eq_of_beq_eq_true h];exact hv)
    | exact hv
    | cases h
def pick (l:List (Nat × Value)):List (Nat × AV)→List (Nat × Value)
 | []=>[]
 | p::r=>(p.1,(Mk.look l p.1).getD undef)::pick l r
theorem aHg {l:List (Nat × Value)}:∀ {hd:List (Nat × AV)},(∀ p ∈ hd,∃ x,Mk.look l p.1=some x)→∀ {s v},Mk.look (pick l hd) s=some v→Mk.look l s=some v
 | [],_,s,v,h=>by simp[pick,Mk.look] at h
 | p::r,hp,s,v,h=>by
  simp only[pick,Mk.look] at h
  split at h
  ·rename_i hb
   obtain⟨x,hx⟩:=hp p List.mem_cons_self
   rw[Nat.eq_of_beq_eq_true hb]
   rw[hx] at h ⊢
   simpa using h
  ·exact aHg (fun p hq=>hp p (List.mem_cons_of_mem _ hq)) h
theorem aNt {sl:List (Nat × AV)}{l:List (Nat × Value)}(hs:SR E w Y e sl l):∀ {hd:List (Nat × AV)},left sl hd=true→SR E w Y e hd (pick l hd)∧∀ p ∈ hd,∃ x,Mk.look l p.1=some x
 | [],_=>⟨trivial,fun p hp=>by cases hp⟩
 | p::r,h=>by
  simp only[left,Bool.and_eq_true] at h
  obtain⟨h1,h2⟩:=h
  obtain⟨g1,g2⟩:=aNt hs h2
  have hx:∃ x,Mk.look l p.1=some x∧VR E w Y e p.2 x:=by
   cases hq:alook sl p.1 with
   | none=>rw[hq] at h1;simp at h1
   | some v =>
    rw[hq] at h1
    obtain⟨x,hx,hvr⟩:=hs.look hq
    refine⟨x,hx,?_⟩
    split at h1
    ·rename_i hj;rw[hj];trivial
    ·rename_i hu _
     obtain rfl:=Option.some.inj hu
     exact AV.is_vr h1 hvr
    ·cases h1
  obtain⟨x,hx,hvr⟩:=hx
  refine⟨⟨rfl,by rw[hx];exact hvr,g1⟩,fun q hq=>?_⟩
  rcases List.mem_cons.1 hq with rfl|hq
  ·exact⟨x,hx⟩
  ·exact g2 q hq
theorem aUB {l:List (Nat × Value)}{hd:List (Nat × AV)}{p:Nat × Value}(h:p ∈ pick l hd):∃ q ∈ hd,q.1=p.1:=by
 induction hd with
 | nil=>simp[pick] at h
 | cons q r ih =>
  simp only[pick,List.mem_cons] at h
  rcases h with rfl|h
  ·exact⟨q,List.mem_cons_self,rfl⟩
  ·obtain⟨q',h1,h2⟩:=ih h
   exact⟨q',List.mem_cons_of_mem _ h1,h2⟩
theorem aLl {f:Nat→Bool}:∀ {sl:List (Nat × AV)} {p:Nat × AV},p ∈ prune f sl→f p.1=true
 | [],p,h=>by simp[prune] at h
 | q::r,p,h=>by
  unfold prune at h
  split at h
  ·rename_i hf
   rcases List.mem_cons.1 h with rfl|h
   ·exact hf
   ·exact aLl h
  ·exact aLl h
theorem aPC {F:AV→AV}:∀ {sl:List (Nat × AV)} {p:Nat × AV},p ∈ aGd F sl→∃ q ∈ sl,q.1=p.1
 | [],p,h=>by simp[aGd] at h
 | q::r,p,h=>by
  simp only[aGd,List.mem_cons] at h
  rcases h with rfl|h
  ·exact⟨q,List.mem_cons_self,rfl⟩
  ·obtain⟨q',h1,h2⟩:=aPC h
   exact⟨q',List.mem_cons_of_mem _ h1,h2⟩
theorem aUD {J:AV→AV→AV}{f:Nat→Bool}{sb:List (Nat × AV)}(hJ:∀ u v x,VR E w Y e u x→VR E w Y e (J u v) x):∀ {sa:List (Nat × AV)} {l:List (Nat × Value)},SR E w Y e sa l→∃ l',SR E w Y e (aLm J f sb sa) l'∧∀ s v,Mk.look l' s=some v→Mk.look l s=some v
 | [],[],_=>⟨[],trivial,fun s v h=>by simp[Mk.look] at h⟩
 | [],_::_,h=>by simp[SR] at h
 | _::_,[],h=>by simp[SR] at h
 | p::r,q::t,h=>by
  simp only[SR] at h
  obtain⟨h1,h2,h3⟩:=h
  obtain⟨l',g1,g2⟩:=aUD (f:=f) (sb:=sb) hJ h3
  obtain⟨k,u⟩:=q
  simp only at h1
  -- which slots are joined is told by the slot's number alone
  have hkeys:∀ {sl:List (Nat × AV)} {z:Nat × AV},z ∈ aLm J f sb sl→f z.1=true∧(alook sb z.1).isSome=true:=by
   intro sl
   induction sl with
   | nil=>intro z hz;simp[aLm] at hz
   | cons y r ih =>
    intro z hz
    unfold aLm at hz
    split at hz
    ·rename_i e1 e2
     rcases List.mem_cons.1 hz with rfl|hz
     ·exact⟨e1,by rw[e2];rfl⟩
     ·exact ih hz
    ·exact ih hz
  have hk2:∀ {sl:List (Nat × AV)} {l:List (Nat × Value)},SR E w Y e sl l→∀ s v,Mk.look l s=some v→∃ z ∈ sl,z.1=s:=by
   intro sl
   induction sl with
   | nil =>
    intro l hl s v hv
    match l,hl with
    | [],_=>simp[Mk.look] at hv
   | cons y r ih =>
    intro l hl s v hv
    match l,hl with
    | (k,u)::l,hl =>
     simp only[Mk.look] at hv
     split at hv
     ·rename_i hb
      exact⟨y,List.mem_cons_self,by rw[hl.1];exact (Nat.eq_of_beq_eq_true hb).symm⟩
     ·obtain⟨z,h1,h2⟩:=ih hl.2.2 s v hv
      exact⟨z,List.mem_cons_of_mem _ h1,h2⟩
  unfold aLm
  split
  ·refine⟨(k,u)::l',⟨h1,hJ _ _ _ h2,g1⟩,fun s v hv=>?_⟩
   simp only[Mk.look] at hv ⊢
   split at hv
   ·exact hv
   ·exact g2 s v hv
  ·rename_i hn
   refine⟨l',g1,fun s v hv=>?_⟩
   have hne:s≠k:=by
    rintro rfl
    obtain⟨z,hz,hzs⟩:=hk2 g1 s v hv
    obtain⟨e1,e2⟩:=hkeys hz
    obtain⟨y,hy⟩:=Option.isSome_iff_exists.1 e2
    rw[hzs] at e1 hy
    rw[h1] at hn
    exact hn _ e1 hy
   rw[lkN hne]
   exact g2 s v hv
theorem aTF {J:AV→AV→AV}{f:Nat→Bool}{sb:List (Nat × AV)}{l:List (Nat × Value)}(hJ:∀ u v x,VR E w Y e v x→VR E w Y e (J u v) x)(hs:SR E w Y e sb l):∀ (sa:List (Nat × AV)),SR E w Y e (aLm J f sb sa) (pick l (aLm J f sb sa))∧∀ p ∈ aLm J f sb sa,∃ x,Mk.look l p.1=some x
 | []=>⟨trivial,fun p hp=>by cases hp⟩
 | p::r=>by
  obtain⟨g1,g2⟩:=aTF (f:=f) hJ hs r
  unfold aLm
  split
  ·rename_i v _ hv
   obtain⟨x,hx,hvr⟩:=hs.look hv
   refine⟨⟨rfl,by simp only[hx,Option.getD_some];exact hJ _ _ _ hvr,g1⟩,fun q hq=>?_⟩
   rcases List.mem_cons.1 hq with rfl|hq
   ·exact⟨x,hx⟩
   ·exact g2 q hq
  ·exact⟨g1,g2⟩
end
end Go.Mk.Er
namespace Go.Mk.Er
open Go Go.Mk
open Go.Mk.Ea (aNz)
section
variable {w:World}{Y:Nat→Prop}{fs:List Fld}{tg:Bool}{g:G}
theorem ACs.get:∀ {l:List AC} {c:List Value} {o:Nat} {a:AC},ACs w Y fs tg g l c→l[o]? = some a→∃ x,c[o]? = some x∧ACR w Y fs tg g a x
 | [],_,o,a,_,h=>by simp at h
 | p::r,[],o,a,h,_=>h.elim
 | p::r,x::c,0,a,h,ho=>by
  simp only[List.getElem?_cons_zero,Option.some.injEq] at ho
  subst ho
  exact⟨x,rfl,h.1⟩
 | p::r,x::c,o+1,a,h,ho=>by
  simp only[List.getElem?_cons_succ] at ho ⊢
  exact ACs.get h.2 ho
theorem ACs.appI:∀ {l l':List AC} {c c':List Value},ACs w Y fs tg g l c→ACs w Y fs tg g l' c'→ACs w Y fs tg g (l++l') (c++c')
 | [],_l',[],_c',_,h=>h
 | _a::_r,_l',_x::_s,_c',h,h'=>⟨h.1,ACs.appI h.2 h'⟩
 | [],_,_::_,_,h,_=>h.elim
 | _::_,_,[],_,h,_=>h.elim
theorem ACs.take:∀ {l:List AC} {c:List Value} (k:Nat),ACs w Y fs tg g l c→ACs w Y fs tg g (l.take k) (c.take k)
 | _,_,0,_=>by simp[ACs]
 | [],[],k+1,_=>trivial
 | a::r,x::s,k+1,h=>⟨h.1,ACs.take k h.2⟩
 | [],_::_,_+1,h=>h.elim
 | _::_,[],_+1,h=>h.elim
theorem ACs.drop:∀ {l:List AC} {c:List Value} (k:Nat),ACs w Y fs tg g l c→ACs w Y fs tg g (l.drop k) (c.drop k)
 | _,_,0,h=>by simpa using h
 | [],[],k+1,_=>trivial
 | a::r,x::s,k+1,h=>by simpa using ACs.drop k h.2
 | [],_::_,_+1,h=>h.elim
 | _::_,[],_+1,h=>h.elim
theorem aXr {i:Nat}:∀ {k:Nat},k≤16→ACs w Y fs tg g (gus i k) ((bv (sixteen (g.q i).s)).drop (16 - k))
 | 0,_=>by
  have:=aCT (g.q i).s
  rw[List.drop_of_length_le (by omega)]
  trivial
 | k+1,hk=>by
  have h16:=aCT (g.q i).s
  have e : 16 - (k+1)=15 - k:=by omega
  have h2:=aXr (i:=i) (k:=k) (by omega)
  rw[e,List.drop_eq_getElem_cons (by omega)]
  refine⟨?_,?_⟩
  ·show (bv _)[15 - k]? = some _
   exact List.getElem?_eq_getElem _
  ·rw[show 15 - k+1=16 - k by omega];exact h2
end
section
variable {E:En}{e0 e:Nat→Lv}{w0 w w':World}{Y:Nat→Prop}{items:List It}{g0:G}{s0 s:RS}{σ σ':St}{a a':Act}{l:List (Nat × Value)}{cs:List Value}{S:LS}
variable {ops:Array Oper}{Q:Exit→Act→World→Prop}{rest:List Oper}
theorem aPq {v:AV}{u:Value}{vs:List AC}(hls:E.ls[E.cur]? = some S)(hv:VR E w Y e v u)(h:stC S.fs v=some vs):ACs w Y S.fs S.tg (e E.cur).g vs (cellsOf u)∧aBP (cellsOf u)=true:=by
 unfold stC at h
 split at h
 ·split at h
  ·rename_i h1
   obtain rfl:=Option.some.inj h
   have:u=_:=hv
   subst this
   rw[aE7 h1]
   exact⟨⟨rfl,trivial⟩,aVT h1⟩
  ·cases h
 ·rename_i i
  obtain⟨s,h1,h2,h3⟩:=hv
  rw[hls] at h1
  obtain rfl:=Option.some.inj h1
  split at h
  ·rename_i hk
   obtain rfl:=Option.some.inj h
   rw[aJC (by omega),hk] at h2
   have h4:cellsOf u=bv (sixteen ((e E.cur).g.q i).s):=by
    have h5:=aA8 (show Rep w Y (.agg ((sixteen ((e E.cur).g.q i).s).map ddB)) (cellsOf u) from h2)
    generalize cellsOf u=c at h5
    generalize sixteen ((e E.cur).g.q i).s=b at h5
    clear h2
    induction b generalizing c with
    | nil=>simp[h5.unNil,bv]
    | cons x r ih =>
     simp only[List.map_cons,ddB] at h5
     obtain⟨c2,rfl,h6⟩:=h5.unV
     rw[ih _ h6];rfl
   rw[h4]
   have:=aXr (w:=w) (Y:=Y) (fs:=S.fs) (tg:=S.tg) (g:=(e E.cur).g) (i:=i) (Nat.le_refl 16)
   rw[Nat.sub_self,List.drop_zero] at this
   exact⟨this,aHH _⟩
  ·cases h
  ·rename_i h7 h10
   split at h
   ·rename_i hb
    obtain rfl:=Option.some.inj h
    have hlt:(S.fs.getD i aAm).kind<10:=by simpa [Nat.blt_eq] using hb
    have h1:=h3 h7
    rw[aE7 h1] at h2 ⊢
    exact⟨⟨h2,trivial⟩,aVT h1⟩
   ·cases h
 ·obtain rfl:=Option.some.inj h
  have hv':Rep w Y (aAN (e E.cur).g.u) (cellsOf u):=hv
  have hl:=aC0 _ _ w Y _ hv'
  match hq:cellsOf u,hl with
  | [x],_ =>
   rw[hq] at hv'
   refine⟨⟨hv',trivial⟩,?_⟩
   have:∃ p,x=.map p:=by
    simp only[aAN,Rep] at hv'
    rcases hv' with ⟨_,_,h⟩|⟨r,vs,h,_⟩
    ·exact⟨none,by simpa using h⟩
    ·exact⟨some r,by simpa using h⟩
   obtain⟨p,rfl⟩:=this
   rfl
 ·cases h
theorem o_storeB {P:Program}{a:Act}{n:Nat}{l:List (Nat × Value)}{ty:Nat}{ps:String}{af:Array Edge}{x y:Operand}{t sz b o ety:Nat}{bl:Bool}{u:Value}{pre cs post:List Value}(hk:Kn n l a)(ht:aCm P t=some (bl,sz))(hx:ev l x=some (.pointer (some ⟨b,pre.length+o,none⟩)))(hy:ev l y=some u)
  (hs:(cellsOf u).length=sz) (h1:aBP (cellsOf u)=true) (hb:w.heap[b]? = some (.cells (pre++cs++post).toArray ety (0,0))) (ho:o+(cellsOf u).length≤cs.length)
  (K:∀ a' w',Agr (fun k=>k=b) w w'→w'.heap[b]? = some (.cells (pre++(cs.take o++cellsOf u++cs.drop (o+(cellsOf u).length))++post).toArray ety (0,0))→Kn n l a'→wpList P ops Q rest a' w') :
  wpList P ops Q (⟨none,.store t x y,ty,ps,af,none⟩::rest) a w:=by
 have hst:=run_storeCells_at P b (pre.length+o) ety (cellsOf u) 0 (pre++cs++post).toArray w hb (by simp only[List.size_toArray,List.length_append];omega) (aDN h1)
 rw[Nat.add_zero] at hst
 have e1:(pre++cs++post).take (pre.length+o)++cellsOf u++(pre++cs++post).drop (pre.length+o+(cellsOf u).length)=pre++(cs.take o++cellsOf u++cs.drop (o+(cellsOf u).length))++post:=by
  rw[List.append_assoc pre cs post,List.take_length_add_append,Nat.add_assoc,List.drop_length_add_append,List.take_append_of_le_length (by omega),List.drop_append_of_le_length (by omega)]
  simp only[List.append_assoc]
 rw[show (pre++cs++post).toArray.toList=pre++cs++post by simp,e1] at hst
 refine aIf (w':=w.setRow b (pre++(cs.take o++cellsOf u++cs.drop (o+(cellsOf u).length))++post).toArray) hk rfl rfl ?_ fun a' hk'=>K a' _ (aIl w b _) (setRow_heap w b _ _ ety (0,0) hb) hk'
 unfold aS8 execOp
 have hsz:u.cells.size=sz:=by rw[aBv];simpa using hs
 simp[hk.eval hx,hk.eval hy,Instr.storeAt,Instr.sureAddr,storeVar,aCw ht,hsz]
 rw[show u.cells.toList=cellsOf u by rw[aBv],hst]
 simp only[List.append_assoc]
 rfl
theorem Inv.pure (_B:Base E e0 w0 Y)(h:Inv E e0 w0 Y items g0 s0 σ a w e l s cs S)(hag:Agr Nob w w'):Inv E e0 w0 Y items g0 s0 σ a w' e l s cs S:=by
 have hmv:∀ i,i<w.heap.size→¬ Yl Y σ (e E.cur) i→w'.heap[i]? = w.heap[i]? ∧ ¬ Yl Y σ (e E.cur) i:=fun i hi hy=>⟨hag.block i hi id,hy⟩
 refine⟨h.ls,h.same,h.kn,h.sr.move hmv,h.agr.trans hag (fun _ _ x=>x) (fun _ _ x=>x.elim),?_,?_,h.cel.move hmv,h.none_,fun p hp=>?_,h.fr⟩
 ·obtain⟨u,h1,h2⟩:=h.rdr
  exact⟨u,by rw[hag.block _ (Array.getElem?_eq_some_iff.1 h1).1 id];exact h1,Rep.move hmv _ _ h2⟩
 ·rw[hag.block _ (Array.getElem?_eq_some_iff.1 h.blk).1 id];exact h.blk
 ·obtain⟨i,r,s1,k1,k2,k3,k4⟩:=h.pend p hp
  exact⟨i,r,s1,k1,k2,k3,k4.move hmv fun _ q2=>hag.block _ q2 id⟩
theorem aRo (flex:Bool)(s:RS):(aEp flex s).1≤2147483647:=by
 have h:∀ n:Int,IntKind.i32.wrap n≤2147483647:=fun n=>by simp only[IntKind.wrap,IntKind.bits,IntKind.signed];simp;omega
 have key:∀ (p:Int × RS),(if (p.2.l.length:Int)<IntKind.i32.wrap p.1 then ((0:Int),RS.fail) else (IntKind.i32.wrap p.1,p.2)).1≤2147483647:=fun p=>by
  split
  ·show (0:Int)≤2147483647
   decide
  ·exact h _
 exact key _
theorem aCs {o:Oper}{d:Nat}{v:AV}{x:Value}(h:put E.cx σ d v=some σ')(hI:Inv E e0 w0 Y items g0 s0 σ a w e l s cs S)(hv:VR E w (Yl Y σ (e E.cur)) e v x)
  (ho:Nat.blt d E.cx.n=true→(∀ a',Kn E.cx.n ((d,x)::l) a'→wpList E.cx.P ops Q rest a' w)→wpList E.cx.P ops Q (o::rest) a w)
  (K:∀ a' w',IV E e0 w0 Y items g0 s0 σ' a' w'→wpList E.cx.P ops Q rest a' w'):wpList E.cx.P ops Q (o::rest) a w:=by
 obtain⟨hd,rfl⟩:=aGa h
 exact ho hd fun a' hk'=>K a' w ⟨_,_,_,_,_,hI.put hk' hv⟩
theorem aM9 {n:Int}{m:Md}{x:Value}(h:aGe n m x):∃ p,x=.slice p 0 0:=by
 cases m with
 | nn=>exact⟨none,h⟩
 | ne=>obtain⟨a,h⟩:=h;exact⟨some a,h⟩
 | nz =>
  by_cases h0:n=0
  ·obtain⟨a,h⟩:=h.1 h0;exact⟨some a,h⟩
  ·exact⟨none,h.2 h0⟩
theorem VR.unm {b:Nat}:∀ (v:AV) (x:Value),VR E w Y e v x→VR E w Y (aKS e E.cur b) (AV.unm E.cur v) x:=by
 have hl:∀ l,∃ b',aKS e E.cur b l={ e l with lb:=b' }:=fun l=>by unfold aKS;split;exact⟨b,rfl⟩;exact⟨(e l).lb,rfl⟩
 intro v x h
 cases v with
 | okb p=>obtain⟨b',hb⟩:=hl E.cur;show x=Value.bool (if p then !(aKS e E.cur b E.cur).bad else (aKS e E.cur b E.cur).bad);rw[hb];exact h
 | res=>obtain⟨b',hb⟩:=hl E.cur;show ((aKS e E.cur b E.cur).bad=false→_)∧_;rw[hb];exact h
 | val j =>
  obtain⟨s,h1,h2,h3⟩:=h
  obtain⟨b',hb⟩:=hl E.cur
  exact⟨s,h1,by rw[hb];exact h2,h3⟩
 | tagv=>obtain⟨b',hb⟩:=hl E.cur;show Rep w Y (aAN (aKS e E.cur b E.cur).g.u) _;rw[hb];exact h
 | junk=>trivial
 | k u=>exact h
 | rdr=>exact h
 | ptr l o=>obtain⟨b',hb⟩:=hl l;show x=_;rw[hb];exact h
 | cnt l=>obtain⟨b',hb⟩:=hl l;show x=_;rw[hb];exact h
 | gt0=>obtain⟨b',hb⟩:=hl E.cur;show x=_;rw[hb];exact h
 | eq0=>obtain⟨b',hb⟩:=hl E.cur;show x=_;rw[hb];exact h
 | made=>trivial
 | box j =>
  obtain⟨s,b1,h1,h2,h3,h4⟩:=h
  obtain⟨b',hb⟩:=hl E.cur
  exact⟨s,b1,h1,h2,h3,by rw[hb];exact h4⟩
 | base l m=>obtain⟨b',hb⟩:=hl l;show aGe _ m x;rw[hb];exact h
 | arr l m =>
  show VR E w Y _ (if Nat.beq l E.cur then .junk else .arr l m) x
  split
  ·trivial
  ·rename_i hne
   show (0<_→aOo _ x)∧(_≤0→aGe _ m x)
   rw[aR3 (fun e=>hne (by rw[e];simp))]
   exact h
 | idx l=>obtain⟨b',hb⟩:=hl l;show x=_;rw[hb];exact h
 | sv l j=>obtain⟨b',hb⟩:=hl l;show x=_;rw[hb];exact h
theorem aEC (k:IntKind)(n:Int):k.wrap (k.wrap n)=k.wrap n:=by
 cases k<;>(simp only[IntKind.wrap,IntKind.bits,IntKind.signed];simp<;>(try omega))
theorem aPS {c c':List AC}{o:Nat}{v:List AC}(h:bA6 c o v=some c'):o+v.length≤c.length∧c'=c.take o++v++c.drop (o+v.length):=by
 unfold bA6 at h
 by_cases hb:Nat.ble (o+v.length) c.length=true
 ·rw[if_pos hb] at h
  exact⟨Nat.le_of_ble_eq_true hb,(Option.some.inj h).symm⟩
 ·rw[if_neg hb] at h;cases h
theorem aUi {fr to nu tag df:Int}{of:Nat}{sub:List Fld}{tg:Bool}{xs:List T}:ddF (.mk 11 fr to nu tag df of sub) tg (.mk 0 [] true xs [])=.v (.slice none 0 0):=by unfold ddF;rfl
theorem aOY {fr to nu tag df:Int}{of:Nat}{sub:List Fld}{tg:Bool}{xs:List T}:ddF (.mk 11 fr to nu tag df of sub) tg (.mk 0 [] false xs [])=.sl true (aI1 of (-1) (aNS sub tg)) (xs.map (aKy of (-1) (ddS sub tg))):=by unfold ddF;rfl
theorem aV0 {f:Fld}{tg:Bool}{lv:Lv}{xs:List T}{m:Md}{x:Value}{V:Int}{z:List Value}{Yy:Nat→Prop}{zz:Bool}(hzz:zz=if 0≤f.nu then f.may V&&decide (lv.cnt<0) else decide (lv.cnt≤0))(hk:f.kind=11)(hm:bBs f V m=true)(hl:xs.length=lv.cnt.toNat)(hY : 0<lv.cnt→¬ Y lv.lb)(hYy:∀ k,Y k→Yy k)
  (hx:(0<lv.cnt→aOo lv x)∧(lv.cnt≤0→aGe lv.cnt m x)) (hr : 0<lv.cnt→aPJ w Yy f tg z lv xs) :
  Rep w Y (ddF f tg (.mk 0 [] zz xs [])) [x]:=by
 have z1 : 0<lv.cnt→zz=false:=fun hc=>by
  rw[hzz]
  split
  ·rw[decide_eq_false (by omega),Bool.and_false]
  ·exact decide_eq_false (by omega)
 have z2:lv.cnt≤0→m=.nn→zz=true:=fun hc e=>by
  subst e
  have hn:f.nu<0:=of_decide_eq_true hm
  rw[hzz,if_neg (by omega)]
  exact decide_eq_true hc
 have z3:m=.nz→zz=decide (lv.cnt<0):=fun e=>by
  subst e
  have hmay:f.may V=true:=hm
  have hn : 0≤f.nu:=by
   have:=hmay
   simp only[Fld.may,Bool.and_eq_true,decide_eq_true_eq] at this
   exact this.1
  rw[hzz,if_pos hn,hmay,Bool.true_and]
 have z4:m=.ne→zz=false:=fun e=>by
  subst e
  simp only[bBs,Bool.and_eq_true,decide_eq_true_eq,Bool.not_eq_true'] at hm
  rw[hzz,if_pos hm.1,hm.2,Bool.false_and]
 clear hzz
 cases f with
 | mk kind fr to nu tag df of sub =>
  have hk':kind=11:=hk
  subst hk'
  by_cases hc : 0<lv.cnt
  ·rw[z1 hc,aOY]
   obtain⟨cap,rfl,hcap⟩:=hx.1 hc
   obtain⟨D,sl,ety,h1,h2⟩:=hr hc
   have e2:lv.cnt.toNat - xs.length=0:=by omega
   rw[e2] at h1
   simp only[many,List.replicate_zero,List.flatten_nil,List.append_nil] at h1
   simp only[Rep]
   refine .inr ⟨lv.lb,0,cap,D,by rw[List.length_map,hl],by rw[List.length_map];omega,fun j u hj=>⟨hY hc,?_⟩,aBf.move (fun i _ hn=>⟨rfl,fun h=>hn (hYy i h)⟩) _ _ _ h2⟩
   have hlt:=(List.getElem?_eq_some_iff.1 hj).1
   simp[World.cell?,h1,List.getElem?_append_left hlt,hj]
  ·have hc':lv.cnt≤0:=by omega
   have hxs:xs=[]:=List.eq_nil_of_length_eq_zero (by omega)
   subst hxs
   have hb:=hx.2 hc'
   cases m with
   | nn =>
    rw[z2 hc' rfl,aUi]
    obtain rfl:x=.slice none 0 0:=hb
    exact aCn _
   | nz =>
    by_cases h0:lv.cnt=0
    ·obtain⟨ad,rfl⟩:=hb.1 h0
     rw[z3 rfl,decide_eq_false (by omega),aOY]
     simp only[Rep,List.map_nil]
     exact .inl ⟨trivial,some ad,rfl,fun _ h=>by cases h⟩
    ·obtain rfl:=hb.2 h0
     rw[z3 rfl,decide_eq_true (by omega),aUi]
     exact aCn _
   | ne =>
    rw[z4 rfl,aOY]
    obtain⟨ad,rfl⟩:=hb
    simp only[Rep,List.map_nil]
    exact .inl ⟨trivial,some ad,rfl,fun _ h=>by cases h⟩
end
end Go.Mk.Er
namespace Go.Mk.Er
open Go Go.Mk
open Go.Mk.Ea (aNz)
section
variable {E:En}{e0:Nat→Lv}{w0:World}{Y:Nat→Prop}{items:List It}{g0:G}{s0:RS}{σ σ':St}{a:Act}{w:World}
variable {ops:Array Oper}{Q:Exit→Act→World→Prop}{rest:List Oper}
theorem aQO {h:Value}(hz:aUv h=true):∃ k,h=.int k 0:=by
 unfold aUv at hz
 split at hz
 ·rename_i k i
  exact⟨k,by rw[of_decide_eq_true hz]⟩
 ·cases hz
theorem aPO (B:Base E e0 w0 Y)(hT:aEU E e0){o:Oper}(h:xop E.cx E.ls E.cur σ o=some σ')(hI:IV E e0 w0 Y items g0 s0 σ a w)
  (K:∀ a' w',IV E e0 w0 Y items g0 s0 σ' a' w'→wpList E.cx.P ops Q rest a' w'):wpList E.cx.P ops Q (o::rest) a w:=by
 obtain⟨e,l,s,cs,S,hI⟩:=hI
 have hs:=hI.sr
 have hk:=hI.kn
 have hbb:=hI.same.2.1
 have hoff:(e E.cur).off=(e0 E.cur).pre.length:=by rw[hI.same.2.2.1,B.off]
 unfold xop at h
 split at h
 ·-- move
  split at h
  ·rename_i v hv
   obtain⟨u,h1,h2⟩:=hs.ev hv
   exact aCs h hI h2 (fun hd K=>oM0 hk h1 hd K) K
  ·cases h
 ·-- assign
  split at h
  ·rename_i v hv
   obtain⟨u,h1,h2⟩:=hs.ev hv
   exact aCs h hI h2 (fun hd K=>oA0 hk h1 hd K) K
  ·cases h
 ·-- pick
  split at h
  ·rename_i v u hc hx hy
   obtain⟨c1,h1,rfl⟩:=hs.ev hc
   obtain⟨x1,h2,h2'⟩:=hs.ev hx
   obtain⟨y1,h3,_⟩:=hs.ev hy
   exact aCs h hI h2' (fun hd K=>aAI hk h1 h2 h3 rfl hd K) K
  ·rename_i u v hc hx hy
   obtain⟨c1,h1,rfl⟩:=hs.ev hc
   obtain⟨x1,h2,_⟩:=hs.ev hx
   obtain⟨y1,h3,h3'⟩:=hs.ev hy
   exact aCs h hI h3' (fun hd K=>aAI hk h1 h2 h3 rfl hd K) K
  ·cases h
 ·-- nilCheck
  split at h
  ·rename_i l' o' hv
   obtain⟨u,h1,rfl⟩:=hs.ev hv
   exact aCs h hI rfl (fun hd K=>oN0 hk h1 hd K) K
  ·rename_i hv
   obtain⟨u,h1,rfl⟩:=hs.ev hv
   exact aCs h hI rfl (fun hd K=>oN0 hk h1 hd K) K
  ·cases h
 ·-- fieldAddr
  split at h
  ·rename_i l' o' o2 hv hf
   obtain⟨u,h1,rfl⟩:=hs.ev hv
   exact aCs h hI (x:=.pointer (some ⟨(e l').b,(e l').off+o'+o2,none⟩)) (by show _=_;rw[Nat.add_assoc]) (fun hd K=>oF0 hk hf h1 hd K) K
  ·cases h
 ·-- not
  split at h
  ·rename_i b hv
   obtain⟨u,h1,rfl⟩:=hs.ev hv
   exact aCs h hI rfl (fun hd K=>aES hk h1 hd K) K
  ·rename_i p hv
   obtain⟨u,h1,rfl⟩:=hs.ev hv
   refine aCs h hI (x:=.bool (!(if p then !(e E.cur).bad else (e E.cur).bad))) ?_ (fun hd K=>aES hk h1 hd K) K
   show _=Value.bool _
   cases p<;>simp
  ·cases h
 ·-- load
  split at h
  ·rename_i l' o' z hv ht
   obtain⟨u,h1,rfl⟩:=hs.ev hv
   have key:∀ v:Value,l'=E.cur→σ.cells[o']? = some (.k v)→w.cell? ⟨(e l').b,(e l').off+o',none⟩=some v:=fun v he hc=>by
    obtain⟨x,hx,hxx⟩:=hI.cel.get hc
    obtain rfl:x=v:=hxx
    have hlt:=(List.getElem?_eq_some_iff.1 hx).1
    subst he
    rw[hbb,hoff]
    have hb:=hI.blk
    simp[World.cell?,hb,List.getElem?_append_right,List.getElem?_append_left hlt,hx]
   split at h
   ·rename_i hl hc
    exact aCs h hI (x:=.slice none 0 0) rfl (fun hd K=>aAq hk ht h1 (key _ (Nat.eq_of_beq_eq_true hl) hc) hd K) K
   ·rename_i v _ hl hc
    exact aCs h hI (x:=v) rfl (fun hd K=>aAq hk ht h1 (key _ (Nat.eq_of_beq_eq_true hl) hc) hd K) K
   ·cases h
  ·rename_i i hv ht
   obtain⟨u,h1,s2,b,g1,g2,rfl,g4⟩:=hs.ev hv
   have h16:=aCT ((e E.cur).g.q i).s
   refine aCs h hI (v:=.val i) (x:=.agg (bv (sixteen ((e E.cur).g.q i).s)).toArray) ⟨s2,g1,?_,fun h7=>absurd g2 h7⟩ (fun hd K=>aAM hk (by rw[h16];exact ht) h1 (fun j u hj=>(g4 j u hj).2) hd K) K
   rw[aJC (by omega),g2]
   exact aHW (by simpa [cellsOf] using aIs _)
  ·cases h
 ·-- store
  split at h
  ·-- a list
   rename_i l' o' l2 m hx hy ht
   split at h
   ·rename_i i r sg z s1 hll hto hpd hls
    split at h
    ·rename_i c hm hc
     split at h
     ·rename_i hfree
      obtain rfl:=Option.some.inj h
      simp only[Bool.and_eq_true] at hll
      obtain rfl:=Nat.eq_of_beq_eq_true hll.1
      obtain rfl:=Nat.eq_of_beq_eq_true hll.2
      obtain⟨u1,h1,rfl⟩:=hs.ev hx
      obtain⟨u2,h2,h2'⟩:=hs.ev hy
      have hls':=hI.ls
      rw[hls] at hls'
      obtain rfl:=Option.some.inj hls'
      obtain⟨i2,r2,sb,k1,k2,k3,k4⟩:=hI.pend _ hpd
      rw[hto] at k1
      simp only[List.cons.injEq,It.fld.injEq] at k1
      obtain⟨rfl,rfl⟩:=k1
      obtain⟨p1,p2,p3,p4,p5,p6⟩:=k4
      obtain⟨xs,q1,q2,q3⟩:=p5 rfl
      obtain⟨q4,q5⟩:=q3 z rfl
      have hlb : 0<(e E.cur).cnt→¬ Y (e E.cur).lb:=fun hc hy=>by
       have:=B.old _ hy
       have:=(q5 hc).1
       omega
      generalize hTT:(T.mk 0 [] (if 0≤(s1.fs.getD i aAm).nu then (s1.fs.getD i aAm).may E.cx.V&&decide ((e E.cur).cnt<0) else decide ((e E.cur).cnt≤0)) xs [])=TT
      have hrep:Rep w Y (ddF (s1.fs.getD i aAm) s1.tg TT) [u2]:=by
       rw[← hTT]
       exact aV0 rfl k2 hm q1 hlb (fun k hk=>bAN hk) h2' fun hc=>(q5 hc).2
      have hrd:rdF (s1.fs.getD i aAm) E.cx.V E.cx.flex sb=some (TT,s):=by
       rw[aL4]
       unfold rdQ
       rw[if_pos k2,if_neg (by rw[p2 false rfl];exact Bool.false_ne_true),← p1]
       have q2':aGv (aND (s1.fs.getD i aAm).of false E.cx.flex (rdP (s1.fs.getD i aAm).sub E.cx.V E.cx.flex)) (e E.cur).cnt.toNat (aEp E.cx.flex sb).2=some (xs,s):=q2
       rw[q2',← hTT]
      have hone:u2.oneCell'=true:=by
       by_cases hc : 0<(e E.cur).cnt
       ·obtain⟨cap,rfl,_⟩:=h2'.1 hc;rfl
       ·obtain⟨p,rfl⟩:=aM9 (h2'.2 (by omega));rfl
      have hYw:∀ i,i<w.heap.size→¬ Yl Y σ (e E.cur) i→w.heap[i]? = w.heap[i]? ∧ ¬ Y i:=fun i _ hn=>⟨rfl,fun hy=>hn (.inl hy)⟩
      have hgq:GOk (.fld i) (e E.cur).g ((e E.cur).g.set i TT):=⟨fun j hj=>by simp[G.set,hj],rfl⟩
      -- the list is had
      have hI2:Inv E e0 w0 Y items g0 s0 ⟨aGd (AV.unr (.fld i)) σ.sl,σ.cells,r,none,false⟩ a w (aEL e E.cur ((e E.cur).g.set i TT)) l s cs s1:=by
       have hYn:∀ (σ : St) (lv:Lv),σ.pd=none→Yl Y σ lv=Y:=fun σ lv h=>aBJ h
       refine⟨hls,hI.same.wG _,hk,?_,hI.agr,?_,hI.blk,?_,fun _=>?_,fun p hp=>(by cases hp),fun hp=>(by cases hp)⟩
       ·rw[hYn _ _ rfl]
        exact (hs.move hYw).map (VR.unr hgq)
       ·rw[hYn _ _ rfl]
        obtain⟨v,v1,v2⟩:=hI.rdr
        exact⟨v,v1,Rep.move hYw _ _ v2⟩
       ·rw[hYn _ _ rfl,aCe]
        exact (hI.cel.move hYw).free hgq hfree
       ·unfold spec at k3 ⊢
        rw[k3,hto,aCe]
        show (Option.map _ (rdF (s1.fs.getD i aAm) E.cx.V E.cx.flex sb)).bind _=_
        rw[hrd]
        rfl
      obtain⟨hle',rfl⟩:=aPS hc
      have hlen:=hI.cel.length
      have hcu:cellsOf u2=[u2]:=aE7 hone
      simp only[List.length_cons,List.length_nil] at hle'
      refine o_storeB (cs:=cs) hk ht (by rw[hoff] at h1;exact h1) h2 (by rw[hcu];rfl) (by rw[hcu];exact aVT hone) (by rw[hbb];exact hI.blk) (by rw[hcu];simp only[List.length_cons,List.length_nil];omega) fun a' w' ag hb hk'=>?_
      rw[hcu] at hb
      rw[hbb] at ag hb
      refine K a' w' ⟨_,_,_,_,_,hI2.write B ag hb ?_ hk'⟩
      have hc2:=hI2.cel
      rw[aBJ (σ:=⟨aGd (AV.unr (.fld i)) σ.sl,σ.cells,r,none,false⟩) rfl] at hc2 ⊢
      refine ((hc2.take o').appI (show ACs w Y s1.fs s1.tg (aEL e E.cur ((e E.cur).g.set i TT) E.cur).g [AC.got i] [u2] from ⟨?_,trivial⟩)).appI (hc2.drop _)
      show Rep w Y (ddF (s1.fs.getD i aAm) s1.tg ((aEL e E.cur ((e E.cur).g.set i TT) E.cur).g.q i)) [u2]
      rw[aCe]
      have:((e E.cur).g.set i TT).q i=TT:=by simp[G.set]
      show Rep w Y (ddF (s1.fs.getD i aAm) s1.tg (((e E.cur).g.set i TT).q i)) [u2]
      rw[this]
      exact hrep
     ·cases h
    ·cases h
   ·cases h
  ·-- a value
   rename_i l' o' v bl sz _ hx hy ht
   split at h
   ·rename_i s1 hl hls
    obtain rfl:=Nat.eq_of_beq_eq_true hl
    split at h
    ·rename_i vs hst
     split at h
     ·rename_i c hsz hc
      obtain rfl:=Option.some.inj h
      have hls':=hI.ls
      rw[hls] at hls'
      obtain rfl:=Option.some.inj hls'
      obtain⟨u1,h1,rfl⟩:=hs.ev hx
      obtain⟨u2,h2,h2'⟩:=hs.ev hy
      obtain⟨g1,g2⟩:=aPq hls h2' hst
      have hl2:=g1.length
      have hsz':=Nat.eq_of_beq_eq_true hsz
      obtain⟨hle',rfl⟩:=aPS hc
      have hlen:=hI.cel.length
      refine o_storeB (cs:=cs) hk ht (by rw[hoff] at h1;exact h1) h2 (by omega) g2 (by rw[hbb];exact hI.blk) (by omega) fun a' w' ag hb hk'=>?_
      rw[hbb] at ag hb
      refine K a' w' ⟨_,_,_,_,_,hI.write B ag hb ?_ hk'⟩
      rw[← hl2]
      exact ((hI.cel.take o').appI g1).appI (hI.cel.drop _)
     ·cases h
    ·cases h
   ·cases h
  ·cases h
 ·-- a[:0]
  split at h
  ·rename_i l' m e' hx ht hz
   split at h
   ·rename_i q hq
    obtain⟨k,rfl⟩:=aQO hz
    obtain⟨u,h1,h2⟩:=hs.ev hx
    obtain⟨p,rfl⟩:=aM9 h2
    obtain⟨bl,z⟩:=q
    exact aCs h hI (v:=.base l' m) (x:=.slice p 0 0) h2 (fun hd K=>aKO (k:=0) hk ht hq h1 rfl (Nat.le_refl _) hd K) K
   ·cases h
  ·cases h
 ·-- a slice of nothing
  rename_i t ps _ _ _
  split at h
  ·rename_i e' hps ht
   split at h
   ·rename_i q hq
    obtain⟨bl,z⟩:=q
    obtain⟨hdn,rfl⟩:=aGa h
    obtain rfl:ps=#[]:=by rw[aEx hps]
    refine aAD (v:=.slice (some ⟨w.heap.size,0,none⟩) 0 0) (w':=w.alloc (.cells #[] e')) hk rfl rfl hdn ?_ fun a' hk'=>K a' _ ⟨_,_,_,_,_,(hI.pure B (Agr.alloc _ _ _)).put hk' (v:=.base E.cur .ne) ⟨_,rfl⟩⟩
    unfold aDp execOp
    simp[Instr.buildSlice,run_underlying (aCi ht),aCw hq,Instr.fill,newRow]
    have e0:Array.range 0=#[]:=by decide
    rw[e0,Array.map_empty]
   ·cases h
  ·cases h
 ·-- append
  rename_i xs' ts' _ _ _
  split at h
  ·rename_i x y t t2 bk s1 i r hxs hts hpd hls hto
   split at h
   ·rename_i l0 m l' e' sz by_ ik2 hx hy ht ht2
    split at h
    ·rename_i z hz
     split at h
     ·rename_i hb
      simp only[Bool.and_eq_true] at hb
      obtain⟨⟨⟨⟨b0,b1⟩,b2⟩,b3⟩,b4⟩:=hb
      obtain rfl:=Nat.eq_of_beq_eq_true b0
      obtain⟨hdn,rfl⟩:=aGa h
      have hls':=hI.ls
      rw[hls] at hls'
      obtain rfl:=Option.some.inj hls'
      obtain⟨u1,h1,h1'⟩:=hs.ev hx
      obtain⟨p,rfl⟩:=aM9 h1'
      obtain⟨u2,h2,rfl⟩:=hs.ev hy
      obtain⟨i2,r2,sb,k1,k2,k3,k4⟩:=hI.pend _ hpd
      rw[hto] at k1
      simp only[List.cons.injEq,It.fld.injEq] at k1
      obtain⟨rfl,rfl⟩:=k1
      have hpos : 0<(e E.cur).cnt:=k4.2.2.1
      have hle:=aRo E.cx.flex sb
      rw[← k4.1] at hle
      have hzl:=Nat.eq_of_beq_eq_true b2
      have hwd:=Nat.eq_of_beq_eq_true b4
      obtain rfl:=aEx hxs
      obtain rfl:=aEx hts
      have hsz:=hI.agr.size
      have hYy:Yl Y σ (e E.cur)=Y:=bA2 fun p hp=>by rw[hpd] at hp;obtain rfl:=Option.some.inj hp;rfl
      have hN:(((e E.cur).cnt.toNat:Nat):Int)=(e E.cur).cnt:=Int.toNat_of_nonneg (by omega)
      refine aUE (N:=(e E.cur).cnt.toNat) hk ht hz ht2 h1 (by rw[hN];exact h2) (by omega) (by omega) (Nat.le_of_lt (by simpa [Nat.blt_eq] using b1)) hdn fun a' w' cap sl hcap ag hb hk'=>?_
      have hI2:=hI.pure B ag
      have hYn:∀ (sl:List (Nat × AV)) (fr:Bool) (lv:Lv) (k:Nat),Yl Y ⟨sl,σ.cells,σ.todo,some ⟨bk,.pos,some (cellsOf z),false⟩,fr⟩ lv k→Y k∨k=lv.lb:=fun sl fr lv k hk=>by
       rcases hk with hk|⟨p,z,_,_,_,hk⟩
       ·exact .inl hk
       ·exact .inr hk
      have hmv:∀ (sl:List (Nat × AV)) (fr:Bool) (i:Nat),i<w.heap.size→¬ Y i→w'.heap[i]? = w.heap[i]? ∧ ¬ Yl Y ⟨sl,σ.cells,σ.todo,some ⟨bk,.pos,some (cellsOf z),false⟩,fr⟩ (aKS e E.cur w.heap.size E.cur) i:=fun sl fr i hi hy=>⟨ag.block i hi id,fun hh=>by
       rw[aHI] at hh
       rcases hYn _ _ _ _ hh with hh|hh
       ·exact hy hh
       ·have:i=w.heap.size:=hh
        omega⟩
      have hsr:=hI.sr
      have hcel:=hI.cel
      have hrdr:=hI.rdr
      rw[hYy] at hsr hcel hrdr
      refine K a' w' ⟨aKS e E.cur w.heap.size,_,s,cs,s1,⟨hls,hI.same.wL _,hk',⟨rfl,?_,(hsr.move (hmv _ _)).map VR.unm⟩,hI2.agr,?_,hI2.blk,?_,fun hp=>(by cases hp),fun p hp=>?_,fun hp=>?_⟩⟩
      ·show 0<_∧aOo _ _
       rw[aHI]
       exact⟨hpos,cap,rfl,hcap⟩
      ·obtain⟨v,v1,v2⟩:=hrdr
       exact⟨v,by rw[ag.block _ (Array.getElem?_eq_some_iff.1 v1).1 id];exact v1,Rep.move (hmv _ _) _ _ v2⟩
      ·rw[aHI]
       have:=hcel.move (hmv (aGd (AV.unm E.cur) σ.sl) σ.fr)
       rw[aHI] at this
       exact this
      ·obtain rfl:=Option.some.inj hp
       obtain⟨p1,p2,p3,p4,p5,p6⟩:=k4
       refine⟨i,r,sb,hto,k2,by rw[aHI];exact k3,?_⟩
       rw[aHI]
       refine⟨p1,p2,p3,fun _=>p4 rfl,fun hb=>(by cases hb),fun _ z' hz'=>?_⟩
       obtain rfl:=Option.some.inj hz'
       refine⟨⟨by rw[hzl,hwd],b3⟩,fun _=>⟨hsz,[],sl,e',?_,aBf.nil _ _ _⟩⟩
       simpa using hb
      ·rw[aHI]
       exact hI.fr hp
     ·cases h
    ·cases h
   ·cases h
  ·cases h
 ·-- more than nothing?
  split at h
  ·rename_i l' hx
   split at h
   ·rename_i hl
    obtain rfl:=Nat.eq_of_beq_eq_true hl
    obtain⟨u,h1,rfl⟩:=hs.ev hx
    exact aCs h hI (v:=.gt0) rfl (fun hd K=>aAx hk h1 rfl rfl hd K) K
   ·cases h
  ·cases h
 ·-- nothing?
  split at h
  ·rename_i l' hx
   split at h
   ·rename_i hl
    obtain rfl:=Nat.eq_of_beq_eq_true hl
    obtain⟨u,h1,rfl⟩:=hs.ev hx
    refine aCs h hI (v:=.eq0) (x:=.bool ((e E.cur).cnt==0)) ?_ (fun hd K=>aAx hk h1 rfl rfl hd K) K
    show Value.bool _=Value.bool _
    congr 1
   ·cases h
  ·cases h
 ·-- numbers
  split at h
  ·rename_i q i q' j hx hy
   split at h
   ·rename_i b hq hb
    obtain rfl:=of_decide_eq_true hq
    obtain⟨u,h1,rfl⟩:=hs.ev hx
    obtain⟨u2,h2,rfl⟩:=hs.ev hy
    exact aCs h hI rfl (fun hd K=>aAx hk h1 h2 hb hd K) K
   ·cases h
  ·cases h
 ·-- conversion
  split at h
  ·rename_i i ik s1 hx hu ht hls
   split at h
   ·rename_i ik' hik
    split at h
    ·rename_i hb
     simp only[Bool.and_eq_true,decide_eq_true_eq,Bool.not_eq_true'] at hb
     obtain⟨rfl,h4⟩:=hb
     obtain⟨u,h1,h2⟩:=hs.ev hx
     have h2':=h2
     obtain⟨s2,g1,g2,g3⟩:=h2
     rw[hls] at g1
     obtain rfl:=Option.some.inj g1
     have h4':(s1.fs.getD i aAm).kind≠4:=fun e=>by rw[e] at h4;simp at h4
     have key:∃ n,u=.int ik n∧ik.wrap n=n:=by
      generalize hff:s1.fs.getD i aAm=ff at g2 g3 hik h4'
      have hk7:ff.kind≠7:=fun e=>by rw[e] at hik;simp[aNz] at hik
      have hk11:ff.kind≠11:=fun e=>by rw[e] at hik;simp[aNz] at hik
      rw[aJC hk11,aE7 (g3 hk7)] at g2
      generalize ff.kind=kk at g2 hik h4'
      match kk,hik,h4',g2 with
      | 1,hik,_,g2 =>
       simp only[aNz,Option.some.injEq] at hik
       subst hik
       exact⟨_,aEI g2,aEC _ _⟩
      | 2,hik,_,g2 =>
       simp only[aNz,Option.some.injEq] at hik
       subst hik
       exact⟨_,aEI g2,aEC _ _⟩
      | 3,hik,_,g2 =>
       simp only[aNz,Option.some.injEq] at hik
       subst hik
       exact⟨_,aEI g2,aEC _ _⟩
      | 4,_,h4',_=>exact absurd rfl h4'
      | 5,hik,_,g2 =>
       simp only[aNz,Option.some.injEq] at hik
       subst hik
       exact⟨_,aEI g2,aEC _ _⟩
      | 0,hik,_,_=>simp[aNz] at hik
      | k+6,hik,_,_=>simp[aNz] at hik
     obtain⟨n,rfl,hn⟩:=key
     exact aCs h hI (v:=.val i) h2' (fun hd K=>aAG hk hu ht h1 hn hd K) K
    ·cases h
   ·cases h
  ·cases h
 ·-- a list's thing
  split at h
  ·rename_i l' m l2 s1 hx hi hls
   split at h
   ·rename_i e' hb ht
    simp only[Bool.and_eq_true] at hb
    obtain rfl:=Nat.eq_of_beq_eq_true hb.1.1
    have hb2:=Nat.eq_of_beq_eq_true hb.1.2
    have htop:s1.top=false:=by simpa using hb.2
    split at h
    ·rename_i bl z hz
     split at h
     ·rename_i hzz
      obtain rfl:=Nat.eq_of_beq_eq_true hzz
      obtain⟨u,h1,h2⟩:=hs.ev hx
      obtain⟨u2,h3,rfl⟩:=hs.ev hi
      obtain⟨t1,t2,t3⟩:=hT s1 hls (by omega) htop
      have hl':E.cur - 1=l':=by omega
      rw[hl'] at t1 t3
      have hel:e l'=e0 l':=hI.same.1 l' (by omega)
      have hix:(e E.cur).ix=(e0 E.cur).ix:=hI.same.2.2.2.2.1
      rw[← hel] at t1 t3
      rw[← hix] at t3 t2
      obtain⟨cap,rfl,hcap⟩:=h2.1 (by omega)
      refine aCs h hI (v:=.ptr E.cur 0) (x:=.pointer (some ⟨(e l').lb,0+(e E.cur).ix*aNS s1.fs s1.tg,none⟩)) ?_ (fun hd' K=>oI0 hk ht hz h1 h3 (by omega) hd' K) K
      show _=Value.pointer (some ⟨(e E.cur).b,(e E.cur).off+0,none⟩)
      rw[hbb,hI.same.2.2.1,t1,t2,Nat.zero_add,Nat.add_zero]
     ·cases h
    ·cases h
   ·cases h
  ·cases h
 ·-- a call
  rename_i f xs' _ _ _ _
  split at h
  ·rename_i ars hars
   obtain⟨vs,h1,h2⟩:=hs.evs hars
   have hxe:xs'=xs'.toList.toArray:=by simp
   rw[hxe]
   exact aQ6 B hI h1 h2 h K
  ·cases h
 ·cases h
theorem aTn (B:Base E e0 w0 Y)(hT:aEU E e0){o:Oper}(h:xopg E.cx E.ls E.cur ops.toList σ o=some σ')(hI:IV E e0 w0 Y items g0 s0 σ a w)
  (K:∀ a' w',IV E e0 w0 Y items g0 s0 σ' a' w'→wpList E.cx.P ops Q rest a' w'):wpList E.cx.P ops Q (o::rest) a w:=by
 unfold xopg at h
 split at h
 ·exact aPO B hT h hI K
 ·rename_i j b hg
  split at h
  ·rename_i dj d hj hd
   have hj':(ops[j]?).bind (·.dst)=some dj:=by rw[← hj];congr 1;simp
   split at h
   ·rename_i u hu
    have hI0:=hI
    obtain⟨e,l,s,cs,S,hI⟩:=hI
    obtain⟨x,hx,rfl⟩:=hI.sr.look hu
    split at h
    ·rename_i hub
     obtain rfl:=eq_of_beq hub
     exact aAu hI.kn ⟨j,u,dj,hg,hj',hx⟩ rfl (aPO B hT h hI0 K)
    ·rename_i hub
     have hne:u≠b:=fun he=>by subst he;simp at hub
     exact aCs h hI (x:=undef) rfl (fun hdn K=>aXU hI.kn ⟨j,b,dj,u,hg,hj',hx,hne⟩ hd hdn K) K
   ·cases h
  ·cases h
theorem aS0 (B:Base E e0 w0 Y){o o2:Oper}(h:xbox E.cx E.ls E.cur σ o o2=some σ')(hI:IV E e0 w0 Y items g0 s0 σ a w)
  (K:∀ a' w',IV E e0 w0 Y items g0 s0 σ' a' w'→wpList E.cx.P ops Q rest a' w'):wpList E.cx.P ops Q (o::o2::rest) a w:=by
 unfold xbox at h
 split at h
 ·rename_i d ety _ _ _ t d' y _ _ _
  split at h
  ·rename_i i s1 z hb hy hls hz
   split at h
   ·rename_i y' hb2 ht
    split at h
    ·cases h
    ·rename_i hyd
     simp only[Bool.and_eq_true] at hb hb2
     obtain rfl:=Nat.eq_of_beq_eq_true hb.1
     have h7:=Nat.eq_of_beq_eq_true hb2.1
     have h16:=Nat.eq_of_beq_eq_true hb2.2
     obtain⟨hdn,rfl⟩:=aGa h
     obtain⟨e,l,s,cs,S,hI⟩:=hI
     have hpd : σ.pd=none:=by
      cases hp : σ.pd with
      | none=>rfl
      | some p=>rw[hp] at hb;exact absurd hb.2 (by simp[aLN])
     have hls':=hI.ls
     rw[hls] at hls'
     obtain rfl:=Option.some.inj hls'
     obtain⟨u,h1,h2⟩:=hI.sr.ev hy
     have hne:y'≠d:=fun he=>hyd (by rw[he];simp)
     have hst:stC s1.fs (.val i)=some (gus i 16):=by simp only[stC,h7]
     obtain⟨g1,g2⟩:=aPq hls h2 hst
     have hc16:(cellsOf u).length=16:=by rw[← g1.length];rfl
     have hcu:cellsOf u=bv (sixteen ((e E.cur).g.q i).s):=by
      have:=aKM (Nat.le_refl 16) g1
      rwa [Nat.sub_self,List.drop_zero] at this
     refine aAD (v:=.pointer (some ⟨w.heap.size,0,none⟩)) (w':=w.alloc (.cells z.cells ety)) hI.kn rfl rfl hdn ?_ fun a1 hk1=>?_
     ·unfold aDp execOp
      simp[Instr.alloc,newVar,newRow,aCr hz]
     ·have hb0:(w.alloc (.cells z.cells ety)).heap[w.heap.size]? = some (.cells ([]++cellsOf z++[]).toArray ety (0,0)):=by
       rw[List.nil_append,List.append_nil,← aBv]
       exact heap_alloc_new w _
      refine o_storeB (pre:=[]) (post:=[]) (cs:=cellsOf z) (o:=0) (b:=w.heap.size) (u:=u) hk1 ht lkS (by
       show look _ y'=_
       rw[lkN hne];exact h1) hc16 g2 hb0 (by omega) fun a2 w2 ag hb2 hk2=>?_
      have hag:Agr Nob w w2:=(Agr.alloc Nob w (.cells z.cells ety)).trans ag (fun _ _ x=>x) (fun k hk hx=>by subst hx;omega)
      have hsz:=hI.agr.size
      refine K a2 w2 ⟨_,_,_,_,_,((hI.pure B hag).put (d:=d) (v:=.box i) (x:=.pointer (some ⟨w.heap.size,0,none⟩)) hk2 ⟨s1,w.heap.size,hls,h7,rfl,fun j v hj=>⟨?_,?_⟩⟩)⟩
      ·rw[aBJ hpd]
       intro hy
       have:=B.old _ hy
       omega
      ·have hd:(cellsOf z).drop (0+(cellsOf u).length)=[]:=List.drop_of_length_le (by omega)
       rw[hd] at hb2
       simp only[List.take_zero,List.nil_append,List.append_nil] at hb2
       rw[hcu] at hb2
       have hlt:=(List.getElem?_eq_some_iff.1 hj).1
       simp[World.cell?,hb2,hj]
   ·cases h
  ·cases h
 ·cases h
theorem aLD {e:Nat→Lv}{n d:Nat}{P:Program}{p:Value}{ww:World}{Yy:Nat→Prop}:∀ (g:Nat) {sl sl':List (Nat × AV)} {c:Code} {oc os:Oper} {L:List (Nat × Value)} {a:Act} {Q:Exit→Act→World→Prop},vway n d g sl c=some (sl',oc,os)→SR E ww Yy e sl L→Kn n L a→look L d=some p →
  (∀ L' a' ops,SR E ww Yy e sl' L'→Kn n L' a'→look L' d=some p→wpList P ops Q [oc,os] a' w)→c.wp P Q a w
 | 0,sl,sl',c,oc,os,L,a,Q,h,_,_,_,_=>by simp[vway] at h
 | g+1,sl,sl',c,oc,os,L,a,Q,h,hs,hk,hd,K=>by
  unfold vway at h
  split at h
  ·rename_i id o1 cc x y
   split at h
   ·rename_i m xx _ _ _ ho1
    have hop:=aEx ho1
    subst hop
    split at h
    ·rename_i hb hx
     simp only[Bool.and_eq_true,Bool.not_eq_true'] at hb
     obtain⟨⟨b1,b2⟩,b3⟩:=hb
     obtain rfl:=Nat.eq_of_beq_eq_true b1
     obtain⟨u,h1,hu⟩:=hs.ev hx
     have hu:u=_:=hu
     subst hu
     have hmd:d≠m:=fun e=>by rw[e] at b3;simp at b3
     refine cR0 ?_
     refine oM0 hk h1 b2 fun a' hk'=>?_
     refine cE0 ?_
     exact aEm hk' lkS (aLD g h (show SR E ww Yy e ((m,_)::sl) ((m,_)::L) from ⟨rfl,rfl,hs⟩) hk' (by rw[lkN hmd];exact hd) K)
    ·rename_i hb hx
     simp only[Bool.and_eq_true,Bool.not_eq_true'] at hb
     obtain⟨⟨b1,b2⟩,b3⟩:=hb
     obtain rfl:=Nat.eq_of_beq_eq_true b1
     obtain⟨u,h1,hu⟩:=hs.ev hx
     have hu:u=_:=hu
     subst hu
     have hmd:d≠m:=fun e=>by rw[e] at b3;simp at b3
     refine cR0 ?_
     refine oM0 hk h1 b2 fun a' hk'=>?_
     refine cE0 ?_
     exact aB9 hk' lkS (aLD g h (show SR E ww Yy e ((m,_)::sl) ((m,_)::L) from ⟨rfl,rfl,hs⟩) hk' (by rw[lkN hmd];exact hd) K)
    ·cases h
   ·cases h
  ·rename_i id ops
   split at h
   ·rename_i o1 o2 hops
    have hop:=aEx hops
    subst hop
    simp only[Option.some.injEq,Prod.mk.injEq] at h
    obtain⟨rfl,rfl,rfl⟩:=h
    exact aC2 (K L a _ hs hk hd)
   ·cases h
  ·cases h
theorem aUt {flex:Bool}{s:RS}:(rdV 8 false flex s).1.z=false:=rfl
theorem aUG (B:Base E e0 w0 Y){d ety:Nat}{c b:Code}{id:Nat}{tyo:Nat}{pso:String}{afo:Array Edge}(h:xvv E.cx E.ls E.cur σ d ety c=some σ')(hI:IV E e0 w0 Y items g0 s0 σ a w)
  (K:∀ a' w',IV E e0 w0 Y items g0 s0 σ' a' w'→b.wp E.cx.P Q a' w'):(Code.seq (.region id #[⟨some d,.alloc ety,tyo,pso,afo,none⟩] false) (.seq c b)).wp E.cx.P Q a w:=by
 unfold xvv at h
 split at h
 ·rename_i sl' t f xs _ _ _ _ ty d' t' _ _ _ hv
  split at h
  ·rename_i cp i r s1 z hck hxs hto hls hz
   split at h
   ·rename_i sb hb hty
    simp only[Bool.and_eq_true,Bool.not_eq_true',decide_eq_true_eq,beq_iff_eq] at hb
    obtain⟨⟨⟨⟨⟨⟨⟨⟨⟨⟨⟨b1,b2⟩,b3⟩,b4⟩,b5⟩,b6⟩,b7⟩,b8⟩,b9⟩,b10⟩,b11⟩,b12⟩:=hb
    obtain rfl:=Nat.eq_of_beq_eq_true b5
    obtain rfl:=Nat.eq_of_beq_eq_true b6
    have hk8:=Nat.eq_of_beq_eq_true b7
    have hz1:=Nat.eq_of_beq_eq_true b11
    obtain rfl:=Option.some.inj h
    obtain⟨e,l,s,cs,S,hI⟩:=hI
    have hls':=hI.ls
    rw[hls] at hls'
    obtain rfl:=Option.some.inj hls'
    have hpd : σ.pd=none:=by
     cases hp : σ.pd with
     | none=>rfl
     | some p=>rw[hp] at b4;exact absurd b4 (by simp[aLN])
    have hY:=aBJ (Y:=Y) (e:=e E.cur) hpd
    have htd:t'≠d':=fun e=>by rw[e] at b3;simp at b3
    obtain⟨hc,hcal⟩:=B.cfg f _ (aEb hck)
    refine cR0 ?_
    refine aAD (v:=.pointer (some ⟨w.heap.size,0,none⟩)) (w':=w.alloc (.cells z.cells ety)) hI.kn rfl rfl b1 ?_ fun a1 hk1=>?_
    ·unfold aDp execOp
     simp[Instr.alloc,newVar,newRow,aCr hz]
    refine cE0 ?_
    refine wp_seq ?_
    refine aLD (E:=E) (e:=e) (ww:=w) (Yy:=Y) 9 hv (show SR E w Y e ((d',.junk)::σ.sl) ((d',.pointer (some ⟨w.heap.size,0,none⟩))::l) from ⟨rfl,trivial,by have:=hI.sr;rw[hY] at this;exact this⟩) hk1 lkS fun L' a2 ops hs2 hk2 hd2=>?_
    obtain⟨vs,hvs,har⟩:=hs2.evs hxs
    obtain⟨x,rfl,rfl⟩:=har.one
    have hag1:Agr Nob w (w.alloc (.cells z.cells ety)):=Agr.alloc Nob w (.cells z.cells ety)
    have hb0:(w.alloc (.cells z.cells ety)).heap[w.heap.size]? = some (.cells ([]++cellsOf z++[]).toArray ety (0,0)):=by
     rw[List.nil_append,List.append_nil,← aBv]
     exact heap_alloc_new w _
    have hrdr:=hI.rdr
    rw[hY] at hrdr
    have hrlt:=hrdr.lt
    have hrd1:aBx (w.alloc (.cells z.cells ety)) (fun k=>Y k∨k=w.heap.size) E.rb E.cx.er s:=by
     obtain⟨u,h1,h2⟩:=hrdr
     exact⟨u,by rw[hag1.block _ hrlt (fun h=>h)];exact h1,Rep.move (fun j hj hy=>⟨hag1.block j hj (fun h=>h),fun h=>h.elim hy (by omega)⟩) _ _ h2⟩
    have hxs2:xs=xs.toList.toArray:=by simp
    rw[hxs2]
    refine aAk hk2 hcal (hc (-1) (ddS (s1.fs.getD i aAm).sub s1.tg) (fun _=>by decide) hrd1 (.inl B.yr)) hvs b2 fun v w2 a3 hv2 hk3=>?_
    obtain⟨v1,⟨v2,v3⟩,v4⟩:=hv2
    have hvo:=v3 (by decide)
    have hc1:=aE7 hvo
    have hdd:aKy 8 (-1) (ddS (s1.fs.getD i aAm).sub s1.tg) (rdV 8 false cp s).1=.v (.string (bs (rdV 8 false cp s).1.s)):=by simp[aKy]
    rw[hc1,hdd] at v2
    have hvv:=aEI v2
    have hw1:w.heap.size<(w.alloc (.cells z.cells ety)).heap.size:=(Array.getElem?_eq_some_iff.1 hb0).1
    have hw2:=Nat.lt_of_lt_of_le hw1 v1.size
    refine o_storeB (pre:=[]) (post:=[]) (cs:=cellsOf z) (o:=0) (b:=w.heap.size) (u:=v) hk3 hty (by
     show look _ d'=_
     rw[lkN (Ne.symm htd)];exact hd2) lkS (by rw[hc1];rfl) (by rw[hc1];exact aVT hvo) ((v1.block _ hw1 (fun hx=>by have hx':w.heap.size=E.rb:=hx;omega)).trans hb0) (by rw[hc1];simp only[List.length_singleton];omega) fun a4 w3 ag3 hb3 hk4=>?_
    have hag12:Agr (fun k=>k=E.rb) w w2:=hag1.trans v1 (fun _ _ x=>x.elim) (fun _ _ x=>x)
    have hag:Agr (fun k=>k=E.rb) w w3:=hag12.trans ag3 (fun _ _ x=>x) (fun k hk hx=>by subst hx;omega)
    have hr:aBx w3 (fun b=>b<w.heap.size∧Y b) E.rb E.cx.er (rdV 8 false cp s).2:=by
     obtain⟨u,h1,h2⟩:=v4
     refine⟨u,by rw[ag3.block _ (Array.getElem?_eq_some_iff.1 h1).1 (fun hx=>by have hx':E.rb=w.heap.size:=hx;omega)];exact h1,Rep.move (fun j hj hy=>⟨ag3.block j hj (fun hx=>hy ⟨by have hx':j=w.heap.size:=hx;omega,.inr hx⟩),fun hn=>hy ⟨by have:=hn.1;omega,.inl hn.2⟩⟩) _ _ h2⟩
    have hI2:Inv E e0 w0 Y items g0 s0 { σ with sl:=sl' } a2 w e L' s cs s1:=⟨hI.ls,hI.same,hk2,by rw[show Yl Y { σ with sl:=sl' } (e E.cur)=Y from aBJ hpd];exact hs2,hI.agr,hI.rdr,hI.blk,hI.cel,hI.none_,hI.pend,hI.fr⟩
    have hread:=hI2.read B hpd hto b12 (g:=(e E.cur).g.set i (rdV 8 false cp s).1) (s':=(rdV 8 false cp s).2) (by
     show (rdF (s1.fs.getD i aAm) E.cx.V E.cx.flex s).map _=_
     rw[aOZ (by omega),hk8,b9,← b10];rfl) ⟨fun j hj=>by simp[G.set,hj],rfl⟩ hag hr hk4 (v:=.junk) trivial
    refine aAb (cT0 (K a4 w3 ⟨_,_,_,_,_,hread.put (d:=d') (v:=.val i) (x:=.pointer (some ⟨w.heap.size,0,none⟩)) (hk4.weakenL fun q y hq=>?_) ?_⟩))
    ·by_cases hqd:q=d'
     ·subst hqd
      rw[lkS] at hq
      rw[lkN (Ne.symm htd),hd2];exact hq
     ·rw[lkN hqd] at hq;exact hq
    ·rw[aBJ rfl]
     refine⟨s1,hls,?_,fun _=>rfl⟩
     rw[aCe]
     have:((e E.cur).g.set i (rdV 8 false cp s).1).q i=(rdV 8 false cp s).1:=by simp[G.set]
     show Rep w3 Y (ddF _ _ (((e E.cur).g.set i (rdV 8 false cp s).1).q i)) _
     rw[this,aJC (by omega),hk8]
     show Rep w3 Y (if 0≤(s1.fs.getD i aAm).nu then (if (rdV 8 false cp s).1.z then .v (.pointer none) else .ptr (.v (.string (bs (rdV 8 false cp s).1.s)))) else .v (.string (bs (rdV 8 false cp s).1.s))) [.pointer (some ⟨w.heap.size,0,none⟩)]
     rw[if_pos b8,aUt,if_neg Bool.false_ne_true]
     simp only[Rep]
     refine⟨w.heap.size,0,[v],rfl,fun j x hj=>⟨fun hy=>?_,?_⟩,by rw[hvv]⟩
     ·have:=B.old _ hy
      have:=hI.agr.size
      omega
     ·have hd0:(cellsOf z).drop (0+(cellsOf v).length)=[]:=List.drop_of_length_le (by rw[hc1];simp only[List.length_singleton];omega)
      rw[hd0] at hb3
      simp only[List.take_zero,List.nil_append,List.append_nil,hc1] at hb3
      simp[World.cell?,hb3,hj]
   ·cases h
  ·cases h
 ·cases h
theorem aU0 {a c b:Code}{y:Code}{d e:Nat}(h:bBt a y=some (d,e,c,b)):∃ id tyo pso afo,a=.region id #[⟨some d,.alloc e,tyo,pso,afo,none⟩] false∧y=.seq c b:=by
 unfold bBt at h
 split at h
 ·split at h
  ·rename_i hops
   have hop:=aEx hops
   subst hop
   simp only[Option.some.injEq,Prod.mk.injEq] at h
   obtain⟨rfl,rfl,rfl,rfl⟩:=h
   exact⟨_,_,_,_,rfl,rfl⟩
  ·cases h
 ·cases h
theorem aLk {ops:Array Oper}(B:Base E e0 w0 Y)(hT:aEU E e0):∀ (l:List Oper) {σ σ':St} {a:Act} {w:World},xops E.cx E.ls E.cur ops.toList l σ=some σ'→IV E e0 w0 Y items g0 s0 σ a w →
  (∀ a' w',IV E e0 w0 Y items g0 s0 σ' a' w'→Q .normal a' w')→wpList E.cx.P ops Q l a w
 | [],σ,σ',a,w,h,hI,K=>by simp only[xops,Option.some.injEq] at h;subst h;exact K _ _ hI
 | o::r,σ,σ',a,w,h,hI,K=>by
  unfold xops at h
  split at h
  ·rename_i τ hτ
   exact aTn B hT hτ hI fun a' w' hI'=>aLk B hT r h hI' K
  ·split at h
   ·rename_i o2 r2
    split at h
    ·rename_i τ hτ
     exact aS0 B hτ hI fun a' w' hI'=>aLk B hT r2 h hI' K
    ·cases h
   ·cases h
end
end Go.Mk.Er
namespace Go.Mk.Er
open Go Go.Mk
open Go.Mk.Ea (aNz)
section
variable {P:Program}{Q:Exit→Act→World→Prop}{a:Act}{w:World}{n:Nat}{l:List (Nat × Value)}
def aFn (own:List Nat)(L:List (Nat × Value)):Prop:=∀ p ∈ L,own.any (Nat.beq p.1)=false
theorem aE5 {own:List Nat}{L:List (Nat × Value)}(h:aFn own L){s:Nat}{v:Value}(hv:look L s=some v):∀ x ∈ own,s≠x:=fun x hx e=>by
 have h1:=h _ (aMm hv)
 subst e
 have:own.any (Nat.beq s)=true:=List.any_eq_true.2 ⟨s,hx,Nat.beq_refl s⟩
 rw[h1] at this
 cases this
def aMG (n i ln:Nat)(own:List Nat)(m:Int)(k id:Nat)(R:Nat→List (Nat × Value)→World→Prop)(Q:Exit→Act→World→Prop):Exit→Act→World→Prop
 | .normal,a',w'=>∃ L',Kn n ((i,.int .i32 (k:Int))::(ln,.int .i32 m)::L') a'∧aFn own L'∧R (k+1) L' w'
 | e,a',w'=>Exit.inBlock id Q e a' w'
theorem aH2:∀ {l:List Nat},apart l=true→l.Nodup
 | [],_=>List.nodup_nil
 | x::r,h=>by
  simp only[apart,Bool.and_eq_true,Bool.not_eq_true'] at h
  refine List.nodup_cons.2 ⟨fun hx=>?_,aH2 h.2⟩
  have:r.any (Nat.beq x)=true:=List.any_eq_true.2 ⟨x,hx,Nat.beq_refl x⟩
  rw[h.1] at this
  cases this
theorem aUq {id idb i ln ta tb c tc td:Nat}{body:Code}{r1 r2 t2 t2' t3 t3' q1 q2 q3 q4 q5 q6:Nat}{p1 p2 p3 p4 p5 p6:String}{af1 af2 af3 af4 af5 af6:Array Edge}{L0:List (Nat × Value)}(m:Int)(hN:m≤2147483647)(R:Nat→List (Nat × Value)→World→Prop)
  (hk:Kn n ((i,.int .i32 0)::(ln,.int .i32 m)::L0) a) (h0:R 0 L0 w)
  (hin:[i,ln,ta,tb,c,tc,td].all (fun s=>Nat.blt s n)=true) (hap:apart [i,ln,ta,tb,c,tc,td]=true)
  (hbody:∀ k L a w,k<m.toNat→R k L w→Kn n ((i,.int .i32 (k:Int))::(ln,.int .i32 m)::L) a →
   body.wp P (Exit.inBlock idb (aMG n i ln [i,ln,ta,tb,c,tc,td] m k id R Q)) a w)
  (hL0:aFn [i,ln,ta,tb,c,tc,td] L0)
  (hend:∀ L a w,R m.toNat L w→Kn n ((i,.int .i32 (m.toNat:Int))::(ln,.int .i32 m)::L) a→Q .normal a w) :
  (Code.block id (.loop (.seq (.seq (.region r1 [⟨some ta,.move (.tmp i),q1,p1,af1,none⟩,⟨some tb,.move (.tmp ln),q2,p2,af2,none⟩,⟨some c,.binOp .lss t2 (.tmp ta) (.tmp tb) t3,q3,p3,af3,none⟩].toArray false) (.cond (.tmp c) .skip (.exit id)))
   (.seq (.block idb body)
    (.region r2 [⟨some tc,.move (.tmp i),q4,p4,af4,none⟩,⟨some td,.binOp .add t2' (.tmp tc) (.const (.int .i32 1)) t3',q5,p5,af5,none⟩,⟨some i,.assign (.tmp td),q6,p6,af6,none⟩].toArray false))))).wp P Q a w:=by
 have hnd:=aH2 hap
 simp only[List.nodup_cons,List.mem_cons,List.not_mem_nil,or_false,not_or,List.nodup_nil,and_true,not_false_eq_true] at hnd
 obtain⟨⟨n1,n2,n3,n4,n5,n6⟩,⟨n7,n8,n9,n10,n11⟩,⟨n12,n13,n14,n15⟩,⟨n16,n17,n18⟩,⟨n19,n20⟩,n21⟩:=hnd
 simp only[List.all_cons,List.all_nil,Bool.and_true,Bool.and_eq_true] at hin
 obtain⟨b1,b2,b3,b4,b5,b6,b7⟩:=hin
 refine wp_block ?_
 refine wp_loop_ghost (fun g a w=>∃ k L,g=m.toNat - k∧k≤m.toNat∧R k L w∧Kn n ((i,.int .i32 (k:Int))::(ln,.int .i32 m)::L) a∧aFn [i,ln,ta,tb,c,tc,td] L) m.toNat
  ⟨0,L0,by omega,Nat.zero_le _,h0,hk,hL0⟩ ?_
 rintro g a w ⟨k,L,rfl,hkN,hR,hk,hL⟩
 refine wp_seq ?_
 refine cR0 ?_
 refine oM0 (v:=.int .i32 (k:Int)) hk lkS b3 fun a hk1=>?_
 refine oM0 (v:=.int .i32 m) hk1 (by
  show look _ ln=_
  rw[lkN n7,lkN (Ne.symm n1),lkS]) b4 fun a hk2=>?_
 refine aAx (i:=(k:Int)) (j:=m) (b:=decide ((k:Int)<m)) hk2 (by
  show look _ ta=_
  rw[lkN n12,lkS]) lkS rfl b5 fun a hk3=>?_
 refine cE0 ?_
 have hback:∀ {u1 u2 u3:Value} {a:Act},Kn n ((c,u1)::(tb,u2)::(ta,u3)::(i,.int .i32 (k:Int))::(ln,.int .i32 m)::L) a→Kn n ((i,.int .i32 (k:Int))::(ln,.int .i32 m)::L) a:=fun hk=>hk.weakenL fun s v hv=>by
  have hs:s≠c∧s≠tb∧s≠ta:=by
   by_cases hsi:s=i
   ·subst hsi;exact⟨n4,n3,n2⟩
   ·rw[lkN hsi] at hv
    by_cases hsl:s=ln
    ·subst hsl;exact⟨n9,n8,n7⟩
    ·rw[lkN hsl] at hv
     have:=aE5 hL hv
     exact⟨this c (by simp),this tb (by simp),this ta (by simp)⟩
  rw[lkN hs.1,lkN hs.2.1,lkN hs.2.2]
  exact hv
 by_cases hlt:k<m.toNat
 ·have hd:decide ((k:Int)<m)=true:=by simp;omega
  rw[hd] at hk3
  refine aEm hk3 lkS ?_
  refine wp_skip ?_
  refine wp_seq ?_
  refine wp_block ?_
  refine Code.wp_mono ?_ (hbody k L a w hlt hR (hback hk3))
  intro e a' w' h
  have fin:∀ (L':List (Nat × Value)),Kn n ((i,.int .i32 (k:Int))::(ln,.int .i32 m)::L') a'→aFn [i,ln,ta,tb,c,tc,td] L'→R (k+1) L' w' →
    (Code.region r2 [⟨some tc,.move (.tmp i),q4,p4,af4,none⟩,⟨some td,.binOp .add t2' (.tmp tc) (.const (.int .i32 1)) t3',q5,p5,af5,none⟩,⟨some i,.assign (.tmp td),q6,p6,af6,none⟩].toArray false).wp P
     (Exit.then (fun a' w'=>∃ n',n'<m.toNat - k∧∃ k L,n'=m.toNat - k∧k≤m.toNat∧R k L w'∧Kn n ((i,.int .i32 (k:Int))::(ln,.int .i32 m)::L) a'∧aFn [i,ln,ta,tb,c,tc,td] L) (Exit.inBlock id Q)) a' w':=by
   intro L' hk' hL' hR'
   refine aC2 ?_
   refine oM0 (v:=.int .i32 (k:Int)) hk' lkS b6 fun a hk=>?_
   refine aCj (i:=(k:Int)) (j:=1) (z:=(k:Int)+1) (c:=((k+1:Nat):Int)) hk lkS rfl rfl (by
    simp only[IntKind.wrap,IntKind.bits,IntKind.signed];simp;omega) b7 fun a hk=>?_
   refine oA0 (v:=.int .i32 ((k+1:Nat):Int)) hk lkS b1 fun a hk=>?_
   refine aAb ?_
   refine⟨m.toNat - (k+1),by omega,k+1,L',rfl,by omega,hR',?_,hL'⟩
   refine hk.weakenL fun s v hv=>?_
   by_cases hsi:s=i
   ·subst hsi;rw[lkS] at hv ⊢;exact hv
   ·rw[lkN hsi] at hv ⊢
    have hs:s≠td∧s≠tc:=by
     by_cases hsl:s=ln
     ·subst hsl;exact⟨n11,n10⟩
     ·rw[lkN hsl] at hv
      have:=aE5 hL' hv
      exact⟨this td (by simp),this tc (by simp)⟩
    rw[lkN hs.1,lkN hs.2,lkN hsi]
    exact hv
  cases e with
  | normal=>obtain⟨L',hk',hL',hR'⟩:=h;exact fin L' hk' hL' hR'
  | exit id' =>
   simp only[Exit.inBlock] at h ⊢
   split at h
   ·rename_i he;subst he;rw[if_pos rfl];obtain⟨L',hk',hL',hR'⟩:=h;exact fin L' hk' hL' hR'
   ·rename_i he;rw[if_neg he];exact h
  | goto l=>exact h
  | ret=>exact h
  | panic ch=>exact h
  | outgrown=>exact h
 ·have hkN':k=m.toNat:=by omega
  subst hkN'
  have hd:decide (((m.toNat:Nat):Int)<m)=false:=by simp;omega
  rw[hd] at hk3
  refine aB9 hk3 lkS ?_
  refine wp_exit ?_
  exact aBd (aBd (aD9 (hend L a w hR (hback hk3))))
end
theorem aQZ {c:Code}{r:RP}(h:aUM c=some r):∃ r1 r2 t2 t2' t3 t3' q1 q2 q3 q4 q5 q6 p1 p2 p3 p4 p5 p6 af1 af2 af3 af4 af5 af6,c =
  Code.block r.id (.loop (.seq (.seq (.region r1 [⟨some r.ta,.move (.tmp r.i),q1,p1,af1,none⟩,⟨some r.tb,.move (.tmp r.ln),q2,p2,af2,none⟩,⟨some r.c,.binOp .lss t2 (.tmp r.ta) (.tmp r.tb) t3,q3,p3,af3,none⟩].toArray false) (.cond (.tmp r.c) .skip (.exit r.id)))
   (.seq (.block r.idb r.body)
    (.region r2 [⟨some r.tc,.move (.tmp r.i),q4,p4,af4,none⟩,⟨some r.td,.binOp .add t2' (.tmp r.tc) (.const (.int .i32 1)) t3',q5,p5,af5,none⟩,⟨some r.i,.assign (.tmp r.td),q6,p6,af6,none⟩].toArray false)))):=by
 unfold aUM at h
 split at h
 ·rename_i id t1 o1 c id' idb body t5 o2
  split at h
  ·rename_i h1 h2
   split at h
   ·rename_i hb
    obtain rfl:=Option.some.inj h
    simp only[Bool.and_eq_true] at hb
    obtain⟨⟨⟨⟨⟨⟨⟨b1,b2⟩,b3⟩,b4⟩,b5⟩,b6⟩,b7⟩,b8⟩:=hb
    have e1:=Nat.eq_of_beq_eq_true b1
    have e2:=Nat.eq_of_beq_eq_true b2
    have e3:=Nat.eq_of_beq_eq_true b3
    have e4:=Nat.eq_of_beq_eq_true b4
    have e5:=Nat.eq_of_beq_eq_true b5
    have e6:=Nat.eq_of_beq_eq_true b6
    have e7:=Nat.eq_of_beq_eq_true b7
    have e8:=Nat.eq_of_beq_eq_true b8
    subst e1 e2 e3 e4 e6 e8
    rw[aEx h1,aEx h2]
    subst e5
    subst e7
    exact⟨_,_,_,_,_,_,_,_,_,_,_,_,_,_,_,_,_,_,_,_,_,_,_,_,rfl⟩
   ·cases h
  ·cases h
 ·cases h
theorem aRZ {k:Nat}{V:Int}(h : 0≤V):(Fld.mk k 0 (-1) (-1) (-1) 0 0 []).has V=true:=bAv (by omega) (.inl (by decide))
section
variable {cx:Cx}{s:LS}{f:Fld}
theorem aLr (h:Nat.beq f.of 10=true):inner s f=⟨f.sub,s.tg,false⟩:=by unfold inner;rw[h]
theorem aLz (h:Nat.beq f.of 10=false):inner s f=⟨[.mk f.of 0 (-1) (-1) (-1) 0 0 []],false,false⟩:=by unfold inner;rw[h]
theorem aOc (h:aJy cx s f=true){g g':G}{sk s':RS}{w:World}{Y:Nat→Prop}{c:List Value}
  (hr:aIC (inner s f).fs cx.V cx.flex (its (inner s f).fs cx.V (cx.flex&&(inner s f).tg)) g sk=some (g',s')) (hc:ACs w Y (inner s f).fs (inner s f).tg g' (acS (inner s f).fs (inner s f).tg cx.V cx.flex) c) :
  ∃ t,aMB cx f sk=some (t,s')∧Rep w Y (aKy f.of (-1) (ddS f.sub s.tg) t) c:=by
 unfold aJy at h
 cases h10:Nat.beq f.of 10 with
 | true =>
  rw[h10] at h
  simp only[Bool.and_eq_true] at h
  have e10:=Nat.eq_of_beq_eq_true h10
  rw[aLr h10] at hr hc
  simp only at hr hc
  have ef:(cx.flex&&s.tg)=cx.flex:=by
   have:=h.1.2
   revert this
   cases cx.flex<;>cases s.tg<;>simp
  rw[ef] at hr
  have h1:=(aHf (V:=cx.V) (flex:=cx.flex) g sk f.sub h.2).1 _ _ hr
  have h2:=aUs h.1.1 h.1.2 hc
  refine⟨.mk 0 [] false (qs cx.V cx.flex g'.q f.sub 0) (if cx.flex then g'.u else []),?_,?_⟩
  ·unfold aMB
   rw[e10]
   exact h1
  ·rw[e10]
   exact h2
 | false =>
  rw[h10] at h
  have hlt:f.of<10:=by simpa [Nat.blt_eq] using h
  rw[aLz h10] at hr hc
  simp only[Bool.and_false] at hr hc
  have hh:(Fld.mk f.of 0 (-1) (-1) (-1) 0 0 []).has cx.V=true:=aRZ (by omega)
  have hi:(Fld.mk f.of 0 (-1) (-1) (-1) 0 0 []).inl cx.V=true:=(aML (f:=Fld.mk f.of 0 (-1) (-1) (-1) 0 0 []) (show (-1:Int)<0 by decide)).trans hh
  have e1:its [Fld.mk f.of 0 (-1) (-1) (-1) 0 0 []] cx.V false=[.fld 0]:=by simp[its,itF,hi]
  rw[e1] at hr
  have hmay:(Fld.mk f.of 0 (-1) (-1) (-1) 0 0 []).mayR cx.V=false:=by
   have h1:(Fld.mk f.of 0 (-1) (-1) (-1) 0 0 []).may cx.V=false:=by simp[Fld.may,Fld.nu]
   unfold Fld.mayR
   rw[h1]
   exact Bool.and_false _
  have hrd:rdF (Fld.mk f.of 0 (-1) (-1) (-1) 0 0 []) cx.V cx.flex sk=some (rdV f.of false cx.flex sk):=by
   rw[aOZ (f:=.mk f.of 0 (-1) (-1) (-1) 0 0 []) hlt,hmay];rfl
  simp only[aIC,rdI,List.getD_cons_zero,hrd,Option.map_some,Option.bind_some,Option.some.injEq,Prod.mk.injEq] at hr
  obtain⟨rfl,rfl⟩:=hr
  refine⟨(rdV f.of false cx.flex sk).1,?_,?_⟩
  ·unfold aMB
   rw[aXB (by omega)]
  ·have hq:(g.set 0 (rdV f.of false cx.flex sk).1).q 0=(rdV f.of false cx.flex sk).1:=by simp[G.set]
   have hst:∀ t:T,aKy f.of (-1) (ddS f.sub s.tg) t=aKy f.of (-1) (ddS [] false) t:=fun t=>by
    generalize f.of=q at hlt
    match q,hlt with
    | 0,_=>rfl
    | 1,_=>rfl
    | 2,_=>rfl
    | 3,_=>rfl
    | 4,_=>rfl
    | 5,_=>rfl
    | 6,_=>rfl
    | 7,_=>rfl
    | 8,_=>rfl
    | 9,_=>rfl
   rw[hst]
   have hdd:ddF (Fld.mk f.of 0 (-1) (-1) (-1) 0 0 []) false (rdV f.of false cx.flex sk).1=aKy f.of (-1) (ddS [] false) (rdV f.of false cx.flex sk).1:=aJC (f:=.mk f.of 0 (-1) (-1) (-1) 0 0 []) (by show f.of≠11;omega)
   unfold acS acF at hc
   rw[aRi (f:=Fld.mk f.of 0 (-1) (-1) (-1) 0 0 []) (show (-1:Int)<0 by decide),hh] at hc
   simp only at hc
   split at hc
   ·rename_i h7
    have h7':f.of=7:=h7
    obtain⟨c1,c2,rfl,g1,g2⟩:=ACs.app hc
    have h3:=aKM (Nat.le_refl 16) g1
    rw[Nat.sub_self,List.drop_zero,hq] at h3
    have:c2=[]:=by
     match c2,g2 with
     | [],_=>rfl
    subst this
    rw[List.append_nil,h3,h7']
    exact aHW (aIs _)
   ·rename_i h10'
    have h10'':f.of=10:=h10'
    omega
   ·match c,hc with
    | [x],hc =>
     have h3:Rep w Y (ddF (Fld.mk f.of 0 (-1) (-1) (-1) 0 0 []) false ((g.set 0 (rdV f.of false cx.flex sk).1).q 0)) [x]:=hc.1
     rw[hq,hdd] at h3
     exact h3
theorem aN8 (h:aJy cx s f=true){g:G}{sk:RS}(hr:aIC (inner s f).fs cx.V cx.flex (its (inner s f).fs cx.V (cx.flex&&(inner s f).tg)) g sk=none):aMB cx f sk=none:=by
 unfold aJy at h
 cases h10:Nat.beq f.of 10 with
 | true =>
  rw[h10] at h
  simp only[Bool.and_eq_true] at h
  have e10:=Nat.eq_of_beq_eq_true h10
  rw[aLr h10] at hr
  simp only at hr
  have ef:(cx.flex&&s.tg)=cx.flex:=by
   have:=h.1.2
   revert this
   cases cx.flex<;>cases s.tg<;>simp
  rw[ef] at hr
  have h1:=(aHf (V:=cx.V) (flex:=cx.flex) g sk f.sub h.2).2 hr
  unfold aMB
  rw[e10]
  exact h1
 | false =>
  rw[h10] at h
  have hlt:f.of<10:=by simpa [Nat.blt_eq] using h
  rw[aLz h10] at hr
  simp only[Bool.and_false] at hr
  have hh:(Fld.mk f.of 0 (-1) (-1) (-1) 0 0 []).has cx.V=true:=aRZ (by omega)
  have hi:(Fld.mk f.of 0 (-1) (-1) (-1) 0 0 []).inl cx.V=true:=(aML (f:=Fld.mk f.of 0 (-1) (-1) (-1) 0 0 []) (show (-1:Int)<0 by decide)).trans hh
  have e1:its [Fld.mk f.of 0 (-1) (-1) (-1) 0 0 []] cx.V false=[.fld 0]:=by simp[its,itF,hi]
  rw[e1] at hr
  simp[aIC,rdI,aOZ (f:=.mk f.of 0 (-1) (-1) (-1) 0 0 []) hlt] at hr
theorem aOF {fs:List Fld}{i:Nat}(h:aC1 fs=true)(hk:(fs.getD i aAm).kind≠0):aJ4 (fs.getD i aAm)=true:=by
 rw[List.getD_eq_getElem?_getD] at hk ⊢
 cases hq:fs[i]? with
 | none=>rw[hq] at hk;exact absurd rfl hk
 | some f =>
  exact aK7 h f (List.mem_of_getElem? hq)
theorem aTl {fs:List Fld}{tg top:Bool}{i:Nat}(hk:(fs.getD i aAm).kind≠0)(h:aC1 (inner ⟨fs,tg,top⟩ (fs.getD i aAm)).fs=false):aC1 fs=false:=by
 cases hn:aC1 fs with
 | false=>rfl
 | true =>
  have h1:=aJc (aOF hn hk)
  unfold inner at h
  split at h
  ·rw[h1] at h;cases h
  ·simp[aC1,aJ4] at h
theorem aUo (h:aJy cx s f=true):aNS (inner s f).fs (inner s f).tg=aI1 f.of (-1) (aNS f.sub s.tg):=by
 unfold aJy at h
 cases h10:Nat.beq f.of 10 with
 | true =>
  rw[aLr h10,Nat.eq_of_beq_eq_true h10]
  simp[aI1]
 | false =>
  rw[h10] at h
  have hlt:f.of<10:=by simpa [Nat.blt_eq] using h
  rw[aLz h10]
  simp only[aNS,aWV,bCh,Bool.toNat_false,Nat.add_zero]
  rw[if_neg (by omega)]
  generalize f.of=q at hlt
  match q,hlt with
  | 0,_=>rfl
  | 1,_=>rfl
  | 2,_=>rfl
  | 3,_=>rfl
  | 4,_=>rfl
  | 5,_=>rfl
  | 6,_=>rfl
  | 7,_=>rfl
  | 8,_=>rfl
  | 9,_=>rfl
end
end Go.Mk.Er
namespace Go.Mk.Er
open Go Go.Mk
theorem aQN {Y:Nat→Prop}{σ : St}{e:Lv}{p:Pd}{z:List Value}(h : σ.pd=some p)(hz:p.z=some z):Yl Y σ e=fun k=>Y k∨(0<e.cnt∧k=e.lb):=by
 funext k
 unfold Yl
 refine propext ⟨fun hk=>hk.elim .inl ?_,fun hk=>hk.elim .inl fun hk=>.inr ⟨p,z,h,hz,hk⟩⟩
 rintro ⟨p',z',h1,h2,h3⟩
 exact .inr h3
theorem bA9 {Y:Nat→Prop}{σ τ : St}{e:Lv}(h:(∀ p,σ.pd=some p→∃ q,τ.pd=some q∧q.z=p.z)∧(∀ p,τ.pd=some p→∃ q,σ.pd=some q∧q.z=p.z)):Yl Y σ e=Yl Y τ e:=by
 funext k
 unfold Yl
 refine propext ⟨fun hk=>hk.elim .inl ?_,fun hk=>hk.elim .inl ?_⟩
 ·rintro ⟨p,z,h1,h2,h3⟩
  obtain⟨q,q1,q2⟩:=h.1 p h1
  exact .inr ⟨q,z,q1,q2.trans h2,h3⟩
 ·rintro ⟨p,z,h1,h2,h3⟩
  obtain⟨q,q1,q2⟩:=h.2 p h1
  exact .inr ⟨q,z,q1,q2.trans h2,h3⟩
section
variable {E:En}{e0 e:Nat→Lv}{w0 w w':World}{Y:Nat→Prop}{items:List It}{g0:G}{s0 s:RS}{σ σ':St}{a a':Act}{l:List (Nat × Value)}{cs:List Value}{S:LS}
theorem Inv.know (h:Inv E e0 w0 Y items g0 s0 σ a w e l s cs S){p q:Pd}(hp : σ.pd=some p)(hz:q.z=p.z)(hl:q.lp=p.lp)(hb:∀ sb,(aEp E.cx.flex sb).2.bad=s.bad∨p.lp=true→(∀ b,p.bk=some b→(aEp E.cx.flex sb).2.bad=b)→∀ b,q.bk=some b→(aEp E.cx.flex sb).2.bad=b)(hs:bBC (e E.cur).cnt p.sg→bBC (e E.cur).cnt q.sg) :
  Inv E e0 w0 Y items g0 s0 { σ with pd:=some q } a w e l s cs S:=by
 have hY:Yl Y { σ with pd:=some q } (e E.cur)=Yl Y σ (e E.cur):=bA9 ⟨fun p' h'=>⟨p,hp,by obtain rfl:=Option.some.inj h';exact hz.symm⟩,fun p' h'=>⟨q,rfl,by rw[hp] at h';obtain rfl:=Option.some.inj h';exact hz⟩⟩
 refine⟨h.ls,h.same,h.kn,by rw[hY];exact h.sr,h.agr,by rw[hY];exact h.rdr,h.blk,by rw[hY];exact h.cel,fun hp=>(by cases hp),fun p' hp'=>?_,h.fr⟩
 obtain rfl:=Option.some.inj hp'
 obtain⟨i,r,s1,k1,k2,k3,p1,p2,p3,p4,p5,p6⟩:=h.pend p hp
 rw[hY]
 refine⟨i,r,s1,k1,k2,k3,p1,hb s1 ?_ p2,hs p3,fun hlp=>p4 (by rw[← hl];exact hlp),fun hlp=>?_,fun hlp z hz'=>p6 (by rw[← hl];exact hlp) z (by rw[← hz];exact hz')⟩
 ·cases hlp:p.lp with
  | true=>exact .inr rfl
  | false=>exact .inl (by rw[p4 hlp])
 ·obtain⟨xs,q1,q2,q3⟩:=p5 (by rw[← hl];exact hlp)
  exact⟨xs,q1,q2,fun z hz'=>q3 z (by rw[← hz];exact hz')⟩
theorem Inv.slots (h:Inv E e0 w0 Y items g0 s0 σ a w e l s cs S){sl:List (Nat × AV)}{l':List (Nat × Value)}(hs:SR E w (Yl Y σ (e E.cur)) e sl l')(hl:∀ s v,look l' s=some v→look l s=some v):Inv E e0 w0 Y items g0 s0 { σ with sl:=sl } a w e l' s cs S :=
 ⟨h.ls,h.same,h.kn.weakenL hl,hs,h.agr,h.rdr,h.blk,h.cel,h.none_,h.pend,h.fr⟩
theorem Inv.unfr (h:Inv E e0 w0 Y items g0 s0 σ a w e l s cs S):Inv E e0 w0 Y items g0 s0 { σ with fr:=false } a w e l s cs S :=
 ⟨h.ls,h.same,h.kn,h.sr,h.agr,h.rdr,h.blk,h.cel,h.none_,h.pend,fun hf=>by cases hf⟩
theorem aZw {u v:AV}{x:Value}(hpos : 0<(e E.cur).cnt){Yy:Nat→Prop}(h:VR E w Yy e u x):VR E w Yy e (aQE E.cur u v) x:=by
 unfold aQE
 split
 ·split
  ·rename_i hl
   rw[Nat.eq_of_beq_eq_true hl]
   exact⟨fun _=>h.2,fun hn=>absurd hpos (by omega)⟩
  ·trivial
 ·split
  ·exact h
  ·trivial
theorem aY5 {u v:AV}{x:Value}(hn:(e E.cur).cnt≤0){Yy:Nat→Prop}(h:VR E w Yy e v x):VR E w Yy e (aQE E.cur u v) x:=by
 unfold aQE
 split
 ·split
  ·rename_i hl
   have hl:=Nat.eq_of_beq_eq_true hl
   subst hl
   exact⟨fun hc=>absurd hc (by omega),fun _=>h⟩
  ·trivial
 ·split
  ·rename_i hi
   exact AV.is_vr hi h
  ·trivial
theorem aZe {u v:AV}{x:Value}(hz:(e E.cur).cnt=0){Yy:Nat→Prop}(h:VR E w Yy e u x):VR E w Yy e (aQW E.cur u v) x:=by
 unfold aQW
 split
 ·split
  ·exact⟨fun _=>h,fun hc=>absurd hz hc⟩
  ·trivial
 ·split
  ·exact h
  ·trivial
theorem aZn {u v:AV}{x:Value}(hz:(e E.cur).cnt≠0){Yy:Nat→Prop}(h:VR E w Yy e v x):VR E w Yy e (aQW E.cur u v) x:=by
 unfold aQW
 split
 ·split
  ·exact⟨fun hc=>absurd hc hz,fun _=>h⟩
  ·trivial
 ·split
  ·rename_i hi
   exact AV.is_vr hi h
  ·trivial
theorem Inv.vac (h:Inv E e0 w0 Y items g0 s0 σ a w e l s cs S){p:Pd}(hp : σ.pd=some p)(hpz:p.z=none)(hlp:p.lp=false)(hn:(e E.cur).cnt≤0){zz:Option (List Value)}(hz:zOk E.ls E.cur σ.todo zz=true):Inv E e0 w0 Y items g0 s0 { σ with pd:=some { p with z:=zz } } a w e l s cs S:=by
 have hY0:Yl Y σ (e E.cur)=Y:=bA2 fun p' h'=>by rw[hp] at h';obtain rfl:=Option.some.inj h';exact hpz
 have hY:Yl Y { σ with pd:=some { p with z:=zz } } (e E.cur)=Y:=by
  cases hzz:zz with
  | none=>exact bA2 fun p' h'=>by obtain rfl:=Option.some.inj h';rfl
  | some z =>
   rw[aQN (p:={ p with z:=some z }) (z:=z) rfl rfl]
   funext k
   exact propext ⟨fun hk=>hk.elim id fun hk=>absurd hk.1 (by omega),.inl⟩
 have hsr:=h.sr
 have hcel:=h.cel
 have hrdr:=h.rdr
 rw[hY0] at hsr hcel hrdr
 refine⟨h.ls,h.same,h.kn,by rw[hY];exact hsr,h.agr,by rw[hY];exact hrdr,h.blk,by rw[hY];exact hcel,fun hp=>(by cases hp),fun p' hp'=>?_,h.fr⟩
 obtain rfl:=Option.some.inj hp'
 obtain⟨i,r,s1,k1,k2,k3,p1,p2,p3,p4,p5,p6⟩:=h.pend p hp
 refine⟨i,r,s1,k1,k2,k3,p1,p2,p3,p4,fun hb=>absurd (show p.lp=true from hb) (by rw[hlp];exact Bool.false_ne_true),fun _ z hz'=>⟨?_,fun hc=>absurd hc (by omega)⟩⟩
 have hzz:zz=some z:=hz'
 rw[hzz,k1] at hz
 unfold zOk at hz
 rw[h.ls] at hz
 simp only[Bool.and_eq_true] at hz
 exact⟨Nat.eq_of_beq_eq_true hz.1,hz.2⟩
theorem aS6 {za zb zz:Option (List Value)}(h:aX0 za zb=some zz):zb=none∧za=zz:=by
 unfold aX0 at h
 split at h
 ·exact⟨rfl,Option.some.inj h⟩
 ·exact⟨rfl,Option.some.inj h⟩
 ·cases h
theorem VR.lowV {cur:Nat}{Yy:Nat→Prop}:∀ (v:AV) (x:Value),VR E w Yy e v x→VR E w Yy e (AV.lowV cur v) x:=by
 intro v x h
 unfold AV.lowV
 split
 ·exact h
 ·trivial
theorem VR.lower {E':En}{e':Nat→Lv}{w':World}{Y1 Y2:Nat→Prop}(hrb:E'.rb=E.rb){cur:Nat}(h:∀ l,l≤cur→e' l=e l):∀ {v:AV} {x:Value},v.low cur=true→VR E w Y1 e v x→VR E' w' Y2 e' v x
 | .junk,_,_,_=>trivial
 | .k _,_,_,hv=>hv
 | .rdr,x,_,hv=>by show x=_;rw[hrb];exact hv
 | .ptr l o,x,hl,hv=>by have:=h l (Nat.le_of_ble_eq_true hl);show x=_;rw[this];exact hv
 | .cnt l,x,hl,hv=>by have:=h l (Nat.le_of_ble_eq_true hl);show x=_;rw[this];exact hv
 | .arr l m,x,hl,hv=>by have:=h l (Nat.le_of_ble_eq_true hl);show (0<(e' l).cnt→aOo (e' l) x)∧((e' l).cnt≤0→aGe (e' l).cnt m x);rw[this];exact hv
 | .idx l,x,hl,hv=>by have:=h l (Nat.le_of_ble_eq_true hl);show x=_;rw[this];exact hv
 | .sv l _,x,hl,hv=>by have:=h l (Nat.le_of_ble_eq_true hl);show x=_;rw[this];exact hv
 | .val _,_,hl,_=>by cases hl
 | .tagv,_,hl,_=>by cases hl
 | .okb _,_,hl,_=>by cases hl
 | .gt0,_,hl,_=>by cases hl
 | .eq0,_,hl,_=>by cases hl
 | .base _ _,_,hl,_=>by cases hl
 | .made,_,hl,_=>by cases hl
 | .box _,_,hl,_=>by cases hl
 | .res,_,hl,_=>by cases hl
def lows (cur:Nat):List (Nat × AV)→Bool
 | []=>true
 | p::r=>p.2.low cur&&lows cur r
theorem aK4 {cur:Nat}:∀ sl:List (Nat × AV),lows cur (aGd (AV.lowV cur) sl)=true
 | []=>rfl
 | p::r=>by
  simp only[aGd,lows,Bool.and_eq_true]
  refine⟨?_,aK4 r⟩
  unfold AV.lowV
  split
  ·assumption
  ·rfl
theorem SR.lower {E':En}{e':Nat→Lv}{w':World}{Y1 Y2:Nat→Prop}(hrb:E'.rb=E.rb){cur:Nat}(h:∀ l,l≤cur→e' l=e l):∀ {sl:List (Nat × AV)} {l:List (Nat × Value)},lows cur sl=true→SR E w Y1 e sl l→SR E' w' Y2 e' sl l
 | [],[],_,_=>trivial
 | [],_::_,_,hs=>by simp[SR] at hs
 | _::_,[],_,hs=>by simp[SR] at hs
 | p::r,q::s,hl,hs=>by
  simp only[lows,Bool.and_eq_true] at hl
  simp only[SR] at hs ⊢
  exact⟨hs.1,VR.lower hrb h hl.1 hs.2.1,SR.lower hrb h hl.2 hs.2.2⟩
theorem aQJ {one:RS→Option (T × RS)}{s:RS}(h:one s=none){n:Nat}:aGv one (n+1) s=none:=by simp[aGv,h]
theorem aQ5 {one:RS→Option (T × RS)}{s s':RS}{t:T}(h:one s=some (t,s')){n:Nat}:aGv one (n+1) s=(aGv one n s').map fun p=>(t::p.1,p.2):=by
 simp only[aGv,h]
 cases aGv one n s'<;>rfl
theorem aPj {ls:List LS}{s':LS}:(ls++[s'])[ls.length]? = some s':=by simp
def aLq (E:En)(e0:Nat→Lv)(w0:World)(S:LS)(items:List It)(g0:G)(s0:RS)(Q:Exit→Act→World→Prop):Prop :=
 (aC1 S.fs=false→aIC S.fs E.cx.V E.cx.flex items g0 s0≠none) ∧
 (aIC S.fs E.cx.V E.cx.flex items g0 s0=none→∀ a' w' l x,Kn E.cx.n l a'→look l E.cx.rt=some x→E.cx.err x→Agr (fun k=>k=E.rb∨k=(e0 E.cur).b) w0 w'→Q .ret a' w')
end
end Go.Mk.Er
namespace Go.Mk.Er
open Go Go.Mk
def bBA (g:Nat):Prop:=∀ {E:En} {e0:Nat→Lv} {w0:World} {Y:Nat→Prop} {items:List It} {g0:G} {s0:RS} {S:LS} {keep:List Nat} {c:Code} {σ σ':St} {Q:Exit→Act→World→Prop} {a:Act} {w:World},
  xc E.cx g E.ls E.cur keep c σ=some σ'→Base E e0 w0 Y→aEU E e0→E.ls[E.cur]? = some S→IV E e0 w0 Y items g0 s0 σ a w→aLq E e0 w0 S items g0 s0 Q →
  (∀ a' w',IV E e0 w0 Y items g0 s0 σ' a' w'→Q .normal a' w')→c.wp E.cx.P Q a w
theorem aNl {own:List Nat}{L:List (Nat × Value)}(hc:aFn own L):∀ {T:List (Nat × Value)},(∀ p ∈ T,p.1 ∈ own)→∀ {s:Nat} {v:Value},look L s=some v→look (T++L) s=some v
 | [],_,_,_,h=>h
 | (k,u)::T,hT,s,v,h=>by
  have hk:s≠k:=fun e=>aE5 hc h k (hT _ List.mem_cons_self) e
  rw[List.cons_append,lkN hk]
  exact aNl hc (fun p hp=>hT p (List.mem_cons_of_mem _ hp)) h
theorem aTV {own:List Nat}{L T:List (Nat × Value)}(hc:aFn own L)(hT:∀ p ∈ T,p.1 ∈ own):∀ {x:Operand} {v:Value},ev L x=some v→ev (T++L) x=some v
 | .tmp _,_,h=>aNl hc hT h
 | .const _,_,h=>h
 | .global _,_,h=>h
 | .func _,_,h=>h
theorem bBy {fs:List Fld}{V:Int}{flex:Bool}{s s':RS}{t:T}(h:rdP fs V flex s=some (t,s')):t.z=false:=by
 unfold rdP aP3 at h
 split at h
 ·split at h
  ·split at h
   ·simp only[Option.some.injEq,Prod.mk.injEq] at h
    rw[← h.1];rfl
   ·split at h
    ·simp only[Option.some.injEq,Prod.mk.injEq] at h
     rw[← h.1];rfl
    ·cases h
  ·simp only[Option.some.injEq,Prod.mk.injEq] at h
   rw[← h.1];rfl
 ·cases h
theorem aUC {c:List Value}{o:Nat}{x:Value}(h:o<c.length):c.take o++[x]++c.drop (o+1)=c.set o x:=by
 rw[List.set_eq_take_append_cons_drop,if_pos h];simp
section
variable {E:En}{e0 e:Nat→Lv}{w0 w w':World}{Y:Nat→Prop}{items:List It}{g0:G}{s0 s:RS}{σ σ':St}{a a':Act}{l:List (Nat × Value)}{cs:List Value}{S:LS}
theorem ACs.setR {fs:List Fld}{tg:Bool}{g:G}{c0:AC}{v:Value}:∀ {l:List AC} {c:List Value} (i:Nat),ACs w Y fs tg g l c→ACR w Y fs tg g c0 v→ACs w Y fs tg g (l.set i c0) (c.set i v)
 | [],[],_,_,_=>trivial
 | _::_,_::_,0,h,hv=>⟨hv,h.2⟩
 | _::_,_::_,i+1,h,hv=>⟨h.1,ACs.setR i h.2 hv⟩
 | [],_::_,_,h,_=>h.elim
 | _::_,[],_,h,_=>h.elim
theorem Inv.side (h:Inv E e0 w0 Y items g0 s0 σ a w e l s cs S)(hpd : σ.pd=none){i:Nat}{r:List It}(htodo : σ.todo=.fld i::r)(hfree : σ.cells.all (AC.free (.fld i))=true){t:T}{s':RS}(hrd:rdF (S.fs.getD i aAm) E.cx.V E.cx.flex s=some (t,s'))
  (hag:Agr (fun k=>k=E.rb∨k=(e0 E.cur).b) w0 w') (hmv:∀ j,j<w.heap.size→¬ Y j→w'.heap[j]? = w.heap[j]? ∧ ¬ Y j) (hr:aBx w' Y E.rb E.cx.er s') {hd:List (Nat × AV)} {L:List (Nat × Value)} (hk:Kn E.cx.n L a') (hs:SR E w' Y e hd L)
  {o:Nat} {x:Value} (hb:w'.heap[(e0 E.cur).b]? = some (.cells ((e0 E.cur).pre++cs.set o x++(e0 E.cur).post).toArray (e0 E.cur).ty (0,0))) (hx:Rep w' Y (ddF (S.fs.getD i aAm) S.tg t) [x]) :
  IV E e0 w0 Y items g0 s0 ⟨aGd (AV.unr (.fld i)) hd,σ.cells.set o (.got i),r,none,false⟩ a' w':=by
 have hg:GOk (.fld i) (e E.cur).g ((e E.cur).g.set i t):=⟨fun j hj=>by simp[G.set,hj],rfl⟩
 have hq:((e E.cur).g.set i t).q i=t:=by simp[G.set]
 have hcel:=h.cel
 rw[aBJ hpd] at hcel
 have hYn:∀ (σ : St) (lv:Lv),σ.pd=none→Yl Y σ lv=Y:=fun σ lv h=>aBJ h
 refine⟨aEL e E.cur ((e E.cur).g.set i t),L,s',cs.set o x,S,?_⟩
 refine⟨h.ls,h.same.wG _,hk,?_,hag,?_,hb,?_,fun _=>?_,fun p hp=>(by cases hp),fun hp=>(by cases hp)⟩
 ·rw[hYn _ _ rfl]
  exact hs.map (VR.unr hg)
 ·rw[hYn _ _ rfl];exact hr
 ·rw[hYn _ _ rfl,aCe]
  exact ACs.setR o ((hcel.move hmv).free hg hfree) (by show Rep w' Y (ddF _ _ (((e E.cur).g.set i t).q i)) [x];rw[hq];exact hx)
 ·have hsp:=h.none_ hpd
  unfold spec at hsp ⊢
  rw[hsp,htodo]
  show ((rdF (S.fs.getD i aAm) E.cx.V E.cx.flex s).map _).bind _=_
  rw[hrd,aCe]
  rfl
end
theorem aM1 {E:En}{w:World}{Y:Nat→Prop}{e:Nat→Lv}:∀ {seen:List Nat} {sl:List (Nat × AV)} {l:List (Nat × Value)},SR E w Y e sl l→∃ l',SR E w Y e (uniq seen sl) l'∧(∀ s v,Mk.look l' s=some v→Mk.look l s=some v∧seen.any (Nat.beq s)=false)∧∀ p ∈ l',p ∈ l
 | _,[],[],_=>⟨[],trivial,(fun s v h=>by simp[Mk.look] at h),fun p hp=>by cases hp⟩
 | _,[],_::_,h=>by simp[SR] at h
 | _,_::_,[],h=>by simp[SR] at h
 | seen,p::r,q::t,h=>by
  simp only[SR] at h
  obtain⟨h1,h2,h3⟩:=h
  obtain⟨k,u⟩:=q
  simp only at h1
  subst h1
  unfold uniq
  split
  ·rename_i hs
   obtain⟨l',g1,g2,g3⟩:=aM1 (seen:=seen) h3
   refine⟨l',g1,fun s v hv=>?_,fun q hq=>List.mem_cons_of_mem _ (g3 q hq)⟩
   obtain⟨g4,g5⟩:=g2 s v hv
   have hne:s≠p.1:=fun e=>by rw[e,hs] at g5;cases g5
   rw[lkN hne]
   exact⟨g4,g5⟩
  ·rename_i hs
   obtain⟨l',g1,g2,g3⟩:=aM1 (seen:=p.1::seen) h3
   refine⟨(p.1,u)::l',⟨rfl,h2,g1⟩,fun s v hv=>?_,fun q hq=>?_⟩
   ·by_cases hsp:s=p.1
    ·subst hsp
     rw[lkS] at hv ⊢
     exact⟨hv,hs⟩
    ·rw[lkN hsp] at hv ⊢
     obtain⟨g4,g5⟩:=g2 s v hv
     simp only[List.any_cons,Bool.or_eq_false_iff] at g5
     exact⟨g4,g5.2⟩
   ·rcases List.mem_cons.1 hq with rfl|hq
    ·exact List.mem_cons_self
    ·exact List.mem_cons_of_mem _ (g3 q hq)
theorem aKV {cur:Nat}:∀ {seen:List Nat} {sl:List (Nat × AV)},lows cur sl=true→lows cur (uniq seen sl)=true
 | _,[],_=>rfl
 | seen,p::r,h=>by
  simp only[lows,Bool.and_eq_true] at h
  unfold uniq
  split
  ·exact aKV h.2
  ·simp only[lows,Bool.and_eq_true]
   exact⟨h.1,aKV h.2⟩
section
variable {E:En}{e0:Nat→Lv}{w0 w:World}{Y:Nat→Prop}{items:List It}{g0:G}{s0:RS}{σ τ : St}{a:Act}{S:LS}{Q:Exit→Act→World→Prop}
theorem aUK {g:Nat}(ih:bBA g)(B:Base E e0 w0 Y)(hS:E.ls[E.cur]? = some S){keep:List Nat}{ca cb:Code}{np:NP}(hnp:bBc ca cb=some np){o:Nat}{z:Value}{s':LS}{i:Nat}{r:List It}(hpre:aYo E.cx E.ls E.cur (aVM E.cx E.cur keep np σ.sl) σ np=some (o,z,s',i,r))
  (hτ : xc E.cx g (E.ls++[s']) (E.cur+1) keep np.body ⟨(np.v,.ptr (E.cur+1) 0)::aVM E.cx E.cur keep np σ.sl,(cellsOf z).map AC.k,its s'.fs E.cx.V (E.cx.flex&&s'.tg),none,false⟩=some τ)
  (t0 : τ.todo=[]) (tp : τ.pd=none) (hlf:left τ.sl (aVM E.cx E.cur keep np σ.sl)=true) (hcl:aJx τ.cells (acS s'.fs s'.tg E.cx.V E.cx.flex)=true)
  (hI:IV E e0 w0 Y items g0 s0 σ a w) (hF:aLq E e0 w0 S items g0 s0 Q)
  (K:∀ a' w',IV E e0 w0 Y items g0 s0 ⟨aGd (AV.unr (.fld i)) (aVM E.cx E.cur keep np σ.sl),σ.cells.set o (.got i),r,none,false⟩ a' w'→Q .normal a' w'):(Code.seq ca cb).wp E.cx.P Q a w:=by
 unfold aYo at hpre
 split at hpre
 ·rename_i i1 r1 s1 hto hls
  rw[hS] at hls
  obtain rfl:=Option.some.inj hls
  split at hpre
  ·rename_i n1 cp1 l1 o1 l2 o2 hc8 hco hq8 hqo hso hso2
   split at hpre
   ·rename_i p1 p2 zz sb1 sz2 hp1 hp2 hz ht1 ht2
    split at hpre
    ·rename_i hb hnil
     simp only[Option.some.injEq,Prod.mk.injEq] at hpre
     obtain⟨rfl,rfl,rfl,rfl,rfl⟩:=hpre
     simp only[Bool.and_eq_true,decide_eq_true_eq] at hb
     obtain⟨⟨⟨⟨⟨⟨⟨⟨⟨⟨b1,b2⟩,b3⟩,b4⟩,b5⟩,b6⟩,b7⟩,b8⟩,b9⟩,b10⟩,b11⟩:=hb
     obtain rfl:=Nat.eq_of_beq_eq_true b2
     obtain rfl:=Nat.eq_of_beq_eq_true b3
     have hoo:=Nat.eq_of_beq_eq_true b4
     have h10:=Nat.eq_of_beq_eq_true b5
     have hcur:=Nat.eq_of_beq_eq_true b11
     have hpd : σ.pd=none:=by
      cases hp : σ.pd with
      | none=>rfl
      | some p=>rw[hp] at b1;exact absurd b1 (by simp[aLN])
     generalize hhd:aVM E.cx E.cur keep np σ.sl=hd at *
     obtain⟨e,l,s,cs,S2,hI⟩:=hI
     have hS2:=hI.ls
     rw[hS] at hS2
     obtain rfl:=Option.some.inj hS2
     have hY:=aBJ (Y:=Y) (e:=e E.cur) hpd
     have hsr:=hI.sr
     have hcel:=hI.cel
     have hrdr:=hI.rdr
     rw[hY] at hsr hcel hrdr
     -- the slots that stay
     obtain⟨L0,g1,g2,g3⟩:=aGS (f:=fun s=>kept E.cx.m keep s&&!np.tm.any (Nat.beq s)) hsr
     obtain⟨L,hsL,g4,g5⟩:=aM1 (seen:=[]) (g1.map (F:=AV.lowV E.cur) VR.lowV)
     have hhd':uniq [] (aGd (AV.lowV E.cur) (prune (fun s=>kept E.cx.m keep s&&!np.tm.any (Nat.beq s)) σ.sl))=hd:=hhd
     rw[hhd'] at hsL
     have hlow:lows E.cur hd=true:=by rw[← hhd'];exact aKV (aK4 _)
     have hclr:aFn np.tm L:=fun p hp=>by
      have:=g3 p (g5 p hp)
      simp only[Bool.and_eq_true,Bool.not_eq_true'] at this
      exact this.2
     have hkL:Kn E.cx.n L a:=hI.kn.weakenL fun s v hv=>(g2 s v (g4 s v hv).1).1
     have hlt:∀ x ∈ np.tm,Nat.blt x E.cx.n=true:=fun x hx=>by
      have:=List.all_eq_true.1 b10 x hx
      exact this
     have hnd:=aH2 b9
     obtain⟨hc8',hcal8⟩:=B.cfg _ _ (aEb hc8)
     obtain⟨hco',hcalo⟩:=B.cfg _ _ (aEb hco)
     obtain⟨u8,hu8,rfl⟩:=hsL.ev hq8
     obtain⟨uo,huo,rfl⟩:=hsL.ev hqo
     obtain⟨us,hus,rfl⟩:=hsL.ev hso
     obtain⟨us2,hus2,rfl⟩:=hsL.ev hso2
     unfold bBc at hnp
     split at hnp
     ·rename_i id1 oo1 id2 oo2 c id3 oo3 id4 oo4 body
      split at hnp
      ·rename_i t1 f8 x8 _ _ _ _ pr y1 _ _ _ t2 y2 _ _ _ t3 _ y3 m _ _ _ _ t4 y4 _ _ _ t5 fo xo _ _ _ _ t6 y5 y6 _ _ _ ho1 ho2
       split at hnp
       ·rename_i aa so _ _ _ al ety _ _ _ nc y7 _ _ _ fa st y8 k _ _ _ pty y9 y10 _ _ _ a2 so2 _ _ _ nc2 z1 _ _ _ fa2 st2 z2 k2 _ _ _ ld pty2 z3 _ _ _ v z4 _ _ _ q8 qo ho3 ho4 hx8 hxo
        split at hnp
        ·rename_i he
         obtain rfl:=Option.some.inj hnp
         simp only[Bool.and_eq_true,decide_eq_true_eq] at he
         obtain⟨⟨⟨⟨⟨⟨⟨⟨⟨⟨⟨⟨⟨⟨⟨e1,e2⟩,e3⟩,e4⟩,e5⟩,e6⟩,e7⟩,e8⟩,e9⟩,e10⟩,e11⟩,e12⟩,e13⟩,e14⟩,e15⟩,rfl⟩:=he
         obtain rfl:=Nat.eq_of_beq_eq_true e1
         obtain rfl:=Nat.eq_of_beq_eq_true e2
         obtain rfl:=Nat.eq_of_beq_eq_true e3
         obtain rfl:=Nat.eq_of_beq_eq_true e4
         obtain rfl:=Nat.eq_of_beq_eq_true e5
         obtain rfl:=Nat.eq_of_beq_eq_true e6
         obtain rfl:=Nat.eq_of_beq_eq_true e7
         obtain rfl:=Nat.eq_of_beq_eq_true e8
         obtain rfl:=Nat.eq_of_beq_eq_true e9
         obtain rfl:=Nat.eq_of_beq_eq_true e10
         obtain rfl:=Nat.eq_of_beq_eq_true e11
         obtain rfl:=Nat.eq_of_beq_eq_true e12
         obtain rfl:=Nat.eq_of_beq_eq_true e13
         obtain rfl:=Nat.eq_of_beq_eq_true e14
         obtain rfl:=Nat.eq_of_beq_eq_true e15
         clear e1 e2 e3 e4 e5 e6 e7 e8 e9 e10 e11 e12 e13 e14 e15
         have hop1:=aEx ho1
         have hop2:=aEx ho2
         have hop3:=aEx ho3
         have hop4:=aEx ho4
         have hop5:=aEx hx8
         have hop6:=aEx hxo
         subst hop1 hop2 hop5 hop6
         simp only[NP.tm] at hclr hlt hnd
         dsimp only at hc8' hcal8 hco' hcalo hu8 huo hus hus2 hp1 hp2 hz ht1 ht2 hτ hoo
         have hbb:(e E.cur).b=(e0 E.cur).b:=hI.same.2.1
         have hoff:(e E.cur).off=(e0 E.cur).pre.length:=by rw[hI.same.2.2.1,B.off]
         have hsz:=hI.agr.size
         have hrlt:=hrdr.lt
         have hplt:(e0 E.cur).b<w.heap.size:=(Array.getElem?_eq_some_iff.1 hI.blk).1
         obtain⟨x0,hx0,hx0'⟩:=ACs.get hcel hnil
         have hx0':x0=.pointer none:=hx0'
         subst hx0'
         obtain⟨holt,hoget⟩:=List.getElem?_eq_some_iff.1 hx0
         -- is it there?
         refine cR0 ?_
         refine aAk hkL hcal8 (hc8' (-1) (fun _=>.v undef) (fun h=>absurd h (by decide)) hrdr B.yr) (show Mk.evs L [q8] [_] from ⟨hu8,trivial⟩) (hlt y1 (by simp)) fun v1 w1 a1 hv1 hk1=>?_
         obtain⟨ag1,⟨v1b,v1c⟩,hr1⟩:=hv1
         have hv:v1=.int .i8 (IntKind.i8.wrap ((RS.num 1 s).1:Int)):=by
          have h1:=aE7 (v1c (by decide))
          rw[h1] at v1b
          have h2:=aEI (show Rep w1 _ (.v (.int .i8 (IntKind.i8.wrap (IntKind.i8.wrap ((RS.num 1 s).1:Int))))) [v1] from v1b)
          rw[h2,aEC]
         subst hv
         have hr1:aBx w1 (fun b=>b<w.heap.size∧Y b) E.rb E.cx.er (RS.num 1 s).2:=hr1
         obtain⟨m8,hm8⟩ : ∃ m8,m8=IntKind.i8.wrap ((RS.num 1 s).1:Int):=⟨_,rfl⟩
         obtain⟨s1,hs1⟩ : ∃ s1,s1=(RS.num 1 s).2:=⟨_,rfl⟩
         rw[← hm8] at hk1
         rw[← hs1] at hr1
         obtain⟨b0,hb0⟩ : ∃ b0,b0=(m8 != -1):=⟨_,rfl⟩
         have hmv1:∀ j,j<w.heap.size→¬ Y j→w1.heap[j]? = w.heap[j]? ∧ ¬ Y j:=fun j hj hy=>⟨ag1.block j hj (fun hx=>hy (by have hx':j=E.rb:=hx;rw[hx'];exact B.yr)),hy⟩
         refine oA0 hk1 lkS (hlt y2 (by simp)) fun a2 hk2=>?_
         refine cE0 ?_
         refine cR0 ?_
         refine oM0 hk2 lkS (hlt y3 (by simp)) fun a3 hk3=>?_
         refine aAx (i:=m8) (j:=-1) (b:=b0) hk3 lkS rfl (by rw[hb0];rfl) (hlt y4 (by simp)) fun a4 hk4=>?_
         refine oM0 hk4 lkS (hlt y5 (by simp)) fun a5 hk5=>?_
         have fin:∀ (c6:Bool) (T6:List (Nat × Value)) (a6:Act),c6=(b0&&!s1.bad)→Kn E.cx.n ((c,.bool c6)::(T6++L)) a6→(∀ p ∈ T6,p.1 ∈ [y1,y2,y3,y4,y5,y6,c,y7,y10,y8,y9,z1,z2,z3,z4,v]) →
           (Code.cond (.tmp c) (.seq (.region id3 oo3 false) (.seq (.region id4 oo4 false) body)) .skip).wp E.cx.P Q a6 w1:=by
          intro c6 T6 a6 hc6 hk6 hT6
          refine aAA hk6 lkS (fun ht=>?_) (fun hf=>?_)
          ·-- it is there
           subst hop3 hop4
           have hpr:m8≠-1∧s1.bad=false:=by
            rw[ht,hb0] at hc6
            have:=hc6.symm
            simp only[Bool.and_eq_true,bne_iff_ne,Bool.not_eq_true'] at this
            exact this
           have hT7:∀ p ∈ (c,Value.bool c6)::T6,p.1 ∈ [y1,y2,y3,y4,y5,y6,c,y7,y10,y8,y9,z1,z2,z3,z4,v]:=fun p hp=>by
            rcases List.mem_cons.1 hp with rfl|hp
            ·simp
            ·exact hT6 p hp
           generalize hT7e:(c,Value.bool c6)::T6=T7 at hT7
           have hk6:Kn E.cx.n (T7++L) a6:=by rw[← hT7e];exact hk6
           clear hT7e
           have hb1:w1.heap[(e0 E.cur).b]? = some (.cells ((e0 E.cur).pre++cs++(e0 E.cur).post).toArray (e0 E.cur).ty (0,0)):=by
            rw[ag1.block _ hplt (Ne.symm B.ne)];exact hI.blk
           have hplt1:(e0 E.cur).b<w1.heap.size:=(Array.getElem?_eq_some_iff.1 hb1).1
           have hrlt1:E.rb<w1.heap.size:=Nat.lt_of_lt_of_le hrlt ag1.size
           refine cR0 ?_
           refine oM0 hk6 (aTV hclr hT7 hus) (hlt y7 (by simp)) fun a7 hk7=>?_
           refine aAD (v:=.pointer (some ⟨w1.heap.size,0,none⟩)) (w':=w1.alloc (.cells zz.cells ety)) hk7 rfl rfl (hlt y10 (by simp)) ?_ fun a8 hk8=>?_
           ·unfold aDp execOp
            simp[Instr.alloc,newVar,newRow,aCr hz]
           have hag2:Agr Nob w1 (w1.alloc (.cells zz.cells ety)):=Agr.alloc Nob w1 _
           have hbn:(w1.alloc (.cells zz.cells ety)).heap[w1.heap.size]? = some (.cells ([]++cellsOf zz++[]).toArray ety (0,0)):=by
            rw[List.nil_append,List.append_nil,← aBv]
            exact heap_alloc_new w1 _
           generalize w1.alloc (.cells zz.cells ety)=w2 at hag2 hbn
           have hsz2:w1.heap.size<w2.heap.size:=(Array.getElem?_eq_some_iff.1 hbn).1
           have hb2:w2.heap[(e0 E.cur).b]? = some (.cells ((e0 E.cur).pre++cs++(e0 E.cur).post).toArray (e0 E.cur).ty (0,0)):=by rw[hag2.block _ hplt1 (fun h=>h)];exact hb1
           refine oN0 hk8 (p:=⟨(e E.cur).b,(e E.cur).off+o1,none⟩) (by show look _ y7=_;rw[lkN (fun h=>by subst h;simp at hnd)];exact lkS) (hlt y8 (by simp)) fun a9 hk9=>?_
           refine oF0 hk9 hp1 lkS (hlt y9 (by simp)) fun a10 hk10=>?_
           refine o_storeB (pre:=(e0 E.cur).pre) (cs:=cs) (post:=(e0 E.cur).post) (o:=o1+p1) (b:=(e0 E.cur).b) (u:=.pointer (some ⟨w1.heap.size,0,none⟩)) hk10 ht1 (by rw[← Nat.add_assoc,← hoff,← hbb];exact lkS) (by show look _ y10=_;rw[lkN (fun h=>by subst h;simp at hnd),lkN (fun h=>by subst h;simp at hnd)];exact lkS) rfl rfl hb2 (by show o1+p1+1≤cs.length;omega) fun a11 w3 ag3 hb3 hk11=>?_
           have hb3:w3.heap[(e0 E.cur).b]? = some (.cells ((e0 E.cur).pre++cs.set (o1+p1) (.pointer (some ⟨w1.heap.size,0,none⟩))++(e0 E.cur).post).toArray (e0 E.cur).ty (0,0)):=by
            rw[← aUC holt];exact hb3
           refine cE0 ?_
           refine cR0 ?_
           have hT8:∀ p ∈ (y9,Value.pointer (some ⟨(e E.cur).b,(e E.cur).off+o1+p1,none⟩))::(y8,Value.pointer (some ⟨(e E.cur).b,(e E.cur).off+o1,none⟩))::(y10,Value.pointer (some ⟨w1.heap.size,0,none⟩))::(y7,Value.pointer (some ⟨(e E.cur).b,(e E.cur).off+o1,none⟩))::T7,p.1 ∈ [y1,y2,y3,y4,y5,y6,c,y7,y10,y8,y9,z1,z2,z3,z4,v]:=fun p hp=>by
            simp only[List.mem_cons] at hp
            rcases hp with rfl|rfl|rfl|rfl|hp
            ·simp
            ·simp
            ·simp
            ·simp
            ·exact hT7 p hp
           refine oM0 hk11 (aTV hclr hT8 hus2) (hlt z1 (by simp)) fun a12 hk12=>?_
           refine oN0 hk12 lkS (hlt z2 (by simp)) fun a13 hk13=>?_
           refine oF0 hk13 hp2 lkS (hlt z3 (by simp)) fun a14 hk14=>?_
           refine aAq (v:=.pointer (some ⟨w1.heap.size,0,none⟩)) hk14 ht2 lkS (by
            have hof:(e E.cur).off+o2+p2=(e0 E.cur).pre.length+(o1+p1):=by omega
            have hls:((e0 E.cur).pre++cs.set (o1+p1) (.pointer (some ⟨w1.heap.size,0,none⟩))++(e0 E.cur).post)[(e0 E.cur).pre.length+(o1+p1)]? = some (.pointer (some ⟨w1.heap.size,0,none⟩)):=by
             rw[List.append_assoc,List.getElem?_append_right (by omega),Nat.add_sub_cancel_left,List.getElem?_append_left (by rw[List.length_set];exact holt)]
             simp[holt]
            rw[hbb,hof]
            unfold World.cell?
            simp only[hb3]
            simpa using hls) (hlt z4 (by simp)) fun a15 hk15=>?_
           refine oA0 hk15 lkS (hlt v (by simp)) fun a16 hk16=>?_
           refine cE0 ?_
           -- the part's own level
           have hkS:Kn E.cx.n ((v,.pointer (some ⟨w1.heap.size,0,none⟩))::L) a16:=hk16.weakenL fun q y hq=>by
            by_cases hqv:q=v
            ·subst hqv
             rw[lkS] at hq ⊢
             exact hq
            ·rw[lkN hqv] at hq ⊢
             refine aNl (T:=(z4,_)::(z3,_)::(z2,_)::(z1,_)::(y9,_)::(y8,_)::(y10,_)::(y7,_)::T7) hclr (fun p hp=>?_) hq
             simp only[List.mem_cons] at hp
             rcases hp with rfl|rfl|rfl|rfl|rfl|rfl|rfl|rfl|hp
             ·simp
             ·simp
             ·simp
             ·simp
             ·simp
             ·simp
             ·simp
             ·simp
             ·exact hT7 p hp
           have hsz3:w2.heap.size≤w3.heap.size:=ag3.size
           have hblk3:w3.heap[w1.heap.size]? = some (.cells ([]++cellsOf zz++[]).toArray ety (0,0)):=by
            rw[ag3.block _ hsz2 (fun hx=>by have hx':w1.heap.size=(e0 E.cur).b:=hx;omega)];exact hbn
           have hsz1:=ag1.size
           have hmv3:∀ j,j<w1.heap.size→¬ (j<w.heap.size∧Y j)→w3.heap[j]? = w1.heap[j]? ∧ ¬ (Y j∨j=w1.heap.size):=fun j hj hy=>by
            have hyj : ¬ Y j:=fun h=>hy ⟨Nat.lt_of_lt_of_le (B.old j h) hsz,h⟩
            refine⟨?_,fun h=>h.elim hyj (by omega)⟩
            rw[ag3.block j (by omega) (fun hx=>hyj (by have hx':j=(e0 E.cur).b:=hx;rw[hx'];exact B.yb)),hag2.block j hj (fun h=>h)]
           let E':En:=⟨E.cx,E.ls++[⟨(S.fs.getD i1 aAm).sub,S.tg,true⟩],E.cur+1,E.rb⟩
           have hE'ls:E'.ls[E'.cur]? = some ⟨(S.fs.getD i1 aAm).sub,S.tg,true⟩:=by show (E.ls++[_])[E.cur+1]? = _;rw[hcur];exact aPj
           generalize hT0:(fun l=>if l=E.cur+1 then (⟨w1.heap.size,0,ety,0,[],[],(e E.cur).g,0,0,false,fun _=>undef⟩ : Lv) else e l)=e0'
           have hnew:e0' (E.cur+1)=⟨w1.heap.size,0,ety,0,[],[],(e E.cur).g,0,0,false,fun _=>undef⟩:=by rw[← hT0];simp
           have hold:∀ l,l≤E.cur→e0' l=e l:=fun l hl=>by rw[← hT0];show (if _ then _ else _)=_;rw[if_neg (by omega)]
           have hag03:Agr (fun k=>k=E.rb∨k=(e0 E.cur).b) w0 w3:=(hI.agr.trans ag1 (Z:=fun k=>k=E.rb∨k=(e0 E.cur).b) (fun _ _ x=>x) (fun _ _ x=>.inl x)).trans (hag2.trans ag3 (Z:=fun k=>k=(e0 E.cur).b) (fun _ _ x=>x.elim) (fun _ _ x=>x)) (fun _ _ x=>x) (fun _ _ x=>.inr x)
           have B':Base E' e0' w3 (fun k=>Y k∨k=w1.heap.size):=by
            refine⟨B.cfg,fun q hq=>?_,.inl B.yr,.inr ?_,?_,?_,?_,B.glob hag03⟩
            ·rcases hq with hq|rfl
             ·exact Nat.lt_of_lt_of_le (B.old q hq) hag03.size
             ·omega
            ·show (e0' (E.cur+1)).b=_
             rw[hnew]
            ·show E.rb≠(e0' (E.cur+1)).b
             rw[hnew]
             show E.rb≠w1.heap.size
             omega
            ·show (e0' (E.cur+1)).off=(e0' (E.cur+1)).pre.length
             rw[hnew];rfl
            ·have hgl:=aIv B.gl.2
             rintro (hq|hq)
             ·exact B.gl.1 hq
             ·have:E.cx.gb=w1.heap.size:=hq
              have h0:(⟨E.cx.gb,0,none⟩ : Addr).block=E.cx.gb:=rfl
              omega
           have hT':aEU E' e0':=by
            intro s2 hs2 _ htp
            rw[hE'ls] at hs2
            obtain rfl:=Option.some.inj hs2
            cases htp
           have htrans:∀ {w4:World},Agr (fun k=>k=E'.rb∨k=(e0' E'.cur).b) w3 w4→Agr (fun j=>j=E.rb∨j=(e0 E.cur).b) w0 w4:=fun ag=>hag03.trans ag (fun _ _ x=>x) (fun j hj x=>x.elim .inl fun hx=>by
            have hx':j=(e0' (E.cur+1)).b:=hx
            rw[hnew] at hx'
            have hx':j=w1.heap.size:=hx'
            omega)
           have hgs:aJy E.cx S (.mk 11 0 0 (-1) (-1) 0 10 (S.fs.getD i1 aAm).sub)=true:=by
            show ((S.fs.getD i1 aAm).sub.all (aXM E.cx.V E.cx.flex)&&(!E.cx.flex||S.tg)&&aHR (S.fs.getD i1 aAm).sub)=true
            simp only[Bool.and_eq_true]
            exact b7
           have hrdn:aMB E.cx (.mk 11 0 0 (-1) (-1) 0 10 (S.fs.getD i1 aAm).sub) s1=rdF (S.fs.getD i1 aAm) E.cx.V E.cx.flex s:=by
            rw[aL4]
            unfold rdQ
            rw[if_neg (by omega),if_pos ⟨h10,b6⟩,if_pos (by rw[← hm8,← hs1];exact hpr),← hs1]
            rfl
           refine ih (E:=E') (e0:=e0') (w0:=w3) (Y:=fun k=>Y k∨k=w1.heap.size) (items:=its (S.fs.getD i1 aAm).sub E.cx.V (E.cx.flex&&S.tg)) (g0:=(e E.cur).g) (s0:=s1) hτ B' hT' hE'ls
            ⟨e0',(v,.pointer (some ⟨w1.heap.size,0,none⟩))::L,s1,cellsOf zz,⟨(S.fs.getD i1 aAm).sub,S.tg,true⟩,?_⟩ ?_ ?_
           ·-- at its beginning
            have hYn:∀ (σ : St) (lv:Lv),σ.pd=none→Yl (fun k=>Y k∨k=w1.heap.size) σ lv=fun k=>Y k∨k=w1.heap.size:=fun σ lv h=>aBJ h
            refine⟨hE'ls,aMI.refl _ _,hkS,?_,Agr.refl _ _,?_,?_,?_,fun _=>?_,fun p hp=>(by cases hp),fun hp=>(by cases hp)⟩
            ·rw[hYn _ _ rfl]
             refine⟨rfl,?_,SR.lower (E:=E) (E':=E') rfl hold hlow hsL⟩
             show _=Value.pointer (some ⟨(e0' (E.cur+1)).b,(e0' (E.cur+1)).off+0,none⟩)
             rw[hnew]
            ·rw[hYn _ _ rfl]
             obtain⟨u,h1,h2⟩:=hr1
             refine⟨u,?_,Rep.move hmv3 _ _ h2⟩
             show w3.heap[E.rb]? = _
             rw[ag3.block _ (by omega) (fun hx=>B.ne hx),hag2.block _ hrlt1 (fun h=>h)]
             exact h1
            ·show w3.heap[(e0' (E.cur+1)).b]? = some (.cells ((e0' (E.cur+1)).pre++cellsOf zz++(e0' (E.cur+1)).post).toArray (e0' (E.cur+1)).ty (0,0))
             rw[hnew];exact hblk3
            ·rw[hYn _ _ rfl]
             have:∀ (z:List Value) (g:G),ACs w3 (fun k=>Y k∨k=w1.heap.size) (S.fs.getD i1 aAm).sub S.tg g (z.map AC.k) z:=by
              intro z g
              induction z with
              | nil=>trivial
              | cons x r ih=>exact⟨rfl,ih⟩
             exact this _ _
            ·show aIC _ _ _ _ _ _=aIC _ _ _ _ (e0' (E.cur+1)).g s1
             rw[hnew]
           ·-- where something goes wrong
            refine (fun hnone=>(⟨fun ht hn=>hF.1 ?_ (hnone hn),fun hn a' w' l' x hk' hx he ha=>hF.2 (hnone hn) a' w' l' x hk' hx he (htrans ha)⟩ : aLq E' e0' w3 ⟨(S.fs.getD i1 aAm).sub,S.tg,true⟩ _ _ _ _)) fun hn=>?_
            ·cases hnt:aC1 S.fs with
             | false=>rfl
             | true =>
              have ht':aC1 (S.fs.getD i1 aAm).sub=false:=ht
              rw[aJc (aOF hnt (by rw[h10];decide))] at ht'
              cases ht'
            have h1:=aN8 (cx:=E.cx) (s:=S) hgs hn
            rw[hrdn] at h1
            have hsp:=hI.none_ hpd
            unfold spec at hsp
            rw[hsp,hto]
            show (Option.map _ (rdF (S.fs.getD i1 aAm) E.cx.V E.cx.flex s)).bind _=none
            rw[h1];rfl
           ·-- its end
            rintro a4 w4 ⟨e2,l2,s2,cs2,S3,hI2⟩
            have hS3:=hI2.ls
            rw[hE'ls] at hS3
            obtain rfl:=Option.some.inj hS3
            have hYn:Yl (fun k=>Y k∨k=w1.heap.size) τ (e2 E'.cur)=fun k=>Y k∨k=w1.heap.size:=aBJ tp
            have hsp:=hI2.none_ tp
            unfold spec at hsp
            rw[t0] at hsp
            have hcel2:=hI2.cel
            rw[hYn,aFx hcl] at hcel2
            obtain⟨t,hr3,ht3⟩:=aOc (cx:=E.cx) (s:=S) hgs hsp hcel2
            have hz0:t.z=false:=bBy (show rdP (S.fs.getD i1 aAm).sub E.cx.V E.cx.flex s1=some (t,s2) from hr3)
            rw[hrdn] at hr3
            have hdd:aKy 10 (-1) (ddS (S.fs.getD i1 aAm).sub S.tg) t=ddS (S.fs.getD i1 aAm).sub S.tg t:=by
             simp[aKy]
            have ht3:Rep w4 (fun k=>Y k∨k=w1.heap.size) (aKy 10 (-1) (ddS (S.fs.getD i1 aAm).sub S.tg) t) cs2:=ht3
            rw[hdd] at ht3
            have hsr2:=hI2.sr
            rw[hYn] at hsr2
            obtain⟨hsl2,hlk⟩:=aNt hsr2 hlf
            have he2:∀ l,l≤E.cur→e2 l=e l:=fun l hl=>(hI2.same.1 l (by show l≠E.cur+1;omega)).trans (hold l hl)
            have hag4:=hI2.agr
            have hblk4:w4.heap[(e0' (E.cur+1)).b]? = some (.cells ((e0' (E.cur+1)).pre++cs2++(e0' (E.cur+1)).post).toArray (e0' (E.cur+1)).ty (0,0)):=hI2.blk
            rw[hnew] at hblk4
            have hag34:Agr (fun k=>k=E.rb∨k=w1.heap.size) w3 w4:=hag4.mono fun j _ hx=>hx.elim .inl fun hx=>.inr (by
             have hx':j=(e0' (E.cur+1)).b:=hx
             rw[hnew] at hx'
             exact hx')
            have hmv4:∀ j,j<w.heap.size→¬ Y j→w4.heap[j]? = w.heap[j]? ∧ ¬ Y j:=fun j hj hy=>by
             refine⟨?_,hy⟩
             rw[hag34.block j (by omega) (fun hx=>hx.elim (fun hx=>hy (by rw[hx];exact B.yr)) (by omega)),(hmv3 j (by omega) (fun h=>hy h.2)).1,(hmv1 j hj hy).1]
            have hback:∀ {d:DD} {c:List Value},Rep w4 (fun k=>Y k∨k=w1.heap.size) d c→Rep w4 Y d c:=fun h=>Rep.move (fun j _ hy=>⟨rfl,fun h=>hy (.inl h)⟩) _ _ h
            refine K a4 w4 (hI.side hpd hto b8 hr3 (htrans hag4) hmv4 ?_ (hI2.kn.weakenL (l':=pick l2 hd) fun s v=>aHg hlk) (SR.lower (E:=E') (E':=E) (cur:=E.cur) rfl (fun q hq=>(he2 q hq).symm) hlow hsl2) (x:=.pointer (some ⟨w1.heap.size,0,none⟩)) ?_ ?_)
            ·have hrdr4:=hI2.rdr
             rw[hYn] at hrdr4
             obtain⟨u,h1,h2⟩:=hrdr4
             exact⟨u,h1,hback h2⟩
            ·rw[hag34.block _ (by omega) (fun hx=>by
              rcases hx with hx|hx
              ·exact B.ne hx.symm
              ·omega)]
             exact hb3
            ·rw[aJC (by omega),h10]
             show Rep w4 Y (if 0≤(S.fs.getD i1 aAm).nu then (if t.z=true then .v (.pointer none) else .ptr (ddS (S.fs.getD i1 aAm).sub S.tg t)) else ddS (S.fs.getD i1 aAm).sub S.tg t) [.pointer (some ⟨w1.heap.size,0,none⟩)]
             rw[if_pos b6,hz0,if_neg Bool.false_ne_true]
             simp only[Rep]
             refine⟨w1.heap.size,0,cs2,rfl,fun j x hj=>⟨fun hy=>?_,?_⟩,hback ht3⟩
             ·have:=B.old _ hy
              omega
             ·simp only[List.nil_append,List.append_nil] at hblk4
              simp[World.cell?,hblk4,hj]
          ·-- it is missing
           refine wp_skip (K a6 w1 ?_)
           refine hI.side hpd hto b8 (t:=ofNil) (s':=s1) ?_ (hI.agr.trans ag1 (fun _ _ x=>x) (fun _ _ x=>.inl x)) hmv1 ?_ (hk6.weakenL fun s v hv=>aNl hclr (T:=(c,.bool c6)::T6) (by
            intro p hp
            rcases List.mem_cons.1 hp with rfl|hp
            ·simp
            ·exact hT6 p hp) hv) (hsL.move hmv1) (x:=.pointer none) ?_ ?_
           ·rw[aL4]
            unfold rdQ
            rw[if_neg (by omega),if_pos ⟨h10,b6⟩,if_neg,← hs1]
            rintro ⟨q1,q2⟩
            rw[← hm8] at q1
            rw[← hs1] at q2
            rw[hc6,hb0,q2] at hf
            simp[q1] at hf
           ·obtain⟨u,h1,h2⟩:=hr1
            exact⟨u,h1,Rep.move (fun j _ hn=>⟨rfl,fun hy=>hn ⟨Nat.lt_of_lt_of_le (B.old j hy) hsz,hy⟩⟩) _ _ h2⟩
           ·have:cs.set (o1+p1) (.pointer none)=cs:=by rw[← hoget];exact List.set_getElem_self holt
            rw[this,ag1.block _ hplt (Ne.symm B.ne)]
            exact hI.blk
           ·rw[aJC (by omega),h10]
            show Rep w1 Y (if 0≤_ then (if ofNil.z=true then .v (.pointer none) else _) else _) [.pointer none]
            rw[if_pos b6]
            exact aCn _
         cases b0 with
         | true =>
          refine aAu hk5 ⟨2,true,y5,rfl,rfl,lkS⟩ rfl ?_
          refine aAk hk5 hcalo (hco' hr1) (show Mk.evs _ [qo] [_] from ⟨aTV (T:=[(y5,.bool true),(y4,.bool true),(y3,.int .i8 m8),(y2,.int .i8 m8),(y1,.int .i8 m8)]) hclr (by simp) huo,trivial⟩) (hlt y6 (by simp)) fun v5 w5 a6 hv5 hk6=>?_
          obtain⟨rfl,rfl⟩:=hv5
          refine aAI hk6 (b:=true) (by show look _ y5=_;rw[lkN (fun h=>by subst h;simp at hnd)];exact lkS) lkS rfl rfl (hlt c (by simp)) fun a7 hk7=>?_
          refine cE0 ?_
          exact fin _ [(y6,_),(y5,_),(y4,_),(y3,_),(y2,_),(y1,_)] a7 (by simp) hk7 (by simp)
         | false =>
          refine aXU hk5 ⟨2,true,y5,false,rfl,rfl,lkS,by decide⟩ rfl (hlt y6 (by simp)) fun a6 hk6=>?_
          refine aAI hk6 (b:=false) (by show look _ y5=_;rw[lkN (fun h=>by subst h;simp at hnd)];exact lkS) lkS rfl rfl (hlt c (by simp)) fun a7 hk7=>?_
          refine cE0 ?_
          exact fin _ [(y6,_),(y5,_),(y4,_),(y3,_),(y2,_),(y1,_)] a7 (by simp) hk7 (by simp)
        ·cases hnp
       ·cases hnp
      ·cases hnp
     ·cases hnp
    ·cases hpre
   ·cases hpre
  ·cases hpre
 ·cases hpre
end
section
variable {E:En}{e0 e:Nat→Lv}{w0 w w':World}{Y:Nat→Prop}{items:List It}{g0:G}{s0 s:RS}{σ τ : St}{a a':Act}{l:List (Nat × Value)}{cs:List Value}{S:LS}{Q:Exit→Act→World→Prop}
theorem ACs.anyK {fs fs':List Fld}{tg tg':Bool}{g g':G}{Y':Nat→Prop}{w':World}:∀ {l:List AC} {c:List Value},l.all AC.isK=true→ACs w Y fs tg g l c→ACs w' Y' fs' tg' g' l c
 | [],[],_,_=>trivial
 | [],_::_,_,h=>h.elim
 | _::_,[],_,h=>h.elim
 | p::r,x::c,hk,h=>by
  simp only[List.all_cons,Bool.and_eq_true] at hk
  refine⟨?_,ACs.anyK hk.2 h.2⟩
  cases p with
  | k v=>exact h.1
  | got i=>cases hk.1
  | gotu i j=>cases hk.1
  | tags=>cases hk.1
  | sub i a=>cases hk.1
theorem Inv.sideN (h:Inv E e0 w0 Y items g0 s0 σ a w e l s cs S)(hpd : σ.pd=none){i:Nat}{r:List It}(htodo : σ.todo=.fld i::r){t:T}{s':RS}(hrd:rdF (S.fs.getD i aAm) E.cx.V E.cx.flex s=some (t,s'))
  (hag:Agr (fun k=>k=E.rb∨k=(e0 E.cur).b) w0 w') (hr:aBx w' Y E.rb E.cx.er s') {hd:List (Nat × AV)} {L:List (Nat × Value)} (hk:Kn E.cx.n L a') (hs:SR E w' Y e hd L)
  {cells:List AC} {cs':List Value} (hb:w'.heap[(e0 E.cur).b]? = some (.cells ((e0 E.cur).pre++cs'++(e0 E.cur).post).toArray (e0 E.cur).ty (0,0))) (hc:ACs w' Y S.fs S.tg ((e E.cur).g.set i t) cells cs') :
  IV E e0 w0 Y items g0 s0 ⟨aGd (AV.unr (.fld i)) hd,cells,r,none,false⟩ a' w':=by
 have hg:GOk (.fld i) (e E.cur).g ((e E.cur).g.set i t):=⟨fun j hj=>by simp[G.set,hj],rfl⟩
 have hYn:∀ (σ : St) (lv:Lv),σ.pd=none→Yl Y σ lv=Y:=fun σ lv h=>aBJ h
 refine⟨aEL e E.cur ((e E.cur).g.set i t),L,s',cs',S,?_⟩
 refine⟨h.ls,h.same.wG _,hk,?_,hag,?_,hb,?_,fun _=>?_,fun p hp=>(by cases hp),fun hp=>(by cases hp)⟩
 ·rw[hYn _ _ rfl]
  exact hs.map (VR.unr hg)
 ·rw[hYn _ _ rfl];exact hr
 ·rw[hYn _ _ rfl,aCe]
  exact hc
 ·have hsp:=h.none_ hpd
  unfold spec at hsp ⊢
  rw[hsp,htodo]
  show ((rdF (S.fs.getD i aAm) E.cx.V E.cx.flex s).map _).bind _=_
  rw[hrd,aCe]
  rfl
theorem bCm (c:List Value)(o n:Nat):c.take o++(c.drop o).take n++c.drop (o+n)=c:=by
 rw[List.append_assoc,← List.drop_drop,List.take_append_drop,List.take_append_drop]
theorem aUV {g:Nat}(ih:bBA g)(B:Base E e0 w0 Y)(hS:E.ls[E.cur]? = some S){keep:List Nat}{ca cb:Code}{p:IP}{o len:Nat}{s':LS}{i:Nat}{r:List It}(hall:aY1 E.cx E.ls E.cur keep σ ca=some (p,o,len,s',i,r))
  (hτ : xc E.cx g (E.ls++[s']) (E.cur+1) keep cb ⟨(p.v,.ptr (E.cur+1) 0)::aXo E.cx E.cur keep p σ.sl,(σ.cells.drop o).take len,its s'.fs E.cx.V (E.cx.flex&&s'.tg),none,false⟩=some τ)
  (t0 : τ.todo=[]) (tp : τ.pd=none) (hlf:left τ.sl (aXo E.cx E.cur keep p σ.sl)=true) (hcl:aJx τ.cells (aZB s'.fs s'.tg E.cx.V E.cx.flex)=true) (hln:Nat.beq τ.cells.length len=true)
  (hI:IV E e0 w0 Y items g0 s0 σ a w) (hF:aLq E e0 w0 S items g0 s0 Q)
  (K:∀ a' w',IV E e0 w0 Y items g0 s0 ⟨aGd (AV.unr (.fld i)) (aXo E.cx E.cur keep p σ.sl),σ.cells.take o++bAM i τ.cells++σ.cells.drop (o+len),r,none,false⟩ a' w'→Q .normal a' w'):(Code.seq ca cb).wp E.cx.P Q a w:=by
 unfold aY1 at hall
 split at hall
 ·rename_i p' hip
  split at hall
  ·rename_i t hpre
   simp only[Option.some.injEq,Prod.mk.injEq] at hall
   obtain⟨rfl,rfl⟩:=hall
   unfold bAZ at hpre
   split at hpre
   ·rename_i i1 r1 s1 hto hls
    rw[hS] at hls
    obtain rfl:=Option.some.inj hls
    split at hpre
    ·rename_i l1 o1 q1 hso hq
     split at hpre
     ·rename_i hb
      simp only[Option.some.injEq,Prod.mk.injEq] at hpre
      obtain⟨rfl,rfl,rfl,rfl,rfl⟩:=hpre
      simp only[Bool.and_eq_true,decide_eq_true_eq] at hb
      obtain⟨⟨⟨⟨⟨⟨⟨⟨⟨⟨⟨⟨⟨b1,b2⟩,b3⟩,b4⟩,b5⟩,b6⟩,b7⟩,b7o⟩,b8⟩,b9⟩,b10⟩,b11⟩,b12⟩,b13⟩:=hb
      obtain rfl:=Nat.eq_of_beq_eq_true b2
      have h10:=Nat.eq_of_beq_eq_true b3
      have hcur:=Nat.eq_of_beq_eq_true b11
      have hle:=Nat.le_of_ble_eq_true b12
      have hln:=Nat.eq_of_beq_eq_true hln
      have hpd : σ.pd=none:=by
       cases hp : σ.pd with
       | none=>rfl
       | some p=>rw[hp] at b1;exact absurd b1 (by simp[aLN])
      generalize hhd:aXo E.cx E.cur keep p' σ.sl=hd at *
      obtain⟨e,l,s,cs,S2,hI⟩:=hI
      have hS2:=hI.ls
      rw[hS] at hS2
      obtain rfl:=Option.some.inj hS2
      have hY:=aBJ (Y:=Y) (e:=e E.cur) hpd
      have hsr:=hI.sr
      have hcel:=hI.cel
      have hrdr:=hI.rdr
      rw[hY] at hsr hcel hrdr
      obtain⟨L0,g1,g2,g3⟩:=aGS (f:=fun s=>kept E.cx.m keep s&&!p'.tm.any (Nat.beq s)) hsr
      obtain⟨L,hsL,g4,g5⟩:=aM1 (seen:=[]) (g1.map (F:=AV.lowV E.cur) VR.lowV)
      have hhd':uniq [] (aGd (AV.lowV E.cur) (prune (fun s=>kept E.cx.m keep s&&!p'.tm.any (Nat.beq s)) σ.sl))=hd:=hhd
      rw[hhd'] at hsL
      have hlow:lows E.cur hd=true:=by rw[← hhd'];exact aKV (aK4 _)
      have hclr:aFn p'.tm L:=fun q hq=>by
       have:=g3 q (g5 q hq)
       simp only[Bool.and_eq_true,Bool.not_eq_true'] at this
       exact this.2
      have hkL:Kn E.cx.n L a:=hI.kn.weakenL fun s v hv=>(g2 s v (g4 s v hv).1).1
      have hlt:∀ x ∈ p'.tm,Nat.blt x E.cx.n=true:=fun x hx=>List.all_eq_true.1 b10 x hx
      obtain⟨us,hus,rfl⟩:=hsL.ev hso
      have hclen:=hcel.length
      have hbb:(e E.cur).b=(e0 E.cur).b:=hI.same.2.1
      have hoff:(e E.cur).off=(e0 E.cur).pre.length:=by rw[hI.same.2.2.1,B.off]
      have hsz:=hI.agr.size
      unfold bCf at hip
      split at hip
      ·rename_i id ops
       split at hip
       ·rename_i aa so _ _ _ nc y1 _ _ _ fa st y2 k _ _ _ v y3 _ _ _ hops
        split at hip
        ·rename_i he
         obtain rfl:=Option.some.inj hip
         simp only[Bool.and_eq_true] at he
         obtain⟨⟨e1,e2⟩,e3⟩:=he
         obtain rfl:=Nat.eq_of_beq_eq_true e1
         obtain rfl:=Nat.eq_of_beq_eq_true e2
         obtain rfl:=Nat.eq_of_beq_eq_true e3
         have hop:=aEx hops
         subst hop
         simp only[IP.tm] at hclr hlt
         dsimp only at hus hq hτ
         refine cR0 ?_
         refine oM0 hkL hus (hlt y1 (by simp)) fun a1 hk1=>?_
         refine oN0 hk1 lkS (hlt y2 (by simp)) fun a2 hk2=>?_
         refine oF0 hk2 hq lkS (hlt y3 (by simp)) fun a3 hk3=>?_
         refine oA0 hk3 lkS (hlt v (by simp)) fun a4 hk4=>?_
         refine cE0 ?_
         have hkS:Kn E.cx.n ((v,.pointer (some ⟨(e E.cur).b,(e E.cur).off+o1+q1,none⟩))::L) a4:=hk4.weakenL fun q y hq=>by
          by_cases hqv:q=v
          ·subst hqv
           rw[lkS] at hq ⊢
           exact hq
          ·rw[lkN hqv] at hq ⊢
           refine aNl (T:=[(y3,_),(y2,_),(y1,_)]) hclr (fun p hp=>?_) hq
           simp only[List.mem_cons,List.not_mem_nil,or_false] at hp
           rcases hp with rfl|rfl|rfl
           ·simp
           ·simp
           ·simp
         let E':En:=⟨E.cx,E.ls++[⟨(S.fs.getD i1 aAm).sub,S.tg,true⟩],E.cur+1,E.rb⟩
         have hE'ls:E'.ls[E'.cur]? = some ⟨(S.fs.getD i1 aAm).sub,S.tg,true⟩:=by show (E.ls++[_])[E.cur+1]? = _;rw[hcur];exact aPj
         generalize hwd:aNS (S.fs.getD i1 aAm).sub S.tg=wd at *
         generalize hT0:(fun l=>if l=E.cur+1 then (⟨(e0 E.cur).b,(e E.cur).off+o1+q1,(e0 E.cur).ty,0,(e0 E.cur).pre++cs.take (o1+q1),cs.drop (o1+q1+wd)++(e0 E.cur).post,(e E.cur).g,0,0,false,fun _=>undef⟩ : Lv) else e l)=e0'
         have hnew:e0' (E.cur+1)=⟨(e0 E.cur).b,(e E.cur).off+o1+q1,(e0 E.cur).ty,0,(e0 E.cur).pre++cs.take (o1+q1),cs.drop (o1+q1+wd)++(e0 E.cur).post,(e E.cur).g,0,0,false,fun _=>undef⟩:=by rw[← hT0];simp
         have hold:∀ l,l≤E.cur→e0' l=e l:=fun l hl=>by rw[← hT0];show (if _ then _ else _)=_;rw[if_neg (by omega)]
         have B':Base E' e0' w Y:=by
          refine⟨B.cfg,fun q hq=>Nat.lt_of_lt_of_le (B.old q hq) hsz,B.yr,?_,?_,?_,B.gl.1,B.glob hI.agr⟩
          ·show Y (e0' (E.cur+1)).b
           rw[hnew];exact B.yb
          ·show E.rb≠(e0' (E.cur+1)).b
           rw[hnew];exact B.ne
          ·show (e0' (E.cur+1)).off=(e0' (E.cur+1)).pre.length
           rw[hnew]
           simp only[List.length_append,List.length_take]
           omega
         have hT':aEU E' e0':=by
          intro s2 hs2 _ htp
          rw[hE'ls] at hs2
          obtain rfl:=Option.some.inj hs2
          cases htp
         have htrans:∀ {w4:World},Agr (fun k=>k=E'.rb∨k=(e0' E'.cur).b) w w4→Agr (fun j=>j=E.rb∨j=(e0 E.cur).b) w0 w4:=fun ag=>hI.agr.trans ag (fun _ _ x=>x) (fun j hj x=>x.elim .inl fun hx=>.inr (by
          have hx':j=(e0' (E.cur+1)).b:=hx
          rw[hnew] at hx'
          exact hx'))
         have hfx:(E.cx.flex&&S.tg)=E.cx.flex:=by rw[b5,b6];rfl
         have hrdn:rdF (S.fs.getD i1 aAm) E.cx.V E.cx.flex s=rdP (S.fs.getD i1 aAm).sub E.cx.V E.cx.flex s:=by
          rw[aL4]
          unfold rdQ
          rw[if_neg (by omega),if_neg (by omega),h10]
          rfl
         have hcut:=bCm cs (o1+q1) wd
         refine ih (E:=E') (e0:=e0') (w0:=w) (Y:=Y) (items:=its (S.fs.getD i1 aAm).sub E.cx.V (E.cx.flex&&S.tg)) (g0:=(e E.cur).g) (s0:=s) hτ B' hT' hE'ls
          ⟨e0',(v,.pointer (some ⟨(e E.cur).b,(e E.cur).off+o1+q1,none⟩))::L,s,(cs.drop (o1+q1)).take wd,⟨(S.fs.getD i1 aAm).sub,S.tg,true⟩,?_⟩ ?_ ?_
         ·have hYn:∀ (σ : St) (lv:Lv),σ.pd=none→Yl Y σ lv=Y:=fun σ lv h=>aBJ h
          refine⟨hE'ls,aMI.refl _ _,hkS,?_,Agr.refl _ _,?_,?_,?_,fun _=>?_,fun p hp=>(by cases hp),fun hp=>(by cases hp)⟩
          ·rw[hYn _ _ rfl]
           refine⟨rfl,?_,SR.lower (E:=E) (E':=E') rfl hold hlow hsL⟩
           show _=Value.pointer (some ⟨(e0' (E.cur+1)).b,(e0' (E.cur+1)).off+0,none⟩)
           rw[hnew,hbb];rfl
          ·rw[hYn _ _ rfl];exact hrdr
          ·show w.heap[(e0' (E.cur+1)).b]? = some (.cells ((e0' (E.cur+1)).pre++(cs.drop (o1+q1)).take wd++(e0' (E.cur+1)).post).toArray (e0' (E.cur+1)).ty (0,0))
           rw[hnew]
           simp only
           rw[hI.blk]
           congr 3
           conv=>lhs;rw[← hcut]
           simp only[List.append_assoc]
          ·rw[hYn _ _ rfl]
           exact ((hcel.drop (o1+q1)).take wd).anyK b13
          ·show aIC _ _ _ _ _ _=aIC _ _ _ _ (e0' (E.cur+1)).g s
           rw[hnew]
         ·-- where something goes wrong
          refine (fun hnone=>(⟨fun ht hn=>hF.1 ?_ (hnone hn),fun hn a' w' l' x hk' hx he ha=>hF.2 (hnone hn) a' w' l' x hk' hx he (htrans ha)⟩ : aLq E' e0' w ⟨(S.fs.getD i1 aAm).sub,S.tg,true⟩ _ _ _ _)) fun hn=>?_
          ·cases hnt:aC1 S.fs with
           | false=>rfl
           | true =>
            have ht':aC1 (S.fs.getD i1 aAm).sub=false:=ht
            rw[aJc (aOF hnt (by rw[h10];decide))] at ht'
            cases ht'
          rw[hfx] at hn
          have h1:=(aHf (V:=E.cx.V) (flex:=E.cx.flex) (e E.cur).g s (S.fs.getD i1 aAm).sub b7o).2 hn
          have hsp:=hI.none_ hpd
          unfold spec at hsp
          rw[hsp,hto]
          show (Option.map _ (rdF (S.fs.getD i1 aAm) E.cx.V E.cx.flex s)).bind _=none
          rw[hrdn,h1];rfl
         ·-- its end
          rintro a5 w4 ⟨e2,l2,s2,cs2,S3,hI2⟩
          have hS3:=hI2.ls
          rw[hE'ls] at hS3
          obtain rfl:=Option.some.inj hS3
          have hYn:Yl Y τ (e2 E'.cur)=Y:=aBJ tp
          have hsp:=hI2.none_ tp
          unfold spec at hsp
          rw[t0] at hsp
          have hcel2:=hI2.cel
          rw[hYn] at hcel2
          have hc2l:=hcel2.length
          have hcl':=aFx hcl
          have hsp':aIC (S.fs.getD i1 aAm).sub E.cx.V E.cx.flex (its (S.fs.getD i1 aAm).sub E.cx.V E.cx.flex) (e E.cur).g s=some ((e2 E'.cur).g,s2):=by
           have:=hsp
           rw[hfx] at this
           exact this
          have hrd:=(aHf (V:=E.cx.V) (flex:=E.cx.flex) (e E.cur).g s (S.fs.getD i1 aAm).sub b7o).1 _ _ hsp'
          generalize hg2:(e2 E'.cur).g=g2 at hrd hcel2
          obtain⟨t,ht⟩ : ∃ t,t=T.mk 0 [] false (qs E.cx.V E.cx.flex g2.q (S.fs.getD i1 aAm).sub 0) (if E.cx.flex then g2.u else []):=⟨_,rfl⟩
          rw[← ht,← hrdn] at hrd
          have hsr2:=hI2.sr
          rw[hYn] at hsr2
          obtain⟨hsl2,hlk⟩:=aNt hsr2 hlf
          have he2:∀ l,l≤E.cur→e2 l=e l:=fun l hl=>(hI2.same.1 l (by show l≠E.cur+1;omega)).trans (hold l hl)
          have hag4:=hI2.agr
          have hblk4:w4.heap[(e0' (E.cur+1)).b]? = some (.cells ((e0' (E.cur+1)).pre++cs2++(e0' (E.cur+1)).post).toArray (e0' (E.cur+1)).ty (0,0)):=hI2.blk
          rw[hnew] at hblk4
          simp only at hblk4
          have hmv4:∀ j,j<w.heap.size→¬ Y j→w4.heap[j]? = w.heap[j]? ∧ ¬ Y j:=fun j hj hy=>⟨hag4.block j hj (fun hx=>by
           rcases hx with hx|hx
           ·exact hy (by rw[hx];exact B.yr)
           ·have hx':j=(e0' (E.cur+1)).b:=hx
            rw[hnew] at hx'
            exact hy (by rw[hx'];exact B.yb)),hy⟩
          have hgo:GOk (.fld i1) (e E.cur).g ((e E.cur).g.set i1 t):=⟨fun j hj=>by simp[G.set,hj],rfl⟩
          have hqt:((e E.cur).g.set i1 t).q i1=t:=by simp[G.set]
          have hcm:=(hcel.move hmv4).free hgo b8
          refine K a5 w4 (hI.sideN hpd hto hrd (htrans hag4) ?_ (hI2.kn.weakenL (l':=pick l2 hd) fun s v=>aHg hlk) (SR.lower (E:=E') (E':=E) (cur:=E.cur) rfl (fun q hq=>(he2 q hq).symm) hlow hsl2) (cs':=cs.take (o1+q1)++cs2++cs.drop (o1+q1+wd)) ?_ ?_)
          ·have hrdr4:=hI2.rdr
           rw[hYn] at hrdr4
           exact hrdr4
          ·rw[hblk4]
           simp only[List.append_assoc]
          ·refine ((hcm.take (o1+q1)).appI0 (ACs.sub.2 ?_)).appI0 (hcm.drop (o1+q1+wd))
           rw[hqt,hcl']
           rw[hcl'] at hcel2
           have htu:(gT t).u=g2.u:=by rw[ht,b5];rfl
           have hall:=(aNL b7).1
           show ACs w4 Y (S.fs.getD i1 aAm).sub S.tg (gT t) (aQL E.cx.V E.cx.flex (S.fs.getD i1 aAm).sub 0 _) cs2
           refine ACs.other (g:=g2) (fun {c} hc=>?_) (S.fs.getD i1 aAm).sub 0 (fun j _ hj=>?_) hcel2
           ·rw[b5,b6] at hc ⊢
            match c,hc with
            | [x],hc =>
             refine⟨?_,trivial⟩
             have h1:Rep w4 Y (aAN g2.u) [x]:=hc.1
             show Rep w4 Y (aAN (gT t).u) [x]
             rw[htu];exact h1
           ·have:=aQp (V:=E.cx.V) (flex:=E.cx.flex) (q:=g2.q) (S.fs.getD i1 aAm).sub 0 j hall (by omega)
            rw[Nat.zero_add] at this
            rw[ht]
            exact this
        ·cases hip
       ·cases hip
      ·cases hip
     ·cases hpre
    ·cases hpre
   ·cases hpre
  ·cases hall
 ·cases hall
end
end Go.Mk.Er
namespace Go.Mk
open Go
section
variable {w0 w w':World}{X Z:Nat→Prop}{m:List Ent}
theorem Mem.rebuild (h:Mem w0 X Z m w){m':List Ent}{A:Nat→Prop}(hp:Agr A w w')(hA:∀ b,A b→b ∈ muts m)(hnd:(muts m').Nodup)
  (hmm:∀ b ∈ muts m',b ∈ muts m∨(w.heap.size≤b∧b<w'.heap.size)) (hall:∀ e ∈ m',(e ∈ m∧∀ b ∈ e.mut,¬ A b)∨e.holds w' (Yof w0 Z m')):Mem w0 X Z m' w':=by
 refine⟨h.agr.trans hp (fun _ _ x=>x) (fun k hk hkb=>(h.own _ (hA k hkb)).2 hk),h.sub,hnd,?_,?_⟩
 ·intro b hb
  rcases hmm b hb with hb|⟨h1,h2⟩
  ·exact⟨Nat.lt_of_lt_of_le (h.own b hb).1 hp.size,(h.own b hb).2⟩
  ·exact⟨h2,fun hlt=>absurd hlt (Nat.not_lt.2 (Nat.le_trans h.agr.size h1))⟩
 ·intro e he
  rcases hall e he with ⟨h1,h2⟩|h1
  ·refine Ent.holds_move (fun i hi hy=>⟨hp.block i hi fun ha=>hy (.inr (hA i ha)),?_⟩) (h.all e h1) (fun b hb=>hp.block b (h.own b (aBI h1 hb)).1 (h2 b hb))
   rintro (hz|hz)
   ·exact hy (.inl hz)
   ·rcases hmm i hz with hz|hz
    ·exact hy (.inr hz)
    ·exact absurd hi (Nat.not_lt.2 hz.1)
  ·exact h1
theorem aNi:∀ {m:List Ent} {i r:Nat} {e e':Ent},aBi m i=some e→e.mut=[]→e'.mut=[r]→r ∉ muts m→(muts m).Nodup →
  (muts (aBn m i e')).Nodup∧∀ b,b ∈ muts (aBn m i e') ↔ b=r∨b ∈ muts m
 | [],i,r,e,e',h,_,_,_,_=>by simp[aBi] at h
 | x::q,0,r,e,e',h,h1,h2,h3,h4=>by
  simp only[aBi,Option.some.injEq] at h
  subst h
  simp only[aBn,muts,h1,h2,List.nil_append,List.singleton_append] at h3 h4 ⊢
  exact⟨List.nodup_cons.2 ⟨h3,h4⟩,fun b=>by simp⟩
 | x::q,i+1,r,e,e',h,h1,h2,h3,h4=>by
  simp only[muts,List.mem_append,not_or] at h3
  simp only[muts,List.nodup_append] at h4
  obtain⟨g1,g2⟩:=aNi (m:=q) (i:=i) h h1 h2 h3.2 h4.2.1
  simp only[aBn,muts,List.nodup_append]
  refine⟨⟨h4.1,g1,?_⟩,fun b=>by simp only[List.mem_append,g2];constructor<;>(intro h;rcases h with h|h|h<;>simp_all)⟩
  intro a ha b hb hab
  subst hab
  rcases (g2 a).1 hb with rfl|hb
  ·exact h3.1 ha
  ·exact h4.2.2 a ha a hb rfl
end
section
variable {w0 w w':World}{X Z:Nat→Prop}{m:List Ent}
theorem Mem.mapOr (h:Mem w0 X Z m w){i:Nat}{p:Option Nat}{ks:List Nat}{vs:List Value}(hi:aBi m i=some (.mapb p ks vs)):aM2 w p ks vs:=h.all _ (eA0 hi)
theorem Mem.blkAt (h:Mem w0 X Z m w){i g e:Nat}{cs:List Value}(hi:aBi m i=some (.blk g cs e)):w.heap[g]? = some (.cells cs.toArray e (0,0)):=h.all _ (eA0 hi)
theorem Mem.mapNew (h:Mem w0 X Z m w){i b:Nat}{ks ks':List Nat}{vs vs':List Value}(hi:aBi m i=some (.mapb none ks vs))(hp:Agr Nob w w')(hb:b=w.heap.size)(hM:aGE w' b ks' vs'):Mem w0 X Z (aBn m i (.mapb (some b) ks' vs')) w':=by
 have hrn:b ∉ muts m:=fun hx=>absurd (h.own b hx).1 (by omega)
 obtain⟨g1,g2⟩:=aNi (r:=b) (e':=.mapb (some b) ks' vs') hi rfl rfl hrn h.nodup
 refine h.rebuild hp (fun _ hb=>hb.elim) g1 (fun k hk=>?_) ?_
 ·rcases (g2 k).1 hk with rfl|hk
  ·exact .inr ⟨by omega,hM.lt⟩
  ·exact .inl hk
 ·intro x hx
  rcases aFC hx with rfl|⟨k,_,hk⟩
  ·exact .inr hM
  ·exact .inl ⟨eA0 hk,fun _ _ hb=>hb⟩
theorem Mem.startTags {g e:Nat}{cs:List Value}{p:Option Nat}{ks:List Nat}{vs:List Value}(hb:w0.heap[g]? = some (.cells cs.toArray e (0,0)))(hM:aM2 w0 p ks vs) :
  Mem w0 (fun k=>k=g∨p=some k) (fun k=>k=g∨p=some k) [.blk g cs e,.mapb p ks vs] w0:=by
 have hgl:g<w0.heap.size:=(Array.getElem?_eq_some_iff.1 hb).1
 refine Mem.startX (fun _ h=>h) ?_ ?_ ?_
 ·cases p with
  | none=>simp[muts,Ent.mut]
  | some r =>
   simp only[muts,Ent.mut,List.append_nil,List.singleton_append,Option.toList_some,List.nodup_cons,List.mem_singleton,List.not_mem_nil,not_false_eq_true,List.nodup_nil,and_true]
   rintro rfl
   obtain⟨es,clk,h1,_⟩:=hM
   rw[hb] at h1
   cases h1
 ·intro b hb'
  simp only[muts,Ent.mut,List.append_nil,List.singleton_append,List.mem_cons] at hb'
  rcases hb' with rfl|hb'
  ·exact⟨hgl,.inl rfl⟩
  ·cases p with
   | none=>simp at hb'
   | some r =>
    simp only[Option.toList_some,List.mem_singleton] at hb'
    subst hb'
    exact⟨aGE.lt hM,.inr rfl⟩
 ·simp only[List.forall_mem_cons,List.not_mem_nil,false_imp_iff,implies_true,and_true]
  exact⟨hb,hM⟩
end
theorem aWh {cs:List Value}{off:Nat}{v:Value}(h:off<cs.length):(spl cs off [v])[off]? = some v:=by
 rw[aFO (by simp only[List.length_cons,List.length_nil];omega)]
 rw[List.append_assoc,List.getElem?_append_right (by simp;omega)]
 simp[Nat.min_eq_left (Nat.le_of_lt h)]
theorem aRg:∀ {cs:List Value} {off:Nat} {v:Value},cs[off]? = some v→spl cs off [v]=cs
 | [],off,v,h=>by simp at h
 | c::cs,0,v,h=>by simp only[List.getElem?_cons_zero,Option.some.injEq] at h;subst h;rfl
 | c::cs,off+1,v,h=>by simp only[List.getElem?_cons_succ] at h;simp only[spl,aRg h]
theorem aRh {w:World}{Y:Nat→Prop}{t:T}{c:List Value}(h:Rep w Y (ddT t) c):∃ cs p cap pu capu,c=[.int .i64 t.n,cs,.bool t.z,.slice p t.l.length cap,.slice pu t.u.length capu]:=by
 obtain⟨ps,caps,p,cap,pu,capu,rfl⟩:=aB6 h
 exact⟨_,p,cap,pu,capu,rfl⟩
end Go.Mk
namespace Go.Mk.Er
open Go Go.Mk
theorem aMX {w:World}{Y:Nat→Prop}{k:Nat}{b:List UInt8}{x:Value}(hx:Rep w Y (aDJ b) [x]):∀ {u:List (Nat × List UInt8)} {vs:List Value},aCh w Y (u.map fun q=>aDJ q.2) vs →
  (aPl (u.map Prod.fst) vs k x).1=(aRV k b u).map Prod.fst∧aCh w Y ((aRV k b u).map fun q=>aDJ q.2) (aPl (u.map Prod.fst) vs k x).2
 | [],vs,h=>by
  have hv:vs=[]:=by simpa [aCh] using h
  subst hv
  refine⟨rfl,?_⟩
  show aCh w Y [aDJ b] [x]
  exact aCh.cons1 hx aCh.nil
 | q::r,vs,h=>by
  obtain⟨v0,vs',rfl,h1,h2⟩:=h.un1 (aFo _ _ _)
  by_cases hq:q.1=k
  ·have e1:aHr ((q::r).map Prod.fst) k=some 0:=by simp[aHr,hq]
   unfold aPl
   rw[e1]
   simp only[aRV,if_pos hq,List.map_cons,List.set_cons_zero]
   exact⟨by rw[hq],aCh.cons1 hx h2⟩
  ·obtain⟨i1,i2⟩:=aMX hx h2
   have e1:aHr ((q::r).map Prod.fst) k=(aHr (r.map Prod.fst) k).map (·+1):=by
    simp only[List.map_cons,aHr]
    rw[if_neg (fun e=>hq e.symm)]
   unfold aPl at i1 i2 ⊢
   rw[e1]
   cases hk:aHr (r.map Prod.fst) k with
   | none =>
    rw[hk] at i1 i2
    simp only[Option.map_none,aRV,if_neg hq,List.map_cons,List.cons_append] at i1 i2 ⊢
    exact⟨by rw[i1],aCh.cons1 h1 i2⟩
   | some i =>
    rw[hk] at i1 i2
    simp only[Option.map_some,aRV,if_neg hq,List.map_cons,List.set_cons_succ] at i1 i2 ⊢
    exact⟨by rw[i1],aCh.cons1 h1 i2⟩
end Go.Mk.Er
namespace Go.Mk.Er
open Go Go.Mk
def bAg (g:Nat):Prop:=∀ {E:En} {e0:Nat→Lv} {w0:World} {Y:Nat→Prop} {items:List It} {g0:G} {s0:RS} {S:LS} {keep:List Nat} {c:Code} {σ σ':St} {Q:Exit→Act→World→Prop} {a:Act} {w:World},
  xk E.cx g E.ls E.cur keep c σ=some σ'→Base E e0 w0 Y→aEU E e0→E.ls[E.cur]? = some S→IV E e0 w0 Y items g0 s0 σ a w→aLq E e0 w0 S items g0 s0 Q →
  (∀ g' s',aIC S.fs E.cx.V E.cx.flex items g0 s0=some (g',s')→s'.bad=false) →
  (∀ a' w',IV E e0 w0 Y items g0 s0 σ' a' w'→Q .normal a' w')→c.wp E.cx.P Q a w
structure KtSame (cur:Nat) (e e':Nat→Lv):Prop where
 low:∀ l,l<cur→e' l=e l
 b:(e' cur).b=(e cur).b
 off:(e' cur).off=(e cur).off
 ix:(e' cur).ix=(e cur).ix
section
variable {E E':En}{w w':World}{Y Y':Nat→Prop}{e e':Nat→Lv}{cur:Nat}
theorem VR.ktV:∀ (v:AV) (x:Value),VR E w Y e v x→VR E w Y e (v.ktV cur) x:=fun v x h=>by
 unfold AV.ktV
 split
 ·exact h
 ·trivial
theorem aZ8 (v:AV):(v.ktV cur).ktOk cur=true:=by
 unfold AV.ktV
 split
 ·assumption
 ·rfl
theorem KtSame.bo (h:KtSame cur e e'){l:Nat}(hl:l≤cur):(e' l).b=(e l).b∧(e' l).off=(e l).off∧(e' l).ix=(e l).ix:=by
 rcases Nat.lt_or_eq_of_le hl with h1|rfl
 ·rw[h.low l h1];exact⟨rfl,rfl,rfl⟩
 ·exact⟨h.b,h.off,h.ix⟩
theorem VR.inn (hK:KtSame cur e e')(hsv:(e' cur).sv 1=.pointer (some ⟨E.rb,0,none⟩)):∀ {v:AV} {x:Value},v.ktOk cur=true→VR E w Y e v x→VR E' w' Y' e' (v.noRdr cur) x
 | .junk,_,_,_=>trivial
 | .k _,_,_,hv=>hv
 | .rdr,x,_,hv=>by show x=_;rw[hsv];exact hv
 | .ptr l o,x,hl,hv=>by
  obtain⟨h1,h2,-⟩:=hK.bo (Nat.le_of_ble_eq_true hl)
  show x=_
  rw[h1,h2];exact hv
 | .cnt l,x,hl,hv=>by
  have:=hK.low l (by simpa [AV.ktOk,Nat.blt_eq] using hl)
  show x=_
  rw[this];exact hv
 | .arr l m,x,hl,hv=>by
  have:=hK.low l (by simpa [AV.ktOk,Nat.blt_eq] using hl)
  show (0<(e' l).cnt→aOo (e' l) x)∧((e' l).cnt≤0→aGe (e' l).cnt m x)
  rw[this];exact hv
 | .idx l,x,hl,hv=>by
  obtain⟨-,-,h3⟩:=hK.bo (Nat.le_of_ble_eq_true hl)
  show x=_
  rw[h3];exact hv
 | .sv l j,x,hl,hv=>by
  have:=hK.low l (by simpa [AV.ktOk,Nat.blt_eq] using hl)
  show x=_
  rw[this];exact hv
 | .val _,_,hl,_=>by cases hl
 | .tagv,_,hl,_=>by cases hl
 | .okb _,_,hl,_=>by cases hl
 | .gt0,_,hl,_=>by cases hl
 | .eq0,_,hl,_=>by cases hl
 | .base _ _,_,hl,_=>by cases hl
 | .made,_,hl,_=>by cases hl
 | .box _,_,hl,_=>by cases hl
 | .res,_,hl,_=>by cases hl
theorem VR.out (hK:KtSame cur e e')(hsv:(e' cur).sv 1=.pointer (some ⟨E.rb,0,none⟩)):∀ {v:AV} {x:Value},v.ktOk cur=true→VR E' w' Y' e' (v.noRdr cur) x→VR E w Y e v x
 | .junk,_,_,_=>trivial
 | .k _,_,_,hv=>hv
 | .rdr,x,_,hv=>by
  have hv':x=(e' cur).sv 1:=hv
  show x=_
  rw[hv',hsv]
 | .ptr l o,x,hl,hv=>by
  obtain⟨h1,h2,-⟩:=hK.bo (Nat.le_of_ble_eq_true hl)
  have hv':x=.pointer (some ⟨(e' l).b,(e' l).off+o,none⟩):=hv
  rw[h1,h2] at hv'
  exact hv'
 | .cnt l,x,hl,hv=>by
  have:=hK.low l (by simpa [AV.ktOk,Nat.blt_eq] using hl)
  have hv':x=.int .i32 (e' l).cnt:=hv
  rw[this] at hv'
  exact hv'
 | .arr l m,x,hl,hv=>by
  have:=hK.low l (by simpa [AV.ktOk,Nat.blt_eq] using hl)
  have hv':(0<(e' l).cnt→aOo (e' l) x)∧((e' l).cnt≤0→aGe (e' l).cnt m x):=hv
  rw[this] at hv'
  exact hv'
 | .idx l,x,hl,hv=>by
  obtain⟨-,-,h3⟩:=hK.bo (Nat.le_of_ble_eq_true hl)
  have hv':x=.int .i32 ((e' l).ix:Int):=hv
  rw[h3] at hv'
  exact hv'
 | .sv l j,x,hl,hv=>by
  have:=hK.low l (by simpa [AV.ktOk,Nat.blt_eq] using hl)
  have hv':x=(e' l).sv j:=hv
  rw[this] at hv'
  exact hv'
 | .val _,_,hl,_=>by cases hl
 | .tagv,_,hl,_=>by cases hl
 | .okb _,_,hl,_=>by cases hl
 | .gt0,_,hl,_=>by cases hl
 | .eq0,_,hl,_=>by cases hl
 | .base _ _,_,hl,_=>by cases hl
 | .made,_,hl,_=>by cases hl
 | .box _,_,hl,_=>by cases hl
 | .res,_,hl,_=>by cases hl
def aKu (cur:Nat):List (Nat × AV)→Bool
 | []=>true
 | p::r=>p.2.ktOk cur&&aKu cur r
theorem aPL:∀ {sl:List (Nat × AV)},aKu cur (aGd (AV.ktV cur) sl)=true
 | []=>rfl
 | p::r=>by simp only[aGd,aKu,Bool.and_eq_true];exact⟨aZ8 p.2,aPL⟩
theorem aLI:∀ {seen:List Nat} {sl:List (Nat × AV)},aKu cur sl=true→aKu cur (uniq seen sl)=true
 | _,[],_=>rfl
 | seen,p::r,h=>by
  simp only[aKu,Bool.and_eq_true] at h
  unfold uniq
  split
  ·exact aLI h.2
  ·simp only[aKu,Bool.and_eq_true]
   exact⟨h.1,aLI h.2⟩
theorem SR.inn (hK:KtSame cur e e')(hsv:(e' cur).sv 1=.pointer (some ⟨E.rb,0,none⟩)):∀ {sl:List (Nat × AV)} {l:List (Nat × Value)},aKu cur sl=true→SR E w Y e sl l→SR E' w' Y' e' (aGd (AV.noRdr cur) sl) l
 | [],[],_,_=>trivial
 | [],_::_,_,h=>by simp[SR] at h
 | _::_,[],_,h=>by simp[SR] at h
 | p::r,q::s,hk,h=>by
  simp only[aKu,Bool.and_eq_true] at hk
  simp only[SR,aGd] at h ⊢
  exact⟨h.1,VR.inn hK hsv hk.1 h.2.1,SR.inn hK hsv hk.2 h.2.2⟩
theorem SR.out (hK:KtSame cur e e')(hsv:(e' cur).sv 1=.pointer (some ⟨E.rb,0,none⟩)):∀ {sl:List (Nat × AV)} {l:List (Nat × Value)},aKu cur sl=true→SR E' w' Y' e' (aGd (AV.noRdr cur) sl) l→SR E w Y e sl l
 | [],[],_,_=>trivial
 | [],_::_,_,h=>by simp[SR,aGd] at h
 | _::_,[],_,h=>by simp[SR,aGd] at h
 | p::r,q::s,hk,h=>by
  simp only[aKu,Bool.and_eq_true] at hk
  simp only[SR,aGd] at h ⊢
  exact⟨h.1,VR.out hK hsv hk.1 h.2.1,SR.out hK hsv hk.2 h.2.2⟩
end
theorem aU4 {w:World}{Y:Nat→Prop}{fs:List Fld}{tg:Bool}{g:G}{i:Nat}(hq:g.q i=aCk (List.replicate 16 0)):∀ (k:Nat),k≤16→ACs w Y fs tg g (gus i k) (List.replicate k (.int .u8 0))
 | 0,_=>trivial
 | k+1,hk=>by
  refine⟨?_,aU4 hq k (by omega)⟩
  show (bv (sixteen (g.q i).s))[15 - k]? = some (.int .u8 0)
  rw[hq]
  have h:bv (sixteen (aCk (List.replicate 16 0)).s)=List.replicate 16 (.int .u8 0):=by rfl
  rw[h,List.getElem?_replicate,if_pos (by omega)]
theorem ACs.ktDef {w:World}{Y:Nat→Prop}{fs:List Fld}{tg:Bool}{g:G}{i:Nat}{A B:List AC}{f:Fld}(hf:fs.getD i aAm=f)(hd:aPa f=true)(hq:g.q i=dfF f){cs:List Value}(h:ACs w Y fs tg g (A++(aOx f).map AC.k++B) cs):ACs w Y fs tg g (A++aNd f i++B) cs:=by
 obtain⟨c12,c3,rfl,h12,h3⟩:=ACs.app h
 obtain⟨c1,c2,rfl,h1,h2⟩:=ACs.app h12
 rw[ACs.consts h2]
 refine (h1.appI0 ?_).appI0 h3
 have hrep:=aOK (w:=w) (Y:=Y) (tg:=tg) hd
 unfold aNd
 cases f with
 | mk kind fr to nu tag df of sub =>
  have one:∀ x:Value,aOx (.mk kind fr to nu tag df of sub)=[x]→ACs w Y fs tg g [.got i] (aOx (.mk kind fr to nu tag df of sub)):=fun x hx=>by
   rw[hx] at hrep ⊢
   refine⟨?_,trivial⟩
   show Rep w Y (ddF (fs.getD i aAm) tg (g.q i)) [x]
   rw[hf,hq]
   exact hrep
  match kind,hd with
  | 0,_=>exact one _ rfl
  | 1,_=>exact one _ rfl
  | 2,_=>exact one _ rfl
  | 3,_=>exact one _ rfl
  | 4,_=>exact one _ rfl
  | 5,_=>exact one _ rfl
  | 6,hd=>simp[aPa,Fld.kind] at hd
  | 7,_ =>
   refine aU4 ?_ 16 (Nat.le_refl _)
   rw[hq]
   unfold dfF
   exact if_pos rfl
  | 8,_ =>
   by_cases h0 : 0≤nu
   ·exact one (.pointer none) (by simp[aOx,Fld.kind,Fld.nu,h0])
   ·exact one (.string (bs [])) (by simp[aOx,Fld.kind,Fld.nu,h0])
  | 9,_=>exact one _ rfl
  | 10,_=>exact one _ rfl
  | 11,_=>exact one _ rfl
  | k+12,hd=>simp[aPa,Fld.kind] at hd
def Yk (Y:Nat→Prop)(p:Option Nat):Nat→Prop:=fun k=>Y k∨p=some k
structure KtAt (E:En) (e0:Nat→Lv) (w0:World) (Y:Nat→Prop) (S:LS) (cells:List AC) (w:World) (g:G) (u:List (Nat × List UInt8)) (sk:RS) (p:Option Nat) (vs cs:List Value):Prop where
 agr:Agr (fun k=>k=E.rb∨k=(e0 E.cur).b) w0 w
 rdr:aBx w (Yk Y p) E.rb E.cx.er sk
 blk:w.heap[(e0 E.cur).b]? = some (.cells ((e0 E.cur).pre++(cs++[Value.map p])++(e0 E.cur).post).toArray (e0 E.cur).ty (0,0))
 cel:ACs w (Yk Y p) S.fs S.tg g cells cs
 mp:aM2 w p (u.map Prod.fst) vs
 rep:aCh w (Yk Y p) (u.map fun q=>aDJ q.2) vs
 own:∀ r,p=some r→w0.heap.size≤r∧r<w.heap.size
section
variable {E:En}{e0:Nat→Lv}{w0 w w':World}{Y:Nat→Prop}{S:LS}{cells:List AC}{g:G}{u:List (Nat × List UInt8)}{sk sk':RS}{p:Option Nat}{vs cs:List Value}
theorem KtAt.ylt (h:KtAt E e0 w0 Y S cells w g u sk p vs cs)(B:Base E e0 w0 Y){k:Nat}(hk:Yk Y p k):k<w.heap.size:=by
 have:=h.agr.size
 rcases hk with hk|hk
 ·have:=B.old k hk;omega
 ·exact (h.own k hk).2
theorem KtAt.read (h:KtAt E e0 w0 Y S cells w g u sk p vs cs)(B:Base E e0 w0 Y)(ag:Agr (fun k=>k=E.rb) w w')(hr:aBx w' (fun k=>k<w.heap.size∧Yk Y p k) E.rb E.cx.er sk'):KtAt E e0 w0 Y S cells w' g u sk' p vs cs:=by
 have hsz:=ag.size
 have hsz0:=h.agr.size
 have hmv:∀ i,i<w.heap.size→¬ Yk Y p i→w'.heap[i]? = w.heap[i]? ∧ ¬ Yk Y p i:=fun i hi hn=>⟨ag.block i hi (fun e=>hn (.inl (by rw[e];exact B.yr))),hn⟩
 refine⟨h.agr.trans ag (fun _ _ x=>x) (fun _ _ x=>.inl x),?_,?_,h.cel.move hmv,?_,aCh.move hmv _ _ h.rep,fun r hr=>?_⟩
 ·obtain⟨v,h1,h2⟩:=hr
  exact⟨v,h1,Rep.move (fun i _ hn=>⟨rfl,fun hy=>hn ⟨h.ylt B hy,hy⟩⟩) _ _ h2⟩
 ·rw[ag.block _ (Array.getElem?_eq_some_iff.1 h.blk).1 (Ne.symm B.ne)]
  exact h.blk
 ·exact h.mp.move fun r hr=>by
   have h1:=h.own r hr
   have h2:=B.old _ B.yr
   exact ag.block r h1.2 (by omega)
 ·have:=h.own r hr
  omega
theorem KtAt.set (h:KtAt E e0 w0 Y S cells w g u sk p vs cs)(B:Base E e0 w0 Y){k r:Nat}{b:List UInt8}{x:Value}(hx:Rep w (Yk Y p) (aDJ b) [x])(ag:Agr (fun j=>j=(e0 E.cur).b∨p=some j) w w')
  (hb:w'.heap[(e0 E.cur).b]? = some (.cells (spl ((e0 E.cur).pre++(cs++[Value.map p])++(e0 E.cur).post) ((e0 E.cur).pre.length+cs.length) [Value.map (some r)]).toArray (e0 E.cur).ty (0,0)))
  (hM:aGE w' r (aPl (u.map Prod.fst) vs k x).1 (aPl (u.map Prod.fst) vs k x).2) (hr:p=some r∨(p=none∧w.heap.size≤r)) :
  ∃ vs',KtAt E e0 w0 Y S cells w' g (aRV k b u) sk (some r) vs' cs:=by
 have hsz:=h.agr.size
 have hsz2:=ag.size
 have hbl:=B.old _ B.yb
 have hmv:∀ i,i<w.heap.size→¬ Yk Y p i→w'.heap[i]? = w.heap[i]? ∧ ¬ Yk Y (some r) i:=fun i hi hn=>⟨ag.block i hi (fun hx=>hn (hx.elim (fun e=>.inl (by rw[e];exact B.yb)) fun e=>.inr e)),fun hy=>by
  rcases hy with hy|hy
  ·exact hn (.inl hy)
  ·rcases hr with hr|hr
   ·exact hn (.inr (by rw[hr];exact hy))
   ·have:r=i:=by simpa using hy
    omega⟩
 obtain⟨s1,s2⟩:=aMX (k:=k) hx h.rep
 refine⟨(aPl (u.map Prod.fst) vs k x).2,h.agr.trans ag (fun _ _ x=>x) (fun i hi hx=>?_),?_,?_,h.cel.move hmv,?_,aCh.move hmv _ _ s2,fun r' hr'=>?_⟩
 ·rcases hx with hx|hx
  ·exact .inr hx
  ·have:=(h.own i hx).1
   omega
 ·obtain⟨v,h1,h4⟩:=h.rdr
  have hrl:=(Array.getElem?_eq_some_iff.1 h1).1
  refine⟨v,?_,Rep.move hmv _ _ h4⟩
  rw[ag.block _ hrl (fun hx=>by
   rcases hx with hx|hx
   ·exact B.ne hx
   ·have h5:=(h.own _ hx).1
    have h6:=B.old _ B.yr
    omega)]
  exact h1
 ·rw[hb]
  congr 2
  have hl:(e0 E.cur).pre.length+cs.length=((e0 E.cur).pre++cs).length:=by simp
  rw[hl,show (e0 E.cur).pre++(cs++[Value.map p])++(e0 E.cur).post=((e0 E.cur).pre++cs)++([Value.map p]++(e0 E.cur).post) by simp]
  rw[aFO (by simp only[List.length_append,List.length_cons,List.length_nil];omega),List.take_left,show [Value.map (some r)].length=1 from rfl,← List.drop_drop,List.drop_left]
  simp
 ·rw[← s1];exact hM
 ·obtain rfl:r=r':=by simpa using hr'
  have hlt:=hM.lt
  rcases hr with hr|hr
  ·have:=h.own r hr
   omega
  ·omega
end
end Go.Mk.Er
namespace Go.Mk.Er
open Go Go.Mk
theorem aYW {Y:Nat→Prop}{σ : St}{sl:List (Nat × AV)}{e:Lv}(h : σ.pd=none):Yl Y { σ with sl:=sl } e=Y:=aBJ h
theorem aGo {p:Nat × Nat}{r:List (Nat × Nat)}(h:beqs (p::r)=true):p.1=p.2∧beqs r=true:=by
 simp only[beqs,Bool.and_eq_true] at h
 exact⟨Nat.eq_of_beq_eq_true h.1,h.2⟩
theorem aK0 {o:Option RK}(h:RK.isUv o=true):o=some .uv:=by
 unfold RK.isUv at h
 split at h
 ·rfl
 ·cases h
theorem aMF {o:Option RK}(h:RK.isSpan o=true):o=some .span:=by
 unfold RK.isSpan at h
 split at h
 ·rfl
 ·cases h
theorem aS1 {o:Option RK}(h:RK.isSet o=true):o=some .setTag:=by
 unfold RK.isSet at h
 split at h
 ·rfl
 ·cases h
theorem aQs {o:Option RK}(h:RK.isDone o=true):o=some .done:=by
 unfold RK.isDone at h
 split at h
 ·rfl
 ·cases h
theorem aF0 {o:Option AV}(h:AV.isRdr o=true):o=some .rdr:=by
 unfold AV.isRdr at h
 split at h
 ·rfl
 ·cases h
section
variable {E:En}{w w':World}{Y Y':Nat→Prop}{e e':Nat→Lv}{cur:Nat}
def aQD (e e':Nat→Lv):Prop:=∀ l,(e' l).b=(e l).b∧(e' l).off=(e l).off∧(e' l).ix=(e l).ix∧(e' l).cnt=(e l).cnt∧(e' l).lb=(e l).lb∧(e' l).sv=(e l).sv
theorem aQD.refl (e:Nat→Lv):aQD e e:=fun _=>⟨rfl,rfl,rfl,rfl,rfl,rfl⟩
theorem VR.anyW (hb:aQD e e'):∀ {v:AV} {x:Value},v.ktOk cur=true→VR E w Y e v x→VR E w' Y' e' v x
 | .junk,_,_,_=>trivial
 | .k _,_,_,hv=>hv
 | .rdr,_,_,hv=>hv
 | .ptr l o,x,_,hv=>by
  obtain⟨h1,h2,-⟩:=hb l
  show x=_
  rw[h1,h2];exact hv
 | .cnt l,x,_,hv=>by
  obtain⟨-,-,-,h4,-⟩:=hb l
  show x=_
  rw[h4];exact hv
 | .arr l m,x,_,hv=>by
  obtain⟨-,-,-,h4,h5,-⟩:=hb l
  have hv':(0<(e l).cnt→aOo (e l) x)∧((e l).cnt≤0→aGe (e l).cnt m x):=hv
  show (0<(e' l).cnt→aOo (e' l) x)∧((e' l).cnt≤0→aGe (e' l).cnt m x)
  unfold aOo at hv' ⊢
  rw[h4,h5];exact hv'
 | .idx l,x,_,hv=>by
  obtain⟨-,-,h3,-⟩:=hb l
  show x=_
  rw[h3];exact hv
 | .sv l j,x,_,hv=>by
  obtain⟨-,-,-,-,-,h6⟩:=hb l
  show x=_
  rw[h6];exact hv
 | .val _,_,hl,_=>by cases hl
 | .tagv,_,hl,_=>by cases hl
 | .okb _,_,hl,_=>by cases hl
 | .gt0,_,hl,_=>by cases hl
 | .eq0,_,hl,_=>by cases hl
 | .base _ _,_,hl,_=>by cases hl
 | .made,_,hl,_=>by cases hl
 | .box _,_,hl,_=>by cases hl
 | .res,_,hl,_=>by cases hl
theorem SR.anyW (hb:aQD e e'):∀ {sl:List (Nat × AV)} {l:List (Nat × Value)},aKu cur sl=true→SR E w Y e sl l→SR E w' Y' e' sl l
 | [],[],_,_=>trivial
 | [],_::_,_,h=>by simp[SR] at h
 | _::_,[],_,h=>by simp[SR] at h
 | p::r,q::s,hk,h=>by
  simp only[aKu,Bool.and_eq_true] at hk
  simp only[SR] at h ⊢
  exact⟨h.1,VR.anyW hb hk.1 h.2.1,SR.anyW hb hk.2 h.2.2⟩
theorem SR.keys:∀ {sl:List (Nat × AV)} {l:List (Nat × Value)},SR E w Y e sl l→l.map Prod.fst=sl.map Prod.fst
 | [],[],_=>rfl
 | [],_::_,h=>by simp[SR] at h
 | _::_,[],h=>by simp[SR] at h
 | p::r,q::s,h=>by
  simp only[SR] at h
  simp[h.1,SR.keys h.2.2]
theorem aSO {own:List Nat}{L L':List (Nat × Value)}(h:L.map Prod.fst=L'.map Prod.fst)(hc:aFn own L):aFn own L':=fun p hp=>by
 have:p.1 ∈ L.map Prod.fst:=by rw[h];exact List.mem_map_of_mem hp
 obtain⟨q,hq,he⟩:=List.mem_map.1 this
 rw[← he];exact hc q hq
theorem aZa (g:G)(i:Nat)(a b:T):(g.set i a).set i b=g.set i b:=by
 unfold G.set
 congr 1
 funext j
 by_cases h:j=i
 ·simp[h]
 ·simp[h]
end
section
variable {E:En}{e0:Nat→Lv}{w0 w w':World}{Y:Nat→Prop}{S:LS}{cells:List AC}{g:G}{u:List (Nat × List UInt8)}{sk:RS}{p:Option Nat}{vs cs:List Value}
theorem KtAt.pure (h:KtAt E e0 w0 Y S cells w g u sk p vs cs)(B:Base E e0 w0 Y)(ag:Agr Nob w w'):KtAt E e0 w0 Y S cells w' g u sk p vs cs:=by
 have hr:=h.rdr
 refine h.read B (ag.mono fun _ _ x=>x.elim) ?_
 obtain⟨v,h1,h2⟩:=hr
 refine⟨v,?_,Rep.move (fun i hi hn=>⟨ag.block i hi id,fun hy=>hn hy.2⟩) _ _ h2⟩
 rw[ag.block _ (Array.getElem?_eq_some_iff.1 h1).1 id]
 exact h1
end
theorem aYl {g:Nat}(ih:bBA g)(ihk:bAg g):bAg (g+1):=by
 intro E e0 w0 Y items g0 s0 S keep c σ σ' Q a w h B hT hS hI hF hbad K
 unfold xk at h
 split at h
 ·rename_i own hke
  split at h
  ·rename_i t0 tp
   obtain rfl:=Option.some.inj h
   unfold bCj at hke
   split at hke
   ·rename_i id1 o1 id2 o2 y cT
    split at hke
    ·rename_i t f xs _ _ _ _ er t' _ _ _ m er' _ _ _ ne ty m' _ _ _ _ ho1 ho2
     split at hke
     ·rename_i q hxs
      split at hke
      ·rename_i hb
       obtain rfl:=Option.some.inj hke
       simp only[Bool.and_eq_true] at hb
       obtain⟨⟨⟨⟨⟨hb1,hb2⟩,hb3⟩,hb4⟩,hb5⟩,hb6⟩:=hb
       obtain⟨e1,hb1⟩:=aGo hb1
       obtain⟨e2,hb1⟩:=aGo hb1
       obtain⟨e3,hb1⟩:=aGo hb1
       obtain⟨e4,-⟩:=aGo hb1
       simp only at e1 e2 e3 e4
       subst e1 e2 e3 e4
       have hop1:=aEx ho1
       have hop2:=aEx ho2
       have hop3:=aEx hxs
       subst hop1 hop2 hop3
       obtain⟨e,l,s,cs,S2,hI⟩:=hI
       have hS2:=hI.ls
       rw[hS] at hS2
       obtain rfl:=Option.some.inj hS2
       have hY:=aBJ (Y:=Y) (e:=e E.cur) tp
       have hsr:=hI.sr
       have hrdr:=hI.rdr
       rw[hY] at hsr hrdr
       obtain⟨L1,g1,g2,-⟩:=aGS (f:=kept E.cx.m keep) hsr
       obtain⟨uq,huq,rfl⟩:=g1.ev (aF0 hb3)
       have huq':Mk.ev l q=some (.pointer (some ⟨E.rb,0,none⟩)):=by
        cases q with
        | tmp t=>exact (g2 t _ huq).1
        | const u=>exact huq
        | global u=>exact huq
        | func u=>exact huq
       have hk1:Kn E.cx.n l a:=hI.kn
       have hYn:∀ (σ : St) (lv:Lv),σ.pd=none→Yl Y σ lv=Y:=fun _ _ h=>aBJ h
       obtain⟨L2,p1,p2,p3⟩:=aGS (f:=fun s=>kept E.cx.m keep s&&![t,er,m,ne].any (Nat.beq s)) hsr
       have hlt:∀ x ∈ [t,er,m,ne],Nat.blt x E.cx.n=true:=fun x hx=>List.all_eq_true.1 hb5 x hx
       obtain⟨hcD,hcalD⟩:=B.cfg _ _ (aEb (aQs hb2))
       have hsp:=hI.none_ tp
       unfold spec at hsp
       rw[t0] at hsp
       have hsb:s.bad=false:=hbad _ _ hsp
       refine cR0 ?_
       refine aAk hk1 hcalD (hcD hrdr (B.glob hI.agr)) (show Mk.evs l [q] [_] from ⟨huq',trivial⟩) (hlt t (by simp)) fun v1 w1 a1 hv1 hk=>?_
       obtain⟨rfl,hv1,-⟩:=hv1
       obtain rfl:=(hv1 hsb).trans (aUh hb6)
       refine oA0 hk lkS (hlt er (by simp)) fun a2 hk=>?_
       refine cE0 ?_
       refine cR0 ?_
       refine oM0 hk lkS (hlt m (by simp)) fun a3 hk=>?_
       refine aIo hk hb4 lkS (hlt ne (by simp)) fun a4 hk=>?_
       refine cE0 ?_
       refine aB9 hk lkS ?_
       refine wp_skip (K _ _ ⟨e,L2,s,cs,S,?_⟩)
       have hk2:Kn E.cx.n L2 a4:=hk.weakenL fun s v hv=>by
        obtain⟨h1,h2⟩:=p2 s v hv
        simp only[Bool.and_eq_true,Bool.not_eq_true',List.any_cons,List.any_nil,Bool.or_false,Bool.or_eq_false_iff] at h2
        have hne:∀ {x:Nat},Nat.beq s x=false→s≠x:=fun hx hq=>by rw[hq] at hx;simp at hx
        rw[lkN (hne h2.2.2.2.2),lkN (hne h2.2.2.2.1),lkN (hne h2.2.2.1),lkN (hne h2.2.1)]
        exact h1
       have hcel:=hI.cel
       rw[hY] at hcel
       exact⟨hI.ls,hI.same,hk2,(by rw[aYW tp];exact p1),hI.agr,(by rw[aYW tp];exact hrdr),hI.blk,(by rw[aYW tp];exact hcel),hI.none_,(fun p hp=>by rw[show σ.pd=some p from hp] at tp;cases tp),hI.fr⟩
      ·cases hke
     ·cases hke
    ·cases hke
   ·cases hke
  ·cases h
 ·split at h
  ·rename_i ca cb
   split at h
   ·rename_i σ1 h1
    exact wp_seq (ih h1 B hT hS hI ⟨hF.1,fun hn a' w' l x hk hx he ha=>cQ0 (hF.2 hn a' w' l x hk hx he ha)⟩ fun a' w' hI'=>ihk h B hT hS hI' hF hbad K)
   ·cases h
  ·cases h
end Go.Mk.Er
namespace Go.Mk.Er
open Go Go.Mk
theorem o_allocW {P:Program}{ops:Array Oper}{Q:Exit→Act→World→Prop}{rest:List Oper}{a:Act}{w:World}{n:Nat}{l:List (Nat × Value)}{d:Nat}{ty:Nat}{ps:String}{af:Array Edge}{e:Nat}{z:Value}{cs:List Value}
  (hk:Kn n l a) (hz:aBB P e=some z) (hcs:cellsOf z=cs) (hd:Nat.blt d n=true)
  (K:∀ a' w',Agr Nob w w'→w.heap.size<w'.heap.size→w'.heap[w.heap.size]? = some (.cells cs.toArray e (0,0))→Kn n ((d,.pointer (some ⟨w.heap.size,0,none⟩))::l) a'→wpList P ops Q rest a' w') :
  wpList P ops Q (⟨some d,.alloc e,ty,ps,af,none⟩::rest) a w:=by
 subst hcs
 refine aAD (v:=.pointer (some ⟨w.heap.size,0,none⟩)) (w':=w.alloc (.cells z.cells e)) hk rfl rfl hd ?_ fun a' hk'=>K a' _ (Agr.alloc _ _ _) (by simp) (by rw[← aBv];exact heap_alloc_new w _) hk'
 unfold aDp execOp
 simp[Instr.alloc,newVar,newRow,aCr hz]
def Yt (w0:World)(Y:Nat→Prop)(b2 b3:Nat)(p:Option Nat):Nat→Prop:=fun k=>(k<w0.heap.size∧Y k)∨k=b2∨k=b3∨p=some k
theorem aXj:∀ (k:Nat) (l:List UInt8) {n:Nat} {r:List UInt8},uvG k l=some (n,r)→n<16*128 ^ k∧r.length<l.length
 | _,[],n,r,h=>by simp[uvG] at h
 | 0,b::l,n,r,h=>by
  simp only[uvG] at h
  split at h
  ·simp only[Option.some.injEq,Prod.mk.injEq] at h
   obtain⟨rfl,rfl⟩:=h
   simp;omega
  ·cases h
 | k+1,b::l,n,r,h=>by
  simp only[uvG] at h
  split at h
  ·rename_i hb
   simp only[Option.some.injEq,Prod.mk.injEq] at h
   obtain⟨rfl,rfl⟩:=h
   have : 1≤128 ^ k:=Nat.one_le_pow _ _ (by decide)
   rw[Nat.pow_succ]
   simp;omega
  ·cases hq:uvG k l with
   | none=>rw[hq] at h;simp at h
   | some p =>
    obtain⟨n',r'⟩:=p
    rw[hq] at h
    simp only[Option.map_some,Option.some.injEq,Prod.mk.injEq] at h
    obtain⟨rfl,rfl⟩:=h
    obtain⟨h1,h2⟩:=aXj k l hq
    have hb:=b.toNat_lt
    rw[Nat.pow_succ]
    simp;omega
theorem uv_lt (s:RS):(RS.uv s).1<4294967296:=by
 unfold RS.uv
 cases h:uvG 4 s.l with
 | none=>simp
 | some p =>
  obtain⟨n,r⟩:=p
  have:=(aXj 4 s.l h).1
  simp;omega
theorem uv_i64 (s:RS):IntKind.i64.wrap ((RS.uv s).1:Int)=((RS.uv s).1:Int):=by
 have:=uv_lt s
 simp only[IntKind.wrap,IntKind.bits,IntKind.signed];simp;omega
theorem uv_i64' (s:RS):IntKind.i64.wrap (((RS.uv s).1:Int) - 1)=((RS.uv s).1:Int) - 1:=by
 have:=uv_lt s
 simp only[IntKind.wrap,IntKind.bits,IntKind.signed];simp;omega
section
variable {E:En}{e0:Nat→Lv}{w0 w:World}{Y:Nat→Prop}{S:LS}{cells:List AC}{g:G}{u:List (Nat × List UInt8)}{sk:RS}{p:Option Nat}{vs cs:List Value}{Q:Exit→Act→World→Prop}{a:Act}{l:List (Nat × Value)}
theorem KtAt.wide {d:DD}{c:List Value}{w':World}(h:KtAt E e0 w0 Y S cells w g u sk p vs cs)(B:Base E e0 w0 Y)(hr:Rep w' (fun k=>k<w.heap.size∧Yk Y p k) d c):Rep w' (Yk Y p) d c :=
 Rep.move (fun _ _ hn=>⟨rfl,fun hy=>hn ⟨h.ylt B hy,hy⟩⟩) _ _ hr
theorem aZU {ops:List Oper}{id d1 d2 d3 d4 d5 d6 d7 d8 ky st kf f5 f7 f8 v3 v4 o q key:Nat}{so q5 q7:Operand}{h5 h7 h8:Array Nat}{ty1 ty2 ty3 ty4 ty5 ty6 ty7 ty8:Nat}{ps1 ps2 ps3 ps4 ps5 ps6 ps7 ps8:String}{af1 af2 af3 af4 af5 af6 af7 af8:Array Edge}
  (B:Base E e0 w0 Y) (h:KtAt E e0 w0 Y S cells w g u sk p vs cs)
  (ho:ops=[⟨some d1,.move so,ty1,ps1,af1,none⟩,⟨some d2,.nilCheck (.tmp d1),ty2,ps2,af2,none⟩,⟨some d3,.fieldAddr st (.tmp d2) kf,ty3,ps3,af3,none⟩,⟨some d4,.move (.tmp ky),ty4,ps4,af4,none⟩,⟨some d5,.call ⟨.value (.func f5),[q5].toArray,h5⟩,ty5,ps5,af5,none⟩,⟨some d6,.convert v3 v4 (.tmp d5),ty6,ps6,af6,none⟩,⟨some d7,.call ⟨.value (.func f7),[q7,.tmp d6].toArray,h7⟩,ty7,ps7,af7,none⟩,⟨some d8,.call ⟨.value (.func f8),[.tmp d3,.tmp d4,.tmp d7].toArray,h8⟩,ty8,ps8,af8,none⟩])
  (hm:E.cx.P.follows .mixedOrders=true) (ht:aRE ops 7 (Array.replicate 8 false) [0,1,2,3]=true) (ha:aO2 ops (((((Array.replicate 8 false).setIfInBounds 0 true).setIfInBounds 1 true).setIfInBounds 2 true).setIfInBounds 3 true) [4,5,6,7]=true)
  (hf5:aMi E.cx.cfg f5=some .uv) (hf7:aMi E.cx.cfg f7=some .span) (hf8:aMi E.cx.cfg f8=some .setTag) (hu:(E.cx.P.underlying v3).isSome=true) (hi:aH0 E.cx.P v4=some .i64) (hfo:aAC E.cx.P st kf=some q)
  (hnd:[d1,d2,d3,d4,d5,d6,d7,d8].Nodup) (hlt:∀ x ∈ [d1,d2,d3,d4,d5,d6,d7,d8],Nat.blt x E.cx.n=true) (hk:Kn E.cx.n l a) (hso:Mk.ev l so=some (.pointer (some ⟨(e0 E.cur).b,o,none⟩))) (hoq:o+q=(e0 E.cur).pre.length+cs.length)
  (hky:look l ky=some (.int .u32 (key:Int))) (hkn:ky ∉ [d1,d2,d3,d4,d5,d6,d7,d8])
  (hq5:∀ T:List (Nat × Value),(∀ x ∈ T,x.1 ∈ [d1,d2,d3,d4,d5,d6,d7,d8])→Mk.ev (T++l) q5=some (.pointer (some ⟨E.rb,0,none⟩))) (hq7:∀ T:List (Nat × Value),(∀ x ∈ T,x.1 ∈ [d1,d2,d3,d4,d5,d6,d7,d8])→Mk.ev (T++l) q7=some (.pointer (some ⟨E.rb,0,none⟩)))
  (K:∀ a' w' r vs' T,KtAt E e0 w0 Y S cells w' g (aRV key ((RS.span ((RS.uv sk).1:Int) (RS.uv sk).2).1.getD []) u) (RS.span ((RS.uv sk).1:Int) (RS.uv sk).2).2 (some r) vs' cs→(∀ x ∈ T,x.1 ∈ [d1,d2,d3,d4,d5,d6,d7,d8])→Kn E.cx.n (T++l) a'→Q .normal a' w') :
  (Code.region id ops.toArray true).wp E.cx.P Q a w:=by
 refine Code.wp_mono (Q:=fun e a w=>match e with|.normal=>Q .normal a w|_=>False) (fun e a w h=>by cases e<;>first|exact h|exact h.elim) ?_
 subst ho
 simp only[aRE,aO2,Bool.and_eq_true,decide_eq_true_eq] at ht ha
 obtain⟨t0,t1,t2,t3,-⟩:=ht
 obtain⟨r4,r5,r6,r7,r8⟩:=ha
 obtain⟨hc5,hcal5⟩:=B.cfg _ _ (aEb hf5)
 obtain⟨hc7,hcal7⟩:=B.cfg _ _ (aEb hf7)
 obtain⟨hc8,hcal8⟩:=B.cfg _ _ (aEb hf8)
 refine aLF (fun _=>True) 7 hm ?_
 have h:=h.pure B (Agr.drew Nob w)
 generalize w.drew=w at h
 refine aAh (i:=0) (f:=7) rfl rfl rfl t0 (fun _ _ _ x=>x) hk (hlt d1 (by simp)) (fun w _=>aA6 hk hso) trivial fun a hk=>?_
 refine aAh (i:=1) (f:=6) rfl rfl rfl t1 (fun _ _ _ x=>x) hk (hlt d2 (by simp)) (fun w _=>aFT hk lkS) trivial fun a hk=>?_
 refine aAh (i:=2) (f:=5) rfl rfl rfl t2 (fun _ _ _ x=>x) hk (hlt d3 (by simp)) (fun w _=>rF0 hk hfo lkS) trivial fun a hk=>?_
 have hkx:∀ x ∈ [d1,d2,d3,d4,d5,d6,d7,d8],ky≠x:=fun x hx e=>hkn (e ▸ hx)
 refine aAh (i:=3) (f:=4) rfl rfl rfl t3 (fun _ _ _ x=>x) hk (hlt d4 (by simp)) (fun w _=>aA6 hk (v:=.int .u32 (key:Int)) (by show look _ ky=_;rw[lkN (hkx d3 (by simp)),lkN (hkx d2 (by simp)),lkN (hkx d1 (by simp))];exact hky)) trivial fun a hk=>?_
 refine aAt (k:=4) r4 rfl rfl ?_
 refine aAk hk hcal5 (hc5 h.rdr (.inl B.yr)) (show Mk.evs _ [q5] [_] from ⟨hq5 [(d4,_),(d3,_),(d2,_),(d1,_)] (fun x hx=>by simp only[List.mem_cons,List.not_mem_nil,or_false] at hx;rcases hx with rfl|rfl|rfl|rfl<;>simp),trivial⟩) (hlt d5 (by simp)) fun v w1 a hv hk=>?_
 obtain⟨ag,rfl,hr⟩:=hv
 have h:=h.read B ag hr
 refine aAb (cT0 ⟨fun _=>trivial,?_⟩)
 refine aAt (k:=5) r5 rfl rfl ?_
 refine aAG hk hu hi lkS (c:=((RS.uv sk).1:Int)) (uv_i64 sk) (hlt d6 (by simp)) fun a hk=>?_
 refine aAb (cT0 ⟨fun _=>trivial,?_⟩)
 refine aAt (k:=6) r6 rfl rfl ?_
 refine aAk hk hcal7 (hc7 ((RS.uv sk).1:Int) h.rdr (.inl B.yr)) (show Mk.evs _ [q7,.tmp d6] [_,_] from ⟨hq7 [(d6,_),(d5,_),(d4,_),(d3,_),(d2,_),(d1,_)] (fun x hx=>by simp only[List.mem_cons,List.not_mem_nil,or_false] at hx;rcases hx with rfl|rfl|rfl|rfl|rfl|rfl<;>simp),lkS,trivial⟩) (hlt d7 (by simp)) fun v w2 a hv hk=>?_
 obtain⟨ag,hx,hr⟩:=hv
 have hx:=h.wide B (aHi hx)
 have h:=h.read B ag hr
 refine aAb (cT0 ⟨fun _=>trivial,?_⟩)
 refine aAt (k:=7) r7 rfl rfl ?_
 have hcl:((e0 E.cur).pre++(cs++[Value.map p])++(e0 E.cur).post)[(e0 E.cur).pre.length+cs.length]? = some (.map p):=by
  rw[List.append_assoc,List.getElem?_append_right (by omega),Nat.add_sub_cancel_left,List.append_assoc,List.getElem?_append_right (by omega),Nat.sub_self]
  rfl
 have hdd:∀ x y:Nat,[d1,d2,d3,d4,d5,d6,d7,d8].Nodup→True:=fun _ _ _=>trivial
 refine aAk hk hcal8 (hc8 h.blk hcl h.mp (key:=key) (x:=v)) (show Mk.evs _ [.tmp d3,.tmp d4,.tmp d7] [_,_,_] from ⟨?_,?_,lkS,trivial⟩) (hlt d8 (by simp)) fun v w3 a hv hk=>?_
 ·show look _ d3=_
  rw[lkN (fun h=>by subst h;simp at hnd),lkN (fun h=>by subst h;simp at hnd),lkN (fun h=>by subst h;simp at hnd),lkN (fun h=>by subst h;simp at hnd),← hoq]
  exact lkS
 ·show look _ d4=_
  rw[lkN (fun h=>by subst h;simp at hnd),lkN (fun h=>by subst h;simp at hnd),lkN (fun h=>by subst h;simp at hnd)]
  exact lkS
 obtain⟨ag,r,hb,hM,hp⟩:=hv
 obtain⟨vs',h⟩:=h.set B hx ag hb hM hp
 refine aAb (cT0 ⟨fun _=>trivial,?_⟩)
 refine aBh r8 ?_ _
 exact K _ _ _ _ [(d8,_),(d7,_),(d6,_),(d5,_),(d4,_),(d3,_),(d2,_),(d1,_)] h (fun x hx=>by simp only[List.mem_cons,List.not_mem_nil,or_false] at hx;rcases hx with rfl|rfl|rfl|rfl|rfl|rfl|rfl|rfl<;>simp) hk
theorem aKL {T M:List (Nat × Value)}{s:Nat}(h:∀ x ∈ T,x.1≠s):look (T++M) s=look M s:=by
 induction T with
 | nil=>rfl
 | cons x T ih =>
  rw[List.cons_append,show x::(T++M)=(x.1,x.2)::(T++M) from rfl,lkN (fun e=>h x List.mem_cons_self e.symm)]
  exact ih fun y hy=>h y (List.mem_cons_of_mem _ hy)
theorem aWt {gg:Nat}(ihk:bAg gg){e:Nat→Lv}{hd:List (Nat × AV)}{L T0:List (Nat × Value)}{cv:Value}{keep tm:List Nat}{body:Code}{τ : St}{i:Nat}{t:T}{s':RS}{ops:List Oper}{id c1 c2 c3 c4 rd ct f2 f3 v1 v2 rty aty sty:Nat}{q2 q3:Operand}{h2 h3:Array Nat}{ty1 ty2 ty3 ty4 ty5 ty6:Nat}{ps1 ps2 ps3 ps4 ps5 ps6:String}{af1 af2 af3 af4 af5 af6:Array Edge}
  (B:Base E e0 w0 Y) (hT:aEU E e0) (hS:E.ls[E.cur]? = some S) (hsame:aMI E.cur e0 e) (h:KtAt E e0 w0 Y S cells w g u sk p vs cs)
  (ho:ops=[⟨some c1,.call ⟨.value (.func f2),[q2].toArray,h2⟩,ty1,ps1,af1,none⟩,⟨some c2,.convert v1 v2 (.tmp c1),ty2,ps2,af2,none⟩,⟨some c3,.call ⟨.value (.func f3),[q3,.tmp c2].toArray,h3⟩,ty3,ps3,af3,none⟩,⟨some c4,.build rty [(0,.tmp c3)].toArray,ty4,ps4,af4,none⟩,⟨some rd,.alloc aty,ty5,ps5,af5,none⟩,⟨none,.store sty (.tmp rd) (.tmp c4),ty6,ps6,af6,none⟩])
  (hf2:aMi E.cx.cfg f2=some .uv) (hf3:aMi E.cx.cfg f3=some .span) (hu:(E.cx.P.underlying v1).isSome=true) (hi:aH0 E.cx.P v2=some .i64) (hr1:rty=E.cx.er) (hr2:aty=E.cx.er) (hr3:aCm E.cx.P sty=some (true,2)) (hr4:aX7 E.cx.P E.cx.er=true)
  (htm:∀ x ∈ [c1,c2,c3,c4,rd,ct],x ∈ tm) (hnd:[ct,c1,c2,c3,c4,rd].Nodup) (hlt:∀ x ∈ [c1,c2,c3,c4,rd],Nat.blt x E.cx.n=true) (hclr:aFn tm L) (hT0:∀ x ∈ T0,x.1 ∈ tm∧x.1≠ct)
  (hk:Kn E.cx.n (T0++(ct,cv)::L) a) (hq2:aev hd q2=some .rdr) (hq3:aev hd q3=some .rdr) (hsL:SR E w Y e hd L) (hall:aKu E.cur hd=true)
  (hxk:xk E.cx gg E.ls E.cur keep body ⟨(ct,.sv E.cur 0)::(rd,.rdr)::aGd (AV.noRdr E.cur) hd,cells,[.fld i],none,false⟩=some τ) (t0 : τ.todo=[]) (tp : τ.pd=none) (hlf:left τ.sl ((ct,.sv E.cur 0)::(rd,.rdr)::aGd (AV.noRdr E.cur) hd)=true)
  (hrk:rdF (S.fs.getD i aAm) E.cx.V E.cx.flex ⟨(RS.span ((RS.uv sk).1:Int) (RS.uv sk).2).1,false⟩=some (t,s')) (hsb:s'.bad=false)
  (K:∀ a' w' L' cs',KtAt E e0 w0 Y S τ.cells w' (g.set i t) u (RS.span ((RS.uv sk).1:Int) (RS.uv sk).2).2 p vs cs'→SR E w' Y e hd L'→aFn tm L'→Kn E.cx.n ((ct,cv)::L') a'→Q .normal a' w') :
  (Code.seq (.region id ops.toArray false) body).wp E.cx.P Q a w:=by
 subst ho hr1 hr2
 obtain⟨hc2,hcal2⟩:=B.cfg _ _ (aEb hf2)
 obtain⟨hc3,hcal3⟩:=B.cfg _ _ (aEb hf3)
 obtain⟨uq2,huq2,rfl⟩:=hsL.ev hq2
 obtain⟨uq3,huq3,rfl⟩:=hsL.ev hq3
 have hclc:∀ {T1:List (Nat × Value)} {x:Operand} {v:Value},(∀ y ∈ T1,y.1 ∈ tm)→Mk.ev L x=some v→Mk.ev (T1++(T0++(ct,cv)::L)) x=some v:=fun {T1 x v} h1 h2=>by
  have:T1++(T0++(ct,cv)::L)=(T1++(T0++[(ct,cv)]))++L:=by simp
  rw[this]
  refine aTV hclr (fun y hy=>?_) h2
  rcases List.mem_append.1 hy with hy|hy
  ·exact h1 y hy
  ·rcases List.mem_append.1 hy with hy|hy
   ·exact (hT0 y hy).1
   ·obtain rfl:=List.mem_singleton.1 hy
    exact htm ct (by simp)
 have htm':∀ x ∈ [c1,c2,c3,c4,rd],x ∈ tm:=fun x hx=>htm x (by simp only[List.mem_cons,List.not_mem_nil,or_false] at hx ⊢;rcases hx with h|h|h|h|h<;>simp[h])
 -- its octets
 refine cR0 ?_
 refine aAk hk hcal2 (hc2 h.rdr (.inl B.yr)) (show Mk.evs _ [q2] [_] from ⟨hclc (T1:=[]) (fun _ hy=>by cases hy) huq2,trivial⟩) (hlt c1 (by simp)) fun v w1 a hv hk=>?_
 obtain⟨ag,rfl,hr⟩:=hv
 have h:=h.read B ag hr
 refine aAG hk hu hi lkS (c:=((RS.uv sk).1:Int)) (uv_i64 sk) (hlt c2 (by simp)) fun a hk=>?_
 refine aAk hk hcal3 (hc3 ((RS.uv sk).1:Int) h.rdr (.inl B.yr)) (show Mk.evs _ [q3,.tmp c2] [_,_] from ⟨hclc (T1:=[(c2,_),(c1,_)]) (fun y hy=>by
  simp only[List.mem_cons,List.not_mem_nil,or_false] at hy
  rcases hy with rfl|rfl
  ·exact htm' c2 (by simp)
  ·exact htm' c1 (by simp)) huq3,lkS,trivial⟩) (hlt c3 (by simp)) fun v w3 a hv hk=>?_
 obtain⟨ag,hx,hr⟩:=hv
 have hx:=h.wide B hx
 have h:=h.read B ag hr
 -- a reader of its own
 unfold aX7 at hr4
 split at hr4
 ·rename_i z hz1 hz2 hz3
  simp only[Bool.and_eq_true] at hr4
  obtain⟨hr4,hr5⟩:=hr4
  split at hr4
  ·rename_i hz4
   obtain⟨vp,vcap,hvf,-⟩:=aBp hx
   have hcv:cellsOf v=[v]:=by rw[hvf];rfl
   refine aAJ (zs:=[.slice none 0 0,.bool false]) (r:=[v,.bool false]) hk hz1 hz4 hr5 ⟨v,[v],0,lkS,hcv,hz3,rfl,rfl⟩ (hlt c4 (by simp)) fun a hk=>?_
   refine o_allocW hk hz1 hz4 (hlt rd (by simp)) fun a w4 ag4 hs4 hb4 hk=>?_
   refine o_storeB (pre:=[]) (post:=[]) (o:=0) (u:=.agg [v,.bool false].toArray) (cs:=[.slice none 0 0,.bool false]) hk hr3 lkS (by
    show look _ c4=_
    rw[lkN (fun h=>by subst h;simp at hnd)]
    exact lkS) rfl (by rw[hvf];rfl) hb4 (by simp[cellsOf]) fun a w5 ag5 hb5 hk=>?_
   refine cE0 ?_
   have hb5:w5.heap[w3.heap.size]? = some (.cells #[v,.bool false] E.cx.er (0,0)):=hb5
   have hs5:=ag5.size
   have hbl:(e0 E.cur).b<w3.heap.size:=(Array.getElem?_eq_some_iff.1 h.blk).1
   have hkS:Kn E.cx.n ((ct,cv)::(rd,.pointer (some ⟨w3.heap.size,0,none⟩))::L) a:=hk.weakenL fun q y hq=>by
    by_cases hqc:q=ct
    ·subst hqc
     rw[lkS] at hq
     rw[show (rd,Value.pointer (some ⟨w3.heap.size,0,none⟩))::(c4,Value.agg [v,Value.bool false].toArray)::(c3,v)::(c2,Value.int IntKind.i64 ((RS.uv sk).1:Int))::(c1,Value.int IntKind.u32 ((RS.uv sk).1:Int))::(T0++(q,cv)::L)=((rd,Value.pointer (some ⟨w3.heap.size,0,none⟩))::(c4,Value.agg [v,Value.bool false].toArray)::(c3,v)::(c2,Value.int IntKind.i64 ((RS.uv sk).1:Int))::(c1,Value.int IntKind.u32 ((RS.uv sk).1:Int))::T0)++(q,cv)::L from rfl,aKL,lkS]
     ·exact hq
     ·intro x hx
      simp only[List.mem_cons] at hx
      rcases hx with rfl|rfl|rfl|rfl|rfl|hx
      ·intro h;subst h;simp at hnd
      ·intro h;subst h;simp at hnd
      ·intro h;subst h;simp at hnd
      ·intro h;subst h;simp at hnd
      ·intro h;subst h;simp at hnd
      ·exact (hT0 x hx).2
    ·rw[lkN hqc] at hq
     by_cases hqr:q=rd
     ·subst hqr
      rw[lkS] at hq ⊢
      exact hq
     ·rw[lkN hqr] at hq
      have hnt:=aE5 hclr hq
      rw[show (rd,Value.pointer (some ⟨w3.heap.size,0,none⟩))::(c4,Value.agg [v,Value.bool false].toArray)::(c3,v)::(c2,Value.int IntKind.i64 ((RS.uv sk).1:Int))::(c1,Value.int IntKind.u32 ((RS.uv sk).1:Int))::(T0++(ct,cv)::L)=((rd,Value.pointer (some ⟨w3.heap.size,0,none⟩))::(c4,Value.agg [v,Value.bool false].toArray)::(c3,v)::(c2,Value.int IntKind.i64 ((RS.uv sk).1:Int))::(c1,Value.int IntKind.u32 ((RS.uv sk).1:Int))::T0)++(ct,cv)::L from rfl,aKL,lkN hqc]
      ·exact hq
      ·intro x hx
       simp only[List.mem_cons] at hx
       rcases hx with rfl|rfl|rfl|rfl|rfl|hx
       ·exact fun h=>hnt _ (htm' rd (by simp)) h.symm
       ·exact fun h=>hnt _ (htm' c4 (by simp)) h.symm
       ·exact fun h=>hnt _ (htm' c3 (by simp)) h.symm
       ·exact fun h=>hnt _ (htm' c2 (by simp)) h.symm
       ·exact fun h=>hnt _ (htm' c1 (by simp)) h.symm
       ·exact fun h=>hnt _ (hT0 x hx).1 h.symm
   let E':En:=⟨E.cx,E.ls,E.cur,w3.heap.size⟩
   generalize hT0':(fun l=>if l=E.cur then (⟨(e0 E.cur).b,(e0 E.cur).off,(e0 E.cur).ty,(e0 E.cur).ix,(e0 E.cur).pre,.map p::(e0 E.cur).post,g,0,0,false,fun j=>if j=0 then cv else .pointer (some ⟨E.rb,0,none⟩)⟩ : Lv) else e l)=e0'
   have hnew:e0' E.cur=⟨(e0 E.cur).b,(e0 E.cur).off,(e0 E.cur).ty,(e0 E.cur).ix,(e0 E.cur).pre,.map p::(e0 E.cur).post,g,0,0,false,fun j=>if j=0 then cv else .pointer (some ⟨E.rb,0,none⟩)⟩:=by rw[← hT0'];simp
   have hold:∀ l,l≠E.cur→e0' l=e l:=fun l hl=>by rw[← hT0'];show (if _ then _ else _)=_;rw[if_neg hl]
   have hKS:∀ {e2:Nat→Lv},aMI E.cur e0' e2→KtSame E.cur e e2:=fun {e2} hs=>by
    refine⟨fun l hl=>(hs.1 l (by omega)).trans (hold l (by omega)),?_,?_,?_⟩
    ·rw[hs.2.1,hnew,hsame.2.1]
    ·rw[hs.2.2.1,hnew,hsame.2.2.1]
    ·rw[hs.2.2.2.2.1,hnew,hsame.2.2.2.2.1]
   have hag5:Agr (fun k=>k=E.rb∨k=(e0 E.cur).b) w0 w5:=h.agr.trans (ag4.trans ag5 (Z:=fun k=>w3.heap.size≤k) (fun _ _ x=>x.elim) (fun _ _ x=>by have x' : _=w3.heap.size:=x;omega)) (fun _ _ x=>x) (fun j hj x=>by
    have:=h.agr.size
    have x':w3.heap.size≤j:=x
    omega)
   have hmv5:∀ j,j<w3.heap.size→w5.heap[j]? = w3.heap[j]?:=fun j hj=>by
    rw[ag5.block j (by omega) (fun hx=>by have hx':j=w3.heap.size:=hx;omega),ag4.block j hj (fun h=>h)]
   have hsz0:=h.agr.size
   have B':Base E' e0' w5 (fun k=>Yk Y p k∨k=w3.heap.size):=by
    refine⟨B.cfg,fun q hq=>?_,.inr rfl,.inl (.inl ?_),?_,?_,?_,B.glob hag5⟩
    ·rcases hq with hq|rfl
     ·have:=h.ylt B hq
      omega
     ·omega
    ·show Y (e0' E.cur).b
     rw[hnew];exact B.yb
    ·show w3.heap.size≠(e0' E.cur).b
     rw[hnew]
     show w3.heap.size≠(e0 E.cur).b
     omega
    ·show (e0' E.cur).off=(e0' E.cur).pre.length
     rw[hnew];exact B.off
    ·have hgl:E.cx.gb<w0.heap.size:=aIv B.gl.2
     rintro ((hq|hq)|hq)
     ·exact B.gl.1 hq
     ·have hq':p=some E.cx.gb:=hq
      have:=(h.own _ hq').1
      omega
     ·have hq':E.cx.gb=w3.heap.size:=hq
      omega
   have hT':aEU E' e0':=by
    intro s2 hs2 hc htp
    have h1:=hT s2 hs2 hc htp
    have hne:E.cur - 1≠E.cur:=by have hc' : 0<E.cur:=hc;omega
    show (e0' E.cur).b=(e0' (E.cur - 1)).lb∧(e0' E.cur).off=(e0' E.cur).ix*aNS s2.fs s2.tg∧((e0' E.cur).ix:Int)<(e0' (E.cur - 1)).cnt
    rw[hnew,hold _ hne,hsame.1 _ hne]
    exact h1
   have hrun:aIC S.fs E.cx.V E.cx.flex [.fld i] g ⟨(RS.span ((RS.uv sk).1:Int) (RS.uv sk).2).1,false⟩=some (g.set i t,s'):=by
    show ((rdF (S.fs.getD i aAm) E.cx.V E.cx.flex _).map _).bind _=_
    rw[hrk];rfl
   refine ihk (E:=E') (e0:=e0') (w0:=w5) (Y:=fun k=>Yk Y p k∨k=w3.heap.size) (items:=[.fld i]) (g0:=g) (s0:=⟨(RS.span ((RS.uv sk).1:Int) (RS.uv sk).2).1,false⟩) (S:=S) hxk B' hT' hS
    ⟨e0',(ct,cv)::(rd,.pointer (some ⟨w3.heap.size,0,none⟩))::L,⟨(RS.span ((RS.uv sk).1:Int) (RS.uv sk).2).1,false⟩,cs,S,?_⟩ ⟨fun _ hn=>(by
     have hn':aIC S.fs E.cx.V E.cx.flex [.fld i] g ⟨(RS.span ((RS.uv sk).1:Int) (RS.uv sk).2).1,false⟩=none:=hn
     rw[hrun] at hn';cases hn'),fun hn=>(by
     have hn':aIC S.fs E.cx.V E.cx.flex [.fld i] g ⟨(RS.span ((RS.uv sk).1:Int) (RS.uv sk).2).1,false⟩=none:=hn
     rw[hrun] at hn';cases hn')⟩ (fun g' s2 hr=>(by
     have hr':aIC S.fs E.cx.V E.cx.flex [.fld i] g ⟨(RS.span ((RS.uv sk).1:Int) (RS.uv sk).2).1,false⟩=some (g',s2):=hr
     rw[hrun] at hr'
     cases hr'
     exact hsb)) ?_
   ·have hYn:∀ (σ : St) (lv:Lv),σ.pd=none→Yl (fun k=>Yk Y p k∨k=w3.heap.size) σ lv=fun k=>Yk Y p k∨k=w3.heap.size:=fun σ lv h=>aBJ h
    have hmv:∀ j,j<w3.heap.size→¬ Yk Y p j→w5.heap[j]? = w3.heap[j]? ∧ ¬ (Yk Y p j∨j=w3.heap.size):=fun j hj hn=>⟨hmv5 j hj,fun hx=>hx.elim hn (by omega)⟩
    refine⟨hS,aMI.refl _ _,hkS,?_,Agr.refl _ _,?_,?_,?_,fun _=>?_,fun p hp=>(by cases hp),fun hp=>(by cases hp)⟩
    ·rw[hYn _ _ rfl]
     refine⟨rfl,?_,rfl,rfl,SR.inn (hKS (aMI.refl _ _)) ?_ hall hsL⟩
     ·show cv=(e0' E.cur).sv 0
      rw[hnew];rfl
     ·rw[hnew];rfl
    ·rw[hYn _ _ rfl]
     exact⟨v,hb5,Rep.move hmv _ _ hx⟩
    ·show w5.heap[(e0' E.cur).b]? = some (.cells ((e0' E.cur).pre++cs++(e0' E.cur).post).toArray (e0' E.cur).ty (0,0))
     rw[hnew]
     show w5.heap[(e0 E.cur).b]? = _
     rw[hmv5 _ hbl,h.blk]
     simp
    ·rw[hYn _ _ rfl]
     show ACs w5 _ S.fs S.tg (e0' E.cur).g cells cs
     rw[hnew]
     exact h.cel.move hmv
    ·show aIC _ _ _ _ _ _=aIC _ _ _ _ (e0' E.cur).g ⟨(RS.span ((RS.uv sk).1:Int) (RS.uv sk).2).1,false⟩
     rw[hnew]
   ·rintro a6 w6 ⟨e2,l2,s2,cs2,S3,hI2⟩
    have hS3:=hI2.ls
    rw[show E'.ls[E'.cur]? = some S from hS] at hS3
    obtain rfl:=Option.some.inj hS3
    have hYn:Yl (fun k=>Yk Y p k∨k=w3.heap.size) τ (e2 E'.cur)=fun k=>Yk Y p k∨k=w3.heap.size:=aBJ tp
    have hsp:=hI2.none_ tp
    unfold spec at hsp
    rw[t0] at hsp
    have hsp':some (g.set i t,s')=some ((e2 E.cur).g,s2):=by rw[← hrun];exact hsp
    simp only[Option.some.injEq,Prod.mk.injEq] at hsp'
    obtain⟨hg,-⟩:=hsp'
    have hcel2:=hI2.cel
    rw[hYn] at hcel2
    have hsr2:=hI2.sr
    rw[hYn] at hsr2
    obtain⟨hsl2,hlk⟩:=aNt hsr2 hlf
    have hag6:Agr (fun k=>k=w3.heap.size∨k=(e0 E.cur).b) w5 w6:=hI2.agr.mono fun _ _ x=>by
     rcases x with x|x
     ·exact .inl x
     ·have x' : _=(e0' E.cur).b:=x
      rw[hnew] at x'
      exact .inr x'
    have hs6:=hag6.size
    have hmv6:∀ j,j<w3.heap.size→j≠(e0 E.cur).b→w6.heap[j]? = w3.heap[j]?:=fun j hj hn=>by
     rw[hag6.block j (by omega) (fun hx=>hx.elim (by omega) hn),hmv5 j hj]
    have hmv:∀ j,j<w3.heap.size→¬ Yk Y p j→w6.heap[j]? = w3.heap[j]? ∧ ¬ Yk Y p j:=fun j hj hn=>⟨hmv6 j hj (fun hx=>hn (.inl (by rw[hx];exact B.yb))),hn⟩
    have hsam:=hI2.same
    obtain⟨hsl2a,hsl2b,-,-,hsl2c⟩:=hsl2
    have hcv':(Mk.look l2 ct).getD undef=cv:=by
     have h1:(Mk.look l2 ct).getD undef=(e2 E.cur).sv 0:=hsl2b
     rw[h1,hsam.2.2.2.2.2.2.2,hnew];rfl
    have hout:=SR.out (E:=E) (w:=w6) (Y:=Y) (hKS hsam) (by rw[hsam.2.2.2.2.2.2.2,hnew];rfl) hall hsl2c
    have hclr':aFn tm (pick l2 (aGd (AV.noRdr E.cur) hd)):=aSO (by rw[SR.keys hout,SR.keys hsL]) hclr
    refine K a6 w6 (pick l2 (aGd (AV.noRdr E.cur) hd)) cs2 ?_ hout hclr' ?_
    ·refine⟨hag5.trans hag6 (fun _ _ x=>x) (fun j hj x=>x.elim (by omega) .inr),?_,?_,?_,?_,aCh.move hmv _ _ h.rep,fun r hr=>?_⟩
     ·obtain⟨v2,h1,h2⟩:=h.rdr
      refine⟨v2,?_,Rep.move hmv _ _ h2⟩
      rw[hmv6 _ (Array.getElem?_eq_some_iff.1 h1).1 B.ne]
      exact h1
     ·have hb6:w6.heap[(e0' E.cur).b]? = some (.cells ((e0' E.cur).pre++cs2++(e0' E.cur).post).toArray (e0' E.cur).ty (0,0)):=hI2.blk
      rw[hnew] at hb6
      have hb6:w6.heap[(e0 E.cur).b]? = some (.cells ((e0 E.cur).pre++cs2++.map p::(e0 E.cur).post).toArray (e0 E.cur).ty (0,0)):=hb6
      rw[hb6]
      simp
     ·have hcel3:ACs w6 (fun k=>Yk Y p k∨k=w3.heap.size) S.fs S.tg (e2 E.cur).g τ.cells cs2:=hcel2
      rw[← hg] at hcel3
      exact hcel3.move fun j _ hn=>⟨rfl,fun hy=>hn (.inl hy)⟩
     ·exact h.mp.move fun r hr=>by
       have h1:=h.own r hr
       have h2:=B.old _ B.yb
       exact hmv6 r h1.2 (by omega)
     ·have:=h.own r hr
      omega
    ·have hkn:=hI2.kn.weakenL (l':=pick l2 ((ct,.sv E.cur 0)::(rd,.rdr)::aGd (AV.noRdr E.cur) hd)) fun s v=>aHg hlk
     refine hkn.weakenL fun s y hq=>?_
     show look ((ct,(Mk.look l2 ct).getD undef)::(rd,(Mk.look l2 rd).getD undef)::pick l2 (aGd (AV.noRdr E.cur) hd)) s=some y
     rw[hcv']
     by_cases hsc:s=ct
     ·subst hsc
      rw[lkS] at hq ⊢
      exact hq
     ·rw[lkN hsc] at hq ⊢
      rw[lkN (aE5 hclr' hq rd (htm' rd (by simp)))]
      exact hq
  ·cases hr4
 ·cases hr4
end
end Go.Mk.Er
