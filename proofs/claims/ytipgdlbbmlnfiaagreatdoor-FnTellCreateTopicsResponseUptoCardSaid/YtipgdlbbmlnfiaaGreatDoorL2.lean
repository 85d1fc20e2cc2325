/- Walks of programs, step by step: what holds of memory behind each; the reference in plain words. No statement of a seat stands here. -/
import Derived.Test.YtipgdlbbmlnfiaaGreatDoorL1
import Derived.SizedLaws
import Derived.Carry
import Derived.ProofKit
import Derived.WalkKit
import Derived.OpenShut
import Derived.Deep.CondSized
import Derived.JoinedCond
import Derived.Maps.RangeRun
import Derived.Shelf.GgSortFunc.Whole
import Derived.Shelf.GgSortFunc.Tiny
import Derived.Lib.SortBridge
import Derived.Sort.LotA
import Derived.WideLaws
namespace Go.Mk
open Go
theorem aJf {flex null:Bool}{n size:Nat}(hs:size≤8)(hn:n≤32767):(counted flex null n size).length≤10:=aII hs (by unfold room;omega)
def aLj (P:Program)(t:Nat):Option (Nat × List (Nat × Nat × Nat)):=match P.underlying t with
 | some (.struct fs)=>some (P.cellsOf t,fs.toList.map fun f=>(f.type,f.offset,P.cellsOf f.type))
 | _=>none
def aKA (P:Program)(t:Nat):Option (Nat × Nat):=match P.underlying t with
 | some (.slice e)=>some (e,P.cellsOf e)
 | _=>none
theorem aI0 {P:Program}{t c:Nat}{l:List (Nat × Nat × Nat)}(h:aLj P t=some (c,l)):∃ fs,P.underlying t=some (.struct fs)∧P.cellsOf t=c∧(fs.toList.map fun f=>(f.type,f.offset,P.cellsOf f.type))=l:=by
 unfold aLj at h
 split at h
 ·rename_i fs hfs
  simp only[Option.some.injEq,Prod.mk.injEq] at h
  exact⟨fs,hfs,h.1,h.2⟩
 ·cases h
theorem aLR {P:Program}{t e c:Nat}(h:aKA P t=some (e,c)):P.underlying t=some (.slice e)∧P.cellsOf e=c:=by
 unfold aKA at h
 split at h
 ·rename_i e' he
  simp only[Option.some.injEq,Prod.mk.injEq] at h
  obtain⟨rfl,h2⟩:=h
  exact⟨he,h2⟩
 ·cases h
section
variable {H:Type}{enc:TypeId × Value→H}{P:Program}{w:World}{base:Nat}{spare:Nat→Bool}{held:Bool}{fuel t:Nat}{cs:List Value}{x:DataW H × List MemPlace}
theorem aXE (a:Addr)(hs:a.spot=none)(n:Nat):a.add n=⟨a.block,a.off+n,none⟩:=by
 unfold Addr.add
 split
 ·rename_i h;subst h;cases a;simp_all
 ·rfl
theorem aOr {α : Type}{e c:Nat}(F : α→DD)(R : α→DataW H→Prop)(hc0 : 0<c)(ht:aKA P t=some (e,c))(ih:∀ (f:Nat) (ce:List Value) (y:DataW H × List MemPlace),f<fuel→DataW.trod enc P w base spare held f e ce=some y→∃ a : α,(Rep w Nob (F a) ce∧R a y.1)∧ce.length=c)
  (h:DataW.trod enc P w base spare held fuel t cs=some x) (hsp:∀ b,spare b=true):∃ (l:List α) (el sp:List (DataW H)),Rep w Nob (.sl false c (l.map F)) cs∧l.length≤maxLen∧l.length=el.length∧(∀ (i:Nat) a d,l[i]? = some a→el[i]? = some d→R a d)∧((x.1=.nil∧el=[])∨x.1=.slice el sp):=by
 obtain⟨hu,rfl⟩:=aLR ht
 rcases DataW.trod_slice hu h with ⟨rfl,hx⟩|⟨a,len,cap,elems,rest,n,rfl,rfl,hx,hb,hlc,hcm,hel,hget,hspare,_⟩
 ·exact⟨[],[],[],by simp[Rep],Nat.zero_le _,rfl,by simp,.inl ⟨by rw[hx],rfl⟩⟩
 ·by_cases hcap:cap=0
  ·have h0:len=0:=by omega
   subst hcap h0
   have he0:elems=[]:=List.eq_nil_of_length_eq_zero hel
   exact⟨[],[],_,by simp[Rep],Nat.zero_le _,rfl,by simp,.inr (by rw[hx,he0];rfl)⟩
  ·-- the address has no spot: a cell of it is read
   have hspot:a.spot=none:=by
    have h1:∃ ce,w.cells? base (a.add (0*P.cellsOf e)) (P.cellsOf e)=some ce:=by
     by_cases hl : 0<len
     ·have:=hget 0 hl
      have h2:elems[0]? = some elems[0]:=List.getElem?_eq_getElem (by omega)
      cases hq:w.cells? base (a.add (0*P.cellsOf e)) (P.cellsOf e) with
      | none=>rw[hq,h2] at this;cases this
      | some ce=>exact⟨ce,rfl⟩
     ·have hl0:len=0:=by omega
      obtain⟨h2,h3⟩:=hspare (hsp _)
      have:=h3 0 (by omega)
      have h2':rest[0]? = some rest[0]:=List.getElem?_eq_getElem (by omega)
      rw[hl0,Nat.add_zero] at this
      cases hq:w.cells? base (a.add (0*P.cellsOf e)) (P.cellsOf e) with
      | none=>rw[hq,h2'] at this;cases this
      | some ce=>exact⟨ce,rfl⟩
    obtain⟨ce,hce⟩:=h1
    obtain⟨_,h3,h4⟩:=World.cells?_some hce
    have h5:=h4 0 hc0
    rw[Nat.zero_mul] at h5
    have h6:(a.add 0).add 0=a:=by simp[Addr.add]
    rw[h6] at h5
    have h7:ce[0]? ≠ none:=by rw[List.getElem?_eq_getElem (by omega)];simp
    rw[← h5] at h7
    unfold World.cell? at h7
    split at h7
    ·split at h7
     ·exact absurd rfl h7
     ·rename_i hs;simpa using hs
    ·exact absurd rfl h7
   have key:∀ (k:Nat),k≤len→∃ (l:List α) (xs:List Value),l.length=k∧aBf w Nob (P.cellsOf e) (l.map F) xs∧Cel w Nob a.block a.off xs∧∀ (i:Nat) b d,l[i]? = some b→(elems.map (·.1))[i]? = some d→R b d:=by
    intro k
    induction k with
    | zero=>intro _;exact⟨[],[],rfl,by simp[aBf],(fun j u hj=>by simp at hj),by simp⟩
    | succ k ihk =>
     intro hk
     obtain⟨l,xs,h1,h2,h3,hR⟩:=ihk (by omega)
     have hg:=hget k (by omega)
     cases hq:w.cells? base (a.add (k*P.cellsOf e)) (P.cellsOf e) with
     | none =>
      rw[hq,List.getElem?_eq_getElem (by omega)] at hg
      cases hg
     | some ce =>
      rw[hq] at hg
      have hlt:k<elems.length:=by omega
      have hg':DataW.trod enc P w base spare held n e ce=some elems[k]:=by simpa [hlt] using hg
      obtain⟨v,⟨hv,hvR⟩,hvl⟩:=ih n ce _ (Nat.lt_succ_self n) hg'
      refine⟨l++[v],xs++ce,by simp[h1],by rw[List.map_append];exact h2.append (aBf.one hv hvl),?_,?_⟩
      rotate_left
      ·intro i b d hi hd
       rw[List.getElem?_append] at hi
       split at hi
       ·exact hR i b d hi hd
       ·rename_i hge
        have hik:i=k:=by
         have:=(List.getElem?_eq_some_iff.1 hi).1
         simp only[List.length_singleton] at this
         omega
        subst hik
        rw[h1,Nat.sub_self] at hi
        simp only[List.getElem?_cons_zero,Option.some.injEq] at hi
        subst hi
        rw[List.getElem?_map,List.getElem?_eq_getElem hlt] at hd
        simp only[Option.map_some,Option.some.injEq] at hd
        subst hd
        exact hvR
      intro j u hj
      have hxl:=h2.length
      rw[List.length_map,h1] at hxl
      rw[List.getElem?_append] at hj
      split at hj
      ·exact h3 j u hj
      ·rename_i hge
       obtain⟨_,h5,h6⟩:=World.cells?_some hq
       have hj2:j - xs.length<P.cellsOf e:=by
        have:=(List.getElem?_eq_some_iff.1 hj).1
        omega
       have h7:=h6 (j - xs.length) hj2
       rw[hj,aXE a hspot] at h7
       refine⟨id,?_⟩
       have h8:(⟨a.block,a.off+k*P.cellsOf e,none⟩ : Addr).add (j - xs.length)=⟨a.block,a.off+j,none⟩:=by
        rw[aXE _ rfl]
        have:a.off+k*P.cellsOf e+(j - xs.length)=a.off+j:=by omega
        rw[this]
       rw[h8] at h7
       exact h7
   obtain⟨l,xs,h1,h2,h3,hR⟩:=key len (Nat.le_refl _)
   refine⟨l,elems.map (·.1),rest.map (·.1),?_,by omega,by rw[List.length_map];omega,hR,.inr (by rw[hx])⟩
   simp only[Rep]
   refine .inr ⟨a.block,a.off,cap,xs,?_,by rw[List.length_map];omega,h3,h2⟩
   rw[List.length_map,h1]
   cases a
   simp only at hspot
   subst hspot
   rfl
def aTa (P:Program)(t:Nat)(k:IntKind):Bool:=match P.underlying t with|some (.int k')=>decide (k'=k)|_=>false
theorem aLB {k:IntKind}(h:aTa P t k=true):P.underlying t=some (.int k):=by
 unfold aTa at h
 split at h
 ·rename_i k' hk;rw[hk];simpa using h
 ·cases h
def aUJ (P:Program)(t:Nat):Bool:=match P.underlying t with|some .bool=>true|_=>false
theorem aQC (h:aUJ P t=true):P.underlying t=some .bool:=by
 unfold aUJ at h
 split at h
 ·assumption
 ·cases h
theorem aPu (ht:aTa P t .u8=true)(h:DataW.trod enc P w base spare held fuel t cs=some x):∃ b:UInt8,(Rep w Nob (ddB b) cs∧True)∧cs.length=1:=by
 obtain⟨n,rfl,_,hwf⟩:=DataW.trod_int (aLB ht) h
 simp only[Lit.wf,Bool.and_eq_true,decide_eq_true_eq] at hwf
 refine⟨UInt8.ofNat n.toNat,⟨?_,trivial⟩,rfl⟩
 have h1 : 0≤n∧n<256:=by
  simp[IntKind.min,IntKind.max,IntKind.bits,IntKind.signed] at hwf
  omega
 simp only[ddB,Rep]
 have:((UInt8.ofNat n.toNat).toNat:Int)=n:=by
  rw[UInt8.toNat_ofNat']
  omega
 rw[this]
theorem aKv {c:Nat}{l:List (Nat × Nat × Nat)}(ht:aLj P t=some (c,l))(h:DataW.trod enc P w base spare held fuel t cs=some x) :
  ∃ (n:Nat) (xs:List (DataW H × List MemPlace)),fuel=n+1∧cs.length=c∧x.1=.agg (xs.map (·.1))∧xs.length=l.length∧∀ (i ty off k:Nat),l[i]? = some (ty,off,k)→∃ y,DataW.trod enc P w base spare held n ty ((cs.drop off).take k)=some y∧xs[i]? = some y:=by
 obtain⟨fs,hu,hc,hl⟩:=aI0 ht
 obtain⟨xs,n,rfl,hx,h1,h2,h3⟩:=DataW.trod_struct hu h
 refine⟨n,xs,rfl,by rw[h1,hc],by rw[hx],by rw[h2,← hl];simp,fun i ty off k hi=>?_⟩
 rw[← hl,List.getElem?_map] at hi
 cases hf:fs.toList[i]? with
 | none=>rw[hf] at hi;simp at hi
 | some f =>
  rw[hf] at hi
  simp only[Option.map_some,Option.some.injEq,Prod.mk.injEq] at hi
  obtain⟨rfl,rfl,rfl⟩:=hi
  have hf':fs[i]? = some f:=by simpa using hf
  have h4:=h3 i f hf'
  have hlt:i<xs.length:=by
   have:=(List.getElem?_eq_some_iff.1 hf).1
   simp only[Array.length_toList] at this
   omega
  exact⟨xs[i],by rw[h4,List.getElem?_eq_getElem hlt],List.getElem?_eq_getElem hlt⟩
mutual
def aBl {H:Type}:DataW H→Nat
 | .lit (.string bytes)=>bytes.length+1
 | .lit _=>1
 | .nil=>1
 | .ptr d=>aBl d+1
 | .slice elems spare=>aCM elems+aCM spare+1
 | .agg parts=>aCM parts+1
 | .iface _ d=>aBl d+1
 | .map entries=>aHO entries+1
 | .held _=>1
def aCM {H:Type}:List (DataW H)→Nat
 | []=>0
 | d::r=>aBl d+aCM r
def aHO {H:Type}:List (Lit × DataW H)→Nat
 | []=>0
 | x::r=>aGx x+aHO r
def aGx {H:Type}:Lit × DataW H→Nat
 | (.string bytes,d)=>bytes.length+aBl d+1
 | (_,d)=>aBl d+1
end
def aTq:List (Nat × List UInt8)→Nat
 | []=>0
 | p::r=>1+p.2.length+aTq r
mutual
def T.bulk:T→Nat
 | .mk _ s _ l u=>1+s.length+aTq u+T.bulks l
def T.bulks:List T→Nat
 | []=>0
 | t::r=>T.bulk t+T.bulks r
end
theorem aOq (d:DataW H) : 1≤aBl d:=by
 cases d<;>try (unfold aBl;omega)
 rename_i l;cases l<;>simp[aBl]
theorem aLs:∀ {el:List (DataW H)},el.length≤aCM el
 | []=>by simp[aCM]
 | d::r=>by have:=aOq d;have:=aLs (el:=r);simp only[List.length_cons,aCM];omega
theorem aJ6 {e:Nat}:∀ {el:List (DataW H)} {i:Nat} {d:DataW H},el[i]? = some d→∀ n ∈ d.weights P e,n ∈ DataW.weightsAll P e el
 | [],i,d,h,_,_=>by simp at h
 | d0::r,0,d,h,n,hn=>by simp only[List.getElem?_cons_zero,Option.some.injEq] at h;subst h;simp only[DataW.weightsAll,List.mem_append];exact .inl hn
 | d0::r,i+1,d,h,n,hn=>by simp only[List.getElem?_cons_succ] at h;simp only[DataW.weightsAll,List.mem_append];exact .inr (aJ6 h n hn)
structure TreeTy (P:Program) (tt tg tn ts t8 tb tl tu tk:Nat):Prop where
 st:aLj P tt=some (5,[(tn,0,1),(ts,1,1),(tb,2,1),(tl,3,1),(tu,4,1)])
 n:aTa P tn .i64=true
 s:aKA P ts=some (t8,1)
 b8:aTa P t8 .u8=true
 b:aUJ P tb=true
 l:aKA P tl=some (tt,5)
 u:aKA P tu=some (tg,2)
 g:aLj P tg=some (2,[(tk,0,1),(ts,1,1)])
 k:aTa P tk .u32=true
 y8:Nat.blt 0 (P.bytesOf t8)=true
 yt:Nat.blt 0 (P.bytesOf tt)=true
 yg:Nat.blt 0 (P.bytesOf tg)=true
def aIV (P:Program)(t:Nat)(d:DataW H):Prop:=∀ n ∈ d.weights P t,n≤reachBytes
theorem aMx {e c:Nat}{el sp:List (DataW H)}{d:DataW H}(ht:aKA P t=some (e,c))(hy:Nat.blt 0 (P.bytesOf e)=true)(hx:(d=.nil∧el=[])∨d=.slice el sp)(h:aIV P t d) :
  el.length≤140737488355328∧∀ (i:Nat) d',el[i]? = some d'→aIV P e d':=by
 obtain⟨hu,_⟩:=aLR ht
 have hy' : 0<P.bytesOf e:=by simpa [Nat.blt_eq] using hy
 rcases hx with ⟨rfl,rfl⟩|rfl
 ·exact⟨by simp,fun i d' hi=>by simp at hi⟩
 ·unfold aIV at h
  simp only[DataW.weights,hu,List.mem_cons,List.mem_append,forall_eq_or_imp] at h
  refine⟨?_,fun i d' hi n hn=>h.2 n (.inl (aJ6 hi n hn))⟩
  have h1:=h.1
  have h2:=reachBytes_lt
  have h3:el.length+sp.length≤(el.length+sp.length)*P.bytesOf e:=Nat.le_mul_of_pos_right _ hy'
  omega
theorem aO6 {el sp:List (DataW H)}{d:DataW H}(hx:(d=.nil∧el=[])∨d=.slice el sp):aCM el+1≤aBl d:=by
 rcases hx with ⟨rfl,rfl⟩|rfl
 ·simp[aCM,aBl]
 ·unfold aBl;omega
theorem aOp {α : Type}{g : α→Nat}:∀ {l:List α} {el:List (DataW H)},l.length=el.length→(∀ (i:Nat) a d,l[i]? = some a→el[i]? = some d→g a≤aBl d)→(l.map g).sum≤aCM el
 | [],[],_,_=>by simp[aCM]
 | [],_::_,h,_=>by simp at h
 | _::_,[],h,_=>by simp at h
 | a::r,d::s,h,hg=>by
  have h0:=hg 0 a d rfl rfl
  have:=aOp (l:=r) (el:=s) (by simpa using h) (fun i a d h1 h2=>hg (i+1) a d (by simpa using h1) (by simpa using h2))
  simp only[List.map_cons,List.sum_cons,aCM]
  omega
theorem aKX:∀ l:List T,T.bulks l=(l.map T.bulk).sum
 | []=>by simp[T.bulks]
 | t::r=>by simp only[T.bulks,List.map_cons,List.sum_cons,aKX r]
theorem aNn:∀ l:List (Nat × List UInt8),aTq l=(l.map fun p=>1+p.2.length).sum
 | []=>by simp[aTq]
 | t::r=>by simp only[aTq,List.map_cons,List.sum_cons,aNn r]
theorem aVk {tt tg tn ts t8 tb tl tu tk:Nat}(ty:TreeTy P tt tg tn ts t8 tb tl tu tk)(hsp:∀ b,spare b=true)(h:DataW.trod enc P w base spare held fuel tg cs=some x) :
  ∃ u:Nat × List UInt8,(Rep w Nob (aBT u) cs∧u.1<4294967296∧1+u.2.length≤aBl x.1∧(aIV P tg x.1→u.2.length≤140737488355328))∧cs.length=2:=by
 obtain⟨n,xs,rfl,hl,hx,hxl,hf⟩:=aKv ty.g h
 match cs,hl,xs,hxl with
 | [c0,c1],_,[z0,z1],_ =>
  obtain⟨y0,h0,e0⟩:=hf 0 tk 0 1 rfl
  obtain⟨y1,h1,e1⟩:=hf 1 ts 1 1 rfl
  simp only[List.getElem?_cons_zero,List.getElem?_cons_succ,Option.some.injEq] at e0 e1
  subst e0 e1
  simp only[List.drop_zero,List.take_succ_cons,List.take_zero,List.drop_succ_cons] at h0 h1
  obtain⟨m,hm,_,hwf⟩:=DataW.trod_int (aLB ty.k) h0
  simp only[List.cons.injEq,and_true] at hm
  subst hm
  simp only[Lit.wf,Bool.and_eq_true,decide_eq_true_eq] at hwf
  obtain⟨bs,el,sp,h2,_,hlen,_,hxs⟩:=aOr ddB (fun _ _=>True) (by decide) ty.s (fun f ce y _ hc=>aPu ty.b8 hc) h1 hsp
  have h0m : 0≤m:=by
   have:=hwf.1
   simp[IntKind.min,IntKind.signed] at this
   exact this
  have h1m:m<4294967296:=by
   have:=hwf.2
   simp[IntKind.max,IntKind.bits,IntKind.signed] at this
   omega
  refine⟨(m.toNat,bs),⟨?_,by show m.toNat<_;omega,?_,?_⟩,rfl⟩
  ·have e:Value.int .u32 m=.int .u32 ((m.toNat:Nat):Int):=by rw[Int.toNat_of_nonneg h0m]
   rw[e]
   exact aLL (u:=(m.toNat,bs)) h2
  ·rw[hx]
   have:=aO6 hxs
   have:=aLs (el:=el)
   simp only[List.map_cons,List.map_nil,aBl,aCM]
   omega
  ·intro hw
   rw[hx] at hw
   have:aIV P ts z1.1:=fun n hn=>hw n (by
    obtain⟨fs,hu,_,hl⟩:=aI0 ty.g
    have hty:fs.toList.map (·.type)=[tk,ts]:=by
     have:=congrArg (List.map (·.1)) hl
     rw[List.map_map] at this
     exact this
    simp only[DataW.weights,hu,hty,List.map_cons,List.map_nil,DataW.weightsEach,List.mem_append]
    exact .inr (.inl hn))
   have:=(aMx ty.s ty.y8 hxs this).1
   show bs.length≤_
   omega
theorem aJI {v:Value}(h:v.cells.toList.length=5):∃ cs:Array Value,v=.agg cs:=by
 cases v<;>first|exact⟨_,rfl⟩|simp[Value.cells] at h
end
theorem aJU {at_:Nat→Option (Nat × Nat)}{l:List (Nat × Value)}{zs r:List Value}(h:r=zs):bres at_ l [] zs r:=h
end Go.Mk
namespace Go.Mk
open Go
theorem aWq (fs:List Fld){t:T}(hsn:t.sane=true):∀ u ∈ aAo fs t.u,(aDt u.1 (whole u.2)).length≤20+(whole u.2).length:=fun u hu=>by
 have h1:=aH8 hsn u ((aFY fs t.u).2 u hu)
 have h2:=aBX u.1 (by omega)
 have h3:=aBG u.2
 have h4:=aBX (whole u.2).length (by omega)
 rw[aMe];omega
theorem aMv {t:T}(h:t.sane=true)(l:List T)(hl:∀ x ∈ l,x ∈ t.l)(j:Nat):(l.getD j T.nil).sane=true:=by
 rw[List.getD_eq_getElem?_getD]
 cases hi:l[j]? with
 | none=>exact aSr
 | some x=>exact (aBD h).2.2.2 x (hl x (List.mem_of_getElem? hi))
theorem aIc (fs:List Fld)(V:Int)(flex:Bool)(t:T):(List.range fs.length).flatMap (pie fs V flex t)=aCJ fs V (aBE fs V flex t.l 0):=by
 rw[aIA]
 apply aDu
 intro j _
 simp[pie,T.at_]
def kpV (kind part:Nat):Nat :=
 match kind with
 | 0=>1
 | 7=>16
 | 8=>11
 | 9=>11
 | 10=>part
 | _=>8
theorem aSt (t:T) : 1+t.s.length+aTq t.u+T.bulks t.l=t.bulk:=by cases t;simp only[T.bulk,T.s,T.u,T.l]
theorem aXl {kind:Nat}{pt:T→List UInt8}{null flex:Bool}{t:T}{m:Nat}(hp:(pt t).length≤m*t.bulk):(aC5 kind pt null flex t).length≤kpV kind m*t.bulk:=by
 have hb:=aSt t
 by_cases h0:kind=0
 ·subst h0;show 1≤1*t.bulk;omega
 by_cases h7:kind=7
 ·subst h7;show (sixteen t.s).length≤16*t.bulk;rw[aAK];omega
 have hw:(if null then [] else whole t.s).length≤32767:=by split;exact Nat.zero_le _;exact aBG t.s
 have hw2:(if null then [] else whole t.s).length≤t.s.length:=by
  split
  ·exact Nat.zero_le _
  ·unfold whole;rw[List.length_take];omega
 by_cases h8:kind=8
 ·subst h8
  show (counted flex null _ 2++_).length≤11*t.bulk
  rw[List.length_append]
  have:=aJf (flex:=flex) (null:=null) (n:=(if null then [] else whole t.s).length) (size:=2) (by decide) hw
  omega
 by_cases h9:kind=9
 ·subst h9
  show (counted flex null _ 4++_).length≤11*t.bulk
  rw[List.length_append]
  have:=aJf (flex:=flex) (null:=null) (n:=(if null then [] else whole t.s).length) (size:=4) (by decide) hw
  omega
 by_cases h10:kind=10
 ·subst h10;exact hp
 ·rw[aJW h0 h7 h8 h9 h10,aBL]
  have:kpV kind m=8:=by unfold kpV;split<;>simp_all
  rw[this]
  have:=aHK kind
  omega
theorem aOJ {α β : Type}(F : α→List β)(c:Nat)(g : α→Nat):∀ (l:List α),(∀ x ∈ l,(F x).length≤c*g x)→(l.flatMap F).length≤c*(l.map g).sum
 | [],_=>by simp
 | x::r,h=>by
  have h1:=h x List.mem_cons_self
  have h2:=aOJ F c g r fun y hy=>h y (List.mem_cons_of_mem _ hy)
  rw[List.flatMap_cons,List.length_append,List.map_cons,List.sum_cons,Nat.mul_add]
  omega
theorem aO8 {α : Type}(g : α→Nat):∀ (l:List α) (k:Nat),((l.take k).map g).sum≤(l.map g).sum
 | [],k=>by simp
 | x::r,0=>by simp
 | x::r,k+1=>by
  have:=aO8 g r k
  simp only[List.take_succ_cons,List.map_cons,List.sum_cons];omega
theorem aUL {α : Type}(g : α→Nat):∀ {l:List α} {x : α},x ∈ l→g x≤(l.map g).sum
 | [],x,h=>by cases h
 | y::r,x,h=>by
  simp only[List.map_cons,List.sum_cons]
  rcases List.mem_cons.1 h with rfl|h
  ·omega
  ·have:=aUL g h;omega
theorem aTR {g:Nat × List UInt8→Nat}{u:Nat × List UInt8}:∀ l:List (Nat × List UInt8),((aCY u l).map g).sum≤g u+(l.map g).sum
 | []=>by simp[aCY]
 | x::r=>by
  have:=aTR (g:=g) (u:=u) r
  unfold aCY
  split
  ·simp only[List.map_cons,List.sum_cons];omega
  ·split<;>(simp only[List.map_cons,List.sum_cons];omega)
theorem aYQ (g:Nat × List UInt8→Nat)(fs:List Fld)(u:List (Nat × List UInt8)):((aAo fs u).map g).sum≤(u.map g).sum:=by
 have key:∀ (l out:List (Nat × List UInt8)),((l.foldl (fun out t=>if t.1<known fs then out else aCY t out) out).map g).sum≤(out.map g).sum+(l.map g).sum:=by
  intro l
  induction l with
  | nil=>intro out;simp
  | cons x r ih =>
   intro out
   simp only[List.foldl_cons,List.map_cons,List.sum_cons]
   have h1:=ih (if x.1<known fs then out else aCY x out)
   have h2:((if x.1<known fs then out else aCY x out).map g).sum≤g x+(out.map g).sum:=by
    split
    ·omega
    ·exact aTR out
   omega
 have h1:=key (u.take 32767) []
 have h2:=aO8 g u 32767
 simp only[List.map_nil,List.sum_nil,Nat.zero_add] at h1
 exact Nat.le_trans h1 h2
end Go.Mk
namespace Go.Mk
open Go
structure RS where
 src:Option (List UInt8)
 bad:Bool
namespace RS
def l (s:RS):List UInt8:=s.src.getD []
def fail:RS:=⟨none,true⟩
end RS
def be:List UInt8→Nat
 | []=>0
 | b::r=>b.toNat*256 ^ r.length+be r
theorem aZT:∀ l:List UInt8,be l<256 ^ l.length
 | []=>by simp[be]
 | b::r=>by
  have h1:=aZT r
  have h2:b.toNat<256:=b.toNat_lt
  simp only[be,List.length_cons,Nat.pow_succ]
  have h3:b.toNat*256 ^ r.length≤255*256 ^ r.length:=Nat.mul_le_mul_right _ (by omega)
  omega
theorem aV8 (n q:Int)(hq : 0<q):n%(q*256)=n/q%256*q+n%q:=by
 have h1:=Int.emod_nonneg n (Int.ne_of_gt hq)
 have h2:=Int.emod_lt_of_pos n hq
 have h3:=Int.emod_nonneg (n/q) (show (256:Int)≠0 by decide)
 have h4:=Int.emod_lt_of_pos (n/q) (show (0:Int)<256 by decide)
 have h5:=Int.mul_ediv_add_emod n q
 have h6:=Int.mul_ediv_add_emod (n/q) 256
 refine ((Int.ediv_emod_unique (q:=n/q/256) (Int.mul_pos hq (by decide))).2 ⟨?_,?_,?_⟩).2
 ·generalize n/q%256=a at *
  generalize n/q/256=b at *
  generalize n%q=r at *
  generalize n/q=d at *
  subst h6
  rw[← h5,Int.mul_add,Int.mul_comm q a,Int.mul_assoc]
  omega
 ·have:=Int.mul_nonneg h3 (Int.le_of_lt hq)
  omega
 ·have:=Int.mul_le_mul_of_nonneg_right (show n/q%256≤255 by omega) (Int.le_of_lt hq)
  omega
theorem aXd (n:Int):∀ k,((be (fixed n k):Nat):Int)=n%((256 ^ k:Nat):Int)
 | 0=>by simp[fixed,be]
 | k+1=>by
  have ih:=aXd n k
  simp only[fixed,be,aBL]
  rw[Int.natCast_add,Int.natCast_mul,ih,aSg]
  have e:(2:Int) ^ (8*k)=((256 ^ k:Nat):Int):=by
   rw[Int.pow_mul];norm_cast
  have hq0 : 0<((256 ^ k:Nat):Int):=Int.natCast_pos.2 (Nat.pow_pos (by decide))
  have e2:((256 ^ (k+1):Nat):Int)=((256 ^ k:Nat):Int)*256:=by rw[Nat.pow_succ,Int.natCast_mul];rfl
  rw[e,e2,aV8 n _ hq0]
def uvG:Nat→List UInt8→Option (Nat × List UInt8)
 | _,[]=>none
 | 0,b::r=>if b.toNat≤15 then some (b.toNat,r) else none
 | k+1,b::r=>if b.toNat<128 then some (b.toNat,r) else (uvG k r).map fun p=>(b.toNat - 128+128*p.1,p.2)
theorem aQM (rest:List UInt8):∀ (k n:Nat),n<16*128 ^ k→uvG k (uvarint n++rest)=some (n,rest)
 | 0,n,h=>by
  rw[aDv (by omega)]
  have:(UInt8.ofNat n).toNat=n:=by rw[UInt8.toNat_ofNat'];omega
  simp only[List.cons_append,List.nil_append,uvG,this]
  rw[if_pos (by omega)]
 | k+1,n,h=>by
  by_cases hn:n > 127
  ·have ih:=aQM rest k (n/128) (by rw[Nat.pow_succ] at h;omega)
   rw[aG3 hn]
   have:(UInt8.ofNat (n%128+128)).toNat=n%128+128:=by rw[UInt8.toNat_ofNat'];omega
   simp only[List.cons_append,uvG,this,ih,Option.map_some]
   rw[if_neg (by omega)]
   simp only[Option.some.injEq,Prod.mk.injEq,and_true]
   omega
  ·rw[aDv hn]
   have:(UInt8.ofNat n).toNat=n:=by rw[UInt8.toNat_ofNat'];omega
   simp only[List.cons_append,List.nil_append,uvG,this]
   rw[if_pos (by omega)]
namespace RS
def num (k:Nat)(s:RS):Nat × RS:=if s.l.length<k then (0,fail) else (be (s.l.take k),⟨some (s.l.drop k),s.bad⟩)
def uv (s:RS):Nat × RS:=match uvG 4 s.l with
 | some (n,r)=>(n,⟨some r,s.bad⟩)
 | none=>(0,fail)
def span (k:Int)(s:RS):Option (List UInt8) × RS:=if (s.l.length:Int)<k∨k<0 then (none,fail) else (s.src.map (List.take k.toNat),⟨s.src.map (List.drop k.toNat),s.bad⟩)
theorem num_fixed (n:Int)(k:Nat)(r:List UInt8):num k ⟨some (fixed n k++r),false⟩=((n%((256 ^ k:Nat):Int)).toNat,⟨some r,false⟩):=by
 have hl:=aBL n k
 unfold num RS.l
 simp only[Option.getD_some,List.length_append,hl]
 rw[if_neg (by omega)]
 have e1:(fixed n k++r).take k=fixed n k:=by rw[List.take_append_of_le_length (by omega),List.take_of_length_le (by omega)]
 have e2:(fixed n k++r).drop k=r:=by rw[List.drop_append_of_le_length (by omega),List.drop_of_length_le (by omega),List.nil_append]
 rw[e1,e2,← aXd]
 rfl
theorem uv_uvarint (n:Nat)(r:List UInt8)(h:n<4294967296):uv ⟨some (uvarint n++r),false⟩=(n,⟨some r,false⟩):=by
 unfold uv RS.l
 simp only[Option.getD_some]
 rw[aQM r 4 n (by omega)]
theorem span_app (b r:List UInt8):span (b.length:Int) ⟨some (b++r),false⟩=(some b,⟨some r,false⟩):=by
 unfold span RS.l
 simp only[Option.getD_some,List.length_append,Option.map_some,Int.toNat_natCast]
 rw[if_neg (by omega)]
 rw[List.take_append_of_le_length (by omega),List.take_of_length_le (by omega),List.drop_append_of_le_length (by omega),List.drop_of_length_le (by omega),List.nil_append]
end RS
def aK8 (k:Nat)(n:Int):Int :=
 match k with
 | 1=>IntKind.i8.wrap n
 | 2=>IntKind.i16.wrap n
 | 3=>IntKind.i32.wrap n
 | 5=>IntKind.u16.wrap n
 | 6=>IntKind.u64.wrap n
 | _=>IntKind.i64.wrap n
theorem aTJ (k:Nat)(n:Int):aK8 k ((n%((256 ^ width k:Nat):Int)).toNat:Int)=aK8 k n:=by
 have h:∀ w:Nat,((n%((256 ^ w:Nat):Int)).toNat:Int)=n%((256 ^ w:Nat):Int):=fun w =>
  Int.toNat_of_nonneg (Int.emod_nonneg _ (by
   have : 0<256 ^ w:=Nat.pow_pos (by decide)
   omega))
 rw[h]
 unfold aK8 width
 split<;>(simp only[IntKind.wrap,IntKind.bits,IntKind.signed];simp;try omega)
def aC6 (flex:Bool)(k:Nat)(ik:IntKind)(s:RS):Int × RS:=if flex then (((RS.uv s).1:Int) - 1,(RS.uv s).2) else (ik.wrap (RS.num k s).1,(RS.num k s).2)
def aBK (n:Int):T:=.mk n [] false [] []
def aCk (b:List UInt8):T:=.mk 0 b false [] []
def ofNil:T:=.mk 0 [] true [] []
def aEw (nul flex:Bool)(s:RS):T × RS :=
 if nul&&decide ((aC6 flex 2 .i16 s).1<0) then (ofNil,(aC6 flex 2 .i16 s).2)
 else (aCk ((RS.span (aC6 flex 2 .i16 s).1 (aC6 flex 2 .i16 s).2).1.getD []),(RS.span (aC6 flex 2 .i16 s).1 (aC6 flex 2 .i16 s).2).2)
def aXJ (o:Option (List UInt8)):T:=match o with
 | some b=>aCk b
 | none=>ofNil
def aQm (nul flex:Bool)(s:RS):T × RS :=
 if nul&&decide ((aC6 flex 4 .i32 s).1<0) then (ofNil,(aC6 flex 4 .i32 s).2)
 else if !nul&&decide ((aC6 flex 4 .i32 s).1=-1) then (aCk [],(aC6 flex 4 .i32 s).2)
 else (aXJ (RS.span (aC6 flex 4 .i32 s).1 (aC6 flex 4 .i32 s).2).1,(RS.span (aC6 flex 4 .i32 s).1 (aC6 flex 4 .i32 s).2).2)
def aND (kind:Nat)(nul flex:Bool)(pt:RS→Option (T × RS))(s:RS):Option (T × RS) :=
 match kind with
 | 0=>some (aBK (if (RS.num 1 s).1=0 then 0 else 1),(RS.num 1 s).2)
 | 7=>some (aCk (sixteen ((RS.span 16 s).1.getD [])),(RS.span 16 s).2)
 | 8=>some (aEw nul flex s)
 | 9=>some (aQm nul flex s)
 | 10=>pt s
 | k=>some (aBK (aK8 k (RS.num (width k) s).1),(RS.num (width k) s).2)
def aGv (one:RS→Option (T × RS)):Nat→RS→Option (List T × RS)
 | 0,s=>some ([],s)
 | n+1,s=>match one s with
  | some (t,s')=>match aGv one n s' with
   | some (l,s'')=>some (t::l,s'')
   | none=>none
  | none=>none
def aEp (flex:Bool)(s:RS):Int × RS :=
 let p:=if flex then (IntKind.i32.wrap ((RS.uv s).1:Int) - 1,(RS.uv s).2) else (IntKind.i32.wrap ((RS.num 4 s).1:Int),(RS.num 4 s).2)
 if (p.2.l.length:Int)<IntKind.i32.wrap p.1 then (0,.fail) else (IntKind.i32.wrap p.1,p.2)
def aRV (k:Nat)(b:List UInt8):List (Nat × List UInt8)→List (Nat × List UInt8)
 | []=>[(k,b)]
 | x::r=>if x.1=k then (k,b)::r else x::aRV k b r
def aPV (s:RS):Nat × List UInt8 × RS :=
 let a:=RS.uv s
 let b:=RS.uv a.2
 let c:=RS.span (b.1:Int) b.2
 (a.1,c.1.getD [],c.2)
def aJd:Nat→List (Nat × List UInt8)→RS→List (Nat × List UInt8) × RS
 | 0,u,s=>(u,s)
 | n+1,u,s=>aJd n (aRV (aPV s).1 (aPV s).2.1 u) (aPV s).2.2
def aI4 (s:RS):List (Nat × List UInt8) × RS:=aJd (RS.uv s).1 [] (RS.uv s).2
mutual
def dfF:Fld→T
 | .mk kind _ _ nu _ df _ sub =>
  if kind=7 then aCk (List.replicate 16 0)
  else if kind=8 then .mk 0 [] (decide (0≤nu)) [] []
  else if kind=9∨kind=11 then ofNil
  else if kind=10 then (if 0≤nu then ofNil else .mk 0 [] false (aSy sub) [])
  else aBK df
def aSy:List Fld→List T
 | []=>[]
 | f::r=>dfF f::aSy r
end
def Fld.may (f:Fld)(V:Int):Bool:=decide (0≤f.nu)&&decide (f.nu≤V)
def Fld.mayR (f:Fld)(V:Int):Bool:=f.may V||(Nat.beq f.kind 9&&Nat.beq f.of 1)
theorem aYq {f:Fld}{V:Int}(h:f.may V=true):f.mayR V=true:=by unfold Fld.mayR;rw[h];rfl
def rdQ (f:Fld)(V:Int)(flex:Bool)(pt:RS→Option (T × RS))(s:RS):Option (T × RS) :=
 if f.kind=11 then
  if (aEp flex s).2.bad then none
  else match aGv (aND f.of false flex pt) (aEp flex s).1.toNat (aEp flex s).2 with
   | some (l,s')=>some (.mk 0 [] (if 0≤f.nu then f.may V&&decide ((aEp flex s).1<0) else decide ((aEp flex s).1≤0)) l [],s')
   | none=>none
 else if f.kind=10∧0≤f.nu then
  if IntKind.i8.wrap ((RS.num 1 s).1:Int)≠-1∧(RS.num 1 s).2.bad=false then pt (RS.num 1 s).2 else some (ofNil,(RS.num 1 s).2)
 else aND f.kind (f.mayR V) flex pt s
def Fld.inl (f:Fld)(V:Int):Bool:=decide (f.tag<0)&&f.has V
theorem aML {f:Fld}{V:Int}(h:f.tag<0):f.inl V=f.has V:=by unfold Fld.inl;rw[decide_eq_true h,Bool.true_and]
def kIx:List Fld→Nat→Option Nat
 | [],_=>none
 | f::r,i=>if f.tag<0 then kIx r (i+1) else some i
def aEl (rk:RS→Option (T × RS)):Nat→Bool→T→List (Nat × List UInt8)→RS→Option (T × List (Nat × List UInt8) × RS)
 | 0,_,x,u,s=>some (x,u,s)
 | n+1,seen,x,u,s =>
  if (RS.uv s).1=0 then
   if seen then none
   else match rk ⟨(RS.span ((RS.uv (RS.uv s).2).1:Int) (RS.uv (RS.uv s).2).2).1,false⟩ with
    | some (t,s')=>if s'.bad then none else aEl rk n true t u (RS.span ((RS.uv (RS.uv s).2).1:Int) (RS.uv (RS.uv s).2).2).2
    | none=>none
  else aEl rk n seen x (aRV (aPV s).1 (aPV s).2.1 u) (aPV s).2.2
def aP3 (flex:Bool)(ix:Option Nat)(rk:RS→Option (T × RS))(fields:RS→Option (List T × RS))(s:RS):Option (T × RS) :=
 match fields s with
 | some (l,s') =>
  if flex then
   match ix with
   | none=>some (.mk 0 [] false l (aI4 s').1,(aI4 s').2)
   | some i=>match aEl rk (RS.uv s').1 false (l.getD i T.nil) [] (RS.uv s').2 with
    | some (x,u,s'')=>some (.mk 0 [] false (l.set i x) u,s'')
    | none=>none
  else some (.mk 0 [] false l [],s')
 | none=>none
mutual
def rdF:Fld→Int→Bool→RS→Option (T × RS)
 | .mk kind fr to nu tag df of sub,V,flex,s=>rdQ (.mk kind fr to nu tag df of []) V flex (aP3 flex (kIx sub 0) (aVg sub V flex) (aOs sub V flex)) s
def aOs:List Fld→Int→Bool→RS→Option (List T × RS)
 | [],_,_,s=>some ([],s)
 | f::r,V,flex,s =>
  if f.inl V then
   match rdF f V flex s with
   | some (t,s')=>match aOs r V flex s' with
    | some (l,s'')=>some (t::l,s'')
    | none=>none
   | none=>none
  else match aOs r V flex s with
   | some (l,s')=>some (dfF f::l,s')
   | none=>none
def aVg:List Fld→Int→Bool→RS→Option (T × RS)
 | [],_,_,_=>none
 | f::r,V,flex,s=>if f.tag<0 then aVg r V flex s else rdF f V flex s
end
def rdP (fs:List Fld)(V:Int)(flex:Bool)(s:RS):Option (T × RS):=aP3 flex (kIx fs 0) (aVg fs V flex) (aOs fs V flex) s
theorem aL6:uvarint 0=[0]:=aDv (by omega)
theorem aKT {flex null:Bool}{n k:Nat}{ik:IntKind}(hk:(k=2∧ik=.i16)∨(k=4∧ik=.i32))(hn:n≤32767)(r:List UInt8) :
  aC6 flex k ik ⟨some (counted flex null n k++r),false⟩=((if null then -1 else (n:Int)),⟨some r,false⟩):=by
 unfold aC6 counted
 cases flex with
 | true =>
  cases null with
  | true =>
   simp only[Bool.and_self,if_true]
   rw[← aL6,RS.uv_uvarint 0 r (by decide)]
   rfl
  | false =>
   simp only[Bool.and_false,Bool.false_eq_true,if_false,if_true]
   rw[RS.uv_uvarint (n+1) r (by omega)]
   simp only[Prod.mk.injEq,and_true]
   omega
 | false =>
  have h2:((32768:Int))=32768:=rfl
  cases null with
  | true =>
   simp only[Bool.false_and,Bool.false_eq_true,if_false,if_true]
   rw[RS.num_fixed]
   rcases hk with ⟨rfl,rfl⟩|⟨rfl,rfl⟩<;>simp only[Prod.mk.injEq,and_true]<;>decide
  | false =>
   simp only[Bool.false_and,Bool.false_eq_true,if_false]
   rw[RS.num_fixed]
   have e:((n:Int)%((256 ^ k:Nat):Int)).toNat=n:=by
    have:n<256 ^ k:=by rcases hk with ⟨rfl,_⟩|⟨rfl,_⟩<;>omega
    rw[Int.emod_eq_of_lt (by omega) (by exact_mod_cast this)]
    simp
   rw[e]
   simp only[Prod.mk.injEq,and_true]
   rcases hk with ⟨_,rfl⟩|⟨_,rfl⟩<;>(simp only[IntKind.wrap,IntKind.bits,IntKind.signed];simp;omega)
theorem aNB {nul flex null:Bool}(h:null=true→nul=true)(t:T)(r:List UInt8) :
  aEw nul flex ⟨some (counted flex null (if null then [] else whole t.s).length 2++(if null then [] else whole t.s)++r),false⟩=((if null then ofNil else aCk (whole t.s)),⟨some r,false⟩):=by
 have hw:=aBG t.s
 unfold aEw
 rw[List.append_assoc,aKT (.inl ⟨rfl,rfl⟩) (by split<;>simp_all)]
 cases null with
 | true=>simp[h rfl]
 | false =>
  simp only[Bool.false_eq_true,if_false]
  rw[RS.span_app]
  have : ¬ ((whole t.s).length:Int)<0:=by omega
  simp[this]
theorem aMW {nul flex null:Bool}(h:null=true→nul=true)(t:T)(r:List UInt8) :
  aQm nul flex ⟨some (counted flex null (if null then [] else whole t.s).length 4++(if null then [] else whole t.s)++r),false⟩=((if null then ofNil else aCk (whole t.s)),⟨some r,false⟩):=by
 have hw:=aBG t.s
 unfold aQm
 rw[List.append_assoc,aKT (.inr ⟨rfl,rfl⟩) (by split<;>simp_all)]
 cases null with
 | true=>simp[h rfl]
 | false =>
  simp only[Bool.false_eq_true,if_false]
  rw[RS.span_app]
  have h1 : ¬ ((whole t.s).length:Int)<0:=by omega
  have h2 : ¬ ((whole t.s).length:Int)=-1:=by omega
  simp[h1,h2,aXJ]
def aLS (kind:Nat)(null:Bool)(pt:T→T)(t:T):T :=
 match kind with
 | 0=>aBK (t.n%2)
 | 7=>aCk (sixteen t.s)
 | 8=>if null then ofNil else aCk (whole t.s)
 | 9=>if null then ofNil else aCk (whole t.s)
 | 10=>pt t
 | k=>aBK (aK8 k t.n)
theorem aLX {kind:Nat}{nul null flex:Bool}{pt:T→List UInt8}{rp:RS→Option (T × RS)}{gp:T→T}{t:T}(h:null=true→nul=true)
  (hp:kind=10→∀ r,rp ⟨some (pt t++r),false⟩=some (gp t,⟨some r,false⟩)) (r:List UInt8) :
  aND kind nul flex rp ⟨some (aC5 kind pt null flex t++r),false⟩=some (aLS kind null gp t,⟨some r,false⟩):=by
 by_cases h0:kind=0
 ·subst h0
  have e:[u8 (t.n%2)]=fixed (t.n%2) 1:=by simp[fixed]
  show some (aBK (if (RS.num 1 ⟨some ([u8 (t.n%2)]++r),false⟩).1=0 then 0 else 1),(RS.num 1 ⟨some ([u8 (t.n%2)]++r),false⟩).2)=_
  rw[e,RS.num_fixed]
  simp only[aLS,Option.some.injEq,Prod.mk.injEq,and_true]
  have key:∀ m:Int,m=0∨m=1→(if (m%((256 ^ 1:Nat):Int)).toNat=0 then (0:Int) else 1)=m:=by
   rintro m (rfl|rfl)<;>decide
  exact congrArg aBK (key _ (Int.emod_two_eq t.n))
 by_cases h7:kind=7
 ·subst h7
  have hs:=RS.span_app (sixteen t.s) r
  rw[aAK] at hs
  have hs':RS.span 16 ⟨some (sixteen t.s++r),false⟩=(some (sixteen t.s),⟨some r,false⟩):=hs
  show some (aCk (sixteen ((RS.span 16 ⟨some (sixteen t.s++r),false⟩).1.getD [])),(RS.span 16 ⟨some (sixteen t.s++r),false⟩).2)=_
  rw[hs']
  simp only[aLS,Option.getD_some,Option.some.injEq,Prod.mk.injEq,and_true]
  congr 1
  unfold sixteen
  rw[List.take_append_of_le_length (by simp),List.take_of_length_le (by simp)]
 by_cases h8:kind=8
 ·subst h8
  exact congrArg some (aNB h t r)
 by_cases h9:kind=9
 ·subst h9
  exact congrArg some (aMW h t r)
 by_cases h10:kind=10
 ·subst h10;exact hp rfl r
 ·rw[aJW h0 h7 h8 h9 h10]
  have e:aND kind nul flex rp ⟨some (fixed t.n (width kind)++r),false⟩=some (aBK (aK8 kind (RS.num (width kind) ⟨some (fixed t.n (width kind)++r),false⟩).1),(RS.num (width kind) ⟨some (fixed t.n (width kind)++r),false⟩).2):=by
   unfold aND;split<;>first|contradiction|rfl
  rw[e,RS.num_fixed]
  rw[aTJ]
  have e2:aLS kind null gp t=aBK (aK8 kind t.n):=by unfold aLS;split<;>first|contradiction|rfl
  rw[e2]
theorem aOB {flex null:Bool}{n:Nat}(hn:n≤32767)(r:List UInt8)(hr:null=false→n≤r.length) :
  aEp flex ⟨some (counted flex null n 4++r),false⟩=((if null then -1 else (n:Int)),⟨some r,false⟩):=by
 unfold aEp counted
 cases flex with
 | true =>
  cases null with
  | true =>
   simp only[Bool.and_self,if_true]
   rw[← aL6,RS.uv_uvarint 0 r (by decide)]
   have e:IntKind.i32.wrap (IntKind.i32.wrap ((0:Nat):Int) - 1)=-1:=by decide
   simp only[e]
   rw[if_neg (by omega)]
  | false =>
   simp only[Bool.and_false,Bool.false_eq_true,if_false,if_true]
   rw[RS.uv_uvarint (n+1) r (by omega)]
   have hr':=hr rfl
   have e:IntKind.i32.wrap (IntKind.i32.wrap ((n+1:Nat):Int) - 1)=(n:Int):=by
    simp only[IntKind.wrap,IntKind.bits,IntKind.signed];simp;omega
   simp only[e]
   have hrl:(RS.mk (some r) false).l.length=r.length:=rfl
   rw[if_neg (by rw[hrl];omega)]
 | false =>
  cases null with
  | true =>
   simp only[Bool.false_and,Bool.false_eq_true,if_false,if_true]
   rw[RS.num_fixed]
   have e:IntKind.i32.wrap (IntKind.i32.wrap ((((-1:Int)%((256 ^ 4:Nat):Int)).toNat:Nat):Int))=-1:=by decide
   simp only[e]
   rw[if_neg (by omega)]
  | false =>
   simp only[Bool.false_and,Bool.false_eq_true,if_false]
   rw[RS.num_fixed]
   have hr':=hr rfl
   have e0:((n:Int)%((256 ^ 4:Nat):Int)).toNat=n:=by omega
   rw[e0]
   have e:IntKind.i32.wrap (IntKind.i32.wrap (n:Int))=(n:Int):=by
    simp only[IntKind.wrap,IntKind.bits,IntKind.signed];simp;omega
   simp only[e]
   have hrl:(RS.mk (some r) false).l.length=r.length:=rfl
   rw[if_neg (by rw[hrl];omega)]
theorem aNb {one:RS→Option (T × RS)}{g:T→List UInt8}{h:T→T}:∀ (l:List T),(∀ x ∈ l,∀ r,one ⟨some (g x++r),false⟩=some (h x,⟨some r,false⟩))→∀ r,
  aGv one l.length ⟨some (l.flatMap g++r),false⟩=some (l.map h,⟨some r,false⟩)
 | [],_,r=>rfl
 | x::l,hx,r=>by
  simp only[List.length_cons,aGv,List.flatMap_cons,List.append_assoc]
  rw[hx x List.mem_cons_self]
  simp only
  rw[aNb l (fun y hy=>hx y (List.mem_cons_of_mem _ hy)) r]
  rfl
def aVn (f:Fld)(V:Int)(gp:T→T)(t:T):T :=
 if f.kind=11 then .mk 0 [] (if 0≤f.nu then f.null V t else (things t.l).isEmpty) (if f.null V t then [] else (things t.l).map (aLS f.of false gp)) []
 else if f.kind=10∧0≤f.nu then (if f.null V t then ofNil else gp t)
 else aLS f.kind (f.null V t) gp t
theorem aMl {f:Fld}{V:Int}{t:T}(h:f.null V t=true):f.may V=true:=by
 simp only[Fld.null,Fld.may,Bool.and_eq_true,decide_eq_true_eq] at h ⊢
 exact⟨h.1.2,h.2⟩
theorem aUO {g:T→List UInt8}:∀ (l:List T),(∀ x ∈ l,1≤(g x).length)→l.length≤(l.flatMap g).length
 | [],_=>by simp
 | x::l,h=>by
  have h1:=h x List.mem_cons_self
  have h2:=aUO l fun y hy=>h y (List.mem_cons_of_mem _ hy)
  simp only[List.flatMap_cons,List.length_append,List.length_cons];omega
theorem aRu {g:T→List UInt8}:∀ {l:List T} {x:T},x ∈ l→(g x).length≤(l.flatMap g).length
 | y::l,x,h=>by
  simp only[List.flatMap_cons,List.length_append]
  rcases List.mem_cons.1 h with rfl|h
  ·omega
  ·have:=aRu (g:=g) h;omega
theorem aS7 {f:Fld}{V:Int}{flex:Bool}{pt:T→List UInt8}{rp:RS→Option (T × RS)}{gp:T→T}{t:T}{K:Bool}(hsn:t.sane=true)
  (hp:∀ x:T,x.sane=true→(K=true→(pt x).length<4294967296)→∀ r,rp ⟨some (pt x++r),false⟩=some (gp x,⟨some r,false⟩)) (hlen:K=true→(aI2 f V flex pt t).length<4294967296) (hth:f.kind=11→∀ x:T,x.sane=true→1≤(aC5 f.of pt false flex x).length) (r:List UInt8) :
  rdQ f V flex rp ⟨some (aI2 f V flex pt t++r),false⟩=some (aVn f V gp t,⟨some r,false⟩):=by
 unfold rdQ aI2 aVn
 by_cases h11:f.kind=11
 ·rw[if_pos h11,if_pos h11,if_pos h11,List.append_assoc]
  have hl:(if f.null V t then [] else things t.l).length≤32767:=by split;exact Nat.zero_le _;exact aE6 t.l
  have hs:∀ x ∈ (if f.null V t then [] else things t.l),x.sane=true:=fun x hx=>(aBD hsn).2.2.2 x (by
   split at hx
   ·cases hx
   ·exact List.mem_of_mem_take hx)
  have hge:=aUO (if f.null V t then [] else things t.l) fun x hx=>hth h11 x (hs x hx)
  have hlx:∀ x ∈ (if f.null V t then [] else things t.l),K=true→(aC5 f.of pt false flex x).length<4294967296:=fun x hx hK=>by
   have h1:=hlen hK
   unfold aI2 at h1
   rw[if_pos h11,List.length_append] at h1
   have h2:=aRu (g:=aC5 f.of pt false flex) hx
   omega
  rw[aOB hl _ (fun _=>by rw[List.length_append];omega)]
  simp only[Bool.false_eq_true,if_false]
  have hn:(if f.null V t then (-1:Int) else (((if f.null V t then [] else things t.l).length:Nat):Int)).toNat=(if f.null V t then [] else things t.l).length:=by
   cases f.null V t<;>simp
  rw[hn,aNb (h:=aLS f.of false gp) _ (fun x hx=>aLX (fun h=>by cases h) fun h10=>hp x (hs x hx) fun hK=>by have:=hlx x hx hK;rw[h10] at this;exact this) r]
  simp only[Option.some.injEq,Prod.mk.injEq,and_true]
  cases hnl:f.null V t with
  | true =>
   have hm:=aMl hnl
   have hnu : 0≤f.nu:=by
    simp only[Fld.may,Bool.and_eq_true,decide_eq_true_eq] at hm
    exact hm.1
   simp[hm,hnu]
  | false =>
   simp only[Bool.false_eq_true,if_false]
   by_cases hnu : 0≤f.nu
   ·rw[if_pos hnu,if_pos hnu]
    have : ¬ (((things t.l).length:Nat):Int)<0:=by omega
    simp[this]
   ·rw[if_neg hnu,if_neg hnu]
    congr 1
    refine Bool.eq_iff_iff.2 ?_
    simp only[decide_eq_true_eq,List.isEmpty_iff]
    constructor
    ·intro h
     exact List.eq_nil_of_length_eq_zero (by omega)
    ·intro h;rw[h];simp
 ·rw[if_neg h11,if_neg h11,if_neg h11]
  by_cases h10:f.kind=10∧f.nu≥0
  ·rw[if_pos h10,if_pos h10,if_pos h10]
   cases hnl:f.null V t with
   | true =>
    simp only[if_true]
    rw[RS.num_fixed]
    rw[if_neg (by simp only[not_and];intro h;exact absurd (by decide) h)]
   | false =>
    simp only[Bool.false_eq_true,if_false,List.append_assoc]
    rw[RS.num_fixed]
    have e1:(((1:Int)%((256 ^ 1:Nat):Int)).toNat:Int)=1:=by decide
    simp only[e1]
    rw[if_pos (by first|decide|exact⟨by decide,trivial⟩)]
    refine hp t hsn (fun hK=>?_) r
    have h1:=hlen hK
    unfold aI2 at h1
    rw[if_neg h11,if_pos h10,hnl] at h1
    simp only[Bool.false_eq_true,if_false,List.length_append] at h1
    omega
  ·rw[if_neg h10,if_neg h10,if_neg h10]
   refine aLX (fun h=>aYq (aMl h)) (fun hk=>hp t hsn fun hK=>?_) r
   have h1:=hlen hK
   unfold aI2 at h1
   rw[if_neg h11,if_neg h10,hk] at h1
   exact h1
def Fld.gets (f:Fld)(V:Int)(flex:Bool)(x:T):Bool:=f.inl V||(decide (0≤f.tag)&&flex&&!aD8 f x)
theorem aQX {f:Fld}{V:Int}{flex:Bool}{x:T}(h:f.tag<0):f.gets V flex x=f.has V:=by
 unfold Fld.gets
 have:decide (0≤f.tag)=false:=decide_eq_false (by omega)
 rw[aML h,this,Bool.false_and,Bool.false_and,Bool.or_false]
mutual
def aPm:Fld→Int→Bool→T→T
 | .mk kind fr to nu tag df of sub,V,flex,t=>aVn (.mk kind fr to nu tag df of []) V (fun x=>.mk 0 [] false (aHB sub V flex x.l 0) (if flex then aUf sub x.u else [])) t
def aHB:List Fld→Int→Bool→List T→Nat→List T
 | [],_,_,_,_=>[]
 | f::r,V,flex,l,i=>(if f.gets V flex (l.getD i T.nil) then aPm f V flex (l.getD i T.nil) else dfF f)::aHB r V flex l (i+1)
end
def aGb (fs:List Fld)(V:Int)(flex:Bool)(t:T):T:=.mk 0 [] false (aHB fs V flex t.l 0) (if flex then aUf fs t.u else [])
theorem aOL (f:Fld)(V:Int)(flex:Bool)(t:T):aPm f V flex t=aVn f V (aGb f.sub V flex) t:=by cases f;rfl
theorem aL4 (f:Fld)(V:Int)(flex:Bool)(s:RS):rdF f V flex s=rdQ f V flex (rdP f.sub V flex) s:=by cases f;rfl
mutual
def aZC:Fld→Int→Bool→Bool
 | .mk kind _ _ nu _ _ _ sub,V,flex=>!Nat.beq kind 10||decide (0≤nu)||flex||aSZ sub V flex
def aSZ:List Fld→Int→Bool→Bool
 | [],_,_=>false
 | f::r,V,flex=>(f.inl V&&aZC f V flex)||aSZ r V flex
end
def aTo (fs:List Fld)(V:Int)(flex:Bool):Bool:=flex||aSZ fs V flex
theorem aZf (f:Fld)(V:Int)(flex:Bool):aZC f V flex=(!Nat.beq f.kind 10||decide (0≤f.nu)||aTo f.sub V flex):=by
 cases f;unfold aZC aTo;exact Bool.or_assoc _ _ _
mutual
def bAS:Fld→Int→Bool→Bool
 | .mk kind _ _ _ _ _ of sub,V,flex=>(!Nat.beq kind 11||!Nat.beq of 10||aTo sub V flex)&&aL8 sub V flex
def aL8:List Fld→Int→Bool→Bool
 | [],_,_=>true
 | f::r,V,flex=>(bAS f V flex||(decide (0≤f.tag)&&!flex))&&aL8 r V flex
end
theorem aQT {V:Int}{flex:Bool}:∀ {fs:List Fld},aL8 fs V flex=true→∀ f ∈ fs,(f.tag<0∨flex=true)→bAS f V flex=true
 | [],_,_,h,_=>by cases h
 | g::r,h,f,hf,ho=>by
  simp only[aL8,Bool.and_eq_true,Bool.or_eq_true] at h
  cases hf with
  | head =>
   rcases h.1 with h1|h1
   ·exact h1
   ·simp only[decide_eq_true_eq,Bool.not_eq_true'] at h1
    rcases ho with ho|ho
    ·omega
    ·rw[h1.2] at ho;cases ho
  | tail _ hf=>exact aQT h.2 f hf ho
theorem aYh {f:Fld}{V:Int}(h:f.inl V=true):f.tag<0:=by
 unfold Fld.inl at h
 simp only[Bool.and_eq_true,decide_eq_true_eq] at h
 exact h.1
theorem aYE {f:Fld}{V:Int}{flex:Bool}(h:bAS f V flex=true):(f.kind=11→f.of=10→aTo f.sub V flex=true)∧aL8 f.sub V flex=true:=by
 cases f with
 | mk kind fr to nu tag df of sub =>
  simp only[bAS,Bool.and_eq_true] at h
  refine⟨fun h1 h2=>?_,h.2⟩
  have h1':kind=11:=h1
  have h2':of=10:=h2
  subst h1' h2'
  show aTo sub V flex=true
  simpa using h.1
theorem aNr (n:Nat) : 1≤(uvarint n).length:=by
 by_cases h:n > 127
 ·rw[aG3 h];simp
 ·rw[aDv h];simp
theorem aKG {flex null:Bool}{n k:Nat}(hk : 1≤k) : 1≤(counted flex null n k).length:=by
 unfold counted
 split
 ·simp
 ·split
  ·exact aNr _
  ·split<;>(rw[aBL];exact hk)
theorem aU5 (k:Nat) : 1≤width k:=by unfold width;split<;>omega
theorem aNZ {kind:Nat}{pt:T→List UInt8}{null flex:Bool}{t:T}(h:kind=10→1≤(pt t).length) : 1≤(aC5 kind pt null flex t).length:=by
 by_cases h0:kind=0
 ·subst h0;exact Nat.le_refl 1
 by_cases h7:kind=7
 ·subst h7;show 1≤(sixteen t.s).length;rw[aAK];omega
 by_cases h8:kind=8
 ·subst h8
  show 1≤(counted flex null _ 2++_).length
  rw[List.length_append]
  have:=aKG (flex:=flex) (null:=null) (n:=(if null then [] else whole t.s).length) (k:=2) (by decide)
  omega
 by_cases h9:kind=9
 ·subst h9
  show 1≤(counted flex null _ 4++_).length
  rw[List.length_append]
  have:=aKG (flex:=flex) (null:=null) (n:=(if null then [] else whole t.s).length) (k:=4) (by decide)
  omega
 by_cases h10:kind=10
 ·subst h10;exact h rfl
 ·rw[aJW h0 h7 h8 h9 h10,aBL];exact aU5 kind
theorem aSQ {f:Fld}{V:Int}{flex:Bool}{pt:T→List UInt8}{t:T}(h:f.kind=10→f.nu<0→1≤(pt t).length) : 1≤(aI2 f V flex pt t).length:=by
 unfold aI2
 split
 ·rw[List.length_append]
  have:=aKG (flex:=flex) (null:=f.null V t) (n:=(if f.null V t then [] else things t.l).length) (k:=4) (by decide)
  omega
 ·split
  ·split
   ·simp[aBL]
   ·rw[List.length_append,aBL];omega
  ·rename_i h1
   exact aNZ fun h10=>h h10 (by omega)
mutual
def aZE:Fld→Bool
 | .mk _ _ _ _ tag _ _ sub=>decide (tag<1)&&aHR sub
def aHR:List Fld→Bool
 | []=>true
 | f::r=>aZE f&&aHR r&&(decide (f.tag<0)||r.all fun g=>decide (g.tag<0))
end
theorem aMP:∀ {fs:List Fld},aHR fs=true→∀ f ∈ fs,aZE f=true
 | [],_,_,h=>by cases h
 | g::r,h,f,hf=>by
  simp only[aHR,Bool.and_eq_true] at h
  cases hf with
  | head=>exact h.1.1
  | tail _ hf=>exact aMP h.1.2 f hf
theorem aLi {f:Fld}(h:aZE f=true):f.tag<1∧aHR f.sub=true:=by
 cases f
 simp only[aZE,Bool.and_eq_true,decide_eq_true_eq] at h
 exact h
theorem aPE:∀ {fs:List Fld},aC1 fs=true→fs.all (fun g=>decide (g.tag<0))=true
 | [],_=>rfl
 | f::r,h=>by
  simp only[aC1,Bool.and_eq_true] at h
  simp only[List.all_cons,Bool.and_eq_true,decide_eq_true_eq]
  exact⟨aT4 h.1,aPE h.2⟩
theorem aN9 {f:Fld}{V:Int}{flex:Bool}{t:T}(h:f.inl V=true):aI3 f V flex t=aBt f V flex t:=by
 unfold aI3
 unfold Fld.inl at h
 rw[if_pos h]
theorem aSY {f:Fld}{V:Int}{flex:Bool}{t:T}(h:f.inl V=false):aI3 f V flex t=[]:=by
 unfold aI3
 rw[if_neg (by unfold Fld.inl at h;rw[h];simp)]
theorem aPN (V:Int)(flex:Bool)(t:T):∀ (fs:List Fld) (i:Nat),(∀ f ∈ fs,aZC f V flex=true→∀ t:T,1≤(aBt f V flex t).length)→aSZ fs V flex=true→1≤(aCJ fs V (aBE fs V flex t.l i)).length
 | [],i,_,h=>by simp[aSZ] at h
 | f::r,i,hf,h=>by
  rw[aFp,List.length_append]
  simp only[aSZ,Bool.or_eq_true,Bool.and_eq_true] at h
  rcases h with h|h
  ·have h1:=hf f List.mem_cons_self h.2 (t.l.getD i T.nil)
   rw[aN9 h.1]
   omega
  ·have:=aPN V flex t r (i+1) (fun g hg=>hf g (List.mem_cons_of_mem _ hg)) h
   omega
theorem aMV {fs:List Fld}{V:Int}{flex:Bool}(hf:∀ f ∈ fs,aZC f V flex=true→∀ t:T,1≤(aBt f V flex t).length)(h:aTo fs V flex=true)(t:T) : 1≤(aBk fs V flex t).length:=by
 cases flex with
 | true =>
  unfold aBk aO7
  simp only[if_true,List.length_append]
  have:=aNr (((List.range (known fs)).flatMap fun tag=>aFb tag fs t.l 0 (aBE fs V true t.l 0)).length+(aAo fs t.u).length)
  omega
 | false =>
  rw[aJe rfl,aIc]
  exact aPN V false t fs 0 hf (by simpa [aTo] using h)
theorem aUm {flex:Bool}(V:Int):∀ f:Fld,aZC f V flex=true→∀ t:T,1≤(aBt f V flex t).length:=aEW fun f ih h t=>by
 rw[aK1]
 refine aSQ fun h10 hnu=>?_
 rw[aZf,h10] at h
 have h':aTo f.sub V flex=true:=by
  have:decide (0≤f.nu)=false:=decide_eq_false (by omega)
  simpa [this] using h
 exact aMV (fun g hg=>ih g hg) h' t
theorem aJb {flex:Bool}{fs:List Fld}{V:Int}(h:aTo fs V flex=true)(t:T) : 1≤(aBk fs V flex t).length :=
 aMV (fun f _=>aUm V f) h t
theorem aPh {k:Nat}{b:List UInt8}:∀ {u:List (Nat × List UInt8)},(∀ x ∈ u,x.1≠k)→aRV k b u=u++[(k,b)]
 | [],_=>rfl
 | x::r,h=>by
  simp only[aRV]
  rw[if_neg (h x List.mem_cons_self),aPh fun y hy=>h y (List.mem_cons_of_mem _ hy)]
  rfl
theorem aNQ (k:Nat)(b r:List UInt8)(hk:k<4294967296)(hb:b.length<4294967296):aPV ⟨some (aDt k b++r),false⟩=(k,b,⟨some r,false⟩):=by
 unfold aPV aDt
 simp only[List.append_assoc]
 rw[RS.uv_uvarint k _ hk]
 simp only
 rw[RS.uv_uvarint b.length _ hb]
 simp only
 rw[RS.span_app]
 rfl
theorem aLU (r:List UInt8):∀ (u acc:List (Nat × List UInt8)),rising u→(∀ x ∈ acc,∀ p ∈ u,x.1≠p.1)→(∀ p ∈ u,p.1<4294967296) →
  aJd u.length acc ⟨some (u.flatMap (fun p=>aDt p.1 (whole p.2))++r),false⟩=(acc++u.map (fun p=>(p.1,whole p.2)),⟨some r,false⟩)
 | [],acc,_,_,_=>by simp[aJd]
 | p::u,acc,hr,ha,hk=>by
  simp only[List.length_cons,aJd,List.flatMap_cons,List.append_assoc]
  have hw:=aBG p.2
  rw[aNQ _ _ _ (hk p List.mem_cons_self) (by omega)]
  simp only
  rw[aPh fun x hx=>ha x hx p List.mem_cons_self]
  rw[aLU r u (acc++[(p.1,whole p.2)]) hr.2 ?_ fun q hq=>hk q (List.mem_cons_of_mem _ hq)]
  ·simp
  ·intro x hx q hq
   rcases List.mem_append.1 hx with hx|hx
   ·exact ha x hx q (List.mem_cons_of_mem _ hq)
   ·simp only[List.mem_singleton] at hx
    subst hx
    have:=hr.1 q hq
    show p.1≠q.1
    omega
theorem aQP {fs:List Fld}{t:T}(hsn:t.sane=true)(r:List UInt8):aI4 ⟨some (uvarint (aAo fs t.u).length++((aAo fs t.u).flatMap (fun p=>aDt p.1 (whole p.2))++r)),false⟩=(aUf fs t.u,⟨some r,false⟩):=by
 have hl:=aG0 fs t.u
 unfold aI4
 rw[RS.uv_uvarint _ _ (by omega)]
 simp only
 rw[aLU r _ [] (aFY fs t.u).1 (fun x hx=>by cases hx) fun p hp=>aH8 hsn p ((aFY fs t.u).2 p hp)]
 rfl
def aL9:List Fld→Int→Bool→List T→Nat→List T
 | [],_,_,_,_=>[]
 | f::r,V,flex,l,i=>(if f.inl V then aPm f V flex (l.getD i T.nil) else dfF f)::aL9 r V flex l (i+1)
theorem aOa {V:Int}{flex K:Bool}{t:T}(hsn:t.sane=true):∀ (fs:List Fld) (i:Nat),(∀ f ∈ fs,(f.tag<0∨flex=true)→∀ t:T,t.sane=true→(K=true→(aBt f V flex t).length<4294967296)→∀ r,rdF f V flex ⟨some (aBt f V flex t++r),false⟩=some (aPm f V flex t,⟨some r,false⟩)) →
  (K=true→(aCJ fs V (aBE fs V flex t.l i)).length<4294967296)→∀ r,aOs fs V flex ⟨some (aCJ fs V (aBE fs V flex t.l i)++r),false⟩=some (aL9 fs V flex t.l i,⟨some r,false⟩)
 | [],i,_,_,r=>by simp[aCJ,aOs,aL9]
 | f::rs,i,hf,hl,r=>by
  have ih:=aOa (K:=K) hsn rs (i+1) (fun g hg=>hf g (List.mem_cons_of_mem _ hg)) (fun hK=>by
   have:=hl hK
   rw[aFp,List.length_append] at this
   omega) r
  rw[aFp] at hl ⊢
  simp only[aOs,aL9]
  cases hh:f.inl V with
  | true =>
   rw[aN9 hh] at hl ⊢
   rw[List.append_assoc,hf f List.mem_cons_self (.inl (aYh hh)) _ (aMv hsn t.l (fun _ hx=>hx) i) fun hK=>by
    have:=hl hK
    rw[List.length_append] at this
    omega]
   simp only[if_true]
   rw[ih]
  | false =>
   rw[aSY hh,List.nil_append,ih]
   simp
theorem aLh {V:Int}{flex:Bool}{l:List T}:∀ (fs:List Fld) (i:Nat),(flex=false∨fs.all (fun g=>decide (g.tag<0))=true)→aHB fs V flex l i=aL9 fs V flex l i
 | [],_,_=>rfl
 | f::r,i,h=>by
  simp only[aHB,aL9]
  rw[aLh r (i+1) (h.imp id fun h=>by simp only[List.all_cons,Bool.and_eq_true] at h;exact h.2)]
  have e:f.gets V flex (l.getD i T.nil)=f.inl V:=by
   unfold Fld.gets
   rcases h with h|h
   ·rw[h];simp
   ·simp only[List.all_cons,Bool.and_eq_true,decide_eq_true_eq] at h
    have:decide (0≤f.tag)=false:=decide_eq_false (by omega)
    rw[this];simp
  rw[e]
theorem aOz:∀ {fs:List Fld} {i:Nat},fs.all (fun g=>decide (g.tag<0))=true→kIx fs i=none
 | [],_,_=>rfl
 | f::r,i,h=>by
  simp only[List.all_cons,Bool.and_eq_true,decide_eq_true_eq] at h
  unfold kIx
  rw[if_pos h.1,aOz h.2]
theorem aLe:∀ {fs:List Fld},fs.all (fun g=>decide (g.tag<0))=true→known fs=0
 | [],_=>rfl
 | f::r,h=>by
  simp only[List.all_cons,Bool.and_eq_true,decide_eq_true_eq] at h
  show max (if f.tag≥0 then f.tag.toNat+1 else 0) (known r)=0
  rw[if_neg (by omega),aLe h.2]
  rfl
theorem aNT {k:Nat}{l:List T}:∀ {fs:List Fld} {i:Nat} {outs:List (List UInt8)},fs.all (fun g=>decide (g.tag<0))=true→aFb k fs l i outs=[]
 | [],_,_,_=>rfl
 | f::r,i,outs,h=>by
  simp only[List.all_cons,Bool.and_eq_true,decide_eq_true_eq] at h
  unfold aFb
  have:decide (f.tag=(k:Int))=false:=decide_eq_false (by omega)
  rw[aNT h.2,this]
  simp
theorem aNy {V:Int}{l:List T}:∀ {fs:List Fld} (i:Nat),aHR fs=true→fs.all (fun g=>decide (g.tag<0))=true∨∃ k f,fs[k]? = some f∧f.tag=0∧kIx fs i=some (i+k)∧known fs=1∧(∀ s,aVg fs V true s=rdF f V true s) ∧
   aFb 0 fs l i (aBE fs V true l i)=(if aD8 f (l.getD (i+k) T.nil) then [] else [aDt 0 (aBt f V true (l.getD (i+k) T.nil))]) ∧
   aHB fs V true l i=(aL9 fs V true l i).set k (if aD8 f (l.getD (i+k) T.nil) then dfF f else aPm f V true (l.getD (i+k) T.nil))∧(aL9 fs V true l i).getD k T.nil=dfF f
 | [],i,_=>.inl rfl
 | f::r,i,h=>by
  simp only[aHR,Bool.and_eq_true,Bool.or_eq_true,decide_eq_true_eq] at h
  obtain⟨⟨h1,h2⟩,h3⟩:=h
  have ht:=(aLi h1).1
  by_cases h0:f.tag<0
  ·rcases aNy (V:=V) (l:=l) (i+1) h2 with h|⟨k,g,e1,e2,e3,e4,e5,e6,e7,e8⟩
   ·left
    simp only[List.all_cons,Bool.and_eq_true,decide_eq_true_eq]
    exact⟨h0,h⟩
   ·right
    refine⟨k+1,g,by simpa using e1,e2,?_,?_,fun s=>?_,?_,?_,?_⟩
    ·unfold kIx
     rw[if_pos h0,e3]
     congr 1
     omega
    ·show max (if f.tag≥0 then f.tag.toNat+1 else 0) (known r)=1
     rw[if_neg (by omega),e4]
     rfl
    ·unfold aVg
     rw[if_pos h0,e5]
    ·unfold aFb
     have hd:decide (f.tag=((0:Nat):Int))=false:=decide_eq_false (by omega)
     have e9:aBE (f::r) V true l i=aBt f V true (l.getD i T.nil)::aBE r V true l (i+1):=rfl
     rw[hd,e9,List.tail_cons,e6,show i+1+k=i+(k+1) by omega]
     simp
    ·simp only[aHB,aL9]
     rw[e7,aQX h0,aML h0,show i+1+k=i+(k+1) by omega]
     simp
    ·simp only[aL9,List.getD_cons_succ]
     exact e8
  ·right
   have hr:r.all (fun g=>decide (g.tag<0))=true:=h3.resolve_left h0
   have hz:f.tag=0:=by omega
   have hinl:f.inl V=false:=by unfold Fld.inl;rw[decide_eq_false h0];rfl
   refine⟨0,f,rfl,hz,?_,?_,fun s=>?_,?_,?_,?_⟩
   ·unfold kIx
    rw[if_neg h0]
    rfl
   ·show max (if f.tag≥0 then f.tag.toNat+1 else 0) (known r)=1
    rw[if_pos (by omega),aLe hr,hz]
    rfl
   ·unfold aVg
    rw[if_neg h0]
   ·unfold aFb
    have e9:aBE (f::r) V true l i=aBt f V true (l.getD i T.nil)::aBE r V true l (i+1):=rfl
    rw[aNT hr,e9,Nat.add_zero,hz]
    cases aD8 f (l.getD i T.nil)<;>simp
   ·simp only[aHB,aL9]
    rw[aLh r (i+1) (.inr hr)]
    have e:f.gets V true (l.getD i T.nil)=!aD8 f (l.getD i T.nil):=by
     unfold Fld.gets
     rw[hinl,decide_eq_true (show (0:Int)≤f.tag by omega)]
     simp
    rw[e,Nat.add_zero]
    cases aD8 f (l.getD i T.nil)<;>simp
   ·simp only[aL9,List.getD_cons_zero]
    rw[hinl]
    simp
theorem aZY (fs:List Fld)(u:List (Nat × List UInt8)):∀ p ∈ aAo fs u,known fs≤p.1:=by
 have key:∀ (l out:List (Nat × List UInt8)),(∀ p ∈ out,known fs≤p.1)→∀ p ∈ l.foldl (fun out t=>if t.1<known fs then out else aCY t out) out,known fs≤p.1:=by
  intro l
  induction l with
  | nil=>intro out h;exact h
  | cons x r ih =>
   intro out h
   simp only[List.foldl_cons]
   refine ih _ ?_
   by_cases hx:x.1<known fs
   ·rw[if_pos hx];exact h
   ·rw[if_neg hx]
    have ins:∀ (o:List (Nat × List UInt8)),(∀ p ∈ o,known fs≤p.1)→∀ p ∈ aCY x o,known fs≤p.1:=by
     intro o
     induction o with
     | nil =>
      intro _ p hp
      simp only[aCY,List.mem_singleton] at hp
      subst hp;omega
     | cons y q ihq =>
      intro ho p hp
      unfold aCY at hp
      split at hp
      ·rcases List.mem_cons.1 hp with rfl|hp
       ·exact ho _ List.mem_cons_self
       ·exact ihq (fun z hz=>ho z (List.mem_cons_of_mem _ hz)) p hp
      ·split at hp
       ·exact ho p hp
       ·rcases List.mem_cons.1 hp with rfl|hp
        ·omega
        ·exact ho p hp
    exact ins out h
 exact key (u.take 32767) [] (fun p hp=>by cases hp)
theorem aJs {rk:RS→Option (T × RS)}{x:T}{seen:Bool}(r:List UInt8):∀ (u acc:List (Nat × List UInt8)),rising u→(∀ x ∈ acc,∀ p ∈ u,x.1≠p.1)→(∀ p ∈ u,p.1<4294967296)→(∀ p ∈ u,1≤p.1) →
  aEl rk u.length seen x acc ⟨some (u.flatMap (fun p=>aDt p.1 (whole p.2))++r),false⟩=some (x,acc++u.map (fun p=>(p.1,whole p.2)),⟨some r,false⟩)
 | [],acc,_,_,_,_=>by simp[aEl]
 | p::u,acc,hr,ha,hk,h1=>by
  have hw:=aBG p.2
  have hk0:=hk p List.mem_cons_self
  have hp1:=h1 p List.mem_cons_self
  simp only[List.length_cons,aEl,List.flatMap_cons,List.append_assoc]
  have e0:(RS.uv ⟨some (aDt p.1 (whole p.2)++(u.flatMap (fun p=>aDt p.1 (whole p.2))++r)),false⟩).1=p.1:=by
   unfold aDt
   rw[List.append_assoc,List.append_assoc,RS.uv_uvarint _ _ hk0]
  rw[e0,if_neg (by omega),aNQ _ _ _ hk0 (by omega)]
  simp only
  rw[aPh fun x hx=>ha x hx p List.mem_cons_self]
  rw[aJs r u (acc++[(p.1,whole p.2)]) hr.2 ?_ (fun q hq=>hk q (List.mem_cons_of_mem _ hq)) fun q hq=>h1 q (List.mem_cons_of_mem _ hq)]
  ·simp
  ·intro x hx q hq
   rcases List.mem_append.1 hx with hx|hx
   ·exact ha x hx q (List.mem_cons_of_mem _ hq)
   ·simp only[List.mem_singleton] at hx
    subst hx
    have:=hr.1 q hq
    show p.1≠q.1
    omega
theorem aXn {fs:List Fld}{V:Int}{flex K:Bool}(ho:aHR fs=true)(hK:K=false→fs.all (fun g=>decide (g.tag<0))=true)(hf:∀ f ∈ fs,(f.tag<0∨flex=true)→∀ t:T,t.sane=true→(K=true→(aBt f V flex t).length<4294967296)→∀ r,rdF f V flex ⟨some (aBt f V flex t++r),false⟩=some (aPm f V flex t,⟨some r,false⟩))
  (t:T) (hsn:t.sane=true) (hlen:K=true→(aBk fs V flex t).length<4294967296) (r:List UInt8) :
  rdP fs V flex ⟨some (aBk fs V flex t++r),false⟩=some (aGb fs V flex t,⟨some r,false⟩):=by
 have hpl:(aCJ fs V (aBE fs V flex t.l 0)).length≤(aBk fs V flex t).length:=by
  unfold aBk aO7
  split
  ·simp only[List.length_append];omega
  ·exact Nat.le_refl _
 have hplain:=aOa (K:=K) hsn fs 0 hf fun h=>Nat.lt_of_le_of_lt hpl (hlen h)
 unfold rdP aP3 aGb
 cases flex with
 | false =>
  rw[aJe rfl,aIc,hplain,aLh fs 0 (.inl rfl)]
  simp
 | true =>
  have hul:=aG0 fs t.u
  have hur:=aFY fs t.u
  rcases aNy (V:=V) (l:=t.l) 0 ho with hall|⟨k,f,e1,e2,e3,e4,e5,e6,e7,e8⟩
  ·rw[aSp rfl (aLe hall),aIc,List.append_assoc,List.append_assoc,hplain,aLh fs 0 (.inr hall),aOz hall]
   simp only[if_true]
   rw[aQP hsn]
  ·have hKt:K=true:=by
    cases hK':K with
    | true=>rfl
    | false =>
     have:=List.all_eq_true.1 (hK hK') f (List.mem_of_getElem? e1)
     simp only[decide_eq_true_eq] at this
     omega
   have hl:=hlen hKt
   rw[Nat.zero_add] at e3 e6 e7
   have ep:aBk fs V true t=aCJ fs V (aBE fs V true t.l 0)++uvarint ((aFb 0 fs t.l 0 (aBE fs V true t.l 0)).length+(aAo fs t.u).length)++(aFb 0 fs t.l 0 (aBE fs V true t.l 0)).flatten++(aAo fs t.u).flatMap (fun u=>aDt u.1 (whole u.2)):=by
    unfold aBk aO7
    simp[e4]
   rw[ep] at hl ⊢
   simp only[List.append_assoc]
   rw[hplain,e3]
   simp only[if_true]
   have hge:∀ p ∈ aAo fs t.u,1≤p.1:=fun p hp=>by have:=aZY fs t.u p hp;omega
   have hkeys:∀ p ∈ aAo fs t.u,p.1<4294967296:=fun p hp=>aH8 hsn p (hur.2 p hp)
   rw[e6] at hl ⊢
   rw[e7,e8]
   cases hus:aD8 f (t.l.getD k T.nil) with
   | true =>
    rw[hus] at hl
    simp only[if_true,List.length_nil,Nat.zero_add,List.flatten_nil,List.nil_append] at hl ⊢
    rw[RS.uv_uvarint _ _ (by omega)]
    simp only
    rw[aJs r _ [] hur.1 (fun x hx=>by cases hx) hkeys hge]
    rfl
   | false =>
    rw[hus] at hl
    simp only[Bool.false_eq_true,if_false,List.length_singleton,List.flatten_cons,List.flatten_nil,List.append_nil] at hl ⊢
    have hfl:(aBt f V true (t.l.getD k T.nil)).length<4294967296:=by
     simp only[aDt,List.length_append] at hl
     omega
    rw[RS.uv_uvarint _ _ (by omega),Nat.add_comm 1 (aAo fs t.u).length]
    simp only[aEl]
    have hu0:∀ r',RS.uv ⟨some (uvarint 0++r'),false⟩=(0,⟨some r',false⟩):=fun r'=>RS.uv_uvarint 0 r' (by decide)
    have e9:aDt 0 (aBt f V true (t.l.getD k T.nil))++((aAo fs t.u).flatMap (fun u=>aDt u.1 (whole u.2))++r)=uvarint 0++(uvarint (aBt f V true (t.l.getD k T.nil)).length++(aBt f V true (t.l.getD k T.nil)++((aAo fs t.u).flatMap (fun u=>aDt u.1 (whole u.2))++r))):=by
     unfold aDt
     simp only[List.append_assoc]
    rw[e9,hu0]
    simp only[if_true,Bool.false_eq_true,if_false]
    rw[RS.uv_uvarint _ _ hfl]
    simp only
    rw[RS.span_app,e5]
    have hrd:=hf f (List.mem_of_getElem? e1) (.inr rfl) (t.l.getD k T.nil) (aMv hsn t.l (fun _ hx=>hx) k) (fun _=>hfl) []
    rw[List.append_nil] at hrd
    simp only[hrd]
    rw[if_neg (by simp)]
    rw[aJs r _ [] hur.1 (fun x hx=>by cases hx) hkeys hge]
    rfl
theorem aTB {flex K:Bool}(V:Int):∀ f:Fld,aZE f=true→(K=false→aJ4 f=true)→bAS f V flex=true→∀ t:T,t.sane=true→(K=true→(aBt f V flex t).length<4294967296)→∀ r,rdF f V flex ⟨some (aBt f V flex t++r),false⟩=some (aPm f V flex t,⟨some r,false⟩):=aEW fun f ih ho hn hk t hsn hlen r=>by
 obtain⟨h1,h2⟩:=aYE hk
 have ho2:=(aLi ho).2
 rw[aL4,aOL]
 rw[aK1] at hlen ⊢
 exact aS7 (K:=K) hsn (fun x hx hl r=>aXn (K:=K) ho2 (fun h=>aPE (aJc (hn h))) (fun g hg hor=>ih g hg (aMP ho2 g hg) (fun h=>aK7 (aJc (hn h)) g hg) (aQT h2 g hg hor)) x hx hl r) hlen
  (fun h11 x hx=>aNZ fun h10=>aJb (h1 h11 h10) x) r
theorem aPH {flex:Bool}{fs:List Fld}{V:Int}(ho:aHR fs=true)(hk:aL8 fs V flex=true)(t:T)(hsn:t.sane=true)(hlen:(aBk fs V flex t).length<4294967296)(r:List UInt8) :
  rdP fs V flex ⟨some (aBk fs V flex t++r),false⟩=some (aGb fs V flex t,⟨some r,false⟩) :=
 aXn (K:=true) ho (fun h=>by cases h) (fun f hf hor=>aTB (K:=true) V f (aMP ho f hf) (fun h=>by cases h) (aQT hk f hf hor)) t hsn (fun _=>hlen) r
end Go.Mk
namespace Go.Mk
open Go
open Go.ChangeMaps (setBlock)
theorem aGE.len {w:World}{r:Nat}{ks:List Nat}{vs:List Value}(h:aGE w r ks vs):ks.length=vs.length:=by
 obtain⟨_,_,_,_,h3,_⟩:=h;exact h3
def aPw (P:Program)(t:Nat):Option (Nat × Nat):=match P.underlying t with
 | some (.map k e)=>match P.underlying k with
  | some (.int .u32)=>some (k,e)
  | _=>none
 | _=>none
theorem aJR {P:Program}{t k e:Nat}(h:aPw P t=some (k,e)):P.underlying t=some (.map k e)∧P.underlying k=some (.int .u32):=by
 unfold aPw at h
 split at h
 ·rename_i k' e' h1
  split at h
  ·rename_i h2
   simp only[Option.some.injEq,Prod.mk.injEq] at h
   obtain⟨rfl,rfl⟩:=h
   exact⟨h1,h2⟩
  ·cases h
 ·cases h
theorem aJN {P:Program}{w:World}{r:Nat}{es:Array MapEntry}{clk:Nat}(h:w.heap[r]? = some (.map es clk)):(getObj r).run P w=.ok (.map es clk) w:=by
 simp[getObj,Sem.run,h]
def aHr:List Nat→Nat→Option Nat
 | [],_=>none
 | k::r,x=>if x=k then some 0 else (aHr r x).map (·+1)
theorem aLY {x:Nat}:∀ {es:List MapEntry} {ks:List Nat} {vs:List Value} {j:Nat},es.map (fun e=>(e.key,e.val))=(ks.zip vs).map (fun p=>(Value.int .u32 (p.1:Int),p.2))→ks.length=vs.length →
  Instr.findNow (.int .u32) (.int .u32 (x:Int)) es j=some ((aHr ks x).map fun i=>(j+i,vs.getD i undef))
 | [],[],[],j,_,_=>by simp[Instr.findNow,aHr]
 | [],k::ks,v::vs,j,h,_=>by simp at h
 | e::es,[],[],j,h,_=>by simp at h
 | _,[],_::_,_,_,h=>by simp at h
 | _,_::_,[],_,_,h=>by simp at h
 | e::es,k::ks,v::vs,j,h,hl=>by
  simp only[List.map_cons,List.zip_cons_cons,List.cons.injEq,Prod.mk.injEq] at h
  obtain⟨⟨h1,h2⟩,h3⟩:=h
  have ih:=aLY (x:=x) (j:=j+1) h3 (by simpa using hl)
  simp only[Instr.findNow,h1,Instr.sameNow,if_true,aHr]
  by_cases hx:x=k
  ·subst hx
   simp[h2]
  ·have:((x:Int)==(k:Int))=false:=by simp;omega
   rw[this,ih,if_neg hx]
   cases aHr ks x with
   | none=>simp
   | some q=>simp;omega
section
variable {w0 w w':World}{X Z:Nat→Prop}{m:List Ent}
theorem Mem.newEnt (h:Mem w0 X Z m w){o:Obj}{e:Ent}(hmu:e.mut=[w.heap.size])(hh:e.holds (w.alloc o) (Yof w0 Z (e::m))):Mem w0 X Z (e::m) (w.alloc o):=by
 have hp:=Agr.alloc Nob w o
 have hm':=h.pure hp
 have hnot:w.heap.size ∉ muts m:=fun hb=>Nat.lt_irrefl _ (h.own _ hb).1
 refine⟨hm'.agr,h.sub,by simp only[muts,hmu,List.singleton_append,List.nodup_cons];exact⟨hnot,h.nodup⟩,?_,?_⟩
 ·intro b hb
  simp only[muts,hmu,List.singleton_append,List.mem_cons] at hb
  rcases hb with rfl|hb
  ·exact⟨by simp,fun hlt=>absurd hlt (Nat.not_lt.2 h.agr.size)⟩
  ·exact hm'.own b hb
 ·intro x hx
  rcases List.mem_cons.1 hx with rfl|hx
  ·exact hh
  ·refine Ent.holds_move (fun i hi hy=>⟨hp.block i hi id,?_⟩) (h.all x hx) (fun b hb=>hp.block b (h.own b (aBI hx hb)).1 id)
   rintro (hz|hz)
   ·exact hy (.inl hz)
   ·simp only[muts,hmu,List.singleton_append,List.mem_cons] at hz
    rcases hz with rfl|hz
    ·exact Nat.lt_irrefl _ hi
    ·exact hy (.inr hz)
theorem Mem.setEnt (h:Mem w0 X Z m w){i b:Nat}{e e':Ent}(hi:aBi m i=some e)(h1:e.mut=[b])(h2:e'.mut=[b])(hp:Agr (fun x=>x=b) w w')(hb:e'.holds w' (Yof w0 Z (aBn m i e'))):Mem w0 X Z (aBn m i e') w':=by
 have hmem:b ∈ muts m:=aBI (eA0 hi) (by simp[h1])
 have hmu:muts (aBn m i e')=muts m:=aFZ hi (by rw[h1,h2])
 have hy:Yof w0 Z (aBn m i e')=Yof w0 Z m:=by funext x;simp[Yof,hmu]
 refine⟨h.agr.trans hp (fun _ _ x=>x) (fun k hk hkb=>by subst hkb;exact (h.own _ hmem).2 hk),h.sub,by rw[hmu];exact h.nodup,?_,?_⟩
 ·rw[hmu]
  exact fun x hx=>⟨Nat.lt_of_lt_of_le (h.own x hx).1 hp.size,(h.own x hx).2⟩
 ·rw[hy]
  intro x hx
  rcases aFC hx with rfl|⟨j,hji,hj⟩
  ·rw[← hy];exact hb
  ·have hxm:=eA0 hj
   refine Ent.holds_move (fun k hk hyk=>⟨hp.block k hk (fun hkb=>hyk (.inr (hkb ▸ hmem))),hyk⟩) (h.all x hxm) (fun k hk=>?_)
   exact hp.block k (h.own k (aBI hxm hk)).1 (fun hkb=>aEt h.nodup (Ne.symm hji) hi hj b (by simp[h1]) (hkb ▸ hk))
end
section
variable {P:Program}{ops:Array Oper}{Q:Exit→Act→World→Prop}{rest:List Oper}{a:Act}{w w0:World}{n:Nat}{l:List (Nat × Value)}{X Z:Nat→Prop}{m:List Ent}
variable {d:Nat}{ty:Nat}{ps:String}{af:Array Edge}
def aUF (w:World):Option Nat→Nat→Prop
 | none,k=>k=0
 | some r,k=>∃ ks vs,aGE w r ks vs∧ks.length=k
theorem aTg {t kt et k:Nat}{p:Option Nat}(ht:aPw P t=some (kt,et))(hl:aUF w p k):(Builtin.len_ #[t] ty #[.map p]).run P w=.ok (.int .i64 (k:Int)) w:=by
 obtain⟨h1,_⟩:=aJR ht
 cases p with
 | none =>
  have hl':k=0:=hl
  subst hl'
  simp[Builtin.len_,run_underlying h1,goInt]
 | some r =>
  obtain⟨ks,vs,⟨es,clk,g1,g2,g3,_⟩,rfl⟩:=hl
  have hsz:es.size=ks.length:=by
   have:=congrArg List.length g2
   simp only[List.length_map,List.length_zip] at this
   rw[Array.length_toList] at this
   omega
  simp[Builtin.len_,run_underlying h1,aJN g1,goInt,hsz]
theorem aRW {x:Operand}{t kt et k:Nat}{p:Option Nat}(hk:Kn n l a)(ht:aPw P t=some (kt,et))(hx:ev l x=some (.map p))(hl:aUF w p k)(hd:Nat.blt d n=true)
  (K:∀ a',Kn n ((d,.int .i64 (k:Int))::l) a'→wpList P ops Q rest a' w) :
  wpList P ops Q (⟨some d,.call ⟨.builtin .len,#[x],#[t]⟩,ty,ps,af,none⟩::rest) a w:=by
 refine aAD hk rfl rfl hd ?_ K
 unfold aDp execOp
 simp only[Sem.run_bind,resolve,invoke,builtin,List.map_toArray,List.map_cons,List.map_nil,hk.eval hx,Sem.run_pure,Result.andThen_ok,aTg ht hl]
theorem aJw {kt:Nat}(h2:P.underlying kt=some (.int .u32))(b:Bool)(x:Int)(w:World):(Instr.checkKey b 10000 kt (.int .u32 x)).run P w=.ok () w:=by
 unfold Instr.checkKey
 simp[run_underlying h2]
theorem aKk {kt x:Nat}{ks:List Nat}{vs:List Value}{es:Array MapEntry}(h2:P.underlying kt=some (.int .u32))(h:es.toList.map (fun e=>(e.key,e.val))=(ks.zip vs).map (fun p=>(Value.int .u32 (p.1:Int),p.2)))(hl:ks.length=vs.length)(w:World) :
  (Instr.findKey kt (.int .u32 (x:Int)) es.toList).run P w=.ok ((aHr ks x).map fun i=>(i,vs.getD i undef)) w:=by
 unfold Instr.findKey
 have:=aLY (x:=x) (j:=0) h hl
 simp only[Nat.zero_add] at this
 simp only[Sem.run_bind,run_underlying h2,Result.andThen_ok,this,Sem.run_pure]
theorem aWH {x i:Operand}{t kt et r key j:Nat}{ks:List Nat}{vs:List Value}(hk:Kn n l a)(ht:aPw P t=some (kt,et))(hx:ev l x=some (.map (some r)))(hi:ev l i=some (.int .u32 (key:Int)))(hm:aGE w r ks vs)(hj:aHr ks key=some j)
  (hd:Nat.blt d n=true) (K:∀ a',Kn n ((d,vs.getD j undef)::l) a'→wpList P ops Q rest a' w) :
  wpList P ops Q (⟨some d,.lookup t x i false,ty,ps,af,none⟩::rest) a w:=by
 obtain⟨h1,h2⟩:=aJR ht
 obtain⟨es,clk,g1,g2,g3,_⟩:=hm
 refine aAD (v:=vs.getD j undef) hk rfl rfl hd ?_ K
 unfold aDp execOp
 simp only[Sem.run_bind,hk.eval hx,hk.eval hi,Instr.lookup,run_underlying h1,Result.andThen_ok,aJN g1,Sem.run_pure,aJw h2,aKk h2 g2 g3,hj,Option.map_some]
 rfl
theorem aUj {t:Nat}(hk:Kn n l a)(hd:Nat.blt d n=true)
  (K:∀ a' b w',b=w.heap.size→Agr Nob w w'→aGE w' b [] []→Kn n ((d,.map (some b))::l) a'→wpList P ops Q rest a' w') :
  wpList P ops Q (⟨some d,.makeMap t none,ty,ps,af,none⟩::rest) a w:=by
 refine aAD (v:=.map (some w.heap.size)) (w':=w.alloc (.map #[] 0)) hk rfl rfl hd ?_ fun a' hk'=>K a' w.heap.size _ rfl (Agr.alloc _ _ _) ⟨#[],0,heap_alloc_new w _,rfl,rfl,List.nodup_nil,fun _ he=>by cases he⟩ hk'
 unfold aDp execOp
 simp[Instr.makeMap]
def aPl (ks:List Nat)(vs:List Value)(x:Nat)(v:Value):List Nat × List Value:=match aHr ks x with
 | some i=>(ks,vs.set i v)
 | none=>(ks++[x],vs++[v])
theorem aQj {x:Nat}:∀ {ks:List Nat} {i:Nat},aHr ks x=some i→ks[i]? = some x
 | [],i,h=>by simp[aHr] at h
 | k::r,i,h=>by
  simp only[aHr] at h
  split at h
  ·rename_i hx
   obtain rfl:=Option.some.inj h
   simp[hx]
  ·cases hq:aHr r x with
   | none=>rw[hq] at h;simp at h
   | some j =>
    rw[hq] at h
    simp only[Option.map_some,Option.some.injEq] at h
    subst h
    simpa using aQj hq
theorem aJv (w:World)(r:Nat)(o:Obj):Agr (fun k=>k=r) w (setBlock w r o) :=
 ⟨rfl,rfl,rfl,by simp[setBlock],fun i _ hi=>by
  show (w.heap.setIfInBounds r o)[i]? = _
  rw[Array.getElem?_setIfInBounds_ne (Ne.symm hi)]⟩
theorem aIU {w:World}{r:Nat}{o:Obj}(h:r<w.heap.size):(setBlock w r o).heap[r]? = some o:=by
 show (w.heap.setIfInBounds r o)[r]? = _
 rw[Array.getElem?_setIfInBounds_self_of_lt h]
theorem aTP:∀ {ks:List Nat} {vs:List Value} {i:Nat} {v:Value} {x:Nat},ks[i]? = some x→ks.length=vs.length→ks.zip (vs.set i v)=(ks.zip vs).set i (x,v)
 | [],vs,i,v,x,h,_=>by simp at h
 | k::ks,[],i,v,x,_,h=>by simp at h
 | k::ks,u::vs,0,v,x,h,hl=>by
  simp only[List.getElem?_cons_zero,Option.some.injEq] at h
  subst h
  simp
 | k::ks,u::vs,i+1,v,x,h,hl=>by
  simp only[List.getElem?_cons_succ] at h
  simp only[List.set_cons_succ,List.zip_cons_cons]
  rw[aTP h (by simpa using hl)]
theorem aMR {x i y:Operand}{t kt et r key:Nat}{v:Value}{ks:List Nat}{vs:List Value}(hk:Kn n l a)(ht:aPw P t=some (kt,et))(hx:ev l x=some (.map (some r)))(hi:ev l i=some (.int .u32 (key:Int)))(hy:ev l y=some v)(hm:aGE w r ks vs)
  (K:∀ a' w',Agr (fun k=>k=r) w w'→aGE w' r (aPl ks vs key v).1 (aPl ks vs key v).2→Kn n l a'→wpList P ops Q rest a' w') :
  wpList P ops Q (⟨none,.mapUpdate t x i y,ty,ps,af,none⟩::rest) a w:=by
 obtain⟨h1,h2⟩:=aJR ht
 have hrl:=hm.lt
 obtain⟨es,clk,g1,g2,g3,g4,g5⟩:=hm
 have hlen:es.toList.length=ks.length:=by
  have:=congrArg List.length g2
  simp only[List.length_map,List.length_zip] at this
  omega
 cases hj:aHr ks key with
 | none =>
  refine aIf (w':=setBlock w r (.map (es.push { key:=.int .u32 (key:Int),val:=v,born:=clk }) (clk+1))) hk rfl rfl ?_ fun a' hk'=>K a' _ (aJv _ _ _) ?_ hk'
  ·unfold aS8 execOp
   simp only[Sem.run_bind,hk.eval hx,hk.eval hi,hk.eval hy,Instr.mapUpdate,run_underlying h1,Result.andThen_ok,aJN g1,aJw h2,aKk h2 g2 g3,hj,Option.map_none,Sem.run_pure]
   simp[setObj,Sem.run,g1,setBlock]
  ·unfold aPl
   rw[hj]
   refine⟨_,_,aIU hrl,?_,by simp[g3],?_,?_⟩
   ·simp only[Array.toList_push,List.map_append,List.map_cons,List.map_nil,g2]
    rw[List.zip_append g3]
    simp
   ·simp only[Array.toList_push,List.map_append,List.map_cons,List.map_nil,List.nodup_append]
    refine⟨g4,by simp,?_⟩
    intro x hx y hy hxy
    obtain⟨e,he,rfl⟩:=List.mem_map.1 hx
    simp only[List.mem_singleton] at hy
    have:=g5 e he
    omega
   ·intro e he
    simp only[Array.toList_push,List.mem_append,List.mem_singleton] at he
    rcases he with he|rfl
    ·have:=g5 e he;omega
    ·simp
 | some j =>
  have hks:=aQj hj
  have hjl:j<ks.length:=(List.getElem?_eq_some_iff.1 hks).1
  have hjs:j<es.size:=by rw[← Array.length_toList];omega
  have hke:(es[j]).key=.int .u32 (key:Int):=by
   have h3:(es.toList.map (fun e=>(e.key,e.val)))[j]? = some ((es[j]).key,(es[j]).val):=by simp[hjs]
   rw[g2,List.getElem?_map] at h3
   cases hz:(ks.zip vs)[j]? with
   | none=>rw[hz] at h3;cases h3
   | some p =>
    rw[hz] at h3
    simp only[Option.map_some,Option.some.injEq,Prod.mk.injEq] at h3
    rw[← h3.1]
    have:p.1=key:=by
     obtain⟨h4,_⟩:=List.getElem?_zip_eq_some.1 hz
     rw[hks] at h4
     exact (Option.some.inj h4).symm
    rw[this]
  have hsame:Instr.sameBits 10000 (.int .u32 (key:Int)) (.int .u32 (key:Int))=true:=by
   show (IntKind.u32==IntKind.u32&&((key:Int)==(key:Int)))=true
   simp
  refine aIf (w':=setBlock w r (.map (es.modify j fun e=>{ e with key:=.int .u32 (key:Int),val:=v }) clk)) hk rfl rfl ?_ fun a' hk'=>K a' _ (aJv _ _ _) ?_ hk'
  ·unfold aS8 execOp
   simp only[Sem.run_bind,hk.eval hx,hk.eval hi,hk.eval hy,Instr.mapUpdate,run_underlying h1,Result.andThen_ok,aJN g1,aJw h2,aKk h2 g2 g3,hj,Option.map_some]
   have hget:((es[j]?).map (·.key)).getD (.int .u32 (key:Int))=.int .u32 (key:Int):=by simp[hjs,hke]
   rw[hget]
   simp only[Instr.keyThatStays,hsame,if_true,Sem.run_pure,Result.andThen_ok]
   simp[setObj,Sem.run,g1,setBlock]
  ·unfold aPl
   rw[hj]
   have hml:(es.modify j fun e=>{ e with key:=Value.int .u32 (key:Int),val:=v }).toList=es.toList.set j { es[j] with key:=Value.int .u32 (key:Int),val:=v }:=by
    apply List.ext_getElem?
    intro i
    rw[Array.getElem?_toList,Array.getElem?_modify,List.getElem?_set]
    by_cases hij:j=i
    ·subst hij
     simp[hjs]
    ·simp[hij]
   refine⟨_,_,aIU hrl,?_,by simp[g3],?_,?_⟩
   ·rw[hml,List.map_set,g2,aTP hks g3,List.map_set]
   ·rw[hml,List.map_set]
    have:(es.toList.map (·.born)).set j es[j].born=es.toList.map (·.born):=by
     apply List.ext_getElem?
     intro i
     rw[List.getElem?_set]
     split
     ·rename_i hij;subst hij;simp[hjs]
     ·rfl
    rw[this]
    exact g4
   ·intro e he
    rw[hml] at he
    rcases List.mem_or_eq_of_mem_set he with he|rfl
    ·exact g5 e he
    ·exact g5 es[j] (by simp)
theorem aYI {x:Operand}{t kt et r clk:Nat}{es:Array MapEntry}(hk:Kn n l a)(hm:Mem w0 X Z m w)(ht:aPw P t=some (kt,et))(hx:ev l x=some (.map (some r)))(hr:w.heap[r]? = some (.map es clk))(hd:Nat.blt d n=true)
  (K:∀ a' b w',w.heap.size=b→Kn n ((d,.pointer (some ⟨b,0,none⟩))::l) a'→Mem w0 X Z (.obj b (.mapIter (some r) clk #[] clk)::m) w'→wpList P ops Q rest a' w') :
  wpList P ops Q (⟨some d,.range t x,ty,ps,af,none⟩::rest) a w:=by
 obtain⟨h1,h2⟩:=aJR ht
 refine aAD (v:=.pointer (some ⟨w.heap.size,0,none⟩)) (w':=w.alloc (.mapIter (some r) clk #[] clk)) hk rfl rfl hd ?_ fun a' hk'=>K a' _ _ rfl hk' (hm.newEnt rfl (heap_alloc_new w _))
 unfold aDp execOp
 simp only[Sem.run_bind,hk.eval hx,run_range_map w t kt et r es clk h1 hr,Result.andThen_ok,Sem.run_pure]
theorem bAH {x:Operand}{i b r since c0 clk:Nat}{seen:Array Nat}{es:Array MapEntry}(hk:Kn n l a)(hm:Mem w0 X Z m w)(hx:ev l x=some (.pointer (some ⟨b,0,none⟩)))(hi:aBi m i=some (.obj b (.mapIter (some r) since seen c0)))
  (hr:w.heap[r]? = some (.map es clk)) (hold:∀ e ∈ es.toList,e.born<since) (hsc:since≤c0) (hd:Nat.blt d n=true)
  (K0:(leftOf es seen).size=0→∀ a',Kn n ((d,.tuple #[.bool false])::l) a'→wpList P ops Q rest a' w)
  (K1:∀ e ∈ (leftOf es seen).toList,∀ a' w',Kn n ((d,.tuple #[.bool true,e.key,e.val])::l) a'→Mem w0 X Z (aBn m i (.obj b (.mapIter (some r) since (seen.push e.born) clk))) w'→wpList P ops Q rest a' w') :
  wpList P ops Q (⟨some d,.next x false,ty,ps,af,none⟩::rest) a w:=by
 have hit:w.heap[b]? = some (.mapIter (some r) since seen c0):=hm.all _ (eA0 hi)
 rcases run_next_at (P:=P) w ty b r since c0 seen es clk hit hr hold hsc with ⟨h0,hrun⟩|⟨e,he,w1,hw1,hrun⟩
 ·refine aAD (v:=.tuple #[.bool false]) (w':=w) hk rfl rfl hd ?_ (K0 h0)
  unfold aDp execOp
  simp only[Sem.run_bind,hk.eval hx,hrun,Result.andThen_ok,Sem.run_pure]
 ·have hm1:Mem w0 X Z m w1:=by
   rcases hw1 with rfl|rfl
   ·exact hm
   ·exact hm.pure (Agr.drew _ _)
  have hb1:b<w1.heap.size:=(hm1.own b (aBI (eA0 hi) (by simp[Ent.mut]))).1
  refine aAD hk rfl rfl hd ?_ fun a' hk'=>K1 e he a' _ hk' (hm1.setEnt hi rfl rfl (aJv w1 b _) (aIU hb1))
  unfold aDp execOp
  simp only[Sem.run_bind,hk.eval hx,hrun,Result.andThen_ok,Sem.run_pure]
theorem aZi {x:Operand}{i b r since clk:Nat}{seen:Array Nat}{es:Array MapEntry}{e:MapEntry}(hk:Kn n l a)(hm:Mem w0 X Z m w)(hx:ev l x=some (.pointer (some ⟨b,0,none⟩)))(hi:aBi m i=some (.obj b (.mapIter (some r) since (seen.push e.born) clk)))
  (hr:w.heap[r]? = some (.map es clk)) (he:e ∈ es.toList) (hn:(es.toList.map (·.born)).Nodup) (hd:Nat.blt d n=true)
  (K:∀ a',Kn n ((d,.tuple #[e.key,e.val])::l) a'→wpList P ops Q rest a' w) :
  wpList P ops Q (⟨some d,.entry x,ty,ps,af,none⟩::rest) a w:=by
 have hit:w.heap[b]? = some (.mapIter (some r) since (seen.push e.born) clk):=hm.all _ (eA0 hi)
 refine aAD hk rfl rfl hd ?_ K
 unfold aDp execOp
 simp only[Sem.run_bind,hk.eval hx,run_entry_at (P:=P) w b r since seen es clk e hit hr he hn,Result.andThen_ok,Sem.run_pure]
theorem aDb {x:Operand}{i:Nat}{vs:Array Value}{v:Value}(hk:Kn n l a)(hx:ev l x=some (.tuple vs))(hv:vs[i]? = some v)(hd:Nat.blt d n=true)(K:∀ a',Kn n ((d,v)::l) a'→wpList P ops Q rest a' w) :
  wpList P ops Q (⟨some d,.extract x i,ty,ps,af,none⟩::rest) a w:=by
 refine aAD hk rfl rfl hd ?_ K
 unfold aDp execOp
 simp[hk.eval hx,Instr.extract,hv]
theorem aQK {x:Operand}{t e:Nat}{v:Value}(hk:Kn n l a)(ht:aBA P t=some e)(hx:ev l x=some v)(hd:Nat.blt d n=true)(K:∀ a',Kn n ((d,.iface t v)::l) a'→wpList P ops Q rest a' w) :
  wpList P ops Q (⟨some d,.makeInterface t x,ty,ps,af,none⟩::rest) a w:=by
 refine aAD hk rfl rfl hd ?_ K
 unfold aDp execOp
 simp[hk.eval hx,Instr.makeInterface,run_underlying (aCi ht)]
theorem aOe {f:Nat}{xs:List Operand}{vs:List Value}(hk:Kn n l a)(hxs:evs l xs vs)(hd:Nat.blt d n=true)(K:∀ a',Kn n ((d,.func (.func f) #[] vs.toArray)::l) a'→wpList P ops Q rest a' w) :
  wpList P ops Q (⟨some d,.makeFunc (.func f) #[] xs.toArray,ty,ps,af,none⟩::rest) a w:=by
 refine aAD hk rfl rfl hd ?_ K
 unfold aDp execOp
 simp[Instr.makeFunc,hk.evals hxs]
theorem aYK {f:Nat}{x:Operand}{xs:List Operand}{vs lb:List Value}{tys:Array Nat}{R:Value→World→Prop}(hk:Kn n l a)(hx:ev l x=some (.func (.func f) #[] lb.toArray))(hf:cb0 P f=true)(hc:Ret P f (vs++lb) w R)(hxs:evs l xs vs)(hd:Nat.blt d n=true)
  (K:∀ v w' a',R v w'→Kn n ((d,v)::l) a'→wpList P ops Q rest a' w') :
  wpList P ops Q (⟨some d,.call ⟨.value x,xs.toArray,tys⟩,ty,ps,af,none⟩::rest) a w:=by
 refine aN4 hk rfl rfl hd ?_ hc K
 unfold execOp
 simp[resolve,Deferred.ofValue,hk.eval hx,invoke,aJn hf,hk.evals hxs]
theorem aP5 {f:FuncId}{args:List Value}{v:Value}{R:World→Prop}{ars:Array Value}(ha:ars=args.toArray)(h:Calls P f ars w fun e w'=>e=.returned v∧R w'):Ret P f args w fun u w'=>u=v∧R w':=by
 subst ha
 exact Calls.mono h fun e w' ⟨he,hr⟩=>⟨v,he,rfl,hr⟩
end
end Go.Mk
namespace Go.Mk
open Go
open Go.ChangeMaps (setBlock)
open Go.Sort Go.Proofs
theorem aRf {w:World}{Y:Nat→Prop}{u:List (Nat × List UInt8)}{c:Value}(h:Rep w Y (aAN u) [c]) :
  (u=[]∧c=.map none)∨∃ r vs,c=.map (some r)∧¬ Y r∧aGE w r (u.map (·.1)) vs∧vs.length=u.length∧∀ (i:Nat) (p:Nat × List UInt8),u[i]? = some p→∃ x,vs[i]? = some x∧Rep w Y (aDJ p.2) [x]:=by
 simp only[aAN,Rep] at h
 rcases h with ⟨h1,_,h2⟩|⟨r,vs,h1,h2,h3,h4⟩
 ·exact .inl ⟨by simpa using h1,by simpa using h2⟩
 ·refine .inr ⟨r,vs,by simpa using h1,h2,h3,by simpa using h3.len.symm,?_⟩
  clear h1 h2 h3
  induction u generalizing vs with
  | nil=>intro i p hi;simp at hi
  | cons q r ih =>
   intro i p hi
   simp only[List.map_cons] at h4
   obtain⟨x,c2,rfl,h5,h6⟩:=h4.un1 (aFo _ _ _)
   cases i with
   | zero =>
    simp only[List.getElem?_cons_zero,Option.some.injEq] at hi
    subst hi
    exact⟨x,rfl,h5⟩
   | succ i=>exact ih c2 h6 i p (by simpa using hi)
theorem aQa {w:World}{Y:Nat→Prop}{u:List (Nat × List UInt8)}{c:Value}(h:Rep w Y (aAN u) [c]):∃ p,c=.map p∧aUF w p u.length:=by
 rcases aRf h with ⟨rfl,rfl⟩|⟨r,vs,rfl,_,h1,h2,_⟩
 ·exact⟨none,rfl,rfl⟩
 ·exact⟨some r,rfl,_,vs,h1,by simp⟩
theorem aWs {ks:List Nat}(h:ks.Nodup):∀ {i:Nat} {k:Nat},ks[i]? = some k→aHr ks k=some i:=by
 induction ks with
 | nil=>intro i k h;simp at h
 | cons x r ih =>
  intro i k hi
  rw[List.nodup_cons] at h
  cases i with
  | zero =>
   simp only[List.getElem?_cons_zero,Option.some.injEq] at hi
   simp[aHr,hi]
  | succ i =>
   simp only[List.getElem?_cons_succ] at hi
   have hne:k≠x:=fun e=>h.1 (e ▸ List.mem_of_getElem? hi)
   simp[aHr,hne,ih h.2 hi]
theorem aPy (w:World)(blk:Nat)(f:Array Value→Array Value):Agr (fun k=>k=blk) w (mapBlock w blk f) :=
 ⟨rfl,rfl,rfl,by simp[mapBlock],fun i _ hi=>by
  show (w.heap.modify blk _)[i]? = _
  rw[Array.getElem?_modify,if_neg (Ne.symm hi)]⟩
theorem aMw (w:World)(os:Array Obj):Agr Nob w (grow w os) :=
 ⟨rfl,rfl,rfl,by simp[grow],fun i hi _=>by
  show (w.heap++os)[i]? = _
  rw[Array.getElem?_append_left hi]⟩
theorem aTG (w:World)(n:Nat):Agr Nob w (Sort.ahead w n):=⟨rfl,rfl,rfl,Nat.le_refl _,fun _ _ _=>rfl⟩
theorem aPg {w:World}{g:Nat}{c:Array Value}{e:TypeId}{fr:Nat × Nat}(f:Array Value→Array Value)(h:w.heap[g]? = some (.cells c e fr)):(mapBlock w g f).heap[g]? = some (.cells (f c) e fr):=by
 show (w.heap.modify g _)[g]? = _
 rw[Array.getElem?_modify,if_pos rfl,h]
 rfl
def aJ1 (ks:List Int):List Value:=ks.map fun k=>.int .u32 k
theorem aSA {w w':World}{e g n cap q:Nat}{ds:List Int}{d':Array Int}{os:Array Obj}(hr:w.ownsRow 0 e 1 (.slice (some ⟨g,0,none⟩) n cap) n (aJ1 ds))(hd:d'.size=n)
  (hw:w'=grow (putRow (Value.int .u32) (Sort.ahead w q) g 0 d') os):Agr (fun k=>k=g) w w'∧w'.ownsRow 0 e 1 (.slice (some ⟨g,0,none⟩) n cap) n (aJ1 d'.toList):=by
 subst hw
 have a1:Agr (fun k=>k=g) w (grow (putRow (Value.int .u32) (Sort.ahead w q) g 0 d') os) :=
  (((aTG w q).mono (Y:=fun k=>k=g) (fun _ _ x=>x.elim)).trans (aPy (Sort.ahead w q) g _) (fun _ _ x=>x) (fun _ _ x=>x)).trans ((aMw _ os).mono (Y:=fun k=>k=g) (fun _ _ x=>x.elim)) (fun _ _ x=>x) (fun _ _ x=>x)
 refine⟨a1,?_⟩
 obtain⟨_,hcase⟩:=hr
 rcases hcase with ⟨h0,_⟩|⟨g',cap',cur,h0,_,hg,hnc,hcm,hcs,htake⟩
 ·simp at h0
 ·simp only[Value.slice.injEq,Option.some.injEq,Addr.mk.injEq,and_true,true_and] at h0
  obtain⟨rfl,rfl⟩:=h0
  have hg2:(grow (putRow (Value.int .u32) (Sort.ahead w q) g 0 d') os).heap[g]? = some (.cells (putCells (Value.int .u32) 0 d' cur) e (0,0)):=by
   have h1:=aPg (w:=Sort.ahead w q) (putCells (Value.int .u32) 0 d') hg
   have hlt:g<(putRow (Value.int .u32) (Sort.ahead w q) g 0 d').heap.size:=(Array.getElem?_eq_some_iff.1 h1).1
   rw[(aMw _ os).block g hlt id]
   exact h1
  refine⟨by simp[aJ1,hd],.inr ⟨g,cap,_,rfl,Nat.zero_le _,hg2,hnc,hcm,by simp[putCells,hcs],?_⟩⟩
  apply List.ext_getElem?
  intro i
  rw[List.getElem?_take]
  by_cases hi:i<n
  ·rw[if_pos (by omega),Array.getElem?_toList,putCells,Array.getElem?_mapIdx]
   have hic:i<cur.size:=by rw[hcs];omega
   rw[Array.getElem?_eq_getElem hic]
   have hid:i<d'.size:=by omega
   simp[aJ1,hid]
  ·rw[if_neg (by omega)]
   symm
   rw[List.getElem?_eq_none]
   simp[aJ1]
   omega
theorem aU9 {d':Array Int}{ks:List Int}(hp:d'.toList.Perm ks)(hs:SortedIn ltInt 0 d'.size d')(hk:ks.Pairwise (·≤·)):d'.toList=ks:=by
 refine List.Perm.eq_of_pairwise (le:=fun a b:Int=>a≤b) (fun a b _ _ h1 h2=>Int.le_antisymm h1 h2) ?_ hk hp
 rw[List.pairwise_iff_getElem]
 intro i j hi hj hij
 have hi':i<d'.size:=by simpa using hi
 have hj':j<d'.size:=by simpa using hj
 have:=hs i j (Nat.zero_le _) hij hj'
 rw[getElem!_pos d' j hj',getElem!_pos d' i hi'] at this
 simp only[ltInt,decide_eq_false_iff_not] at this
 simpa using this
theorem aPs {w:World}{e g n cap:Nat}{ds:List Int}(hr:w.ownsRow 0 e 1 (.slice (some ⟨g,0,none⟩) n cap) n (aJ1 ds)):Holds (Value.int .u32) w g 0 ds.toArray∧ds.toArray.size=n:=by
 have hl:ds.length=n:=by have:=hr.1;simpa [aJ1] using this
 refine⟨fun j hj=>?_,by simpa using hl⟩
 have hj':j<ds.length:=by simpa using hj
 have hc:=hr.cells (g:=g) rfl j (.int .u32 ds[j]) (by simp[aJ1,hj'])
 rw[Addr.add_lit] at hc
 refine⟨?_,?_⟩
 ·rw[Nat.zero_add] at hc ⊢
  rw[hc,getElem!_pos ds.toArray j hj]
  simp
 ·obtain⟨_,hcase⟩:=hr
  rcases hcase with ⟨h0,_⟩|⟨g',cap',cur,h0,_,hg,_⟩
  ·simp at h0
  ·simp only[Value.slice.injEq,Option.some.injEq,Addr.mk.injEq,and_true,true_and] at h0
   obtain⟨rfl,rfl⟩:=h0
   simp[World.frozen?,hg]
theorem aX6 {P:Program}{ρ : Shelf.Ren}(L:LaysGg.n6 P ρ){t e:Nat}{i ie:TypeInfo}(hi:P.info? t=some i)(hd:i.desc=.slice e)(hpk:P.packed t=false)(hie:P.info? e=some ie){ke:Nat}(hke:∀ w,(Extern.Rtype.kind e).run P w=.ok ke w)
  (hs1:ie.size=1) (hagg:∀ w,(isAgg e).run P w=.ok false w) {g:Nat} {lb:Array Value} (eg:∀ args w,(callFunc g args).run P w=.ok (.enter g args) w)
  (f : Nat → Nat) (hf : ∀ n, P.funcs.findIdx? (·.name == "internal/reflectlite" ++ ".Swapper$" ++ toString (Lib.swapperK n ie ke)) = some (f n)) (gS : Bool)
  (hx:∀ n,2≤n→∀ args W,(callFunc (f n) args).run P W=((Extern.ReflectliteSwapper.swap gS args).run P W).andThen fun v w'=>.ok (.value v) w')
  {w:World} {v:Value} {n:Nat} {ds ks:List Int} (hr:w.ownsRow 0 e 1 v n (aJ1 ds)) (hsz:n<4611686018427387904) (hp:ds.Perm ks) (hk:ks.Pairwise (·≤·))
  (hless:∀ blk cap,v=.slice (some ⟨blk,0,none⟩) n cap→LessReads P g lb (Value.int .u32) ltInt blk 0 n w) :
  Calls P (ρ.f 6) #[.iface t v,.func (.func g) #[] lb] w fun e' w'=>e'=.returned (.tuple #[])∧Agr (fun k=>v.ownBlock=some k) w w'∧w'.ownsRow 0 e 1 v n (aJ1 ks):=by
 have hl:ds.length=n:=by have:=hr.1;simpa [aJ1] using this
 obtain⟨p,cap,rfl⟩ : ∃ p cap,v=.slice p n cap:=aDx hr
 by_cases h2 : 2≤n
 ·obtain⟨blk,rfl⟩:=aLC hr (by omega)
  obtain⟨hH,hsize⟩:=aPs hr
  have hblk:blk<w.heap.size:=(hr.lt blk rfl).2
  have hS:=Any.sort_Slice_sorted L t e i ie hi hd hpk hie ke hke hs1 hagg (Value.int .u32) (fun _=>rfl) ltInt swo_ltInt g lb eg blk 0 cap ds.toArray (by omega) (by omega) (f ds.toArray.size) (hf _) gS (hx _ (by omega)) w (by rw[hsize];exact hless blk cap rfl) hH hblk
  rw[hsize] at hS
  refine hS.mono ?_
  rintro e' w' ⟨rfl,d',q,os,hpm,hso,hw⟩
  have hd':d'.size=n:=by rw[hpm.1,hsize]
  obtain⟨a1,a2⟩:=aSA (q:=q) (os:=os) hr hd' hw
  refine⟨rfl,a1.mono fun k _ hk=>by simp[Value.ownBlock,hk],?_⟩
  have hpl:d'.toList.Perm ks:=by
   have:=hpm.2.2
   have e1:d'.extract 0 n=d':=by rw[← hd'];simp
   have e2:ds.toArray.extract 0 n=ds.toArray:=by rw[← hsize];simp
   rw[e1,e2] at this
   exact (by simpa using this:d'.toList.Perm ds).trans hp
  have hso':SortedIn ltInt 0 d'.size d':=by rw[hd'];exact hso
  rw[aU9 hpl hso' hk] at a2
  exact a2
 ·have hS:=Any.sort_Slice_tiny L t e i ie hi hd hpk hie ke hke p n cap (by omega) (f n) (hf n) (.func g) #[] lb w
  refine hS.mono ?_
  rintro e' w' ⟨rfl,os,rfl⟩
  have hds:ds=ks:=by
   match ds,ks,hp,hl with
   | [],ks,hp,_=>exact (List.nil_perm.1 hp).symm
   | [x],ks,hp,_=>exact List.singleton_perm.1 hp
   | x::y::r,_,_,hl=>simp at hl;omega
  refine⟨rfl,(aMw w os).mono fun _ _ x=>x.elim,?_⟩
  rw[← hds]
  refine Ent.holds_move (e:=.row e 1 _ n _) (Y:=fun _=>True) (Y':=fun _=>True) (fun i _ hy=>absurd trivial hy) hr (fun b hb=>?_)
  exact (aMw w os).block b (hr.lt b (by simpa [Ent.mut] using hb)).2 id
def aKH (es:Array MapEntry)(seen:Array Nat)(col:List MapEntry):Prop:=seen.toList=col.map (·.born)∧(col++(leftOf es seen).toList).Perm es.toList
theorem aOW (es:Array MapEntry):aKH es #[] []:=by
 refine⟨rfl,?_⟩
 have:leftOf es #[]=es:=by unfold leftOf;rw[Array.filter_eq_self];intro x _;simp
 rw[this]
 exact List.Perm.refl _
theorem aLT {es:Array MapEntry}{seen:Array Nat}{col:List MapEntry}(h:aKH es seen col)(hn:(es.toList.map (·.born)).Nodup){e:MapEntry}(he:e ∈ (leftOf es seen).toList):aKH es (seen.push e.born) (col++[e]):=by
 obtain⟨h1,h2⟩:=h
 refine⟨by simp[h1],?_⟩
 have e1:(leftOf es (seen.push e.born)).toList=(leftOf es seen).toList.filter (fun x=>x.born != e.born):=by
  unfold leftOf
  rw[Array.toList_filter,Array.toList_filter,List.filter_filter]
  apply List.filter_congr
  intro x _
  rw[Bool.eq_iff_iff]
  simp only[Array.contains_push,Bool.not_or,Bool.and_eq_true,Bool.not_eq_true',beq_eq_false_iff_ne,bne_iff_ne,ne_eq]
  constructor<;>(rintro ⟨a,b⟩;exact⟨b,a⟩)
 have hnl:((leftOf es seen).toList.map (·.born)).Nodup:=by
  unfold leftOf
  rw[Array.toList_filter]
  exact (List.Sublist.map _ List.filter_sublist).nodup hn
 have key:∀ (l:List MapEntry),(l.map (·.born)).Nodup→e ∈ l→l.Perm (e::l.filter fun x=>x.born != e.born):=by
  intro l
  induction l with
  | nil=>intro _ h;cases h
  | cons x r ih =>
   intro hn he
   simp only[List.map_cons,List.nodup_cons] at hn
   rcases List.mem_cons.1 he with rfl|he
   ·have:r.filter (fun x=>x.born != e.born)=r:=by
     rw[List.filter_eq_self]
     intro y hy
     simp only[bne_iff_ne,ne_eq]
     intro hb
     exact hn.1 (List.mem_map.2 ⟨y,hy,hb⟩)
    simp[this]
   ·have hne:x.born≠e.born:=fun hb=>hn.1 (List.mem_map.2 ⟨e,he,hb.symm⟩)
    have hf:(x::r).filter (fun y=>y.born != e.born)=x::r.filter (fun y=>y.born != e.born):=by
     rw[List.filter_cons_of_pos]
     simpa using hne
    rw[hf]
    exact ((ih hn.2 he).cons x).trans (List.Perm.swap e x _)
 rw[e1]
 refine List.Perm.trans ?_ h2
 rw[List.append_assoc]
 exact List.Perm.append_left _ (key _ hnl he).symm
theorem aMN {es:Array MapEntry}{seen:Array Nat}{col:List MapEntry}(h:aKH es seen col)(h0:(leftOf es seen).size=0):col.Perm es.toList:=by
 have:(leftOf es seen).toList=[]:=by rw[Array.eq_empty_of_size_eq_zero h0]
 have h2:=h.2
 rw[this,List.append_nil] at h2
 exact h2
theorem aP2 {es:Array MapEntry}{seen:Array Nat}{col:List MapEntry}(h:aKH es seen col)(hn:(es.toList.map (·.born)).Nodup){e:MapEntry}(he:e ∈ (leftOf es seen).toList):(leftOf es (seen.push e.born)).size<(leftOf es seen).size:=by
 have h1:=h.2.length_eq
 have h2:=(aLT h hn he).2.length_eq
 simp only[List.length_append,List.length_singleton,Array.length_toList] at h1 h2
 omega
theorem aQt {es:Array MapEntry}{seen:Array Nat}{col:List MapEntry}(h:aKH es seen col):col.length≤es.size:=by
 have h1:=h.2.length_eq
 simp only[List.length_append,Array.length_toList] at h1
 omega
theorem aRm {es:List MapEntry}{ks:List Nat}{vs:List Value}(h:es.map (fun e=>(e.key,e.val))=(ks.zip vs).map (fun p=>(Value.int .u32 (p.1:Int),p.2)))(hl:ks.length=vs.length):es.map (·.key)=aJ1 (ks.map fun (k:Nat)=>(k:Int)):=by
 have h1:=congrArg (List.map (·.1)) h
 rw[List.map_map,List.map_map] at h1
 have e1:es.map (·.key)=es.map ((·.1) ∘ fun e=>(e.key,e.val)):=rfl
 rw[e1,h1]
 unfold aJ1
 rw[List.map_map]
 have e2:ks=(ks.zip vs).map (·.1):=by rw[List.map_fst_zip (by omega)]
 conv=>rhs;rw[e2]
 rw[List.map_map]
 rfl
theorem aRX:∀ {a b:List Int},aJ1 a=aJ1 b→a=b
 | [],[],_=>rfl
 | [],_::_,h=>by simp[aJ1] at h
 | _::_,[],h=>by simp[aJ1] at h
 | x::r,y::s,h=>by
  simp only[aJ1,List.map_cons,List.cons.injEq,Value.int.injEq,true_and] at h
  rw[h.1,aRX h.2]
theorem aU6 {es:List MapEntry}{ks:List Nat}{vs:List Value}(h:es.map (fun e=>(e.key,e.val))=(ks.zip vs).map (fun p=>(Value.int .u32 (p.1:Int),p.2)))(hl:ks.length=vs.length){col:List MapEntry}(hp:col.Perm es) :
  ∃ ds:List Int,col.map (·.key)=aJ1 ds∧ds.Perm (ks.map fun (k:Nat)=>(k:Int)):=by
 have h1:=(hp.map (·.key))
 rw[aRm h hl] at h1
 have key:∀ (l:List Value) (ns:List Int),l.Perm (aJ1 ns)→∃ ds,l=aJ1 ds∧ds.Perm ns:=by
  intro l ns hp
  have hall:∀ x ∈ l,∃ k,x=Value.int .u32 k:=fun x hx=>by
   obtain⟨k,_,rfl⟩:=List.mem_map.1 (hp.mem_iff.1 hx)
   exact⟨k,rfl⟩
  have hex:∃ ds,l=aJ1 ds:=by
   clear hp
   induction l with
   | nil=>exact⟨[],rfl⟩
   | cons x r ih =>
    obtain⟨k,rfl⟩:=hall x List.mem_cons_self
    obtain⟨ds,rfl⟩:=ih fun y hy=>hall y (List.mem_cons_of_mem _ hy)
    exact⟨k::ds,rfl⟩
  obtain⟨ds,rfl⟩:=hex
  refine⟨ds,rfl,?_⟩
  have hm:=hp.map (fun v=>match v with|Value.int _ k=>k|_=>0)
  simp only[aJ1,List.map_map,Function.comp_def,List.map_id'] at hm
  exact hm
 exact key _ _ h1
theorem aKg:∀ {u:List (Nat × List UInt8)},rising u→((u.map (·.1)).map fun (k:Nat)=>(k:Int)).Pairwise (·≤·)∧(u.map (·.1)).Nodup
 | [],_=>⟨List.Pairwise.nil,List.nodup_nil⟩
 | p::r,h=>by
  obtain⟨h1,h2⟩:=aKg h.2
  simp only[List.map_cons]
  refine⟨List.pairwise_cons.2 ⟨fun x hx=>?_,h1⟩,List.nodup_cons.2 ⟨fun hx=>?_,h2⟩⟩
  ·obtain⟨k,hk,rfl⟩:=List.mem_map.1 hx
   obtain⟨q,hq,rfl⟩:=List.mem_map.1 hk
   have:=h.1 q hq
   omega
  ·obtain⟨q,hq,he⟩:=List.mem_map.1 hx
   have:=h.1 q hq
   omega
theorem aYG {es:List MapEntry}{ks:List Nat}{vs:List Value}(h:es.map (fun e=>(e.key,e.val))=(ks.zip vs).map (fun p=>(Value.int .u32 (p.1:Int),p.2)))(hl:ks.length=vs.length){e:MapEntry}(he:e ∈ es):∃ k,e.key=.int .u32 k:=by
 have h1:=aRm h hl
 have h2:e.key ∈ aJ1 (ks.map fun (k:Nat)=>(k:Int)):=by rw[← h1];exact List.mem_map.2 ⟨e,he,rfl⟩
 obtain⟨k,_,hk⟩:=List.mem_map.1 h2
 exact⟨k,hk.symm⟩
theorem aSm {es:Array MapEntry}{seen:Array Nat}{e:MapEntry}(h:e ∈ (leftOf es seen).toList):e ∈ es.toList:=by
 unfold leftOf at h
 rw[Array.toList_filter] at h
 exact (List.mem_filter.1 h).1
theorem Mem.startX {w0:World}{X Z:Nat→Prop}{m:List Ent}(hsub:∀ b,X b→Z b)(hnd:(muts m).Nodup)(hown:∀ b ∈ muts m,b<w0.heap.size∧X b)(h:∀ e ∈ m,e.holds w0 Z):Mem w0 X Z m w0:=by
 refine⟨Agr.refl _ _,hsub,hnd,fun b hb=>⟨(hown b hb).1,fun _=>(hown b hb).2⟩,fun e he=>?_⟩
 refine Ent.holds_move (fun i _ hz=>⟨rfl,?_⟩) (h e he) (fun _ _=>rfl)
 rintro (h1|h1)
 ·exact hz h1.2
 ·exact hz (hsub i (hown i h1).2)
end Go.Mk
namespace Go.Mk
open Go
section
variable {P:Program}{ops:Array Oper}{Q:Exit→Act→World→Prop}{rest:List Oper}{a:Act}{w:World}{n:Nat}{l:List (Nat × Value)}
variable {d:Nat}{ty:Nat}{ps:String}{af:Array Edge}
end
def aSF (P:Program)(t:Nat):Option (Nat × Nat):=match P.underlying t with|some (.array n e)=>some (n,e)|_=>none
theorem aUu {P:Program}{t n e:Nat}(h:aSF P t=some (n,e)):P.underlying t=some (.array n e):=by
 unfold aSF at h
 split at h
 ·rename_i n' e' hu
  simp only[Option.some.injEq,Prod.mk.injEq] at h
  obtain⟨rfl,rfl⟩:=h
  exact hu
 ·cases h
section
variable {P:Program}{ops:Array Oper}{Q:Exit→Act→World→Prop}{rest:List Oper}{a:Act}{w:World}{n:Nat}{l:List (Nat × Value)}
variable {d:Nat}{ty:Nat}{ps:String}{af:Array Edge}
end
end Go.Mk
namespace Go.Mk
open Go
section
variable {P:Program}{ops:Array Oper}{Q:Exit→Act→World→Prop}{rest:List Oper}{a:Act}{w w0:World}{n:Nat}{l:List (Nat × Value)}{X Z:Nat→Prop}{m:List Ent}
variable {d:Nat}{ty:Nat}{ps:String}{af:Array Edge}
theorem aEk {x h:Operand}{t e s len cap k:Nat}{bl:Bool}{kk:IntKind}{p:Option Addr}(hk:Kn n l a)(ht:aBA P t=some e)(hs:aCm P e=some (bl,s))(hx:ev l x=some (.slice p len cap))(hh:ev l h=some (.int kk (k:Int)))(hkl:k≤len)(hd:Nat.blt d n=true)
  (K:∀ a',Kn n ((d,.slice (if cap=k then p else p.map (·.add (k*s))) (len - k) (cap - k))::l) a'→wpList P ops Q rest a' w) :
  wpList P ops Q (⟨some d,.slice t x (some h) none none,ty,ps,af,none⟩::rest) a w:=by
 refine aAD hk rfl rfl hd ?_ K
 unfold aDp execOp
 simp[hk.eval hx,hk.eval hh,Instr.sliceAt,Instr.slice,run_underlying (aCi ht),Instr.sliceBounds,Instr.sliceBound,asIntOf,hkl,aCw hs]
theorem aVp {x h g:Operand}{t e s len cap k:Nat}{bl:Bool}{kk kk2:IntKind}{p:Option Addr}(hk:Kn n l a)(ht:aBA P t=some e)(hs:aCm P e=some (bl,s))(hx:ev l x=some (.slice p len cap))(hh:ev l h=some (.int kk (k:Int)))(hg:ev l g=some (.int kk2 (k:Int)))(hkc:k≤cap)(hd:Nat.blt d n=true)
  (K:∀ a',Kn n ((d,.slice p k k)::l) a'→wpList P ops Q rest a' w) :
  wpList P ops Q (⟨some d,.slice t x none (some h) (some g),ty,ps,af,none⟩::rest) a w:=by
 refine aAD hk rfl rfl hd ?_ K
 unfold aDp execOp
 have hp:(if k=0 then p else p.map (·.add 0))=p:=by
  split
  ·rfl
  ·cases p<;>simp[Addr.add]
 simp[hk.eval hx,hk.eval hh,hk.eval hg,Instr.sliceAt,Instr.slice,run_underlying (aCi ht),Instr.sliceBounds,Instr.sliceBound,asIntOf,hkc,aCw hs,hp]
theorem aQg {x:Operand}{t t' s:Nat}{k yk:IntKind}{i c:Int}(hk:Kn n l a)(hx:ev l x=some (.int k i))(hs:Nat.ble s k.bits=true)(hc:k.wrap (i*2 ^ s)=c) :
  aDp P ⟨some d,.binOp .shl t x (.const (.int yk (s:Int))) t',ty,ps,af,none⟩ a w (.int k c) w:=by
 subst hc
 have hs':=Nat.le_of_ble_eq_true hs
 unfold aDp execOp
 have h1 : ¬ ((s:Int)<0):=by omega
 have h2:min (s:Int).toNat k.bits=s:=by simp;omega
 have hy:a.eval (.const (.int yk (s:Int)))=.int yk (s:Int):=rfl
 simp only[Sem.run_bind,hk.eval hx,hy,eqGuard_at_int,Sem.run_pure,Result.andThen_ok,binOp,Op.shift,if_neg h1,h2]
theorem aJu {x y:Operand}{op:BinOp}{t t':Nat}{k:IntKind}{i j c:Int}(hk:Kn n l a)(hx:ev l x=some (.int k i))(hy:ev l y=some (.int k j))(hc:ibits op k i j=some c) :
  aDp P ⟨some d,.binOp op t x y t',ty,ps,af,none⟩ a w (.int k c) w:=by
 unfold aDp execOp
 simp only[Sem.run_bind,hk.eval hx,hk.eval hy,eqGuard_at_int,Sem.run_pure,Result.andThen_ok]
 cases op<;>simp only[ibits,Option.some.injEq,reduceCtorEq] at hc<;>subst hc<;>simp[binOp,Op.intBits]
end
def aBr:Option (List UInt8)→DD
 | none=>.v (.slice none 0 0)
 | some l=>.sl true 1 (l.map ddB)
theorem aYb (l:List UInt8)(k:Nat):bv (l.drop k)=(bv l).drop k:=by simp[bv,List.map_drop]
theorem aZr (l:List UInt8)(k:Nat):bv (l.take k)=(bv l).take k:=by simp[bv,List.map_take]
theorem aMt {w:World}{Y:Nat→Prop}{v:Value}(h:Rep w Y (aBr none) [v]):v=.slice none 0 0:=aEI h
theorem aGc {w:World}{Y:Nat→Prop}{l:List UInt8}{v:Value}(h:Rep w Y (aBr (some l)) [v]):(l=[]∧∃ a,v=.slice (some a) 0 0)∨∃ b off cap,v=.slice (some ⟨b,off,none⟩) l.length cap∧l.length≤cap∧Cel w Y b off (bv l):=by
 simp only[aBr,Rep,List.map_eq_nil_iff,List.length_map,List.cons.injEq,and_true] at h
 rcases h with ⟨h1,p,h2,h3⟩|⟨b,off,cap,cs,h1,h2,h3,h4⟩
 ·left
  cases p with
  | none=>exact absurd rfl (h3 trivial)
  | some a=>exact⟨h1,a,h2⟩
 ·right
  have h5:=aLw h4
  subst h5
  exact⟨b,off,cap,h1,h2,h3⟩
theorem aSi {w:World}{Y:Nat→Prop}{l:List UInt8}{b off cap:Nat}(h2:l.length≤cap)(h3:Cel w Y b off (bv l)):Rep w Y (aBr (some l)) [.slice (some ⟨b,off,none⟩) l.length cap]:=by
 simp only[aBr,Rep]
 exact .inr ⟨b,off,cap,bv l,by rw[List.length_map],by rw[List.length_map];exact h2,h3,aNk l⟩
theorem aT3 {w:World}{Y:Nat→Prop}(a:Addr):Rep w Y (aBr (some [])) [.slice (some a) 0 0]:=by
 simp only[aBr,Rep]
 exact .inl ⟨rfl,some a,rfl,fun _ h=>by cases h⟩
theorem aBp {w:World}{Y:Nat→Prop}{o:Option (List UInt8)}{v:Value}(h:Rep w Y (aBr o) [v]):∃ p cap,v=.slice p (o.getD []).length cap∧(o.getD []).length≤cap:=by
 cases o with
 | none=>exact⟨none,0,aMt h,Nat.le_refl _⟩
 | some l =>
  rcases aGc h with ⟨rfl,a,rfl⟩|⟨b,off,cap,rfl,h2,_⟩
  ·exact⟨some a,0,rfl,Nat.le_refl _⟩
  ·exact⟨_,cap,rfl,h2⟩
theorem aHG {w:World}{Y:Nat→Prop}{o:Option (List UInt8)}{p:Option Addr}{len cap k:Nat}(h:Rep w Y (aBr o) [.slice p len cap])(hk:k≤len):Rep w Y (aBr (o.map (List.drop k))) [.slice (if cap=k then p else p.map (·.add (k*1))) (len - k) (cap - k)]:=by
 cases o with
 | none =>
  have h1:=aMt h
  simp only[Value.slice.injEq] at h1
  obtain⟨rfl,rfl,rfl⟩:=h1
  obtain rfl:k=0:=by omega
  exact aCn _
 | some l =>
  rcases aGc h with ⟨rfl,a,h1⟩|⟨b,off,cap',h1,h2,h3⟩
  ·simp only[Value.slice.injEq] at h1
   obtain⟨rfl,rfl,rfl⟩:=h1
   obtain rfl:k=0:=by omega
   exact aT3 a
  ·simp only[Value.slice.injEq] at h1
   obtain⟨rfl,rfl,rfl⟩:=h1
   have hl:(l.drop k).length=l.length - k:=List.length_drop
   simp only[Option.map_some]
   rw[← hl]
   by_cases hc:cap=k
   ·rw[if_pos hc]
    refine aSi (by omega) ?_
    have:l.drop k=[]:=List.drop_of_length_le (by omega)
    rw[this]
    intro j u hj
    simp[bv] at hj
   ·rw[if_neg hc]
    have e:(⟨b,off,none⟩ : Addr).add (k*1)=⟨b,off+k,none⟩:=by simp[Addr.add]
    simp only[e]
    refine aSi (by omega) ?_
    rw[aYb]
    intro j u hj
    rw[List.getElem?_drop] at hj
    obtain⟨h4,h5⟩:=h3 (k+j) u hj
    exact⟨h4,by rw[Nat.add_assoc];exact h5⟩
theorem aWc {w:World}{Y:Nat→Prop}{o:Option (List UInt8)}{p:Option Addr}{len cap k:Nat}(h:Rep w Y (aBr o) [.slice p len cap])(hk:k≤len):Rep w Y (aBr (o.map (List.take k))) [.slice p k k]:=by
 cases o with
 | none =>
  have h1:=aMt h
  simp only[Value.slice.injEq] at h1
  obtain⟨rfl,rfl,rfl⟩:=h1
  obtain rfl:k=0:=by omega
  exact aCn _
 | some l =>
  rcases aGc h with ⟨rfl,a,h1⟩|⟨b,off,cap',h1,h2,h3⟩
  ·simp only[Value.slice.injEq] at h1
   obtain⟨rfl,rfl,rfl⟩:=h1
   obtain rfl:k=0:=by omega
   exact aT3 a
  ·simp only[Value.slice.injEq] at h1
   obtain⟨rfl,rfl,rfl⟩:=h1
   have hl:(l.take k).length=k:=by rw[List.length_take];omega
   have:=aSi (w:=w) (Y:=Y) (l:=l.take k) (b:=b) (off:=off) (cap:=k) (by omega) (by
    rw[aZr]
    intro j u hj
    rw[List.getElem?_take] at hj
    split at hj
    ·exact h3 j u hj
    ·cases hj)
   rw[hl] at this
   exact this
theorem aHi {w:World}{Y:Nat→Prop}{o:Option (List UInt8)}{v:Value}(h:Rep w Y (aBr o) [v]):Rep w Y (aDJ (o.getD [])) [v]:=by
 cases o with
 | none =>
  have h':=aMt h
  subst h'
  simp[Rep,aDJ]
 | some l =>
  simp only[aBr,Rep,Option.getD_some,aDJ] at h ⊢
  rcases h with ⟨h1,p,h2,_⟩|h
  ·exact .inl ⟨h1,p,h2,fun hf=>by cases hf⟩
  ·exact .inr h
def aBx (w:World)(Y:Nat→Prop)(rb e:Nat)(s:RS):Prop:=∃ v,w.heap[rb]? = some (.cells #[v,.bool s.bad] e (0,0))∧Rep w Y (aBr s.src) [v]
theorem aBe {k:IntKind}(hs:k.signed=false){n:Nat}(h:n<2 ^ k.bits):k.wrap (n:Int)=(n:Int):=by
 have h2:((n:Int))%(2 ^ k.bits:Nat)=n:=Int.emod_eq_of_lt (by omega) (by exact_mod_cast h)
 cases k<;>first|(simp[IntKind.signed] at hs;done)|(simp only[IntKind.wrap,IntKind.signed,IntKind.bits] at *;simp at *;omega)
theorem aE4 {k:IntKind}(hs:k.signed=false)(x y s:Nat)(hx:x<2 ^ s)(h:x+y*2 ^ s<2 ^ k.bits):ibits .or k (x:Int) ((y*2 ^ s:Nat):Int)=some ((x+y*2 ^ s:Nat):Int):=by
 have h1:(BitVec.ofInt k.bits (x:Int) ||| BitVec.ofInt k.bits ((y*2 ^ s:Nat):Int)).toNat=x+y*2 ^ s:=by
  rw[BitVec.toNat_or,BitVec.toNat_ofInt,BitVec.toNat_ofInt]
  have e1:((x:Int)%((2 ^ k.bits:Nat):Int)).toNat=x:=by
   rw[Int.emod_eq_of_lt (by omega) (by exact_mod_cast (by omega:x<2 ^ k.bits))];simp
  have e2:(((y*2 ^ s:Nat):Int)%((2 ^ k.bits:Nat):Int)).toNat=y*2 ^ s:=by
   rw[Int.emod_eq_of_lt (by omega) (by exact_mod_cast (by omega:y*2 ^ s<2 ^ k.bits))];exact Int.toNat_natCast _
  rw[e1,e2,Nat.or_comm,Nat.mul_comm,← Nat.two_pow_add_eq_or_of_lt hx,Nat.add_comm]
 show some (k.wrap ((BitVec.ofInt k.bits (x:Int) ||| BitVec.ofInt k.bits ((y*2 ^ s:Nat):Int)).toNat:Int))=_
 rw[h1,aBe hs h]
theorem aVS {l:List UInt8}(h : 2≤l.length):be (l.take 2)=(l.getD 1 0).toNat+(l.getD 0 0).toNat*2 ^ 8:=by
 match l,h with
 | a0::a1::r,_=>simp only[List.take_succ_cons,List.take_zero,be,List.length_cons,List.length_nil,List.getD_cons_zero,List.getD_cons_succ];omega
theorem aWW {l:List UInt8}(h : 4≤l.length):be (l.take 4)=(l.getD 3 0).toNat+(l.getD 2 0).toNat*2 ^ 8+(l.getD 1 0).toNat*2 ^ 16+(l.getD 0 0).toNat*2 ^ 24:=by
 match l,h with
 | a0::a1::a2::a3::r,_=>simp only[List.take_succ_cons,List.take_zero,be,List.length_cons,List.length_nil,List.getD_cons_zero,List.getD_cons_succ];omega
theorem aVU {l:List UInt8}(h : 8≤l.length):be (l.take 8)=(l.getD 7 0).toNat+(l.getD 6 0).toNat*2 ^ 8+(l.getD 5 0).toNat*2 ^ 16+(l.getD 4 0).toNat*2 ^ 24+(l.getD 3 0).toNat*2 ^ 32+(l.getD 2 0).toNat*2 ^ 40+(l.getD 1 0).toNat*2 ^ 48+(l.getD 0 0).toNat*2 ^ 56:=by
 match l,h with
 | a0::a1::a2::a3::a4::a5::a6::a7::r,_=>simp only[List.take_succ_cons,List.take_zero,be,List.length_cons,List.length_nil,List.getD_cons_zero,List.getD_cons_succ];omega
theorem aFc {l:List UInt8}{j:Nat}(h:j<l.length):(bv l)[j]? = some (.int .u8 (((l.getD j 0).toNat:Nat):Int)):=by
 simp[bv,List.getElem?_map,List.getElem?_eq_getElem h,List.getD_eq_getElem?_getD]
theorem aDH {n s:Nat}:((n*2 ^ s:Nat):Int)=(n:Int)*2 ^ s:=by simp
theorem aBx.lt {w:World}{Y:Nat→Prop}{rb e:Nat}{s:RS}(h:aBx w Y rb e s):rb<w.heap.size:=by
 obtain⟨v,h1,_⟩:=h
 exact (Array.getElem?_eq_some_iff.1 h1).1
section
variable {w0 w w':World}{X Z:Nat→Prop}{m:List Ent}
theorem Mem.blkCall2 (h:Mem w0 X Z m w){i g e:Nat}{cs cs':List Value}(hi:aBi m i=some (.blk g cs e))(hp:Agr (fun k=>k=g) w w')(hb:w'.heap[g]? = some (.cells cs'.toArray e (0,0))){d d2:DD}{c c2:List Value}
  (hr:Rep w' (fun b=>b<w.heap.size∧Yof w0 Z m b) d c) (hr2:Rep w' (fun b=>b<w.heap.size∧Yof w0 Z m b) d2 c2):Mem w0 X Z (.rep d2 c2::.rep d c::aBn m i (.blk g cs' e)) w':=by
 have h2:=h.blkCall hi hp hb hr
 have hmu:muts (aBn m i (.blk g cs' e))=muts m:=aFZ hi rfl
 refine h2.add rfl (Rep.move (fun _ _ hy=>⟨rfl,fun hz=>hy ⟨Yof.lt h ?_,?_⟩⟩) d2 c2 hr2)
 ·simpa [Yof,hmu,muts,Ent.mut] using hz
 ·simpa [Yof,hmu,muts,Ent.mut] using hz
end
end Go.Mk
namespace Go.Mk.Ea
open Go Go.Mk
section
end
end Go.Mk.Ea
namespace Go.Mk.Ea
open Go Go.Mk
section
variable {ops:Array Oper}{Q:Exit→Act→World→Prop}{rest:List Oper}{a:Act}{w:World}
end
end Go.Mk.Ea
namespace Go.Mk.Ea
open Go Go.Mk
section
end
end Go.Mk.Ea
namespace Go.Mk.Ea
open Go Go.Mk
section
end
section
end
theorem all_range {N:Nat}{p:Nat→Bool}(h:(List.range N).all p=true){k:Nat}(hk:k<N):p k=true:=List.all_eq_true.1 h k (List.mem_range.2 hk)
end Go.Mk.Ea
namespace Go.Mk.Er
open Go Go.Mk
inductive It
 | fld (i:Nat)|tags|ktags (i:Nat)
def It.is:It→It→Bool
 | .fld i,.fld j=>Nat.beq i j
 | .tags,.tags=>true
 | .ktags i,.ktags j=>Nat.beq i j
 | _,_=>false
def itF (V:Int):List Fld→Nat→List It→List It
 | [],_,l=>l
 | f::r,i,l=>match f.inl V with
  | true=>.fld i::itF V r (i+1) l
  | false=>itF V r (i+1) l
def its (fs:List Fld)(V:Int)(ft:Bool):List It:=itF V fs 0 (match ft with
 | true=>(match kIx fs 0 with
  | some i=>[.ktags i]
  | none=>[.tags])
 | false=>[])
structure G where
 q:Nat→T
 u:List (Nat × List UInt8)
def G.set (g:G)(i:Nat)(t:T):G:=⟨fun j=>if j=i then t else g.q j,g.u⟩
def rdI (fs:List Fld)(V:Int)(flex:Bool)(g:G)(s:RS):It→Option (G × RS)
 | .fld i=>(rdF (fs.getD i aAm) V flex s).map fun p=>(g.set i p.1,p.2)
 | .tags=>some (⟨g.q,(aI4 s).1⟩,(aI4 s).2)
 | .ktags i=>(aEl (rdF (fs.getD i aAm) V flex) (RS.uv s).1 false (dfF (fs.getD i aAm)) [] (RS.uv s).2).map fun p=>(⟨(g.set i p.1).q,p.2.1⟩,p.2.2)
def aIC (fs:List Fld)(V:Int)(flex:Bool):List It→G→RS→Option (G × RS)
 | [],g,s=>some (g,s)
 | i::r,g,s=>(rdI fs V flex g s i).bind fun p=>aIC fs V flex r p.1 p.2
def _root_.Go.Mk.Fld.rdd (f:Fld)(V:Int)(flex:Bool):Bool:=f.inl V||(decide (0≤f.tag)&&flex)
theorem aRi {f:Fld}{V:Int}{flex:Bool}(h:f.tag<0):f.rdd V flex=f.has V:=by
 unfold Fld.rdd
 rw[aML h,decide_eq_false (show ¬ (0:Int)≤f.tag by omega),Bool.false_and,Bool.or_false]
theorem aZj {f:Fld}{V:Int}:f.rdd V false=f.inl V:=by unfold Fld.rdd;rw[Bool.and_false,Bool.or_false]
def qsI (V:Int)(q:Nat→T):List Fld→Nat→List T
 | [],_=>[]
 | f::r,i=>(if f.inl V then q i else dfF f)::qsI V q r (i+1)
def qs (V:Int)(flex:Bool)(q:Nat→T):List Fld→Nat→List T
 | [],_=>[]
 | f::r,i=>(if f.rdd V flex then q i else dfF f)::qs V flex q r (i+1)
theorem aSd {V:Int}{q q':Nat→T}:∀ (fs:List Fld) (i:Nat),(∀ j f,fs[j]? = some f→f.inl V=true→q (i+j)=q' (i+j))→qsI V q fs i=qsI V q' fs i
 | [],_,_=>rfl
 | f::r,i,h=>by
  simp only[qsI]
  have h2:=aSd (V:=V) (q:=q) (q':=q') r (i+1) fun j g hj hg=>by
   have:=h (j+1) g (by simpa using hj) hg
   rw[show i+1+j=i+(j+1) by omega]
   exact this
  rw[h2]
  cases hh:f.inl V with
  | false=>simp
  | true=>have:=h 0 f rfl hh;rw[Nat.add_zero] at this;simp[this]
theorem aRM {V:Int}{flex:Bool}{q:Nat→T}:∀ (fs:List Fld) (i:Nat),(flex=false∨fs.all (fun g=>decide (g.tag<0))=true)→qs V flex q fs i=qsI V q fs i
 | [],_,_=>rfl
 | f::r,i,h=>by
  simp only[qs,qsI]
  rw[aRM r (i+1) (h.imp id fun h=>by simp only[List.all_cons,Bool.and_eq_true] at h;exact h.2)]
  have e:f.rdd V flex=f.inl V:=by
   rcases h with h|h
   ·rw[h,aZj]
   ·simp only[List.all_cons,Bool.and_eq_true,decide_eq_true_eq] at h
    rw[aRi h.1,aML h.1]
  rw[e]
theorem aXL {V:Int}:∀ {fs:List Fld} (i:Nat),aHR fs=true→fs.all (fun g=>decide (g.tag<0))=true∨∃ k f,fs[k]? = some f∧f.tag=0∧kIx fs i=some (i+k)∧(∀ flex s,aVg fs V flex s=rdF f V flex s) ∧
  (∀ q,qs V true q fs i=(qsI V q fs i).set k (q (i+k)))∧(∀ q,(qsI V q fs i).getD k T.nil=dfF f)
 | [],i,_=>.inl rfl
 | f::r,i,h=>by
  simp only[aHR,Bool.and_eq_true,Bool.or_eq_true,decide_eq_true_eq] at h
  obtain⟨⟨h1,h2⟩,h3⟩:=h
  have ht:=(aLi h1).1
  by_cases h0:f.tag<0
  ·rcases aXL (V:=V) (i+1) h2 with h|⟨k,g,e1,e2,e3,e5,e7,e8⟩
   ·left
    simp only[List.all_cons,Bool.and_eq_true,decide_eq_true_eq]
    exact⟨h0,h⟩
   ·right
    refine⟨k+1,g,by simpa using e1,e2,?_,fun flex s=>?_,fun q=>?_,fun q=>?_⟩
    ·unfold kIx
     rw[if_pos h0,e3]
     congr 1
     omega
    ·unfold aVg
     rw[if_pos h0,e5]
    ·simp only[qs,qsI]
     rw[e7,aRi h0,aML h0,show i+1+k=i+(k+1) by omega]
     simp
    ·simp only[qsI,List.getD_cons_succ]
     exact e8 q
  ·right
   have hr:r.all (fun g=>decide (g.tag<0))=true:=h3.resolve_left h0
   have hz:f.tag=0:=by omega
   have hinl:f.inl V=false:=by unfold Fld.inl;rw[decide_eq_false h0];rfl
   refine⟨0,f,rfl,hz,?_,fun flex s=>?_,fun q=>?_,fun q=>?_⟩
   ·unfold kIx
    rw[if_neg h0]
    rfl
   ·unfold aVg
    rw[if_neg h0]
   ·simp only[qs,qsI]
    rw[aRM r (i+1) (.inr hr)]
    have e:f.rdd V true=true:=by
     unfold Fld.rdd
     rw[hinl,decide_eq_true (show (0:Int)≤f.tag by omega)]
     rfl
    rw[e,Nat.add_zero]
    simp
   ·simp only[qsI,List.getD_cons_zero]
    rw[hinl]
    simp
section
variable {fs0:List Fld}{V:Int}{flex:Bool}
theorem aNp:∀ (fs:List Fld) (i:Nat) (l:List It) (g:G) (s:RS),(∀ j,fs[j]? = fs0[i+j]?) →
  (∀ l' s',aOs fs V flex s=some (l',s')→∃ g',aIC fs0 V flex (itF V fs i l) g s=aIC fs0 V flex l g' s'∧g'.u=g.u∧qsI V g'.q fs i=l'∧∀ j,j<i→g'.q j=g.q j) ∧
  (aOs fs V flex s=none→aIC fs0 V flex (itF V fs i l) g s=none)
 | [],i,l,g,s,_=>by
  refine⟨fun l' s' h=>?_,fun h=>by simp[aOs] at h⟩
  simp only[aOs,Option.some.injEq,Prod.mk.injEq] at h
  obtain⟨rfl,rfl⟩:=h
  exact⟨g,rfl,rfl,rfl,fun _ _=>rfl⟩
 | f::r,i,l,g,s,hj=>by
  have h0:=hj 0
  simp only[List.getElem?_cons_zero,Nat.add_zero] at h0
  have hg:fs0.getD i aAm=f:=by rw[List.getD_eq_getElem?_getD,← h0];rfl
  have hj':∀ j,r[j]? = fs0[i+1+j]?:=fun j=>by have:=hj (j+1);simp only[List.getElem?_cons_succ] at this;rw[this];congr 1;omega
  simp only[aOs,itF]
  cases hh:f.inl V with
  | false =>
   simp only[Bool.false_eq_true,if_false]
   obtain⟨k1,k2⟩:=aNp r (i+1) l g s hj'
   constructor
   ·intro l' s' h
    cases hr:aOs r V flex s with
    | none=>rw[hr] at h;simp at h
    | some p =>
     rw[hr] at h
     simp only[Option.some.injEq,Prod.mk.injEq] at h
     obtain⟨rfl,rfl⟩:=h
     obtain⟨g',e1,e2,e3,e4⟩:=k1 p.1 p.2 (by rw[hr])
     exact⟨g',e1,e2,by simp only[qsI,hh,Bool.false_eq_true,if_false,e3],fun j hj=>e4 j (by omega)⟩
   ·intro h
    cases hr:aOs r V flex s with
    | none=>exact k2 hr
    | some p=>rw[hr] at h;simp at h
  | true =>
   simp only[if_true,aIC,rdI]
   rw[hg]
   cases hf:rdF f V flex s with
   | none=>exact⟨fun l' s' h=>by simp at h,fun _=>rfl⟩
   | some p =>
    obtain⟨t,s1⟩:=p
    simp only[Option.map_some,Option.bind_some]
    obtain⟨k1,k2⟩:=aNp r (i+1) l (g.set i t) s1 hj'
    constructor
    ·intro l' s' h
     cases hr:aOs r V flex s1 with
     | none=>rw[hr] at h;simp at h
     | some p =>
      rw[hr] at h
      simp only[Option.some.injEq,Prod.mk.injEq] at h
      obtain⟨rfl,rfl⟩:=h
      obtain⟨g',e1,e2,e3,e4⟩:=k1 p.1 p.2 (by rw[hr])
      refine⟨g',e1,e2,?_,fun j hj=>?_⟩
      ·simp only[qsI,hh,if_true,e3]
       rw[e4 i (by omega)]
       simp[G.set]
      ·rw[e4 j (by omega)]
       show (if j=i then t else g.q j)=_
       rw[if_neg (by omega)]
    ·intro h
     cases hr:aOs r V flex s1 with
     | none=>exact k2 hr
     | some p=>rw[hr] at h;simp at h
theorem aHf (g:G)(s:RS)(fs:List Fld)(ho:aHR fs=true) :
  (∀ g' s',aIC fs V flex (its fs V flex) g s=some (g',s')→rdP fs V flex s=some (.mk 0 [] false (qs V flex g'.q fs 0) (if flex then g'.u else []),s')) ∧
  (aIC fs V flex (its fs V flex) g s=none→rdP fs V flex s=none):=by
 have key:=fun tl=>aNp (fs0:=fs) (V:=V) (flex:=flex) fs 0 tl g s (fun j=>by simp)
 unfold its rdP aP3
 cases flex with
 | false =>
  cases hr:aOs fs V false s with
  | none=>exact⟨fun g' s' h=>by rw[(key []).2 hr] at h;simp at h,fun _=>rfl⟩
  | some p =>
   obtain⟨l,s1⟩:=p
   obtain⟨g1,e1,e2,e3,_⟩:=(key []).1 l s1 hr
   simp only
   rw[e1]
   subst e3
   simp only[aIC,Bool.false_eq_true,if_false]
   exact⟨fun g' s' h=>by
    simp only[Option.some.injEq,Prod.mk.injEq] at h
    obtain⟨rfl,rfl⟩:=h
    rw[aRM fs 0 (.inl rfl)],fun h=>by simp at h⟩
 | true =>
  rcases aXL (V:=V) 0 ho with hall|⟨k,f,f1,f2,f3,f4,f5,f6⟩
  ·rw[aOz hall]
   simp only
   cases hr:aOs fs V true s with
   | none=>exact⟨fun g' s' h=>by rw[(key [.tags]).2 hr] at h;simp at h,fun _=>rfl⟩
   | some p =>
    obtain⟨l,s1⟩:=p
    obtain⟨g1,e1,e2,e3,_⟩:=(key [.tags]).1 l s1 hr
    rw[e1]
    subst e3
    simp only[aIC,rdI,Option.bind_some,if_true]
    exact⟨fun g' s' h=>by
     simp only[Option.some.injEq,Prod.mk.injEq] at h
     obtain⟨rfl,rfl⟩:=h
     rw[aRM fs 0 (.inr hall)],fun h=>by simp at h⟩
  ·rw[Nat.zero_add] at f3 f5
   rw[f3]
   simp only
   have hfg:fs.getD k aAm=f:=by rw[List.getD_eq_getElem?_getD,f1];rfl
   have hkf:aVg fs V true=rdF f V true:=funext fun s=>f4 true s
   cases hr:aOs fs V true s with
   | none=>exact⟨fun g' s' h=>by rw[(key [.ktags k]).2 hr] at h;simp at h,fun _=>rfl⟩
   | some p =>
    obtain⟨l,s1⟩:=p
    obtain⟨g1,e1,e2,e3,_⟩:=(key [.ktags k]).1 l s1 hr
    rw[e1]
    subst e3
    simp only[aIC,rdI,if_true]
    rw[hfg,hkf,f6 g1.q]
    cases hk:aEl (rdF f V true) (RS.uv s1).1 false (dfF f) [] (RS.uv s1).2 with
    | none=>exact⟨fun g' s' h=>by simp at h,fun _=>rfl⟩
    | some p =>
     obtain⟨x,u,s2⟩:=p
     simp only[Option.map_some,Option.bind_some]
     refine⟨fun g' s' h=>?_,fun h=>by simp at h⟩
     simp only[Option.some.injEq,Prod.mk.injEq] at h
     obtain⟨rfl,rfl⟩:=h
     rw[f5]
     have hx:(g1.set k x).q k=x:=by simp[G.set]
     have hrow:qsI V (g1.set k x).q fs 0=qsI V g1.q fs 0:=aSd fs 0 fun j g hj hg=>by
      have hne:j≠k:=by
       rintro rfl
       rw[f1] at hj
       obtain rfl:=Option.some.inj hj
       unfold Fld.inl at hg
       rw[decide_eq_false (show ¬ f.tag<0 by omega)] at hg
       cases hg
      show (if 0+j=k then x else g1.q (0+j))=_
      rw[if_neg (by omega)]
     show some (T.mk 0 [] false ((qsI V g1.q fs 0).set k x) u,s2)=some (T.mk 0 [] false ((qsI V (g1.set k x).q fs 0).set k ((g1.set k x).q k)) u,s2)
     rw[hrow,hx]
end
inductive AC
 | k (v:Value)
 | got (i:Nat)
 | gotu (i j:Nat)
 | tags
 | sub (i:Nat) (a:AC)
def vis:Value→Value→Bool
 | .bool a,.bool b=>a==b
 | .int p a,.int q b=>decide (p=q)&&decide (a=b)
 | .string a,.string b=>decide (a=b)
 | .slice none 0 0,.slice none 0 0=>true
 | .pointer none,.pointer none=>true
 | .map none,.map none=>true
 | .nilIface,.nilIface=>true
 | _,_=>false
theorem aUh {a b:Value}(h:vis a b=true):a=b:=by
 unfold vis at h
 split at h
 ·rw[eq_of_beq h]
 ·simp only[Bool.and_eq_true,decide_eq_true_eq] at h;rw[h.1,h.2]
 ·rw[of_decide_eq_true h]
 ·rfl
 ·rfl
 ·rfl
 ·rfl
 ·cases h
def AC.is:AC→AC→Bool
 | .k a,.k b=>vis a b
 | .got i,.got j=>Nat.beq i j
 | .gotu i j,.gotu i' j'=>Nat.beq i i'&&Nat.beq j j'
 | .tags,.tags=>true
 | .sub i a,.sub j b=>Nat.beq i j&&AC.is a b
 | _,_=>false
theorem AC.is_eq:∀ {a b:AC},AC.is a b=true→a=b:=fun {a}=>by
 induction a with
 | k v =>
  intro b h
  cases b<;>first|(simp only[AC.is] at h;rw[aUh h];done)|(simp[AC.is] at h;done)
 | got i =>
  intro b h
  cases b<;>first|(simp only[AC.is] at h;rw[Nat.eq_of_beq_eq_true h];done)|(simp[AC.is] at h;done)
 | gotu i j =>
  intro b h
  cases b<;>first|(simp only[AC.is,Bool.and_eq_true] at h;rw[Nat.eq_of_beq_eq_true h.1,Nat.eq_of_beq_eq_true h.2];done)|(simp[AC.is] at h;done)
 | tags =>
  intro b h
  cases b<;>first|rfl|(simp[AC.is] at h;done)
 | sub i a ih =>
  intro b h
  cases b<;>first|(simp only[AC.is,Bool.and_eq_true] at h;rw[Nat.eq_of_beq_eq_true h.1,ih h.2];done)|(simp[AC.is] at h;done)
def aJx:List AC→List AC→Bool
 | [],[]=>true
 | a::r,b::s=>AC.is a b&&aJx r s
 | _,_=>false
theorem aFx:∀ {l m:List AC},aJx l m=true→l=m
 | [],[],_=>rfl
 | a::r,b::s,h=>by
  simp only[aJx,Bool.and_eq_true] at h
  rw[AC.is_eq h.1,aFx h.2]
 | [],_::_,h=>by simp[aJx] at h
 | _::_,[],h=>by simp[aJx] at h
def aOx (f:Fld):List Value:=match f.kind with
 | 0=>[.bool (f.df%2==1)]
 | 1=>[.int .i8 (IntKind.i8.wrap f.df)]
 | 2=>[.int .i16 (IntKind.i16.wrap f.df)]
 | 3=>[.int .i32 (IntKind.i32.wrap f.df)]
 | 4=>[.int .i64 f.df]
 | 5=>[.int .u16 (IntKind.u16.wrap f.df)]
 | 7=>List.replicate 16 (.int .u8 0)
 | 8=>if 0≤f.nu then [.pointer none] else [.string (bs [])]
 | 9=>[.slice none 0 0]
 | 10=>[.pointer none]
 | _=>[.slice none 0 0]
def aPa (f:Fld):Bool:=match f.kind with
 | 6=>false
 | 10=>decide (0≤f.nu)
 | k=>Nat.ble k 11
def gus (i:Nat):Nat→List AC
 | 0=>[]
 | k+1=>.gotu i (15 - k)::gus i k
def aQL (V:Int)(flex:Bool):List Fld→Nat→List AC→List AC
 | [],_,l=>l
 | f::r,i,l=>match f.rdd V flex with
  | true=>match f.kind with
   | 7=>gus i 16++aQL V flex r (i+1) l
   | _=>.got i::aQL V flex r (i+1) l
  | false=>(aOx f).map AC.k++aQL V flex r (i+1) l
def aPd (V:Int)(flex:Bool)(f:Fld):Bool:=match f.rdd V flex with
 | true=>match f.kind with
  | 10=>decide (0≤f.nu)
  | k=>Nat.ble k 11
 | false=>aPa f
def aZB (fs:List Fld)(tg:Bool)(V:Int)(flex:Bool):List AC:=aQL V flex fs 0 (match tg,flex with
 | true,true=>[.tags]
 | true,false=>[.k (.map none)]
 | false,_=>[])
def gT (t:T):G:=⟨fun j=>t.l.getD j T.nil,t.u⟩
def ACR (w:World)(Y:Nat→Prop):List Fld→Bool→G→AC→Value→Prop
 | _,_,_,.k v,x=>x=v
 | fs,tg,g,.got i,x=>Rep w Y (ddF (fs.getD i aAm) tg (g.q i)) [x]
 | _,_,g,.gotu i j,x=>(bv (sixteen (g.q i).s))[j]? = some x
 | _,_,g,.tags,x=>Rep w Y (aAN g.u) [x]
 | fs,tg,g,.sub i a,x=>ACR w Y (fs.getD i aAm).sub tg (gT (g.q i)) a x
def ACs (w:World)(Y:Nat→Prop)(fs:List Fld)(tg:Bool)(g:G):List AC→List Value→Prop
 | [],[]=>True
 | a::r,x::s=>ACR w Y fs tg g a x∧ACs w Y fs tg g r s
 | _,_=>False
section
variable {w w':World}{Y Y':Nat→Prop}{fs:List Fld}{tg:Bool}{g:G}
theorem ACR.move (hm:∀ i,i<w.heap.size→¬ Y i→w'.heap[i]? = w.heap[i]? ∧ ¬ Y' i):∀ {a:AC} {fs:List Fld} {tg:Bool} {g:G} {x:Value},ACR w Y fs tg g a x→ACR w' Y' fs tg g a x
 | .k _v,_,_,_,_x,h=>h
 | .got _i,_,_,_,_x,h=>Rep.move hm _ _ h
 | .gotu _i _j,_,_,_,_x,h=>h
 | .tags,_,_,_,_x,h=>Rep.move hm _ _ h
 | .sub i a,fs,_,g,x,h=>ACR.move (a:=a) (fs:=(fs.getD i aAm).sub) (g:=gT (g.q i)) (x:=x) hm h
theorem ACs.move (hm:∀ i,i<w.heap.size→¬ Y i→w'.heap[i]? = w.heap[i]? ∧ ¬ Y' i):∀ {l:List AC} {c:List Value},ACs w Y fs tg g l c→ACs w' Y' fs tg g l c
 | [],[],_=>trivial
 | _a::_r,_x::_s,h=>⟨ACR.move hm h.1,ACs.move hm h.2⟩
 | [],_::_,h=>h.elim
 | _::_,[],h=>h.elim
theorem ACs.length:∀ {l:List AC} {c:List Value},ACs w Y fs tg g l c→l.length=c.length
 | [],[],_=>rfl
 | a::r,x::s,h=>by simp[ACs.length h.2]
 | [],_::_,h=>h.elim
 | _::_,[],h=>h.elim
theorem ACs.app:∀ {l l':List AC} {c:List Value},ACs w Y fs tg g (l++l') c→∃ c1 c2,c=c1++c2∧ACs w Y fs tg g l c1∧ACs w Y fs tg g l' c2
 | [],l',c,h=>⟨[],c,rfl,trivial,h⟩
 | a::r,l',x::s,h=>by
  obtain⟨c1,c2,rfl,h1,h2⟩:=ACs.app h.2
  exact⟨x::c1,c2,rfl,⟨h.1,h1⟩,h2⟩
 | a::r,l',[],h=>h.elim
theorem ACs.consts:∀ {l:List Value} {c:List Value},ACs w Y fs tg g (l.map AC.k) c→c=l
 | [],[],_=>rfl
 | a::r,x::s,h=>by rw[h.1,ACs.consts (l:=r) h.2]
 | [],_::_,h=>h.elim
 | _::_,[],h=>h.elim
theorem aKM {i:Nat}:∀ {k:Nat} {c:List Value},k≤16→ACs w Y fs tg g (gus i k) c→c=(bv (sixteen (g.q i).s)).drop (16 - k)
 | 0,[],_,_=>by
  have:(bv (sixteen (g.q i).s)).length=16:=by rw[aCV,aAK]
  rw[List.drop_of_length_le (by omega)]
 | k+1,x::s,hk,h=>by
  have h2:=aKM (k:=k) (by omega) h.2
  have h1:(bv (sixteen (g.q i).s))[15 - k]? = some x:=h.1
  rw[h2]
  have e : 16 - (k+1)=15 - k:=by omega
  rw[e,List.drop_eq_getElem_cons (List.getElem?_eq_some_iff.1 h1).1,(List.getElem?_eq_some_iff.1 h1).2]
  congr 2
  omega
 | 0,_::_,_,h=>h.elim
 | k+1,[],_,h=>h.elim
theorem aIs (s:List UInt8):aCh w Y (s.map ddB) (bv s):=by
 induction s with
 | nil=>simp[bv,aCh]
 | cons b r ih=>exact aCh.cons1 (aCn _) ih
theorem aOK {f:Fld}(h:aPa f=true):Rep w Y (ddF f tg (dfF f)) (aOx f):=by
 cases f with
 | mk kind fr to nu tag df of sub =>
  unfold ddF
  match kind,h with
  | 0,_=>rw[if_neg (by decide)];exact aCn _
  | 1,_=>rw[if_neg (by decide)];exact aCn _
  | 2,_=>rw[if_neg (by decide)];exact aCn _
  | 3,_=>rw[if_neg (by decide)];exact aCn _
  | 4,_=>rw[if_neg (by decide)];exact aCn _
  | 5,_=>rw[if_neg (by decide)];exact aCn _
  | 6,h=>simp[aPa,Fld.kind] at h
  | 7,_ =>
   rw[if_neg (by decide)]
   exact aHW (aIs (List.replicate 16 0))
  | 8,_ =>
   rw[if_neg (by decide)]
   show Rep w Y (if 0≤nu then (if decide (0≤nu)=true then .v (.pointer none) else _) else .v (.string (bs []))) (if 0≤nu then [.pointer none] else [.string (bs [])])
   by_cases h0 : 0≤nu
   ·rw[if_pos h0,if_pos h0,if_pos (by simpa using h0)];exact aCn _
   ·rw[if_neg h0,if_neg h0];exact aCn _
  | 9,_=>rw[if_neg (by decide)];exact aCn _
  | 10,h =>
   rw[if_neg (by decide)]
   have h0 : 0≤nu:=of_decide_eq_true (show decide (0≤nu)=true from h)
   have e:dfF (.mk 10 fr to nu tag df of sub)=ofNil:=by unfold dfF;simp[h0]
   rw[e]
   show Rep w Y (if 0≤nu then (if ofNil.z=true then .v (.pointer none) else _) else _) [.pointer none]
   rw[if_pos h0]
   exact aCn _
  | 11,_=>rw[if_pos rfl];exact aCn _
  | k+12,h=>simp[aPa,Fld.kind] at h
end
theorem aRC {w:World}{Y:Nat→Prop}{fs0:List Fld}{tg:Bool}{g:G}{V:Int}{flex:Bool}{tl:List AC}{dd:List DD}:∀ (fs:List Fld) (i:Nat) {c:List Value} (pre:List T),(∀ j,fs[j]? = fs0[i+j]?)→(fs.all (aPd V flex))=true→pre.length=i→ACs w Y fs0 tg g (aQL V flex fs i tl) c →
  (∀ {c},ACs w Y fs0 tg g tl c→aCh w Y dd c)→aCh w Y (aP4 fs tg (pre++qs V flex g.q fs i) i++dd) c
 | [],i,c,pre,_,_,_,h,ht=>by simpa [aP4,aQL] using ht h
 | f::r,i,c,pre,hj,hok,hi,h,ht=>by
  have h0:=hj 0
  simp only[List.getElem?_cons_zero,Nat.add_zero] at h0
  have hg:fs0.getD i aAm=f:=by rw[List.getD_eq_getElem?_getD,← h0];rfl
  have hj':∀ j,r[j]? = fs0[i+1+j]?:=fun j=>by have:=hj (j+1);simp only[List.getElem?_cons_succ] at this;rw[this];congr 1;omega
  simp only[List.all_cons,Bool.and_eq_true] at hok
  simp only[aP4,qs,List.cons_append,aCh]
  have e:∀ t:T,(pre++t::qs V flex g.q r (i+1)).getD i T.nil=t:=by subst hi;intro t;simp
  rw[e]
  have step:∀ (t:T) {c1 c2:List Value},Rep w Y (ddF f tg t) c1→ACs w Y fs0 tg g (aQL V flex r (i+1) tl) c2→∃ a b,c1++c2=a++b∧Rep w Y (ddF f tg t) a∧aCh w Y (aP4 r tg (pre++t::qs V flex g.q r (i+1)) (i+1)++dd) b:=by
   intro t c1 c2 h1 h2
   have:=aRC r (i+1) (pre++[t]) hj' hok.2 (by simp[hi]) h2 ht
   simp only[List.append_assoc,List.singleton_append] at this
   exact⟨c1,c2,rfl,h1,this⟩
  unfold aQL at h
  cases hh:f.rdd V flex with
  | false =>
   rw[hh] at h
   simp only at h
   obtain⟨c1,c2,rfl,h1,h2⟩:=ACs.app h
   rw[ACs.consts h1]
   simp only[Bool.false_eq_true,if_false]
   refine step _ (aOK ?_) h2
   have:=hok.1
   unfold aPd at this
   rw[hh] at this
   exact this
  | true =>
   rw[hh] at h
   simp only[if_true] at h ⊢
   split at h
   ·rename_i hk
    obtain⟨c1,c2,rfl,h1,h2⟩:=ACs.app h
    have h3:=aKM (Nat.le_refl 16) h1
    rw[Nat.sub_self,List.drop_zero] at h3
    refine step _ ?_ h2
    rw[h3]
    cases f with
    | mk kind fr to nu tag df of sub =>
     have hk':kind=7:=hk
     subst hk'
     unfold ddF
     rw[if_neg (by decide)]
     exact aHW (aIs _)
   ·match c,h with
    | x::c2,h =>
     refine step _ (c1:=[x]) ?_ h.2
     have h1:Rep w Y (ddF (fs0.getD i aAm) tg (g.q i)) [x]:=h.1
     rw[hg] at h1
     exact h1
theorem aVW {w:World}{Y:Nat→Prop}{fs:List Fld}{tg flex:Bool}{g:G}{V:Int}{c:List Value}(hok:fs.all (aPd V flex)=true)(hft:(!flex||tg)=true)(h:ACs w Y fs tg g (aZB fs tg V flex) c) :
  Rep w Y (ddS fs tg (.mk 0 [] false (qs V flex g.q fs 0) (if flex then g.u else []))) c:=by
 unfold aZB at h
 have key:∀ (tl:List AC),(∀ {c:List Value},ACs w Y fs tg g tl c→aCh w Y (if tg then [aAN (if flex then g.u else [])] else []) c)→ACs w Y fs tg g (aQL V flex fs 0 tl) c→Rep w Y (ddS fs tg (.mk 0 [] false (qs V flex g.q fs 0) (if flex then g.u else []))) c:=fun tl ht hc=>by
  have:=aRC (fs0:=fs) (tl:=tl) (dd:=if tg then [aAN (if flex then g.u else [])] else []) fs 0 (c:=c) [] (fun j=>by simp) hok rfl hc ht
  rw[List.nil_append] at this
  exact aHW this
 refine key _ (fun {c} hc=>?_) h
 clear h key
 revert hc
 cases tg with
 | false =>
  intro hc
  match c,hc with
  | [],_=>simp[aCh]
 | true =>
  cases flex with
  | true =>
   intro hc
   match c,hc with
   | [x],hc=>exact aCh.cons1 hc.1 aCh.nil
  | false =>
   intro hc
   match c,hc with
   | [x],hc =>
    have hx:x=.map none:=hc.1
    subst hx
    refine aCh.cons1 ?_ aCh.nil
    simp[aAN,Rep]
section
variable {w:World}{Y:Nat→Prop}{fs:List Fld}{tg:Bool}{g g':G}
theorem ACs.appI0:∀ {l l':List AC} {c c':List Value},ACs w Y fs tg g l c→ACs w Y fs tg g l' c'→ACs w Y fs tg g (l++l') (c++c')
 | [],_,[],_,_,h=>h
 | _::_,_,_::_,_,h,h'=>⟨h.1,ACs.appI0 h.2 h'⟩
 | [],_,_::_,_,h,_=>h.elim
 | _::_,_,[],_,h,_=>h.elim
theorem ACs.constsI:∀ (l:List Value),ACs w Y fs tg g (l.map AC.k) l
 | []=>trivial
 | _::r=>⟨rfl,ACs.constsI r⟩
theorem aP9 {i:Nat}(h:g'.q i=g.q i):∀ {k:Nat} {c:List Value},ACs w Y fs tg g (gus i k) c→ACs w Y fs tg g' (gus i k) c
 | 0,[],_=>trivial
 | 0,_::_,h=>h.elim
 | _+1,[],h=>h.elim
 | k+1,x::c,hc=>by
  refine⟨?_,aP9 h hc.2⟩
  have h1:(bv (sixteen (g.q i).s))[15 - k]? = some x:=hc.1
  show (bv (sixteen (g'.q i).s))[15 - k]? = some x
  rw[h];exact h1
end
def bAM (i:Nat)(l:List AC):List AC:=l.map (AC.sub i)
def acF (V:Int)(tg flex:Bool):List Fld→Nat→List AC→List AC
 | [],_,l=>l
 | f::r,i,l=>match f.rdd V flex with
  | true=>match f.kind with
   | 7=>gus i 16++acF V tg flex r (i+1) l
   | 10=>match decide (f.nu<0)&&flex with
    | true=>bAM i (aZB f.sub tg V flex)++acF V tg flex r (i+1) l
    | false=>.got i::acF V tg flex r (i+1) l
   | _=>.got i::acF V tg flex r (i+1) l
  | false=>(aOx f).map AC.k++acF V tg flex r (i+1) l
def aXM (V:Int)(flex:Bool)(f:Fld):Bool:=match f.rdd V flex with
 | true=>match f.kind with
  | 10=>decide (0≤f.nu)||f.sub.all (fun h=>decide (h.tag<0)&&h.has V&&aPd V true h)
  | k=>Nat.ble k 11
 | false=>aPa f
def acS (fs:List Fld)(tg:Bool)(V:Int)(flex:Bool):List AC:=acF V tg flex fs 0 (match tg,flex with
 | true,true=>[.tags]
 | true,false=>[.k (.map none)]
 | false,_=>[])
section
variable {w w':World}{Y Y':Nat→Prop}{fs:List Fld}{tg:Bool}{g:G}
theorem ACs.sub {i:Nat}:∀ {l:List AC} {c:List Value},ACs w Y fs tg g (bAM i l) c ↔ ACs w Y (fs.getD i aAm).sub tg (gT (g.q i)) l c
 | [],[]=>Iff.rfl
 | [],_::_=>Iff.rfl
 | _::_,[]=>Iff.rfl
 | a::r,x::c=>by
  show (ACR w Y fs tg g (.sub i a) x∧ACs w Y fs tg g (bAM i r) c) ↔ _
  rw[ACs.sub (l:=r) (c:=c)]
  rfl
theorem aQf {tg:Bool}:∀ (fs:List Fld) (l l':List T) (i:Nat),(∀ j,i≤j→j<i+fs.length→l.getD j T.nil=l'.getD j T.nil)→aP4 fs tg l i=aP4 fs tg l' i
 | [],_,_,_,_=>rfl
 | f::r,l,l',i,h=>by
  simp only[aP4]
  rw[h i (Nat.le_refl _) (by simp only[List.length_cons];omega),aQf r l l' (i+1) fun j h1 h2=>h j (by omega) (by simp only[List.length_cons];omega)]
theorem aQp {V:Int}{flex:Bool}{q:Nat→T}:∀ (fs:List Fld) (i k:Nat),fs.all (fun h=>decide (h.tag<0)&&h.has V)=true→k<fs.length→(qs V flex q fs i).getD k T.nil=q (i+k)
 | [],_,_,_,hk=>by simp at hk
 | f::r,i,0,h,_=>by
  simp only[List.all_cons,Bool.and_eq_true,decide_eq_true_eq] at h
  simp[qs,aRi h.1.1,h.1.2]
 | f::r,i,k+1,h,hk=>by
  simp only[List.all_cons,Bool.and_eq_true] at h
  simp only[qs,List.getD_cons_succ]
  rw[aQp r (i+1) k (by simpa using h.2) (by simpa using hk)]
  congr 1
  omega
theorem aNL {V:Int}{l:List Fld}(h:l.all (fun h=>decide (h.tag<0)&&h.has V&&aPd V true h)=true):l.all (fun h=>decide (h.tag<0)&&h.has V)=true∧l.all (aPd V true)=true:=by
 simp only[List.all_eq_true,Bool.and_eq_true] at h ⊢
 exact⟨fun x hx=>(h x hx).1,fun x hx=>(h x hx).2⟩
theorem aYm {V:Int}{sub:List Fld}{t:T}{c:List Value}(h:sub.all (fun h=>decide (h.tag<0)&&h.has V&&aPd V true h)=true)(hc:ACs w Y sub true (gT t) (aZB sub true V true) c):Rep w Y (ddS sub true t) c:=by
 obtain⟨h1,h2⟩:=aNL h
 have h3:=aVW h2 rfl hc
 have e:ddS sub true (.mk 0 [] false (qs V true (gT t).q sub 0) (if true=true then (gT t).u else []))=ddS sub true t:=by
  unfold ddS
  show DD.agg (aP4 sub true (qs V true (gT t).q sub 0) 0++[aAN t.u])=DD.agg (aP4 sub true t.l 0++[aAN t.u])
  rw[aQf sub (qs V true (gT t).q sub 0) t.l 0 fun j _ hj=>by
   rw[aQp sub 0 j h1 (by omega),Nat.zero_add]
   rfl]
 rw[← e]
 exact h3
theorem ACs.other {g':G}{tl:List AC}(ht:∀ {c},ACs w Y fs tg g tl c→ACs w Y fs tg g' tl c){V:Int}{flex:Bool}:∀ (l:List Fld) (i:Nat) {c:List Value},(∀ j,i≤j→j<i+l.length→g'.q j=g.q j)→ACs w Y fs tg g (aQL V flex l i tl) c→ACs w Y fs tg g' (aQL V flex l i tl) c
 | [],_,_,_,h=>ht h
 | f::r,i,c,hq,h=>by
  have hr:∀ {c},ACs w Y fs tg g (aQL V flex r (i+1) tl) c→ACs w Y fs tg g' (aQL V flex r (i+1) tl) c:=fun h=>ACs.other ht r (i+1) (fun j h1 h2=>hq j (by omega) (by simp only[List.length_cons];omega)) h
  have hi:=hq i (Nat.le_refl _) (by simp only[List.length_cons];omega)
  unfold aQL at h ⊢
  cases hh:f.rdd V flex with
  | false =>
   rw[hh] at h
   simp only at h ⊢
   obtain⟨c1,c2,rfl,h1,h2⟩:=ACs.app h
   refine ACs.appI0 ?_ (hr h2)
   rw[ACs.consts h1]
   exact ACs.constsI _
  | true =>
   rw[hh] at h
   simp only at h ⊢
   split at h
   ·obtain⟨c1,c2,rfl,h1,h2⟩:=ACs.app h
    exact ACs.appI0 (aP9 hi h1) (hr h2)
   ·match c,h with
    | x::c2,h =>
     refine⟨?_,hr h.2⟩
     have h1:Rep w Y (ddF (fs.getD i aAm) tg (g.q i)) [x]:=h.1
     show Rep w Y (ddF (fs.getD i aAm) tg (g'.q i)) [x]
     rw[hi];exact h1
end
theorem aVP {f:Fld}{tg:Bool}{t:T}(h:f.kind=10)(hn:f.nu<0):ddF f tg t=ddS f.sub tg t:=by
 cases f with
 | mk kind fr to nu tag df of sub =>
  have h':kind=10:=h
  have hn':nu<0:=hn
  subst h'
  unfold ddF
  rw[if_neg (by decide)]
  show (if 0≤nu then _ else _)=_
  rw[if_neg (by omega)]
  rfl
theorem aUR {w:World}{Y:Nat→Prop}{fs0:List Fld}{tg:Bool}{g:G}{V:Int}{flex:Bool}{tl:List AC}{dd:List DD}(hft:(!flex||tg)=true):∀ (fs:List Fld) (i:Nat) {c:List Value} (pre:List T),(∀ j,fs[j]? = fs0[i+j]?)→(fs.all (aXM V flex))=true→pre.length=i→ACs w Y fs0 tg g (acF V tg flex fs i tl) c →
  (∀ {c},ACs w Y fs0 tg g tl c→aCh w Y dd c)→aCh w Y (aP4 fs tg (pre++qs V flex g.q fs i) i++dd) c
 | [],i,c,pre,_,_,_,h,ht=>by simpa [aP4,acF] using ht h
 | f::r,i,c,pre,hj,hok,hi,h,ht=>by
  have h0:=hj 0
  simp only[List.getElem?_cons_zero,Nat.add_zero] at h0
  have hg:fs0.getD i aAm=f:=by rw[List.getD_eq_getElem?_getD,← h0];rfl
  have hj':∀ j,r[j]? = fs0[i+1+j]?:=fun j=>by have:=hj (j+1);simp only[List.getElem?_cons_succ] at this;rw[this];congr 1;omega
  simp only[List.all_cons,Bool.and_eq_true] at hok
  simp only[aP4,qs,List.cons_append,aCh]
  have e:∀ t:T,(pre++t::qs V flex g.q r (i+1)).getD i T.nil=t:=by subst hi;intro t;simp
  rw[e]
  have step:∀ (t:T) {c1 c2:List Value},Rep w Y (ddF f tg t) c1→ACs w Y fs0 tg g (acF V tg flex r (i+1) tl) c2→∃ a b,c1++c2=a++b∧Rep w Y (ddF f tg t) a∧aCh w Y (aP4 r tg (pre++t::qs V flex g.q r (i+1)) (i+1)++dd) b:=by
   intro t c1 c2 h1 h2
   have:=aUR hft r (i+1) (pre++[t]) hj' hok.2 (by simp[hi]) h2 ht
   simp only[List.append_assoc,List.singleton_append] at this
   exact⟨c1,c2,rfl,h1,this⟩
  unfold acF at h
  cases hh:f.rdd V flex with
  | false =>
   rw[hh] at h
   simp only at h
   obtain⟨c1,c2,rfl,h1,h2⟩:=ACs.app h
   rw[ACs.consts h1]
   simp only[Bool.false_eq_true,if_false]
   refine step _ (aOK ?_) h2
   have:=hok.1
   unfold aXM at this
   rw[hh] at this
   exact this
  | true =>
   rw[hh] at h
   simp only[if_true] at h ⊢
   split at h
   ·rename_i hk
    obtain⟨c1,c2,rfl,h1,h2⟩:=ACs.app h
    have h3:=aKM (Nat.le_refl 16) h1
    rw[Nat.sub_self,List.drop_zero] at h3
    refine step _ ?_ h2
    rw[h3]
    cases f with
    | mk kind fr to nu tag df of sub =>
     have hk':kind=7:=hk
     subst hk'
     unfold ddF
     rw[if_neg (by decide)]
     exact aHW (aIs _)
   ·rename_i hk
    split at h
    ·rename_i hb
     simp only[Bool.and_eq_true,decide_eq_true_eq] at hb
     obtain⟨hnu,hfl⟩:=hb
     have htg:tg=true:=by rw[hfl] at hft;simpa using hft
     obtain⟨c1,c2,rfl,h1,h2⟩:=ACs.app h
     refine step _ ?_ h2
     have h3:=ACs.sub.1 h1
     rw[hg] at h3
     have hs:f.sub.all (fun h=>decide (h.tag<0)&&h.has V&&aPd V true h)=true:=by
      have:=hok.1
      unfold aXM at this
      rw[hh] at this
      simp only[hk] at this
      rw[Bool.or_eq_true] at this
      rcases this with h|h
      ·have:=of_decide_eq_true h;omega
      ·exact h
     subst hfl htg
     have h4:=aYm hs h3
     rw[aVP hk hnu]
     exact h4
    ·match c,h with
     | x::c2,h =>
      refine step _ (c1:=[x]) ?_ h.2
      have h1:Rep w Y (ddF (fs0.getD i aAm) tg (g.q i)) [x]:=h.1
      rw[hg] at h1
      exact h1
   ·match c,h with
    | x::c2,h =>
     refine step _ (c1:=[x]) ?_ h.2
     have h1:Rep w Y (ddF (fs0.getD i aAm) tg (g.q i)) [x]:=h.1
     rw[hg] at h1
     exact h1
theorem aUs {w:World}{Y:Nat→Prop}{fs:List Fld}{tg flex:Bool}{g:G}{V:Int}{c:List Value}(hok:fs.all (aXM V flex)=true)(hft:(!flex||tg)=true)(h:ACs w Y fs tg g (acS fs tg V flex) c) :
  Rep w Y (ddS fs tg (.mk 0 [] false (qs V flex g.q fs 0) (if flex then g.u else []))) c:=by
 unfold acS at h
 have key:∀ (tl:List AC),(∀ {c:List Value},ACs w Y fs tg g tl c→aCh w Y (if tg then [aAN (if flex then g.u else [])] else []) c)→ACs w Y fs tg g (acF V tg flex fs 0 tl) c→Rep w Y (ddS fs tg (.mk 0 [] false (qs V flex g.q fs 0) (if flex then g.u else []))) c:=fun tl ht hc=>by
  have:=aUR (fs0:=fs) hft (tl:=tl) (dd:=if tg then [aAN (if flex then g.u else [])] else []) fs 0 (c:=c) [] (fun j=>by simp) hok rfl hc ht
  rw[List.nil_append] at this
  exact aHW this
 refine key _ (fun {c} hc=>?_) h
 clear h key
 revert hc
 cases tg with
 | false =>
  intro hc
  match c,hc with
  | [],_=>simp[aCh]
 | true =>
  cases flex with
  | true =>
   intro hc
   match c,hc with
   | [x],hc=>exact aCh.cons1 hc.1 aCh.nil
  | false =>
   intro hc
   match c,hc with
   | [x],hc =>
    have hx:x=.map none:=hc.1
    subst hx
    refine aCh.cons1 ?_ aCh.nil
    simp[aAN,Rep]
end Go.Mk.Er
namespace Go.Mk
open Go
def aJq (P:Program)(t:Nat):Bool:=match P.underlying t with|some (.interface _)=>true|_=>false
theorem aTi {P:Program}{t:Nat}(h:aJq P t=true):P.underlying t=some (.interface (P.methodsAt t)):=by
 unfold aJq at h
 unfold Program.methodsAt
 split at h
 ·rename_i ms hms;simp[hms]
 ·cases h
theorem aIo {P:Program}{ops:Array Oper}{Q:Exit→Act→World→Prop}{rest:List Oper}{a:Act}{w:World}{n:Nat}{l:List (Nat × Value)}{d:Nat}{ty:Nat}{ps:String}{af:Array Edge}{x:Operand}{t t':Nat}
  (hk:Kn n l a) (ht:aJq P t=true) (hx:ev l x=some .nilIface) (hd:Nat.blt d n=true)
  (K:∀ a',Kn n ((d,.bool false)::l) a'→wpList P ops Q rest a' w) :
  wpList P ops Q (⟨some d,.binOp .neq t x (.const .nilIface) t',ty,ps,af,none⟩::rest) a w:=by
 refine aAD hk rfl rfl hd ?_ K
 have hy:a.eval (.const .nilIface)=.nilIface:=rfl
 have hg:∀ w,(eqGuard .neq t x (.const .nilIface) .nilIface .nilIface).run P w=.ok () w:=fun w=>by
  unfold eqGuard
  cases x<;>simp
 unfold aDp execOp
 simp only[Sem.run_bind,hk.eval hx,hy,hg,Result.andThen_ok,run_neq_nil_nil _ t (aTi ht),Sem.run_pure]
end Go.Mk
namespace Go.Mk.Er
open Go Go.Mk
open Go.Mk.Ea (aNz)
inductive RK
 | val (kind:Nat) (nul cp:Bool)
 | cnt (cp:Bool)|ok|done|tags|dflt (ds:List (Nat × Value))|uv|span|setTag
def rdV (kind:Nat)(nul flex:Bool)(s:RS):T × RS:=(aND kind nul flex (fun _=>none) s).getD (ofNil,s)
theorem aXB {kind:Nat}{nul flex:Bool}{pt:RS→Option (T × RS)}{s:RS}(h:kind≠10):aND kind nul flex pt s=some (rdV kind nul flex s):=by
 unfold rdV
 match kind,h with
 | 0,_=>rfl
 | 1,_=>rfl
 | 2,_=>rfl
 | 3,_=>rfl
 | 4,_=>rfl
 | 5,_=>rfl
 | 6,_=>rfl
 | 7,_=>rfl
 | 8,_=>rfl
 | 9,_=>rfl
 | 10,h=>exact absurd rfl h
 | k+11,_=>rfl
def aXy:List (Nat × Value)→List Value→List Value
 | [],c=>c
 | d::r,c=>aXy r (c.set d.1 d.2)
structure Cx where
 P:Program
 n:Nat
 m:Nat
 rt:Nat
 er:Nat
 cfg:List (Nat × RK)
 V:Nat
 flex:Bool
 /-- nothing went wrong -/
 good:Value
 /-- where what is given back lies where something went wrong; itself -/
 gb:Nat
 gv:Value
def Cx.err (cx:Cx)(v:Value):Prop:=v=cx.gv
def RkOk (P:Program)(er:Nat)(good:Value)(gb:Nat)(gv:Value)(f:Nat):RK→Prop
 | .val kind nul cp=>∀ {w0:World} {Y:Nat→Prop} {rb:Nat} {s:RS} (nu:Int) (st:T→DD),(kind=8→nul=decide (0≤nu))→aBx w0 Y rb er s→Y rb →
   Ret P f [.pointer (some ⟨rb,0,none⟩)] w0 fun v w'=>Agr (fun k=>k=rb) w0 w'∧(Rep w' (fun b=>b<w0.heap.size∧Y b) (aKy kind nu st (rdV kind nul cp s).1) (cellsOf v)∧(kind≠7→v.oneCell'=true))∧aBx w' (fun b=>b<w0.heap.size∧Y b) rb er (rdV kind nul cp s).2
 | .cnt cp=>∀ {w0:World} {Y:Nat→Prop} {rb:Nat} {s:RS},aBx w0 Y rb er s→Y rb →
   Ret P f [.pointer (some ⟨rb,0,none⟩)] w0 fun v w'=>Agr (fun k=>k=rb) w0 w'∧v=.int .i32 (aEp cp s).1∧aBx w' (fun b=>b<w0.heap.size∧Y b) rb er (aEp cp s).2
 | .ok=>∀ {w0:World} {Y:Nat→Prop} {rb:Nat} {s:RS},aBx w0 Y rb er s→Ret P f [.pointer (some ⟨rb,0,none⟩)] w0 fun v w'=>w'=w0∧v=.bool (!s.bad)
 | .done=>∀ {w0:World} {Y:Nat→Prop} {rb:Nat} {s:RS},aBx w0 Y rb er s→w0.cell? ⟨gb,0,none⟩=some gv→Ret P f [.pointer (some ⟨rb,0,none⟩)] w0 fun v w'=>w'=w0∧(s.bad=false→v=good)∧(s.bad=true→v=gv)
 | .tags=>∀ {w0:World} {Y:Nat→Prop} {rb:Nat} {s:RS},aBx w0 Y rb er s→Y rb →
   Ret P f [.pointer (some ⟨rb,0,none⟩)] w0 fun v w'=>Agr (fun k=>k=rb) w0 w'∧Rep w' (fun b=>b<w0.heap.size∧Y b) (aAN (aI4 s).1) (cellsOf v)∧aBx w' (fun b=>b<w0.heap.size∧Y b) rb er (aI4 s).2
 | .dflt ds=>∀ {w0:World} {b ty:Nat} {pre c post:List Value},w0.heap[b]? = some (.cells (pre++c++post).toArray ty (0,0))→(∀ d ∈ ds,d.1<c.length) →
   Ret P f [.pointer (some ⟨b,pre.length,none⟩)] w0 fun _ w'=>Agr (fun k=>k=b) w0 w'∧w'.heap[b]? = some (.cells (pre++aXy ds c++post).toArray ty (0,0))
 | .uv=>∀ {w0:World} {Y:Nat→Prop} {rb:Nat} {s:RS},aBx w0 Y rb er s→Y rb →
   Ret P f [.pointer (some ⟨rb,0,none⟩)] w0 fun v w'=>Agr (fun k=>k=rb) w0 w'∧v=.int .u32 ((RS.uv s).1:Int)∧aBx w' (fun b=>b<w0.heap.size∧Y b) rb er (RS.uv s).2
 | .span=>∀ {w0:World} {Y:Nat→Prop} {rb:Nat} {s:RS} (k:Int),aBx w0 Y rb er s→Y rb →
   Ret P f [.pointer (some ⟨rb,0,none⟩),.int .i64 k] w0 fun v w'=>Agr (fun k=>k=rb) w0 w'∧Rep w' (fun b=>b<w0.heap.size∧Y b) (aBr (RS.span k s).1) [v]∧aBx w' (fun b=>b<w0.heap.size∧Y b) rb er (RS.span k s).2
 | .setTag=>∀ {w0:World} {g off e key:Nat} {cs:List Value} {p:Option Nat} {ks:List Nat} {vs:List Value} {x:Value},w0.heap[g]? = some (.cells cs.toArray e (0,0))→cs[off]? = some (.map p)→aM2 w0 p ks vs →
   Ret P f [.pointer (some ⟨g,off,none⟩),.int .u32 (key:Int),x] w0 fun _ w'=>Agr (fun k=>k=g∨p=some k) w0 w'∧∃ r,w'.heap[g]? = some (.cells (spl cs off [.map (some r)]).toArray e (0,0)) ∧
    aGE w' r (aPl ks vs key x).1 (aPl ks vs key x).2∧(p=some r∨(p=none∧w0.heap.size≤r))
def CfgOk (cx:Cx):Prop:=∀ f ck,(f,ck) ∈ cx.cfg→RkOk cx.P cx.er cx.good cx.gb cx.gv f ck∧cb0 cx.P f=true
structure LS where
 fs:List Fld
 tg:Bool
 top:Bool
inductive Md
 | nn|nz|ne
inductive Sg
 | un|pos|npos|zero|nzero
structure Pd where
 bk:Option Bool
 sg:Sg
 z:Option (List Value)
 lp:Bool
inductive AV
 | junk
 | k (v:Value)
 | rdr
 | ptr (l o:Nat)
 | val (i:Nat)
 | tagv
 | cnt (l:Nat)
 | okb (p:Bool)
 | gt0|eq0
 | base (l:Nat) (m:Md)
 | made
 | arr (l:Nat) (m:Md)
 | box (i:Nat)
 | idx (l:Nat)
 | res
 | sv (l j:Nat)
structure St where
 sl:List (Nat × AV)
 cells:List AC
 todo:List It
 pd:Option Pd
 fr:Bool
def alook:List (Nat × AV)→Nat→Option AV
 | [],_=>none
 | (k,v)::r,s=>match Nat.beq s k with
  | true=>some v
  | false=>alook r s
def aev (l:List (Nat × AV)):Operand→Option AV
 | .tmp t=>alook l t
 | .const v=>some (.k v)
 | _=>none
def aevs (l:List (Nat × AV)):List Operand→Option (List AV)
 | []=>some []
 | x::r=>match aev l x,aevs l r with
  | some v,some vs=>some (v::vs)
  | _,_=>none
def put (cx:Cx)(σ : St)(d:Nat)(v:AV):Option St:=match Nat.blt d cx.n with
 | true=>some { σ with sl:=(d,v)::σ.sl }
 | false=>none
def AV.unl (cur:Nat):AV→AV
 | .cnt l=>if Nat.beq l cur then .junk else .cnt l
 | .arr l m=>if Nat.beq l cur then .junk else .arr l m
 | .base l .nz=>if Nat.beq l cur then .junk else .base l .nz
 | .gt0=>.junk
 | .eq0=>.junk
 | .made=>.junk
 | .okb _=>.junk
 | .res=>.junk
 | v=>v
def AV.unm (cur:Nat):AV→AV
 | .made=>.junk
 | .arr l m=>if Nat.beq l cur then .junk else .arr l m
 | v=>v
def AV.unf:AV→AV
 | .okb _=>.junk
 | .res=>.junk
 | v=>v
def AV.unr:It→AV→AV
 | _,.okb _=>.junk
 | _,.res=>.junk
 | .fld i,.val j=>if Nat.beq i j then .junk else .val j
 | .fld i,.box j=>if Nat.beq i j then .junk else .box j
 | .tags,.tagv=>.junk
 | _,v=>v
def AC.free:It→AC→Bool
 | .fld i,.got j=>!Nat.beq i j
 | .fld i,.gotu j _=>!Nat.beq i j
 | .fld i,.sub j _=>!Nat.beq i j
 | .tags,.tags=>false
 | .ktags _,_=>false
 | _,_=>true
def aGd (f:AV→AV):List (Nat × AV)→List (Nat × AV)
 | []=>[]
 | p::r=>(p.1,f p.2)::aGd f r
def aMi:List (Nat × RK)→Nat→Option RK
 | [],_=>none
 | (k,c)::r,f=>match Nat.beq f k with
  | true=>some c
  | false=>aMi r f
def bA3:List (Nat × Value)→List AC→List AC
 | [],c=>c
 | d::r,c=>bA3 r (c.set d.1 (.k d.2))
def aLN:Option Pd→Bool
 | none=>true
 | some _=>false
def stC (fs:List Fld):AV→Option (List AC)
 | .k v=>if v.oneCell' then some [.k v] else none
 | .val i=>match (fs.getD i aAm).kind with
  | 7=>some (gus i 16)
  | 10=>none
  | k=>if Nat.blt k 10 then some [.got i] else none
 | .tagv=>some [.tags]
 | _=>none
def bA6 (c:List AC)(o:Nat)(v:List AC):Option (List AC) :=
 if Nat.ble (o+v.length) c.length then some (c.take o++v++c.drop (o+v.length)) else none
def bBs (f:Fld)(V:Int):Md→Bool
 | .nn=>decide (f.nu<0)
 | .nz=>f.may V
 | .ne=>decide (0≤f.nu)&&!f.may V
def aUv:Value→Bool
 | .int _ i=>decide (i=0)
 | _=>false
def xcall (cx:Cx)(ls:List LS)(cur:Nat)(σ : St)(d:Option Nat):Option RK→List AV→Option St
 | some (.val kind nul cp),[.rdr]=>match d,σ.todo,ls[cur]?,aLN σ.pd with
  | some d,.fld i::r,some s,true =>
   match Nat.beq (s.fs.getD i aAm).kind kind&&Nat.blt kind 10&&(nul==(s.fs.getD i aAm).mayR cx.V)&&(!Nat.beq kind 8||(nul==decide (0≤(s.fs.getD i aAm).nu)))&&(Nat.blt kind 8||(cp==cx.flex)) with
   | true=>if σ.cells.all (AC.free (.fld i)) then put cx ⟨aGd (AV.unr (.fld i)) σ.sl,σ.cells,r,none,false⟩ d (.val i) else none
   | false=>none
  | _,_,_,_=>none
 | some (.cnt cp),[.rdr]=>match d,σ.todo,ls[cur]?,aLN σ.pd with
  | some d,.fld i::_,some s,true =>
   match Nat.beq (s.fs.getD i aAm).kind 11&&(cp==cx.flex) with
   | true=>put cx ⟨aGd (AV.unl cur) σ.sl,σ.cells,σ.todo,some ⟨none,.un,none,false⟩,false⟩ d (.cnt cur)
   | false=>none
  | _,_,_,_=>none
 | some .ok,[.rdr]=>match d with
  | some d=>put cx ⟨aGd AV.unf σ.sl,σ.cells,σ.todo,σ.pd,true⟩ d (.okb true)
  | none=>none
 | some .done,[.rdr]=>match d with
  | some d=>put cx ⟨aGd AV.unf σ.sl,σ.cells,σ.todo,σ.pd,true⟩ d .res
  | none=>none
 | some .tags,[.rdr]=>match d,σ.todo,aLN σ.pd with
  | some d,.tags::r,true=>if σ.cells.all (AC.free .tags) then put cx ⟨aGd (AV.unr .tags) σ.sl,σ.cells,r,none,false⟩ d .tagv else none
  | _,_,_=>none
 | some (.dflt ds),[.ptr l 0]=>match d,Nat.beq l cur&&ds.all (fun p=>Nat.blt p.1 σ.cells.length&&p.2.oneCell') with
  | none,true=>some { σ with cells:=bA3 ds σ.cells }
  | some d,true=>put cx { σ with cells:=bA3 ds σ.cells } d .junk
  | _,_=>none
 | _,_=>none
def xop (cx:Cx)(ls:List LS)(cur:Nat)(σ : St):Oper→Option St
 | ⟨some d,.move x,_,_,_,none⟩=>match aev σ.sl x with
  | some v=>put cx σ d v
  | none=>none
 | ⟨some d,.assign x,_,_,_,none⟩=>match aev σ.sl x with
  | some v=>put cx σ d v
  | none=>none
 | ⟨some d,.pick c x y,_,_,_,none⟩=>match aev σ.sl c,aev σ.sl x,aev σ.sl y with
  | some (.k (.bool true)),some v,some _=>put cx σ d v
  | some (.k (.bool false)),some _,some v=>put cx σ d v
  | _,_,_=>none
 | ⟨some d,.nilCheck x,_,_,_,none⟩=>match aev σ.sl x with
  | some (.ptr l o)=>put cx σ d (.ptr l o)
  | some .rdr=>put cx σ d .rdr
  | _=>none
 | ⟨some d,.fieldAddr t x k,_,_,_,none⟩=>match aev σ.sl x,aAC cx.P t k with
  | some (.ptr l o),some o'=>put cx σ d (.ptr l (o+o'))
  | _,_=>none
 | ⟨some d,.unOp .not _ x,_,_,_,none⟩=>match aev σ.sl x with
  | some (.k (.bool b))=>put cx σ d (.k (.bool (!b)))
  | some (.okb p)=>put cx σ d (.okb (!p))
  | _=>none
 | ⟨some d,.load t x,_,_,_,none⟩=>match aev σ.sl x,aCm cx.P t with
  | some (.ptr l o),some (false,_)=>match Nat.beq l cur,σ.cells[o]? with
   | true,some (.k (.slice none 0 0))=>put cx σ d (.base cur .nn)
   | true,some (.k v)=>put cx σ d (.k v)
   | _,_=>none
  | some (.box i),some (true,16)=>put cx σ d (.val i)
  | _,_=>none
 | ⟨none,.store t x y,_,_,_,none⟩=>match aev σ.sl x,aev σ.sl y,aCm cx.P t with
  | some (.ptr l o),some (.arr l2 m),some (false,1)=>match Nat.beq l cur&&Nat.beq l2 cur,σ.todo,σ.pd,ls[cur]? with
   | true,.fld i::r,some ⟨some false,_,some _,true⟩,some s=>match bBs (s.fs.getD i aAm) cx.V m,bA6 σ.cells o [.got i] with
    | true,some c=>if σ.cells.all (AC.free (.fld i)) then some ⟨aGd (AV.unr (.fld i)) σ.sl,c,r,none,false⟩ else none
    | _,_=>none
   | _,_,_,_=>none
  | some (.ptr l o),some v,some (_bl,sz)=>match Nat.beq l cur,ls[cur]? with
   | true,some s=>match stC s.fs v with
    | some vs=>match Nat.beq vs.length sz,bA6 σ.cells o vs with
     | true,some c=>some { σ with cells:=c }
     | _,_=>none
    | none=>none
   | _,_=>none
  | _,_,_=>none
 | ⟨some d,.slice t x none (some (.const h)) none,_,_,_,none⟩=>match aev σ.sl x,aBA cx.P t,aUv h with
  | some (.base l m),some e,true=>match aCm cx.P e with
   | some _=>put cx σ d (.base l m)
   | none=>none
  | _,_,_=>none
 | ⟨some d,.buildSlice t 0 ps,_,_,_,none⟩=>match ps.toList,aBA cx.P t with
  | [],some e=>match aCm cx.P e with
   | some _=>put cx σ d (.base cur .ne)
   | none=>none
  | _,_=>none
 | ⟨some d,.call ⟨.builtin .append,xs,ts⟩,_,_,_,none⟩=>match xs.toList,ts.toList,σ.pd,ls[cur]?,σ.todo with
  | [x,y],[t,t2],some ⟨bk,.pos,none,false⟩,some s,.fld i::_=>match aev σ.sl x,aev σ.sl y,aGN cx.P t,aH0 cx.P t2 with
   | some (.base _ _),some (.cnt l),some (e,sz,by_),some _=>match aBB cx.P e with
    | some z=>match Nat.beq l cur&&Nat.blt by_ 65536&&Nat.beq (cellsOf z).length sz&&aBP (cellsOf z)&&Nat.beq sz (aI1 (s.fs.getD i aAm).of (-1) (aNS (s.fs.getD i aAm).sub s.tg)) with
     | true=>put cx ⟨aGd (AV.unm cur) σ.sl,σ.cells,σ.todo,some ⟨bk,.pos,some (cellsOf z),false⟩,σ.fr⟩ d .made
     | false=>none
    | none=>none
   | _,_,_,_=>none
  | _,_,_,_,_=>none
 | ⟨some d,.binOp .gtr _ x (.const (.int .i32 0)) _,_,_,_,none⟩=>match aev σ.sl x with
  | some (.cnt l)=>if Nat.beq l cur then put cx σ d .gt0 else none
  | _=>none
 | ⟨some d,.binOp .eql _t x (.const (.int .i32 0)) _,_,_,_,none⟩=>match aev σ.sl x with
  | some (.cnt l)=>if Nat.beq l cur then put cx σ d .eq0 else none
  | _=>none
 | ⟨some d,.binOp op _ x y _,_,_,_,none⟩=>match aev σ.sl x,aev σ.sl y with
  | some (.k (.int q i)),some (.k (.int q' j))=>match decide (q=q'),icmp op i j with
   | true,some b=>put cx σ d (.k (.bool b))
   | _,_=>none
  | _,_=>none
 | ⟨some d,.convert s t x,_,_,_,none⟩=>match aev σ.sl x,(cx.P.underlying s).isSome,aH0 cx.P t,ls[cur]? with
  | some (.val i),true,some ik,some s=>match aNz (s.fs.getD i aAm).kind with
   | some ik'=>if decide (ik=ik')&&!Nat.beq (s.fs.getD i aAm).kind 4 then put cx σ d (.val i) else none
   | none=>none
  | _,_,_,_=>none
 | ⟨some d,.indexAddr t x i,_,_,_,none⟩=>match aev σ.sl x,aev σ.sl i,ls[cur]? with
  | some (.arr l _),some (.idx l'),some s=>match Nat.beq l' cur&&Nat.beq (l+1) cur&&!s.top,aBA cx.P t with
   | true,some e=>match aCm cx.P e with
    | some (_,z)=>match Nat.beq z (aNS s.fs s.tg) with
     | true=>put cx σ d (.ptr cur 0)
     | false=>none
    | none=>none
   | _,_=>none
  | _,_,_=>none
 | ⟨d,.call ⟨.value (.func f),xs,_⟩,_,_,_,none⟩=>match aevs σ.sl xs.toList with
  | some ars=>xcall cx ls cur σ d (aMi cx.cfg f) ars
  | none=>none
 | _=>none
def xopg (cx:Cx)(ls:List LS)(cur:Nat)(all:List Oper)(σ : St)(o:Oper):Option St:=match o.guard with
 | none=>xop cx ls cur σ o
 | some (j,b)=>match (all[j]?).bind (·.dst),o.dst with
  | some dj,some d=>match alook σ.sl dj with
   | some (.k (.bool u))=>match u==b with
    | true=>xop cx ls cur σ { o with guard:=none }
    | false=>put cx σ d (.k undef)
   | _=>none
  | _,_=>none
def xbox (cx:Cx)(ls:List LS)(cur:Nat)(σ : St):Oper→Oper→Option St
 | ⟨some d,.alloc e,_,_,_,none⟩,⟨none,.store t (.tmp d') y,_,_,_,none⟩=>match Nat.beq d d'&&aLN σ.pd,aev σ.sl y,ls[cur]?,aBB cx.P e with
  | true,some (.val i),some s,some z=>match Nat.beq (s.fs.getD i aAm).kind 7&&Nat.beq (cellsOf z).length 16,y,aCm cx.P t with
   | true,.tmp y',some (true,16)=>if Nat.beq y' d then none else put cx σ d (.box i)
   | _,_,_=>none
  | _,_,_,_=>none
 | _,_=>none
def xops (cx:Cx)(ls:List LS)(cur:Nat)(all:List Oper):List Oper→St→Option St
 | [],σ=>some σ
 | o::r,σ=>match xopg cx ls cur all σ o with
  | some σ'=>xops cx ls cur all r σ'
  | none=>match r with
   | o2::r2=>match xbox cx ls cur σ o o2 with
    | some σ'=>xops cx ls cur all r2 σ'
    | none=>none
   | []=>none
def vway (n d:Nat):Nat→List (Nat × AV)→Code→Option (List (Nat × AV) × Oper × Oper)
 | 0,_,_=>none
 | g+1,sl,c=>match c with
  | .seq (.region _ o1 false) (.cond (.tmp c) a b)=>match o1.toList with
   | [⟨some m,.move x,_,_,_,none⟩]=>match Nat.beq m c&&Nat.blt m n&&!Nat.beq m d,aev sl x with
    | true,some (.k (.bool true))=>vway n d g ((m,.k (.bool true))::sl) a
    | true,some (.k (.bool false))=>vway n d g ((m,.k (.bool false))::sl) b
    | _,_=>none
   | _=>none
  | .region _ ops false=>match ops.toList with
   | [o1,o2]=>some (sl,o1,o2)
   | _=>none
  | _=>none
def xvv (cx:Cx)(ls:List LS)(cur:Nat)(σ : St)(d e:Nat)(c:Code):Option St:=match vway cx.n d 9 ((d,.junk)::σ.sl) c with
 | some (sl',⟨some t,.call ⟨.value (.func f),xs,_⟩,_,_,_,none⟩,⟨none,.store ty (.tmp d') (.tmp t'),_,_,_,none⟩) =>
  match aMi cx.cfg f,aevs sl' xs.toList,σ.todo,ls[cur]?,aBB cx.P e with
  | some (.val 8 false cp),some [.rdr],.fld i::r,some s,some z =>
   match Nat.blt d cx.n&&Nat.blt t cx.n&&!Nat.beq t d&&aLN σ.pd&&Nat.beq d' d&&Nat.beq t' t&&Nat.beq (s.fs.getD i aAm).kind 8&&decide (0≤(s.fs.getD i aAm).nu)&&!(s.fs.getD i aAm).mayR cx.V&&(cp==cx.flex)&&Nat.beq (cellsOf z).length 1&&σ.cells.all (AC.free (.fld i)),aCm cx.P ty with
   | true,some (_,1)=>some ⟨(d,.val i)::(t,.junk)::aGd (AV.unr (.fld i)) sl',σ.cells,r,none,false⟩
   | _,_=>none
  | _,_,_,_,_=>none
 | _=>none
def bBt:Code→Code→Option (Nat × Nat × Code × Code)
 | .region _ ops false,.seq c b=>match ops.toList with
  | [⟨some d,.alloc e,_,_,_,none⟩]=>some (d,e,c,b)
  | _=>none
 | _,_=>none
def kept (m:Nat)(keep:List Nat)(s:Nat):Bool:=Nat.blt s m||keep.any (Nat.beq s)
def prune (f:Nat→Bool):List (Nat × AV)→List (Nat × AV)
 | []=>[]
 | p::r=>match f p.1 with
  | true=>p::prune f r
  | false=>prune f r
def AV.low (cur:Nat):AV→Bool
 | .junk=>true
 | .k _=>true
 | .rdr=>true
 | .ptr l _=>Nat.ble l cur
 | .cnt l=>Nat.ble l cur
 | .arr l _=>Nat.ble l cur
 | .idx l=>Nat.ble l cur
 | .sv l _=>Nat.ble l cur
 | _=>false
def AV.lowV (cur:Nat)(v:AV):AV:=if v.low cur then v else .junk
def AV.is:AV→AV→Bool
 | .k a,.k b=>vis a b
 | .rdr,.rdr=>true
 | .ptr l o,.ptr l' o'=>Nat.beq l l'&&Nat.beq o o'
 | .cnt l,.cnt l'=>Nat.beq l l'
 | .base l .nn,.base l' .nn=>Nat.beq l l'
 | .base l .ne,.base l' .ne=>Nat.beq l l'
 | .base l .nz,.base l' .nz=>Nat.beq l l'
 | .arr l .nn,.arr l' .nn=>Nat.beq l l'
 | .arr l .ne,.arr l' .ne=>Nat.beq l l'
 | .arr l .nz,.arr l' .nz=>Nat.beq l l'
 | .idx l,.idx l'=>Nat.beq l l'
 | .sv l j,.sv l' j'=>Nat.beq l l'&&Nat.beq j j'
 | _,_=>false
def left (l:List (Nat × AV)):List (Nat × AV)→Bool
 | []=>true
 | p::r=>(match alook l p.1,p.2 with
  | some _,.junk=>true
  | some v,u=>AV.is u v
  | none,_=>false)&&left l r
def aQE (cur:Nat):AV→AV→AV
 | .made,.base l m=>if Nat.beq l cur then .arr l m else .junk
 | a,b=>if AV.is a b then a else .junk
def aQW (cur:Nat):AV→AV→AV
 | .base l .ne,.base l' .nn=>if Nat.beq l cur&&Nat.beq l' cur then .base cur .nz else .junk
 | a,b=>if AV.is a b then a else .junk
def aLm (J:AV→AV→AV)(f:Nat→Bool)(sb:List (Nat × AV)):List (Nat × AV)→List (Nat × AV)
 | []=>[]
 | p::r=>match f p.1,alook sb p.1 with
  | true,some v=>(p.1,J p.2 v)::aLm J f sb r
  | _,_=>aLm J f sb r
def zOk (ls:List LS)(cur:Nat)(todo:List It):Option (List Value)→Bool
 | none=>true
 | some z=>match ls[cur]?,todo with
  | some s,.fld i::_=>Nat.beq z.length (aI1 (s.fs.getD i aAm).of (-1) (aNS (s.fs.getD i aAm).sub s.tg))&&aBP z
  | _,_=>false
def aQH:List It→List It→Bool
 | [],[]=>true
 | a::r,b::s=>It.is a b&&aQH r s
 | _,_=>false
def aX0:Option (List Value)→Option (List Value)→Option (Option (List Value))
 | some z,none=>some (some z)
 | none,none=>some none
 | _,_=>none
structure RP where
 id:Nat
 idb:Nat
 i:Nat
 ln:Nat
 ta:Nat
 tb:Nat
 c:Nat
 tc:Nat
 td:Nat
 body:Code
def aUM:Code→Option RP
 | .block id (.loop (.seq (.seq (.region _ o1 false) (.cond (.tmp c) .skip (.exit id'))) (.seq (.block idb body) (.region _ o2 false)))) =>
  match o1.toList,o2.toList with
  | [⟨some ta,.move (.tmp i),_,_,_,none⟩,⟨some tb,.move (.tmp ln),_,_,_,none⟩,⟨some c1,.binOp .lss _ (.tmp ta') (.tmp tb') _,_,_,_,none⟩],
   [⟨some tc,.move (.tmp i'),_,_,_,none⟩,⟨some td,.binOp .add _ (.tmp tc') (.const (.int .i32 1)) _,_,_,_,none⟩,⟨some i2,.assign (.tmp td'),_,_,_,none⟩] =>
   match Nat.beq id id'&&Nat.beq c c1&&Nat.beq ta ta'&&Nat.beq tb tb'&&Nat.beq i i'&&Nat.beq tc tc'&&Nat.beq i i2&&Nat.beq td td' with
   | true=>some ⟨id,idb,i,ln,ta,tb,c,tc,td,body⟩
   | false=>none
  | _,_=>none
 | _=>none
def RP.own (r:RP):List Nat:=[r.i,r.ln,r.ta,r.tb,r.c,r.tc,r.td]
def apart:List Nat→Bool
 | []=>true
 | x::r=>!r.any (Nat.beq x)&&apart r
def inner (s:LS)(f:Fld):LS:=match Nat.beq f.of 10 with
 | true=>⟨f.sub,s.tg,false⟩
 | false=>⟨[.mk f.of 0 (-1) (-1) (-1) 0 0 []],false,false⟩
def aJy (cx:Cx)(s:LS)(f:Fld):Bool:=match Nat.beq f.of 10 with
 | true=>f.sub.all (aXM cx.V cx.flex)&&(!cx.flex||s.tg)&&aHR f.sub
 | false=>Nat.blt f.of 10
def writes:Code→List Nat
 | .region _ ops _=>ops.toList.filterMap (·.dst)
 | .seq a b=>writes a++writes b
 | .cond _ a b=>writes a++writes b
 | .block _ b=>writes b
 | .loop b=>writes b
 | _=>[]
def stays (cx:Cx)(keep:List Nat)(r:RP)(s:Nat):Bool :=
 kept cx.m keep s&&!r.own.any (Nat.beq s)&&!(writes r.body).any (Nat.beq s)
structure NP where
 t1:Nat
 pr:Nat
 t2:Nat
 t3:Nat
 t4:Nat
 t5:Nat
 t6:Nat
 a:Nat
 al:Nat
 nc:Nat
 fa:Nat
 a2:Nat
 nc2:Nat
 fa2:Nat
 ld:Nat
 v:Nat
 f8:Nat
 q8:Operand
 fo:Nat
 qo:Operand
 so:Operand
 ety:Nat
 st:Nat
 k:Nat
 pty:Nat
 so2:Operand
 st2:Nat
 k2:Nat
 pty2:Nat
 body:Code
def NP.tm (p:NP):List Nat:=[p.t1,p.pr,p.t2,p.t3,p.t4,p.t5,p.t6,p.a,p.al,p.nc,p.fa,p.a2,p.nc2,p.fa2,p.ld,p.v]
def bBc:Code→Code→Option NP
 | .region _ o1 false,.seq (.region _ o2 false) (.cond (.tmp c) (.seq (.region _ o3 false) (.seq (.region _ o4 false) body)) .skip) =>
  match o1.toList,o2.toList with
  | [⟨some t1,.call ⟨.value (.func f8),x8,_⟩,_,_,_,none⟩,⟨some pr,.assign (.tmp y1),_,_,_,none⟩],
   [⟨some t2,.move (.tmp y2),_,_,_,none⟩,⟨some t3,.binOp .neq _ (.tmp y3) (.const (.int .i8 m)) _,_,_,_,none⟩,⟨some t4,.move (.tmp y4),_,_,_,none⟩,⟨some t5,.call ⟨.value (.func fo),xo,_⟩,_,_,_,some (2,true)⟩,⟨some t6,.pick (.tmp y5) (.tmp y6) (.const (.bool false)),_,_,_,none⟩] =>
   match o3.toList,o4.toList,x8.toList,xo.toList with
   | [⟨some a,.move so,_,_,_,none⟩,⟨some al,.alloc ety,_,_,_,none⟩,⟨some nc,.nilCheck (.tmp y7),_,_,_,none⟩,⟨some fa,.fieldAddr st (.tmp y8) k,_,_,_,none⟩,⟨none,.store pty (.tmp y9) (.tmp y10),_,_,_,none⟩],
    [⟨some a2,.move so2,_,_,_,none⟩,⟨some nc2,.nilCheck (.tmp z1),_,_,_,none⟩,⟨some fa2,.fieldAddr st2 (.tmp z2) k2,_,_,_,none⟩,⟨some ld,.load pty2 (.tmp z3),_,_,_,none⟩,⟨some v,.assign (.tmp z4),_,_,_,none⟩],[q8],[qo] =>
    match Nat.beq y1 t1&&Nat.beq y2 pr&&Nat.beq y3 t2&&Nat.beq y4 t3&&Nat.beq y5 t4&&Nat.beq y6 t5&&Nat.beq c t6&&Nat.beq y7 a&&Nat.beq y8 nc&&Nat.beq y9 fa&&Nat.beq y10 al&&Nat.beq z1 a2&&Nat.beq z2 nc2&&Nat.beq z3 fa2&&Nat.beq z4 ld&&decide (m=-1) with
    | true=>some ⟨t1,pr,t2,t3,t4,t5,t6,a,al,nc,fa,a2,nc2,fa2,ld,v,f8,q8,fo,qo,so,ety,st,k,pty,so2,st2,k2,pty2,body⟩
    | false=>none
   | _,_,_,_=>none
  | _,_=>none
 | _,_=>none
def uniq:List Nat→List (Nat × AV)→List (Nat × AV)
 | _,[]=>[]
 | seen,p::r=>match seen.any (Nat.beq p.1) with
  | true=>uniq seen r
  | false=>p::uniq (p.1::seen) r
def aVM (cx:Cx)(cur:Nat)(keep:List Nat)(np:NP)(sl:List (Nat × AV)):List (Nat × AV) :=
 uniq [] (aGd (AV.lowV cur) (prune (fun s=>kept cx.m keep s&&!np.tm.any (Nat.beq s)) sl))
def aYo (cx:Cx)(ls:List LS)(cur:Nat)(hd:List (Nat × AV))(σ : St)(np:NP):Option (Nat × Value × LS × Nat × List It) :=
 match σ.todo,ls[cur]? with
 | .fld i::r,some s =>
  match aMi cx.cfg np.f8,aMi cx.cfg np.fo,aev hd np.q8,aev hd np.qo,aev hd np.so,aev hd np.so2 with
  | some (.val 1 _ _),some .ok,some .rdr,some .rdr,some (.ptr l o),some (.ptr l2 o2) =>
   match aAC cx.P np.st np.k,aAC cx.P np.st2 np.k2,aBB cx.P np.ety,aCm cx.P np.pty,aCm cx.P np.pty2 with
   | some p,some p2,some z,some (_,1),some (false,_) =>
    match aLN σ.pd&&Nat.beq l cur&&Nat.beq l2 cur&&Nat.beq (o+p) (o2+p2)&&Nat.beq (s.fs.getD i aAm).kind 10&&decide (0≤(s.fs.getD i aAm).nu)&&((s.fs.getD i aAm).sub.all (aXM cx.V cx.flex)&&(!cx.flex||s.tg)&&aHR (s.fs.getD i aAm).sub)&&σ.cells.all (AC.free (.fld i))&&apart np.tm&&np.tm.all (fun s=>Nat.blt s cx.n)&&Nat.beq (cur+1) ls.length,σ.cells[o+p]? with
    | true,some (.k (.pointer none))=>some (o+p,z,⟨(s.fs.getD i aAm).sub,s.tg,true⟩,i,r)
    | _,_=>none
   | _,_,_,_,_=>none
  | _,_,_,_,_,_=>none
 | _,_=>none
structure IP where
 a:Nat
 nc:Nat
 fa:Nat
 v:Nat
 so:Operand
 st:Nat
 k:Nat
def IP.tm (p:IP):List Nat:=[p.a,p.nc,p.fa,p.v]
def bCf:Code→Option IP
 | .region _ ops false=>match ops.toList with
  | [⟨some a,.move so,_,_,_,none⟩,⟨some nc,.nilCheck (.tmp y1),_,_,_,none⟩,⟨some fa,.fieldAddr st (.tmp y2) k,_,_,_,none⟩,⟨some v,.assign (.tmp y3),_,_,_,none⟩] =>
   match Nat.beq y1 a&&Nat.beq y2 nc&&Nat.beq y3 fa with
   | true=>some ⟨a,nc,fa,v,so,st,k⟩
   | false=>none
  | _=>none
 | _=>none
def aXo (cx:Cx)(cur:Nat)(keep:List Nat)(p:IP)(sl:List (Nat × AV)):List (Nat × AV) :=
 uniq [] (aGd (AV.lowV cur) (prune (fun s=>kept cx.m keep s&&!p.tm.any (Nat.beq s)) sl))
def AC.isK:AC→Bool
 | .k _=>true
 | _=>false
def bAZ (cx:Cx)(ls:List LS)(cur:Nat)(hd:List (Nat × AV))(σ : St)(p:IP):Option (Nat × Nat × LS × Nat × List It) :=
 match σ.todo,ls[cur]? with
 | .fld i::r,some s =>
  match aev hd p.so,aAC cx.P p.st p.k with
  | some (.ptr l o),some q =>
   match aLN σ.pd&&Nat.beq l cur&&Nat.beq (s.fs.getD i aAm).kind 10&&decide ((s.fs.getD i aAm).nu<0)&&cx.flex&&s.tg&&(s.fs.getD i aAm).sub.all (fun h=>decide (h.tag<0)&&h.has cx.V&&aPd cx.V true h)&&aHR (s.fs.getD i aAm).sub&&σ.cells.all (AC.free (.fld i))&&apart p.tm&&p.tm.all (fun s=>Nat.blt s cx.n)&&Nat.beq (cur+1) ls.length&&Nat.ble (o+q+aNS (s.fs.getD i aAm).sub s.tg) σ.cells.length&&((σ.cells.drop (o+q)).take (aNS (s.fs.getD i aAm).sub s.tg)).all AC.isK with
   | true=>some (o+q,aNS (s.fs.getD i aAm).sub s.tg,⟨(s.fs.getD i aAm).sub,s.tg,true⟩,i,r)
   | false=>none
  | _,_=>none
 | _,_=>none
def aY1 (cx:Cx)(ls:List LS)(cur:Nat)(keep:List Nat)(σ : St)(a:Code):Option (IP × Nat × Nat × LS × Nat × List It):=match bCf a with
 | some p=>match bAZ cx ls cur (aXo cx cur keep p σ.sl) σ p with
  | some t=>some (p,t)
  | none=>none
 | none=>none
structure KT where
 n0:Nat
 ct:Nat
 a1:Nat
 a2:Nat
 k0:Nat
 ky:Nat
 k1:Nat
 e1:Nat
 e2:Nat
 c1:Nat
 c2:Nat
 c3:Nat
 c4:Nat
 rd:Nat
 b1:Nat
 b2:Nat
 d1:Nat
 d2:Nat
 d3:Nat
 d4:Nat
 d5:Nat
 d6:Nat
 d7:Nat
 d8:Nat
 f0:Nat
 q0:Operand
 f1:Nat
 q1:Operand
 f2:Nat
 q2:Operand
 f3:Nat
 q3:Operand
 f5:Nat
 q5:Operand
 f7:Nat
 q7:Operand
 f8:Nat
 so:Operand
 st:Nat
 kf:Nat
 cv1:Nat
 cv2:Nat
 cv3:Nat
 cv4:Nat
 rty:Nat
 aty:Nat
 sty:Nat
 dr:List Oper
 body:Code
def KT.tm (p:KT):List Nat:=[p.n0,p.ct,p.a1,p.a2,p.k0,p.ky,p.k1,p.e1,p.e2,p.c1,p.c2,p.c3,p.c4,p.rd,p.b1,p.b2,p.d1,p.d2,p.d3,p.d4,p.d5,p.d6,p.d7,p.d8]
def beqs:List (Nat × Nat)→Bool
 | []=>true
 | p::r=>Nat.beq p.1 p.2&&beqs r
def aKW:Oper→Option (Nat × Nat × List Operand)
 | ⟨some d,.call ⟨.value (.func f),xs,_⟩,_,_,_,none⟩=>some (d,f,xs.toList)
 | _=>none
def aSx:Oper→Option (Nat × Operand)
 | ⟨some d,.assign x,_,_,_,none⟩=>some (d,x)
 | _=>none
def aQy:Oper→Option (Nat × Operand)
 | ⟨some d,.move x,_,_,_,none⟩=>some (d,x)
 | _=>none
def aYz:Oper→Option (Nat × Operand)
 | ⟨some d,.nilCheck x,_,_,_,none⟩=>some (d,x)
 | _=>none
def aZv:Oper→Option (Nat × Operand × Int)
 | ⟨some d,.binOp .gtr _ x (.const (.int .u32 i)) _,_,_,_,none⟩=>some (d,x,i)
 | _=>none
def aY7:Oper→Option (Nat × Operand × Int)
 | ⟨some d,.binOp .eql _ x (.const (.int .u32 i)) _,_,_,_,none⟩=>some (d,x,i)
 | _=>none
def aY0:Oper→Option (Nat × Operand × Int)
 | ⟨some d,.binOp .sub _ x (.const (.int .u32 i)) _,_,_,_,none⟩=>some (d,x,i)
 | _=>none
def aVi:Oper→Option (Nat × Nat × Nat × Operand)
 | ⟨some d,.convert s t x,_,_,_,none⟩=>some (d,s,t,x)
 | _=>none
def aZs:Oper→Option (Nat × Nat × List (Nat × Operand))
 | ⟨some d,.build t ps,_,_,_,none⟩=>some (d,t,ps.toList)
 | _=>none
def aZh:Oper→Option (Nat × Nat)
 | ⟨some d,.alloc t,_,_,_,none⟩=>some (d,t)
 | _=>none
def aXY:Oper→Option (Nat × Operand × Operand)
 | ⟨none,.store t x y,_,_,_,none⟩=>some (t,x,y)
 | _=>none
def aYw:Oper→Option (Nat × Nat × Operand × Nat)
 | ⟨some d,.fieldAddr t x k,_,_,_,none⟩=>some (d,t,x,k)
 | _=>none
def bBz:Operand→Option Nat
 | .tmp t=>some t
 | _=>none
def aTf {α : Type}:List α→Option α
 | [a]=>some a
 | _=>none
def aVm {α : Type}:List α→Option (α × α)
 | [a,b]=>some (a,b)
 | _=>none
def aZy {α : Type}:List α→Option (α × α × α)
 | [a,b,c]=>some (a,b,c)
 | _=>none
def aYr:List (Nat × Operand)→Option Operand
 | [(0,x)]=>some x
 | _=>none
def aPF:List (Operand × Nat)→Bool
 | []=>true
 | p::r=>(match bBz p.1 with
  | some t=>Nat.beq t p.2
  | none=>false)&&aPF r
def bAz (o0 oa ok ol oe oc ob od:List Oper)(i4 i4' y1 y2:Nat)(body:Code):Option KT :=
 match o0,oa,ok,ol with
 | [p0,p1],[p2,p3],[p4,p5],[p6]=>match oe,oc,ob,od with
  | [p7,p8],[p9,p10,p11,p12,p13,p14],[p15,p16,p17],[p18,p19,p20,p21,p22,p23,p24,p25] =>
   (aKW p0).bind fun ⟨n0,f0,x0⟩ =>
   (aSx p1).bind fun ⟨ct,z0⟩ =>
   (aQy p2).bind fun ⟨a1,z1⟩ =>
   (aZv p3).bind fun ⟨a2,z2,i0⟩ =>
   (aKW p4).bind fun ⟨k0,f1,x1⟩ =>
   (aSx p5).bind fun ⟨ky,z3⟩ =>
   (aQy p6).bind fun ⟨k1,z4⟩ =>
   (aY7 p7).bind fun ⟨e1,z5,i1⟩ =>
   (aSx p8).bind fun ⟨e2,z6⟩ =>
   (aKW p9).bind fun ⟨c1,f2,x2⟩ =>
   (aVi p10).bind fun ⟨c2,v1,v2,z7⟩ =>
   (aKW p11).bind fun ⟨c3,f3,x3⟩ =>
   (aZs p12).bind fun ⟨c4,rty,ps⟩ =>
   (aZh p13).bind fun ⟨rd,aty⟩ =>
   (aXY p14).bind fun ⟨sty,z8,z9⟩ =>
   (aQy p15).bind fun ⟨b1,z10⟩ =>
   (aY0 p16).bind fun ⟨b2,z11,i2⟩ =>
   (aSx p17).bind fun ⟨u12,z13⟩ =>
   (aQy p18).bind fun ⟨d1,so⟩ =>
   (aYz p19).bind fun ⟨d2,z14⟩ =>
   (aYw p20).bind fun ⟨d3,st,z15,kf⟩ =>
   (aQy p21).bind fun ⟨d4,z16⟩ =>
   (aKW p22).bind fun ⟨d5,f5,x5⟩ =>
   (aVi p23).bind fun ⟨d6,v3,v4,z17⟩ =>
   (aKW p24).bind fun ⟨d7,f7,x7⟩ =>
   (aKW p25).bind fun ⟨d8,f8,x8⟩ =>
   (aTf x0).bind fun q0 =>
   (aTf x1).bind fun q1 =>
   (aTf x2).bind fun q2 =>
   (aVm x3).bind fun ⟨q3,z18⟩ =>
   (aYr ps).bind fun z19 =>
   (aTf x5).bind fun q5 =>
   (aVm x7).bind fun ⟨q7,z20⟩ =>
   (aZy x8).bind fun ⟨z21,z22,z23⟩ =>
   match beqs [(i4,i4'),(y1,a2),(y2,e2),(u12,ct)]&&aPF [(z0,n0),(z1,ct),(z2,a1),(z3,k0),(z4,ky),(z5,k1),(z6,e1),(z7,c1),(z8,rd),(z9,c4),(z10,ct),(z11,b1),(z13,b2),(z14,d1),(z15,d2),(z16,ky),(z17,d5),(z18,c2),(z19,c3),(z20,d6),(z21,d3),(z22,d4),(z23,d7)]&&decide (i0=0)&&decide (i1=0)&&decide (i2=1) with
   | true=>some ⟨n0,ct,a1,a2,k0,ky,k1,e1,e2,c1,c2,c3,c4,rd,b1,b2,d1,d2,d3,d4,d5,d6,d7,d8,f0,q0,f1,q1,f2,q2,f3,q3,f5,q5,f7,q7,f8,so,st,kf,v1,v2,v3,v4,rty,aty,sty,od,body⟩
   | false=>none
  | _,_,_,_=>none
 | _,_,_,_=>none
def bCb:Code→Code→Option KT
 | .region _ o0 false,.block i4 (.loop (.seq (.seq (.region _ oa false) (.cond (.tmp y1) .skip (.exit i4'))) (.seq (.block _ (.seq (.region _ ok false) (.seq (.region _ ol false) (.block _ (.seq (.region _ oe false) (.cond (.tmp y2) (.seq (.region _ oc false) body) (.region _ od true))))))) (.region _ ob false)))) =>
  bAz o0.toList oa.toList ok.toList ol.toList oe.toList oc.toList ob.toList od.toList i4 i4' y1 y2 body
 | _,_=>none
def AV.ktOk (cur:Nat):AV→Bool
 | .junk=>true
 | .k _=>true
 | .rdr=>true
 | .ptr l _=>Nat.ble l cur
 | .cnt l=>Nat.blt l cur
 | .arr l _=>Nat.blt l cur
 | .idx l=>Nat.ble l cur
 | .sv l _=>Nat.blt l cur
 | _=>false
def AV.ktV (cur:Nat)(v:AV):AV:=if v.ktOk cur then v else .junk
def aWg (cx:Cx)(cur:Nat)(keep:List Nat)(p:KT)(sl:List (Nat × AV)):List (Nat × AV) :=
 uniq [] (aGd (AV.ktV cur) (prune (fun s=>kept cx.m keep s&&!p.tm.any (Nat.beq s)&&!(writes p.body).any (Nat.beq s)) sl))
def AV.noRdr (cur:Nat):AV→AV
 | .rdr=>.sv cur 1
 | v=>v
def RK.isUv:Option RK→Bool
 | some .uv=>true
 | _=>false
def RK.isSpan:Option RK→Bool
 | some .span=>true
 | _=>false
def RK.isSet:Option RK→Bool
 | some .setTag=>true
 | _=>false
def RK.isDone:Option RK→Bool
 | some .done=>true
 | _=>false
def AV.isRdr:Option AV→Bool
 | some .rdr=>true
 | _=>false
def aRE (ops:List Oper)(K:Nat):Array Bool→List Nat→Bool
 | _,[]=>true
 | L,i::r=>aL2 ops L K i&&aRE ops K (L.setIfInBounds i true) r
def aO2 (ops:List Oper):Array Bool→List Nat→Bool
 | L,[]=>decide (Region.ready .any ops.toArray L=[])
 | L,k::r=>decide (Region.ready .any ops.toArray L=[k])&&aO2 ops (L.setIfInBounds k true) r
def aX7 (P:Program)(ty:Nat):Bool:=match aBB P ty,aCm P ty,aFh P ty 0 with
 | some z,some (true,2),some (0,1)=>(match cellsOf z with
  | [.slice none 0 0,.bool false]=>true
  | _=>false)&&aI5 P ty
 | _,_,_=>false
def aZc (cx:Cx)(ls:List LS)(cur:Nat)(hd:List (Nat × AV))(σ : St)(p:KT):Option (Nat × List AC) :=
 match σ.todo,ls[cur]?,σ.cells.reverse with
 | [.ktags i],some s,.k (.map none)::r =>
  match aev hd p.so,aAC cx.P p.st p.kf,aCm cx.P p.sty with
  | some (.ptr l o),some q,some (true,2) =>
   match aLN σ.pd&&cx.flex&&s.tg&&Nat.beq l cur&&Nat.beq (o+q+1) σ.cells.length&&(decide ((s.fs.getD i aAm).tag=0)&&Nat.blt i s.fs.length)&&aPa (s.fs.getD i aAm)&&apart p.tm&&p.tm.all (fun s=>Nat.blt s cx.n)&&σ.cells.all (AC.free (.fld i))&&σ.cells.all (AC.free .tags) &&
     RK.isUv (aMi cx.cfg p.f0)&&RK.isUv (aMi cx.cfg p.f1)&&RK.isUv (aMi cx.cfg p.f2)&&RK.isUv (aMi cx.cfg p.f5)&&RK.isSpan (aMi cx.cfg p.f3)&&RK.isSpan (aMi cx.cfg p.f7)&&RK.isSet (aMi cx.cfg p.f8) &&
     AV.isRdr (aev hd p.q0)&&AV.isRdr (aev hd p.q1)&&AV.isRdr (aev hd p.q2)&&AV.isRdr (aev hd p.q3)&&AV.isRdr (aev hd p.q5)&&AV.isRdr (aev hd p.q7) &&
     (cx.P.underlying p.cv1).isSome&&(cx.P.underlying p.cv3).isSome&&decide (aH0 cx.P p.cv2=some .i64)&&decide (aH0 cx.P p.cv4=some .i64) &&
     cx.P.follows .mixedOrders&&aRE p.dr 7 (Array.replicate 8 false) [0,1,2,3]&&aO2 p.dr (((((Array.replicate 8 false).setIfInBounds 0 true).setIfInBounds 1 true).setIfInBounds 2 true).setIfInBounds 3 true) [4,5,6,7] &&
     Nat.beq p.rty cx.er&&Nat.beq p.aty cx.er&&aX7 cx.P cx.er with
   | true=>some (i,r.reverse)
   | false=>none
  | _,_,_=>none
 | _,_,_=>none
def bCj (cx:Cx)(sl:List (Nat × AV)):Code→Option (List Nat)
 | .seq (.region _ o1 false) (.seq (.region _ o2 false) (.cond (.tmp y) _ .skip))=>match o1.toList,o2.toList with
  | [⟨some t,.call ⟨.value (.func f),xs,_⟩,_,_,_,none⟩,⟨some er,.assign (.tmp t'),_,_,_,none⟩],[⟨some m,.move (.tmp er'),_,_,_,none⟩,⟨some ne,.binOp .neq ty (.tmp m') (.const .nilIface) _,_,_,_,none⟩] =>
   match xs.toList with
   | [q]=>match beqs [(t,t'),(er,er'),(m,m'),(ne,y)]&&RK.isDone (aMi cx.cfg f)&&AV.isRdr (aev sl q)&&aJq cx.P ty&&[t,er,m,ne].all (fun s=>Nat.blt s cx.n)&&vis cx.good .nilIface with
    | true=>some [t,er,m,ne]
    | false=>none
   | _=>none
  | _,_=>none
 | _=>none
def aNd (f:Fld)(i:Nat):List AC:=match f.kind with
 | 7=>gus i 16
 | _=>[.got i]
def aFS:List AC→List AC→Nat→Nat
 | a::r,b::s,k=>if AC.is a b then aFS r s (k+1) else k
 | _,_,k=>k
mutual
def xc (cx:Cx):Nat→List LS→Nat→List Nat→Code→St→Option St
 | 0,_,_,_,_,_=>none
 | g+1,ls,cur,keep,c,σ=>match c with
  | .skip=>some σ
  | .region _ ops false=>xops cx ls cur ops.toList ops.toList { σ with sl:=prune (kept cx.m keep) σ.sl }
  | .seq a b=>match aY1 cx ls cur keep σ a with
   | some (p,o,len,s',i,r)=>match xc cx g (ls++[s']) (cur+1) keep b ⟨(p.v,.ptr (cur+1) 0)::aXo cx cur keep p σ.sl,(σ.cells.drop o).take len,its s'.fs cx.V (cx.flex&&s'.tg),none,false⟩ with
    | some τ=>match τ.todo,τ.pd,left τ.sl (aXo cx cur keep p σ.sl)&&aJx τ.cells (aZB s'.fs s'.tg cx.V cx.flex)&&Nat.beq τ.cells.length len with
     | [],none,true=>some ⟨aGd (AV.unr (.fld i)) (aXo cx cur keep p σ.sl),σ.cells.take o++bAM i τ.cells++σ.cells.drop (o+len),r,none,false⟩
     | _,_,_=>none
    | none=>none
   | none=>match xc cx g ls cur keep a σ with
    | some σ'=>xc cx g ls cur keep b σ'
    | none=>match bBt a b with
     | some (d,e,c,b')=>match xvv cx ls cur { σ with sl:=prune (kept cx.m keep) σ.sl } d e c with
      | some σ'=>xc cx g ls cur keep b' σ'
      | none=>none
     | none=>match bBc a b with
      | some np=>match aYo cx ls cur (aVM cx cur keep np σ.sl) σ np with
       | some (o,z,s',i,r)=>match xc cx g (ls++[s']) (cur+1) keep np.body ⟨(np.v,.ptr (cur+1) 0)::aVM cx cur keep np σ.sl,(cellsOf z).map AC.k,its s'.fs cx.V (cx.flex&&s'.tg),none,false⟩ with
        | some τ=>match τ.todo,τ.pd,left τ.sl (aVM cx cur keep np σ.sl)&&aJx τ.cells (acS s'.fs s'.tg cx.V cx.flex) with
         | [],none,true=>some ⟨aGd (AV.unr (.fld i)) (aVM cx cur keep np σ.sl),σ.cells.set o (.got i),r,none,false⟩
         | _,_,_=>none
        | none=>none
       | none=>none
      | none=>match bCb a b with
       | some kt=>match aZc cx ls cur (aWg cx cur keep kt σ.sl) σ kt,σ.todo,ls[cur]? with
        | some (i,rest),_,some s=>match xk cx g ls cur (kt.ct::kt.rd::keep) kt.body ⟨(kt.ct,.sv cur 0)::(kt.rd,.rdr)::aGd (AV.noRdr cur) (aWg cx cur keep kt σ.sl),rest,[.fld i],none,false⟩ with
         | some τ=>match τ.todo,τ.pd,left τ.sl ((kt.ct,.sv cur 0)::(kt.rd,.rdr)::aGd (AV.noRdr cur) (aWg cx cur keep kt σ.sl))&&aJx τ.cells (rest.take (aFS rest τ.cells 0)++aNd (s.fs.getD i aAm) i++rest.drop (aFS rest τ.cells 0+(aOx (s.fs.getD i aAm)).length)) &&
            aJx rest (rest.take (aFS rest τ.cells 0)++(aOx (s.fs.getD i aAm)).map AC.k++rest.drop (aFS rest τ.cells 0+(aOx (s.fs.getD i aAm)).length)) with
          | [],none,true=>some ⟨aWg cx cur keep kt σ.sl,τ.cells++[.tags],[],none,false⟩
          | _,_,_=>none
         | none=>none
        | _,_,_=>none
       | none=>none
  | .cond x a b=>match aev σ.sl x with
   | some (.k (.bool true))=>xc cx g ls cur keep a σ
   | some (.k (.bool false))=>xc cx g ls cur keep b σ
   | some (.okb false)=>match σ.pd,σ.fr with
    | some ⟨none,sg,z,false⟩,true=>match xr cx g ls cur keep a { σ with pd:=some ⟨some true,sg,z,false⟩ } with
     | true=>xc cx g ls cur keep b { σ with pd:=some ⟨some false,sg,z,false⟩ }
     | false=>none
    | _,_=>none
   | some .gt0=>match σ.pd with
    | some ⟨bk,.un,z,false⟩=>match xc cx g ls cur keep a { σ with pd:=some ⟨bk,.pos,z,false⟩ },xc cx g ls cur keep b { σ with pd:=some ⟨bk,.npos,z,false⟩ } with
     | some ⟨sa,ca,ta,some ⟨ba,.pos,za,false⟩,_⟩,some ⟨sb,cb,tb,some ⟨bb,.npos,zb,false⟩,_⟩=>match aJx ca cb&&aQH ta tb&&decide (ba=bb)&&zOk ls cur ta za,aX0 za zb with
      | true,some zz=>some ⟨aLm (aQE cur) (kept cx.m keep) sb sa,ca,ta,some ⟨ba,.un,zz,false⟩,false⟩
      | _,_=>none
     | _,_=>none
    | _=>none
   | some .eq0=>match σ.pd with
    | some ⟨bk,.un,z,false⟩=>match xc cx g ls cur keep a { σ with pd:=some ⟨bk,.zero,z,false⟩ },xc cx g ls cur keep b { σ with pd:=some ⟨bk,.nzero,z,false⟩ } with
     | some ⟨sa,ca,ta,some ⟨ba,.zero,none,false⟩,_⟩,some ⟨sb,cb,tb,some ⟨bb,.nzero,none,false⟩,_⟩=>match aJx ca cb&&aQH ta tb&&decide (ba=bb) with
      | true=>some ⟨aLm (aQW cur) (kept cx.m keep) sb sa,ca,ta,some ⟨ba,.un,none,false⟩,false⟩
      | _=>none
     | _,_=>none
    | _=>none
   | _=>none
  | .block _ _=>match aUM c with
   | some r=>match alook σ.sl r.i,alook σ.sl r.ln,ls[cur]?,σ.todo,σ.pd with
    | some (.k (.int .i32 0)),some (.cnt l),some s,.fld i::_,some ⟨some false,.un,some z,false⟩ =>
     let f:=s.fs.getD i aAm
     let hd:=aGd (AV.lowV cur) (prune (stays cx keep r) σ.sl)
     let s':=inner s f
     match Nat.beq l cur&&Nat.beq f.kind 11&&aJy cx s f&&r.own.all (fun s=>Nat.blt s cx.n)&&apart r.own&&Nat.beq (cur+1) ls.length with
     | true=>match xc cx g (ls++[s']) (cur+1) (r.i::r.ln::keep) r.body ⟨(r.i,.idx (cur+1))::(r.ln,.cnt cur)::hd,z.map AC.k,its s'.fs cx.V (cx.flex&&s'.tg),none,false⟩ with
      | some τ=>match τ.todo,τ.pd,left τ.sl ((r.i,.idx (cur+1))::(r.ln,.cnt cur)::hd)&&aJx τ.cells (acS s'.fs s'.tg cx.V cx.flex)&&Nat.beq τ.cells.length z.length with
       | [],none,true=>some ⟨(r.i,.junk)::(r.ln,.cnt cur)::hd,σ.cells,σ.todo,some ⟨some false,.un,some z,true⟩,false⟩
       | _,_,_=>none
      | none=>none
     | false=>none
    | _,_,_,_,_=>none
   | none=>none
  | _=>none
def xr (cx:Cx):Nat→List LS→Nat→List Nat→Code→St→Bool
 | 0,_,_,_,_,_=>false
 | g+1,ls,cur,keep,c,σ=>match c with
  | .seq a b=>match xc cx g ls cur keep a σ with
   | some σ'=>xr cx g ls cur keep b σ'
   | none=>false
  | .ret=>match alook σ.sl cx.rt,σ.fr,σ.pd with
   | some .res,true,some ⟨some true,_,_,false⟩=>true
   | _,_,_=>false
  | _=>false
def xk (cx:Cx):Nat→List LS→Nat→List Nat→Code→St→Option St
 | 0,_,_,_,_,_=>none
 | g+1,ls,cur,keep,c,σ=>match bCj cx (prune (kept cx.m keep) σ.sl) c with
  | some own=>match σ.todo,σ.pd with
   | [],none=>some { σ with sl:=prune (fun s=>kept cx.m keep s&&!own.any (Nat.beq s)) σ.sl }
   | _,_=>none
  | none=>match c with
   | .seq a b=>match xc cx g ls cur keep a σ with
    | some σ'=>xk cx g ls cur keep b σ'
    | none=>none
   | _=>none
end
end Go.Mk.Er
namespace Go.Mk.Er
open Go Go.Mk
structure Lv where
 b:Nat
 off:Nat
 ty:Nat
 ix:Nat
 pre:List Value
 post:List Value
 g:G
 cnt:Int
 lb:Nat
 bad:Bool
 sv:Nat→Value
def aGe (n:Int):Md→Value→Prop
 | .nn,x=>x=.slice none 0 0
 | .ne,x=>∃ a,x=.slice (some a) 0 0
 | .nz,x=>(n=0→∃ a,x=.slice (some a) 0 0)∧(n≠0→x=.slice none 0 0)
def aOo (e:Lv)(x:Value):Prop:=∃ cap,x=.slice (some ⟨e.lb,0,none⟩) e.cnt.toNat cap∧e.cnt.toNat≤cap
def many (n:Nat)(z:List Value):List Value:=(List.replicate n z).flatten
structure En where
 cx:Cx
 ls:List LS
 cur:Nat
 rb:Nat
def VR (E:En)(w:World)(Y:Nat→Prop)(e:Nat→Lv):AV→Value→Prop
 | .junk,_=>True
 | .k v,x=>x=v
 | .rdr,x=>x=.pointer (some ⟨E.rb,0,none⟩)
 | .ptr l o,x=>x=.pointer (some ⟨(e l).b,(e l).off+o,none⟩)
 | .val i,x=>∃ s,E.ls[E.cur]? = some s∧Rep w Y (ddF (s.fs.getD i aAm) s.tg ((e E.cur).g.q i)) (cellsOf x)∧((s.fs.getD i aAm).kind≠7→x.oneCell'=true)
 | .tagv,x=>Rep w Y (aAN (e E.cur).g.u) (cellsOf x)
 | .cnt l,x=>x=.int .i32 (e l).cnt
 | .okb p,x=>x=.bool (if p then !(e E.cur).bad else (e E.cur).bad)
 | .gt0,x=>x=.bool (decide (0<(e E.cur).cnt))
 | .eq0,x=>x=.bool (decide ((e E.cur).cnt=0))
 | .base l m,x=>aGe (e l).cnt m x
 | .made,x=>0<(e E.cur).cnt∧aOo (e E.cur) x
 | .arr l m,x=>(0<(e l).cnt→aOo (e l) x)∧((e l).cnt≤0→aGe (e l).cnt m x)
 | .box i,x=>∃ s b,E.ls[E.cur]? = some s∧(s.fs.getD i aAm).kind=7∧x=.pointer (some ⟨b,0,none⟩)∧Cel w Y b 0 (bv (sixteen ((e E.cur).g.q i).s))
 | .idx l,x=>x=.int .i32 ((e l).ix:Int)
 | .sv l j,x=>x=(e l).sv j
 | .res,x=>((e E.cur).bad=false→x=E.cx.good)∧((e E.cur).bad=true→E.cx.err x)
def SR (E:En)(w:World)(Y:Nat→Prop)(e:Nat→Lv):List (Nat × AV)→List (Nat × Value)→Prop
 | [],[]=>True
 | p::r,q::s=>p.1=q.1∧VR E w Y e p.2 q.2∧SR E w Y e r s
 | _,_=>False
section
variable {E E':En}{w w':World}{Y Y':Nat→Prop}{e e':Nat→Lv}
theorem SR.look:∀ {sl:List (Nat × AV)} {l:List (Nat × Value)} {s:Nat} {v:AV},SR E w Y e sl l→alook sl s=some v→∃ x,look l s=some x∧VR E w Y e v x
 | [],_,s,v,_,h=>by simp[alook] at h
 | (k,a)::r,[],s,v,h,_=>by simp[SR] at h
 | (k,a)::r,(k',x)::l,s,v,h,hl=>by
  simp only[SR] at h
  obtain⟨rfl,h1,h2⟩:=h
  simp only[alook] at hl
  simp only[Mk.look]
  split at hl
  ·rename_i hb
   simp only[Option.some.injEq] at hl
   subst hl
   rw[hb]
   exact⟨x,rfl,h1⟩
  ·rename_i hb
   rw[hb]
   exact h2.look hl
theorem SR.ev {sl:List (Nat × AV)}{l:List (Nat × Value)}{x:Operand}{v:AV}(h:SR E w Y e sl l)(hx:aev sl x=some v):∃ u,Mk.ev l x=some u∧VR E w Y e v u:=by
 cases x with
 | tmp t=>exact h.look hx
 | const u=>simp only[aev,Option.some.injEq] at hx;subst hx;exact⟨u,rfl,rfl⟩
 | global g=>simp[aev] at hx
 | func f=>simp[aev] at hx
theorem SR.map {F:AV→AV}(hc:∀ v x,VR E w Y e v x→VR E' w' Y' e' (F v) x):∀ {sl:List (Nat × AV)} {l:List (Nat × Value)},SR E w Y e sl l→SR E' w' Y' e' (aGd F sl) l
 | [],[],_=>trivial
 | [],_::_,h=>by simp[SR] at h
 | _::_,[],h=>by simp[SR] at h
 | p::r,q::s,h=>by
  simp only[SR,aGd] at h ⊢
  exact⟨h.1,hc _ _ h.2.1,SR.map hc h.2.2⟩
theorem aT5:∀ sl:List (Nat × AV),aGd id sl=sl
 | []=>rfl
 | p::r=>by simp[aGd,aT5 r]
theorem SR.same (hc:∀ v x,VR E w Y e v x→VR E' w' Y' e' v x){sl:List (Nat × AV)}{l:List (Nat × Value)}(h:SR E w Y e sl l):SR E' w' Y' e' sl l:=by
 have:=SR.map (F:=id) hc h
 rwa [aT5] at this
theorem VR.move (hm:∀ i,i<w.heap.size→¬ Y i→w'.heap[i]? = w.heap[i]? ∧ ¬ Y' i):∀ {v:AV} {x:Value},VR E w Y e v x→VR E w' Y' e v x
 | .junk,_,_=>trivial
 | .k _,_,h=>h
 | .rdr,_,h=>h
 | .ptr _ _,_,h=>h
 | .val _i,_x,⟨s,h1,h2,h3⟩=>⟨s,h1,Rep.move hm _ _ h2,h3⟩
 | .tagv,_x,h=>Rep.move hm _ _ h
 | .cnt _,_,h=>h
 | .okb _,_,h=>h
 | .gt0,_,h=>h
 | .eq0,_,h=>h
 | .base _ _,_,h=>h
 | .made,_,h=>h
 | .arr _ _,_,h=>h
 | .box _i,_x,⟨s,b,h1,h2,h3,h4⟩=>⟨s,b,h1,h2,h3,h4.move hm⟩
 | .idx _,_,h=>h
 | .sv _ _,_,h=>h
 | .res,_,h=>h
theorem SR.move (hm:∀ i,i<w.heap.size→¬ Y i→w'.heap[i]? = w.heap[i]? ∧ ¬ Y' i){sl:List (Nat × AV)}{l:List (Nat × Value)}(h:SR E w Y e sl l):SR E w' Y' e sl l:=h.same fun _ _=>VR.move hm
theorem aGS {f:Nat→Bool}:∀ {sl:List (Nat × AV)} {l:List (Nat × Value)},SR E w Y e sl l→∃ l',SR E w Y e (prune f sl) l'∧(∀ s v,Mk.look l' s=some v→Mk.look l s=some v∧f s=true)∧∀ p ∈ l',f p.1=true
 | [],[],_=>⟨[],trivial,(fun s v h=>by simp[Mk.look] at h),fun p hp=>by cases hp⟩
 | [],_::_,h=>by simp[SR] at h
 | _::_,[],h=>by simp[SR] at h
 | p::r,q::s,h=>by
  simp only[SR] at h
  obtain⟨h1,h2,h3⟩:=h
  obtain⟨l',g1,g2,g3⟩:=aGS (f:=f) h3
  obtain⟨k,u⟩:=q
  simp only at h1
  unfold prune
  split
  ·rename_i hk
   refine⟨(k,u)::l',⟨h1,h2,g1⟩,fun s v hv=>?_,fun p' hp=>?_⟩
   ·subst h1
    simp only[Mk.look] at hv ⊢
    split at hv
    ·rename_i hb
     exact⟨hv,by rw[Nat.eq_of_beq_eq_true hb];exact hk⟩
    ·exact g2 _ v hv
   ·rcases List.mem_cons.1 hp with rfl|hp
    ·rw[← h1];exact hk
    ·exact g3 p' hp
  ·rename_i hk
   refine⟨l',g1,fun s v hv=>?_,g3⟩
   obtain⟨g4,g5⟩:=g2 s v hv
   refine⟨?_,g5⟩
   subst h1
   rw[lkN (by rintro rfl;rw[g5] at hk;cases hk)]
   exact g4
end
def bBC (n:Int):Sg→Prop
 | .un=>True
 | .pos=>0<n
 | .npos=>n≤0
 | .zero=>n=0
 | .nzero=>n≠0
def aMB (cx:Cx)(f:Fld):RS→Option (T × RS):=aND f.of false cx.flex (rdP f.sub cx.V cx.flex)
def aPJ (w:World)(Y:Nat→Prop)(f:Fld)(tg:Bool)(z:List Value)(e:Lv)(xs:List T):Prop:=∃ D slack ety,w.heap[e.lb]? = some (.cells (D++many (e.cnt.toNat - xs.length) z++slack).toArray ety (0,0)) ∧
 aBf w Y (aI1 f.of (-1) (aNS f.sub tg)) (xs.map (aKy f.of (-1) (ddS f.sub tg))) D
def ZOk (f:Fld)(tg:Bool)(z:List Value):Prop:=z.length=aI1 f.of (-1) (aNS f.sub tg)∧aBP z=true
def bA7 (cx:Cx)(w0 w:World)(Y:Nat→Prop)(f:Fld)(tg:Bool)(e:Lv)(s1 s:RS)(p:Pd):Prop :=
 e.cnt=(aEp cx.flex s1).1∧(∀ b,p.bk=some b→(aEp cx.flex s1).2.bad=b)∧bBC e.cnt p.sg ∧
 (p.lp=false→s=(aEp cx.flex s1).2) ∧
 (p.lp=true→∃ xs,xs.length=e.cnt.toNat∧aGv (aMB cx f) e.cnt.toNat (aEp cx.flex s1).2=some (xs,s)∧∀ z,p.z=some z→ZOk f tg z∧(0<e.cnt→w0.heap.size≤e.lb∧aPJ w Y f tg z e xs)) ∧
 (p.lp=false→∀ z,p.z=some z→ZOk f tg z∧(0<e.cnt→w0.heap.size≤e.lb∧aPJ w Y f tg z e []))
def Yl (Y:Nat→Prop)(σ : St)(e:Lv):Nat→Prop:=fun k=>Y k∨(∃ p z,σ.pd=some p∧p.z=some z∧0<e.cnt∧k=e.lb)
def aMI (cur:Nat)(e0 e:Nat→Lv):Prop:=(∀ l,l≠cur→e l=e0 l)∧(e cur).b=(e0 cur).b∧(e cur).off=(e0 cur).off∧(e cur).ty=(e0 cur).ty∧(e cur).ix=(e0 cur).ix∧(e cur).pre=(e0 cur).pre∧(e cur).post=(e0 cur).post∧(e cur).sv=(e0 cur).sv
theorem aMI.refl (cur:Nat)(e:Nat→Lv):aMI cur e e:=⟨fun _ _=>rfl,rfl,rfl,rfl,rfl,rfl,rfl,rfl⟩
def spec (E:En)(s:LS)(σ : St)(items:List It)(g0:G)(s0:RS)(e:Lv)(sb:RS):Prop :=
 aIC s.fs E.cx.V E.cx.flex items g0 s0=aIC s.fs E.cx.V E.cx.flex σ.todo e.g sb
structure Inv (E:En) (e0:Nat→Lv) (w0:World) (Y:Nat→Prop) (items:List It) (g0:G) (s0:RS) (σ : St) (a:Act) (w:World) (e:Nat→Lv) (l:List (Nat × Value)) (s:RS) (cs:List Value) (S:LS):Prop where
 ls:E.ls[E.cur]? = some S
 same:aMI E.cur e0 e
 kn:Kn E.cx.n l a
 sr:SR E w (Yl Y σ (e E.cur)) e σ.sl l
 agr:Agr (fun k=>k=E.rb∨k=(e0 E.cur).b) w0 w
 rdr:aBx w (Yl Y σ (e E.cur)) E.rb E.cx.er s
 blk:w.heap[(e0 E.cur).b]? = some (.cells ((e0 E.cur).pre++cs++(e0 E.cur).post).toArray (e0 E.cur).ty (0,0))
 cel:ACs w (Yl Y σ (e E.cur)) S.fs S.tg (e E.cur).g σ.cells cs
 none_ : σ.pd=none→spec E S σ items g0 s0 (e E.cur) s
 pend:∀ p,σ.pd=some p→∃ i r s1,σ.todo=.fld i::r∧(S.fs.getD i aAm).kind=11∧spec E S σ items g0 s0 (e E.cur) s1∧bA7 E.cx w0 w (Yl Y σ (e E.cur)) (S.fs.getD i aAm) S.tg (e E.cur) s1 s p
 fr : σ.fr=true→(e E.cur).bad=s.bad
structure Base (E:En) (e0:Nat→Lv) (w0:World) (Y:Nat→Prop):Prop where
 cfg:CfgOk E.cx
 old:∀ k,Y k→k<w0.heap.size
 yr:Y E.rb
 yb:Y (e0 E.cur).b
 ne:E.rb≠(e0 E.cur).b
 off:(e0 E.cur).off=(e0 E.cur).pre.length
 gl : ¬ Y E.cx.gb∧w0.cell? ⟨E.cx.gb,0,none⟩=some E.cx.gv
theorem Base.glob {E:En}{e0:Nat→Lv}{w0 w:World}{Y:Nat→Prop}(B:Base E e0 w0 Y)(ag:Agr (fun k=>k=E.rb∨k=(e0 E.cur).b) w0 w):w.cell? ⟨E.cx.gb,0,none⟩=some E.cx.gv:=by
 have hlt:=aIv B.gl.2
 rw[World.cell?_of_block (w:=w0) (w':=w) (a:=⟨E.cx.gb,0,none⟩) (ag.block _ hlt fun hx=>by
  rcases hx with hx|hx
  ·have hx':E.cx.gb=E.rb:=hx
   exact B.gl.1 (by rw[hx'];exact B.yr)
  ·have hx':E.cx.gb=(e0 E.cur).b:=hx
   exact B.gl.1 (by rw[hx'];exact B.yb))]
 exact B.gl.2
def aEU (E:En)(e0:Nat→Lv):Prop:=∀ s,E.ls[E.cur]? = some s→0<E.cur→s.top=false→(e0 E.cur).b=(e0 (E.cur - 1)).lb∧(e0 E.cur).off=(e0 E.cur).ix*aNS s.fs s.tg∧((e0 E.cur).ix:Int)<(e0 (E.cur - 1)).cnt
end Go.Mk.Er
