/- Walks of programs, step by step: what holds of memory behind each; the reference in plain words. No statement of a seat stands here. -/
import Derived.WalkKit
import Derived.Deep.LoopGhost
import Derived.OrdersHeld
import Derived.Deep.AppendSrc
import Derived.Laws.Cover3
import Derived.Laws.CopyOwn
namespace Go.Mk
open Go
def look:List (Nat × Value)→Nat→Option Value
 | [],_=>none
 | (k,v)::r,s=>match Nat.beq s k with
  | true=>some v
  | false=>look r s
structure Kn (n:Nat) (l:List (Nat × Value)) (a:Act):Prop where
 defers:a.defers=[]
 size:a.tmps.size=n
 at_:∀ s v,look l s=some v→a.tmps.getD s undef=v
theorem Kn.put {n:Nat}{l:List (Nat × Value)}{a:Act}(h:Kn n l a)(d:Nat)(v:Value)(hd:Nat.blt d n=true):Kn n ((d,v)::l) (a.put (some d) v):=by
 have hd':d<n:=by simpa [Nat.blt_eq] using hd
 refine⟨h.defers,by simp[Act.put,h.size],?_⟩
 intro s u hs
 simp only[look] at hs
 simp only[Act.put]
 by_cases e:s=d
 ·subst e
  rw[show Nat.beq s s=true from Nat.beq_refl s] at hs
  simp only[Option.some.injEq] at hs
  subst hs
  have:=h.size
  simp[Array.getD_eq_getD_getElem?,this,hd']
 ·have hb:Nat.beq s d=false:=by
   cases hq:Nat.beq s d with
   | false=>rfl
   | true=>exact absurd (Nat.eq_of_beq_eq_true hq) e
  rw[hb] at hs
  simp only at hs
  rw[← h.at_ s u hs]
  simp[Array.getD_eq_getD_getElem?,Ne.symm e]
theorem Kn.weaken {n:Nat}{l l':List (Nat × Value)}{a:Act}(h:Kn n l a)(hs:∀ p ∈ l',look l p.1=some p.2):Kn n l' a:=by
 refine⟨h.defers,h.size,fun s v hv=>h.at_ s v ?_⟩
 induction l' with
 | nil=>simp[look] at hv
 | cons p r ih =>
  obtain⟨k,u⟩:=p
  simp only[look] at hv
  cases hq:Nat.beq s k with
  | true =>
   rw[hq] at hv
   simp only[Option.some.injEq] at hv
   subst hv
   rw[Nat.eq_of_beq_eq_true hq]
   exact hs (k,u) (List.mem_cons_self)
  | false =>
   rw[hq] at hv
   exact ih (fun p hp=>hs p (List.mem_cons_of_mem _ hp)) hv
def looks (l:List (Nat × Value)):List (Nat × Value)→Prop
 | []=>True
 | (k,v)::r=>look l k=some v∧looks l r
theorem Kn.sub {n:Nat}{l l':List (Nat × Value)}{a:Act}(h:Kn n l a)(hs:looks l l'):Kn n l' a:=by
 refine h.weaken ?_
 induction l' with
 | nil=>intro p hp;cases hp
 | cons q r ih =>
  obtain⟨k,u⟩:=q
  intro p hp
  rcases List.mem_cons.1 hp with rfl|hp
  ·exact hs.1
  ·exact ih hs.2 p hp
def ev (l:List (Nat × Value)):Operand→Option Value
 | .tmp t=>look l t
 | .const v=>some v
 | .global g=>some (.pointer (some ⟨g,0,none⟩))
 | .func f=>some (.func (.func f) #[] #[])
theorem Kn.eval {n:Nat}{l:List (Nat × Value)}{a:Act}(h:Kn n l a){x:Operand}{v:Value}(hx:ev l x=some v):a.eval x=v:=by
 cases x with
 | tmp t=>exact h.at_ t v hx
 | const u=>simpa [ev,Act.eval] using hx
 | global g=>simpa [ev,Act.eval] using hx
 | func f=>simpa [ev,Act.eval] using hx
def evs (l:List (Nat × Value)):List Operand→List Value→Prop
 | [],[]=>True
 | x::xs,v::vs=>ev l x=some v∧evs l xs vs
 | _,_=>False
theorem Kn.evals {n:Nat}{l:List (Nat × Value)}{a:Act}(h:Kn n l a):∀ {xs:List Operand} {vs:List Value},evs l xs vs→xs.map a.eval=vs
 | [],[],_=>rfl
 | x::xs,v::vs,⟨h1,h2⟩=>by rw[List.map_cons,h.eval h1,h.evals h2]
 | [],_::_,h2=>h2.elim
 | _::_,[],h2=>h2.elim
theorem Kn.enter (n:Nat)(args:List Value)(h:Nat.ble args.length n=true) :
  Kn n (args.zipIdx.map fun p=>(p.2,p.1)) { tmps:=args.toArray++Array.replicate (n - args.toArray.size) undef,defers:=[] }:=by
 have h':args.length≤n:=Nat.le_of_ble_eq_true h
 refine⟨rfl,by simp;omega,?_⟩
 intro s v hs
 have key:∀ (ars:List Value) (k s:Nat) (v:Value),look ((ars.zipIdx k).map fun p=>(p.2,p.1)) s=some v→∃ j,s=k+j∧ars[j]? = some v:=by
  intro ars
  induction ars with
  | nil=>intro k s v h;simp[look] at h
  | cons x r ih =>
   intro k s v h
   simp only[List.zipIdx_cons,List.map_cons,look] at h
   cases hq:Nat.beq s k with
   | true =>
    rw[hq] at h
    exact⟨0,by have:=Nat.eq_of_beq_eq_true hq;omega,by simpa using h⟩
   | false =>
    rw[hq] at h
    obtain⟨j,h1,h2⟩:=ih (k+1) s v h
    exact⟨j+1,by omega,by simpa using h2⟩
 obtain⟨j,h1,h2⟩:=key args 0 s v hs
 rw[Nat.zero_add] at h1
 subst h1
 have hj:s<args.length:=(List.getElem?_eq_some_iff.1 h2).1
 rw[Array.getD_eq_getD_getElem?,Array.getElem?_append_left (by simpa using hj)]
 simp[h2]
def aDp (P:Program)(o:Oper)(a:Act)(w:World)(v:Value)(w':World):Prop:=(execOp a.eval o).run P w=.ok (.value v) w'
def aS8 (P:Program)(o:Oper)(a:Act)(w:World)(w':World):Prop:=(execOp a.eval o).run P w=.ok .skip w'
section
variable {P:Program}{ops:Array Oper}{Q:Exit→Act→World→Prop}{rest:List Oper}{a:Act}{w:World}{n:Nat}{l:List (Nat × Value)}
theorem aAD {o:Oper}{d:Nat}{v:Value}{w':World}(hk:Kn n l a)(hg:o.guard=none)(hd:o.dst=some d)(hdn:Nat.blt d n=true)
  (hr:aDp P o a w v w') (K:∀ a',Kn n ((d,v)::l) a'→wpList P ops Q rest a' w'):wpList P ops Q (o::rest) a w :=
 wpList_plain hg fun _ hK=>by
  unfold Oper.wp
  rw[hr,Oper.upon_value]
  exact hK _ _ (by rw[hd];exact K _ (hk.put d v hdn))
theorem aIf {o:Oper}{w':World}(hk:Kn n l a)(hg:o.guard=none)(hd:o.dst=none)
  (hr:aS8 P o a w w') (K:∀ a',Kn n l a'→wpList P ops Q rest a' w'):wpList P ops Q (o::rest) a w :=
 wpList_plain hg fun _ hK=>by
  unfold Oper.wp
  rw[hr,Oper.upon_skip]
  exact hK _ _ (by rw[hd];exact K _ hk)
theorem aN4 {o:Oper}{d:Nat}{f:FuncId}{args:Array Value}{R:Value→World→Prop}(hk:Kn n l a)(hg:o.guard=none)(hd:o.dst=some d)(hdn:Nat.blt d n=true)
  (hr:(execOp a.eval o).run P w=.ok (.enter f args) w) (hc:Calls P f args w fun e w'=>∃ v,e=.returned v∧R v w')
  (K:∀ v w' a',R v w'→Kn n ((d,v)::l) a'→wpList P ops Q rest a' w'):wpList P ops Q (o::rest) a w :=
 wpList_plain hg fun _ hK=>by
  unfold Oper.wp
  rw[hr,Oper.upon_enter]
  refine hc.mono ?_
  rintro e w' ⟨v,rfl,hR⟩
  exact hK _ _ (by rw[hd];exact K v w' _ hR (hk.put d v hdn))
theorem aQS {o:Oper}{f:FuncId}{args:Array Value}{R:Value→World→Prop}(hk:Kn n l a)(hg:o.guard=none)(hd:o.dst=none)
  (hr:(execOp a.eval o).run P w=.ok (.enter f args) w) (hc:Calls P f args w fun e w'=>∃ v,e=.returned v∧R v w')
  (K:∀ v w' a',R v w'→Kn n l a'→wpList P ops Q rest a' w'):wpList P ops Q (o::rest) a w :=
 wpList_plain hg fun _ hK=>by
  unfold Oper.wp
  rw[hr,Oper.upon_enter]
  refine hc.mono ?_
  rintro e w' ⟨v,rfl,hR⟩
  exact hK _ _ (by rw[hd];exact K v w' _ hR hk)
end
end Go.Mk
namespace Go.Mk
open Go
structure Agr (X:Nat→Prop) (w w':World):Prop where
 os:w'.os=w.os
 tape:w'.tape=w.tape
 output:w'.output=w.output
 size:w.heap.size≤w'.heap.size
 block:∀ b,b<w.heap.size→¬ X b→w'.heap[b]? = w.heap[b]?
def Nob:Nat→Prop:=fun _=>False
theorem Agr.refl (X:Nat→Prop)(w:World):Agr X w w:=⟨rfl,rfl,rfl,Nat.le_refl _,fun _ _ _=>rfl⟩
theorem Agr.trans {X Y Z:Nat→Prop}{a b c:World}(h:Agr X a b)(k:Agr Y b c)(hX:∀ i,i<a.heap.size→X i→Z i)(hY:∀ i,i<a.heap.size→Y i→Z i):Agr Z a c :=
 ⟨k.os.trans h.os,k.tape.trans h.tape,k.output.trans h.output,Nat.le_trans h.size k.size,fun i hi hz =>
  (k.block i (Nat.lt_of_lt_of_le hi h.size) (fun y=>hz (hY i hi y))).trans (h.block i hi (fun x=>hz (hX i hi x)))⟩
theorem Agr.mono {X Y:Nat→Prop}{a b:World}(h:Agr X a b)(hX:∀ i,i<a.heap.size→X i→Y i):Agr Y a b :=
 ⟨h.os,h.tape,h.output,h.size,fun i hi hz=>h.block i hi (fun x=>hz (hX i hi x))⟩
theorem Agr.drew (X:Nat→Prop)(w:World):Agr X w w.drew:=⟨rfl,rfl,rfl,Nat.le_refl _,fun _ _ _=>rfl⟩
theorem Agr.alloc (X:Nat→Prop)(w:World)(o:Obj):Agr X w (w.alloc o):=⟨rfl,rfl,rfl,by simp,fun i hi _=>by
 show (w.heap.push o)[i]? = _
 rw[Array.getElem?_push,if_neg (by omega)]⟩
theorem Agr.below {w w':World}(h:Agr Nob w w'):RowKit.Below w.heap.size w w':=⟨h.os,h.tape,h.output,h.size,fun k hk=>h.block k hk id⟩
inductive DD
 | v (x:Value)
 | agg (l:List DD)
 | sl (st:Bool) (esz:Nat) (l:List DD)
 | ptr (d:DD)
 /-- so many cells, whatever they hold -/
 | any (n:Nat)
 /-- a map from numbers to texts of octets: keys, values -/
 | mp (ks:List Nat) (ds:List DD)
def Cel (w:World)(Y:Nat→Prop)(b off:Nat)(cs:List Value):Prop:=∀ j u,cs[j]? = some u→¬ Y b∧w.cell? ⟨b,off+j,none⟩=some u
def aGE (w:World)(r:Nat)(ks:List Nat)(vs:List Value):Prop:=∃ es clk,w.heap[r]? = some (.map es clk)∧es.toList.map (fun e=>(e.key,e.val))=(ks.zip vs).map (fun p=>(Value.int .u32 (p.1:Int),p.2)) ∧
 ks.length=vs.length∧(es.toList.map (·.born)).Nodup∧∀ e ∈ es.toList,e.born<clk
theorem aGE.move {w w':World}{r:Nat}{ks:List Nat}{vs:List Value}(h:aGE w r ks vs)(hm:w'.heap[r]? = w.heap[r]?):aGE w' r ks vs:=by
 obtain⟨es,clk,h1,h2⟩:=h
 exact⟨es,clk,hm.trans h1,h2⟩
theorem aGE.lt {w:World}{r:Nat}{ks:List Nat}{vs:List Value}(h:aGE w r ks vs):r<w.heap.size:=by
 obtain⟨es,clk,h1,_⟩:=h
 exact (Array.getElem?_eq_some_iff.1 h1).1
def aM2 (w:World)(p:Option Nat)(ks:List Nat)(vs:List Value):Prop:=match p with
 | none=>ks=[]∧vs=[]
 | some r=>aGE w r ks vs
theorem aM2.move {w w':World}{p:Option Nat}{ks:List Nat}{vs:List Value}(h:aM2 w p ks vs)(hm:∀ r,p=some r→w'.heap[r]? = w.heap[r]?):aM2 w' p ks vs:=by
 cases p with
 | none=>exact h
 | some r=>exact aGE.move h (hm r rfl)
mutual
def Rep (w:World)(Y:Nat→Prop):DD→List Value→Prop
 | .v x,c=>c=[x]
 | .agg l,c=>aCh w Y l c
 | .sl st esz l,c=>(l=[]∧∃ p,c=[.slice p 0 0]∧(st=true→p≠none)) ∨
   ∃ b off cap cs,c=[.slice (some ⟨b,off,none⟩) l.length cap]∧l.length≤cap∧Cel w Y b off cs∧aBf w Y esz l cs
 | .ptr d,c=>∃ b off cs,c=[.pointer (some ⟨b,off,none⟩)]∧Cel w Y b off cs∧Rep w Y d cs
 | .any n,c=>c.length=n
 | .mp ks ds,c=>(ks=[]∧ds=[]∧c=[.map none]) ∨
   ∃ r vs,c=[.map (some r)]∧¬ Y r∧aGE w r ks vs∧aCh w Y ds vs
def aCh (w:World)(Y:Nat→Prop):List DD→List Value→Prop
 | [],c=>c=[]
 | d::r,c=>∃ c1 c2,c=c1++c2∧Rep w Y d c1∧aCh w Y r c2
def aBf (w:World)(Y:Nat→Prop)(esz:Nat):List DD→List Value→Prop
 | [],c=>c=[]
 | d::r,c=>∃ c1 c2,c=c1++c2∧c1.length=esz∧Rep w Y d c1∧aBf w Y esz r c2
end
theorem aIv {w:World}{b off:Nat}{u:Value}(h:w.cell? ⟨b,off,none⟩=some u):b<w.heap.size:=World.block_lt_of_cell? w _ h
theorem Cel.move {w w':World}{Y Y':Nat→Prop}{b off:Nat}{cs:List Value}(h:Cel w Y b off cs)
  (hm:∀ i,i<w.heap.size→¬ Y i→w'.heap[i]? = w.heap[i]? ∧ ¬ Y' i):Cel w' Y' b off cs:=fun j u hj=>by
 obtain⟨h1,h2⟩:=h j u hj
 obtain⟨h3,h4⟩:=hm b (aIv h2) h1
 exact⟨h4,by rw[World.cell?_of_block (w:=w) (w':=w') (a:=⟨b,off+j,none⟩) h3];exact h2⟩
mutual
theorem Rep.move {w w':World}{Y Y':Nat→Prop}(hm:∀ i,i<w.heap.size→¬ Y i→w'.heap[i]? = w.heap[i]? ∧ ¬ Y' i):∀ (d:DD) (c:List Value),Rep w Y d c→Rep w' Y' d c
 | .v x,c,h=>by simpa [Rep] using h
 | .agg l,c,h=>by simp only[Rep] at h ⊢;exact aCh.move hm l c h
 | .sl st esz l,c,h=>by
  simp only[Rep] at h ⊢
  rcases h with h|⟨b,off,cap,cs,h1,h2,h3,h4⟩
  ·exact .inl h
  ·exact .inr ⟨b,off,cap,cs,h1,h2,h3.move hm,aBf.move hm esz l cs h4⟩
 | .ptr d,c,h=>by
  simp only[Rep] at h ⊢
  obtain⟨b,off,cs,h1,h2,h3⟩:=h
  exact⟨b,off,cs,h1,h2.move hm,Rep.move hm d cs h3⟩
 | .any n,c,h=>by simpa [Rep] using h
 | .mp ks ds,c,h=>by
  simp only[Rep] at h ⊢
  rcases h with h|⟨r,vs,h1,h2,h3,h5⟩
  ·exact .inl h
  ·exact .inr ⟨r,vs,h1,(hm r h3.lt h2).2,h3.move (hm r h3.lt h2).1,aCh.move hm ds vs h5⟩
theorem aCh.move {w w':World}{Y Y':Nat→Prop}(hm:∀ i,i<w.heap.size→¬ Y i→w'.heap[i]? = w.heap[i]? ∧ ¬ Y' i):∀ (l:List DD) (c:List Value),aCh w Y l c→aCh w' Y' l c
 | [],c,h=>by simpa [aCh] using h
 | d::r,c,h=>by
  simp only[aCh] at h ⊢
  obtain⟨c1,c2,h1,h2,h3⟩:=h
  exact⟨c1,c2,h1,Rep.move hm d c1 h2,aCh.move hm r c2 h3⟩
theorem aBf.move {w w':World}{Y Y':Nat→Prop}(hm:∀ i,i<w.heap.size→¬ Y i→w'.heap[i]? = w.heap[i]? ∧ ¬ Y' i)(esz:Nat):∀ (l:List DD) (c:List Value),aBf w Y esz l c→aBf w' Y' esz l c
 | [],c,h=>by simpa [aBf] using h
 | d::r,c,h=>by
  simp only[aBf] at h ⊢
  obtain⟨c1,c2,h1,h2,h3,h4⟩:=h
  exact⟨c1,c2,h1,h2,Rep.move hm d c1 h3,aBf.move hm esz r c2 h4⟩
end
theorem aBf.length {w:World}{Y:Nat→Prop}{esz:Nat}:∀ {l:List DD} {c:List Value},aBf w Y esz l c→c.length=l.length*esz
 | [],c,h=>by simp only[aBf] at h;simp[h]
 | d::r,c,h=>by
  simp only[aBf] at h
  obtain⟨c1,c2,h1,h2,_,h4⟩:=h
  rw[h1,List.length_append,h2,h4.length,List.length_cons,Nat.add_mul]
  omega
theorem aBf.get {w:World}{Y:Nat→Prop}{esz:Nat}:∀ {l:List DD} {c:List Value},aBf w Y esz l c→∀ {i:Nat} {d:DD},l[i]? = some d →
  ((c.drop (i*esz)).take esz).length=esz∧Rep w Y d ((c.drop (i*esz)).take esz)
 | [],c,_,i,d,hi=>by simp at hi
 | d0::r,c,h,i,d,hi=>by
  simp only[aBf] at h
  obtain⟨c1,c2,h1,h2,h3,h4⟩:=h
  cases i with
  | zero =>
   have:d0=d:=by simpa using hi
   subst this
   subst h1
   rw[Nat.zero_mul,List.drop_zero,← h2,List.take_left]
   exact⟨rfl,h3⟩
  | succ i =>
   have hi':r[i]? = some d:=by simpa using hi
   have:=h4.get hi'
   rw[h1,Nat.add_mul,Nat.one_mul,Nat.add_comm (i*esz) esz,← List.drop_drop,← h2,List.drop_left,h2]
   exact this
theorem aBf.append {w:World}{Y:Nat→Prop}{esz:Nat}:∀ {l l':List DD} {c c':List Value},aBf w Y esz l c→aBf w Y esz l' c'→aBf w Y esz (l++l') (c++c')
 | [],l',c,c',h,h'=>by simp only[aBf] at h;subst h;simpa using h'
 | d::r,l',c,c',h,h'=>by
  simp only[aBf] at h
  obtain⟨c1,c2,h1,h2,h3,h4⟩:=h
  simp only[List.cons_append,aBf]
  exact⟨c1,c2++c',by rw[h1,List.append_assoc],h2,h3,h4.append h'⟩
theorem aBf.one {w:World}{Y:Nat→Prop}{esz:Nat}{d:DD}{c:List Value}(h:Rep w Y d c)(hl:c.length=esz):aBf w Y esz [d] c:=by
 simp only[aBf]
 exact⟨c,[],by simp,hl,h,rfl⟩
theorem aBf.nil (w:World)(Y:Nat→Prop)(esz:Nat):aBf w Y esz [] []:=by simp[aBf]
inductive Ent
 /-- a block that may be written: its cells -/
 | blk (b:Nat) (cs:List Value) (e:TypeId)
 /-- a slice that may be appended to: it owns its row -/
 | row (e:TypeId) (sz:Nat) (v:Value) (n:Nat) (xs:List Value)
 /-- cells that are not written any more -/
 | cel (b off:Nat) (cs:List Value)
 | rep (d:DD) (cs:List Value)
 | els (esz:Nat) (l:List DD) (cs:List Value)
 /-- a block that is no row of cells -/
 | obj (b:Nat) (o:Obj)
 /-- a map from numbers that may be written -/
 | mapb (p:Option Nat) (ks:List Nat) (vs:List Value)
def Ent.mut:Ent→List Nat
 | .blk b _ _=>[b]
 | .row _ _ v _ _=>v.ownBlock.toList
 | .obj b _=>[b]
 | .mapb p _ _=>p.toList
 | _=>[]
def muts:List Ent→List Nat
 | []=>[]
 | e::r=>e.mut++muts r
def Ent.holds (w:World)(Y:Nat→Prop):Ent→Prop
 | .blk b cs e=>w.heap[b]? = some (.cells cs.toArray e (0,0))
 | .row e sz v n xs=>w.ownsRow 0 e sz v n xs
 | .cel b off cs=>Cel w Y b off cs
 | .rep d cs=>Rep w Y d cs
 | .els esz l cs=>aBf w Y esz l cs
 | .obj b o=>w.heap[b]? = some o
 | .mapb p ks vs=>aM2 w p ks vs
def Yof (w0:World)(Z:Nat→Prop)(m:List Ent)(b:Nat):Prop:=(b<w0.heap.size∧Z b)∨b ∈ muts m
structure Mem (w0:World) (X Z:Nat→Prop) (m:List Ent) (w:World):Prop where
 agr:Agr X w0 w
 sub:∀ b,X b→Z b
 nodup:(muts m).Nodup
 own:∀ b ∈ muts m,b<w.heap.size∧(b<w0.heap.size→X b)
 all:∀ e ∈ m,e.holds w (Yof w0 Z m)
theorem Yof.lt {w0 w:World}{X Z:Nat→Prop}{m:List Ent}(h:Mem w0 X Z m w){b:Nat}(hb:Yof w0 Z m b):b<w.heap.size:=by
 rcases hb with hb|hb
 ·exact Nat.lt_of_lt_of_le hb.1 h.agr.size
 ·exact (h.own b hb).1
theorem Mem.start {w0:World}{Z:Nat→Prop}{m:List Ent}(hm:muts m=[])(h:∀ e ∈ m,e.holds w0 Z):Mem w0 Nob Z m w0 :=
 ⟨Agr.refl _ _,fun _ h=>h.elim,by rw[hm];exact List.nodup_nil,by rw[hm];simp,fun e he=>by
  have:=h e he
  have hm':∀ i,i<w0.heap.size→¬ Z i→w0.heap[i]? = w0.heap[i]? ∧ ¬ Yof w0 Z m i:=fun i hi hz=>⟨rfl,by
   unfold Yof;rw[hm];simp;exact fun _=>hz⟩
  cases e with
  | blk b cs e=>exact this
  | row e sz v n xs=>exact this
  | cel b off cs=>exact Cel.move this hm'
  | rep d cs=>exact Rep.move hm' d cs this
  | els esz l cs=>exact aBf.move hm' esz l cs this
  | obj b o=>exact this
  | mapb r ks vs=>exact this⟩
theorem aBI {m:List Ent}{e:Ent}(he:e ∈ m){b:Nat}(hb:b ∈ e.mut):b ∈ muts m:=by
 induction m with
 | nil=>cases he
 | cons x r ih =>
  simp only[muts,List.mem_append]
  rcases List.mem_cons.1 he with rfl|he
  ·exact .inl hb
  ·exact .inr (ih he)
theorem Ent.holds_move {w w':World}{Y Y':Nat→Prop}(hm:∀ i,i<w.heap.size→¬ Y i→w'.heap[i]? = w.heap[i]? ∧ ¬ Y' i){e:Ent}(h:e.holds w Y)
  (hb:∀ b ∈ e.mut,w'.heap[b]? = w.heap[b]?):e.holds w' Y':=by
 cases e with
 | blk b cs e=>exact (hb b (by simp[Ent.mut])).trans h
 | row e sz v n xs =>
  obtain⟨h1,h2⟩:=h
  refine⟨h1,?_⟩
  rcases h2 with h2|⟨g,cap,cur,rfl,h3,h4,h5⟩
  ·exact .inl h2
  ·exact .inr ⟨g,cap,cur,rfl,h3,(hb g (by simp[Ent.mut,Value.ownBlock])).trans h4,h5⟩
 | cel b off cs=>exact Cel.move h hm
 | rep d cs=>exact Rep.move hm d cs h
 | els esz l cs=>exact aBf.move hm esz l cs h
 | obj b o=>exact (hb b (by simp[Ent.mut])).trans h
 | mapb p ks vs=>exact aM2.move h fun r hr=>hb r (by simp[Ent.mut,hr])
theorem Mem.pure {w0 w w':World}{X Z:Nat→Prop}{m:List Ent}(h:Mem w0 X Z m w)(hp:Agr Nob w w'):Mem w0 X Z m w' :=
 ⟨h.agr.trans hp (fun _ _ x=>x) (fun _ _ x=>x.elim),h.sub,h.nodup,fun b hb=>⟨Nat.lt_of_lt_of_le (h.own b hb).1 hp.size,(h.own b hb).2⟩,
  fun e he=>Ent.holds_move (fun i hi hy=>⟨hp.block i hi id,hy⟩) (h.all e he) (fun b hb=>hp.block b (h.own b (aBI he hb)).1 id)⟩
theorem Mem.add {w0 w:World}{X Z:Nat→Prop}{m:List Ent}(h:Mem w0 X Z m w){e:Ent}(he:e.mut=[])(hh:e.holds w (Yof w0 Z m)):Mem w0 X Z (e::m) w:=by
 have hy:Yof w0 Z (e::m)=Yof w0 Z m:=by funext b;simp[Yof,muts,he]
 refine⟨h.agr,h.sub,by simpa [muts,he] using h.nodup,by simpa [muts,he] using h.own,?_⟩
 rw[hy]
 intro x hx
 rcases List.mem_cons.1 hx with rfl|hx
 ·exact hh
 ·exact h.all x hx
theorem Mem.result {w0 w w':World}{X Z:Nat→Prop}{m:List Ent}(h:Mem w0 X Z m w)(hp:Agr Nob w w'){d:DD}{cs:List Value}
  (hr:Rep w' (fun b=>b<w.heap.size∧Yof w0 Z m b) d cs):Mem w0 X Z (.rep d cs::m) w' :=
 (h.pure hp).add rfl (Rep.move (fun _ _ hy=>⟨rfl,fun hz=>hy ⟨Yof.lt h hz,hz⟩⟩) d cs hr)
theorem Mem.alloc {w0 w:World}{X Z:Nat→Prop}{m:List Ent}(h:Mem w0 X Z m w)(cs:List Value)(e:TypeId) :
  Mem w0 X Z (.blk w.heap.size cs e::m) (w.alloc (.cells cs.toArray e)):=by
 have hp:=Agr.alloc Nob w (.cells cs.toArray e)
 have hm':=h.pure hp
 have hnot:w.heap.size ∉ muts m:=fun hb=>Nat.lt_irrefl _ (h.own _ hb).1
 refine⟨hm'.agr,h.sub,by simp only[muts,Ent.mut,List.singleton_append,List.nodup_cons];exact⟨hnot,h.nodup⟩,?_,?_⟩
 ·intro b hb
  simp only[muts,Ent.mut,List.singleton_append,List.mem_cons] at hb
  rcases hb with rfl|hb
  ·exact⟨by simp,fun hlt=>absurd hlt (Nat.not_lt.2 h.agr.size)⟩
  ·exact hm'.own b hb
 ·intro x hx
  rcases List.mem_cons.1 hx with rfl|hx
  ·exact heap_alloc_new w _
  ·refine Ent.holds_move (fun i hi hy=>⟨hp.block i hi id,?_⟩) (h.all x hx) (fun b hb=>hp.block b (h.own b (aBI hx hb)).1 id)
   rintro (hz|hz)
   ·exact hy (.inl hz)
   ·simp only[muts,Ent.mut,List.singleton_append,List.mem_cons] at hz
    rcases hz with rfl|hz
    ·exact Nat.lt_irrefl _ hi
    ·exact hy (.inr hz)
end Go.Mk
namespace Go.Mk
open Go
def aAC (P:Program)(t k:Nat):Option Nat :=
 match P.underlying t with
 | some (.struct fs)=>match fs[k]? with
  | some f=>match P.info? f.type with
   | some i=>match i.size with
    | 0=>none
    | _+1=>some f.offset
   | none=>none
  | none=>none
 | _=>none
def aCm (P:Program)(t:Nat):Option (Bool × Nat) :=
 match P.underlying t,P.info? t with
 | some (.struct _),some i=>some (true,i.size)
 | some (.array _ _),some i=>some (true,i.size)
 | some _,some i=>some (false,i.size)
 | _,_=>none
def aBB (P:Program)(t:Nat):Option Value:=(P.info? t).bind (·.zero)
def aBA (P:Program)(t:Nat):Option Nat:=match P.underlying t with|some (.slice e)=>some e|_=>none
def aH0 (P:Program)(t:Nat):Option IntKind:=match P.underlying t with|some (.int k)=>some k|_=>none
theorem aRb {P:Program}{t k o:Nat}(h:aAC P t k=some o):∃ fs f i,P.underlying t=some (.struct fs)∧fs[k]? = some f∧P.info? f.type=some i∧i.size≠0∧f.offset=o:=by
 unfold aAC at h
 split at h
 ·rename_i fs hfs
  split at h
  ·rename_i f hf
   split at h
   ·rename_i i hi
    split at h
    ·cases h
    ·rename_i n hn
     exact⟨fs,f,i,hfs,hf,hi,by omega,by simpa using h⟩
   ·cases h
  ·cases h
 ·cases h
theorem aOb {P:Program}{t s:Nat}(h:aCm P t=some (false,s)):∃ d i,P.underlying t=some d∧P.info? t=some i∧i.size=s∧(∀ fs,d≠.struct fs)∧(∀ n e,d≠.array n e):=by
 unfold aCm at h
 split at h
 ·simp at h
 ·simp at h
 ·rename_i d i hd1 hd2 hi hu
  exact⟨d,i,by first|exact hu|exact hi,by first|exact hi|exact hu,by simpa using h,fun fs e=>by subst e;first|exact hd1 fs rfl|exact hd1 fs hu,fun n e' e=>by subst e;first|exact hd2 n e' rfl|exact hd2 n e' hu⟩
 ·cases h
theorem aQe {P:Program}{t s:Nat}(h:aCm P t=some (true,s)):∃ d i,P.underlying t=some d∧P.info? t=some i∧i.size=s∧((∃ fs,d=.struct fs)∨∃ n e,d=.array n e):=by
 unfold aCm at h
 split at h
 ·rename_i fs i hu hi
  exact⟨_,i,hu,hi,by simpa using h,.inl ⟨fs,rfl⟩⟩
 ·rename_i n e i hu hi
  exact⟨_,i,hu,hi,by simpa using h,.inr ⟨n,e,rfl⟩⟩
 ·simp at h
 ·cases h
theorem aQw {P:Program}{t s:Nat}(h:aCm P t=some (false,s))(w:World):(isAgg t).run P w=.ok false w:=by
 obtain⟨d,i,hu,_,_,h1,h2⟩:=aOb h
 unfold isAgg
 simp only[Sem.run_bind,run_underlying hu,Result.andThen_ok]
 cases d<;>first|rfl|exact absurd rfl (h1 _)|exact absurd rfl (h2 _ _)
theorem aJV {P:Program}{t s:Nat}(h:aCm P t=some (true,s))(w:World):(isAgg t).run P w=.ok true w:=by
 obtain⟨d,i,hu,_,_,h1⟩:=aQe h
 unfold isAgg
 simp only[Sem.run_bind,run_underlying hu,Result.andThen_ok]
 rcases h1 with ⟨fs,rfl⟩|⟨n,e,rfl⟩<;>rfl
theorem aEr {P:Program}{t:Nat}{i:TypeInfo}(h:P.info? t=some i)(w:World):(typeInfo t).run P w=.ok i w:=by
 unfold typeInfo
 simp[h]
theorem aCw {P:Program}{t s:Nat}{b:Bool}(h:aCm P t=some (b,s))(w:World):(sizeOf t).run P w=.ok s w:=by
 have:∃ i,P.info? t=some i∧i.size=s:=by
  cases b with
  | false=>obtain⟨d,i,_,h2,h3,_⟩:=aOb h;exact⟨i,h2,h3⟩
  | true=>obtain⟨d,i,_,h2,h3,_⟩:=aQe h;exact⟨i,h2,h3⟩
 obtain⟨i,hi,hs⟩:=this
 unfold sizeOf
 simp only[Sem.run_bind,aEr hi,Result.andThen_ok,Sem.run_pure,hs]
theorem aCr {P:Program}{t:Nat}{z:Value}(h:aBB P t=some z)(w:World):(zeroValue t).run P w=.ok z w:=by
 unfold aBB at h
 cases hi:P.info? t with
 | none=>rw[hi] at h;cases h
 | some i =>
  rw[hi] at h
  have h':i.zero=some z:=by simpa using h
  unfold zeroValue
  simp only[Sem.run_bind,aEr hi,Result.andThen_ok,h',Sem.run_pure]
theorem aCi {P:Program}{t e:Nat}(h:aBA P t=some e):P.underlying t=some (.slice e):=by
 unfold aBA at h
 split at h
 ·rename_i e' hu;rw[hu];simpa using h
 ·cases h
theorem aPG {P:Program}{t:Nat}{k:IntKind}(h:aH0 P t=some k):P.underlying t=some (.int k):=by
 unfold aH0 at h
 split at h
 ·rename_i e' hu;rw[hu];simpa using h
 ·cases h
section
variable {P:Program}{a:Act}{w:World}{n:Nat}{l:List (Nat × Value)}{d:Option Nat}{ty:Nat}{ps:String}{af:Array Edge}{g:Option (Nat × Bool)}
theorem aA6 {x:Operand}{v:Value}(hk:Kn n l a)(hx:ev l x=some v):aDp P ⟨d,.move x,ty,ps,af,g⟩ a w v w:=by
 unfold aDp execOp;simp only[Sem.run_pure,hk.eval hx]
theorem aV2 {x:Operand}{v:Value}(hk:Kn n l a)(hx:ev l x=some v):aDp P ⟨d,.assign x,ty,ps,af,g⟩ a w v w:=by
 unfold aDp execOp;simp only[Sem.run_pure,hk.eval hx]
theorem bAl {c x y:Operand}{b:Bool}{v u:Value}(hk:Kn n l a)(hc:ev l c=some (.bool b))(hx:ev l x=some v)(hy:ev l y=some u) :
  aDp P ⟨d,.pick c x y,ty,ps,af,g⟩ a w (if b then v else u) w:=by
 unfold aDp execOp;simp[hk.eval hc,hk.eval hx,hk.eval hy,asBool]
theorem aFT {x:Operand}{p:Addr}(hk:Kn n l a)(hx:ev l x=some (.pointer (some p))):aDp P ⟨d,.nilCheck x,ty,ps,af,g⟩ a w (.pointer (some p)) w:=by
 unfold aDp execOp;simp[hk.eval hx]
theorem rF0 {x:Operand}{t k o b off:Nat}(hk:Kn n l a)(hf:aAC P t k=some o)(hx:ev l x=some (.pointer (some ⟨b,off,none⟩))) :
  aDp P ⟨d,.fieldAddr t x k,ty,ps,af,g⟩ a w (.pointer (some ⟨b,off+o,none⟩)) w:=by
 obtain⟨fs,f,i,h1,h2,h3,h4,rfl⟩:=aRb hf
 unfold aDp execOp
 simp[hk.eval hx,Instr.fieldAt,run_underlying h1,h2,Instr.sureAddr,fieldPlace,sizeOf,aEr h3,h4,Addr.add_lit]
theorem aAL {x:Operand}{t s:Nat}{p:Addr}{v:Value}(hk:Kn n l a)(ht:aCm P t=some (false,s))(hx:ev l x=some (.pointer (some p)))(hc:w.cell? p=some v) :
  aDp P ⟨d,.load t x,ty,ps,af,g⟩ a w v w:=by
 unfold aDp execOp
 simp[hk.eval hx,Instr.loadAt,Instr.sureAddr,loadVar,aQw ht,hc]
theorem aEP {P:Program}{w:World}{b off:Nat}{cs:List Value}(h:∀ j u,cs[j]? = some u→w.cell? ⟨b,off+j,none⟩=some u) :
  (loadCells ⟨b,off,none⟩ cs.length).run P w=.ok cs.toArray w:=by
 have key:∀ (cs:List Value) (i:Nat) (acc:Array Value),(∀ j u,cs[j]? = some u→w.cell? ⟨b,off+(i+j),none⟩=some u) →
   (loadCellsFrom ⟨b,off,none⟩ i cs.length acc).run P w=.ok (acc++cs.toArray) w:=by
  intro cs
  induction cs with
  | nil=>intro i acc _;simp[loadCellsFrom]
  | cons c r ih =>
   intro i acc h
   have h0:=h 0 c (by simp)
   simp only[List.length_cons,loadCellsFrom,Sem.run_bind,Addr.add_lit]
   rw[Nat.add_zero] at h0
   simp only[run_load,h0,Result.andThen_ok]
   rw[ih (i+1) (acc.push c) (fun j u hj=>by have:=h (j+1) u (by simpa using hj);rw[show i+1+j=i+(j+1) by omega];exact this)]
   simp
 have:=key cs 0 #[] (by simpa using h)
 simpa [loadCells] using this
theorem aBq {x:Operand}{t b off:Nat}{cs:List Value}(hk:Kn n l a)(ht:aCm P t=some (true,cs.length))(hx:ev l x=some (.pointer (some ⟨b,off,none⟩)))
  (hc:∀ j u,cs[j]? = some u→w.cell? ⟨b,off+j,none⟩=some u):aDp P ⟨d,.load t x,ty,ps,af,g⟩ a w (.agg cs.toArray) w:=by
 unfold aDp execOp
 simp only[Sem.run_bind,hk.eval hx,Instr.loadAt,Instr.sureAddr,loadVar,aJV ht,Sem.run_pure,Result.andThen_ok,aCw ht,aEP hc,if_true]
def icmp:BinOp→Int→Int→Option Bool
 | .eql,x,y=>some (x==y)
 | .neq,x,y=>some (x != y)
 | .lss,x,y=>some (decide (x<y))
 | .leq,x,y=>some (decide (x≤y))
 | .gtr,x,y=>some (decide (x > y))
 | .geq,x,y=>some (decide (x≥y))
 | _,_,_=>none
theorem aZ1 {x y:Operand}{op:BinOp}{t t':Nat}{k:IntKind}{i j:Int}{b:Bool}(hk:Kn n l a)(hx:ev l x=some (.int k i))(hy:ev l y=some (.int k j))(hb:icmp op i j=some b) :
  aDp P ⟨d,.binOp op t x y t',ty,ps,af,g⟩ a w (.bool b) w:=by
 unfold aDp execOp
 simp only[Sem.run_bind,hk.eval hx,hk.eval hy,eqGuard_at_int,Sem.run_pure,Result.andThen_ok]
 cases op<;>simp only[icmp,Option.some.injEq,reduceCtorEq] at hb<;>subst hb<;>simp[binOp,Op.intCmp]
def iarith:BinOp→Int→Int→Option Int
 | .add,x,y=>some (x+y)
 | .sub,x,y=>some (x - y)
 | .mul,x,y=>some (x*y)
 | _,_,_=>none
theorem aWa {x y:Operand}{op:BinOp}{t t':Nat}{k:IntKind}{i j z c:Int}(hk:Kn n l a)(hx:ev l x=some (.int k i))(hy:ev l y=some (.int k j))(hz:iarith op i j=some z)(hc:k.wrap z=c) :
  aDp P ⟨d,.binOp op t x y t',ty,ps,af,g⟩ a w (.int k c) w:=by
 unfold aDp execOp
 simp only[Sem.run_bind,hk.eval hx,hk.eval hy,eqGuard_at_int,Sem.run_pure,Result.andThen_ok]
 subst hc
 cases op<;>simp only[iarith,Option.some.injEq,reduceCtorEq] at hz<;>subst hz<;>simp[binOp,Op.intArith]
theorem aDR {x:Operand}{s t:Nat}{k k':IntKind}{i c:Int}(hk:Kn n l a)(hs:∃ u,P.underlying s=some u)(ht:aH0 P t=some k')(hx:ev l x=some (.int k i))(hc:k'.wrap i=c) :
  aDp P ⟨d,.convert s t x,ty,ps,af,g⟩ a w (.int k' c) w:=by
 obtain⟨u,hu⟩:=hs
 unfold aDp execOp
 subst hc
 simp only[Sem.run_bind,hk.eval hx,convert,run_underlying hu,run_underlying (aPG ht),Result.andThen_ok,Conv.intToInt,Sem.run_pure]
theorem bB2 {x:Operand}{t:Nat}{b:Bool}(hk:Kn n l a)(hx:ev l x=some (.bool b)):aDp P ⟨d,.unOp .not t x,ty,ps,af,g⟩ a w (.bool (!b)) w:=by
 unfold aDp execOp
 simp[hk.eval hx,Op.unary]
theorem aN5 {x:Operand}{t e k c:Nat}{p:Option Addr}(hk:Kn n l a)(ht:aBA P t=some e)(hx:ev l x=some (.slice p k c)) :
  aDp P ⟨d,.call ⟨.builtin .len,#[x],#[t]⟩,ty,ps,af,g⟩ a w (.int .i64 k) w:=by
 unfold aDp execOp
 simp[hk.eval hx,resolve,invoke,builtin,Builtin.len_,run_underlying (aCi ht),goInt]
theorem aA4 {x i:Operand}{t e k c b off s:Nat}{bl:Bool}{j:Nat}{kk:IntKind}(hk:Kn n l a)(ht:aBA P t=some e)(hs:aCm P e=some (bl,s))(hx:ev l x=some (.slice (some ⟨b,off,none⟩) k c))
  (hi:ev l i=some (.int kk (j:Int))) (hj:j<k):aDp P ⟨d,.indexAddr t x i,ty,ps,af,g⟩ a w (.pointer (some ⟨b,off+j*s,none⟩)) w:=by
 unfold aDp execOp
 simp[hk.eval hx,hk.eval hi,Instr.indexAt,asIntOf,run_underlying (aCi ht),hj,aCw hs,Addr.add_lit]
end
end Go.Mk
namespace Go.Mk
open Go
def ovl:List Value→List Value→List Value
 | [],cs=>cs
 | v::vs,[]=>v::vs
 | v::vs,_::cs=>v::ovl vs cs
def spl:List Value→Nat→List Value→List Value
 | cs,0,vs=>ovl vs cs
 | [],_+1,_=>[]
 | c::cs,k+1,vs=>c::spl cs k vs
theorem aXu:∀ {vs cs:List Value},vs.length≤cs.length→ovl vs cs=vs++cs.drop vs.length
 | [],cs,_=>by simp[ovl]
 | v::vs,[],h=>by simp at h
 | v::vs,c::cs,h=>by
  have h':vs.length≤cs.length:=by simpa using h
  simp[ovl,aXu h']
theorem aFO:∀ {cs:List Value} {off:Nat} {vs:List Value},off+vs.length≤cs.length→spl cs off vs=cs.take off++vs++cs.drop (off+vs.length)
 | cs,0,vs,h=>by
  have h':vs.length≤cs.length:=by omega
  cases cs<;>simp[spl,aXu h']
 | [],k+1,vs,h=>by simp at h
 | c::cs,k+1,vs,h=>by
  have h':k+vs.length≤cs.length:=by simp only[List.length_cons] at h;omega
  simp only[spl,aFO h',List.take_succ_cons,List.cons_append]
  rw[show k+1+vs.length=(k+vs.length)+1 by omega,List.drop_succ_cons]
theorem aNY {cs:List Value}{off:Nat}{vs:List Value}(h:off+vs.length≤cs.length):(spl cs off vs).length=cs.length:=by
 rw[aFO h]
 simp
 omega
def aBn:List Ent→Nat→Ent→List Ent
 | [],_,_=>[]
 | _::r,0,e=>e::r
 | x::r,i+1,e=>x::aBn r i e
def aBi:List Ent→Nat→Option Ent
 | [],_=>none
 | x::_,0=>some x
 | _::r,i+1=>aBi r i
theorem eA0:∀ {m:List Ent} {i:Nat} {e:Ent},aBi m i=some e→e ∈ m
 | [],i,e,h=>by simp[aBi] at h
 | x::r,0,e,h=>by simp only[aBi,Option.some.injEq] at h;subst h;exact List.mem_cons_self
 | x::r,i+1,e,h=>List.mem_cons_of_mem _ (eA0 (m:=r) h)
theorem aFZ:∀ {m:List Ent} {i:Nat} {e e':Ent},aBi m i=some e→e'.mut=e.mut→muts (aBn m i e')=muts m
 | [],i,e,e',h,_=>by simp[aBi] at h
 | x::r,0,e,e',h,he=>by simp only[aBi,Option.some.injEq] at h;subst h;simp[aBn,muts,he]
 | x::r,i+1,e,e',h,he=>by simp[aBn,muts,aFZ (m:=r) h he]
theorem aPZ:∀ {m:List Ent} {x:Ent},x ∈ m→∃ j,aBi m j=some x
 | [],x,h=>by cases h
 | z::r,x,h=>by
  rcases List.mem_cons.1 h with rfl|h
  ·exact⟨0,rfl⟩
  ·obtain⟨j,hj⟩:=aPZ (m:=r) h
   exact⟨j+1,hj⟩
theorem aFC:∀ {m:List Ent} {i:Nat} {e' x:Ent},x ∈ aBn m i e'→x=e'∨(∃ j,j≠i∧aBi m j=some x)
 | [],i,e',x,h=>by simp[aBn] at h
 | y::r,0,e',x,h=>by
  rcases List.mem_cons.1 h with h|h
  ·exact .inl h
  ·right
   obtain⟨j,hj⟩:=aPZ h
   exact⟨j+1,by omega,hj⟩
 | y::r,i+1,e',x,h=>by
  rcases List.mem_cons.1 h with rfl|h
  ·exact .inr ⟨0,by omega,rfl⟩
  ·rcases aFC (m:=r) h with h|⟨j,h1,h2⟩
   ·exact .inl h
   ·exact .inr ⟨j+1,by omega,h2⟩
theorem aEt:∀ {m:List Ent} {i j:Nat} {x y:Ent},(muts m).Nodup→i≠j→aBi m i=some x→aBi m j=some y→∀ b,b ∈ x.mut→b ∉ y.mut
 | [],i,j,x,y,_,_,h,_,_,_=>by simp[aBi] at h
 | z::r,0,0,x,y,_,hne,_,_,_,_=>absurd rfl hne
 | z::r,0,j+1,x,y,hn,_,hx,hy,b,hb=>by
  simp only[aBi,Option.some.injEq] at hx
  subst hx
  simp only[muts,List.nodup_append] at hn
  exact fun hb'=>hn.2.2 b hb b (aBI (eA0 (m:=r) hy) hb') rfl
 | z::r,i+1,0,x,y,hn,_,hx,hy,b,hb=>by
  simp only[aBi,Option.some.injEq] at hy
  subst hy
  simp only[muts,List.nodup_append] at hn
  exact fun hb'=>hn.2.2 b hb' b (aBI (eA0 (m:=r) hx) hb) rfl
 | z::r,i+1,j+1,x,y,hn,hne,hx,hy,b,hb=>by
  simp only[muts,List.nodup_append] at hn
  exact aEt (m:=r) hn.2.1 (by omega) hx hy b hb
theorem Mem.write {w0 w w':World}{X Z:Nat→Prop}{m:List Ent}(h:Mem w0 X Z m w){i:Nat}{b:Nat}{cs cs':List Value}{e:TypeId}
  (hi:aBi m i=some (.blk b cs e)) (hp:Agr (fun x=>x=b) w w') (hb:w'.heap[b]? = some (.cells cs'.toArray e (0,0))):Mem w0 X Z (aBn m i (.blk b cs' e)) w':=by
 have hmem:b ∈ muts m:=aBI (eA0 hi) (by simp[Ent.mut])
 have hmu:muts (aBn m i (.blk b cs' e))=muts m:=aFZ hi rfl
 have hy:Yof w0 Z (aBn m i (.blk b cs' e))=Yof w0 Z m:=by funext x;simp[Yof,hmu]
 refine⟨h.agr.trans hp (fun _ _ x=>x) (fun k hk hkb=>by subst hkb;exact (h.own _ hmem).2 hk),h.sub,by rw[hmu];exact h.nodup,?_,?_⟩
 ·rw[hmu]
  exact fun x hx=>⟨Nat.lt_of_lt_of_le (h.own x hx).1 hp.size,(h.own x hx).2⟩
 ·rw[hy]
  intro x hx
  rcases aFC hx with rfl|⟨j,hji,hj⟩
  ·exact hb
  ·have hxm:=eA0 hj
   refine Ent.holds_move (fun k hk hyk=>⟨hp.block k hk (fun hkb=>hyk (.inr (hkb ▸ hmem))),hyk⟩) (h.all x hxm) (fun k hk=>?_)
   exact hp.block k (h.own k (aBI hxm hk)).1 (fun hkb=>aEt h.nodup (Ne.symm hji) hi hj b (by simp[Ent.mut]) (hkb ▸ hk))
theorem Mem.cell_blk {w0 w:World}{X Z:Nat→Prop}{m:List Ent}(h:Mem w0 X Z m w){i b off:Nat}{cs:List Value}{e:TypeId}{v:Value}
  (hi:aBi m i=some (.blk b cs e)) (hv:cs[off]? = some v):w.cell? ⟨b,off,none⟩=some v:=by
 have:=h.all _ (eA0 hi)
 simp only[Ent.holds] at this
 simp[World.cell?,this,hv]
theorem Mem.cells_blk {w0 w:World}{X Z:Nat→Prop}{m:List Ent}(h:Mem w0 X Z m w){i b off:Nat}{cs vs:List Value}{e:TypeId}
  (hi:aBi m i=some (.blk b cs e)) (hv:(cs.drop off).take vs.length=vs):∀ j u,vs[j]? = some u→w.cell? ⟨b,off+j,none⟩=some u:=fun j u hj=>by
 refine h.cell_blk hi ?_
 have hlt:j<vs.length:=(List.getElem?_eq_some_iff.1 hj).1
 rw[← hv,List.getElem?_take,if_pos hlt,List.getElem?_drop] at hj
 exact hj
theorem Mem.cell_cel {w0 w:World}{X Z:Nat→Prop}{m:List Ent}(h:Mem w0 X Z m w){i b off:Nat}{cs:List Value}{v:Value}{j:Nat}
  (hi:aBi m i=some (.cel b off cs)) (hv:cs[j]? = some v):w.cell? ⟨b,off+j,none⟩=some v :=
 ((h.all _ (eA0 hi)) j v hv).2
theorem Mem.cells_cel {w0 w:World}{X Z:Nat→Prop}{m:List Ent}(h:Mem w0 X Z m w){i b off:Nat}{cs vs:List Value}{k:Nat}
  (hi:aBi m i=some (.cel b off cs)) (hv:(cs.drop k).take vs.length=vs):∀ j u,vs[j]? = some u→w.cell? ⟨b,off+k+j,none⟩=some u:=fun j u hj=>by
 rw[Nat.add_assoc]
 refine h.cell_cel hi ?_
 have hlt:j<vs.length:=(List.getElem?_eq_some_iff.1 hj).1
 rw[← hv,List.getElem?_take,if_pos hlt,List.getElem?_drop] at hj
 exact hj
theorem aIl (w:World)(g:Nat)(cs:Array Value):Agr (fun x=>x=g) w (w.setRow g cs) :=
 ⟨rfl,rfl,rfl,by simp[World.setRow],fun k _ hk=>setRow_other w g k cs hk⟩
section
variable {P:Program}{ops:Array Oper}{Q:Exit→Act→World→Prop}{rest:List Oper}{a:Act}{w w0:World}{n:Nat}{l:List (Nat × Value)}{X Z:Nat→Prop}{m:List Ent}
variable {d:Nat}{ty:Nat}{ps:String}{af:Array Edge}
def cellsOf:Value→List Value
 | .agg cs=>cs.toList
 | v=>[v]
theorem aBv (v:Value):v.cells=(cellsOf v).toArray:=by cases v<;>simp[Value.cells,cellsOf]
theorem aFB {x:Operand}{v:Value}{e:Nat}{cs:List Value}(hk:Kn n l a)(hm:Mem w0 X Z m w)(hx:ev l x=some v)(hcs:cellsOf v=cs)(hd:Nat.blt d n=true)
  (K:∀ a' b w',Kn n ((d,.pointer (some ⟨b,0,none⟩))::l) a'→Mem w0 X Z (.blk b cs e::m) w'→wpList P ops Q rest a' w') :
  wpList P ops Q (⟨some d,.box e x,ty,ps,af,none⟩::rest) a w:=by
 subst hcs
 refine aAD (v:=.pointer (some ⟨w.heap.size,0,none⟩)) (w':=w.alloc (.cells v.cells e)) hk rfl rfl hd ?_ fun a' hk'=>K a' _ _ hk' ?_
 ·unfold aDp execOp
  simp[hk.eval hx,Instr.box,newVar,newRow]
 ·rw[aBv];exact hm.alloc _ e
theorem aA5 {e:Nat}{z:Value}{cs:List Value}(hk:Kn n l a)(hm:Mem w0 X Z m w)(hz:aBB P e=some z)(hcs:cellsOf z=cs)(hd:Nat.blt d n=true)
  (K:∀ a' b w',Kn n ((d,.pointer (some ⟨b,0,none⟩))::l) a'→Mem w0 X Z (.blk b cs e::m) w'→wpList P ops Q rest a' w') :
  wpList P ops Q (⟨some d,.alloc e,ty,ps,af,none⟩::rest) a w:=by
 subst hcs
 refine aAD (v:=.pointer (some ⟨w.heap.size,0,none⟩)) (w':=w.alloc (.cells z.cells e)) hk rfl rfl hd ?_ fun a' hk'=>K a' _ _ hk' ?_
 ·unfold aDp execOp
  simp[Instr.alloc,newVar,newRow,aCr hz]
 ·rw[aBv];exact hm.alloc _ e
theorem Mem.rep {i:Nat}{dd:DD}{cs:List Value}(hm:Mem w0 X Z m w)(hi:aBi m i=some (.rep dd cs)):Rep w (Yof w0 Z m) dd cs:=hm.all _ (eA0 hi)
def aBP:List Value→Bool
 | []=>true
 | v::r=>v.oneCell'&&aBP r
theorem aDN:∀ {vs:List Value},aBP vs=true→∀ v ∈ vs,v.oneCell'=true
 | [],_,_,h=>by cases h
 | x::r,h,v,hv=>by
  simp only[aBP,Bool.and_eq_true] at h
  rcases List.mem_cons.1 hv with rfl|hv
  ·exact h.1
  ·exact aDN h.2 v hv
theorem aAz {x y:Operand}{t s:Nat}{bl:Bool}{b off i:Nat}{v:Value}{cs vs:List Value}{e:Nat}(hk:Kn n l a)(hm:Mem w0 X Z m w)(ht:aCm P t=some (bl,s))
  (hx:ev l x=some (.pointer (some ⟨b,off,none⟩))) (hy:ev l y=some v) (hvs:cellsOf v=vs) (hs:vs.length=s) (h1:aBP vs=true) (hi:aBi m i=some (.blk b cs e)) (ho:off+vs.length≤cs.length)
  (K:∀ a' w',Kn n l a'→Mem w0 X Z (aBn m i (.blk b (spl cs off vs) e)) w'→wpList P ops Q rest a' w') :
  wpList P ops Q (⟨none,.store t x y,ty,ps,af,none⟩::rest) a w:=by
 subst hvs
 have hb:=hm.all _ (eA0 hi)
 simp only[Ent.holds] at hb
 have hst:=run_storeCells_at P b off e (cellsOf v) 0 cs.toArray w hb (by simpa using ho) (aDN h1)
 rw[Nat.add_zero] at hst
 refine aIf (w':=w.setRow b (spl cs off (cellsOf v)).toArray) hk rfl rfl ?_ fun a' hk'=>K a' _ hk' ?_
 ·unfold aS8 execOp
  have hsz:v.cells.size=s:=by rw[aBv];simpa using hs
  simp[hk.eval hx,hk.eval hy,Instr.storeAt,Instr.sureAddr,storeVar,aCw ht,hsz]
  rw[show v.cells.toList=cellsOf v by rw[aBv],hst]
  rw[aFO ho]
  rfl
 ·exact hm.write hi (aIl w b _) (setRow_heap w b cs.toArray _ e (0,0) hb)
def cb0 (P:Program)(f:Nat):Bool:=match P.funcs[f]? with
 | some fn => fn.name != "runtime.NumGoroutine" && fn.body.isSome
 | none=>false
theorem aJn {f:Nat}(h:cb0 P f=true)(args:Array Value)(w:World):(callFunc f args).run P w=.ok (.enter f args) w:=by
 unfold cb0 at h
 split at h
 ·rename_i fn hf
  simp only[Bool.and_eq_true,bne_iff_ne,ne_eq] at h
  unfold callFunc
  have h2:fn.body≠none:=fun e=>by rw[e] at h;simp at h
  simp[hf,h.1,h2]
 ·cases h
def Ret (P:Program)(f:FuncId)(args:List Value)(w:World)(R:Value→World→Prop):Prop:=Calls P f args.toArray w fun e w'=>∃ v,e=.returned v∧R v w'
theorem Ret.mono {f:FuncId}{args:List Value}{R R':Value→World→Prop}(h:Ret P f args w R)(hr:∀ v w',R v w'→R' v w'):Ret P f args w R' :=
 Calls.mono h fun _ _ ⟨v,he,hv⟩=>⟨v,he,hr _ _ hv⟩
theorem aPB {f:Nat}{xs:List Operand}{vs:List Value}{tys:Array Nat}{o:Option Nat}(hk:Kn n l a)(hf:cb0 P f=true)(hxs:evs l xs vs) :
  (execOp a.eval ⟨o,.call ⟨.value (.func f),xs.toArray,tys⟩,ty,ps,af,none⟩).run P w=.ok (.enter f vs.toArray) w:=by
 unfold execOp
 simp[resolve,Deferred.ofValue,Act.eval,invoke,aJn hf,hk.evals hxs]
theorem aAk {f:Nat}{xs:List Operand}{vs:List Value}{tys:Array Nat}{R:Value→World→Prop}(hk:Kn n l a)(hf:cb0 P f=true)(hc:Ret P f vs w R)(hxs:evs l xs vs)(hd:Nat.blt d n=true)
  (K:∀ v w' a',R v w'→Kn n ((d,v)::l) a'→wpList P ops Q rest a' w') :
  wpList P ops Q (⟨some d,.call ⟨.value (.func f),xs.toArray,tys⟩,ty,ps,af,none⟩::rest) a w :=
 aN4 hk rfl rfl hd (aPB hk hf hxs) hc K
theorem aYx {f:Nat}{xs:List Operand}{vs:List Value}{tys:Array Nat}{R:Value→World→Prop}(hk:Kn n l a)(hf:cb0 P f=true)(hc:Ret P f vs w R)(hxs:evs l xs vs)
  (K:∀ v w' a',R v w'→Kn n l a'→wpList P ops Q rest a' w') :
  wpList P ops Q (⟨none,.call ⟨.value (.func f),xs.toArray,tys⟩,ty,ps,af,none⟩::rest) a w :=
 aQS hk rfl rfl (aPB hk hf hxs) hc K
end
section
variable {P:Program}{Q:Exit→Act→World→Prop}{a:Act}{w:World}
theorem cR0 {id:Nat}{ops:List Oper}{y:Code}(h:wpList P ops.toArray (Exit.then (y.wp P Q) Q) ops a w):(Code.seq (.region id ops.toArray false) y).wp P Q a w:=wp_seq (wp_region_lit h)
theorem cE0 {ops:Array Oper}{y:Code}(h:y.wp P Q a w):wpList P ops (Exit.then (y.wp P Q) Q) [] a w:=h
theorem aUT {x y:Code}(J:Act→World→Prop)(hx:x.wp P (Exit.then J Q) a w)(hy:∀ a w,J a w→y.wp P Q a w):(Code.seq x y).wp P Q a w :=
 wp_seq (Code.wp_mono (fun e a w h=>by cases e<;>first|exact hy _ _ h|exact h) hx)
theorem aAy {f:Nat}{fn:Func}{c:Code}{args:List Value}{R:Value→World→Prop}(hf:P.funcs[f]? = some fn)(hb:fn.body=some c)(hn:Nat.ble args.length fn.ntmps=true)
  (h:∀ a,Kn fn.ntmps (args.zipIdx.map fun p=>(p.2,p.1)) a→c.wp P (bodyPost P fn fun e w'=>∃ v,e=.returned v∧R v w') a w):Ret P f args w R :=
 calls_of_wp hf hb (h _ (Kn.enter fn.ntmps args hn))
end
end Go.Mk
namespace Go.Mk
open Go
inductive T
 | mk (n:Int) (s:List UInt8) (z:Bool) (l:List T) (u:List (Nat × List UInt8))
namespace T
def n:T→Int|.mk n _ _ _ _=>n
def s:T→List UInt8|.mk _ s _ _ _=>s
def z:T→Bool|.mk _ _ z _ _=>z
def l:T→List T|.mk _ _ _ l _=>l
def u:T→List (Nat × List UInt8)|.mk _ _ _ _ u=>u
def nil:T:=.mk 0 [] false [] []
def at_ (t:T)(i:Nat):T:=t.l.getD i nil
end T
def ddB (b:UInt8):DD:=.v (.int .u8 b.toNat)
def aDJ (s:List UInt8):DD:=.sl false 1 (s.map ddB)
def aBT (u:Nat × List UInt8):DD:=.agg [.v (.int .u32 u.1),aDJ u.2]
def aBR (u:List (Nat × List UInt8)):DD:=.sl false 2 (u.map aBT)
mutual
def ddT:T→DD
 | .mk n s z l u=>.agg [.v (.int .i64 n),aDJ s,.v (.bool z),.sl false 5 (bA0 l),aBR u]
def bA0:List T→List DD
 | []=>[]
 | t::r=>ddT t::bA0 r
end
theorem aOM:∀ l:List T,bA0 l=l.map ddT
 | []=>rfl
 | t::r=>by simp[bA0,aOM r]
theorem aSV {w:World}{Y:Nat→Prop}{t:T}{c:List Value}(h:Rep w Y (ddT t) c) :
  ∃ cs cl cu,c=[.int .i64 t.n,cs,.bool t.z,cl,cu]∧Rep w Y (aDJ t.s) [cs]∧Rep w Y (.sl false 5 (t.l.map ddT)) [cl]∧Rep w Y (aBR t.u) [cu]:=by
 cases t with
 | mk n s z l u =>
  have one:∀ (w:World) (Y:Nat→Prop) (st:Bool) (e:Nat) (l:List DD) (c:List Value),Rep w Y (.sl st e l) c→∃ x,c=[x]:=by
   intro w Y st e l c h
   simp only[Rep] at h
   rcases h with ⟨_,_,h,_⟩|⟨b,off,cap,cs,h,_⟩<;>exact⟨_,h⟩
  simp only[ddT,aDJ,aBR,aOM] at h
  unfold Rep at h
  simp only[aCh] at h
  obtain⟨c1,c2,rfl,h1,d1,d2,rfl,h2,e1,e2,rfl,h3,f1,f2,rfl,h4,g1,g2,rfl,h5,rfl⟩:=h
  obtain⟨x1,rfl⟩:=one _ _ _ _ _ _ h2
  obtain⟨x2,rfl⟩:=one _ _ _ _ _ _ h4
  obtain⟨x3,rfl⟩:=one _ _ _ _ _ _ h5
  simp only[Rep] at h1 h3
  subst h1 h3
  exact⟨x1,x2,x3,rfl,h2,h4,h5⟩
theorem aC8 {w:World}{Y:Nat→Prop}{t:T}{cs cl cu:Value}(h1:Rep w Y (aDJ t.s) [cs])(h2:Rep w Y (.sl false 5 (t.l.map ddT)) [cl])(h3:Rep w Y (aBR t.u) [cu]) :
  Rep w Y (ddT t) [.int .i64 t.n,cs,.bool t.z,cl,cu]:=by
 cases t with
 | mk n s z l u =>
  simp only[ddT,aOM]
  unfold Rep
  simp only[aCh]
  exact⟨[.int .i64 n],_,rfl,by simp[Rep],[cs],_,rfl,h1,[.bool z],_,rfl,by simp[Rep],[cl],_,rfl,h2,[cu],_,rfl,h3,rfl⟩
theorem aUl {w:World}{Y:Nat→Prop}:Rep w Y (ddT T.nil) [.int .i64 0,.slice none 0 0,.bool false,.slice none 0 0,.slice none 0 0] :=
 aC8 (t:=T.nil) (by simp[Rep,aDJ,T.nil,T.s]) (by simp[Rep,T.nil,T.l]) (by simp[Rep,aBR,T.nil,T.u])
theorem aLZ {w:World}{Y:Nat→Prop}{st:Bool}{esz:Nat}{l:List DD}{c:Value}(h:Rep w Y (.sl st esz l) [c]) :
  (l=[]∧∃ p,c=.slice p 0 0∧(st=true→p≠none))∨∃ b off cap cs,c=.slice (some ⟨b,off,none⟩) l.length cap∧l.length≤cap∧Cel w Y b off cs∧aBf w Y esz l cs:=by
 simp only[Rep] at h
 rcases h with ⟨h1,p,h2,h3⟩|⟨b,off,cap,cs,h1,h2⟩
 ·exact .inl ⟨h1,p,by simpa using h2,h3⟩
 ·exact .inr ⟨b,off,cap,cs,by simpa using h1,h2⟩
theorem aCS {w:World}{Y:Nat→Prop}{st:Bool}{esz:Nat}{l:List DD}{c:Value}(h:Rep w Y (.sl st esz l) [c]):∃ p cap,c=.slice p l.length cap:=by
 rcases aLZ h with ⟨rfl,p,rfl,_⟩|⟨b,off,cap,cs,rfl,_⟩
 ·exact⟨_,_,rfl⟩
 ·exact⟨_,_,rfl⟩
end Go.Mk
namespace Go.Mk
open Go
def aFh (P:Program)(t k:Nat):Option (Nat × Nat) :=
 match P.underlying t with
 | some (.struct fs)=>match fs[k]? with
  | some f=>(P.info? f.type).map fun i=>(f.offset,i.size)
  | none=>none
 | _=>none
theorem aPP (off:Nat):∀ (vs:List Value) (k:Nat) (pre cs:List Value),off+k+vs.length≤cs.length→pre.length=off+k →
  (∀ j,j<off+k→cs[j]? = pre[j]?) →
  ((vs.zipIdx k).foldl (fun (cs:Array Value) (p:Value × Nat)=>cs.setIfInBounds (off+p.2) p.1) cs.toArray).toList=pre++vs++cs.drop (off+k+vs.length)
 | [],k,pre,cs,h,hp,hj=>by
  simp only[List.zipIdx_nil,List.foldl_nil,List.append_nil,List.length_nil,Nat.add_zero] at h ⊢
  have:pre=cs.take (off+k):=by
   apply List.ext_getElem?
   intro i
   rw[List.getElem?_take]
   split
   ·rename_i hi;exact (hj i hi).symm
   ·rename_i hi;exact List.getElem?_eq_none (by omega)
  rw[this,List.take_append_drop]
 | v::r,k,pre,cs,h,hp,hj=>by
  simp only[List.zipIdx_cons,List.foldl_cons,List.length_cons] at h ⊢
  have h1:off+k<cs.length:=by omega
  rw[show (cs.toArray.setIfInBounds (off+k) v)=(cs.set (off+k) v).toArray by simp]
  rw[aPP off r (k+1) (pre++[v]) (cs.set (off+k) v) (by simp;omega) (by simp;omega)]
  ·simp only[List.append_assoc,List.singleton_append]
   congr 2
   rw[List.drop_set,if_pos (by omega)]
   congr 1
   omega
  ·intro j hjj
   by_cases e:j=off+k
   ·subst e
    rw[List.getElem?_set_self h1,List.getElem?_append_right (by omega),hp]
    simp
   ·rw[List.getElem?_set_ne (by omega),hj j (by omega),List.getElem?_append_left (by omega)]
theorem aP1 {place:Nat→Option (Nat × Nat)}{zs:List Value}{i off:Nat}{v:Value}{vs:List Value}{rest:List (Nat × Value)}(hv:cellsOf v=vs)(hp:place i=some (off,vs.length))(hl:off+vs.length≤zs.length) :
  Instr.fill place zs.toArray ((i,v)::rest)=Instr.fill place (spl zs off vs).toArray rest:=by
 have hsz:v.cells.size=vs.length:=by rw[aBv,hv];simp
 have hfold:(v.cells.zipIdx.foldl (fun (cs:Array Value) (p:Value × Nat)=>cs.setIfInBounds (off+p.2) p.1) zs.toArray)=(spl zs off vs).toArray:=by
  apply Array.ext'
  rw[aBv,hv]
  have:=aPP off vs 0 (zs.take off) zs (by omega) (by simp;omega) (fun j hj=>by rw[List.getElem?_take,if_pos (by omega)])
  simp only[Nat.add_zero] at this
  rw[show (vs.toArray.zipIdx)=(vs.zipIdx).toArray by simp,← Array.foldl_toList]
  rw[this]
  rw[aFO hl]
 simp only[Instr.fill,hp]
 rw[if_neg (by simp[hsz];omega)]
 exact congrArg (fun x=>Instr.fill place x rest) hfold
def bres (at_:Nat→Option (Nat × Nat))(l:List (Nat × Value)):List (Nat × Operand)→List Value→List Value→Prop
 | [],z,r=>r=z
 | (i,x)::ps,z,r=>∃ v vs off,ev l x=some v∧cellsOf v=vs∧at_ i=some (off,vs.length)∧Nat.ble (off+vs.length) z.length=true∧bres at_ l ps (spl z off vs) r
theorem aNj {at_:Nat→Option (Nat × Nat)}{n:Nat}{l:List (Nat × Value)}{a:Act}(hk:Kn n l a):∀ {ps:List (Nat × Operand)} {z r:List Value},bres at_ l ps z r →
  Instr.fill at_ z.toArray (ps.map fun p=>(p.1,a.eval p.2))=some r.toArray
 | [],z,r,h=>by simp only[bres] at h;subst h;simp[Instr.fill]
 | (i,x)::ps,z,r,h=>by
  simp only[bres] at h
  obtain⟨v,vs,off,h1,h2,h3,h4,h5⟩:=h
  simp only[List.map_cons,hk.eval h1]
  rw[aP1 h2 h3 (Nat.le_of_ble_eq_true h4)]
  exact aNj hk h5
section
variable {P:Program}{ops:Array Oper}{Q:Exit→Act→World→Prop}{rest:List Oper}{a:Act}{w w0:World}{n:Nat}{l:List (Nat × Value)}{X Z:Nat→Prop}{m:List Ent}
variable {d:Nat}{ty:Nat}{ps:String}{af:Array Edge}{dd:Option Nat}{g:Option (Nat × Bool)}
theorem aOd (P:Program)(w:World):∀ (fs:List Field) (ps:List (Nat × Nat)),(fs.map fun f=>(P.info? f.type).map fun i=>(f.offset,i.size))=ps.map some →
  ((fs.mapM fun f=>do pure (f.offset,← sizeOf f.type):Sem (List (Nat × Nat)))).run P w=.ok ps w
 | [],ps,h=>by
  cases ps with
  | nil=>simp
  | cons p r=>simp at h
 | f::fs,ps,h=>by
  cases ps with
  | nil=>simp at h
  | cons p r =>
   simp only[List.map_cons,List.cons.injEq] at h
   cases hi:P.info? f.type with
   | none=>rw[hi] at h;simp at h
   | some i =>
    rw[hi] at h
    simp only[Option.map_some,Option.some.injEq] at h
    have:=aOd P w fs r h.2
    simp only[sizeOf] at this ⊢
    simp only[List.mapM_cons,Sem.run_bind,aEr hi,Result.andThen_ok,Sem.run_pure,this,h.1]
def aI5 (P:Program)(t:Nat):Bool :=
 match P.underlying t with
 | some (.struct fs)=>fs.toList.all fun f=>(P.info? f.type).isSome
 | _=>false
theorem aYv {t:Nat}{z:Value}{parts:List (Nat × Operand)}{zs r:List Value}(hk:Kn n l a)(hz:aBB P t=some z)(hzs:cellsOf z=zs)(hok:aI5 P t=true)(hb:bres (aFh P t) l parts zs r) :
  aDp P ⟨dd,.build t parts.toArray,ty,ps,af,g⟩ a w (.agg r.toArray) w:=by
 unfold aI5 at hok
 split at hok
 case h_2=>cases hok
 rename_i fs hu
 have hall:∃ pl:List (Nat × Nat),(fs.toList.map fun f=>(P.info? f.type).map fun i=>(f.offset,i.size))=pl.map some:=by
  generalize fs.toList=fl at hok
  clear hu
  induction fl with
  | nil=>exact⟨[],rfl⟩
  | cons f r ih =>
   simp only[List.all_cons,Bool.and_eq_true] at hok
   obtain⟨pl,hpl⟩:=ih hok.2
   obtain⟨i,hi⟩:=Option.isSome_iff_exists.1 hok.1
   exact⟨(f.offset,i.size)::pl,by simp[hi,hpl]⟩
 obtain⟨pl,hpl⟩:=hall
 have hat:aFh P t=(pl.toArray[·]?):=by
  funext k
  have h1:(fs.toList.map fun f=>(P.info? f.type).map fun i=>(f.offset,i.size))[k]? = (pl.map some)[k]?:=by rw[hpl]
  simp only[List.getElem?_map] at h1
  unfold aFh
  rw[hu]
  simp only[List.getElem?_toArray]
  rw[← Array.getElem?_toList]
  cases hf:fs.toList[k]? with
  | none =>
   rw[hf] at h1
   cases hp:pl[k]? with
   | none=>rfl
   | some p=>rw[hp] at h1;simp at h1
  | some f =>
   rw[hf] at h1
   cases hp:pl[k]? with
   | none=>rw[hp] at h1;simp at h1
   | some p=>rw[hp] at h1;simpa using h1
 have hfill:=aNj hk hb
 rw[hat] at hfill
 have hmap:(fs.mapM fun f=>do pure (f.offset,← sizeOf f.type):Sem (Array (Nat × Nat))).run P w=.ok pl.toArray w:=by
  rw[Array.mapM_eq_mapM_toList]
  simp only[Sem.run_map,aOd P w fs.toList pl hpl,Result.andThen_ok]
 unfold aDp execOp
 simp only[Sem.run_bind,Instr.build,aCr hz,Result.andThen_ok,run_underlying hu,hmap]
 rw[show z.cells=zs.toArray by rw[aBv,hzs]]
 rw[show ((parts.toArray.map fun (i,x)=>(i,a.eval x)).toList)=parts.map fun p=>(p.1,a.eval p.2) by simp]
 rw[hfill]
 rfl
end
end Go.Mk
namespace Go.Mk
open Go
section
variable {P:Program}{ops:Array Oper}{Q:Exit→Act→World→Prop}{M:World→Prop}{K:Nat}
def waits (ops:Array Oper):Nat→Nat→Nat→Bool
 | 0,k,i=>k==i
 | f+1,k,i=>k==i||match ops[k]? with
  | some o=>o.after.any fun e=>Region.binds .any e&&waits ops f e.on i
  | none=>false
def aM0 (ops:Array Oper)(listed:Array Bool):Prop :=
 ∀ (j:Nat) (oj:Oper),ops[j]? = some oj→listed.getD j false=true→∀ e ∈ oj.after,Region.binds .any e=true→listed.getD e.on false=true
theorem aM0.waits {listed:Array Bool}(hc:aM0 ops listed):∀ {f k i:Nat},waits ops f k i=true→listed.getD k false=true→listed.getD i false=true
 | 0,k,i,h,hk=>by simp only[Mk.waits,beq_iff_eq] at h;subst h;exact hk
 | f+1,k,i,h,hk=>by
  simp only[Mk.waits,Bool.or_eq_true,beq_iff_eq] at h
  rcases h with h|h
  ·subst h;exact hk
  ·split at h
   ·rename_i o ho
    obtain⟨e,he,hb⟩:=Array.any_eq_true'.1 h
    simp only[Bool.and_eq_true] at hb
    exact hc.waits hb.2 (hc k o ho hk e he hb.1)
   ·cases h
theorem aM0.set {listed:Array Bool}(hc:aM0 ops listed){i:Nat}(hi:i ∈ Region.ready .any ops listed):aM0 ops (listed.setIfInBounds i true):=by
 obtain⟨_,oi,hoi,hall⟩:=mem_ready.1 hi
 intro j oj hj hl e he hb
 by_cases hij:i=j
 ·subst hij
  have:oj=oi:=Option.some.inj (hj.symm.trans hoi)
  subst this
  exact getD_set_true (hall e he hb)
 ·rw[getD_set_ne false hij] at hl
  exact getD_set_true (hc j oj hj hl e he hb)
def aCu (P:Program)(ops:Array Oper)(Q:Exit→Act→World→Prop)(M:World→Prop)(K:Nat):Nat→Array Bool→Act→World→Prop
 | 0,listed,a,w=>Region.ready .any ops listed=[]∧Q .normal a w
 | f+1,listed,a,w =>
  (Region.ready .any ops listed=[]→Q .normal a w) ∧
  ∀ i ∈ Region.ready .any ops listed,wpOp P ops Q i (fun a' w'=>((listed.setIfInBounds i true).getD K false=false→M w')∧aCu P ops Q M K f (listed.setIfInBounds i true) a' w') a w
theorem aN1:∀ (f:Nat) (listed:Array Bool) (a:Act) (w:World),aCu P ops Q M K f listed a w→wpAny P .any ops Q f listed a w
 | 0,_,_,_,h=>h
 | f+1,_,_,_,h=>⟨h.1,fun i hi=>wpOp_mono (fun a' w' h'=>aN1 f _ a' w' h'.2) (h.2 i hi)⟩
theorem aJk {i g:Nat}{oi:Oper}{v:Value}(hi:ops[i]? = some oi)(hsel:∀ (j:Nat) (o:Oper) cs b,ops[j]? = some o→o.op≠.select cs b)
  (hQ:∀ c a w,Q (.panic c) (a.put oi.dst v) w→Q (.panic c) a w) (hw:waits ops g K i=true) (hKi:K≠i) :
  ∀ (f:Nat) (listed:Array Bool) (a:Act) (w:World),aM0 ops listed →
   (∀ j oj,ops[j]? = some oj→j≠i→listed.getD j true=false→(∀ e ∈ oj.after,Region.binds .any e=true→e.on≠i)→oi.apart ops oj=true) →
   i ∈ Region.ready .any ops listed→YieldsIf P ops M oi v a→M w →
   aCu P ops Q M K f (listed.setIfInBounds i true) (a.put oi.dst v) w→aCu P ops Q M K (f+1) listed a w:=by
 intro f
 induction f with
 | zero =>
  intro listed a w _ _ hr hy hS H
  refine⟨fun h=>(by rw[h] at hr;cases hr),fun j hj=>?_⟩
  by_cases hji:j=i
  ·subst hji;exact hy.wpOp hi hS ⟨fun _=>hS,H⟩
  ·have:=ready_mono hj hji
   rw[H.1] at this
   cases this
 | succ f ih =>
  intro listed a w hc hfree hr hy hS H
  refine⟨fun h=>(by rw[h] at hr;cases hr),fun j hj=>?_⟩
  by_cases hji:j=i
  ·subst hji;exact hy.wpOp hi hS ⟨fun _=>hS,H⟩
  ·have h1:=H.2 j (ready_mono hj hji)
   obtain⟨hjun,oj,hoj,hall⟩:=mem_ready.1 hj
   have hun:=(mem_ready.1 hr).1
   have hunF:∀ k,listed.getD k true=false→listed.getD k false=false:=fun k h=>by
    rcases Nat.lt_or_ge k listed.size with h'|h'
    ·simp[h'] at h ⊢;exact h
    ·simp[Array.getElem?_eq_none h'] at h
   have hnot:∀ e ∈ oj.after,Region.binds .any e=true→e.on≠i:=fun e he hb heq=>by
    have h2:=hall e he hb
    rw[heq,hunF i hun] at h2
    cases h2
   have h2:=wpOp_putIf hoj (hfree j oj hoj hji hjun hnot) (fun cs b=>hsel i oi cs b hi) (fun cs b=>hsel j oj cs b hoj) hQ hy h1
   have hcj:=hc.set hj
   have hKun:(listed.setIfInBounds j true).getD K false=false:=by
    cases hK:(listed.setIfInBounds j true).getD K false with
    | false=>rfl
    | true =>
     have h3:=hcj.waits hw hK
     rw[getD_set_ne false hji,hunF i hun] at h3
     cases h3
   have hfree':∀ k ok,ops[k]? = some ok→k≠i→(listed.setIfInBounds j true).getD k true=false →
     (∀ e ∈ ok.after,Region.binds .any e=true→e.on≠i)→oi.apart ops ok=true:=fun k ok hk hki hun hno=>by
    refine hfree k ok hk hki ?_ hno
    by_cases hjk:j=k
    ·subst hjk;exact hjun
    ·rw[getD_set_ne true hjk] at hun;exact hun
   refine wpOp_mono (fun a' w' h3=>?_) h2
   obtain⟨hy',hMK,hrest⟩:=h3
   have hM':M w':=hMK (by
    rw[Array.setIfInBounds_comm _ _ (Ne.symm hji),getD_set_ne false (Ne.symm hKi)]
    exact hKun)
   refine⟨fun _=>hM',ih (listed.setIfInBounds j true) a' w' hcj hfree' (ready_mono hr (Ne.symm hji)) hy' hM' ?_⟩
   rw[Array.setIfInBounds_comm _ _ hji]
   exact hrest
theorem aLF {id:Nat}{ops:List Oper}{a:Act}{w:World}(M:World→Prop)(K:Nat)(hm:P.follows .mixedOrders=true)
  (h:aCu P ops.toArray Q M K ops.length (Array.replicate ops.length false) a w.drew):(Code.region id ops.toArray true).wp P Q a w :=
 wp_region_any hm (aN1 _ _ _ _ (by rw[List.size_toArray];exact h))
theorem aMO {listed:Array Bool}(h:(List.range ops.size).all (fun j=>!listed.getD j false||((ops[j]?).map fun o=>o.after.all fun e=>!Region.binds .any e||listed.getD e.on false).getD true)=true):aM0 ops listed:=by
 intro j oj hj hl e he hb
 have hlt:j<ops.size:=(Array.getElem?_eq_some_iff.1 hj).1
 have h1:=List.all_eq_true.1 h j (List.mem_range.2 hlt)
 simp only[hl,Bool.not_true,Bool.false_or,hj,Option.map_some,Option.getD_some,Array.all_eq_true_iff_forall_mem] at h1
 have h2:=h1 e he
 simpa [hb] using h2
def aL2 (ops:List Oper)(listed:Array Bool)(K i:Nat):Bool :=
 Region.noSelect ops.toArray&&Region.free .any ops.toArray listed i&&(Region.ready .any ops.toArray listed).contains i&&waits ops.toArray ops.length K i&&K != i &&
 listed.size==ops.length&&(List.range ops.length).all (fun j=>!listed.getD j false||((ops.toArray[j]?).map fun o=>o.after.all fun e=>!Region.binds .any e||listed.getD e.on false).getD true)
theorem aAh {ops:List Oper}{i f:Nat}{listed:Array Bool}{o:Oper}{d:Nat}{v:Value}{a:Act}{w:World}{n:Nat}{l:List (Nat × Value)}(hi:ops[i]? = some o)(hg:o.guard=none)(hd:o.dst=some d)
  (hok:aL2 ops listed K i=true) (hQ:∀ c a w,Q (.panic c) (a.put (some d) v) w→Q (.panic c) a w) (hk:Kn n l a) (hdn:Nat.blt d n=true) (hy:∀ w,M w→aDp P o a w v w) (hM:M w)
  (h:∀ a',Kn n ((d,v)::l) a'→aCu P ops.toArray Q M K f (listed.setIfInBounds i true) a' w):aCu P ops.toArray Q M K (f+1) listed a w:=by
 simp only[aL2,Bool.and_eq_true,bne_iff_ne,ne_eq,beq_iff_eq] at hok
 obtain⟨⟨⟨⟨⟨⟨h1,h2⟩,h3⟩,h4⟩,h5⟩,_⟩,h7⟩:=hok
 have hi':ops.toArray[i]? = some o:=by simpa using hi
 refine aJk (v:=v) hi' (Region.noSelect_spec h1) (by rw[hd];exact hQ) h4 h5 f listed a w (aMO (by simpa using h7)) (Region.free_spec hi' h2) (by simpa using h3)
  (.inl ⟨by simp[Region.wanted,hg],hy⟩) hM ?_
 rw[hd]
 exact h _ (hk.put d v hdn)
theorem aAt {ops:List Oper}{k f:Nat}{listed:Array Bool}{o:Oper}{a:Act}{w:World}(hr:Region.ready .any ops.toArray listed=[k])(hi:ops[k]? = some o)(hg:o.guard=none)
  (h:wpList P ops.toArray (Exit.then (fun a' w'=>((listed.setIfInBounds k true).getD K false=false→M w')∧aCu P ops.toArray Q M K f (listed.setIfInBounds k true) a' w') Q) [o] a w) :
  aCu P ops.toArray Q M K (f+1) listed a w:=by
 refine⟨fun h0=>(by rw[hr] at h0;cases h0),fun i hi'=>?_⟩
 rw[hr] at hi'
 have:i=k:=by simpa using hi'
 subst this
 unfold wpOp
 have hi'':ops.toArray[i]? = some o:=by simpa using hi
 simp only[hi'']
 unfold wpList at h
 split at h
 ·rename_i hw
  rw[if_pos hw]
  rcases h with h|h
  ·left
   unfold Oper.wp at *
   generalize (execOp a.eval o).run P w=r at *
   cases r with
   | ok n w' =>
    cases n<;>simp only[Oper.upon] at h ⊢<;>exact h
   | halt x w'=>cases x<;>simp only[Oper.upon] at h ⊢<;>exact h
  ·right
   obtain⟨h1,a0,w0,h0⟩:=h
   exact⟨h1,a0,w0,h0⟩
 ·rename_i hw
  exact absurd (by simp[Region.wanted,hg]) hw
theorem aBh {ops:List Oper}{listed:Array Bool}{a:Act}{w:World}(hr:Region.ready .any ops.toArray listed=[])(h:Q .normal a w):∀ f,aCu P ops.toArray Q M K f listed a w
 | 0=>⟨hr,h⟩
 | _+1=>⟨fun _=>h,by rw[hr];simp⟩
end
end Go.Mk
namespace Go.Mk
open Go
section
variable {P:Program}{ops:Array Oper}{Q:Exit→Act→World→Prop}{rest:List Oper}{a:Act}{w w0:World}{n:Nat}{l:List (Nat × Value)}{X Z:Nat→Prop}{m:List Ent}
variable {d:Nat}{ty:Nat}{ps:String}{af:Array Edge}
theorem oM0 {x:Operand}{v:Value}(hk:Kn n l a)(hx:ev l x=some v)(hd:Nat.blt d n=true)(K:∀ a',Kn n ((d,v)::l) a'→wpList P ops Q rest a' w) :
  wpList P ops Q (⟨some d,.move x,ty,ps,af,none⟩::rest) a w:=aAD hk rfl rfl hd (aA6 hk hx) K
theorem oA0 {x:Operand}{v:Value}(hk:Kn n l a)(hx:ev l x=some v)(hd:Nat.blt d n=true)(K:∀ a',Kn n ((d,v)::l) a'→wpList P ops Q rest a' w) :
  wpList P ops Q (⟨some d,.assign x,ty,ps,af,none⟩::rest) a w:=aAD hk rfl rfl hd (aV2 hk hx) K
theorem oN0 {x:Operand}{p:Addr}(hk:Kn n l a)(hx:ev l x=some (.pointer (some p)))(hd:Nat.blt d n=true)(K:∀ a',Kn n ((d,.pointer (some p))::l) a'→wpList P ops Q rest a' w) :
  wpList P ops Q (⟨some d,.nilCheck x,ty,ps,af,none⟩::rest) a w:=aAD hk rfl rfl hd (aFT hk hx) K
theorem oF0 {x:Operand}{t k o b off:Nat}(hk:Kn n l a)(hf:aAC P t k=some o)(hx:ev l x=some (.pointer (some ⟨b,off,none⟩)))(hd:Nat.blt d n=true)
  (K:∀ a',Kn n ((d,.pointer (some ⟨b,off+o,none⟩))::l) a'→wpList P ops Q rest a' w) :
  wpList P ops Q (⟨some d,.fieldAddr t x k,ty,ps,af,none⟩::rest) a w:=aAD hk rfl rfl hd (rF0 hk hf hx) K
theorem aAq {x:Operand}{t s:Nat}{p:Addr}{v:Value}(hk:Kn n l a)(ht:aCm P t=some (false,s))(hx:ev l x=some (.pointer (some p)))(hc:w.cell? p=some v)(hd:Nat.blt d n=true)
  (K:∀ a',Kn n ((d,v)::l) a'→wpList P ops Q rest a' w) :
  wpList P ops Q (⟨some d,.load t x,ty,ps,af,none⟩::rest) a w:=aAD hk rfl rfl hd (aAL hk ht hx hc) K
theorem aAM {x:Operand}{t b off:Nat}{cs:List Value}(hk:Kn n l a)(ht:aCm P t=some (true,cs.length))(hx:ev l x=some (.pointer (some ⟨b,off,none⟩)))
  (hc:∀ j u,cs[j]? = some u→w.cell? ⟨b,off+j,none⟩=some u) (hd:Nat.blt d n=true) (K:∀ a',Kn n ((d,.agg cs.toArray)::l) a'→wpList P ops Q rest a' w) :
  wpList P ops Q (⟨some d,.load t x,ty,ps,af,none⟩::rest) a w:=aAD hk rfl rfl hd (aBq hk ht hx hc) K
theorem aAx {x y:Operand}{op:BinOp}{t t':Nat}{k:IntKind}{i j:Int}{b:Bool}(hk:Kn n l a)(hx:ev l x=some (.int k i))(hy:ev l y=some (.int k j))(hb:icmp op i j=some b)(hd:Nat.blt d n=true)
  (K:∀ a',Kn n ((d,.bool b)::l) a'→wpList P ops Q rest a' w) :
  wpList P ops Q (⟨some d,.binOp op t x y t',ty,ps,af,none⟩::rest) a w:=aAD hk rfl rfl hd (aZ1 hk hx hy hb) K
theorem aCj {x y:Operand}{op:BinOp}{t t':Nat}{k:IntKind}{i j z c:Int}(hk:Kn n l a)(hx:ev l x=some (.int k i))(hy:ev l y=some (.int k j))(hz:iarith op i j=some z)(hc:k.wrap z=c)(hd:Nat.blt d n=true)
  (K:∀ a',Kn n ((d,.int k c)::l) a'→wpList P ops Q rest a' w) :
  wpList P ops Q (⟨some d,.binOp op t x y t',ty,ps,af,none⟩::rest) a w:=aAD hk rfl rfl hd (aWa hk hx hy hz hc) K
theorem aAG {x:Operand}{s t:Nat}{k k':IntKind}{i c:Int}(hk:Kn n l a)(hs:(P.underlying s).isSome=true)(ht:aH0 P t=some k')(hx:ev l x=some (.int k i))(hc:k'.wrap i=c)(hd:Nat.blt d n=true)
  (K:∀ a',Kn n ((d,.int k' c)::l) a'→wpList P ops Q rest a' w) :
  wpList P ops Q (⟨some d,.convert s t x,ty,ps,af,none⟩::rest) a w:=aAD hk rfl rfl hd (aDR hk (Option.isSome_iff_exists.1 hs) ht hx hc) K
theorem aES {x:Operand}{t:Nat}{b:Bool}(hk:Kn n l a)(hx:ev l x=some (.bool b))(hd:Nat.blt d n=true)(K:∀ a',Kn n ((d,.bool (!b))::l) a'→wpList P ops Q rest a' w) :
  wpList P ops Q (⟨some d,.unOp .not t x,ty,ps,af,none⟩::rest) a w:=aAD hk rfl rfl hd (bB2 hk hx) K
theorem oL0 {x:Operand}{t e k c:Nat}{p:Option Addr}(hk:Kn n l a)(ht:aBA P t=some e)(hx:ev l x=some (.slice p k c))(hd:Nat.blt d n=true)(K:∀ a',Kn n ((d,.int .i64 k)::l) a'→wpList P ops Q rest a' w) :
  wpList P ops Q (⟨some d,.call ⟨.builtin .len,#[x],#[t]⟩,ty,ps,af,none⟩::rest) a w:=aAD hk rfl rfl hd (aN5 hk ht hx) K
theorem oI0 {x i:Operand}{t e k c b off s:Nat}{bl:Bool}{j:Nat}{kk:IntKind}(hk:Kn n l a)(ht:aBA P t=some e)(hs:aCm P e=some (bl,s))(hx:ev l x=some (.slice (some ⟨b,off,none⟩) k c))
  (hi:ev l i=some (.int kk (j:Int))) (hj:j<k) (hd:Nat.blt d n=true) (K:∀ a',Kn n ((d,.pointer (some ⟨b,off+j*s,none⟩))::l) a'→wpList P ops Q rest a' w) :
  wpList P ops Q (⟨some d,.indexAddr t x i,ty,ps,af,none⟩::rest) a w:=aAD hk rfl rfl hd (aA4 hk ht hs hx hi hj) K
theorem aAJ {t:Nat}{z:Value}{parts:List (Nat × Operand)}{zs r:List Value}(hk:Kn n l a)(hz:aBB P t=some z)(hzs:cellsOf z=zs)(hok:aI5 P t=true)(hb:bres (aFh P t) l parts zs r)(hd:Nat.blt d n=true)
  (K:∀ a',Kn n ((d,.agg r.toArray)::l) a'→wpList P ops Q rest a' w) :
  wpList P ops Q (⟨some d,.build t parts.toArray,ty,ps,af,none⟩::rest) a w:=aAD hk rfl rfl hd (aYv hk hz hzs hok hb) K
theorem aXU {o:Oper}(hk:Kn n l a)(hg:∃ j b dj u,o.guard=some (j,b)∧(ops[j]?).bind (·.dst)=some dj∧look l dj=some (.bool u)∧u≠b)(hd:o.dst=some d)(hdn:Nat.blt d n=true)
  (K:∀ a',Kn n ((d,undef)::l) a'→wpList P ops Q rest a' w):wpList P ops Q (o::rest) a w:=by
 obtain⟨j,b,dj,u,h1,h2,h3,h4⟩:=hg
 have hy:yielded ops a.tmps j=some u:=by
  unfold yielded
  have:=hk.at_ _ _ h3
  rw[Array.getD_eq_getD_getElem?] at this
  cases hq:a.tmps[dj]? with
  | none=>rw[hq] at this;simp[undef] at this
  | some x=>rw[hq] at this;simp at this;simp[h2,hq,this]
 have hw:Region.wanted o (yielded ops a.tmps)=false:=by simp[Region.wanted,h1,hy,h4]
 unfold wpList
 rw[if_neg (by simp[hw])]
 rw[hd]
 exact K _ (hk.put d undef hdn)
theorem aAu {o:Oper}{o':Oper}(hk:Kn n l a)(hg:∃ j b dj,o.guard=some (j,b)∧(ops[j]?).bind (·.dst)=some dj∧look l dj=some (.bool b))(ho:o'={ o with guard:=none })
  (h:wpList P ops Q (o'::rest) a w):wpList P ops Q (o::rest) a w:=by
 obtain⟨j,b,dj,h1,h2,h3⟩:=hg
 subst ho
 have hy:yielded ops a.tmps j=some b:=by
  unfold yielded
  have:=hk.at_ _ _ h3
  rw[Array.getD_eq_getD_getElem?] at this
  cases hq:a.tmps[dj]? with
  | none=>rw[hq] at this;simp[undef] at this
  | some x=>rw[hq] at this;simp at this;simp[h2,hq,this]
 unfold wpList at h ⊢
 rw[if_pos (by simp[Region.wanted])] at h
 rw[if_pos (by simp[Region.wanted,h1,hy])]
 exact h
theorem aAI {c x y:Operand}{b:Bool}{v u r:Value}(hk:Kn n l a)(hc:ev l c=some (.bool b))(hx:ev l x=some v)(hy:ev l y=some u)(hr:(if b then v else u)=r)(hd:Nat.blt d n=true)
  (K:∀ a',Kn n ((d,r)::l) a'→wpList P ops Q rest a' w):wpList P ops Q (⟨some d,.pick c x y,ty,ps,af,none⟩::rest) a w:=by
 subst hr;exact aAD hk rfl rfl hd (bAl hk hc hx hy) K
end
section
variable {P:Program}{Q:Exit→Act→World→Prop}{a:Act}{w:World}{n:Nat}{l:List (Nat × Value)}
theorem aC2 {id:Nat}{ops:List Oper}(h:wpList P ops.toArray Q ops a w):(Code.region id ops.toArray false).wp P Q a w:=wp_region_lit h
theorem aAb {ops:Array Oper}(h:Q .normal a w):wpList P ops Q [] a w:=h
theorem cT0 {K:Act→World→Prop}(h:K a w):Exit.then K Q .normal a w:=h
theorem cQ0 {K:Act→World→Prop}(h:Q .ret a w):Exit.then K Q .ret a w:=h
theorem aBd {K:Act→World→Prop}{id:Nat}(h:Q (.exit id) a w):Exit.then K Q (.exit id) a w:=h
theorem aD9 {id:Nat}(h:Q .normal a w):Exit.inBlock id Q (.exit id) a w:=by simpa [Exit.inBlock] using h
theorem cN0 {id:Nat}(h:Q .normal a w):Exit.inBlock id Q .normal a w:=h
theorem aAE {id:Nat}(h:Q .ret a w):Exit.inBlock id Q .ret a w:=h
theorem aEm {c:Operand}{x y:Code}(hk:Kn n l a)(hc:ev l c=some (.bool true))(h:x.wp P Q a w):(Code.cond c x y).wp P Q a w:=wp_cond_true (hk.eval hc) h
theorem aB9 {c:Operand}{x y:Code}(hk:Kn n l a)(hc:ev l c=some (.bool false))(h:y.wp P Q a w):(Code.cond c x y).wp P Q a w:=wp_cond_false (hk.eval hc) h
theorem aAA {c:Operand}{x y:Code}{b:Bool}(hk:Kn n l a)(hc:ev l c=some (.bool b))(ht:b=true→x.wp P Q a w)(hf:b=false→y.wp P Q a w):(Code.cond c x y).wp P Q a w:=wp_cond_split (hk.eval hc) ht hf
theorem aMm:∀ {l:List (Nat × Value)} {s:Nat} {v:Value},look l s=some v→(s,v) ∈ l
 | [],s,v,h=>by simp[look] at h
 | (k,u)::r,s,v,h=>by
  simp only[look] at h
  cases hq:Nat.beq s k with
  | true =>
   rw[hq] at h
   have:=Nat.eq_of_beq_eq_true hq
   subst this
   simp only[Option.some.injEq] at h
   subst h
   exact List.mem_cons_self
  | false=>rw[hq] at h;exact List.mem_cons_of_mem _ (aMm h)
theorem Kn.weakenL {l':List (Nat × Value)}(h:Kn n l a)(hs:∀ s v,look l' s=some v→look l s=some v):Kn n l' a:=⟨h.defers,h.size,fun s v hv=>h.at_ s v (hs s v hv)⟩
theorem lkN {k s:Nat}{u:Value}(h:s≠k):look ((k,u)::l) s=look l s:=by
 have:Nat.beq s k=false:=by
  cases hq:Nat.beq s k with
  | false=>rfl
  | true=>exact absurd (Nat.eq_of_beq_eq_true hq) h
 simp[look,this]
theorem lkS {k:Nat}{u:Value}:look ((k,u)::l) k=some u:=by simp[look]
theorem Kn.tail {k:Nat}{u:Value}(h:Kn n ((k,u)::l) a)(hne:look l k=none):Kn n l a:=h.weakenL fun s v hv=>by
 rw[lkN]
 ·exact hv
 ·intro e;subst e;rw[hne] at hv;cases hv
def aMK (n i ln t c N k id:Nat)(R:Nat→List (Nat × Value)→World→Prop)(Q:Exit→Act→World→Prop):Exit→Act→World→Prop
 | .normal,a',w'=>∃ L',Kn n ((i,.int .i64 k)::(ln,.int .i64 N)::L') a'∧(∀ p ∈ L',Nat.beq p.1 t=false∧Nat.beq p.1 c=false∧Nat.beq p.1 i=false)∧R (k+1) L' w'
 | e,a',w'=>Exit.inBlock id Q e a' w'
def aHD (t c i:Nat):List (Nat × Value)→Bool
 | []=>true
 | p::r=>(!Nat.beq p.1 t&&!Nat.beq p.1 c&&!Nat.beq p.1 i)&&aHD t c i r
theorem aIR {t c i:Nat}:∀ {L:List (Nat × Value)},aHD t c i L=true→∀ p ∈ L,Nat.beq p.1 t=false∧Nat.beq p.1 c=false∧Nat.beq p.1 i=false
 | [],_,p,hp=>by cases hp
 | q::r,h,p,hp=>by
  simp only[aHD,Bool.and_eq_true,Bool.not_eq_true'] at h
  rcases List.mem_cons.1 hp with rfl|hp
  ·exact⟨h.1.1.1,h.1.1.2,h.1.2⟩
  ·exact aIR h.2 p hp
theorem aBb {i ln t c N k id:Nat}{R:Nat→List (Nat × Value)→World→Prop}{L':List (Nat × Value)}(hk:Kn n l a)(hs:looks l ((i,.int .i64 k)::(ln,.int .i64 N)::L'))(hb:aHD t c i L'=true)(h:R (k+1) L' w) :
  aMK n i ln t c N k id R Q .normal a w:=⟨L',hk.sub hs,aIR hb,h⟩
theorem aA7 {i ln t c N k id:Nat}{R:Nat→List (Nat × Value)→World→Prop}(h:Q .ret a w):aMK n i ln t c N k id R Q .ret a w:=h
theorem aCF {id idb c i ln t:Nat}{body:Code}{t1 t2 t3 t4 t5 t6:Nat}{p1 p2 p3:String}{af1 af2 af3:Array Edge}{L0:List (Nat × Value)}(N:Nat)(hN:N<4611686018427387904)(R:Nat→List (Nat × Value)→World→Prop)
  (hk:Kn n ((i,.int .i64 0)::(ln,.int .i64 N)::L0) a) (h0:R 0 L0 w)
  (hcn:Nat.blt c n=true) (hin:Nat.blt i n=true) (htn:Nat.blt t n=true) (h1:Nat.beq i c=false) (h2:Nat.beq ln c=false) (h3:Nat.beq ln i=false) (h5:Nat.beq ln t=false)
  (hbody:∀ k L a w,k<N→R k L w→Kn n ((c,.bool true)::(i,.int .i64 k)::(ln,.int .i64 N)::L) a →
   body.wp P (Exit.inBlock idb (aMK n i ln t c N k id R Q)) a w)
  (hL0':aHD t c i L0=true)
  (hend:∀ L a w,R N L w→Kn n ((i,.int .i64 N)::(ln,.int .i64 N)::L) a→Q .normal a w) :
  (Code.block id (.loop (.seq (.region t1 [⟨some c,.binOp .lss t2 (.tmp i) (.tmp ln) t3,t4,p1,af1,none⟩].toArray false)
   (.seq (.cond (.tmp c) .skip (.exit id)) (.seq (.block idb body)
    (.region t5 [⟨some t,.binOp .add t2 (.tmp i) (.const (.int .i64 1)) t3,t6,p2,af2,none⟩,⟨some i,.move (.tmp t),t6,p3,af3,none⟩].toArray false)))))).wp P Q a w:=by
 have hL0:=aIR hL0'
 have ne:∀ {x y:Nat},Nat.beq x y=false→x≠y:=fun h e=>by subst e;simp at h
 refine wp_block ?_
 refine wp_loop_ghost (fun g a w=>∃ k L,g=N - k∧k≤N∧R k L w∧Kn n ((i,.int .i64 k)::(ln,.int .i64 N)::L) a∧∀ p ∈ L,Nat.beq p.1 t=false∧Nat.beq p.1 c=false∧Nat.beq p.1 i=false) N
  ⟨0,L0,by omega,Nat.zero_le _,h0,hk,hL0⟩ ?_
 rintro g a w ⟨k,L,rfl,hkN,hR,hk,hL⟩
 refine cR0 ?_
 have li:look ((i,.int .i64 k)::(ln,.int .i64 N)::L) i=some (.int .i64 (k:Int)):=by simp[look]
 have ll:look ((i,.int .i64 k)::(ln,.int .i64 N)::L) ln=some (.int .i64 (N:Int)):=by simp[look,h3]
 refine aAx (b:=decide ((k:Int)<(N:Int))) hk li ll rfl hcn fun a hk=>?_
 refine cE0 ?_
 refine wp_seq ?_
 by_cases hlt:k<N
 ·have hd:decide ((k:Int)<(N:Int))=true:=by simp;omega
  rw[hd] at hk
  refine aEm hk (by simp[ev,look]) ?_
  refine wp_skip ?_
  refine wp_seq ?_
  refine wp_block ?_
  refine Code.wp_mono ?_ (hbody k L a w hlt hR hk)
  intro e a' w' h
  have fin:∀ (L':List (Nat × Value)),Kn n ((i,.int .i64 k)::(ln,.int .i64 N)::L') a'→(∀ p ∈ L',Nat.beq p.1 t=false∧Nat.beq p.1 c=false∧Nat.beq p.1 i=false)→R (k+1) L' w' →
    (Code.region t5 [⟨some t,.binOp .add t2 (.tmp i) (.const (.int .i64 1)) t3,t6,p2,af2,none⟩,⟨some i,.move (.tmp t),t6,p3,af3,none⟩].toArray false).wp P
     (Exit.then (fun a' w'=>∃ n',n'<N - k∧∃ k L,n'=N - k∧k≤N∧R k L w'∧Kn n ((i,.int .i64 k)::(ln,.int .i64 N)::L) a'∧∀ p ∈ L,Nat.beq p.1 t=false∧Nat.beq p.1 c=false∧Nat.beq p.1 i=false) (Exit.inBlock id Q)) a' w':=by
   intro L' hk' hL' hR'
   refine aC2 ?_
   refine aCj (i:=(k:Int)) (j:=1) (z:=(k:Int)+1) (c:=((k+1:Nat):Int)) hk' lkS rfl rfl (by rw[IntWalk.i64_in _ (by omega)];omega) htn fun a hk=>?_
   refine oM0 (v:=.int .i64 ((k+1:Nat):Int)) hk lkS hin fun a hk=>?_
   refine aAb ?_
   refine⟨N - (k+1),by omega,k+1,L',rfl,by omega,hR',?_,hL'⟩
   refine hk.weakenL fun s v hv=>?_
   by_cases hsi:s=i
   ·subst hsi;rw[lkS] at hv ⊢;exact hv
   ·rw[lkN hsi] at hv ⊢
    by_cases hsl:s=ln
    ·subst hsl;rw[lkS] at hv;rw[lkN (ne h5),lkN hsi,lkS];exact hv
    ·rw[lkN hsl] at hv
     have h6:=hL' _ (aMm hv)
     rw[lkN (ne h6.1),lkN hsi,lkN hsl]
     exact hv
  cases e with
  | normal=>obtain⟨L',hk',hL',hR'⟩:=h;exact fin L' hk' hL' hR'
  | exit id' =>
   simp only[Exit.inBlock] at h ⊢
   split at h
   ·rename_i he;subst he;rw[if_pos rfl];obtain⟨L',hk',hL',hR'⟩:=h;exact fin L' hk' hL' hR'
   ·rename_i he;rw[if_neg he];exact h
  | goto l=>exact h
  | ret=>exact h
  | panic ch=>exact h
  | outgrown=>exact h
 ·have hkN':k=N:=by omega
  subst hkN'
  have hd:decide ((k:Int)<(k:Int))=false:=by simp
  rw[hd] at hk
  refine aB9 hk (by simp[ev,look]) ?_
  refine wp_exit ?_
  refine aBd (aBd (aD9 (hend L a w hR (hk.tail ?_))))
  rw[lkN (Ne.symm (ne h1)),lkN (Ne.symm (ne h2))]
  cases hq:look L c with
  | none=>rfl
  | some v=>have:=(hL _ (aMm hq)).2.1;simp at this
theorem bT0 {fn:Func}{t:Nat}{v:Value}{R:Value→World→Prop}(hr:fn.results=#[.tmp t])(hk:Kn n l a)(hv:look l t=some v)(h:R v w) :
  bodyPost P fn (fun e w'=>∃ v,e=.returned v∧R v w') .ret a w:=bodyPost_ret (by rw[results_tmp hr,hk.at_ t v hv]) hk.defers ⟨v,rfl,h⟩
theorem aG6 {fn:Func}{t u:Nat}{v v':Value}{R:Value→World→Prop}(hr:fn.results=#[.tmp t,.tmp u])(hk:Kn n l a)(hv:look l t=some v)(hv':look l u=some v')(h:R (.tuple #[v,v']) w) :
  bodyPost P fn (fun e w'=>∃ v,e=.returned v∧R v w') .ret a w:=bodyPost_ret (by rw[results_tmp2 hr,hk.at_ t v hv,hk.at_ u v' hv']) hk.defers ⟨_,rfl,h⟩
theorem aUa {fn:Func}{R:Value→World→Prop}(hr:fn.results=#[])(hk:Kn n l a)(h:R (.tuple #[]) w) :
  bodyPost P fn (fun e w'=>∃ v,e=.returned v∧R v w') .ret a w:=bodyPost_ret (results_none hr _ _ _) hk.defers ⟨_,rfl,h⟩
theorem aB4 {fn:Func}{R:Value→World→Prop}(hr:fn.results=#[])(hk:Kn n l a)(h:R (.tuple #[]) w) :
  bodyPost P fn (fun e w'=>∃ v,e=.returned v∧R v w') .normal a w:=bodyPost_end (results_none hr _ _ _) hk.defers ⟨_,rfl,h⟩
theorem aDf {w0:World}{X Z:Nat→Prop}{m:List Ent}{fn:Func}{s t i b e:Nat}{cs:List Value}{R:Value→World→Prop}(hr:fn.results=#[.cell s t])(ht:aCm P t=some (true,cs.length))
  (hk:Kn n l a) (hm:Mem w0 X Z m w) (hv:look l s=some (.pointer (some ⟨b,0,none⟩))) (hi:aBi m i=some (.blk b cs e)) (h:R (.agg cs.toArray) w) :
  bodyPost P fn (fun e w'=>∃ v,e=.returned v∧R v w') .ret a w:=by
 refine bodyPost_ret (v:=.agg cs.toArray) ?_ hk.defers ⟨_,rfl,h⟩
 have hc:=aEP (P:=P) (w:=w) (b:=b) (off:=0) (cs:=cs) (fun j u hj=>hm.cell_blk hi (by rw[Nat.zero_add];exact hj))
 have hs:a.tmps[s]?.getD undef=.pointer (some ⟨b,0,none⟩):=by rw[← Array.getD_eq_getD_getElem?];exact hk.at_ s _ hv
 simp[results,hr,hs,asAddr,loadVar,aJV ht,aCw ht,hc]
end
end Go.Mk
namespace Go.Mk
open Go
theorem aKo {w:World}{Y:Nat→Prop}{t:T}{x1 x2 x3 x4 x5:Value}(h:Rep w Y (ddT t) [x1,x2,x3,x4,x5]) :
  x1=.int .i64 t.n∧Rep w Y (aDJ t.s) [x2]∧x3=.bool t.z∧Rep w Y (.sl false 5 (t.l.map ddT)) [x4]∧Rep w Y (aBR t.u) [x5]:=by
 obtain⟨cs,cl,cu,he,h1,h2,h3⟩:=aSV h
 simp only[List.cons.injEq,and_true] at he
 obtain⟨rfl,rfl,rfl,rfl,rfl⟩:=he
 exact⟨rfl,h1,rfl,h2,h3⟩
theorem aBa {w:World}{Y:Nat→Prop}{st:Bool}{esz:Nat}{l:List DD}{p:Option Addr}{k c:Nat}(h:Rep w Y (.sl st esz l) [.slice p k c]){j:Nat}{d:DD}(hj:l[j]? = some d) :
  j<k∧∃ b off cs,p=some ⟨b,off,none⟩∧cs.length=esz∧Rep w Y d cs∧Cel w Y b (off+j*esz) cs:=by
 rcases aLZ h with ⟨rfl,_⟩|⟨b,off,cap,cs,h1,h2,h3,h4⟩
 ·simp at hj
 ·simp only[Value.slice.injEq] at h1
  obtain⟨rfl,rfl,rfl⟩:=h1
  obtain⟨h5,h6⟩:=h4.get hj
  refine⟨(List.getElem?_eq_some_iff.1 hj).1,b,off,_,rfl,h5,h6,?_⟩
  intro i u hi
  rw[List.getElem?_take] at hi
  split at hi
  ·rw[List.getElem?_drop] at hi
   rw[Nat.add_assoc]
   exact h3 _ u hi
  ·cases hi
theorem aBw {α β : Type}(f : α→β)(l:List α)(i:Nat)(d : α)(h:i<l.length):(l.map f)[i]? = some (f (l.getD i d)):=by
 simp[h]
theorem Cel.at_ {w:World}{Y:Nat→Prop}{b off:Nat}{cs:List Value}(h:Cel w Y b off cs):∀ j u,cs[j]? = some u→w.cell? ⟨b,off+j,none⟩=some u:=fun j u hj=>(h j u hj).2
theorem Mem.yof {w0:World}{Z:Nat→Prop}{m:List Ent}{w':World}{d:DD}{c:List Value}(hr:Rep w' (Yof w0 Z m) d c):Rep w' (fun b=>b<w0.heap.size∧Z b) d c :=
 Rep.move (fun _ _ hy=>⟨rfl,fun hz=>hy (.inl hz)⟩) d c hr
theorem aJG {w:World}{Y:Nat→Prop}{st:Bool}{e:Nat}{l:List DD}{c:List Value}(h:Rep w Y (.sl st e l) c):aBP c=true:=by
 simp only[Rep] at h
 rcases h with ⟨_,p,h,_⟩|⟨b,off,cap,cs,h,_⟩<;>subst h<;>rfl
theorem aEK {w:World}{Y:Nat→Prop}{t:T}{c:List Value}(h:Rep w Y (ddT t) c):aBP c=true:=by
 obtain⟨cs,cl,cu,rfl,h1,h2,h3⟩:=aSV h
 have e1:=aJG h1
 have e2:=aJG h2
 have e3:=aJG h3
 simp only[aBP,Bool.and_true] at e1 e2 e3 ⊢
 rw[e1,e2,e3]
 rfl
end Go.Mk
namespace Go.Mk
open Go
section
variable {P:Program}{w:World}
theorem aOR {t tx ty e:TypeId}{i:TypeInfo}{z:Value}(ht:P.underlying t=some (.slice e))(hi:P.info? e=some i)(hz:i.zero=some z)(hzs:z.cells.size=i.size)
  {v:Value} {n:Nat} {xs:List Value} (hown:w.ownsRow 0 e i.size v n xs) {x:Value} {m:Nat} {news:List Value} (hs:Src P i.size tx x m news w)
  (h63:n+m≤maxLen) (hbytes:(n+m)*i.bytes≤140737488355328) :
  ∃ v' w',(Builtin.append_ #[t,tx] ty #[v,x]).run P w=.ok v' w'∧w'.ownsRow 0 e i.size v' (n+m) (xs++news)∧Agr (fun k=>v.ownBlock=some k) w w' ∧
   (∀ k,v'.ownBlock=some k→v.ownBlock=some k∨w.heap.size≤k)∧(v'=.slice none 0 0 ↔ v=.slice none 0 0∧m=0):=by
 have hsmall:((n+m:Nat):Int)≤9223372036854775807:=by simp only[maxLen] at h63;omega
 have hlen:(xs++news).length=(n+m)*i.size:=by rw[List.length_append,hown.1,hs.newsLen,Nat.add_mul]
 have grow:∀ (base:Option Addr) (old:Nat),(Builtin.firstCells i.size n (.slice base n old)).run P w.drew=.ok xs.toArray w.drew→old<n+m→v=.slice base n old →
   ∃ v' w',(Builtin.append_ #[t,tx] ty #[v,x]).run P w=.ok v' w'∧w'.ownsRow 0 e i.size v' (n+m) (xs++news)∧Agr (fun k=>v.ownBlock=some k) w w' ∧
   (∀ k,v'.ownBlock=some k→v.ownBlock=some k∨w.heap.size≤k)∧(v'=.slice none 0 0 ↔ v=.slice none 0 0∧m=0):=by
  intro base old hold hlt hv
  subst hv
  have hr:=run_append_grow_src (P:=P) (w:=w) t tx ty e i z ht hi hz base n old xs hold x m news hs hlt hsmall (growslice_fits hlt hbytes)
  refine⟨_,_,hr,⟨hlen,.inr ⟨w.heap.size,_,_,rfl,Nat.zero_le _,heap_alloc_new w.drew _,grownCap_ge w (n+m) old e,grownCap_le_maxLen w (n+m) old e h63,?_,?_⟩⟩,?_,?_,?_⟩
  ·have hge:=grownCap_ge w (n+m) old e
   simp only[Array.size_append,List.size_toArray,size_zeroCells,hzs,hlen,← Nat.add_mul]
   congr 1
   omega
  ·simp only[Array.toList_append]
   rw[← hlen]
   exact List.take_left
  ·exact (Agr.drew _ w).trans (Agr.alloc _ w.drew _) (fun _ _ h=>h) (fun _ _ h=>h)
  ·intro k hk
   simp only[Value.ownBlock,Option.some.injEq] at hk
   exact .inr (by omega)
  ·constructor
   ·intro h;simp at h
   ·rintro ⟨h1,rfl⟩
    simp only[Value.slice.injEq] at h1
    omega
 rcases hown.2 with ⟨rfl,rfl⟩|⟨g,cap,cur,rfl,_,hg,hnc,hcm,hcs,htake⟩
 ·have hx:xs=[]:=List.eq_nil_of_length_eq_zero (by simpa using hown.1)
  subst hx
  by_cases hm:m=0
  ·subst hm
   have hn:news=[]:=List.eq_nil_of_length_eq_zero (by simpa using hs.newsLen)
   subst hn
   refine⟨.slice none 0 0,w,?_,by simpa using World.ownsRow_nil w 0 e i.size,Agr.refl _ _,by simp[Value.ownBlock],by simp⟩
   rcases hs.kind with ⟨e',hk⟩|hk<;>simp[Builtin.append_,run_underlying ht,run_underlying hk,sizeOf,typeInfo,hi,hs.len,hs.cells]
  ·exact grow none 0 (run_firstCells_none w.drew i.size 0 0 0) (by omega) rfl
 ·by_cases hroom:n+m≤cap
  ·have hfit:n*i.size+news.length≤cur.size:=by rw[hs.newsLen,hcs,← Nat.add_mul];exact Nat.mul_le_mul_right _ hroom
   have hst:=run_storeCells_at P g (n*i.size) e news 0 cur w hg (by simpa using hfit) hs.one
   simp only[Nat.add_zero] at hst
   refine⟨.slice (some ⟨g,0,none⟩) (n+m) cap,w.setRow g (cur.toList.take (n*i.size)++news++cur.toList.drop (n*i.size+news.length)).toArray,?_,
    ⟨hlen,.inr ⟨g,cap,_,rfl,Nat.zero_le _,setRow_heap w g cur _ e _ hg,hroom,hcm,?_,?_⟩⟩,?_,?_,by simp⟩
   ·rcases hs.kind with ⟨e',hk⟩|hk<;>simp[Builtin.append_,run_underlying ht,run_underlying hk,sizeOf,typeInfo,hi,hs.len,hroom,hs.cells,Addr.add_lit,hst]
   ·simp only[List.size_toArray,List.length_append,List.length_take,List.length_drop,Array.length_toList]
    omega
   ·rw[htake,← hlen]
    exact List.take_left
   ·exact (aIl w g _).mono fun k _ hk=>by simp[Value.ownBlock,hk]
   ·intro k hk;exact .inl hk
  ·refine grow (some ⟨g,0,none⟩) cap ?_ (by omega) rfl
   have holds:∀ j u,xs[j]? = some u→w.cell? ((⟨g,0,none⟩ : Addr).add j)=some u:=hown.cells (g:=g) rfl
   exact run_firstCells_some (P:=P) w.drew i.size n ⟨g,0,none⟩ n cap xs hown.1 (by simpa using holds)
end
def aGN (P:Program)(t:Nat):Option (Nat × Nat × Nat) :=
 match P.underlying t with
 | some (.slice e)=>match P.info? e with
  | some i=>match i.zero with
   | some z=>match Nat.beq z.cells.size i.size with
    | true=>some (e,i.size,i.bytes)
    | false=>none
   | none=>none
  | none=>none
 | _=>none
theorem aF2 {P:Program}{t e sz by_:Nat}(h:aGN P t=some (e,sz,by_)):∃ i z,P.underlying t=some (.slice e)∧P.info? e=some i∧i.zero=some z∧z.cells.size=i.size∧i.size=sz∧i.bytes=by_:=by
 unfold aGN at h
 split at h
 ·rename_i e' hu
  split at h
  ·rename_i i hi
   split at h
   ·rename_i z hz
    split at h
    ·rename_i hb
     simp only[Option.some.injEq,Prod.mk.injEq] at h
     obtain⟨rfl,rfl,rfl⟩:=h
     exact⟨i,z,hu,hi,hz,Nat.eq_of_beq_eq_true hb,rfl,rfl⟩
    ·cases h
   ·cases h
  ·cases h
 ·cases h
theorem Mem.rowStep {w0 w w':World}{X Z:Nat→Prop}{m:List Ent}(h:Mem w0 X Z m w){i e sz n n':Nat}{v v':Value}{xs xs':List Value}(hi:aBi m i=some (.row e sz v n xs))
  (hp:Agr (fun k=>v.ownBlock=some k) w w') (hr:w'.ownsRow 0 e sz v' n' xs') (hb:∀ k,v'.ownBlock=some k→v.ownBlock=some k∨w.heap.size≤k):Mem w0 X Z (aBn m i (.row e sz v' n' xs')) w':=by
 have hsub:∀ {m:List Ent} {i:Nat} {e:Ent} {e':Ent} {b:Nat},aBi m i=some e→b ∈ muts (aBn m i e')→b ∈ e'.mut∨b ∈ muts m:=by
  intro m
  induction m with
  | nil=>intro i e e' b h _;simp[aBi] at h
  | cons x r ih =>
   intro i e e' b h hb
   cases i with
   | zero =>
    simp only[aBn,muts,List.mem_append] at hb ⊢
    rcases hb with hb|hb
    ·exact .inl hb
    ·exact .inr (.inr hb)
   | succ i =>
    simp only[aBn,muts,List.mem_append] at hb ⊢
    rcases hb with hb|hb
    ·exact .inr (.inl hb)
    ·rcases ih (e:=e) h hb with hb|hb
     ·exact .inl hb
     ·exact .inr (.inr hb)
 have hnew:∀ k ∈ (Ent.row e sz v' n' xs').mut,v.ownBlock=some k∨w.heap.size≤k:=fun k hk=>hb k (by simpa [Ent.mut] using hk)
 have hold:∀ k,v.ownBlock=some k→k ∈ muts m:=fun k hk=>aBI (eA0 hi) (by simp[Ent.mut,hk])
 have hlt':∀ k ∈ (Ent.row e sz v' n' xs').mut,k<w'.heap.size:=fun k hk=>(hr.lt k (by simpa [Ent.mut] using hk)).2
 have hnd:∀ {m:List Ent} {i:Nat},(muts m).Nodup→aBi m i=some (.row e sz v n xs)→(∀ b ∈ muts m,b<w.heap.size)→(muts (aBn m i (.row e sz v' n' xs'))).Nodup:=by
  intro m
  induction m with
  | nil=>intro i _ h _;simp[aBi] at h
  | cons x r ih =>
   intro i hn h hl
   have one:(Ent.row e sz v' n' xs').mut.Nodup:=by simp only[Ent.mut];cases v'.ownBlock<;>simp
   cases i with
   | zero =>
    simp only[aBi,Option.some.injEq] at h
    subst h
    simp only[aBn,muts,List.nodup_append] at hn ⊢
    refine⟨one,hn.2.1,?_⟩
    intro a ha b hb' hab
    subst hab
    rcases hnew a ha with h1|h1
    ·exact hn.2.2 a (by simp[Ent.mut,h1]) a hb' rfl
    ·have:=hl a (by simp only[muts,List.mem_append];exact .inr hb');omega
   | succ i =>
    simp only[aBn,muts,List.nodup_append] at hn ⊢
    refine⟨hn.1,ih hn.2.1 h (fun b hb'=>hl b (by simp only[muts,List.mem_append];exact .inr hb')),?_⟩
    intro a ha b hb' hab
    subst hab
    rcases hsub (m:=r) h hb' with h1|h1
    ·rcases hnew a h1 with h2|h2
     ·exact hn.2.2 a ha a (aBI (eA0 (m:=r) h) (by simp[Ent.mut,h2])) rfl
     ·have:=hl a (by simp only[muts,List.mem_append];exact .inl ha);omega
    ·exact hn.2.2 a ha a h1 rfl
 refine⟨h.agr.trans hp (fun _ _ x=>x) (fun k hk hkb=>(h.own k (hold k hkb)).2 hk),h.sub,hnd h.nodup hi (fun b hb'=>(h.own b hb').1),?_,?_⟩
 ·intro b hb'
  rcases hsub hi hb' with h1|h1
  ·refine⟨hlt' b h1,fun hb0=>?_⟩
   rcases hnew b h1 with h2|h2
   ·exact (h.own b (hold b h2)).2 hb0
   ·exact absurd hb0 (Nat.not_lt.2 (Nat.le_trans h.agr.size h2))
  ·exact⟨Nat.lt_of_lt_of_le (h.own b h1).1 hp.size,(h.own b h1).2⟩
 ·intro x hx
  rcases aFC hx with rfl|⟨j,hji,hj⟩
  ·exact hr
  ·have hxm:=eA0 hj
   refine Ent.holds_move (fun k hk hyk=>⟨hp.block k hk (fun hkb=>hyk (.inr (hold k hkb))),?_⟩) (h.all x hxm) (fun k hk=>?_)
   ·rintro (hz|hz)
    ·exact hyk (.inl hz)
    ·rcases hsub hi hz with h1|h1
     ·rcases hnew k h1 with h2|h2
      ·exact hyk (.inr (hold k h2))
      ·omega
     ·exact hyk (.inr h1)
   ·exact hp.block k (h.own k (aBI hxm hk)).1 (fun hkb=>aEt h.nodup (Ne.symm hji) hi hj k (by simp[Ent.mut,hkb]) hk)
section
variable {P:Program}{ops:Array Oper}{Q:Exit→Act→World→Prop}{rest:List Oper}{a:Act}{w w0:World}{n:Nat}{l:List (Nat × Value)}{X Z:Nat→Prop}{m:List Ent}
variable {d:Nat}{ty:Nat}{ps:String}{af:Array Edge}
theorem aBs {s x:Operand}{t tx e sz by_ i k mm:Nat}{v xv:Value}{xs news:List Value}(hk:Kn n l a)(hm:Mem w0 X Z m w)(ht:aGN P t=some (e,sz,by_))(hs:ev l s=some v)(hrow:aBi m i=some (.row e sz v k xs))
  (hx:ev l x=some xv) (hsrc:Src P sz tx xv mm news w) (h63:k+mm≤maxLen) (hb:(k+mm)*by_≤140737488355328) (hd:Nat.blt d n=true)
  (K:∀ a' v' w',Kn n ((d,v')::l) a'→Mem w0 X Z (aBn m i (.row e sz v' (k+mm) (xs++news))) w'→(v'=.slice none 0 0 ↔ v=.slice none 0 0∧mm=0)→wpList P ops Q rest a' w') :
  wpList P ops Q (⟨some d,.call ⟨.builtin .append,#[s,x],#[t,tx]⟩,ty,ps,af,none⟩::rest) a w:=by
 obtain⟨ii,z,h1,h2,h3,h4,rfl,rfl⟩:=aF2 ht
 have hown:=hm.all _ (eA0 hrow)
 obtain⟨v',w',hr,hro,hag,hob,hnil⟩:=aOR (ty:=ty) h1 h2 h3 h4 hown hsrc h63 hb
 refine aAD (v:=v') (w':=w') hk rfl rfl hd ?_ fun a' hk'=>K a' _ _ hk' (hm.rowStep hrow hag hro hob) hnil
 unfold aDp execOp
 simp[resolve,invoke,builtin,hk.eval hs,hk.eval hx,hr]
theorem aDP {t e b off k c sz:Nat}{news:List Value}(ht:aBA P t=some e)(hl:news.length=k*sz)(hc:∀ j u,news[j]? = some u→w.cell? ⟨b,off+j,none⟩=some u)(h1:aBP news=true) :
  Src P sz t (.slice (some ⟨b,off,none⟩) k c) k news w :=
 Src.ofSlice w (aCi ht) ⟨b,off,none⟩ k c news hl (fun j u hj=>by rw[Addr.add_lit];exact hc j u hj) (aDN h1)
theorem aTX {t e c sz:Nat}(ht:aBA P t=some e):Src P sz t (.slice none 0 c) 0 [] w:=Src.ofNil w (aCi ht) c
end
end Go.Mk
namespace Go.Mk
open Go
def aLG (P:Program)(t:Nat):Bool:=match P.underlying t with|some .string=>true|_=>false
theorem aMM {P:Program}{t:Nat}(h:aLG P t=true):P.underlying t=some .string:=by
 unfold aLG at h
 split at h
 ·assumption
 ·cases h
section
variable {P:Program}{ops:Array Oper}{Q:Exit→Act→World→Prop}{rest:List Oper}{a:Act}{w w0:World}{n:Nat}{l:List (Nat × Value)}{X Z:Nat→Prop}{m:List Ent}
variable {d:Nat}{ty:Nat}{ps:String}{af:Array Edge}{dd:Option Nat}{g:Option (Nat × Bool)}
theorem bBS {x:Operand}{t t' s:Nat}{k yk:IntKind}{i c:Int}(hk:Kn n l a)(hx:ev l x=some (.int k i))(hs:Nat.ble s k.bits=true)(hc:i/2 ^ s=c)(hd:Nat.blt d n=true)
  (K:∀ a',Kn n ((d,.int k c)::l) a'→wpList P ops Q rest a' w) :
  wpList P ops Q (⟨some d,.binOp .shr t x (.const (.int yk (s:Int))) t',ty,ps,af,none⟩::rest) a w:=by
 refine aAD hk rfl rfl hd ?_ K
 subst hc
 have hs':=Nat.le_of_ble_eq_true hs
 unfold aDp execOp
 have h1 : ¬ ((s:Int)<0):=by omega
 have h2:min (s:Int).toNat k.bits=s:=by simp;omega
 have hy:a.eval (.const (.int yk (s:Int)))=.int yk (s:Int):=rfl
 simp only[Sem.run_bind,hk.eval hx,hy,eqGuard_at_int,Sem.run_pure,Result.andThen_ok,binOp,Op.shift,if_neg h1,h2]
 rw[Int.fdiv_eq_ediv_of_nonneg _ (Int.pow_nonneg (by decide))]
theorem aQ9 {x:Operand}{t t' s:Nat}{k yk:IntKind}{i c:Int}(hk:Kn n l a)(hx:ev l x=some (.int k i))(hs:Nat.ble s k.bits=true)(hc:k.wrap (i*2 ^ s)=c)(hd:Nat.blt d n=true)
  (K:∀ a',Kn n ((d,.int k c)::l) a'→wpList P ops Q rest a' w) :
  wpList P ops Q (⟨some d,.binOp .shl t x (.const (.int yk (s:Int))) t',ty,ps,af,none⟩::rest) a w:=by
 refine aAD hk rfl rfl hd ?_ K
 subst hc
 have hs':=Nat.le_of_ble_eq_true hs
 unfold aDp execOp
 have h1 : ¬ ((s:Int)<0):=by omega
 have h2:min (s:Int).toNat k.bits=s:=by simp;omega
 have hy:a.eval (.const (.int yk (s:Int)))=.int yk (s:Int):=rfl
 simp only[Sem.run_bind,hk.eval hx,hy,eqGuard_at_int,Sem.run_pure,Result.andThen_ok,binOp,Op.shift,if_neg h1,h2]
def ibits:BinOp→IntKind→Int→Int→Option Int
 | .and,k,x,y=>some (k.wrap (BitVec.ofInt k.bits x &&& BitVec.ofInt k.bits y).toNat)
 | .or,k,x,y=>some (k.wrap (BitVec.ofInt k.bits x ||| BitVec.ofInt k.bits y).toNat)
 | .xor,k,x,y=>some (k.wrap (BitVec.ofInt k.bits x ^^^ BitVec.ofInt k.bits y).toNat)
 | _,_,_,_=>none
theorem aDc {x y:Operand}{op:BinOp}{t t':Nat}{k:IntKind}{i j c:Int}(hk:Kn n l a)(hx:ev l x=some (.int k i))(hy:ev l y=some (.int k j))(hc:ibits op k i j=some c)(hd:Nat.blt d n=true)
  (K:∀ a',Kn n ((d,.int k c)::l) a'→wpList P ops Q rest a' w) :
  wpList P ops Q (⟨some d,.binOp op t x y t',ty,ps,af,none⟩::rest) a w:=by
 refine aAD hk rfl rfl hd ?_ K
 unfold aDp execOp
 simp only[Sem.run_bind,hk.eval hx,hk.eval hy,eqGuard_at_int,Sem.run_pure,Result.andThen_ok]
 cases op<;>simp only[ibits,Option.some.injEq,reduceCtorEq] at hc<;>subst hc<;>simp[binOp,Op.intBits]
theorem bBh {x y:Operand}{t t':Nat}{k:IntKind}{i j c:Int}(hk:Kn n l a)(hx:ev l x=some (.int k i))(hy:ev l y=some (.int k j))(h0:j≠0)(hc:i.tmod j=c)(hd:Nat.blt d n=true)
  (K:∀ a',Kn n ((d,.int k c)::l) a'→wpList P ops Q rest a' w) :
  wpList P ops Q (⟨some d,.binOp .rem t x y t',ty,ps,af,none⟩::rest) a w:=by
 refine aAD hk rfl rfl hd ?_ K
 subst hc
 unfold aDp execOp
 simp[hk.eval hx,hk.eval hy,eqGuard_at_int,binOp,Op.intDiv,h0]
def aOA (P:Program)(t:Nat):Bool:=match P.underlying t with|some .bool=>true|_=>false
def aQU (P:Program)(t:Nat):Bool:=match P.underlying t with|some (.pointer _)=>true|_=>false
def aQB (P:Program)(t:Nat):Bool:=match P.underlying t with|some (.map _ _)=>true|_=>false
theorem aR8 {x:Operand}{t t':Nat}{p:Option Addr}(hk:Kn n l a)(ht:aQU P t=true)(hx:ev l x=some (.pointer p))(hd:Nat.blt d n=true)
  (K:∀ a',Kn n ((d,.bool p.isNone)::l) a'→wpList P ops Q rest a' w) :
  wpList P ops Q (⟨some d,.binOp .eql t x (.const (.pointer none)) t',ty,ps,af,none⟩::rest) a w:=by
 refine aAD hk rfl rfl hd ?_ K
 have ht':P.underlying t=some (.pointer (P.pointee t)):=by
  unfold aQU at ht
  split at ht
  ·rename_i e he;rw[he];unfold Program.pointee;rw[he]
  ·cases ht
 have hy:a.eval (.const (.pointer none))=.pointer none:=rfl
 unfold aDp execOp
 simp only[Sem.run_bind,hk.eval hx,hy,eqGuard_at_pointer,Sem.run_pure,Result.andThen_ok,run_eql_pointer_nil _ t p ht']
theorem aTc {x:Operand}{t t' e k c:Nat}{p:Option Addr}(hk:Kn n l a)(ht:aBA P t=some e)(hx:ev l x=some (.slice p k c))(hd:Nat.blt d n=true)
  (K:∀ a',Kn n ((d,.bool p.isNone)::l) a'→wpList P ops Q rest a' w) :
  wpList P ops Q (⟨some d,.binOp .eql t x (.const (.slice none 0 0)) t',ty,ps,af,none⟩::rest) a w:=by
 refine aAD hk rfl rfl hd ?_ K
 have hy:a.eval (.const (.slice none 0 0))=.slice none 0 0:=rfl
 unfold aDp execOp
 simp only[Sem.run_bind,hk.eval hx,hy,eqGuard_at_slice,Sem.run_pure,Result.andThen_ok,binOp,run_equal_slice_nil _ t e p k c (aCi ht)]
theorem aXe {x:Operand}{t t':Nat}{p:Option Nat}(hk:Kn n l a)(ht:aQB P t=true)(hx:ev l x=some (.map p))(hd:Nat.blt d n=true)
  (K:∀ a',Kn n ((d,.bool p.isNone)::l) a'→wpList P ops Q rest a' w) :
  wpList P ops Q (⟨some d,.binOp .eql t x (.const (.map none)) t',ty,ps,af,none⟩::rest) a w:=by
 refine aAD hk rfl rfl hd ?_ K
 obtain⟨kk,ee,ht'⟩ : ∃ kk ee,P.underlying t=some (.map kk ee):=by
  unfold aQB at ht
  split at ht
  ·rename_i kk ee he;exact⟨kk,ee,he⟩
  ·cases ht
 have hy:a.eval (.const (.map none))=.map none:=rfl
 unfold aDp execOp
 simp only[Sem.run_bind,hk.eval hx,hy,eqGuard_at_map,Sem.run_pure,Result.andThen_ok,binOp,run_equal_map_nil _ t kk ee p ht']
theorem aYD {x y:Operand}{tys:Array Nat}{k k':IntKind}{i j c:Int}(hk:Kn n l a)(hx:ev l x=some (.int k i))(hy:ev l y=some (.int k' j))(hc:min i j=c)(hd:Nat.blt d n=true)(K:∀ a',Kn n ((d,.int k c)::l) a'→wpList P ops Q rest a' w) :
  wpList P ops Q (⟨some d,.call ⟨.builtin .min,#[x,y],tys⟩,ty,ps,af,none⟩::rest) a w:=by
 refine aAD hk rfl rfl hd ?_ K
 subst hc
 unfold aDp execOp
 simp[hk.eval hx,hk.eval hy,resolve,invoke,builtin,Builtin.min_,Builtin.min2]
 by_cases h:j<i
 ·rw[if_pos h,Int.min_eq_right (by omega)]
 ·rw[if_neg h,Int.min_eq_left (by omega)]
theorem aKO {x h:Operand}{t e s len cap k:Nat}{bl:Bool}{kk:IntKind}{p:Option Addr}(hk:Kn n l a)(ht:aBA P t=some e)(hs:aCm P e=some (bl,s))(hx:ev l x=some (.slice p len cap))(hh:ev l h=some (.int kk (k:Int)))(hkc:k≤cap)(hd:Nat.blt d n=true)
  (K:∀ a',Kn n ((d,.slice p k cap)::l) a'→wpList P ops Q rest a' w) :
  wpList P ops Q (⟨some d,.slice t x none (some h) none,ty,ps,af,none⟩::rest) a w:=by
 refine aAD hk rfl rfl hd ?_ K
 unfold aDp execOp
 have h1:(0:Int)≤(k:Int)∧(k:Int)≤(cap:Int):=by omega
 have hp:(if cap=0 then p else p.map (·.add 0))=p:=by
  split
  ·rfl
  ·cases p<;>simp[Addr.add]
 simp[hk.eval hx,hk.eval hh,Instr.sliceAt,Instr.slice,run_underlying (aCi ht),Instr.sliceBounds,Instr.sliceBound,asIntOf,hkc,aCw hs,hp]
theorem aAP {t e sz by_ len:Nat}{z:Value}{parts:List (Nat × Operand)}{zs r:List Value}(hk:Kn n l a)(hm:Mem w0 X Z m w)(ht:aGN P t=some (e,sz,by_))(hz:aBB P e=some z)
  (hzs:((List.range (len*sz)).map fun i=>z.cells[i%z.cells.size]!)=zs) (hpos:Nat.blt 0 (len*sz)=true) (hsmall:Nat.ble (len*sz) 16777216=true) (hb:bres (fun i=>some (i*sz,sz)) l parts zs r) (hd:Nat.blt d n=true)
  (K:∀ a' b w',Kn n ((d,.slice (some ⟨b,0,none⟩) len len)::l) a'→Mem w0 X Z (.blk b r e::m) w'→wpList P ops Q rest a' w') :
  wpList P ops Q (⟨some d,.buildSlice t len parts.toArray,ty,ps,af,none⟩::rest) a w:=by
 obtain⟨i,z',h1,h2,h3,h4,rfl,rfl⟩:=aF2 ht
 have hpos' : 0<len*i.size:=by simpa [Nat.blt_eq] using hpos
 have hsm':=Nat.le_of_ble_eq_true hsmall
 have hfill:=aNj hk hb
 have hz':z'=z:=by unfold aBB at hz;rw[h2] at hz;simp[h3] at hz;exact hz
 subst hz'
 refine aAD (v:=.slice (some ⟨w.heap.size,0,none⟩) len len) (w':=w.alloc (.cells r.toArray e)) hk rfl rfl hd ?_ fun a' hk'=>K a' _ _ hk' (hm.alloc r e)
 unfold aDp execOp
 have e1:((Array.range (len*i.size)).map fun j=>z'.cells[j%z'.cells.size]!)=zs.toArray:=by
  apply Array.ext'
  rw[← hzs]
  simp
 have e2:((parts.toArray.map fun (i,x)=>(i,a.eval x)).toList)=parts.map fun p=>(p.1,a.eval p.2):=by simp
 have hsz:(sizeOf e).run P w=.ok i.size w:=by unfold sizeOf;simp only[Sem.run_bind,aEr h2,Result.andThen_ok,Sem.run_pure]
 have hn1 : ¬ len*i.size > 2 ^ 24:=by omega
 have hn2 : ¬ len*i.size=0:=by omega
 simp only[Sem.run_bind,Instr.buildSlice,run_underlying h1,Result.andThen_ok,hsz,if_neg hn1,if_neg hn2,aCr hz,Sem.run_pure,e1,e2,hfill,newRow,run_newObj]
 rfl
end
end Go.Mk
namespace Go.Mk
open Go
def room:Nat:=140737488355328
def bv (s:List UInt8):List Value:=s.map fun b=>.int .u8 b.toNat
theorem aCx (s t:List UInt8):bv (s++t)=bv s++bv t:=by simp[bv]
theorem aCV (s:List UInt8):(bv s).length=s.length:=by simp[bv]
theorem aHH (s:List UInt8):aBP (bv s)=true:=by
 induction s with
 | nil=>rfl
 | cons b r ih=>simp only[bv,List.map_cons,aBP,Bool.and_eq_true];exact⟨rfl,ih⟩
def u8 (n:Int):UInt8:=UInt8.ofNat (n%256).toNat
theorem aSg (n:Int):((u8 n).toNat:Int)=n%256:=by
 unfold u8
 rw[UInt8.toNat_ofNat']
 omega
theorem aYM (n:Int):Value.int .u8 (IntKind.u8.wrap n)=.int .u8 ((u8 n).toNat:Int):=by rw[aSg,IntKind.wrap_u8]
theorem bAF (n:Int)(s:List UInt8):bv (u8 n::s)=.int .u8 (IntKind.u8.wrap n)::bv s:=by simp only[bv,List.map_cons];rw[← aYM]
def fixed (n:Int):Nat→List UInt8
 | 0=>[]
 | k+1=>u8 (n/2 ^ (8*k))::fixed n k
theorem aBL (n:Int):∀ k,(fixed n k).length=k
 | 0=>rfl
 | k+1=>by simp[fixed,aBL n k]
def aNA (w:World)(e sz:Nat)(v:Value)(n':Nat)(xs':List Value)(v':Value)(w':World):Prop :=
 Agr (fun k=>v.ownBlock=some k) w w'∧w'.ownsRow 0 e sz v' n' xs'∧(∀ k,v'.ownBlock=some k→v.ownBlock=some k∨w.heap.size≤k)
section
variable {w0 w w':World}{X Z:Nat→Prop}{m:List Ent}{i e sz n n':Nat}{v v':Value}{xs xs':List Value}
theorem Mem.row (h:Mem w0 X Z m w)(hi:aBi m i=some (.row e sz v n xs)):w.ownsRow 0 e sz v n xs:=h.all _ (eA0 hi)
theorem Mem.rowCall (h:Mem w0 X Z m w)(hi:aBi m i=some (.row e sz v n xs))(hr:aNA w e sz v n' xs' v' w'):Mem w0 X Z (aBn m i (.row e sz v' n' xs')) w' :=
 h.rowStep hi hr.1 hr.2.1 hr.2.2
end
theorem aTE {n:Nat}(h:n≤room):n≤maxLen∧n*1≤140737488355328:=by unfold room at h;unfold maxLen;omega
theorem aCK {n:Nat}(h:n≤room):n≤maxLen:=(aTE h).1
theorem aD3 {n:Nat}(h:n≤room):n*1≤140737488355328:=(aTE h).2
def bs (s:List UInt8):ByteArray:=⟨s.toArray⟩
theorem aZp (s:List UInt8):(bs s).size=s.length:=by simp[bs,ByteArray.size]
end Go.Mk
namespace Go.Mk
open Go
inductive Fld
 | mk (kind:Nat) (fr to nu tag:Int) (df:Int) (of:Nat) (sub:List Fld)
def sixteen (s:List UInt8):List UInt8:=(s++List.replicate 16 0).take 16
def aKy (kind:Nat)(nu:Int)(st:T→DD)(t:T):DD :=
 match kind with
 | 0=>.v (.bool (t.n%2==1))
 | 1=>.v (.int .i8 (IntKind.i8.wrap t.n))
 | 2=>.v (.int .i16 (IntKind.i16.wrap t.n))
 | 3=>.v (.int .i32 (IntKind.i32.wrap t.n))
 | 4=>.v (.int .i64 t.n)
 | 5=>.v (.int .u16 (IntKind.u16.wrap t.n))
 | 6=>.v (.float .f64 (IntKind.u64.wrap t.n).toNat)
 | 7=>.agg ((sixteen t.s).map ddB)
 | 8=>if 0≤nu then (if t.z then .v (.pointer none) else .ptr (.v (.string (bs t.s)))) else .v (.string (bs t.s))
 | 9=>if t.z then .v (.slice none 0 0) else .sl true 1 (t.s.map ddB)
 | _=>if 0≤nu then (if t.z then .v (.pointer none) else .ptr (st t)) else st t
def aI1 (kind:Nat)(nu:Int)(st:Nat):Nat :=
 match kind with
 | 7=>16
 | 10=>if 0≤nu then 1 else st
 | _=>1
mutual
def bCh:Fld→Bool→Nat
 | .mk kind _ _ nu _ _ _ sub,tg=>if kind=11 then 1 else aI1 kind nu (aWV sub tg+tg.toNat)
def aWV:List Fld→Bool→Nat
 | [],_=>0
 | f::r,tg=>bCh f tg+aWV r tg
end
def aNS (fs:List Fld)(tg:Bool):Nat:=aWV fs tg+tg.toNat
def aAN (u:List (Nat × List UInt8)):DD:=.mp (u.map (·.1)) (u.map fun p=>aDJ p.2)
mutual
def ddF:Fld→Bool→T→DD
 | .mk kind _ _ nu _ _ of sub,tg,t =>
  if kind=11 then (if t.z then .v (.slice none 0 0) else .sl true (aI1 of (-1) (aNS sub tg)) (t.l.map fun x=>aKy of (-1) (fun x=>.agg (aP4 sub tg x.l 0++(if tg then [aAN x.u] else []))) x))
  else aKy kind nu (fun x=>.agg (aP4 sub tg x.l 0++(if tg then [aAN x.u] else []))) t
def aP4:List Fld→Bool→List T→Nat→List DD
 | [],_,_,_=>[]
 | f::r,tg,l,i=>ddF f tg (l.getD i T.nil)::aP4 r tg l (i+1)
end
def ddS (fs:List Fld)(tg:Bool)(t:T):DD:=.agg (aP4 fs tg t.l 0++(if tg then [aAN t.u] else []))
def rising:List (Nat × List UInt8)→Prop
 | []=>True
 | p::r=>(∀ q ∈ r,p.1<q.1)∧rising r
def aLE:List (Nat × List UInt8)→Bool
 | []=>true
 | p::r=>r.all (fun q=>decide (p.1<q.1))&&aLE r
theorem aIN:∀ {u:List (Nat × List UInt8)},aLE u=true ↔ rising u
 | []=>by simp[aLE,rising]
 | p::r=>by simp only[aLE,rising,Bool.and_eq_true,List.all_eq_true,decide_eq_true_eq,aIN (u:=r)]
mutual
def T.small:T→Bool
 | .mk _ s _ l u=>decide (s.length≤s.length)&&decide (l.length≤32767)&&decide (u.length≤32767)&&u.all (fun p=>decide (p.2.length≤32767))&&aLE u&&T.smalls l
def T.smalls:List T→Bool
 | []=>true
 | t::r=>t.small&&T.smalls r
end
theorem aNU:∀ {l:List T},T.smalls l=true→∀ t ∈ l,t.small=true
 | [],_,t,h=>by cases h
 | x::r,h,t,ht=>by
  simp only[T.smalls,Bool.and_eq_true] at h
  rcases List.mem_cons.1 ht with rfl|ht
  ·exact h.1
  ·exact aNU h.2 t ht
theorem aLJ {t:T}(h:t.small=true):t.s.length≤t.s.length∧t.l.length≤32767∧t.u.length≤32767∧(∀ p ∈ t.u,p.2.length≤32767)∧∀ x ∈ t.l,x.small=true:=by
 cases t with
 | mk n s z l u =>
  simp only[T.small,Bool.and_eq_true,decide_eq_true_eq,List.all_eq_true] at h
  obtain⟨⟨⟨⟨⟨h1,h2⟩,h3⟩,h4⟩,_⟩,h5⟩:=h
  exact⟨h1,h2,h3,fun p hp=>by simpa using h4 p hp,fun x hx=>aNU h5 x hx⟩
theorem aVo {t:T}(h:t.small=true)(i:Nat):(t.at_ i).small=true:=by
 unfold T.at_
 rw[List.getD_eq_getElem?_getD]
 cases hi:t.l[i]? with
 | none=>rfl
 | some x=>exact (aLJ h).2.2.2.2 x (List.mem_of_getElem? hi)
end Go.Mk
namespace Go.Mk
open Go
section
variable {w0 w w':World}{X Z:Nat→Prop}{m:List Ent}
theorem Mem.tail {e:Ent}(h:Mem w0 X Z (e::m) w):Mem w0 X Z m w:=by
 have hin:∀ b,b ∈ muts m→b ∈ muts (e::m):=fun b hb=>by simp only[muts,List.mem_append];exact .inr hb
 refine⟨h.agr,h.sub,?_,fun b hb=>h.own b (hin b hb),?_⟩
 ·have:=h.nodup
  simp only[muts,List.nodup_append] at this
  exact this.2.1
 ·intro x hx
  refine Ent.holds_move (fun k hk hy=>⟨rfl,?_⟩) (h.all x (List.mem_cons_of_mem _ hx)) (fun _ _=>rfl)
  rintro (hz|hz)
  ·exact hy (.inl hz)
  ·exact hy (.inr (hin k hz))
theorem Mem.putFrozen (h:Mem w0 X Z m w){i:Nat}{e e':Ent}(hi:aBi m i=some e)(he:e.mut=[])(he':e'.mut=[])(hh:e'.holds w (Yof w0 Z m)):Mem w0 X Z (aBn m i e') w:=by
 have hmu:muts (aBn m i e')=muts m:=aFZ hi (by rw[he,he'])
 have hy:Yof w0 Z (aBn m i e')=Yof w0 Z m:=by funext x;simp[Yof,hmu]
 refine⟨h.agr,h.sub,by rw[hmu];exact h.nodup,by rw[hmu];exact h.own,?_⟩
 rw[hy]
 intro x hx
 rcases aFC hx with rfl|⟨j,_,hj⟩
 ·exact hh
 ·exact h.all x (eA0 hj)
theorem Mem.freezeRow (h:Mem w0 X Z m w){i e sz n:Nat}{v:Value}{xs:List Value}{l:List DD}{st:Bool}(hi:aBi m i=some (.row e sz v n xs))(hx:∀ k,v.ownBlock=some k→¬ X k)
  (he:aBf w (Yof w0 Z m) sz l xs) (hn:l.length=n) (hst:v=.slice none 0 0→st=false):Mem w0 X Z (aBn m i (.rep (.sl st sz l) [v])) w:=by
 have hrow:=h.row hi
 have hsub:∀ {m:List Ent} {i:Nat} {b:Nat},aBi m i=some (.row e sz v n xs)→b ∈ muts (aBn m i (.rep (.sl st sz l) [v]))→b ∈ muts m:=by
  intro m
  induction m with
  | nil=>intro i b h _;simp[aBi] at h
  | cons x r ih =>
   intro i b h hb
   cases i with
   | zero =>
    simp only[aBn,muts,Ent.mut,List.nil_append] at hb
    simp only[muts,List.mem_append];exact .inr hb
   | succ i =>
    simp only[aBn,muts,List.mem_append] at hb ⊢
    rcases hb with hb|hb
    ·exact .inl hb
    ·exact .inr (ih h hb)
 have hnd:∀ {m:List Ent} {i:Nat},(muts m).Nodup→aBi m i=some (.row e sz v n xs)→(muts (aBn m i (.rep (.sl st sz l) [v]))).Nodup∧(∀ k,v.ownBlock=some k→k ∉ muts (aBn m i (.rep (.sl st sz l) [v]))):=by
  intro m
  induction m with
  | nil=>intro i _ h;simp[aBi] at h
  | cons x r ih =>
   intro i hn h
   cases i with
   | zero =>
    simp only[aBi,Option.some.injEq] at h
    subst h
    simp only[aBn,muts,Ent.mut,List.nil_append,List.nodup_append] at hn ⊢
    exact⟨hn.2.1,fun k hk hk'=>hn.2.2 k (by simp[hk]) k hk' rfl⟩
   | succ i =>
    simp only[aBn,muts,List.nodup_append,List.mem_append,not_or] at hn ⊢
    have hr:=ih hn.2.1 h
    refine⟨⟨hn.1,hr.1,fun a ha b hb hab=>hn.2.2 a ha b (hsub h hb) hab⟩,fun k hk=>⟨?_,hr.2 k hk⟩⟩
    exact fun hkx=>hn.2.2 k hkx k (aBI (eA0 (m:=r) h) (by simp[Ent.mut,hk])) rfl
 have hN:=hnd h.nodup hi
 have hmv:∀ k,k<w.heap.size→¬ Yof w0 Z m k→w.heap[k]? = w.heap[k]? ∧ ¬ Yof w0 Z (aBn m i (.rep (.sl st sz l) [v])) k:=fun k _ hy=>⟨rfl,by
  rintro (hz|hz)
  ·exact hy (.inl hz)
  ·exact hy (.inr (hsub hi hz))⟩
 refine⟨h.agr,h.sub,hN.1,fun b hb=>h.own b (hsub hi hb),?_⟩
 intro x hx'
 rcases aFC hx' with rfl|⟨j,_,hj⟩
 ·have hE:=aBf.move hmv sz l xs he
  simp only[Ent.holds,Rep]
  rcases hrow.2 with ⟨rfl,hn0⟩|⟨g,cap,cur,rfl,_,hg,hnc,hcm,hcs,htake⟩
  ·left
   exact⟨List.eq_nil_of_length_eq_zero (by omega),none,rfl,fun h=>by rw[hst rfl] at h;cases h⟩
  ·right
   refine⟨g,0,cap,xs,by rw[hn],by omega,?_,hE⟩
   intro j u hj
   refine⟨?_,?_⟩
   ·rintro (hz|hz)
    ·have hgx:=(h.own g (aBI (eA0 hi) (by simp[Ent.mut,Value.ownBlock]))).2 hz.1
     exact hx g rfl hgx
    ·exact hN.2 g rfl hz
   ·rw[Nat.zero_add]
    have hlt:j<n*sz:=by have:=(List.getElem?_eq_some_iff.1 hj).1;rw[hrow.1] at this;exact this
    rw[← htake,List.getElem?_take,if_pos hlt] at hj
    simp only[World.cell?,hg]
    simpa using hj
 ·exact Ent.holds_move hmv (h.all x (eA0 hj)) (fun _ _=>rfl)
theorem Mem.addRow (h:Mem w0 X Z m w)(cs:List Value){e sz cap:Nat}(hc:cs.length=cap*sz)(hm:cap≤maxLen) :
  Mem w0 X Z (.row e sz (.slice (some ⟨w.heap.size,0,none⟩) 0 cap) 0 []::m) (w.alloc (.cells cs.toArray e)):=by
 have hb:=h.alloc cs e
 have hmu:muts (.row e sz (.slice (some ⟨w.heap.size,0,none⟩) 0 cap) 0 []::m)=muts (.blk w.heap.size cs e::m):=by simp[muts,Ent.mut,Value.ownBlock]
 have hy:Yof w0 Z (.row e sz (.slice (some ⟨w.heap.size,0,none⟩) 0 cap) 0 []::m)=Yof w0 Z (.blk w.heap.size cs e::m):=by funext x;simp only[Yof,hmu]
 refine⟨hb.agr,hb.sub,by rw[hmu];exact hb.nodup,by rw[hmu];exact hb.own,?_⟩
 rw[hy]
 intro x hx
 rcases List.mem_cons.1 hx with rfl|hx
 ·exact World.ownsRow_made w cs.toArray cap (Nat.zero_le _) hm (by simpa using hc)
 ·exact hb.all x (List.mem_cons_of_mem _ hx)
theorem Mem.addNil (h:Mem w0 X Z m w)(e sz:Nat):Mem w0 X Z (.row e sz (.slice none 0 0) 0 []::m) w:=by
 have hmu:muts (.row e sz (.slice none 0 0) 0 []::m)=muts m:=by simp[muts,Ent.mut,Value.ownBlock]
 have hy:Yof w0 Z (.row e sz (.slice none 0 0) 0 []::m)=Yof w0 Z m:=by funext x;simp only[Yof,hmu]
 refine⟨h.agr,h.sub,by rw[hmu];exact h.nodup,by rw[hmu];exact h.own,?_⟩
 rw[hy]
 intro x hx
 rcases List.mem_cons.1 hx with rfl|hx
 ·exact World.ownsRow_nil w 0 e sz
 ·exact h.all x hx
end
section
variable {P:Program}{ops:Array Oper}{Q:Exit→Act→World→Prop}{rest:List Oper}{a:Act}{w w0:World}{n:Nat}{l:List (Nat × Value)}{X Z:Nat→Prop}{m:List Ent}
variable {d:Nat}{ty:Nat}{ps:String}{af:Array Edge}
theorem aXZ {t e sz by_ cap:Nat}{z:Value}{c:Operand}(hk:Kn n l a)(hm:Mem w0 X Z m w)(ht:aGN P t=some (e,sz,by_))(hz:aBB P e=some z)(hc:ev l c=some (.int .i64 (cap:Int)))(hcap:cap≤maxLen)(hb:cap*by_≤140737488355328)(hd:Nat.blt d n=true)
  (K:∀ a' b w',w0.heap.size≤b→Kn n ((d,.slice (some ⟨b,0,none⟩) 0 cap)::l) a'→Mem w0 X Z (.row e sz (.slice (some ⟨b,0,none⟩) 0 cap) 0 []::m) w'→wpList P ops Q rest a' w') :
  wpList P ops Q (⟨some d,.makeSlice t (.const (.int .i64 0)) c,ty,ps,af,none⟩::rest) a w:=by
 obtain⟨i,z',h1,h2,h3,h4,rfl,rfl⟩:=aF2 ht
 have hz':z'=z:=by unfold aBB at hz;rw[h2] at hz;simp[h3] at hz;exact hz
 subst hz'
 have hcap':cap≤9223372036854775807:=by simpa [maxLen] using hcap
 have hr:=run_make (P:=P) w t e i z' h1 h2 h3 .i64 .i64 0 (cap:Int) (by omega) (by omega) (by rw[← Int.natCast_mul,Nat.mul_comm];omega) (by omega)
 have e1:((cap:Nat):Int).toNat=cap:=by omega
 rw[e1] at hr
 simp only[Int.toNat_zero] at hr
 refine aAD (v:=.slice (some ⟨w.heap.size,0,none⟩) 0 cap) (w':=w.alloc (.cells (madeCells z'.cells (cap*i.size)).toList.toArray e)) hk rfl rfl hd ?_ fun a' hk'=>K a' _ _ hm.agr.size hk' (hm.addRow _ ?_ hcap)
 ·unfold aDp execOp
  have hy:a.eval (.const (.int .i64 0))=.int .i64 0:=rfl
  simp only[Sem.run_bind,hk.eval hc,hy,hr,Result.andThen_ok,Sem.run_pure,Array.toArray_toList]
 ·simp[madeCells]
theorem aLw {w:World}{Y:Nat→Prop}:∀ {s:List UInt8} {cs:List Value},aBf w Y 1 (s.map ddB) cs→cs=bv s
 | [],cs,h=>by
  simp only[List.map_nil] at h
  unfold aBf at h
  simp[h,bv]
 | y::r,cs,h=>by
  simp only[List.map_cons] at h
  unfold aBf at h
  obtain⟨c1,c2,rfl,_,h6,h7⟩:=h
  simp only[ddB,Rep] at h6
  subst h6
  rw[aLw h7]
  rfl
theorem aNk {w:World}{Y:Nat→Prop}:∀ (s:List UInt8),aBf w Y 1 (s.map ddB) (bv s)
 | []=>by simp[aBf,bv]
 | y::r=>by
  simp only[List.map_cons,aBf,bv]
  exact⟨[.int .u8 y.toNat],_,rfl,rfl,by simp[Rep,ddB],aNk r⟩
theorem pushes:∀ (s:List UInt8) (acc:List UInt8),(s.map fun b=>(b.toNat:Int)).foldl (fun r n=>r.push (UInt8.ofNat n.toNat)) (bs acc)=bs (acc++s)
 | [],acc=>by simp
 | b::r,acc=>by
  simp only[List.map_cons,List.foldl_cons]
  have:(bs acc).push (UInt8.ofNat ((b.toNat:Int)).toNat)=bs (acc++[b]):=by simp[bs,ByteArray.push]
  rw[this,pushes r (acc++[b])]
  simp
theorem aTK {P:Program}{w:World}{Y:Nat→Prop}{s:List UInt8}{x:Value}(hR:Rep w Y (aDJ s) [x]):(Conv.bytesToString x).run P w=.ok (.string (bs s)) w:=by
 rcases aLZ hR with ⟨h1,p,rfl,_⟩|⟨b,off,cap,cs,rfl,h2,h3,h4⟩
 ·have:s=[]:=by simpa using h1
  subst this
  cases p with
  | none=>rfl
  | some a=>exact run_bytesToString (P:=P) w a 0 0 [] rfl
 ·have hcs:=aLw h4
  subst hcs
  have hl:=aEP (P:=P) (w:=w) (b:=b) (off:=off) (cs:=bv s) (Cel.at_ h3)
  rw[aCV] at hl
  rw[List.length_map]
  have:=run_bytesToString (P:=P) w ⟨b,off,none⟩ s.length cap (s.map fun b=>(b.toNat:Int)) (by rw[hl];simp[bv])
  rw[this]
  have e:=pushes s []
  simp only[List.nil_append] at e
  exact congrArg (fun z=>Result.ok (Value.string z) w) e
def aIj (P:Program)(t:Nat):Bool:=match P.underlying t with
 | some (.slice e)=>match P.underlying e with
  | some (.int .u8)=>true
  | _=>false
 | _=>false
theorem aK6 {P:Program}{t:Nat}(h:aIj P t=true):∃ e,P.underlying t=some (.slice e)∧P.underlying e=some (.int .u8):=by
 unfold aIj at h
 split at h
 ·rename_i e he
  split at h
  ·rename_i hu;exact⟨e,he,hu⟩
  ·cases h
 ·cases h
theorem aGk {x:Operand}{st dt:Nat}{Y:Nat→Prop}{s:List UInt8}{v:Value}(hk:Kn n l a)(hs:aIj P st=true)(ht:aLG P dt=true)(hx:ev l x=some v)(hR:Rep w Y (aDJ s) [v])(hd:Nat.blt d n=true)
  (K:∀ a',Kn n ((d,.string (bs s))::l) a'→wpList P ops Q rest a' w) :
  wpList P ops Q (⟨some d,.convert st dt x,ty,ps,af,none⟩::rest) a w:=by
 refine aAD hk rfl rfl hd ?_ K
 obtain⟨e,h1,h2⟩:=aK6 hs
 have h3:=aMM ht
 obtain⟨p,cap,rfl⟩:=aCS hR
 have hr:=aTK (P:=P) hR
 unfold aDp execOp
 simp only[Sem.run_bind,hk.eval hx,run_convert_bytes_string w st dt e _ _ _ h1 h2 h3,hr,Result.andThen_ok,Sem.run_pure]
theorem aLg {t e sz by_:Nat}{x:Operand}{v:Value}{c:List Value}(hk:Kn n l a)(hm:Mem w0 X Z m w)(ht:aGN P t=some (e,sz,by_))(hx:ev l x=some v)(hc:cellsOf v=c)(hl:c.length=sz)(hpos:Nat.blt 0 sz=true)(hsmall:Nat.ble sz 16777216=true)(hd:Nat.blt d n=true)
  (K:∀ a' b w',Kn n ((d,.slice (some ⟨b,0,none⟩) 1 1)::l) a'→Mem w0 X Z (.blk b c e::m) w'→wpList P ops Q rest a' w') :
  wpList P ops Q (⟨some d,.buildSlice t 1 #[(0,x)],ty,ps,af,none⟩::rest) a w:=by
 obtain⟨i,z,h1,h2,h3,h4,rfl,rfl⟩:=aF2 ht
 have hpos' : 0<i.size:=by simpa [Nat.blt_eq] using hpos
 have hsm':=Nat.le_of_ble_eq_true hsmall
 have hz:aBB P e=some z:=by unfold aBB;rw[h2];exact h3
 refine aAD (v:=.slice (some ⟨w.heap.size,0,none⟩) 1 1) (w':=w.alloc (.cells c.toArray e)) hk rfl rfl hd ?_ fun a' hk'=>K a' _ _ hk' (hm.alloc c e)
 unfold aDp execOp
 have hsz:(sizeOf e).run P w=.ok i.size w:=by unfold sizeOf;simp only[Sem.run_bind,aEr h2,Result.andThen_ok,Sem.run_pure]
 have hn1 : ¬ 1*i.size > 2 ^ 24:=by omega
 have hn2 : ¬ 1*i.size=0:=by omega
 have hfill:Instr.fill (fun j=>some (j*i.size,i.size)) ((Array.range (1*i.size)).map fun j=>z.cells[j%z.cells.size]!) [(0,v)]=some c.toArray:=by
  have e0:((Array.range (1*i.size)).map fun j=>z.cells[j%z.cells.size]!)=(((List.range i.size).map fun j=>z.cells[j%z.cells.size]!)).toArray:=by
   apply Array.ext'
   simp
  rw[e0,aP1 (off:=0) hc (by simp[hl]) (by simp[hl])]
  simp only[Instr.fill,Option.some.injEq]
  congr 1
  rw[aFO (by simp[hl])]
  simp[hl]
 have e2:((#[((0:Nat),x)].map fun (i,x)=>(i,a.eval x)).toList)=[(0,v)]:=by simp[hk.eval hx]
 simp only[Sem.run_bind,Instr.buildSlice,run_underlying h1,Result.andThen_ok,hsz,if_neg hn1,if_neg hn2,aCr hz,Sem.run_pure,e2,hfill,newRow,run_newObj]
 rfl
end
theorem aLV {w:World}{Y:Nat→Prop}{t:T}{c:List Value}(h:Rep w Y (ddT t) c):∃ cs p cap cu,c=[.int .i64 t.n,cs,.bool t.z,.slice p t.l.length cap,cu]:=by
 obtain⟨cs,cl,cu,rfl,_,h2,_⟩:=aSV h
 obtain⟨p,cap,rfl⟩:=aCS h2
 exact⟨cs,p,cap,cu,by rw[List.length_map]⟩
theorem aD2 {w:World}{Y:Nat→Prop}{t:T}{x1 x2 x3 x4 x5:Value}(h:Rep w Y (ddT t) [x1,x2,x3,x4,x5]):Rep w Y (aDJ t.s) [x2]:=(aKo h).2.1
theorem aKF {w:World}{Y:Nat→Prop}{t:T}{x1 x2 x3 x4 x5:Value}(h:Rep w Y (ddT t) [x1,x2,x3,x4,x5]):Rep w Y (.sl false 5 (t.l.map ddT)) [x4]:=(aKo h).2.2.2.1
theorem aKl {w:World}{Y:Nat→Prop}{t:T}{x1 x2 x3 x4 x5:Value}(h:Rep w Y (ddT t) [x1,x2,x3,x4,x5]):Rep w Y (aBR t.u) [x5]:=(aKo h).2.2.2.2
theorem aFu {α β : Type}(f : α→β)(l:List α)(k:Nat)(d : α)(h:k<l.length):(l.take (k+1)).map f=(l.take k).map f++[f (l.getD k d)]:=by
 rw[List.take_succ_eq_append_getElem h,List.map_append]
 simp[h]
theorem aCh.cons1 {w:World}{Y:Nat→Prop}{d:DD}{r:List DD}{x:Value}{c:List Value}(h:Rep w Y d [x])(hr:aCh w Y r c):aCh w Y (d::r) (x::c):=by
 simp only[aCh];exact⟨[x],c,rfl,h,hr⟩
theorem aCh.nil {w:World}{Y:Nat→Prop}:aCh w Y [] []:=by simp[aCh]
theorem aCn {w:World}{Y:Nat→Prop}(x:Value):Rep w Y (.v x) [x]:=by simp[Rep]
theorem aHW {w:World}{Y:Nat→Prop}{l:List DD}{c:List Value}(h:aCh w Y l c):Rep w Y (.agg l) c:=by simp only[Rep];exact h
theorem aA8 {w:World}{Y:Nat→Prop}{l:List DD}{c:List Value}(h:Rep w Y (.agg l) c):aCh w Y l c:=by simpa only[Rep] using h
theorem Mem.elsPush {w0 w:World}{X Z:Nat→Prop}{m:List Ent}(hm:Mem w0 X Z m w){i sz:Nat}{ds:List DD}{xs c:List Value}{d:DD}(hi:aBi m i=some (.els sz ds xs))(hR:Rep w (Yof w0 Z m) d c)(hl:c.length=sz) :
  Mem w0 X Z (aBn m i (.els sz (ds++[d]) (xs++c))) w :=
 hm.putFrozen hi rfl rfl (aBf.append (hm.all _ (eA0 hi)) (aBf.one hR hl))
theorem Mem.els {w0 w:World}{X Z:Nat→Prop}{m:List Ent}(hm:Mem w0 X Z m w){i sz:Nat}{ds:List DD}{xs:List Value}(hi:aBi m i=some (.els sz ds xs)):aBf w (Yof w0 Z m) sz ds xs:=hm.all _ (eA0 hi)
theorem aAW {P:Program}{Q:Exit→Act→World→Prop}{a:Act}{w0 w:World}{X Z:Nat→Prop}{m:List Ent}{id:Nat}{ops:List Oper}(K:Nat)(hf:P.follows .mixedOrders=true)(hm:Mem w0 X Z m w)
  (h:∀ w,Mem w0 X Z m w→aCu P ops.toArray Q (Mem w0 X Z m) K ops.length (Array.replicate ops.length false) a w):(Code.region id ops.toArray true).wp P Q a w :=
 aLF (M:=Mem w0 X Z m) (K:=K) hf (h _ (hm.pure (Agr.drew _ _)))
theorem noX (v:Value):∀ k,v.ownBlock=some k→¬ Nob k:=fun _ _ h=>h
def aPz (m:List Ent):List Nat→Option (List Ent)
 | []=>some []
 | i::r=>match aBi m i,aPz m r with
  | some e,some es=>some (e::es)
  | _,_=>none
def distinct:List Nat→Bool
 | []=>true
 | i::r=>(r.all fun j=>!Nat.beq i j)&&distinct r
theorem aKP {m:List Ent}:∀ {is:List Nat} {m':List Ent},aPz m is=some m'→∀ {x:Ent},x ∈ m'→∃ i ∈ is,aBi m i=some x
 | [],m',h,x,hx=>by simp only[aPz,Option.some.injEq] at h;subst h;cases hx
 | i::r,m',h,x,hx=>by
  simp only[aPz] at h
  split at h
  ·rename_i e es h1 h2
   simp only[Option.some.injEq] at h
   subst h
   rcases List.mem_cons.1 hx with rfl|hx
   ·exact⟨i,List.mem_cons_self,h1⟩
   ·obtain⟨j,hj,hj'⟩:=aKP h2 hx
    exact⟨j,List.mem_cons_of_mem _ hj,hj'⟩
  ·cases h
theorem aOO:∀ {m:List Ent} {b:Nat},b ∈ muts m→∃ e ∈ m,b ∈ e.mut
 | [],b,h=>by simp[muts] at h
 | x::r,b,h=>by
  simp only[muts,List.mem_append] at h
  rcases h with h|h
  ·exact⟨x,List.mem_cons_self,h⟩
  ·obtain⟨e,he,hb⟩:=aOO h
   exact⟨e,List.mem_cons_of_mem _ he,hb⟩
theorem Mem.pick {w0 w:World}{X Z:Nat→Prop}{m m':List Ent}(h:Mem w0 X Z m w)(is:List Nat)(hd:distinct is=true)(hp:aPz m is=some m'):Mem w0 X Z m' w:=by
 have hin:∀ b,b ∈ muts m'→b ∈ muts m:=fun b hb=>by
  obtain⟨e,he,hb⟩:=aOO hb
  obtain⟨i,_,hi⟩:=aKP hp he
  exact aBI (eA0 hi) hb
 have hnd:∀ {is:List Nat} {m':List Ent},distinct is=true→aPz m is=some m'→(muts m').Nodup:=by
  intro is
  induction is with
  | nil=>intro m' _ hp;simp only[aPz,Option.some.injEq] at hp;subst hp;simp[muts]
  | cons i r ih =>
   intro m' hd hp
   simp only[aPz] at hp
   split at hp
   ·rename_i e es h1 h2
    simp only[Option.some.injEq] at hp
    subst hp
    simp only[distinct,Bool.and_eq_true,List.all_eq_true,Bool.not_eq_true'] at hd
    simp only[muts,List.nodup_append]
    refine⟨?_,ih hd.2 h2,?_⟩
    ·cases e with
     | row _ _ v _ _=>simp only[Ent.mut];cases v.ownBlock<;>simp
     | mapb p _ _=>simp only[Ent.mut];cases p<;>simp
     | _=>simp[Ent.mut]
    ·intro a ha b hb hab
     subst hab
     obtain⟨e',he',hb'⟩:=aOO hb
     obtain⟨j,hj,hj'⟩:=aKP h2 he'
     have hne:i≠j:=fun e=>by have:=hd.1 j hj;subst e;simp at this
     exact aEt h.nodup hne h1 hj' a ha hb'
   ·cases hp
 refine⟨h.agr,h.sub,hnd hd hp,fun b hb=>h.own b (hin b hb),?_⟩
 intro x hx
 obtain⟨i,_,hi⟩:=aKP hp hx
 refine Ent.holds_move (fun k _ hy=>⟨rfl,?_⟩) (h.all x (eA0 hi)) (fun _ _=>rfl)
 rintro (hz|hz)
 ·exact hy (.inl hz)
 ·exact hy (.inr (hin k hz))
theorem Mem.out {w0 w:World}{X Z:Nat→Prop}{m:List Ent}(_:Mem w0 X Z m w){d:DD}{c:List Value}(hr:Rep w (Yof w0 Z m) d c):Rep w (fun b=>b<w0.heap.size∧Z b) d c:=Mem.yof hr
theorem Mem.addEls {w0 w:World}{X Z:Nat→Prop}{m:List Ent}(hm:Mem w0 X Z m w)(sz:Nat):Mem w0 X Z (.els sz [] []::m) w:=hm.add (e:=.els sz [] []) rfl (aBf.nil w (Yof w0 Z m) sz)
theorem aE7 {v:Value}(h:v.oneCell'=true):cellsOf v=[v]:=by cases v<;>first|rfl|cases h
theorem aIK {w:World}{Y:Nat→Prop}{st:Bool}{e:Nat}{l:List DD}{c:Value}(h:Rep w Y (.sl st e l) [c]):c.oneCell'=true:=by
 have:=aJG h
 simpa [aBP] using this
theorem aBH {v:Value}{r:List Value}(h:v.oneCell'=true)(hr:aBP r=true):aBP (v::r)=true:=by simp[aBP,h,hr]
theorem aHV {w:World}{e sz n:Nat}{v:Value}{xs:List Value}(h:w.ownsRow 0 e sz v n xs):v.oneCell'=true:=by
 rcases h.2 with ⟨rfl,_⟩|⟨g,cap,cur,rfl,_⟩<;>rfl
theorem aVT {v:Value}(h:v.oneCell'=true):aBP [v]=true:=by simp[aBP,h]
theorem aOk (n:Int):ibits .and .i64 n 1=some (n%2):=by
 have h:(BitVec.ofInt 64 n &&& BitVec.ofInt 64 1).toNat=(n%2).toNat:=by
  have h1:(BitVec.ofInt 64 1)=1#64:=by decide
  rw[h1,BitVec.toNat_and]
  have h2:(1#64).toNat=1:=by decide
  rw[h2,Nat.and_one_is_mod]
  have h3:(BitVec.ofInt 64 n).toNat=(n%18446744073709551616).toNat:=by rw[BitVec.toNat_ofInt];rfl
  rw[h3]
  omega
 show some (IntKind.i64.wrap (((BitVec.ofInt 64 n &&& BitVec.ofInt 64 1).toNat:Nat):Int))=_
 rw[h,IntWalk.i64_in _ (by omega)]
 congr 1
 omega
theorem aJJ {t:T}(h:t.small=true)(k:Nat):(t.l.getD k T.nil).small=true:=aVo h k
end Go.Mk
namespace Go.Mk
open Go
namespace Fld
def kind:Fld→Nat|.mk k _ _ _ _ _ _ _=>k
def fr:Fld→Int|.mk _ x _ _ _ _ _ _=>x
def to:Fld→Int|.mk _ _ x _ _ _ _ _=>x
def nu:Fld→Int|.mk _ _ _ x _ _ _ _=>x
def tag:Fld→Int|.mk _ _ _ _ x _ _ _=>x
def df:Fld→Int|.mk _ _ _ _ _ x _ _=>x
def of:Fld→Nat|.mk _ _ _ _ _ _ x _=>x
def sub:Fld→List Fld|.mk _ _ _ _ _ _ _ x=>x
def has (f:Fld)(v:Int):Bool:=decide (f.fr≤v)&&(decide (f.to<0)||decide (v≤f.to))
def null (f:Fld)(v:Int)(t:T):Bool:=t.z&&decide (f.nu≥0)&&decide (v≥f.nu)
end Fld
def whole (b:List UInt8):List UInt8:=b.take 32767
def things {α : Type}(l:List α):List α:=l.take 32767
def uvarint (n:Nat):List UInt8:=if h:n > 127 then UInt8.ofNat (n%128+128)::uvarint (n/128) else [UInt8.ofNat n]
 termination_by n
 decreasing_by omega
def width:Nat→Nat
 | 1=>1
 | 2=>2
 | 5=>2
 | 3=>4
 | _=>8
def counted (flex null:Bool)(n size:Nat):List UInt8 :=
 if flex&&null then [0] else if flex then uvarint (n+1) else if null then fixed (-1) size else fixed n size
def aC5 (kind:Nat)(pt:T→List UInt8)(null flex:Bool)(t:T):List UInt8 :=
 match kind with
 | 0=>[u8 (t.n%2)]
 | 7=>sixteen t.s
 | 8=>counted flex null (if null then [] else whole t.s).length 2++(if null then [] else whole t.s)
 | 9=>counted flex null (if null then [] else whole t.s).length 4++(if null then [] else whole t.s)
 | 10=>pt t
 | k=>fixed t.n (width k)
def aI2 (f:Fld)(v:Int)(flex:Bool)(pt:T→List UInt8)(t:T):List UInt8 :=
 if f.kind=11 then counted flex (f.null v t) (if f.null v t then [] else things t.l).length 4++(if f.null v t then [] else things t.l).flatMap (aC5 f.of pt false flex)
 else if f.kind=10∧f.nu≥0 then (if f.null v t then fixed (-1) 1 else fixed 1 1++pt t)
 else aC5 f.kind pt (f.null v t) flex t
def known:List Fld→Nat
 | []=>0
 | f::r=>max (if f.tag≥0 then f.tag.toNat+1 else 0) (known r)
def aCY (u:Nat × List UInt8):List (Nat × List UInt8)→List (Nat × List UInt8)
 | []=>[u]
 | x::r=>if x.1<u.1 then x::aCY u r else if x.1=u.1 then x::r else u::x::r
def aAo (fs:List Fld)(u:List (Nat × List UInt8)):List (Nat × List UInt8) :=
 (u.take 32767).foldl (fun out t=>if t.1<known fs then out else aCY t out) []
mutual
def aD8:Fld→T→Bool
 | .mk kind _ _ nu _ df _ sub,t =>
  if kind=0 then t.n%2==df
  else if kind=7 then (t.s.take 16).all (·==0)
  else if kind=8∨kind=9 then (if nu≥0 then t.z else t.s.isEmpty)
  else if kind=11 then t.l.isEmpty
  else if kind=10 then aJ9 sub t.l 0&&(aAo sub t.u).isEmpty
  else fixed t.n (width kind)==fixed df (width kind)
def aJ9:List Fld→List T→Nat→Bool
 | [],_,_=>true
 | f::r,l,i=>aD8 f (l.getD i T.nil)&&aJ9 r l (i+1)
end
def aDt (k:Nat)(b:List UInt8):List UInt8:=uvarint k++uvarint b.length++b
def aCJ:List Fld→Int→List (List UInt8)→List UInt8
 | [],_,_=>[]
 | f::r,v,outs=>(if f.tag<0&&f.has v then outs.headD [] else [])++aCJ r v outs.tail
def aFb (tag:Nat):List Fld→List T→Nat→List (List UInt8)→List (List UInt8)
 | [],_,_,_=>[]
 | f::r,l,i,outs=>(if f.tag=(tag:Int)&&!aD8 f (l.getD i T.nil) then [aDt tag (outs.headD [])] else [])++aFb tag r l (i+1) outs.tail
def aO7 (fs:List Fld)(v:Int)(flex:Bool)(outs:List (List UInt8))(t:T):List UInt8 :=
 if flex then
  aCJ fs v outs++uvarint (((List.range (known fs)).flatMap fun tag=>aFb tag fs t.l 0 outs).length+(aAo fs t.u).length) ++
   ((List.range (known fs)).flatMap fun tag=>aFb tag fs t.l 0 outs).flatten++(aAo fs t.u).flatMap (fun u=>aDt u.1 (whole u.2))
 else aCJ fs v outs
mutual
def aBt:Fld→Int→Bool→T→List UInt8
 | .mk kind fr to nu tag df of sub,v,flex,t=>aI2 (.mk kind fr to nu tag df of []) v flex (fun x=>aO7 sub v flex (aBE sub v flex x.l 0) x) t
def aBE:List Fld→Int→Bool→List T→Nat→List (List UInt8)
 | [],_,_,_,_=>[]
 | f::r,v,flex,l,i=>aBt f v flex (l.getD i T.nil)::aBE r v flex l (i+1)
end
def aBk (fs:List Fld)(v:Int)(flex:Bool)(t:T):List UInt8:=aO7 fs v flex (aBE fs v flex t.l 0) t
def aUf (fs:List Fld)(u:List (Nat × List UInt8)):List (Nat × List UInt8):=(aAo fs u).map fun p=>(p.1,whole p.2)
end Go.Mk
namespace Go.Mk
open Go
def aI3 (f:Fld)(v:Int)(flex:Bool)(t:T):List UInt8:=if f.tag<0&&f.has v then aBt f v flex t else []
theorem aFp (f:Fld)(r:List Fld)(v:Int)(flex:Bool)(l:List T)(i:Nat):aCJ (f::r) v (aBE (f::r) v flex l i)=aI3 f v flex (l.getD i T.nil)++aCJ r v (aBE r v flex l (i+1)):=by
 simp[aCJ,aBE,aI3]
theorem aCh.unV {w:World}{Y:Nat→Prop}{x:Value}{r:List DD}{c:List Value}(h:aCh w Y (.v x::r) c):∃ c2,c=x::c2∧aCh w Y r c2:=by
 simp only[aCh,Rep] at h
 obtain⟨c1,c2,rfl,rfl,h⟩:=h
 exact⟨c2,rfl,h⟩
def aWQ:DD→Prop:=fun d=>∀ (w:World) (Y:Nat→Prop) (c:List Value),Rep w Y d c→c.length=1
theorem aCh.un1 {w:World}{Y:Nat→Prop}{d:DD}{r:List DD}{c:List Value}(hd:aWQ d)(h:aCh w Y (d::r) c):∃ x c2,c=x::c2∧Rep w Y d [x]∧aCh w Y r c2:=by
 simp only[aCh] at h
 obtain⟨c1,c2,rfl,h1,h⟩:=h
 have hl:=hd w Y c1 h1
 match c1,hl with
 | [x],_=>exact⟨x,c2,rfl,h1,h⟩
theorem aCh.unNil {w:World}{Y:Nat→Prop}{c:List Value}(h:aCh w Y [] c):c=[]:=by simpa [aCh] using h
theorem aH9 (x:Value):aWQ (.v x):=fun w Y c h=>by simp only[Rep] at h;simp[h]
theorem aFo (st:Bool)(e:Nat)(l:List DD):aWQ (.sl st e l):=fun w Y c h=>by
 simp only[Rep] at h
 rcases h with ⟨_,p,h,_⟩|⟨b,off,cap,cs,h,_⟩<;>simp[h]
theorem aO3 (d:DD):aWQ (.ptr d):=fun w Y c h=>by
 simp only[Rep] at h
 obtain⟨b,off,cs,h,_⟩:=h
 simp[h]
theorem aC0 (ks:List Nat)(ds:List DD):aWQ (.mp ks ds):=fun w Y c h=>by
 simp only[Rep] at h
 rcases h with ⟨_,_,h⟩|⟨r,vs,h,_⟩<;>simp[h]
theorem aEv {p:Prop} [Decidable p]{a b:DD}(ha:aWQ a)(hb:aWQ b):aWQ (if p then a else b):=by split<;>assumption
theorem aEI {w:World}{Y:Nat→Prop}{x y:Value}(h:Rep w Y (.v x) [y]):y=x:=by simp only[Rep] at h;simpa using h
section
variable {fr to nu tag df:Int}{of:Nat}{sub:List Fld}{tg flex:Bool}{v:Int}{t:T}
theorem aK1 (f:Fld):aBt f v flex t=aI2 f v flex (aBk f.sub v flex) t:=by
 cases f
 unfold aBt
 rfl
end
section
variable {fr to nu tag df:Int}{of:Nat}{sub:List Fld}{tg flex:Bool}{v:Int}{t:T}
theorem bAv {kind:Nat}(h1:fr≤v)(h2:to<0∨v≤to):(Fld.mk kind fr to nu tag df of sub).has v=true:=by
 show (decide (fr≤v)&&(decide (to<0)||decide (v≤to)))=true
 simp only[Bool.and_eq_true,Bool.or_eq_true,decide_eq_true_eq]
 exact⟨h1,h2⟩
end
theorem aFR {α β : Type}(F : α→List β)(l:List α)(k:Nat)(d : α)(h:k<l.length):(l.take (k+1)).flatMap F=(l.take k).flatMap F++F (l.getD k d):=by
 rw[List.take_succ_eq_append_getElem h,List.flatMap_append]
 simp[h]
theorem aJB {α β : Type}(F : α→List β)(l:List α)(k:Nat)(d : α)(h:k<l.length):((l.take k).flatMap F).length+(F (l.getD k d)).length≤(l.flatMap F).length:=by
 rw[← List.length_append,← aFR F l k d h]
 have:l.flatMap F=(l.take (k+1)).flatMap F++(l.drop (k+1)).flatMap F:=by rw[← List.flatMap_append,List.take_append_drop]
 rw[this,List.length_append]
 omega
theorem aE6 {α : Type}(l:List α):(things l).length≤32767:=by simp only[things,List.length_take];omega
theorem aBG (s:List UInt8):(whole s).length≤32767:=by simp only[whole,List.length_take];omega
theorem Mem.rowEq {w0 w:World}{X Z:Nat→Prop}{m:List Ent}(h:Mem w0 X Z m w){i e sz n n':Nat}{v:Value}{xs xs':List Value}(hi:aBi m i=some (.row e sz v n xs))(hn:n=n')(hx:xs=xs') :
  Mem w0 X Z (aBn m i (.row e sz v n' xs')) w:=by
 subst hn hx
 have:aBn m i (.row e sz v n xs)=m:=by
  clear h
  induction m generalizing i with
  | nil=>rfl
  | cons x r ih=>cases i with
   | zero=>simp only[aBi,Option.some.injEq] at hi;subst hi;rfl
   | succ i=>simp only[aBn];rw[ih hi]
 rw[this];exact h
end Go.Mk
namespace Go.Mk
open Go
theorem aAK (s:List UInt8):(sixteen s).length=16:=by simp only[sixteen,List.length_take,List.length_append,List.length_replicate];omega
end Go.Mk
namespace Go.Mk
open Go
theorem aAT:Value.bool false≠.bool true:=nofun
theorem aB0:Value.bool true≠.bool false:=nofun
theorem aLK (b:Bool):undef≠.bool b:=nofun
theorem aKZ {ops:Array Oper}{a:Act}{n j dj:Nat}{l:List (Nat × Value)}{b:Bool}(hk:Kn n l a)(h2:(ops[j]?).bind (·.dst)=some dj)(h3:look l dj=some (.bool b)):yielded ops a.tmps j=some b:=by
 unfold yielded
 have:=hk.at_ _ _ h3
 rw[Array.getD_eq_getD_getElem?] at this
 cases hq:a.tmps[dj]? with
 | none=>rw[hq] at this;simp[undef] at this
 | some x=>rw[hq] at this;simp at this;simp[h2,hq,this]
theorem aQ4 {ops:Array Oper}{a:Act}{n j dj:Nat}{l:List (Nat × Value)}{v:Value}{b:Bool}(hk:Kn n l a)(h2:(ops[j]?).bind (·.dst)=some dj)(h3:look l dj=some v)(hv:v≠.bool b):yielded ops a.tmps j≠some b:=by
 unfold yielded
 have:=hk.at_ _ _ h3
 rw[Array.getD_eq_getD_getElem?] at this
 cases hq:a.tmps[dj]? with
 | none=>simp[h2,hq]
 | some x =>
  rw[hq] at this
  have this:x=v:=by simpa using this
  subst this
  intro h
  simp only[h2,Option.bind_some,hq] at h
  cases x<;>simp at h
  subst h
  exact hv rfl
theorem aLA {ops:Array Oper}{a:Act}{n j dj:Nat}{l:List (Nat × Value)}{v:Value}{b:Bool}{o:Oper}(hk:Kn n l a)(hg:o.guard=some (j,b))(h2:(ops[j]?).bind (·.dst)=some dj)(h3:look l dj=some v)(hv:v≠.bool b) :
  Region.wanted o (yielded ops a.tmps)=false:=by
 have:=aQ4 hk h2 h3 hv
 simp[Region.wanted,hg,this]
theorem oS0 {P:Program}{ops:Array Oper}{Q:Exit→Act→World→Prop}{rest:List Oper}{a:Act}{w:World}{n d:Nat}{l:List (Nat × Value)}{o:Oper}(hk:Kn n l a)
  (hg:∃ j b dj v,o.guard=some (j,b)∧(ops[j]?).bind (·.dst)=some dj∧look l dj=some v∧v≠.bool b) (hd:o.dst=some d) (hdn:Nat.blt d n=true)
  (K:∀ a',Kn n ((d,undef)::l) a'→wpList P ops Q rest a' w):wpList P ops Q (o::rest) a w:=by
 obtain⟨j,b,dj,u,h1,h2,h3,h4⟩:=hg
 have hw:=aLA hk h1 h2 h3 h4
 unfold wpList
 rw[if_neg (by simp[hw])]
 rw[hd]
 exact K _ (hk.put d undef hdn)
section
variable {P:Program}{ops:List Oper}{Q:Exit→Act→World→Prop}{M:World→Prop}{K:Nat}
theorem aAX {i f:Nat}{listed:Array Bool}{o:Oper}{d:Nat}{v:Value}{a:Act}{w:World}{n:Nat}{l:List (Nat × Value)}(hi:ops[i]? = some o)
  (hg:∃ j b dj,o.guard=some (j,b)∧(ops.toArray[j]?).bind (·.dst)=some dj∧look l dj=some (.bool b)) (hd:o.dst=some d)
  (hok:aL2 ops listed K i=true) (hQ:∀ c a w,Q (.panic c) (a.put (some d) v) w→Q (.panic c) a w) (hk:Kn n l a) (hdn:Nat.blt d n=true) (hy:∀ w,M w→aDp P o a w v w) (hM:M w)
  (h:∀ a',Kn n ((d,v)::l) a'→aCu P ops.toArray Q M K f (listed.setIfInBounds i true) a' w):aCu P ops.toArray Q M K (f+1) listed a w:=by
 simp only[aL2,Bool.and_eq_true,bne_iff_ne,ne_eq,beq_iff_eq] at hok
 obtain⟨⟨⟨⟨⟨⟨h1,h2⟩,h3⟩,h4⟩,h5⟩,_⟩,h7⟩:=hok
 have hi':ops.toArray[i]? = some o:=by simpa using hi
 obtain⟨j,b,dj,g1,g2,g3⟩:=hg
 have hyd:yielded ops.toArray a.tmps j=some b:=aKZ hk g2 g3
 refine aJk (v:=v) hi' (Region.noSelect_spec h1) (by rw[hd];exact hQ) h4 h5 f listed a w (aMO (by simpa using h7)) (Region.free_spec hi' h2) (by simpa using h3)
  (.inl ⟨by simp[Region.wanted,g1,hyd],hy⟩) hM ?_
 rw[hd]
 exact h _ (hk.put d v hdn)
theorem aBQ {i f:Nat}{listed:Array Bool}{o:Oper}{d:Nat}{a:Act}{w:World}{n:Nat}{l:List (Nat × Value)}(hi:ops[i]? = some o)
  (hg:∃ j b dj u,o.guard=some (j,b)∧(ops.toArray[j]?).bind (·.dst)=some dj∧look l dj=some u∧u≠.bool b) (hd:o.dst=some d)
  (hok:aL2 ops listed K i=true) (hQ:∀ c a w,Q (.panic c) (a.put (some d) undef) w→Q (.panic c) a w) (hk:Kn n l a) (hdn:Nat.blt d n=true) (hM:M w)
  (h:∀ a',Kn n ((d,undef)::l) a'→aCu P ops.toArray Q M K f (listed.setIfInBounds i true) a' w):aCu P ops.toArray Q M K (f+1) listed a w:=by
 simp only[aL2,Bool.and_eq_true,bne_iff_ne,ne_eq,beq_iff_eq] at hok
 obtain⟨⟨⟨⟨⟨⟨h1,h2⟩,h3⟩,h4⟩,h5⟩,_⟩,h7⟩:=hok
 have hi':ops.toArray[i]? = some o:=by simpa using hi
 obtain⟨j,b,dj,u,g1,g2,g3,g4⟩:=hg
 have hw0:=aLA hk g1 g2 g3 g4
 refine aJk (v:=undef) hi' (Region.noSelect_spec h1) (by rw[hd];exact hQ) h4 h5 f listed a w (aMO (by simpa using h7)) (Region.free_spec hi' h2) (by simpa using h3)
  (.inr ⟨hw0,rfl⟩) hM ?_
 rw[hd]
 exact h _ (hk.put d undef hdn)
theorem aBU {k f:Nat}{listed:Array Bool}{o o':Oper}{a:Act}{w:World}{n:Nat}{l:List (Nat × Value)}(hr:Region.ready .any ops.toArray listed=[k])(hi:ops[k]? = some o)(hk:Kn n l a)
  (hg:∃ j b dj,o.guard=some (j,b)∧(ops.toArray[j]?).bind (·.dst)=some dj∧look l dj=some (.bool b)) (ho:o'={ o with guard:=none })
  (h:wpList P ops.toArray (Exit.then (fun a' w'=>((listed.setIfInBounds k true).getD K false=false→M w')∧aCu P ops.toArray Q M K f (listed.setIfInBounds k true) a' w') Q) [o'] a w) :
  aCu P ops.toArray Q M K (f+1) listed a w:=by
 refine⟨fun h0=>(by rw[hr] at h0;cases h0),fun i hi'=>?_⟩
 rw[hr] at hi'
 have:i=k:=by simpa using hi'
 subst this
 have h':=aAu (ops:=ops.toArray) (rest:=[]) hk hg ho h
 unfold wpOp
 have hi'':ops.toArray[i]? = some o:=by simpa using hi
 simp only[hi'']
 unfold wpList at h'
 split at h'
 ·rename_i hw
  rw[if_pos hw]
  rcases h' with h|h
  ·left
   unfold Oper.wp at *
   generalize (execOp a.eval o).run P w=r at *
   cases r with
   | ok n w' =>
    cases n<;>simp only[Oper.upon] at h ⊢<;>exact h
   | halt x w'=>cases x<;>simp only[Oper.upon] at h ⊢<;>exact h
  ·right
   obtain⟨h1,a0,w0,h0⟩:=h
   exact⟨h1,a0,w0,h0⟩
 ·rename_i hw
  obtain⟨j,b,dj,g1,g2,g3⟩:=hg
  have hyd:yielded ops.toArray a.tmps j=some b:=aKZ hk g2 g3
  exact absurd (by simp[Region.wanted,g1,hyd]) hw
theorem aCU {k f:Nat}{listed:Array Bool}{o:Oper}{a:Act}{w:World}{n d:Nat}{l:List (Nat × Value)}(hr:Region.ready .any ops.toArray listed=[k])(hi:ops[k]? = some o)(hk:Kn n l a)
  (hg:∃ j b dj u,o.guard=some (j,b)∧(ops.toArray[j]?).bind (·.dst)=some dj∧look l dj=some u∧u≠.bool b) (hd:o.dst=some d) (hdn:Nat.blt d n=true) (hM:M w)
  (h:∀ a',Kn n ((d,undef)::l) a'→aCu P ops.toArray Q M K f (listed.setIfInBounds k true) a' w) :
  aCu P ops.toArray Q M K (f+1) listed a w:=by
 refine⟨fun h0=>(by rw[hr] at h0;cases h0),fun i hi'=>?_⟩
 rw[hr] at hi'
 have:i=k:=by simpa using hi'
 subst this
 unfold wpOp
 have hi'':ops.toArray[i]? = some o:=by simpa using hi
 obtain⟨j,b,dj,u,g1,g2,g3,g4⟩:=hg
 have hw0:=aLA hk g1 g2 g3 g4
 simp only[hi'',hw0,Bool.false_eq_true,if_false]
 rw[hd]
 exact⟨fun _=>hM,h _ (hk.put d undef hdn)⟩
end
theorem aQV {P:Program}{ops:Array Oper}{Q:Exit→Act→World→Prop}{M:World→Prop}{K i:Nat}{oi:Oper}{v:Value}(hi:ops[i]? = some oi)(hsel:∀ (j:Nat) (o:Oper) cs b,ops[j]? = some o→o.op≠.select cs b)
  (hQ:∀ c a w,Q (.panic c) (a.put oi.dst v) w→Q (.panic c) a w) (hKi:K≠i) :
  ∀ (f:Nat) (listed:Array Bool) (a:Act) (w:World),
   (∀ j oj,ops[j]? = some oj→j≠i→listed.getD j true=false→(∀ e ∈ oj.after,Region.binds .any e=true→e.on≠i)→oi.apart ops oj=true) →
   i ∈ Region.ready .any ops listed→YieldsIf P ops (fun _=>True) oi v a→(listed.getD K false=false→M w) →
   aCu P ops Q M K f (listed.setIfInBounds i true) (a.put oi.dst v) w→aCu P ops Q M K (f+1) listed a w:=by
 intro f
 induction f with
 | zero =>
  intro listed a w _ hr hy hS H
  refine⟨fun h=>(by rw[h] at hr;cases hr),fun j hj=>?_⟩
  by_cases hji:j=i
  ·subst hji;exact hy.wpOp hi trivial ⟨fun h=>hS (by rwa [getD_set_ne false (Ne.symm hKi)] at h),H⟩
  ·have:=ready_mono hj hji
   rw[H.1] at this
   cases this
 | succ f ih =>
  intro listed a w hfree hr hy hS H
  refine⟨fun h=>(by rw[h] at hr;cases hr),fun j hj=>?_⟩
  by_cases hji:j=i
  ·subst hji;exact hy.wpOp hi trivial ⟨fun h=>hS (by rwa [getD_set_ne false (Ne.symm hKi)] at h),H⟩
  ·have h1:=H.2 j (ready_mono hj hji)
   obtain⟨hjun,oj,hoj,hall⟩:=mem_ready.1 hj
   have hun:=(mem_ready.1 hr).1
   have hunF:∀ k,listed.getD k true=false→listed.getD k false=false:=fun k h=>by
    rcases Nat.lt_or_ge k listed.size with h'|h'
    ·simp[h'] at h ⊢;exact h
    ·simp[Array.getElem?_eq_none h'] at h
   have hnot:∀ e ∈ oj.after,Region.binds .any e=true→e.on≠i:=fun e he hb heq=>by
    have h2:=hall e he hb
    rw[heq,hunF i hun] at h2
    cases h2
   have h2:=wpOp_putIf hoj (hfree j oj hoj hji hjun hnot) (fun cs b=>hsel i oi cs b hi) (fun cs b=>hsel j oj cs b hoj) hQ hy h1
   have hfree':∀ k ok,ops[k]? = some ok→k≠i→(listed.setIfInBounds j true).getD k true=false →
     (∀ e ∈ ok.after,Region.binds .any e=true→e.on≠i)→oi.apart ops ok=true:=fun k ok hk hki hun hno=>by
    refine hfree k ok hk hki ?_ hno
    by_cases hjk:j=k
    ·subst hjk;exact hjun
    ·rw[getD_set_ne true hjk] at hun;exact hun
   refine wpOp_mono (fun a' w' h3=>?_) h2
   obtain⟨hy',hMK,hrest⟩:=h3
   have hMK':(listed.setIfInBounds j true).getD K false=false→M w':=fun h=>hMK (by
    rw[Array.setIfInBounds_comm _ _ (Ne.symm hji),getD_set_ne false (Ne.symm hKi)]
    exact h)
   refine⟨hMK',ih (listed.setIfInBounds j true) a' w' hfree' (ready_mono hr (Ne.symm hji)) hy' hMK' ?_⟩
   rw[Array.setIfInBounds_comm _ _ hji]
   exact hrest
def aU2 (ops:List Oper)(listed:Array Bool)(K i:Nat):Bool :=
 Region.noSelect ops.toArray&&Region.free .any ops.toArray listed i&&(Region.ready .any ops.toArray listed).contains i&&K != i
theorem aTH {P:Program}{ops:List Oper}{Q:Exit→Act→World→Prop}{M:World→Prop}{K i f:Nat}{listed:Array Bool}{o:Oper}{d:Nat}{v:Value}{a:Act}{w:World}{n:Nat}{l:List (Nat × Value)}(hi:ops[i]? = some o)(hg:o.guard=none)(hd:o.dst=some d)
  (hok:aU2 ops listed K i=true) (hQ:∀ c a w,Q (.panic c) (a.put (some d) v) w→Q (.panic c) a w) (hk:Kn n l a) (hdn:Nat.blt d n=true) (hy:∀ w,aDp P o a w v w) (hM:listed.getD K false=false→M w)
  (h:∀ a',Kn n ((d,v)::l) a'→aCu P ops.toArray Q M K f (listed.setIfInBounds i true) a' w):aCu P ops.toArray Q M K (f+1) listed a w:=by
 simp only[aU2,Bool.and_eq_true,bne_iff_ne,ne_eq] at hok
 obtain⟨⟨⟨h1,h2⟩,h3⟩,h5⟩:=hok
 have hi':ops.toArray[i]? = some o:=by simpa using hi
 refine aQV (v:=v) hi' (Region.noSelect_spec h1) (by rw[hd];exact hQ) h5 f listed a w (Region.free_spec hi' h2) (by simpa using h3)
  (.inl ⟨by simp[Region.wanted,hg],fun w _=>hy w⟩) hM ?_
 rw[hd]
 exact h _ (hk.put d v hdn)
theorem aL3 {P:Program}{Q:Exit→Act→World→Prop}{a:Act}{w:World}{id:Nat}{body:Code}(R:Nat→Act→World→Prop)(g0:Nat)(h0:R g0 a w)
  (hb:∀ g a w,R g a w→body.wp P (Exit.then (fun a' w'=>∃ g',g'<g∧R g' a' w') (Exit.inBlock id Q)) a w):(Code.block id (.loop body)).wp P Q a w :=
 wp_block (wp_loop_ghost (fun g a w=>R g a w) g0 h0 fun g a w h=>hb g a w h)
section
variable {w0 w w':World}{X Z:Nat→Prop}{m:List Ent}{i e sz n n':Nat}{v v':Value}{xs xs':List Value}
theorem Mem.rowNew (h:Mem w0 X Z m w)(hr:aNA w e sz (.slice none 0 0) n xs v w'):Mem w0 X Z (.row e sz v n xs::m) w' :=
 (h.addNil e sz).rowCall (i:=0) rfl hr
theorem Mem.rowOut (h:Mem w0 Nob Z m w)(hi:aBi m i=some (.row e sz v n xs)):aNA w0 e sz (.slice none 0 0) n xs v w:=by
 refine⟨h.agr.mono fun _ _ x=>x.elim,h.all _ (eA0 hi),fun k hk=>?_⟩
 have hb:=h.own k (aBI (eA0 hi) (by simp[Ent.mut,hk]))
 by_cases hlt:k<w0.heap.size
 ·exact (hb.2 hlt).elim
 ·exact .inr (by omega)
theorem aIZ {P:Program}{t:Nat}(ht:aBA P t=some e)(h:w.ownsRow 0 e sz v n xs)(h1:aBP xs=true):Src P sz t v n xs w:=by
 rcases h.2 with ⟨rfl,rfl⟩|⟨g,cap,cur,rfl,_⟩
 ·have hx:xs=[]:=List.eq_nil_of_length_eq_zero (by simpa using h.1)
  subst hx
  exact aTX ht
 ·exact Src.ofSlice w (aCi ht) ⟨g,0,none⟩ n cap xs h.1 (h.cells (g:=g) rfl) (aDN h1)
end
end Go.Mk
namespace Go.Mk
open Go
mutual
def aBg:Fld→DD
 | .mk kind fr to nu tag df of sub=>.agg [.v (.int .i64 (kind:Int)),.v (.int .i64 fr),.v (.int .i64 to),.v (.int .i64 nu),.v (.int .i64 tag),.v (.int .i64 df),.v (.int .i64 (of:Int)),.sl false 8 (aV5 sub)]
def aV5:List Fld→List DD
 | []=>[]
 | f::r=>aBg f::aV5 r
end
theorem aMU:∀ l:List Fld,aV5 l=l.map aBg
 | []=>rfl
 | f::r=>by simp[aV5,aMU r]
theorem aIn {w:World}{Y:Nat→Prop}{f:Fld}{c:List Value}(h:Rep w Y (aBg f) c) :
  ∃ p cap,c=[.int .i64 (f.kind:Int),.int .i64 f.fr,.int .i64 f.to,.int .i64 f.nu,.int .i64 f.tag,.int .i64 f.df,.int .i64 (f.of:Int),.slice p f.sub.length cap]∧Rep w Y (.sl false 8 (f.sub.map aBg)) [.slice p f.sub.length cap]:=by
 cases f with
 | mk kind fr to nu tag df of sub =>
  simp only[aBg,aMU] at h
  have g0:=aA8 h
  obtain⟨c0,rfl,g1⟩:=g0.unV
  obtain⟨c1,rfl,g2⟩:=g1.unV
  obtain⟨c2,rfl,g3⟩:=g2.unV
  obtain⟨c3,rfl,g4⟩:=g3.unV
  obtain⟨c4,rfl,g5⟩:=g4.unV
  obtain⟨c5,rfl,g6⟩:=g5.unV
  obtain⟨c6,rfl,g7⟩:=g6.unV
  obtain⟨x,c9,rfl,h1,g8⟩:=g7.un1 (aFo _ _ _)
  obtain rfl:=g8.unNil
  obtain⟨p,cap,rfl⟩:=aCS h1
  rw[List.length_map] at h1 ⊢
  exact⟨p,cap,rfl,h1⟩
theorem aB6 {w:World}{Y:Nat→Prop}{t:T}{c:List Value}(h:Rep w Y (ddT t) c):∃ ps caps p cap pu capu,c=[.int .i64 t.n,.slice ps t.s.length caps,.bool t.z,.slice p t.l.length cap,.slice pu t.u.length capu]:=by
 obtain⟨cs,cl,cu,rfl,h1,h2,h3⟩:=aSV h
 obtain⟨ps,caps,rfl⟩:=aCS h1
 obtain⟨p,cap,rfl⟩:=aCS h2
 obtain⟨pu,capu,rfl⟩:=aCS h3
 exact⟨ps,caps,p,cap,pu,capu,by simp⟩
theorem aG4 {w:World}{Y:Nat→Prop}{u:Nat × List UInt8}{c:List Value}(h:Rep w Y (aBT u) c):∃ p cap,c=[.int .u32 (u.1:Int),.slice p u.2.length cap]∧Rep w Y (aDJ u.2) [.slice p u.2.length cap]:=by
 have g0:=aA8 h
 obtain⟨c2,rfl,g1⟩:=g0.unV
 obtain⟨x,c3,rfl,h1,g2⟩:=g1.un1 (aFo _ _ _)
 obtain rfl:=g2.unNil
 obtain⟨p,cap,rfl⟩:=aCS h1
 exact⟨p,cap,by simp,by rw[List.length_map] at h1;exact h1⟩
theorem aOS {w:World}{Y:Nat→Prop}{u:Nat × List UInt8}{x y:Value}(h:Rep w Y (aBT u) [x,y]):Rep w Y (aDJ u.2) [y]:=by
 obtain⟨p,cap,he,h⟩:=aG4 h
 simp only[List.cons.injEq,and_true] at he
 rw[he.2];exact h
theorem aEB {w:World}{Y:Nat→Prop}{f:Fld}{a b c d e g i x:Value}(h:Rep w Y (aBg f) [a,b,c,d,e,g,i,x]):Rep w Y (.sl false 8 (f.sub.map aBg)) [x]:=by
 obtain⟨p,cap,he,h⟩:=aIn h
 simp only[List.cons.injEq,and_true] at he
 rw[he.2.2.2.2.2.2.2];exact h
theorem aYd {w:World}{Y:Nat→Prop}{b:UInt8}{c:List Value}(h:Rep w Y (ddB b) c):c=[.int .u8 (b.toNat:Int)]:=by simpa only[ddB,Rep] using h
theorem aLL {w:World}{Y:Nat→Prop}{u:Nat × List UInt8}{y:Value}(h:Rep w Y (aDJ u.2) [y]):Rep w Y (aBT u) [.int .u32 (u.1:Int),y] :=
 aHW (aCh.cons1 (aCn _) (aCh.cons1 h aCh.nil))
theorem aKd {w:World}{Y:Nat→Prop}{esz:Nat}{l:List DD}{p:Option Addr}{n cap:Nat}(h:Rep w Y (.sl false esz l) [.slice p n cap])(k:Nat)(hk:k≤n):k≤cap∧Rep w Y (.sl false esz (l.take k)) [.slice p k cap]:=by
 rcases aLZ h with ⟨rfl,q,he,_⟩|⟨b,off,cap',cs,he,h2,h3,h4⟩
 ·simp only[Value.slice.injEq] at he
  obtain⟨rfl,rfl,rfl⟩:=he
  have:k=0:=by omega
  subst this
  exact⟨by omega,by simpa using h⟩
 ·simp only[Value.slice.injEq] at he
  obtain⟨rfl,rfl,rfl⟩:=he
  refine⟨by omega,?_⟩
  simp only[Rep]
  refine .inr ⟨b,off,cap,cs.take (k*esz),by rw[List.length_take];congr 3;omega,by rw[List.length_take];omega,?_,?_⟩
  ·intro j u hj
   rw[List.getElem?_take] at hj
   split at hj
   ·exact h3 j u hj
   ·cases hj
  ·clear h3 h
   have:∀ (l:List DD) (cs:List Value) (k:Nat),k≤l.length→aBf w Y esz l cs→aBf w Y esz (l.take k) (cs.take (k*esz)):=by
    intro l
    induction l with
    | nil =>
     intro cs k hk h
     have:k=0:=by simpa using hk
     subst this;simp[aBf]
    | cons d r ih =>
     intro cs k hk h
     cases k with
     | zero=>simp[aBf]
     | succ k =>
      simp only[aBf] at h
      obtain⟨c1,c2,rfl,h1,h2,h3⟩:=h
      simp only[List.take_succ_cons,aBf]
      refine⟨c1,c2.take (k*esz),?_,h1,h2,ih c2 k (by simpa using hk) h3⟩
      rw[Nat.add_mul,Nat.one_mul,List.take_append,h1,List.take_of_length_le (by omega)]
      congr 2
      omega
   exact this l cs k hk h4
end Go.Mk
namespace Go.Mk
open Go
def aTD (u:Nat × List UInt8):Bool:=!decide (((u.2.length:Nat):Int) > 2147483647)
def aUP (us:List (Nat × List UInt8)):Bool:=!decide (((us.length:Nat):Int) > 2147483647)&&us.all aTD
def aZL (t:T):Bool:=!decide (((t.s.length:Nat):Int) > 2147483647)&&!decide (((t.l.length:Nat):Int) > 2147483647)&&aUP t.u
theorem aVQ {α : Type}{f : α→Bool}{l:List α}{k:Nat}{d : α}(h:(l.take k).all f=true)(hlt:k<l.length)(hc:(!f (l.getD k d))=false):(l.take (k+1)).all f=true:=by
 rw[List.take_succ_eq_append_getElem hlt,List.all_append,h]
 have:l.getD k d=l[k]:=by simp[hlt]
 rw[this] at hc
 simpa using hc
theorem aTT {α : Type}{f : α→Bool}{l:List α}{k:Nat}{d : α}(hlt:k<l.length)(hc:(!f (l.getD k d))=true):l.all f=false:=by
 have:l.getD k d=l[k]:=by simp[hlt]
 rw[this] at hc
 rw[← Bool.not_eq_true,List.all_eq_true]
 intro h
 have:=h l[k] (List.getElem_mem hlt)
 simp[this] at hc
theorem aPn {a b:List UInt8}{k:Nat}(h:a.take k=b.take k)(hl:a.length=b.length)(hlt:k<a.length)(he:a.getD k 0=b.getD k 0):a.take (k+1)=b.take (k+1):=by
 rw[List.take_succ_eq_append_getElem hlt,List.take_succ_eq_append_getElem (by omega:k<b.length),h]
 have h1:a.getD k 0=a[k]:=by simp[hlt]
 have h2:b.getD k 0=b[k]:=by simp[hl ▸ hlt]
 rw[h1,h2] at he
 rw[he]
theorem aRP {x y:UInt8}(h:((x.toNat:Nat):Int)=y.toNat):x=y:=UInt8.toNat_inj.1 (by omega)
theorem aMJ (fs:List Fld)(k:Nat)(d:Fld)(hlt:k<fs.length):known (fs.take (k+1))=max (known (fs.take k)) (if (fs.getD k d).tag≥0 then (fs.getD k d).tag.toNat+1 else 0):=by
 have h:∀ (l:List Fld) (f:Fld),known (l++[f])=max (known l) (if f.tag≥0 then f.tag.toNat+1 else 0):=by
  intro l f
  induction l with
  | nil=>simp[known]
  | cons x r ih=>simp only[List.cons_append,known,ih];omega
 rw[List.take_succ_eq_append_getElem hlt,h]
 simp[hlt]
def aIt (fs:List Fld):Bool:=fs.all fun f=>decide (f.tag<1000000)
theorem aQR {fs:List Fld}(h:aIt fs=true){k:Nat}(hlt:k<fs.length)(d:Fld):(fs.getD k d).tag<1000000:=by
 have:=List.all_eq_true.1 h fs[k] (List.getElem_mem hlt)
 simpa [hlt] using this
theorem aOT {fs:List Fld}(h:aIt fs=true):known fs≤1000000:=by
 induction fs with
 | nil=>simp[known]
 | cons f r ih =>
  simp only[aIt,List.all_cons,Bool.and_eq_true,decide_eq_true_eq] at h
  have:=ih h.2
  simp only[known]
  split<;>omega
def aAm:Fld:=.mk 0 0 0 0 0 0 0 []
theorem aO4 {fs:List Fld}(h:aIt fs=true)(k:Nat):known (fs.take k)≤1000000:=aOT (by
 simp only[aIt,List.all_eq_true] at h ⊢
 exact fun x hx=>h x (List.mem_of_mem_take hx))
end Go.Mk
namespace Go.Mk
open Go
theorem aHL (k:Nat):width k=if k=1 then 1 else if k=2∨k=5 then 2 else if k=3 then 4 else 8:=by
 match k with
 | 0=>rfl
 | 1=>rfl
 | 2=>rfl
 | 3=>rfl
 | 4=>rfl
 | 5=>rfl
 | k+6 => 
  have h1 : ¬ k+6=1:=by omega
  have h2 : ¬ (k+6=2∨k+6=5):=by omega
  have h3 : ¬ k+6=3:=by omega
  rw[if_neg h1,if_neg h2,if_neg h3]
  rfl
theorem aVb {w:World}{Y:Nat→Prop}{s:List UInt8}{p:Option Addr}{cap:Nat}(h:Rep w Y (.sl false 1 ((s.map ddB).take (whole s).length)) [.slice p (whole s).length cap]):Rep w Y (aDJ (whole s)) [.slice p (whole s).length cap]:=by
 have e:(s.map ddB).take (whole s).length=(whole s).map ddB:=by
  rw[← List.map_take]
  congr 1
  simp only[whole,List.length_take]
  rcases Nat.le_total 32767 s.length with h|h
  ·rw[Nat.min_eq_left h]
  ·rw[Nat.min_eq_right h,List.take_length,List.take_of_length_le h]
 rw[e] at h
 exact h
theorem aSG {w:World}{Y:Nat→Prop}{s:List T}{p:Option Addr}{cap:Nat}(h:Rep w Y (.sl false 5 ((s.map ddT).take (things s).length)) [.slice p (things s).length cap]):Rep w Y (.sl false 5 ((things s).map ddT)) [.slice p (things s).length cap]:=by
 have e:(s.map ddT).take (things s).length=(things s).map ddT:=by
  rw[← List.map_take]
  congr 1
  simp only[things,List.length_take]
  rcases Nat.le_total 32767 s.length with h|h
  ·rw[Nat.min_eq_left h]
  ·rw[Nat.min_eq_right h,List.take_length,List.take_of_length_le h]
 rw[e] at h
 exact h
section
variable {P:Program}{ops:Array Oper}{Q:Exit→Act→World→Prop}{rest:List Oper}{a:Act}{w:World}{n:Nat}{l:List (Nat × Value)}
variable {d:Nat}{ty:Nat}{ps:String}{af:Array Edge}
theorem bBl {x y:Operand}{tys:Array Nat}{k k':IntKind}{i j c:Int}(hk:Kn n l a)(hx:ev l x=some (.int k i))(hy:ev l y=some (.int k' j))(hc:max i j=c)(hd:Nat.blt d n=true)(K:∀ a',Kn n ((d,.int k c)::l) a'→wpList P ops Q rest a' w) :
  wpList P ops Q (⟨some d,.call ⟨.builtin .max,#[x,y],tys⟩,ty,ps,af,none⟩::rest) a w:=by
 refine aAD hk rfl rfl hd ?_ K
 subst hc
 unfold aDp execOp
 simp[hk.eval hx,hk.eval hy,resolve,invoke,builtin,Builtin.max_,Builtin.max2]
 by_cases h:j > i
 ·rw[if_pos h,Int.max_eq_right (by omega)]
 ·rw[if_neg h,Int.max_eq_left (by omega)]
end
end Go.Mk
namespace Go.Mk
open Go
section
variable {w0 w w':World}{X Z:Nat→Prop}{m:List Ent}{i e sz n n':Nat}{v v':Value}{xs xs':List Value}
theorem Mem.blkRow (h:Mem w0 X Z m w){b:Nat}{cs:List Value}(hi:aBi m i=some (.blk b cs e))(hl:cs.length=n*sz)(hn:n≤maxLen):Mem w0 X Z (aBn m i (.row e sz (.slice (some ⟨b,0,none⟩) n n) n cs)) w:=by
 have hmu:muts (aBn m i (.row e sz (.slice (some ⟨b,0,none⟩) n n) n cs))=muts m:=aFZ hi (by simp[Ent.mut,Value.ownBlock])
 have hy:Yof w0 Z (aBn m i (.row e sz (.slice (some ⟨b,0,none⟩) n n) n cs))=Yof w0 Z m:=by funext x;simp[Yof,hmu]
 refine⟨h.agr,h.sub,by rw[hmu];exact h.nodup,by rw[hmu];exact h.own,?_⟩
 rw[hy]
 intro x hx
 rcases aFC hx with rfl|⟨j,_,hj⟩
 ·have hb:=h.all _ (eA0 hi)
  simp only[Ent.holds] at hb ⊢
  refine⟨hl,.inr ⟨b,n,cs.toArray,rfl,Nat.zero_le _,hb,Nat.le_refl _,hn,by simpa using hl,?_⟩⟩
  rw[← hl]
  exact List.take_length
 ·exact h.all x (eA0 hj)
theorem aLb {P:Program}{Y:Nat→Prop}{t:Nat}{s:List UInt8}(ht:aBA P t=some e)(h:Rep w Y (aDJ s) [v]):Src P 1 t v s.length (bv s) w:=by
 rcases aLZ h with ⟨h1,p,rfl,_⟩|⟨b,off,cap,cs,rfl,h2,h3,h4⟩
 ·have:s=[]:=by simpa using h1
  subst this
  cases p with
  | none=>exact aTX ht
  | some a=>exact Src.ofSlice w (aCi ht) a 0 0 [] rfl (fun j u hj=>by simp at hj) (fun v hv=>by cases hv)
 ·have hcs:=aLw h4
  subst hcs
  rw[List.length_map]
  exact aDP ht (by simp[aCV]) h3.at_ (aHH s)
end
theorem aSW (n:Nat)(h:n<18446744073709551616):ibits .and .u64 (n:Int) 127=some ((n%128:Nat):Int):=by
 have h2:(BitVec.ofInt 64 (n:Int) &&& BitVec.ofInt 64 127).toNat=n%128:=by
  have h1:(BitVec.ofInt 64 127)=127#64:=by decide
  rw[h1,BitVec.toNat_and]
  have h2:(127#64).toNat=2 ^ 7 - 1:=by decide
  rw[h2,Nat.and_two_pow_sub_one_eq_mod]
  have h3:(BitVec.ofInt 64 (n:Int)).toNat=n:=by rw[BitVec.toNat_ofInt];omega
  rw[h3]
 show some (IntKind.u64.wrap (((BitVec.ofInt 64 (n:Int) &&& BitVec.ofInt 64 127).toNat:Nat):Int))=_
 rw[h2]
 congr 1
 simp only[IntKind.wrap,IntKind.bits,IntKind.signed]
 simp
 omega
theorem aVz (n:Nat)(h:n<128):ibits .or .u8 (n:Int) 128=some ((n+128:Nat):Int):=by
 have h2:∀ k:Fin 128,(BitVec.ofInt 8 (k.val:Int) ||| BitVec.ofInt 8 128).toNat=k.val+128:=by decide
 have h3:=h2 ⟨n,h⟩
 show some (IntKind.u8.wrap (((BitVec.ofInt 8 (n:Int) ||| BitVec.ofInt 8 128).toNat:Nat):Int))=_
 simp only at h3
 rw[h3,IntKind.wrap_u8]
 congr 1
 omega
theorem aNH (n:Nat):∀ k,n<128 ^ k→0<k→(uvarint n).length≤k:=by
 intro k
 induction k generalizing n with
 | zero=>intro _ h;omega
 | succ k ih =>
  intro h _
  unfold uvarint
  split
  ·rename_i hn
   have hk : 0<k:=by
    rcases Nat.eq_zero_or_pos k with rfl|hk
    ·simp at h;omega
    ·exact hk
   have:=ih (n/128) (by rw[Nat.pow_succ] at h;omega) hk
   simp only[List.length_cons]
   omega
  ·simp
theorem aBX (n:Nat)(h:n<18446744073709551616):(uvarint n).length≤10:=aNH n 10 (by omega) (by omega)
theorem aII {flex null:Bool}{n size:Nat}(hs:size≤8)(hn:n≤room):(counted flex null n size).length≤10:=by
 unfold room at hn
 unfold counted
 split
 ·simp
 ·split
  ·exact aBX _ (by omega)
  ·split<;>rw[aBL]<;>omega
theorem aYA (xs:List UInt8)(n:Int):bv xs++[.int .u8 (IntKind.u8.wrap n)]=bv (xs++[u8 n]):=by rw[aCx,bAF];rfl
theorem aTk (n:Int)(k:Nat):fixed n (k+1)=u8 (n/2 ^ (8*k))::fixed n k:=rfl
theorem aG3 {n:Nat}(h:n > 127):uvarint n=UInt8.ofNat (n%128+128)::uvarint (n/128):=by rw[uvarint];rw[dif_pos h]
theorem aDv {n:Nat}(h : ¬ n > 127):uvarint n=[UInt8.ofNat n]:=by rw[uvarint];rw[dif_neg h]
theorem aRk (xs:List UInt8)(n:Nat)(h:n<256):bv xs++[.int .u8 (n:Int)]=bv (xs++[UInt8.ofNat n]):=by
 rw[aCx]
 have:(UInt8.ofNat n).toNat=n:=by simp[UInt8.toNat_ofNat'];omega
 simp only[bv,List.map_cons,List.map_nil,this]
section
variable {P:Program}{ops:Array Oper}{Q:Exit→Act→World→Prop}{rest:List Oper}{a:Act}{w:World}{n:Nat}{l:List (Nat × Value)}
variable {d:Nat}{ty:Nat}{ps:String}{af:Array Edge}
theorem aZM {x y:Operand}{t t' s:Nat}{k yk:IntKind}{i c:Int}(hk:Kn n l a)(hx:ev l x=some (.int k i))(hy:ev l y=some (.int yk (s:Int)))(hs:s≤k.bits)(hc:i/2 ^ s=c)(hd:Nat.blt d n=true)
  (K:∀ a',Kn n ((d,.int k c)::l) a'→wpList P ops Q rest a' w) :
  wpList P ops Q (⟨some d,.binOp .shr t x y t',ty,ps,af,none⟩::rest) a w:=by
 refine aAD hk rfl rfl hd ?_ K
 subst hc
 unfold aDp execOp
 have h1 : ¬ ((s:Int)<0):=by omega
 have h2:min (s:Int).toNat k.bits=s:=by simp;omega
 simp only[Sem.run_bind,hk.eval hx,hk.eval hy,eqGuard_at_int,Sem.run_pure,Result.andThen_ok,binOp,Op.shift,if_neg h1,h2]
 rw[Int.fdiv_eq_ediv_of_nonneg _ (Int.pow_nonneg (by decide))]
end
end Go.Mk
namespace Go.Mk
open Go
theorem aYL {p:T→Prop}(h:∀ t,(∀ x ∈ t.l,p x)→p t):∀ t,p t:=by
 have key:∀ (n:Nat) (t:T),SizeOf.sizeOf t<n→p t:=by
  intro n
  induction n with
  | zero=>intro t ht;omega
  | succ n ih =>
   intro t ht
   refine h t fun x hx=>ih x ?_
   cases t with
   | mk a s z l u =>
    have h1:SizeOf.sizeOf x<SizeOf.sizeOf l:=List.sizeOf_lt_of_mem hx
    simp only[T.mk.sizeOf_spec] at ht
    omega
 exact fun t=>key _ t (Nat.lt_succ_self _)
theorem aC9 {α : Type}{l:List α}{k:Nat}{d : α}(h:k<l.length):l.getD k d ∈ l:=by
 have:l.getD k d=l[k]:=by simp[h]
 rw[this];exact List.getElem_mem h
end Go.Mk
namespace Go.Mk
open Go
theorem aDx {w:World}{e sz n:Nat}{v:Value}{xs:List Value}(h:w.ownsRow 0 e sz v n xs):∃ p cap,v=.slice p n cap:=by
 rcases h.2 with ⟨rfl,rfl⟩|⟨g,cap,cur,rfl,_⟩
 ·exact⟨_,_,rfl⟩
 ·exact⟨_,_,rfl⟩
theorem aLC {w:World}{e sz n cap:Nat}{p:Option Addr}{xs:List Value}(h:w.ownsRow 0 e sz (.slice p n cap) n xs)(hn : 0<n):∃ g,p=some ⟨g,0,none⟩:=by
 rcases h.2 with ⟨h1,h2⟩|⟨g,cap',cur,h1,_⟩
 ·omega
 ·simp only[Value.slice.injEq] at h1
  exact⟨g,h1.1⟩
section
variable {P:Program}{ops:Array Oper}{Q:Exit→Act→World→Prop}{rest:List Oper}{a:Act}{w w0:World}{n:Nat}{l:List (Nat × Value)}{X Z:Nat→Prop}{m:List Ent}
variable {d:Nat}{ty:Nat}{ps:String}{af:Array Edge}
theorem Mem.rowCells (h:Mem w0 X Z m w){i e sz k cap g off:Nat}{xs vs:List Value}(hi:aBi m i=some (.row e sz (.slice (some ⟨g,0,none⟩) k cap) k xs))(hv:(xs.drop off).take vs.length=vs) :
  ∀ j u,vs[j]? = some u→w.cell? ⟨g,0+off+j,none⟩=some u:=fun j u hj=>by
 have hr:=h.row hi
 have hlt:j<vs.length:=(List.getElem?_eq_some_iff.1 hj).1
 rw[← hv,List.getElem?_take,if_pos hlt,List.getElem?_drop] at hj
 have:=hr.cells (g:=g) rfl (off+j) u hj
 rw[Addr.add_lit] at this
 rw[Nat.add_assoc]
 exact this
theorem Mem.rowCell (h:Mem w0 X Z m w){i e sz k cap g off o:Nat}{xs:List Value}{u:Value}(hi:aBi m i=some (.row e sz (.slice (some ⟨g,0,none⟩) k cap) k xs))(hv:xs[off+o]? = some u) :
  w.cell? ⟨g,0+off+o,none⟩=some u:=by
 have hr:=h.row hi
 have:=hr.cells (g:=g) rfl (off+o) u hv
 rw[Addr.add_lit] at this
 rw[Nat.add_assoc]
 exact this
theorem aLH {x y:Operand}{t s i e sz k cap g off:Nat}{bl:Bool}{v:Value}{xs vs:List Value}(hk:Kn n l a)(hm:Mem w0 X Z m w)(ht:aCm P t=some (bl,s))
  (hx:ev l x=some (.pointer (some ⟨g,off,none⟩))) (hy:ev l y=some v) (hvs:cellsOf v=vs) (hs:vs.length=s) (h1:aBP vs=true)
  (hi:aBi m i=some (.row e sz (.slice (some ⟨g,0,none⟩) k cap) k xs)) (ho:off+vs.length≤k*sz)
  (K:∀ a' w',Kn n l a'→Mem w0 X Z (aBn m i (.row e sz (.slice (some ⟨g,0,none⟩) k cap) k (spl xs off vs))) w'→wpList P ops Q rest a' w') :
  wpList P ops Q (⟨none,.store t x y,ty,ps,af,none⟩::rest) a w:=by
 subst hvs
 have hrow:=hm.row hi
 obtain⟨hl,hcase⟩:=hrow
 rcases hcase with ⟨h0,_⟩|⟨g',cap',cur,h0,_,hg,hnc,hcm,hcs,htake⟩
 ·simp at h0
 ·simp only[Value.slice.injEq,Option.some.injEq,Addr.mk.injEq,and_true,true_and] at h0
  obtain⟨rfl,rfl⟩:=h0
  have hkc:k*sz≤cap*sz:=Nat.mul_le_mul_right _ hnc
  have hst:=run_storeCells_at P g off e (cellsOf v) 0 cur w hg (by simp;omega) (aDN h1)
  rw[Nat.add_zero] at hst
  have hcl:off+(cellsOf v).length≤cur.toList.length:=by simp;omega
  refine aIf (w':=w.setRow g (spl cur.toList off (cellsOf v)).toArray) hk rfl rfl ?_ fun a' hk'=>K a' _ hk' ?_
  ·unfold aS8 execOp
   have hsz:v.cells.size=s:=by rw[aBv];simpa using hs
   simp[hk.eval hx,hk.eval hy,Instr.storeAt,Instr.sureAddr,storeVar,aCw ht,hsz]
   rw[show v.cells.toList=cellsOf v by rw[aBv],hst]
   rw[aFO hcl]
   rfl
  ·refine hm.rowStep hi ((aIl w g _).mono fun x _ hx=>by simp[Value.ownBlock,hx]) ?_ (fun k hk=>.inl hk)
   refine⟨by rw[aNY (by omega)];exact hl,.inr ⟨g,cap,_,rfl,Nat.zero_le _,setRow_heap w g cur _ e _ hg,hnc,hcm,?_,?_⟩⟩
   ·rw[List.size_toArray,aNY hcl];simpa using hcs
   ·rw[aFO hcl,aFO (by omega),← htake]
    rw[← htake] at hl
    simp only[List.length_take,Array.length_toList] at hl
    apply List.ext_getElem?
    intro j
    simp only[List.getElem?_take,List.getElem?_append,List.length_append,List.length_take,List.getElem?_drop,Array.length_toList]
    have e1:min off (min (k*sz) cur.size)=min off cur.size:=by omega
    rw[e1]
    by_cases hj:j<k*sz
    ·rw[if_pos hj]
     by_cases h2:j<min off cur.size+(cellsOf v).length
     ·rw[if_pos h2,if_pos h2]
      by_cases h3:j<min off cur.size
      ·rw[if_pos h3,if_pos h3]
       have:j<off:=by omega
       rw[if_pos this,if_pos this,if_pos hj]
      ·rw[if_neg h3,if_neg h3]
     ·rw[if_neg h2,if_neg h2]
      have e2:off+(cellsOf v).length+(j - (min off cur.size+(cellsOf v).length))=j:=by omega
      rw[e2,if_pos hj]
    ·rw[if_neg hj]
     have h2 : ¬ j<min off cur.size+(cellsOf v).length:=by omega
     rw[if_neg h2]
     have e2:off+(cellsOf v).length+(j - (min off cur.size+(cellsOf v).length))=j:=by omega
     rw[e2,if_neg hj]
end
theorem aBf.set {w:World}{Y:Nat→Prop}{esz:Nat}:∀ {l:List DD} {c:List Value},aBf w Y esz l c→∀ {j:Nat} {d:DD} {cs:List Value},j<l.length→Rep w Y d cs→cs.length=esz→aBf w Y esz (l.set j d) (spl c (j*esz) cs)
 | [],c,_,j,d,cs,hj,_,_=>by simp at hj
 | d0::r,c,h,j,d,cs,hj,hd,hl=>by
  have hlen:=h.length
  simp only[aBf] at h
  obtain⟨c1,c2,rfl,h1,h2,h3⟩:=h
  have h3l:=h3.length
  cases j with
  | zero =>
   rw[Nat.zero_mul,List.set_cons_zero,aFO (by simp only[List.length_append];omega)]
   simp only[List.take_zero,List.nil_append,Nat.zero_add,aBf]
   exact⟨cs,c2,by rw[hl,← h1,List.drop_left],hl,hd,h3⟩
  | succ j =>
   rw[List.set_cons_succ]
   simp only[aBf]
   have hj':j<r.length:=by simpa using hj
   have hjl:j*esz+esz≤r.length*esz:=by rw[← Nat.succ_mul];exact Nat.mul_le_mul_right _ hj'
   refine⟨c1,spl c2 (j*esz) cs,?_,h1,h2,h3.set hj' hd hl⟩
   rw[aFO (by simp only[List.length_append,Nat.succ_mul];omega),aFO (by omega),Nat.succ_mul]
   have e1:(c1++c2).take (j*esz+esz)=c1++c2.take (j*esz):=by
    rw[List.take_append,List.take_of_length_le (by omega)];congr 2;omega
   have e2:(c1++c2).drop (j*esz+esz+cs.length)=c2.drop (j*esz+cs.length):=by
    rw[List.drop_append,List.drop_eq_nil_of_le (by omega),List.nil_append];congr 1;omega
   rw[e1,e2]
   simp
theorem Mem.elsSet {w0 w:World}{X Z:Nat→Prop}{m:List Ent}(hm:Mem w0 X Z m w){i sz j:Nat}{ds:List DD}{xs c:List Value}{d:DD}(hi:aBi m i=some (.els sz ds xs))(hj:j<ds.length)(hR:Rep w (Yof w0 Z m) d c)(hl:c.length=sz) :
  Mem w0 X Z (aBn m i (.els sz (ds.set j d) (spl xs (j*sz) c))) w :=
 hm.putFrozen hi rfl rfl ((hm.els hi).set hj hR hl)
theorem aOU {w:World}{Y:Nat→Prop}{us:List (Nat × List UInt8)}{xs:List Value}(h:aBf w Y 2 (us.map aBT) xs){i:Nat}(hi:i<us.length) :
  ∃ p cap,(xs.drop (i*2)).take 2=[.int .u32 ((us.getD i (0,[])).1:Int),.slice p (us.getD i (0,[])).2.length cap]∧Rep w Y (aBT (us.getD i (0,[]))) [.int .u32 ((us.getD i (0,[])).1:Int),.slice p (us.getD i (0,[])).2.length cap]:=by
 obtain⟨h1,h2⟩:=h.get (aBw aBT us i (0,[]) hi)
 obtain⟨p,cap,he,_⟩:=aG4 h2
 refine⟨p,cap,he,?_⟩
 rw[← he];exact h2
theorem aIT {xs:List Value}{k:Nat}{a b:Value}(h:(xs.drop k).take 2=[a,b]):xs[k+0]? = some a∧xs[k+1]? = some b:=by
 have h0:((xs.drop k).take 2)[0]? = some a:=by rw[h];rfl
 have h1:((xs.drop k).take 2)[1]? = some b:=by rw[h];rfl
 simp only[List.getElem?_take,List.getElem?_drop] at h0 h1
 exact⟨by simpa using h0,by simpa using h1⟩
theorem aRr {t:Nat × List UInt8}:∀ {out:List (Nat × List UInt8)} {i:Nat},(∀ j<i,(out.getD j (0,[])).1<t.1)→i<out.length→(out.getD i (0,[])).1=t.1→aCY t out=out
 | [],i,_,h,_=>by simp at h
 | x::r,0,_,_,he=>by
  have he':x.1=t.1:=by simpa using he
  simp[aCY,he']
 | x::r,i+1,hs,hl,he=>by
  have hx:x.1<t.1:=by simpa using hs 0 (by omega)
  have:=aRr (t:=t) (out:=r) (i:=i) (fun j hj=>by simpa using hs (j+1) (by omega)) (by simpa using hl) (by simpa using he)
  simp[aCY,hx,this]
theorem aXI {t:Nat × List UInt8}:∀ {out:List (Nat × List UInt8)} {i:Nat},(∀ j<i,(out.getD j (0,[])).1<t.1)→i≤out.length→(i<out.length→t.1<(out.getD i (0,[])).1)→aCY t out=out.take i++t::out.drop i
 | [],i,_,h,_=>by
  have:i=0:=by simpa using h
  subst this;rfl
 | x::r,0,_,_,he=>by
  have he':t.1<x.1:=by simpa using he
  have h1 : ¬ x.1<t.1:=by omega
  have h2 : ¬ x.1=t.1:=by omega
  simp[aCY,h1,h2]
 | x::r,i+1,hs,hl,he=>by
  have hx:x.1<t.1:=by simpa using hs 0 (by omega)
  have:=aXI (t:=t) (out:=r) (i:=i) (fun j hj=>by simpa using hs (j+1) (by omega)) (by simpa using hl) (fun h=>by simpa using he (by simpa using h))
  simp[aCY,hx,this]
def aPk (kn:Nat)(us:List (Nat × List UInt8)):List (Nat × List UInt8):=us.foldl (fun out t=>if t.1<kn then out else aCY t out) []
theorem aP7 (kn:Nat)(us:List (Nat × List UInt8))(k:Nat)(h:k<us.length):aPk kn (us.take (k+1))=if (us.getD k (0,[])).1<kn then aPk kn (us.take k) else aCY (us.getD k (0,[])) (aPk kn (us.take k)):=by
 unfold aPk
 rw[List.take_succ_eq_append_getElem h,List.foldl_append]
 simp[h]
theorem aOf (t:Nat × List UInt8):∀ out:List (Nat × List UInt8),(aCY t out).length≤out.length+1
 | []=>by simp[aCY]
 | x::r=>by
  have:=aOf t r
  simp only[aCY]
  split
  ·simp;exact this
  ·split<;>simp
theorem aID (kn:Nat)(us:List (Nat × List UInt8)):∀ k,(aPk kn (us.take k)).length≤k
 | 0=>by simp[aPk]
 | k+1=>by
  by_cases h:k<us.length
  ·rw[aP7 kn us k h]
   have:=aID kn us k
   split
   ·omega
   ·have:=aOf (us.getD k (0,[])) (aPk kn (us.take k));omega
  ·have h1:us.take (k+1)=us.take k:=by rw[List.take_of_length_le (by omega),List.take_of_length_le (by omega)]
   rw[h1];have:=aID kn us k;omega
theorem aQG (fs:List Fld)(us:List (Nat × List UInt8)):aAo fs us=aPk (known fs) (us.take 32767):=rfl
theorem aSM {cur out:List (Nat × List UInt8)}{k:Nat}(hl:cur.length=out.length+1)(hk:k+1≤out.length)(h1:cur.take (k+1)=out.take (k+1))(h2:cur.drop (k+2)=out.drop (k+1)) :
  (cur.set (k+1) (cur.getD k (0,[]))).take k=out.take k∧(cur.set (k+1) (cur.getD k (0,[]))).drop (k+1)=out.drop k:=by
 have e0:cur.getD k (0,[])=out[k]:=by
  have:(cur.take (k+1))[k]? = (out.take (k+1))[k]?:=by rw[h1]
  simp only[List.getElem?_take,Nat.lt_succ_self,if_true] at this
  rw[List.getD_eq_getElem?_getD,this]
  simp[show k<out.length by omega]
 constructor
 ·rw[List.take_set,List.set_eq_of_length_le (by simp;omega)]
  have:=congrArg (List.take k) h1
  simpa [List.take_take] using this
 ·have hc:k+1<(cur.set (k+1) (cur.getD k (0,[]))).length:=by simp;omega
  rw[List.drop_eq_getElem_cons hc,List.drop_set,if_pos (by omega),h2,List.drop_eq_getElem_cons (show k<out.length by omega),← e0]
  simp
theorem aU3 {cur out:List (Nat × List UInt8)}{i:Nat}{t:Nat × List UInt8}(hl:cur.length=out.length+1)(hi:i≤out.length)(h1:cur.take i=out.take i)(h2:cur.drop (i+1)=out.drop i):cur.set i t=out.take i++t::out.drop i:=by
 rw[List.set_eq_take_append_cons_drop,if_pos (by omega),h1,h2]
end Go.Mk
namespace Go.Mk
open Go
theorem aOv {w:World}{Y:Nat→Prop}{us:List (Nat × List UInt8)}{p:Option Addr}{n cap:Nat}(h:Rep w Y (.sl false 2 ((us.map aBT).take (us.take 32767).length)) [.slice p n cap]):Rep w Y (aBR (us.take 32767)) [.slice p n cap]:=by
 have e:(us.map aBT).take (us.take 32767).length=(us.take 32767).map aBT:=by
  rw[← List.map_take]
  congr 1
  rw[List.length_take]
  rcases Nat.le_total 32767 us.length with h|h
  ·rw[Nat.min_eq_left h]
  ·rw[Nat.min_eq_right h,List.take_length,List.take_of_length_le h]
 rw[e] at h
 exact h
end Go.Mk
namespace Go.Mk
open Go
theorem aRq {P:Program}{Q:Exit→Act→World→Prop}{a:Act}{w:World}{x y:Code}(J:Act→World→Prop)(hx:x.wp P (Exit.then J Q) a w)(hy:∀ a w,J a w→y.wp P Q a w):x.wp P (Exit.then (y.wp P Q) Q) a w :=
 Code.wp_mono (fun e a w h=>by cases e<;>first|exact hy _ _ h|exact h) hx
end Go.Mk
namespace Go.Mk
open Go
theorem aNW:∀ {m:List Ent} {i:Nat} {e:Ent},aBi m i=some e→aBn m i e=m
 | [],_,_,h=>by simp[aBi] at h
 | x::r,0,e,h=>by simp only[aBi,Option.some.injEq] at h;subst h;rfl
 | x::r,i+1,e,h=>by simp only[aBn,aNW (m:=r) h]
section
variable {P:Program}{ops:Array Oper}{Q:Exit→Act→World→Prop}{rest:List Oper}{a:Act}{w w0:World}{n:Nat}{l:List (Nat × Value)}{X Z:Nat→Prop}{m:List Ent}
variable {d:Nat}{ty:Nat}{ps:String}{af:Array Edge}
theorem aOI {t e by_ N:Nat}{z z0:Value}(hk:Kn n l a)(hm:Mem w0 X Z m w)(ht:aGN P t=some (e,1,by_))(hz:aBB P e=some z)(hz0:cellsOf z=[z0])(hN:Nat.ble N 1000=true)(hby:Nat.ble by_ 16=true)(hd:Nat.blt d n=true)
  (K:∀ a' b w',Kn n ((d,.slice (some ⟨b,0,none⟩) N N)::l) a'→Mem w0 X Z (.blk b (List.replicate N z0) e::m) w'→wpList P ops Q rest a' w') :
  wpList P ops Q (⟨some d,.makeSlice t (.const (.int .i64 (N:Int))) (.const (.int .i64 (N:Int))),ty,ps,af,none⟩::rest) a w:=by
 obtain⟨i,z',h1,h2,h3,h4,h5,rfl⟩:=aF2 ht
 have hz':z'=z:=by unfold aBB at hz;rw[h2] at hz;simp[h3] at hz;exact hz
 subst hz'
 have hN':=Nat.le_of_ble_eq_true hN
 have hby':=Nat.le_of_ble_eq_true hby
 have hzc:z'.cells=#[z0]:=by rw[aBv,hz0]
 have hb:(i.bytes:Int)*(N:Int)≤281474976710656:=by
  have:i.bytes*N≤16*1000:=Nat.mul_le_mul hby' hN'
  omega
 have hr:=run_make (P:=P) w t e i z' h1 h2 h3 .i64 .i64 (N:Int) (N:Int) (by omega) (by omega) hb (by omega)
 simp only[Int.toNat_natCast,h5,Nat.mul_one,hzc] at hr
 have e1:madeCells #[z0] N=(List.replicate N z0).toArray:=by
  apply Array.ext'
  simp only[madeCells,Array.toList_map,Array.toList_range]
  apply List.ext_getElem (by simp)
  intro j h1 h2
  simp[Nat.mod_one]
 rw[e1] at hr
 refine aAD (v:=.slice (some ⟨w.heap.size,0,none⟩) N N) (w':=w.alloc (.cells (List.replicate N z0).toArray e)) hk rfl rfl hd ?_ fun a' hk'=>K a' _ _ hk' (hm.alloc _ e)
 unfold aDp execOp
 have hy:a.eval (.const (.int .i64 (N:Int)))=.int .i64 (N:Int):=rfl
 simp only[Sem.run_bind,hy,hr,Result.andThen_ok,Sem.run_pure]
theorem aOl {x y:Operand}{t tx e eb b i N:Nat}{v:Value}{s:List UInt8}{Y:Nat→Prop}{zs:List Value}(hk:Kn n l a)(hm:Mem w0 X Z m w)(ht:aBA P t=some e)(hsz:(P.info? e).map (·.size)=some 1)(hx:ev l x=some (.slice (some ⟨b,0,none⟩) N N))(hi:aBi m i=some (.blk b zs eb))
  (hl:zs.length=N) (hy:ev l y=some v) (hR:Rep w Y (aDJ s) [v]) (hd:Nat.blt d n=true)
  (K:∀ a' w',Kn n ((d,.int .i64 ((min s.length N:Nat):Int))::l) a'→Mem w0 X Z (aBn m i (.blk b ((bv s).take N++zs.drop s.length) eb)) w'→wpList P ops Q rest a' w') :
  wpList P ops Q (⟨some d,.call ⟨.builtin .copy,#[x,y],#[t,tx]⟩,ty,ps,af,none⟩::rest) a w:=by
 have hb:=hm.all _ (eA0 hi)
 simp only[Ent.holds] at hb
 obtain⟨p,cap,rfl⟩:=aCS hR
 rw[List.length_map] at hy hR
 by_cases h0:min s.length N=0
 ·have hrun:=run_copy_none (P:=P) w t tx ty e (some ⟨b,0,none⟩) p N N s.length cap (aCi ht) hsz h0
  refine aAD (v:=.int .i64 ((min s.length N:Nat):Int)) (w':=w) hk rfl rfl hd ?_ fun a' hk'=>K a' _ hk' ?_
  ·unfold aDp execOp
   simp[resolve,invoke,builtin,hk.eval hx,hk.eval hy,hrun,h0,goInt]
  ·have e1:(bv s).take N++zs.drop s.length=zs:=by
    rcases Nat.eq_zero_or_pos s.length with h|h
    ·have:s=[]:=List.eq_nil_of_length_eq_zero h
     subst this;simp[bv]
    ·have hN:N=0:=by omega
     have:zs=[]:=List.eq_nil_of_length_eq_zero (by omega)
     subst hN this;simp
   rw[e1,aNW hi];exact hm
 ·rcases aLZ hR with ⟨h1,_⟩|⟨g,off,cap',cs,he,h2,h3,h4⟩
  ·have:s=[]:=by simpa using h1
   subst this;simp at h0
  ·simp only[Value.slice.injEq,List.length_map,true_and] at he
   obtain⟨rfl,rfl⟩:=he
   have hcs:=aLw h4
   subst hcs
   have hrun:=run_copy_row (P:=P) w t tx ty e b 0 N N ⟨g,off,none⟩ s.length cap zs.toArray eb ((bv s).take N) (aCi ht) hsz hb (by simp[aCV,Nat.min_comm])
    (fun j u hj=>by
     rw[Addr.add_lit]
     rw[List.getElem?_take] at hj
     split at hj
     ·exact (h3 j u hj).2
     ·cases hj) (by simp[aCV];omega) (fun u hu=>aDN (aHH s) u (List.mem_of_mem_take hu))
   have hlen:((bv s).take N).length=min s.length N:=by simp[aCV,Nat.min_comm]
   rw[hlen] at hrun
   refine aAD (v:=.int .i64 ((min s.length N:Nat):Int)) (w':=w.setRow b (zs.toArray.toList.take 0++(bv s).take N++zs.toArray.toList.drop (0+min s.length N)).toArray) hk rfl rfl hd ?_ fun a' hk'=>K a' _ hk' ?_
   ·unfold aDp execOp
    simp[resolve,invoke,builtin,hk.eval hx,hk.eval hy,hrun,goInt]
   ·have e2:zs.drop s.length=zs.toArray.toList.drop (0+min s.length N):=by
     simp only[Nat.zero_add]
     rcases Nat.le_total s.length N with h|h
     ·rw[Nat.min_eq_left h]
     ·rw[Nat.min_eq_right h,List.drop_eq_nil_of_le (by omega),List.drop_eq_nil_of_le (by first|omega|(simp;omega))]
    have:=hm.write hi (aIl w b _) (setRow_heap w b zs.toArray (zs.toArray.toList.take 0++(bv s).take N++zs.toArray.toList.drop (0+min s.length N)).toArray eb (0,0) hb)
    rw[e2]
    simpa using this
end
theorem aCT (s:List UInt8):(bv s).take 16++(List.replicate 16 (Value.int .u8 0)).drop s.length=bv (sixteen s):=by
 have h0:List.replicate 16 (Value.int .u8 0)=bv (List.replicate 16 (0:UInt8)):=by simp[bv]
 rw[h0]
 unfold bv sixteen
 rw[← List.map_take,← List.map_drop,← List.map_append]
 congr 1
 rw[List.take_append]
 congr 1
 rw[List.drop_replicate,List.take_replicate]
 congr 1
 omega
mutual
def aKh:Fld→Bool
 | .mk kind _ _ _ tag _ of sub=>decide (kind≤11)&&decide (of≤10)&&decide (tag<1000000)&&decide (sub.length≤1000)&&aFa sub
def aFa:List Fld→Bool
 | []=>true
 | f::r=>aKh f&&aFa r
end
theorem aBC:∀ {fs:List Fld},aFa fs=true→∀ f ∈ fs,aKh f=true
 | [],_,f,h=>by cases h
 | x::r,h,f,hf=>by
  simp only[aFa,Bool.and_eq_true] at h
  rcases List.mem_cons.1 hf with rfl|hf
  ·exact h.1
  ·exact aBC h.2 f hf
theorem aDT {f:Fld}(h:aKh f=true):f.kind≤11∧f.of≤10∧f.tag<1000000∧f.sub.length≤1000∧aFa f.sub=true:=by
 cases f with
 | mk kind fr to nu tag df of sub =>
  simp only[aKh,Bool.and_eq_true,decide_eq_true_eq] at h
  exact⟨h.1.1.1.1,h.1.1.1.2,h.1.1.2,h.1.2,h.2⟩
theorem aIm:∀ {fs:List Fld},aFa fs=true→aIt fs=true
 | [],_=>rfl
 | f::r,h=>by
  simp only[aFa,Bool.and_eq_true] at h
  simp only[aIt,List.all_cons,Bool.and_eq_true,decide_eq_true_eq]
  exact⟨(aDT h.1).2.2.1,aIm h.2⟩
theorem aEW {p:Fld→Prop}(h:∀ f,(∀ g ∈ f.sub,p g)→p f):∀ f,p f:=by
 have key:∀ (n:Nat) (f:Fld),SizeOf.sizeOf f<n→p f:=by
  intro n
  induction n with
  | zero=>intro t ht;omega
  | succ n ih =>
   intro f hf
   refine h f fun x hx=>ih x ?_
   cases f with
   | mk kind fr to nu tag df of sub =>
    have h1:SizeOf.sizeOf x<SizeOf.sizeOf sub:=List.sizeOf_lt_of_mem hx
    simp only[Fld.mk.sizeOf_spec] at hf
    omega
 exact fun f=>key _ f (Nat.lt_succ_self _)
theorem aHK (k:Nat):width k≤8:=by
 rw[aHL]
 repeat' split
 all_goals omega
theorem aJW {kind:Nat}{pt:T→List UInt8}{null flex:Bool}{t:T}(h0:kind≠0)(h7:kind≠7)(h8:kind≠8)(h9:kind≠9)(h10:kind≠10):aC5 kind pt null flex t=fixed t.n (width kind):=by
 unfold aC5
 split<;>simp_all
end Go.Mk
namespace Go.Mk
open Go
def pie (fs:List Fld)(V:Int)(flex:Bool)(t:T)(j:Nat):List UInt8:=aI3 (fs.getD j aAm) V flex (t.at_ j)
theorem aDk {β : Type}(F:Nat→List β)(k:Nat):(List.range (k+1)).flatMap F=(List.range k).flatMap F++F k:=by
 rw[List.range_succ,List.flatMap_append];simp
theorem aO9 {β : Type}(F:Nat→List β){k n:Nat}(h:k<n):((List.range k).flatMap F).length+(F k).length≤((List.range n).flatMap F).length:=by
 rw[← List.length_append,← aDk]
 induction n with
 | zero=>omega
 | succ n ih =>
  by_cases hk:k=n
  ·subst hk;exact Nat.le_refl _
  ·have:=ih (by omega)
   rw[aDk F n,List.length_append];omega
theorem aDu {α β : Type}{l:List α}{f g : α→List β}(h:∀ x ∈ l,f x=g x):l.flatMap f=l.flatMap g:=by
 induction l with
 | nil=>rfl
 | cons x r ih =>
  rw[List.flatMap_cons,List.flatMap_cons,h x List.mem_cons_self,ih fun y hy=>h y (List.mem_cons_of_mem _ hy)]
theorem aIA (fs:List Fld)(V:Int)(flex:Bool)(l:List T)(i:Nat):aCJ fs V (aBE fs V flex l i)=(List.range fs.length).flatMap (fun j=>aI3 (fs.getD j aAm) V flex (l.getD (i+j) T.nil)):=by
 induction fs generalizing i with
 | nil=>simp[aCJ]
 | cons f r ih =>
  rw[aFp,ih (i+1),List.length_cons,List.range_succ_eq_map,List.flatMap_cons,List.flatMap_map]
  congr 1
  apply aDu
  intro j _
  simp only[List.getD_cons_succ]
  congr 2
  omega
theorem aQr (fs:List Fld)(V:Int)(t:T):aBk fs V false t=(List.range fs.length).flatMap (pie fs V false t):=by
 unfold aBk aO7
 simp only[Bool.false_eq_true,if_false]
 rw[aIA]
 apply aDu
 intro j _
 simp[pie,T.at_]
theorem aUQ {fs:List Fld}{V:Int}{flex:Bool}{t:T}{j:Nat}(h:((fs.getD j aAm).tag<0∧(fs.getD j aAm).has V=true)→False):pie fs V flex t j=[]:=by
 unfold pie aI3
 rw[if_neg]
 simp only[Bool.and_eq_true,decide_eq_true_eq]
 exact h
theorem aZb {fs:List Fld}{V:Int}{flex:Bool}{t:T}{j:Nat}(h:(fs.getD j aAm).tag<0)(h2:(fs.getD j aAm).has V=true):pie fs V flex t j=aBt (fs.getD j aAm) V flex (t.at_ j):=by
 unfold pie aI3
 rw[if_pos]
 simp only[Bool.and_eq_true,decide_eq_true_eq]
 exact⟨h,h2⟩
end Go.Mk
namespace Go.Mk
open Go
theorem aOj {u:Nat × List UInt8}:∀ {l:List (Nat × List UInt8)},rising l→rising (aCY u l)∧∀ q ∈ aCY u l,q=u∨q ∈ l
 | [],_=>by simp[aCY,rising]
 | x::r,h=>by
  simp only[rising] at h
  obtain⟨h1,h2⟩:=h
  obtain⟨g1,g2⟩:=aOj (u:=u) h2
  unfold aCY
  split
  ·rename_i hx
   refine⟨⟨fun q hq=>?_,g1⟩,fun q hq=>?_⟩
   ·rcases g2 q hq with rfl|hq
    ·exact hx
    ·exact h1 q hq
   ·rcases List.mem_cons.1 hq with rfl|hq
    ·exact .inr List.mem_cons_self
    ·rcases g2 q hq with rfl|hq
     ·exact .inl rfl
     ·exact .inr (List.mem_cons_of_mem _ hq)
  ·rename_i hx
   split
   ·exact⟨⟨h1,h2⟩,fun q hq=>.inr hq⟩
   ·rename_i hne
    refine⟨⟨fun q hq=>?_,h1,h2⟩,fun q hq=>?_⟩
    ·rcases List.mem_cons.1 hq with rfl|hq
     ·omega
     ·have:=h1 q hq;omega
    ·rcases List.mem_cons.1 hq with rfl|hq
     ·exact .inl rfl
     ·exact .inr hq
theorem aFY (fs:List Fld)(u:List (Nat × List UInt8)):rising (aAo fs u)∧∀ q ∈ aAo fs u,q ∈ u:=by
 have key:∀ (l out:List (Nat × List UInt8)),rising out→rising (l.foldl (fun out t=>if t.1<known fs then out else aCY t out) out) ∧
   ∀ q ∈ l.foldl (fun out t=>if t.1<known fs then out else aCY t out) out,q ∈ out∨q ∈ l:=by
  intro l
  induction l with
  | nil=>intro out h;exact⟨h,fun q hq=>.inl hq⟩
  | cons x r ih =>
   intro out h
   simp only[List.foldl_cons]
   by_cases hx:x.1<known fs
   ·rw[if_pos hx]
    obtain⟨g1,g2⟩:=ih out h
    exact⟨g1,fun q hq=>(g2 q hq).imp id (List.mem_cons_of_mem _)⟩
   ·rw[if_neg hx]
    obtain⟨i1,i2⟩:=aOj (u:=x) h
    obtain⟨g1,g2⟩:=ih _ i1
    refine⟨g1,fun q hq=>?_⟩
    rcases g2 q hq with h3|h3
    ·rcases i2 q h3 with rfl|h3
     ·exact .inr List.mem_cons_self
     ·exact .inl h3
    ·exact .inr (List.mem_cons_of_mem _ h3)
 obtain⟨h1,h2⟩:=key (u.take 32767) [] trivial
 refine⟨h1,fun q hq=>?_⟩
 rcases h2 q hq with h3|h3
 ·cases h3
 ·exact List.mem_of_mem_take h3
theorem aLx {g:Nat × List UInt8→Nat × List UInt8}(hg:∀ p,(g p).1=p.1):∀ {l:List (Nat × List UInt8)},rising l→rising (l.map g)
 | [],_=>trivial
 | x::r,h=>by
  refine⟨fun q hq=>?_,aLx hg h.2⟩
  obtain⟨p,hp,rfl⟩:=List.mem_map.1 hq
  rw[hg,hg]
  exact h.1 p hp
end Go.Mk
namespace Go.Mk
open Go
def aRG (p:Nat × List UInt8):Nat × List UInt8:=(p.1,whole p.2)
theorem aQI (fs:List Fld)(u:List (Nat × List UInt8)):aUf fs u=(aAo fs u).map aRG:=rfl
def aKI (f:Fld):Fld:=.mk f.of f.fr f.to (-1) (-1) f.df f.of f.sub
theorem aS3 (f:Fld)(v:Int)(t:T):(aKI f).null v t=false:=by simp[aKI,Fld.null,Fld.nu]
theorem aAF {w:World}{Y:Nat→Prop}{kind of:Nat}{fr to nu tag df:Int}{sub:List Fld}{x:Value}(h:Rep w Y (.sl false 8 (sub.map aBg)) [x]) :
  Rep w Y (aBg (.mk kind fr to nu tag df of sub)) [.int .i64 (kind:Int),.int .i64 fr,.int .i64 to,.int .i64 nu,.int .i64 tag,.int .i64 df,.int .i64 (of:Int),x]:=by
 simp only[aBg,aMU]
 exact aHW (aCh.cons1 (aCn _) (aCh.cons1 (aCn _) (aCh.cons1 (aCn _) (aCh.cons1 (aCn _) (aCh.cons1 (aCn _) (aCh.cons1 (aCn _) (aCh.cons1 (aCn _) (aCh.cons1 h aCh.nil))))))))
theorem aWn {n:Int}{s:List UInt8}{z:Bool}{l:List T}{u:List (Nat × List UInt8)}(h1:l.length≤32767)(h2:u.length≤32767)(h3:∀ p ∈ u,p.2.length≤32767)(h4:∀ x ∈ l,x.small=true)(h6:rising u):(T.mk n s z l u).small=true:=by
 have h5:∀ l:List T,(∀ x ∈ l,x.small=true)→T.smalls l=true:=by
  intro l
  induction l with
  | nil=>intro _;rfl
  | cons x r ih=>intro h;simp only[T.smalls,Bool.and_eq_true];exact⟨h x List.mem_cons_self,ih fun y hy=>h y (List.mem_cons_of_mem _ hy)⟩
 simp only[T.small,Bool.and_eq_true,decide_eq_true_eq,List.all_eq_true]
 exact⟨⟨⟨⟨⟨Nat.le_refl _,h1⟩,h2⟩,fun p hp=>h3 p hp⟩,aIN.2 h6⟩,h5 l h4⟩
theorem aG0 (fs:List Fld)(u:List (Nat × List UInt8)):(aAo fs u).length≤32767:=by
 rw[aQG]
 have h:=aID (known fs) (u.take 32767) 32767
 rwa [List.take_take,Nat.min_self] at h
end Go.Mk
namespace Go.Mk
open Go
mutual
def T.sane:T→Bool
 | .mk _ s _ l u=>decide (s.length≤1152921504606846976)&&decide (l.length≤1152921504606846976)&&decide (u.length≤1152921504606846976)&&u.all (fun p=>decide (p.1<4294967296))&&T.sanes l
def T.sanes:List T→Bool
 | []=>true
 | t::r=>t.sane&&T.sanes r
end
theorem aME:∀ {l:List T},T.sanes l=true ↔ ∀ t ∈ l,t.sane=true
 | []=>by simp[T.sanes]
 | x::r=>by
  simp only[T.sanes,Bool.and_eq_true,List.mem_cons,forall_eq_or_imp]
  rw[aME (l:=r)]
theorem aBD {t:T}(h:t.sane=true):t.s.length≤1152921504606846976∧t.l.length≤1152921504606846976∧t.u.length≤1152921504606846976∧∀ x ∈ t.l,x.sane=true:=by
 cases t with
 | mk n s z l u =>
  simp only[T.sane,Bool.and_eq_true,decide_eq_true_eq] at h
  exact⟨h.1.1.1.1,h.1.1.1.2,h.1.1.2,aME.1 h.2⟩
theorem aH8 {t:T}(h:t.sane=true):∀ p ∈ t.u,p.1<4294967296:=by
 cases t with
 | mk n s z l u =>
  simp only[T.sane,Bool.and_eq_true,decide_eq_true_eq,List.all_eq_true] at h
  exact h.1.2
theorem aGH {n:Int}{s:List UInt8}{z:Bool}{l:List T}{u:List (Nat × List UInt8)}(h1:s.length≤1152921504606846976)(h2:l.length≤1152921504606846976)(h3:u.length≤1152921504606846976)(h5:∀ p ∈ u,p.1<4294967296)(h4:∀ x ∈ l,x.sane=true):(T.mk n s z l u).sane=true:=by
 simp only[T.sane,Bool.and_eq_true,decide_eq_true_eq,List.all_eq_true]
 exact⟨⟨⟨⟨h1,h2⟩,h3⟩,h5⟩,aME.2 h4⟩
theorem aSr:T.nil.sane=true:=rfl
theorem aCG {l:List T}(h:∀ x ∈ l,x.sane=true)(k:Nat):(l.getD k T.nil).sane=true:=by
 rw[List.getD_eq_getElem?_getD]
 cases hk:l[k]? with
 | none=>exact aSr
 | some x=>exact h x (List.mem_of_getElem? hk)
theorem aIQ {t:T}(h:t.sane=true)(k:Nat):(t.at_ k).sane=true:=aCG (aBD h).2.2.2 k
theorem aNm {t:T}(h:t.sane=true)(k:Nat):((things t.l).getD k T.nil).sane=true:=aCG (fun x hx=>(aBD h).2.2.2 x (List.mem_of_mem_take hx)) k
theorem aT0 (f:Fld)(t:T):aD8 f t=if f.kind=0 then t.n%2==f.df else if f.kind=7 then (t.s.take 16).all (·==0) else if f.kind=8∨f.kind=9 then (if f.nu≥0 then t.z else t.s.isEmpty)
  else if f.kind=11 then t.l.isEmpty else if f.kind=10 then aJ9 f.sub t.l 0&&(aAo f.sub t.u).isEmpty else fixed t.n (width f.kind)==fixed f.df (width f.kind):=by
 cases f;unfold aD8;rfl
def aPf (fs:List Fld)(t:T)(j:Nat):Bool:=aD8 (fs.getD j aAm) (t.at_ j)
theorem aOu (fs:List Fld)(l:List T)(i:Nat):aJ9 fs l i=(List.range fs.length).all (fun j=>aD8 (fs.getD j aAm) (l.getD (i+j) T.nil)):=by
 induction fs generalizing i with
 | nil=>simp[aJ9]
 | cons f r ih =>
  rw[aJ9,ih (i+1),List.length_cons,List.range_succ_eq_map,List.all_cons,List.all_map]
  congr 1
  apply List.all_congr rfl
  intro j
  simp only[Function.comp,List.getD_cons_succ]
  congr 2
  omega
theorem aIB (fs:List Fld)(t:T):aJ9 fs t.l 0=(List.range fs.length).all (aPf fs t):=by
 rw[aOu]
 apply List.all_congr rfl
 intro j
 simp[aPf,T.at_]
theorem aAO {f:Nat→Bool}{k:Nat}(h:(List.range k).all f=true)(hk:f k=true):(List.range (k+1)).all f=true:=by
 rw[List.range_succ,List.all_append,h];simp[hk]
theorem aAR {f:Nat→Bool}{k n:Nat}(hlt:k<n)(hk:f k=false):(List.range n).all f=false:=by
 rw[← Bool.not_eq_true,List.all_eq_true]
 intro h
 have:=h k (List.mem_range.2 hlt)
 rw[hk] at this
 cases this
theorem aN3 {s:List UInt8}{k:Nat}(h:((s.take 16).take k).all (·==0)=true)(hlt:k<s.length)(hz:k<16→s.getD k 0=0):((s.take 16).take (k+1)).all (·==0)=true:=by
 by_cases h16:k<16
 ·have hl:k<(s.take 16).length:=by simp;omega
  rw[List.take_succ_eq_append_getElem hl,List.all_append,h]
  have:=hz h16
  have e:s.getD k 0=s[k]:=by simp[hlt]
  rw[e] at this
  simp[this]
 ·rw[List.take_of_length_le (by simp;omega)]
  rw[List.take_of_length_le (by simp;omega)] at h
  exact h
theorem aQ3 {s:List UInt8}{k:Nat}(hlt:k<s.length)(h16:k<16)(hz:s.getD k 0≠0):(s.take 16).all (·==0)=false:=by
 rw[← Bool.not_eq_true,List.all_eq_true]
 intro h
 have hl:k<(s.take 16).length:=by simp;omega
 have h2:=h (s.take 16)[k] (List.getElem_mem hl)
 have e:s.getD k 0=s[k]:=by simp[hlt]
 rw[e] at hz
 simp at h2
 exact hz h2
theorem aT1 {s:List UInt8}{n:Nat}(h:((s.take 16).take n).all (·==0)=true)(hn:n=s.length):(s.take 16).all (·==0)=true:=by
 rwa [List.take_of_length_le (by simp;omega)] at h
end Go.Mk
namespace Go.Mk.Ea
open Go Go.Mk
def aNz:Nat→Option IntKind
 | 1=>some .i8
 | 2=>some .i16
 | 3=>some .i32
 | 4=>some .i64
 | 5=>some .u16
 | _=>none
def aZI (u:List (Nat × List UInt8)):Prop:=rising u∧u.length≤32767∧∀ p ∈ u,p.1<4294967296∧p.2.length≤32767
end Go.Mk.Ea
namespace Go.Mk.Ea
open Go Go.Mk
section
variable {w:World}{Y:Nat→Prop}{fs0:List Fld}{tg:Bool}{V:Int}{flex:Bool}{t:T}
end
end Go.Mk.Ea
namespace Go.Mk.Ea
open Go Go.Mk
section
variable {w0 w w':World}{Y:Nat→Prop}{e sz:Nat}{v0 ro ro':Value}{n m:Nat}{xs ys:List Value}
def Yw (Y:Nat→Prop)(w0:World):Nat→Prop:=fun k=>Y k∨w0.heap.size≤k
end
section
end
theorem tagsOk_fit (fs:List Fld){t:T}(h:t.sane=true):aZI (aUf fs t.u):=by
 obtain⟨h1,h2⟩:=aFY fs t.u
 refine⟨aLx (g:=fun p=>(p.1,whole p.2)) (fun _=>rfl) h1,?_,fun p hp=>?_⟩
 ·unfold aUf;rw[List.length_map];exact aG0 fs t.u
 ·obtain⟨q,hq,rfl⟩:=List.mem_map.1 hp
  exact⟨aH8 h q (h2 q hq),aBG _⟩
end Go.Mk.Ea
namespace Go.Mk
open Go
mutual
def aJ4:Fld→Bool
 | .mk _ _ _ _ tag _ _ sub=>decide (tag<0)&&aC1 sub
def aC1:List Fld→Bool
 | []=>true
 | f::r=>aJ4 f&&aC1 r
end
theorem aK7:∀ {fs:List Fld},aC1 fs=true→∀ f ∈ fs,aJ4 f=true
 | [],_,_,h=>by cases h
 | g::r,h,f,hf=>by
  simp only[aC1,Bool.and_eq_true] at h
  cases hf with
  | head=>exact h.1
  | tail _ hf=>exact aK7 h.2 f hf
theorem aJc {f:Fld}(h:aJ4 f=true):aC1 f.sub=true:=by
 cases f
 simp only[aJ4,Bool.and_eq_true] at h
 exact h.2
theorem aT4 {f:Fld}(h:aJ4 f=true):f.tag<0:=by
 cases f
 simp only[aJ4,Bool.and_eq_true,decide_eq_true_eq] at h
 exact h.1
theorem aJe {fs:List Fld}{V:Int}{flex:Bool}{t:T}(h:flex=false):aBk fs V flex t=(List.range fs.length).flatMap (pie fs V flex t):=by
 subst h;exact aQr fs V t
theorem aSp {fs:List Fld}{V:Int}{flex:Bool}{t:T}(h:flex=true)(hk:known fs=0) :
  aBk fs V flex t=((List.range fs.length).flatMap (pie fs V flex t)++uvarint (aAo fs t.u).length)++(aAo fs t.u).flatMap (fun u=>aDt u.1 (whole u.2)):=by
 subst h
 unfold aBk aO7
 simp only[if_true,hk,List.range_zero,List.flatMap_nil,List.length_nil,Nat.zero_add,List.flatten_nil,List.append_nil]
 rw[aIA]
 congr 2
 apply aDu
 intro j _
 simp[pie,T.at_]
theorem aMe (k:Nat)(b:List UInt8):(aDt k b).length=(uvarint k).length+(uvarint b.length).length+b.length:=by
 unfold aDt;rw[List.length_append,List.length_append]
theorem aYf {fs:List Fld}{t:T}(h:t.sane=true){k:Nat}(hk:k<(aAo fs t.u).length):((aAo fs t.u).getD k (0,[])).1<4294967296:=by
 refine aH8 h _ ((aFY fs t.u).2 _ ?_)
 rw[List.getD_eq_getElem?_getD,List.getElem?_eq_getElem hk]
 exact List.getElem_mem hk
end Go.Mk
namespace Go.Mk
open Go
section
variable {w0 w w':World}{X Z:Nat→Prop}{m:List Ent}{i j e sz n g:Nat}{v:Value}{xs cs:List Value}
theorem Mem.startBlk (hb:w0.heap[g]? = some (.cells cs.toArray e (0,0)))(hZ:Z g){m:List Ent}(hm:muts m=[])(h:∀ x ∈ m,x.holds w0 Z):Mem w0 (fun k=>k=g) Z (.blk g cs e::m) w0:=by
 have hmu:muts (.blk g cs e::m)=[g]:=by simp[muts,Ent.mut,hm]
 refine⟨Agr.refl _ _,fun k hk=>by subst hk;exact hZ,by rw[hmu];simp,fun b hb'=>?_,?_⟩
 ·rw[hmu] at hb'
  have:b=g:=by simpa using hb'
  subst this
  exact⟨(Array.getElem?_eq_some_iff.1 hb).1,fun _=>rfl⟩
 ·have hmv:∀ k,k<w0.heap.size→¬ Z k→w0.heap[k]? = w0.heap[k]? ∧ ¬ Yof w0 Z (.blk g cs e::m) k:=fun k _ hz=>⟨rfl,by
   rintro (h1|h1)
   ·exact hz h1.2
   ·rw[hmu] at h1
    have:k=g:=by simpa using h1
    subst this
    exact hz hZ⟩
  intro x hx
  rcases List.mem_cons.1 hx with rfl|hx
  ·exact hb
  ·exact Ent.holds_move hmv (h x hx) (fun _ _=>rfl)
theorem Mem.freezeBlk (h:Mem w0 X Z m w)(hi:aBi m i=some (.blk g cs e))(hx : ¬ X g):Mem w0 X Z (aBn m i (.cel g 0 cs)) w:=by
 have hsub:∀ {m:List Ent} {i:Nat} {b:Nat},aBi m i=some (.blk g cs e)→b ∈ muts (aBn m i (.cel g 0 cs))→b ∈ muts m:=by
  intro m
  induction m with
  | nil=>intro i b h _;simp[aBi] at h
  | cons x r ih =>
   intro i b h hb
   cases i with
   | zero =>
    simp only[aBn,muts,Ent.mut,List.nil_append] at hb
    simp only[muts,List.mem_append];exact .inr hb
   | succ i =>
    simp only[aBn,muts,List.mem_append] at hb ⊢
    rcases hb with hb|hb
    ·exact .inl hb
    ·exact .inr (ih h hb)
 have hnd:∀ {m:List Ent} {i:Nat},(muts m).Nodup→aBi m i=some (.blk g cs e)→(muts (aBn m i (.cel g 0 cs))).Nodup∧g ∉ muts (aBn m i (.cel g 0 cs)):=by
  intro m
  induction m with
  | nil=>intro i _ h;simp[aBi] at h
  | cons x r ih =>
   intro i hn h
   cases i with
   | zero =>
    simp only[aBi,Option.some.injEq] at h
    subst h
    simp only[aBn,muts,Ent.mut,List.nil_append,List.nodup_append] at hn ⊢
    exact⟨hn.2.1,fun hk'=>hn.2.2 g (by simp) g hk' rfl⟩
   | succ i =>
    simp only[aBn,muts,List.nodup_append,List.mem_append,not_or] at hn ⊢
    have hr:=ih hn.2.1 h
    refine⟨⟨hn.1,hr.1,fun a ha b hb hab=>hn.2.2 a ha b (hsub h hb) hab⟩,?_,hr.2⟩
    exact fun hkx=>hn.2.2 g hkx g (aBI (eA0 (m:=r) h) (by simp[Ent.mut])) rfl
 have hN:=hnd h.nodup hi
 have hmv:∀ k,k<w.heap.size→¬ Yof w0 Z m k→w.heap[k]? = w.heap[k]? ∧ ¬ Yof w0 Z (aBn m i (.cel g 0 cs)) k:=fun k _ hy=>⟨rfl,by
  rintro (hz|hz)
  ·exact hy (.inl hz)
  ·exact hy (.inr (hsub hi hz))⟩
 refine⟨h.agr,h.sub,hN.1,fun b hb=>h.own b (hsub hi hb),?_⟩
 intro x hx'
 rcases aFC hx' with rfl|⟨j,_,hj⟩
 ·have hb:=h.all _ (eA0 hi)
  simp only[Ent.holds] at hb ⊢
  intro j u hj
  refine⟨?_,?_⟩
  ·rintro (hz|hz)
   ·exact hx ((h.own g (aBI (eA0 hi) (by simp[Ent.mut]))).2 hz.1)
   ·exact hN.2 hz
  ·rw[Nat.zero_add]
   simp only[World.cell?,hb]
   simpa using hj
 ·exact Ent.holds_move hmv (h.all x (eA0 hj)) (fun _ _=>rfl)
theorem Mem.freezeLit (h:Mem w0 X Z m w){l:List DD}(hi:aBi m i=some (.blk g cs e))(hx : ¬ X g)(hl:l.length=n)(_hcl:cs.length=n*sz)(_hn:n≤maxLen)(he:aBf w (Yof w0 Z m) sz l cs) :
  Mem w0 X Z (aBn m i (.rep (.sl false sz l) [.slice (some ⟨g,0,none⟩) n n])) w:=by
 have h2:=h.freezeBlk hi hx
 have hsub:∀ {m:List Ent} {i:Nat} {e1 e2 e3:Ent},aBi m i=some e1→aBn (aBn m i e2) i e3=aBn m i e3:=by
  intro m
  induction m with
  | nil=>intro i e1 e2 e3 h;simp[aBi] at h
  | cons x r ih =>
   intro i e1 e2 e3 h
   cases i with
   | zero=>rfl
   | succ i=>simp only[aBn];rw[ih (e1:=e1) h]
 have hent:∀ {m:List Ent} {i:Nat} {e1 e2:Ent},aBi m i=some e1→aBi (aBn m i e2) i=some e2:=by
  intro m
  induction m with
  | nil=>intro i e1 e2 h;simp[aBi] at h
  | cons x r ih =>
   intro i e1 e2 h
   cases i with
   | zero=>rfl
   | succ i=>simp only[aBn,aBi];exact ih (e1:=e1) h
 have hmut:∀ {m:List Ent} {i b:Nat},aBi m i=some (.blk g cs e)→b ∈ muts (aBn m i (.cel g 0 cs))→b ∈ muts m:=by
  intro m
  induction m with
  | nil=>intro i b h _;simp[aBi] at h
  | cons x r ih =>
   intro i b h hb
   cases i with
   | zero =>
    simp only[aBn,muts,Ent.mut,List.nil_append] at hb
    simp only[muts,List.mem_append];exact .inr hb
   | succ i =>
    simp only[aBn,muts,List.mem_append] at hb ⊢
    rcases hb with hb|hb
    ·exact .inl hb
    ·exact .inr (ih h hb)
 have hcel:=h2.all _ (eA0 (hent (e2:=.cel g 0 cs) hi))
 have h3:=h2.putFrozen (e':=.rep (.sl false sz l) [.slice (some ⟨g,0,none⟩) n n]) (hent hi) rfl rfl (by
  simp only[Ent.holds,Rep] at hcel ⊢
  refine .inr ⟨g,0,n,cs,by rw[hl],by omega,hcel,aBf.move (fun k _ hy=>⟨rfl,?_⟩) sz l cs he⟩
  rintro (hz|hz)
  ·exact hy (.inl hz)
  ·exact hy (.inr (hmut hi hz)))
 rw[hsub hi] at h3
 exact h3
theorem aBf.consC {w:World}{Y:Nat→Prop}{esz:Nat}{d:DD}{r:List DD}{c1 c2:List Value}(h1:c1.length=esz)(hd:Rep w Y d c1)(hr:aBf w Y esz r c2):aBf w Y esz (d::r) (c1++c2):=by
 simp only[aBf];exact⟨c1,c2,rfl,h1,hd,hr⟩
theorem aAS {w:World}{Y:Nat→Prop}:Rep w Y (.sl false 8 (([]:List Fld).map aBg)) [.slice none 0 0]:=by simp[Rep]
theorem Mem.blkCall (h:Mem w0 X Z m w){cs':List Value}(hi:aBi m i=some (.blk g cs e))(hp:Agr (fun k=>k=g) w w')(hb:w'.heap[g]? = some (.cells cs'.toArray e (0,0))){d:DD}{c:List Value}
  (hr:Rep w' (fun b=>b<w.heap.size∧Yof w0 Z m b) d c):Mem w0 X Z (.rep d c::aBn m i (.blk g cs' e)) w':=by
 have h2:=h.write hi hp hb
 have hmu:muts (aBn m i (.blk g cs' e))=muts m:=aFZ hi rfl
 refine h2.add rfl (Rep.move (fun _ _ hy=>⟨rfl,fun hz=>hy ⟨Yof.lt h ?_,?_⟩⟩) d c hr)
 ·simpa [Yof,hmu] using hz
 ·simpa [Yof,hmu] using hz
theorem Mem.freezeBytes (h:Mem w0 Nob Z m w){s:List UInt8}(hi:aBi m i=some (.row e 1 v n (bv s)))(hn:n=s.length):Mem w0 Nob Z (aBn m i (.rep (aDJ s) [v])) w :=
 h.freezeRow (st:=false) hi (noX v) (aNk s) (by rw[List.length_map,hn]) (fun _=>rfl)
end
end Go.Mk
namespace Go.Mk
open Go
end Go.Mk
namespace Go.Mk
open Go
theorem aE2 {w0:World}{Z:Nat→Prop}{m:List Ent}{i b:Nat}{cs:List Value}{e:TypeId}(hi:aBi m i=some (.blk b cs e)):Yof w0 Z m b:=.inr (aBI (eA0 hi) (by simp[Ent.mut]))
end Go.Mk
