/- Walks of programs, step by step: what holds of memory behind each; the reference in plain words. No statement of a seat stands here. -/
import Derived.Test.YtoopklfabccmnaaGreatDoorL1
import Derived.SizedLaws
import Derived.Carry
import Derived.ProofKit
import Derived.WalkKit
import Derived.OpenShut
import Derived.Deep.CondSized
import Derived.JoinedCond
import Derived.Maps.RangeRun
import Derived.Shelf.GgSortFunc.Whole
import Derived.Shelf.GgSortFunc.Tiny
import Derived.Lib.SortBridge
import Derived.Sort.LotA
namespace Go.Mk.Ea
open Go Go.Mk
section
variable {w0 w w':World} {Y:Nat → Prop} {e sz:Nat} {v0 ro ro':Value} {n m:Nat} {xs ys:List Value}
theorem _root_.Go.Mk.RowTo.trans (h:RowTo w0 e sz v0 n xs ro w) (k:RowTo w e sz ro m ys ro' w'):RowTo w0 e sz v0 m ys ro' w':=by
 refine ⟨h.1.trans k.1 (fun _ _ x=>x) (fun i hi hx=>?_),k.2.1,fun i hi=>?_⟩
 ·rcases h.2.2 i hx with h1 | h1
  ·exact h1
  ·omega
 ·rcases k.2.2 i hi with h1 | h1
  ·exact h.2.2 i h1
  ·exact .inr (Nat.le_trans h.1.size h1)
theorem _root_.Go.Mk.RowTo.pure (h:RowTo w0 e sz v0 n xs ro w) (hp:Agr Nob w w'):RowTo w0 e sz v0 n xs ro w':=by
 refine ⟨h.1.trans hp (fun _ _ x=>x) (fun _ _ x=>x.elim),?_,h.2.2⟩
 refine Ent.holds_move (e:=.row e sz ro n xs) (Y:=fun _=>True) (Y':=fun _=>True) (fun i _ hy=>absurd trivial hy) h.2.1 (fun b hb=>?_)
 have hb':ro.ownBlock = some b:=by simpa [Ent.mut] using hb
 exact hp.block b (h.2.1.lt b hb').2 id
def Yw (Y:Nat → Prop) (w0:World):Nat → Prop:=fun k=>Y k ∨ w0.heap.size ≤ k
end
def AR (e:Nat → Lv) (ro:Value) (lb:Nat):List AV → List Value → Prop
 | [],[]=>True
 | p :: r,q :: s=>VR e ro lb p q ∧ AR e ro lb r s
 | _,_=>False
theorem AR.one {e:Nat → Lv} {ro:Value} {lb:Nat} {a:AV} {vs:List Value} (h:AR e ro lb [a] vs):∃ x,vs = [x] ∧ VR e ro lb a x:=by
 match vs,h with
 | [x],h=>exact ⟨x,rfl,h.1⟩
structure Data (cx:Cx) (ls:List LS) (e:Nat → Lv) (Y:Nat → Prop) (w:World):Prop where
 fs:∀ l s,ls[l]? = some s → (e l).fs = s.fs
 cel:∀ l s,ls[l]? = some s → Cel w Y (e l).b (e l).off (e l).xs
 cell:∀ l o cd s,ls[l]? = some s → cdAt ls l o = some cd → CDok w Y s.fs s.tg cx.V cx.flex (e l).t (e l).xs o cd
 sane:∀ l s,ls[l]? = some s → (e l).t.sane = true
theorem fldAtL_spec {cx:Cx} {ls:List LS} {cur l o i:Nat} {f:Fld} (h:fldAtL cx ls cur l o = some (i,f)) :
  l = cur ∧ ∃ s,ls[cur]? = some s ∧ (cdAt ls cur o = some (.fld i) ∨ cdAt ls cur o = some (.uu i)) ∧ s.fs.getD i FNIL = f ∧ f.tag < 0 ∧ f.has cx.V = true:=by
 unfold fldAtL at h
 split at h
 ·rename_i s j h1 h2 h3
  split at h
  ·rename_i h4
   simp only [Option.some.injEq,Prod.mk.injEq] at h
   obtain ⟨rfl,rfl⟩:=h
   obtain rfl:=Nat.eq_of_beq_eq_true h1
   simp only [Bool.and_eq_true,decide_eq_true_eq] at h4
   exact ⟨rfl,s,h2,.inl h3,rfl,h4.1,h4.2⟩
  ·cases h
 ·rename_i s j h1 h2 h3
  split at h
  ·rename_i h4
   simp only [Option.some.injEq,Prod.mk.injEq] at h
   obtain ⟨rfl,rfl⟩:=h
   obtain rfl:=Nat.eq_of_beq_eq_true h1
   simp only [Bool.and_eq_true,decide_eq_true_eq] at h4
   exact ⟨rfl,s,h2,.inr h3,rfl,h4.1,h4.2⟩
  ·cases h
 ·cases h
section
variable {cx:Cx} {ls:List LS} {cur:Nat} {e:Nat → Lv} {Y:Nat → Prop} {w:World}
theorem Data.fld (h:Data cx ls e Y w) {l o i:Nat} {f:Fld} (hf:fldAtL cx ls cur l o = some (i,f)) (h7:f.kind ≠ 7):l = cur ∧ f.tag < 0 ∧ f.has cx.V = true ∧
  ∃ s x,ls[cur]? = some s ∧ (e cur).fs = s.fs ∧ s.fs.getD i FNIL = f ∧ (e cur).xs[o]? = some x ∧ Rep w Y (wrF f s.tg cx.V cx.flex ((e cur).t.at_ i)) [x]:=by
 obtain ⟨rfl,s,hs,hc,hg,h1,h2⟩:=fldAtL_spec hf
 refine ⟨rfl,h1,h2,s,?_⟩
 rcases hc with hc | hc
 ·obtain ⟨x,h3,h4⟩:=h.cell _ _ _ _ hs hc
  exact ⟨x,hs,h.fs _ _ hs,hg,h3,by rw [← hg]; exact h4⟩
 ·obtain ⟨h3,_⟩:=h.cell _ _ _ _ hs hc
  exact absurd (hg ▸ h3) h7
theorem Data.uu (h:Data cx ls e Y w) {l o i:Nat} {f:Fld} (hf:fldAtL cx ls cur l o = some (i,f)) (h7:f.kind = 7):l = cur ∧ f.tag < 0 ∧ f.has cx.V = true ∧
  ∃ s,ls[cur]? = some s ∧ (e cur).fs = s.fs ∧ s.fs.getD i FNIL = f ∧ ((e cur).xs.drop o).take 16 = bv (sixteen ((e cur).t.at_ i).s):=by
 obtain ⟨rfl,s,hs,hc,hg,h1,h2⟩:=fldAtL_spec hf
 refine ⟨rfl,h1,h2,s,hs,h.fs _ _ hs,hg,?_⟩
 have key:∀ (s:List UInt8) (c:List Value),RepL w Y (s.map ddB) c → c = bv s:=by
  intro s
  induction s with
  | nil=>intro c h; simp [h.unNil,bv]
  | cons b r ih =>
   intro c h
   simp only [List.map_cons,ddB] at h
   obtain ⟨c2,rfl,h2⟩:=h.unV
   rw [ih c2 h2]
   rfl
 rcases hc with hc | hc
 ·obtain ⟨x,h3,h4⟩:=h.cell _ _ _ _ hs hc
  rw [hg] at h4
  have:=wrF_len7 h7 h4
  simp at this
 ·obtain ⟨_,h3,h4⟩:=h.cell _ _ _ _ hs hc
  rw [hg] at h4
  cases f with
  | mk kind fr to nu tag df of sub =>
   simp only [Fld.kind] at h7
   subst h7
   have h1':tag < 0:=h1
   rw [wrF_hasT h1' h2,if_neg (by decide)] at h4
   exact key _ _ (rep_agg_inv h4)
end
theorem tagsOk_fit (fs:List Fld) {t:T} (h:t.sane = true):TagsOk (fitU fs t.u):=by
 obtain ⟨h1,h2⟩:=unk_rising fs t.u
 refine ⟨rising_map (g:=fun p=>(p.1,whole p.2)) (fun _=>rfl) h1,?_,fun p hp=>?_⟩
 ·unfold fitU; rw [List.length_map]; exact unk_length fs t.u
 ·obtain ⟨q,hq,rfl⟩:=List.mem_map.1 hp
  exact ⟨sane_keys h q (h2 q hq),whole_len _⟩
end Go.Mk.Ea
namespace Go.Mk
open Go
mutual
def noTagF:Fld → Bool
 | .mk _ _ _ _ tag _ _ sub=>decide (tag < 0) && noTagFs sub
def noTagFs:List Fld → Bool
 | []=>true
 | f :: r=>noTagF f && noTagFs r
end
theorem noTag_mem:∀ {fs:List Fld},noTagFs fs = true → ∀ f ∈ fs,noTagF f = true
 | [],_,_,h=>by cases h
 | g :: r,h,f,hf=>by
  simp only [noTagFs,Bool.and_eq_true] at h
  cases hf with
  | head=>exact h.1
  | tail _ hf=>exact noTag_mem h.2 f hf
theorem noTag_sub {f:Fld} (h:noTagF f = true):noTagFs f.sub = true:=by
 cases f
 simp only [noTagF,Bool.and_eq_true] at h
 exact h.2
theorem noTag_tag {f:Fld} (h:noTagF f = true):f.tag < 0:=by
 cases f
 simp only [noTagF,Bool.and_eq_true,decide_eq_true_eq] at h
 exact h.1
theorem known_none:∀ {fs:List Fld},noTagFs fs = true → known fs = 0
 | [],_=>rfl
 | f :: r,h=>by
  simp only [noTagFs,Bool.and_eq_true] at h
  have h2:=known_none h.2
  have h1:=noTag_tag h.1
  show max (if f.tag ≥ 0 then f.tag.toNat + 1 else 0) (known r) = 0
  rw [if_neg (by omega),h2]
  rfl
theorem partP_off {fs:List Fld} {V:Int} {flex:Bool} {t:T} (h:flex = false):partP fs V flex t = (List.range fs.length).flatMap (pie fs V flex t):=by
 subst h; exact partP_false fs V t
theorem partP_on {fs:List Fld} {V:Int} {flex:Bool} {t:T} (h:flex = true) (hk:known fs = 0) :
  partP fs V flex t = ((List.range fs.length).flatMap (pie fs V flex t) ++ uvarint (unknownP fs t.u).length) ++ (unknownP fs t.u).flatMap (fun u=>tagP u.1 (whole u.2)):=by
 subst h
 unfold partP partQ
 simp only [if_true,hk,List.range_zero,List.flatMap_nil,List.length_nil,Nat.zero_add,List.flatten_nil,List.append_nil]
 rw [plain_range]
 congr 2
 apply flatMap_same
 intro j _
 simp [pie,T.at_]
theorem partP_plain_le {fs:List Fld} {V:Int} {flex:Bool} {t:T} (hk:flex = true → known fs = 0):((List.range fs.length).flatMap (pie fs V flex t)).length ≤ (partP fs V flex t).length:=by
 cases flex with
 | false=>rw [partP_off rfl]; exact Nat.le_refl _
 | true=>rw [partP_on rfl (hk rfl),List.length_append,List.length_append]; omega
theorem tagP_len (k:Nat) (b:List UInt8):(tagP k b).length = (uvarint k).length + (uvarint b.length).length + b.length:=by
 unfold tagP; rw [List.length_append,List.length_append]
theorem unk_key {fs:List Fld} {t:T} (h:t.sane = true) {k:Nat} (hk:k < (unknownP fs t.u).length):((unknownP fs t.u).getD k (0,[])).1 < 4294967296:=by
 refine sane_keys h _ ((unk_rising fs t.u).2 _ ?_)
 rw [List.getD_eq_getElem?_getD,List.getElem?_eq_getElem hk]
 exact List.getElem_mem hk
end Go.Mk
namespace Go.Mk
open Go
section
variable {w0 w w':World} {X Z:Nat → Prop} {m:List Ent} {i j e sz n g:Nat} {v:Value} {xs cs:List Value}
theorem Mem.startBlk (hb:w0.heap[g]? = some (.cells cs.toArray e (0,0))) (hZ:Z g) {m:List Ent} (hm:muts m = []) (h:∀ x ∈ m,x.holds w0 Z):Mem w0 (fun k=>k = g) Z (.blk g cs e :: m) w0:=by
 have hmu:muts (.blk g cs e :: m) = [g]:=by simp [muts,Ent.mut,hm]
 refine ⟨Agr.refl _ _,fun k hk=>by subst hk; exact hZ,by rw [hmu]; simp,fun b hb'=>?_,?_⟩
 ·rw [hmu] at hb'
  have:b = g:=by simpa using hb'
  subst this
  exact ⟨(Array.getElem?_eq_some_iff.1 hb).1,fun _=>rfl⟩
 ·have hmv:∀ k,k < w0.heap.size → ¬ Z k → w0.heap[k]? = w0.heap[k]? ∧ ¬ Yof w0 Z (.blk g cs e :: m) k:=fun k _ hz=>⟨rfl,by
   rintro (h1 | h1)
   ·exact hz h1.2
   ·rw [hmu] at h1
    have:k = g:=by simpa using h1
    subst this
    exact hz hZ⟩
  intro x hx
  rcases List.mem_cons.1 hx with rfl | hx
  ·exact hb
  ·exact Ent.holds_move hmv (h x hx) (fun _ _=>rfl)
theorem Mem.freezeBlk (h:Mem w0 X Z m w) (hi:entAt m i = some (.blk g cs e)) (hx : ¬ X g):Mem w0 X Z (putAt m i (.cel g 0 cs)) w:=by
 have hsub:∀ {m:List Ent} {i:Nat} {b:Nat},entAt m i = some (.blk g cs e) → b ∈ muts (putAt m i (.cel g 0 cs)) → b ∈ muts m:=by
  intro m
  induction m with
  | nil=>intro i b h _; simp [entAt] at h
  | cons x r ih =>
   intro i b h hb
   cases i with
   | zero =>
    simp only [putAt,muts,Ent.mut,List.nil_append] at hb
    simp only [muts,List.mem_append]; exact .inr hb
   | succ i =>
    simp only [putAt,muts,List.mem_append] at hb ⊢
    rcases hb with hb | hb
    ·exact .inl hb
    ·exact .inr (ih h hb)
 have hnd:∀ {m:List Ent} {i:Nat},(muts m).Nodup → entAt m i = some (.blk g cs e) → (muts (putAt m i (.cel g 0 cs))).Nodup ∧ g ∉ muts (putAt m i (.cel g 0 cs)):=by
  intro m
  induction m with
  | nil=>intro i _ h; simp [entAt] at h
  | cons x r ih =>
   intro i hn h
   cases i with
   | zero =>
    simp only [entAt,Option.some.injEq] at h
    subst h
    simp only [putAt,muts,Ent.mut,List.nil_append,List.nodup_append] at hn ⊢
    exact ⟨hn.2.1,fun hk'=>hn.2.2 g (by simp) g hk' rfl⟩
   | succ i =>
    simp only [putAt,muts,List.nodup_append,List.mem_append,not_or] at hn ⊢
    have hr:=ih hn.2.1 h
    refine ⟨⟨hn.1,hr.1,fun a ha b hb hab=>hn.2.2 a ha b (hsub h hb) hab⟩,?_,hr.2⟩
    exact fun hkx=>hn.2.2 g hkx g (muts_mem (eA0 (m:=r) h) (by simp [Ent.mut])) rfl
 have hN:=hnd h.nodup hi
 have hmv:∀ k,k < w.heap.size → ¬ Yof w0 Z m k → w.heap[k]? = w.heap[k]? ∧ ¬ Yof w0 Z (putAt m i (.cel g 0 cs)) k:=fun k _ hy=>⟨rfl,by
  rintro (hz | hz)
  ·exact hy (.inl hz)
  ·exact hy (.inr (hsub hi hz))⟩
 refine ⟨h.agr,h.sub,hN.1,fun b hb=>h.own b (hsub hi hb),?_⟩
 intro x hx'
 rcases mem_putAt hx' with rfl | ⟨j,_,hj⟩
 ·have hb:=h.all _ (eA0 hi)
  simp only [Ent.holds] at hb ⊢
  intro j u hj
  refine ⟨?_,?_⟩
  ·rintro (hz | hz)
   ·exact hx ((h.own g (muts_mem (eA0 hi) (by simp [Ent.mut]))).2 hz.1)
   ·exact hN.2 hz
  ·rw [Nat.zero_add]
   simp only [World.cell?,hb]
   simpa using hj
 ·exact Ent.holds_move hmv (h.all x (eA0 hj)) (fun _ _=>rfl)
theorem Mem.freezeLit (h:Mem w0 X Z m w) {l:List DD} (hi:entAt m i = some (.blk g cs e)) (hx : ¬ X g) (hl:l.length = n) (_hcl:cs.length = n * sz) (_hn:n ≤ maxLen) (he:RepE w (Yof w0 Z m) sz l cs) :
  Mem w0 X Z (putAt m i (.rep (.sl false sz l) [.slice (some ⟨g,0,none⟩) n n])) w:=by
 have h2:=h.freezeBlk hi hx
 have hsub:∀ {m:List Ent} {i:Nat} {e1 e2 e3:Ent},entAt m i = some e1 → putAt (putAt m i e2) i e3 = putAt m i e3:=by
  intro m
  induction m with
  | nil=>intro i e1 e2 e3 h; simp [entAt] at h
  | cons x r ih =>
   intro i e1 e2 e3 h
   cases i with
   | zero=>rfl
   | succ i=>simp only [putAt]; rw [ih (e1:=e1) h]
 have hent:∀ {m:List Ent} {i:Nat} {e1 e2:Ent},entAt m i = some e1 → entAt (putAt m i e2) i = some e2:=by
  intro m
  induction m with
  | nil=>intro i e1 e2 h; simp [entAt] at h
  | cons x r ih =>
   intro i e1 e2 h
   cases i with
   | zero=>rfl
   | succ i=>simp only [putAt,entAt]; exact ih (e1:=e1) h
 have hmut:∀ {m:List Ent} {i b:Nat},entAt m i = some (.blk g cs e) → b ∈ muts (putAt m i (.cel g 0 cs)) → b ∈ muts m:=by
  intro m
  induction m with
  | nil=>intro i b h _; simp [entAt] at h
  | cons x r ih =>
   intro i b h hb
   cases i with
   | zero =>
    simp only [putAt,muts,Ent.mut,List.nil_append] at hb
    simp only [muts,List.mem_append]; exact .inr hb
   | succ i =>
    simp only [putAt,muts,List.mem_append] at hb ⊢
    rcases hb with hb | hb
    ·exact .inl hb
    ·exact .inr (ih h hb)
 have hcel:=h2.all _ (eA0 (hent (e2:=.cel g 0 cs) hi))
 have h3:=h2.putFrozen (e':=.rep (.sl false sz l) [.slice (some ⟨g,0,none⟩) n n]) (hent hi) rfl rfl (by
  simp only [Ent.holds,Rep] at hcel ⊢
  refine .inr ⟨g,0,n,cs,by rw [hl],by omega,hcel,RepE.move (fun k _ hy=>⟨rfl,?_⟩) sz l cs he⟩
  rintro (hz | hz)
  ·exact hy (.inl hz)
  ·exact hy (.inr (hmut hi hz)))
 rw [hsub hi] at h3
 exact h3
theorem RepE.consC {w:World} {Y:Nat → Prop} {esz:Nat} {d:DD} {r:List DD} {c1 c2:List Value} (h1:c1.length = esz) (hd:Rep w Y d c1) (hr:RepE w Y esz r c2):RepE w Y esz (d :: r) (c1 ++ c2):=by
 simp only [RepE]; exact ⟨c1,c2,rfl,h1,hd,hr⟩
theorem rep_nosub {w:World} {Y:Nat → Prop}:Rep w Y (.sl false 8 (([]:List Fld).map ddFd)) [.slice none 0 0]:=by simp [Rep]
theorem Mem.blkCall (h:Mem w0 X Z m w) {cs':List Value} (hi:entAt m i = some (.blk g cs e)) (hp:Agr (fun k=>k = g) w w') (hb:w'.heap[g]? = some (.cells cs'.toArray e (0,0))) {d:DD} {c:List Value}
  (hr:Rep w' (fun b=>b < w.heap.size ∧ Yof w0 Z m b) d c):Mem w0 X Z (.rep d c :: putAt m i (.blk g cs' e)) w':=by
 have h2:=h.write hi hp hb
 have hmu:muts (putAt m i (.blk g cs' e)) = muts m:=muts_putAt hi rfl
 refine h2.add rfl (Rep.move (fun _ _ hy=>⟨rfl,fun hz=>hy ⟨Yof.lt h ?_,?_⟩⟩) d c hr)
 ·simpa [Yof,hmu] using hz
 ·simpa [Yof,hmu] using hz
theorem Mem.freezeBytes (h:Mem w0 Nob Z m w) {s:List UInt8} (hi:entAt m i = some (.row e 1 v n (bv s))) (hn:n = s.length):Mem w0 Nob Z (putAt m i (.rep (ddBs s) [v])) w :=
 h.freezeRow (st:=false) hi (noX v) (repE_bv s) (by rw [List.length_map,hn]) (fun _=>rfl)
end
end Go.Mk
namespace Go.Mk
open Go
end Go.Mk
namespace Go.Mk
open Go
theorem yof_blk {w0:World} {Z:Nat → Prop} {m:List Ent} {i b:Nat} {cs:List Value} {e:TypeId} (hi:entAt m i = some (.blk b cs e)):Yof w0 Z m b:=.inr (muts_mem (eA0 hi) (by simp [Ent.mut]))
end Go.Mk
namespace Go.Mk
open Go
theorem counted_len2 {flex null:Bool} {n size:Nat} (hs:size ≤ 8) (hn:n ≤ 32767):(counted flex null n size).length ≤ 10:=counted_len hs (by unfold room; omega)
def structOf (P:Program) (t:Nat):Option (Nat × List (Nat × Nat × Nat)):=match P.underlying t with
 | some (.struct fs)=>some (P.cellsOf t,fs.toList.map fun f=>(f.type,f.offset,P.cellsOf f.type))
 | _=>none
def sliceOf (P:Program) (t:Nat):Option (Nat × Nat):=match P.underlying t with
 | some (.slice e)=>some (e,P.cellsOf e)
 | _=>none
theorem structOf_spec {P:Program} {t c:Nat} {l:List (Nat × Nat × Nat)} (h:structOf P t = some (c,l)):∃ fs,P.underlying t = some (.struct fs) ∧ P.cellsOf t = c ∧ (fs.toList.map fun f=>(f.type,f.offset,P.cellsOf f.type)) = l:=by
 unfold structOf at h
 split at h
 ·rename_i fs hfs
  simp only [Option.some.injEq,Prod.mk.injEq] at h
  exact ⟨fs,hfs,h.1,h.2⟩
 ·cases h
theorem sliceOf_spec {P:Program} {t e c:Nat} (h:sliceOf P t = some (e,c)):P.underlying t = some (.slice e) ∧ P.cellsOf e = c:=by
 unfold sliceOf at h
 split at h
 ·rename_i e' he
  simp only [Option.some.injEq,Prod.mk.injEq] at h
  obtain ⟨rfl,h2⟩:=h
  exact ⟨he,h2⟩
 ·cases h
section
variable {H:Type} {enc:TypeId × Value → H} {P:Program} {w:World} {base:Nat} {spare:Nat → Bool} {held:Bool} {fuel t:Nat} {cs:List Value} {x:DataW H × List MemPlace}
theorem add_eq (a:Addr) (hs:a.spot = none) (n:Nat):a.add n = ⟨a.block,a.off + n,none⟩:=by
 unfold Addr.add
 split
 ·rename_i h; subst h; cases a; simp_all
 ·rfl
theorem open_sl {α : Type} {e c:Nat} (F : α → DD) (R : α → DataW H → Prop) (hc0 : 0 < c) (ht:sliceOf P t = some (e,c)) (ih:∀ (f:Nat) (ce:List Value) (y:DataW H × List MemPlace),f < fuel → DataW.trod enc P w base spare held f e ce = some y → ∃ a : α,(Rep w Nob (F a) ce ∧ R a y.1) ∧ ce.length = c)
  (h:DataW.trod enc P w base spare held fuel t cs = some x) (hsp:∀ b,spare b = true):∃ (l:List α) (el sp:List (DataW H)),Rep w Nob (.sl false c (l.map F)) cs ∧ l.length ≤ maxLen ∧ l.length = el.length ∧ (∀ (i:Nat) a d,l[i]? = some a → el[i]? = some d → R a d) ∧ ((x.1 = .nil ∧ el = []) ∨ x.1 = .slice el sp):=by
 obtain ⟨hu,rfl⟩:=sliceOf_spec ht
 rcases DataW.trod_slice hu h with ⟨rfl,hx⟩ | ⟨a,len,cap,elems,rest,n,rfl,rfl,hx,hb,hlc,hcm,hel,hget,hspare,_⟩
 ·exact ⟨[],[],[],by simp [Rep],Nat.zero_le _,rfl,by simp,.inl ⟨by rw [hx],rfl⟩⟩
 ·by_cases hcap:cap = 0
  ·have h0:len = 0:=by omega
   subst hcap h0
   have he0:elems = []:=List.eq_nil_of_length_eq_zero hel
   exact ⟨[],[],_,by simp [Rep],Nat.zero_le _,rfl,by simp,.inr (by rw [hx,he0]; rfl)⟩
  ·-- the address has no spot: a cell of it is read
   have hspot:a.spot = none:=by
    have h1:∃ ce,w.cells? base (a.add (0 * P.cellsOf e)) (P.cellsOf e) = some ce:=by
     by_cases hl : 0 < len
     ·have:=hget 0 hl
      have h2:elems[0]? = some elems[0]:=List.getElem?_eq_getElem (by omega)
      cases hq:w.cells? base (a.add (0 * P.cellsOf e)) (P.cellsOf e) with
      | none=>rw [hq,h2] at this; cases this
      | some ce=>exact ⟨ce,rfl⟩
     ·have hl0:len = 0:=by omega
      obtain ⟨h2,h3⟩:=hspare (hsp _)
      have:=h3 0 (by omega)
      have h2':rest[0]? = some rest[0]:=List.getElem?_eq_getElem (by omega)
      rw [hl0,Nat.add_zero] at this
      cases hq:w.cells? base (a.add (0 * P.cellsOf e)) (P.cellsOf e) with
      | none=>rw [hq,h2'] at this; cases this
      | some ce=>exact ⟨ce,rfl⟩
    obtain ⟨ce,hce⟩:=h1
    obtain ⟨_,h3,h4⟩:=World.cells?_some hce
    have h5:=h4 0 hc0
    rw [Nat.zero_mul] at h5
    have h6:(a.add 0).add 0 = a:=by simp [Addr.add]
    rw [h6] at h5
    have h7:ce[0]? ≠ none:=by rw [List.getElem?_eq_getElem (by omega)]; simp
    rw [← h5] at h7
    unfold World.cell? at h7
    split at h7
    ·split at h7
     ·exact absurd rfl h7
     ·rename_i hs; simpa using hs
    ·exact absurd rfl h7
   have key:∀ (k:Nat),k ≤ len → ∃ (l:List α) (xs:List Value),l.length = k ∧ RepE w Nob (P.cellsOf e) (l.map F) xs ∧ Cel w Nob a.block a.off xs ∧ ∀ (i:Nat) b d,l[i]? = some b → (elems.map (·.1))[i]? = some d → R b d:=by
    intro k
    induction k with
    | zero=>intro _; exact ⟨[],[],rfl,by simp [RepE],(fun j u hj=>by simp at hj),by simp⟩
    | succ k ihk =>
     intro hk
     obtain ⟨l,xs,h1,h2,h3,hR⟩:=ihk (by omega)
     have hg:=hget k (by omega)
     cases hq:w.cells? base (a.add (k * P.cellsOf e)) (P.cellsOf e) with
     | none =>
      rw [hq,List.getElem?_eq_getElem (by omega)] at hg
      cases hg
     | some ce =>
      rw [hq] at hg
      have hlt:k < elems.length:=by omega
      have hg':DataW.trod enc P w base spare held n e ce = some elems[k]:=by simpa [hlt] using hg
      obtain ⟨v,⟨hv,hvR⟩,hvl⟩:=ih n ce _ (Nat.lt_succ_self n) hg'
      refine ⟨l ++ [v],xs ++ ce,by simp [h1],by rw [List.map_append]; exact h2.append (RepE.one hv hvl),?_,?_⟩
      rotate_left
      ·intro i b d hi hd
       rw [List.getElem?_append] at hi
       split at hi
       ·exact hR i b d hi hd
       ·rename_i hge
        have hik:i = k:=by
         have:=(List.getElem?_eq_some_iff.1 hi).1
         simp only [List.length_singleton] at this
         omega
        subst hik
        rw [h1,Nat.sub_self] at hi
        simp only [List.getElem?_cons_zero,Option.some.injEq] at hi
        subst hi
        rw [List.getElem?_map,List.getElem?_eq_getElem hlt] at hd
        simp only [Option.map_some,Option.some.injEq] at hd
        subst hd
        exact hvR
      intro j u hj
      have hxl:=h2.length
      rw [List.length_map,h1] at hxl
      rw [List.getElem?_append] at hj
      split at hj
      ·exact h3 j u hj
      ·rename_i hge
       obtain ⟨_,h5,h6⟩:=World.cells?_some hq
       have hj2:j - xs.length < P.cellsOf e:=by
        have:=(List.getElem?_eq_some_iff.1 hj).1
        omega
       have h7:=h6 (j - xs.length) hj2
       rw [hj,add_eq a hspot] at h7
       refine ⟨id,?_⟩
       have h8:(⟨a.block,a.off + k * P.cellsOf e,none⟩ : Addr).add (j - xs.length) = ⟨a.block,a.off + j,none⟩:=by
        rw [add_eq _ rfl]
        have:a.off + k * P.cellsOf e + (j - xs.length) = a.off + j:=by omega
        rw [this]
       rw [h8] at h7
       exact h7
   obtain ⟨l,xs,h1,h2,h3,hR⟩:=key len (Nat.le_refl _)
   refine ⟨l,elems.map (·.1),rest.map (·.1),?_,by omega,by rw [List.length_map]; omega,hR,.inr (by rw [hx])⟩
   simp only [Rep]
   refine .inr ⟨a.block,a.off,cap,xs,?_,by rw [List.length_map]; omega,h3,h2⟩
   rw [List.length_map,h1]
   cases a
   simp only at hspot
   subst hspot
   rfl
def intOf (P:Program) (t:Nat) (k:IntKind):Bool:=match P.underlying t with | some (.int k')=>decide (k' = k) | _=>false
theorem intOf_spec {k:IntKind} (h:intOf P t k = true):P.underlying t = some (.int k):=by
 unfold intOf at h
 split at h
 ·rename_i k' hk; rw [hk]; simpa using h
 ·cases h
def boolOf (P:Program) (t:Nat):Bool:=match P.underlying t with | some .bool=>true | _=>false
theorem boolOf_spec (h:boolOf P t = true):P.underlying t = some .bool:=by
 unfold boolOf at h
 split at h
 ·assumption
 ·cases h
theorem open_byte (ht:intOf P t .u8 = true) (h:DataW.trod enc P w base spare held fuel t cs = some x):∃ b:UInt8,(Rep w Nob (ddB b) cs ∧ True) ∧ cs.length = 1:=by
 obtain ⟨n,rfl,_,hwf⟩:=DataW.trod_int (intOf_spec ht) h
 simp only [Lit.wf,Bool.and_eq_true,decide_eq_true_eq] at hwf
 refine ⟨UInt8.ofNat n.toNat,⟨?_,trivial⟩,rfl⟩
 have h1 : 0 ≤ n ∧ n < 256:=by
  simp [IntKind.min,IntKind.max,IntKind.bits,IntKind.signed] at hwf
  omega
 simp only [ddB,Rep]
 have:((UInt8.ofNat n.toNat).toNat:Int) = n:=by
  rw [UInt8.toNat_ofNat']
  omega
 rw [this]
theorem open_fields {c:Nat} {l:List (Nat × Nat × Nat)} (ht:structOf P t = some (c,l)) (h:DataW.trod enc P w base spare held fuel t cs = some x) :
  ∃ (n:Nat) (xs:List (DataW H × List MemPlace)),fuel = n + 1 ∧ cs.length = c ∧ x.1 = .agg (xs.map (·.1)) ∧ xs.length = l.length ∧ ∀ (i ty off k:Nat),l[i]? = some (ty,off,k) → ∃ y,DataW.trod enc P w base spare held n ty ((cs.drop off).take k) = some y ∧ xs[i]? = some y:=by
 obtain ⟨fs,hu,hc,hl⟩:=structOf_spec ht
 obtain ⟨xs,n,rfl,hx,h1,h2,h3⟩:=DataW.trod_struct hu h
 refine ⟨n,xs,rfl,by rw [h1,hc],by rw [hx],by rw [h2,← hl]; simp,fun i ty off k hi=>?_⟩
 rw [← hl,List.getElem?_map] at hi
 cases hf:fs.toList[i]? with
 | none=>rw [hf] at hi; simp at hi
 | some f =>
  rw [hf] at hi
  simp only [Option.map_some,Option.some.injEq,Prod.mk.injEq] at hi
  obtain ⟨rfl,rfl,rfl⟩:=hi
  have hf':fs[i]? = some f:=by simpa using hf
  have h4:=h3 i f hf'
  have hlt:i < xs.length:=by
   have:=(List.getElem?_eq_some_iff.1 hf).1
   simp only [Array.length_toList] at this
   omega
  exact ⟨xs[i],by rw [h4,List.getElem?_eq_getElem hlt],List.getElem?_eq_getElem hlt⟩
mutual
def bulkD {H:Type}:DataW H → Nat
 | .lit (.string bytes)=>bytes.length + 1
 | .lit _=>1
 | .nil=>1
 | .ptr d=>bulkD d + 1
 | .slice elems spare=>bulkDs elems + bulkDs spare + 1
 | .agg parts=>bulkDs parts + 1
 | .iface _ d=>bulkD d + 1
 | .map entries=>bulkEs entries + 1
 | .held _=>1
def bulkDs {H:Type}:List (DataW H) → Nat
 | []=>0
 | d :: r=>bulkD d + bulkDs r
def bulkEs {H:Type}:List (Lit × DataW H) → Nat
 | []=>0
 | x :: r=>bulkE x + bulkEs r
def bulkE {H:Type}:Lit × DataW H → Nat
 | (.string bytes,d)=>bytes.length + bulkD d + 1
 | (_,d)=>bulkD d + 1
end
def bulkU:List (Nat × List UInt8) → Nat
 | []=>0
 | p :: r=>1 + p.2.length + bulkU r
mutual
def T.bulk:T → Nat
 | .mk _ s _ l u=>1 + s.length + bulkU u + T.bulks l
def T.bulks:List T → Nat
 | []=>0
 | t :: r=>T.bulk t + T.bulks r
end
theorem bulk_pos (d : DataW H) : 1 ≤ bulkD d := by cases d <;> try (unfold bulkD; omega)
                                                   rename_i l; cases l <;> simp [bulkD]
theorem bulk_count:∀ {el:List (DataW H)},el.length ≤ bulkDs el
 | []=>by simp [bulkDs]
 | d :: r=>by have:=bulk_pos d; have:=bulk_count (el:=r); simp only [List.length_cons,bulkDs]; omega
theorem weightsAll_mem {e:Nat}:∀ {el:List (DataW H)} {i:Nat} {d:DataW H},el[i]? = some d → ∀ n ∈ d.weights P e,n ∈ DataW.weightsAll P e el
 | [],i,d,h,_,_=>by simp at h
 | d0 :: r,0,d,h,n,hn=>by simp only [List.getElem?_cons_zero,Option.some.injEq] at h; subst h; simp only [DataW.weightsAll,List.mem_append]; exact .inl hn
 | d0 :: r,i + 1,d,h,n,hn=>by simp only [List.getElem?_cons_succ] at h; simp only [DataW.weightsAll,List.mem_append]; exact .inr (weightsAll_mem h n hn)
structure TreeTy (P:Program) (tt tg tn ts t8 tb tl tu tk:Nat):Prop where
 st:structOf P tt = some (5,[(tn,0,1),(ts,1,1),(tb,2,1),(tl,3,1),(tu,4,1)])
 n:intOf P tn .i64 = true
 s:sliceOf P ts = some (t8,1)
 b8:intOf P t8 .u8 = true
 b:boolOf P tb = true
 l:sliceOf P tl = some (tt,5)
 u:sliceOf P tu = some (tg,2)
 g:structOf P tg = some (2,[(tk,0,1),(ts,1,1)])
 k:intOf P tk .u32 = true
 y8:Nat.blt 0 (P.bytesOf t8) = true
 yt:Nat.blt 0 (P.bytesOf tt) = true
 yg:Nat.blt 0 (P.bytesOf tg) = true
def Light (P:Program) (t:Nat) (d:DataW H):Prop:=∀ n ∈ d.weights P t,n ≤ reachBytes
theorem sl_light {e c:Nat} {el sp:List (DataW H)} {d:DataW H} (ht:sliceOf P t = some (e,c)) (hy:Nat.blt 0 (P.bytesOf e) = true) (hx:(d = .nil ∧ el = []) ∨ d = .slice el sp) (h:Light P t d) :
  el.length ≤ 140737488355328 ∧ ∀ (i:Nat) d',el[i]? = some d' → Light P e d':=by
 obtain ⟨hu,_⟩:=sliceOf_spec ht
 have hy' : 0 < P.bytesOf e:=by simpa [Nat.blt_eq] using hy
 rcases hx with ⟨rfl,rfl⟩ | rfl
 ·exact ⟨by simp,fun i d' hi=>by simp at hi⟩
 ·unfold Light at h
  simp only [DataW.weights,hu,List.mem_cons,List.mem_append,forall_eq_or_imp] at h
  refine ⟨?_,fun i d' hi n hn=>h.2 n (.inl (weightsAll_mem hi n hn))⟩
  have h1:=h.1
  have h2:=reachBytes_lt
  have h3:el.length + sp.length ≤ (el.length + sp.length) * P.bytesOf e:=Nat.le_mul_of_pos_right _ hy'
  omega
theorem sl_bulk {el sp:List (DataW H)} {d:DataW H} (hx:(d = .nil ∧ el = []) ∨ d = .slice el sp):bulkDs el + 1 ≤ bulkD d:=by
 rcases hx with ⟨rfl,rfl⟩ | rfl
 ·simp [bulkDs,bulkD]
 ·unfold bulkD; omega
theorem bulks_le {α : Type} {g : α → Nat}:∀ {l:List α} {el:List (DataW H)},l.length = el.length → (∀ (i:Nat) a d,l[i]? = some a → el[i]? = some d → g a ≤ bulkD d) → (l.map g).sum ≤ bulkDs el
 | [],[],_,_=>by simp [bulkDs]
 | [],_ :: _,h,_=>by simp at h
 | _ :: _,[],h,_=>by simp at h
 | a :: r,d :: s,h,hg=>by
  have h0:=hg 0 a d rfl rfl
  have:=bulks_le (l:=r) (el:=s) (by simpa using h) (fun i a d h1 h2=>hg (i + 1) a d (by simpa using h1) (by simpa using h2))
  simp only [List.map_cons,List.sum_cons,bulkDs]
  omega
theorem bulks_sum:∀ l:List T,T.bulks l = (l.map T.bulk).sum
 | []=>by simp [T.bulks]
 | t :: r=>by simp only [T.bulks,List.map_cons,List.sum_cons,bulks_sum r]
theorem bulkU_sum:∀ l:List (Nat × List UInt8),bulkU l = (l.map fun p=>1 + p.2.length).sum
 | []=>by simp [bulkU]
 | t :: r=>by simp only [bulkU,List.map_cons,List.sum_cons,bulkU_sum r]
theorem open_tag {tt tg tn ts t8 tb tl tu tk:Nat} (ty:TreeTy P tt tg tn ts t8 tb tl tu tk) (hsp:∀ b,spare b = true) (h:DataW.trod enc P w base spare held fuel tg cs = some x) :
  ∃ u:Nat × List UInt8,(Rep w Nob (ddTag u) cs ∧ u.1 < 4294967296 ∧ 1 + u.2.length ≤ bulkD x.1 ∧ (Light P tg x.1 → u.2.length ≤ 140737488355328)) ∧ cs.length = 2:=by
 obtain ⟨n,xs,rfl,hl,hx,hxl,hf⟩:=open_fields ty.g h
 match cs,hl,xs,hxl with
 | [c0,c1],_,[z0,z1],_ =>
  obtain ⟨y0,h0,e0⟩:=hf 0 tk 0 1 rfl
  obtain ⟨y1,h1,e1⟩:=hf 1 ts 1 1 rfl
  simp only [List.getElem?_cons_zero,List.getElem?_cons_succ,Option.some.injEq] at e0 e1
  subst e0 e1
  simp only [List.drop_zero,List.take_succ_cons,List.take_zero,List.drop_succ_cons] at h0 h1
  obtain ⟨m,hm,_,hwf⟩:=DataW.trod_int (intOf_spec ty.k) h0
  simp only [List.cons.injEq,and_true] at hm
  subst hm
  simp only [Lit.wf,Bool.and_eq_true,decide_eq_true_eq] at hwf
  obtain ⟨bs,el,sp,h2,_,hlen,_,hxs⟩:=open_sl ddB (fun _ _=>True) (by decide) ty.s (fun f ce y _ hc=>open_byte ty.b8 hc) h1 hsp
  have h0m : 0 ≤ m:=by
   have:=hwf.1
   simp [IntKind.min,IntKind.signed] at this
   exact this
  have h1m:m < 4294967296:=by
   have:=hwf.2
   simp [IntKind.max,IntKind.bits,IntKind.signed] at this
   omega
  refine ⟨(m.toNat,bs),⟨?_,by show m.toNat < _; omega,?_,?_⟩,rfl⟩
  ·have e:Value.int .u32 m = .int .u32 ((m.toNat:Nat):Int):=by rw [Int.toNat_of_nonneg h0m]
   rw [e]
   exact rep_Tag_mk (u:=(m.toNat,bs)) h2
  ·rw [hx]
   have:=sl_bulk hxs
   have:=bulk_count (el:=el)
   simp only [List.map_cons,List.map_nil,bulkD,bulkDs]
   omega
  ·intro hw
   rw [hx] at hw
   have:Light P ts z1.1:=fun n hn=>hw n (by
    obtain ⟨fs,hu,_,hl⟩:=structOf_spec ty.g
    have hty:fs.toList.map (·.type) = [tk,ts]:=by
     have:=congrArg (List.map (·.1)) hl
     rw [List.map_map] at this
     exact this
    simp only [DataW.weights,hu,hty,List.map_cons,List.map_nil,DataW.weightsEach,List.mem_append]
    exact .inr (.inl hn))
   have:=(sl_light ty.s ty.y8 hxs this).1
   show bs.length ≤ _
   omega
theorem agg_of_len {v:Value} (h:v.cells.toList.length = 5):∃ cs:Array Value,v = .agg cs:=by
 cases v <;> first | exact ⟨_,rfl⟩ | simp [Value.cells] at h
end
theorem bres_nil {at_:Nat → Option (Nat × Nat)} {l:List (Nat × Value)} {zs r:List Value} (h:r = zs):bres at_ l [] zs r:=h
end Go.Mk
namespace Go.Mk
open Go
theorem tags_len (fs:List Fld) {t:T} (hsn:t.sane = true):∀ u ∈ unknownP fs t.u,(tagP u.1 (whole u.2)).length ≤ 20 + (whole u.2).length:=fun u hu=>by
 have h1:=sane_keys hsn u ((unk_rising fs t.u).2 u hu)
 have h2:=uvarint_len10 u.1 (by omega)
 have h3:=whole_len u.2
 have h4:=uvarint_len10 (whole u.2).length (by omega)
 rw [tagP_len]; omega
theorem sane_get {t:T} (h:t.sane = true) (l:List T) (hl:∀ x ∈ l,x ∈ t.l) (j:Nat):(l.getD j T.nil).sane = true:=by
 rw [List.getD_eq_getElem?_getD]
 cases hi:l[j]? with
 | none=>exact sane_nil
 | some x=>exact (sane_spec h).2.2.2 x (hl x (List.mem_of_getElem? hi))
theorem plain_flat (fs:List Fld) (V:Int) (flex:Bool) (t:T):(List.range fs.length).flatMap (pie fs V flex t) = plainOut fs V (fieldsP fs V flex t.l 0):=by
 rw [plain_range]
 apply flatMap_same
 intro j _
 simp [pie,T.at_]
def kpV (kind part:Nat):Nat :=
 match kind with
 | 0=>1
 | 7=>16
 | 8=>11
 | 9=>11
 | 10=>part
 | _=>8
mutual
def kpF:Fld → Nat
 | .mk kind _ _ _ _ _ of sub=>10 + (if kind = 11 then kpV of (kpFs sub + 31) else 1 + kpV kind (kpFs sub + 31))
def kpFs:List Fld → Nat
 | []=>0
 | f :: r=>kpF f + kpFs r
end
theorem kpF_eq (f:Fld):kpF f = 10 + (if f.kind = 11 then kpV f.of (kpFs f.sub + 31) else 1 + kpV f.kind (kpFs f.sub + 31)):=by
 cases f; unfold kpF; rfl
theorem bulk_s (t:T) : 1 + t.s.length + bulkU t.u + T.bulks t.l = t.bulk:=by cases t; simp only [T.bulk,T.s,T.u,T.l]
theorem kpV_le {kind:Nat} {pt:T → List UInt8} {null flex:Bool} {t:T} {m:Nat} (hp:(pt t).length ≤ m * t.bulk):(valueP kind pt null flex t).length ≤ kpV kind m * t.bulk:=by
 have hb:=bulk_s t
 by_cases h0:kind = 0
 ·subst h0; show 1 ≤ 1 * t.bulk; omega
 by_cases h7:kind = 7
 ·subst h7; show (sixteen t.s).length ≤ 16 * t.bulk; rw [sixteen_length]; omega
 have hw:(if null then [] else whole t.s).length ≤ 32767:=by split; exact Nat.zero_le _; exact whole_len t.s
 have hw2:(if null then [] else whole t.s).length ≤ t.s.length:=by
  split
  ·exact Nat.zero_le _
  ·unfold whole; rw [List.length_take]; omega
 by_cases h8:kind = 8
 ·subst h8
  show (counted flex null _ 2 ++ _).length ≤ 11 * t.bulk
  rw [List.length_append]
  have:=counted_len2 (flex:=flex) (null:=null) (n:=(if null then [] else whole t.s).length) (size:=2) (by decide) hw
  omega
 by_cases h9:kind = 9
 ·subst h9
  show (counted flex null _ 4 ++ _).length ≤ 11 * t.bulk
  rw [List.length_append]
  have:=counted_len2 (flex:=flex) (null:=null) (n:=(if null then [] else whole t.s).length) (size:=4) (by decide) hw
  omega
 by_cases h10:kind = 10
 ·subst h10; exact hp
 ·rw [valueP_num h0 h7 h8 h9 h10,fixed_length]
  have:kpV kind m = 8:=by unfold kpV; split <;> simp_all
  rw [this]
  have:=width_le kind
  omega
theorem flat_sum {α β : Type} (F : α → List β) (c:Nat) (g : α → Nat):∀ (l:List α),(∀ x ∈ l,(F x).length ≤ c * g x) → (l.flatMap F).length ≤ c * (l.map g).sum
 | [],_=>by simp
 | x :: r,h=>by
  have h1:=h x List.mem_cons_self
  have h2:=flat_sum F c g r fun y hy=>h y (List.mem_cons_of_mem _ hy)
  rw [List.flatMap_cons,List.length_append,List.map_cons,List.sum_cons,Nat.mul_add]
  omega
theorem sum_take {α : Type} (g : α → Nat):∀ (l:List α) (k:Nat),((l.take k).map g).sum ≤ (l.map g).sum
 | [],k=>by simp
 | x :: r,0=>by simp
 | x :: r,k + 1=>by
  have:=sum_take g r k
  simp only [List.take_succ_cons,List.map_cons,List.sum_cons]; omega
theorem mem_sum {α : Type} (g : α → Nat):∀ {l:List α} {x : α},x ∈ l → g x ≤ (l.map g).sum
 | [],x,h=>by cases h
 | y :: r,x,h=>by
  simp only [List.map_cons,List.sum_cons]
  rcases List.mem_cons.1 h with rfl | h
  ·omega
  ·have:=mem_sum g h; omega
theorem ins_sum {g:Nat × List UInt8 → Nat} {u:Nat × List UInt8}:∀ l:List (Nat × List UInt8),((insTag u l).map g).sum ≤ g u + (l.map g).sum
 | []=>by simp [insTag]
 | x :: r=>by
  have:=ins_sum (g:=g) (u:=u) r
  unfold insTag
  split
  ·simp only [List.map_cons,List.sum_cons]; omega
  ·split <;> (simp only [List.map_cons,List.sum_cons]; omega)
theorem unk_sum (g:Nat × List UInt8 → Nat) (fs:List Fld) (u:List (Nat × List UInt8)):((unknownP fs u).map g).sum ≤ (u.map g).sum:=by
 have key:∀ (l out:List (Nat × List UInt8)),((l.foldl (fun out t=>if t.1 < known fs then out else insTag t out) out).map g).sum ≤ (out.map g).sum + (l.map g).sum:=by
  intro l
  induction l with
  | nil=>intro out; simp
  | cons x r ih =>
   intro out
   simp only [List.foldl_cons,List.map_cons,List.sum_cons]
   have h1:=ih (if x.1 < known fs then out else insTag x out)
   have h2:((if x.1 < known fs then out else insTag x out).map g).sum ≤ g x + (out.map g).sum:=by
    split
    ·omega
    ·exact ins_sum out
   omega
 have h1:=key (u.take 32767) []
 have h2:=sum_take g u 32767
 simp only [List.map_nil,List.sum_nil,Nat.zero_add] at h1
 exact Nat.le_trans h1 h2
theorem kpF_le_of {f:Fld} {V:Int} {flex:Bool} (hp:∀ t:T,t.sane = true → (partP f.sub V flex t).length ≤ (kpFs f.sub + 31) * t.bulk) (t:T) (hsn:t.sane = true):(fieldP f V flex t).length ≤ kpF f * t.bulk:=by
 have hb:=bulk_s t
 rw [fieldP_eq,kpF_eq]
 unfold fieldQ
 by_cases h11:f.kind = 11
 ·rw [if_pos h11,if_pos h11,List.length_append]
  have hl:(if f.null V t then [] else things t.l).length ≤ 32767:=by split; exact Nat.zero_le _; exact things_len t.l
  have h1:=counted_len2 (flex:=flex) (null:=f.null V t) (size:=4) (by decide) hl
  have h2:=flat_sum (valueP f.of (partP f.sub V flex) false flex) (kpV f.of (kpFs f.sub + 31)) T.bulk (if f.null V t then [] else things t.l) (fun x hx=>kpV_le (hp x ((sane_spec hsn).2.2.2 x (by
   split at hx
   ·cases hx
   ·exact List.mem_of_mem_take hx))))
  have h3:((if f.null V t then [] else things t.l).map T.bulk).sum ≤ t.bulk:=by
   have:=sum_take T.bulk t.l 32767
   rw [← bulks_sum t.l] at this
   split
   ·simp
   ·unfold things; omega
  have h4:=Nat.mul_le_mul_left (kpV f.of (kpFs f.sub + 31)) h3
  rw [Nat.add_mul]
  omega
 ·rw [if_neg h11,if_neg h11]
  by_cases h10:f.kind = 10 ∧ f.nu ≥ 0
  ·rw [if_pos h10,h10.1]
   have:=hp t hsn
   show _ ≤ (10 + (1 + (kpFs f.sub + 31))) * t.bulk
   rw [Nat.add_mul,Nat.add_mul]
   split
   ·simp only [fixed_length]; omega
   ·rw [List.length_append,fixed_length]; omega
  ·rw [if_neg h10]
   have:=kpV_le (kind:=f.kind) (null:=f.null V t) (flex:=flex) (hp t hsn)
   rw [Nat.add_mul,Nat.add_mul]
   omega
theorem plain_leK (V:Int) (flex:Bool) (t:T) (hsn:t.sane = true):∀ (fs:List Fld) (i:Nat),(∀ f ∈ fs,∀ t:T,t.sane = true → (fieldP f V flex t).length ≤ kpF f * t.bulk) → (plainOut fs V (fieldsP fs V flex t.l i)).length ≤ kpFs fs * t.bulk
 | [],i,_=>by simp [plainOut]
 | f :: r,i,h=>by
  rw [plainOut_cons,List.length_append]
  have h1:=h f List.mem_cons_self (t.l.getD i T.nil) (sane_get hsn t.l (fun _ hx=>hx) i)
  have h2:=plain_leK V flex t hsn r (i + 1) fun g hg=>h g (List.mem_cons_of_mem _ hg)
  have hb:(t.l.getD i T.nil).bulk ≤ t.bulk:=by
   have hbs:=bulk_s t
   rw [List.getD_eq_getElem?_getD]
   cases hi:t.l[i]? with
   | none=>show 1 + 0 + 0 + 0 ≤ _; omega
   | some x =>
    have h5:=mem_sum T.bulk (List.mem_of_getElem? hi)
    rw [← bulks_sum t.l] at h5
    show x.bulk ≤ _
    omega
  have h3:(pieceP f V flex (t.l.getD i T.nil)).length ≤ kpF f * t.bulk:=by
   unfold pieceP
   split
   ·exact Nat.le_trans h1 (Nat.mul_le_mul_left _ hb)
   ·exact Nat.zero_le _
  simp only [kpFs]
  rw [Nat.add_mul]
  omega
theorem kp_part_of {fs:List Fld} {V:Int} {flex:Bool} (hk:flex = true → known fs = 0) (hf:∀ f ∈ fs,∀ t:T,t.sane = true → (fieldP f V flex t).length ≤ kpF f * t.bulk) (t:T) (hsn:t.sane = true):(partP fs V flex t).length ≤ (kpFs fs + 31) * t.bulk:=by
 have h1:=plain_leK V flex t hsn fs 0 hf
 have hb:=bulk_s t
 rw [Nat.add_mul]
 cases flex with
 | false=>rw [partP_off rfl,plain_flat]; omega
 | true =>
  rw [partP_on rfl (hk rfl),plain_flat,List.length_append,List.length_append]
  have hl:=unk_length fs t.u
  have h2:=uvarint_len10 (unknownP fs t.u).length (by omega)
  have h3:=flat_sum (fun u:Nat × List UInt8=>tagP u.1 (whole u.2)) 21 (fun p=>1 + p.2.length) (unknownP fs t.u) fun u hu=>by
   have:=tags_len fs hsn u hu
   have h5:(whole u.2).length ≤ u.2.length:=by unfold whole; rw [List.length_take]; omega
   show (tagP u.1 (whole u.2)).length ≤ 21 * (1 + u.2.length)
   omega
  have h4:=unk_sum (fun p=>1 + p.2.length) fs t.u
  rw [← bulkU_sum t.u] at h4
  have h6:=Nat.mul_le_mul_left 21 h4
  omega
theorem kp_field {flex:Bool} (V:Int):∀ (f:Fld),(flex = true → noTagF f = true) → ∀ t:T,t.sane = true → (fieldP f V flex t).length ≤ kpF f * t.bulk:=Fld_ind fun _f ih hn=>kpF_le_of fun t hsn =>
 kp_part_of (fun e=>known_none (noTag_sub (hn e))) (fun g hg=>ih g hg fun e=>noTag_mem (noTag_sub (hn e)) g hg) t hsn
theorem kp_part {flex:Bool} (fs:List Fld) (hn:flex = true → noTagFs fs = true) (V:Int) (t:T) (hsn:t.sane = true):(partP fs V flex t).length ≤ (kpFs fs + 31) * t.bulk :=
 kp_part_of (fun e=>known_none (hn e)) (fun f hf=>kp_field V f fun e=>noTag_mem (hn e) f hf) t hsn
end Go.Mk
namespace Go.Mk
open Go
structure RS where
 src:Option (List UInt8)
 bad:Bool
namespace RS
def l (s:RS):List UInt8:=s.src.getD []
def fail:RS:=⟨none,true⟩
end RS
def be:List UInt8 → Nat
 | []=>0
 | b :: r=>b.toNat * 256 ^ r.length + be r
theorem be_lt:∀ l:List UInt8,be l < 256 ^ l.length
 | []=>by simp [be]
 | b :: r=>by
  have h1:=be_lt r
  have h2:b.toNat < 256:=b.toNat_lt
  simp only [be,List.length_cons,Nat.pow_succ]
  have h3:b.toNat * 256 ^ r.length ≤ 255 * 256 ^ r.length:=Nat.mul_le_mul_right _ (by omega)
  omega
theorem emod_two (n q:Int) (hq : 0 < q):n % (q * 256) = n / q % 256 * q + n % q:=by
 have h1:=Int.emod_nonneg n (Int.ne_of_gt hq)
 have h2:=Int.emod_lt_of_pos n hq
 have h3:=Int.emod_nonneg (n / q) (show (256:Int) ≠ 0 by decide)
 have h4:=Int.emod_lt_of_pos (n / q) (show (0:Int) < 256 by decide)
 have h5:=Int.mul_ediv_add_emod n q
 have h6:=Int.mul_ediv_add_emod (n / q) 256
 refine ((Int.ediv_emod_unique (q:=n / q / 256) (Int.mul_pos hq (by decide))).2 ⟨?_,?_,?_⟩).2
 ·generalize n / q % 256 = a at *
  generalize n / q / 256 = b at *
  generalize n % q = r at *
  generalize n / q = d at *
  subst h6
  rw [← h5,Int.mul_add,Int.mul_comm q a,Int.mul_assoc]
  omega
 ·have:=Int.mul_nonneg h3 (Int.le_of_lt hq)
  omega
 ·have:=Int.mul_le_mul_of_nonneg_right (show n / q % 256 ≤ 255 by omega) (Int.le_of_lt hq)
  omega
theorem be_fixed (n:Int):∀ k,((be (fixed n k):Nat):Int) = n % ((256 ^ k:Nat):Int)
 | 0=>by simp [fixed,be]
 | k + 1=>by
  have ih:=be_fixed n k
  simp only [fixed,be,fixed_length]
  rw [Int.natCast_add,Int.natCast_mul,ih,u8_toNat]
  have e:(2:Int) ^ (8 * k) = ((256 ^ k:Nat):Int):=by
   rw [Int.pow_mul]; norm_cast
  have hq0 : 0 < ((256 ^ k:Nat):Int):=Int.natCast_pos.2 (Nat.pow_pos (by decide))
  have e2:((256 ^ (k + 1):Nat):Int) = ((256 ^ k:Nat):Int) * 256:=by rw [Nat.pow_succ,Int.natCast_mul]; rfl
  rw [e,e2,emod_two n _ hq0]
def uvG:Nat → List UInt8 → Option (Nat × List UInt8)
 | _,[]=>none
 | 0,b :: r=>if b.toNat ≤ 15 then some (b.toNat,r) else none
 | k + 1,b :: r=>if b.toNat < 128 then some (b.toNat,r) else (uvG k r).map fun p=>(b.toNat - 128 + 128 * p.1,p.2)
theorem uvG_uvarint (rest:List UInt8):∀ (k n:Nat),n < 16 * 128 ^ k → uvG k (uvarint n ++ rest) = some (n,rest)
 | 0,n,h=>by
  rw [uvarint_small (by omega)]
  have:(UInt8.ofNat n).toNat = n:=by rw [UInt8.toNat_ofNat']; omega
  simp only [List.cons_append,List.nil_append,uvG,this]
  rw [if_pos (by omega)]
 | k + 1,n,h=>by
  by_cases hn:n > 127
  ·have ih:=uvG_uvarint rest k (n / 128) (by rw [Nat.pow_succ] at h; omega)
   rw [uvarint_big hn]
   have:(UInt8.ofNat (n % 128 + 128)).toNat = n % 128 + 128:=by rw [UInt8.toNat_ofNat']; omega
   simp only [List.cons_append,uvG,this,ih,Option.map_some]
   rw [if_neg (by omega)]
   simp only [Option.some.injEq,Prod.mk.injEq,and_true]
   omega
  ·rw [uvarint_small hn]
   have:(UInt8.ofNat n).toNat = n:=by rw [UInt8.toNat_ofNat']; omega
   simp only [List.cons_append,List.nil_append,uvG,this]
   rw [if_pos (by omega)]
namespace RS
def take (k:Nat) (s:RS):Option (List UInt8) × RS:=if s.l.length < k then (none,fail) else (some (s.l.take k),⟨s.src.map (List.drop k),s.bad⟩)
def num (k:Nat) (s:RS):Nat × RS:=if s.l.length < k then (0,fail) else (be (s.l.take k),⟨some (s.l.drop k),s.bad⟩)
def uv (s:RS):Nat × RS:=match uvG 4 s.l with
 | some (n,r)=>(n,⟨some r,s.bad⟩)
 | none=>(0,fail)
def span (k:Int) (s:RS):Option (List UInt8) × RS:=if (s.l.length:Int) < k ∨ k < 0 then (none,fail) else (s.src.map (List.take k.toNat),⟨s.src.map (List.drop k.toNat),s.bad⟩)
theorem num_fixed (n:Int) (k:Nat) (r:List UInt8):num k ⟨some (fixed n k ++ r),false⟩ = ((n % ((256 ^ k:Nat):Int)).toNat,⟨some r,false⟩):=by
 have hl:=fixed_length n k
 unfold num RS.l
 simp only [Option.getD_some,List.length_append,hl]
 rw [if_neg (by omega)]
 have e1:(fixed n k ++ r).take k = fixed n k:=by rw [List.take_append_of_le_length (by omega),List.take_of_length_le (by omega)]
 have e2:(fixed n k ++ r).drop k = r:=by rw [List.drop_append_of_le_length (by omega),List.drop_of_length_le (by omega),List.nil_append]
 rw [e1,e2,← be_fixed]
 rfl
theorem uv_uvarint (n:Nat) (r:List UInt8) (h:n < 4294967296):uv ⟨some (uvarint n ++ r),false⟩ = (n,⟨some r,false⟩):=by
 unfold uv RS.l
 simp only [Option.getD_some]
 rw [uvG_uvarint r 4 n (by omega)]
theorem span_app (b r:List UInt8):span (b.length:Int) ⟨some (b ++ r),false⟩ = (some b,⟨some r,false⟩):=by
 unfold span RS.l
 simp only [Option.getD_some,List.length_append,Option.map_some,Int.toNat_natCast]
 rw [if_neg (by omega)]
 rw [List.take_append_of_le_length (by omega),List.take_of_length_le (by omega),List.drop_append_of_le_length (by omega),List.drop_of_length_le (by omega),List.nil_append]
end RS
def wrapK (k:Nat) (n:Int):Int :=
 match k with
 | 1=>IntKind.i8.wrap n
 | 2=>IntKind.i16.wrap n
 | 3=>IntKind.i32.wrap n
 | 5=>IntKind.u16.wrap n
 | 6=>IntKind.u64.wrap n
 | _=>IntKind.i64.wrap n
theorem wrapK_mod (k:Nat) (n:Int):wrapK k ((n % ((256 ^ width k:Nat):Int)).toNat:Int) = wrapK k n:=by
 have h:∀ w:Nat,((n % ((256 ^ w:Nat):Int)).toNat:Int) = n % ((256 ^ w:Nat):Int):=fun w =>
  Int.toNat_of_nonneg (Int.emod_nonneg _ (by
   have : 0 < 256 ^ w:=Nat.pow_pos (by decide)
   omega))
 rw [h]
 unfold wrapK width
 split <;> (simp only [IntKind.wrap,IntKind.bits,IntKind.signed]; simp; try omega)
def rdLen (flex:Bool) (k:Nat) (ik:IntKind) (s:RS):Int × RS:=if flex then (((RS.uv s).1:Int) - 1,(RS.uv s).2) else (ik.wrap (RS.num k s).1,(RS.num k s).2)
def ofNum (n:Int):T:=.mk n [] false [] []
def ofOct (b:List UInt8):T:=.mk 0 b false [] []
def ofNil:T:=.mk 0 [] true [] []
def rdText (nul flex:Bool) (s:RS):T × RS :=
 if nul && decide ((rdLen flex 2 .i16 s).1 < 0) then (ofNil,(rdLen flex 2 .i16 s).2)
 else (ofOct ((RS.span (rdLen flex 2 .i16 s).1 (rdLen flex 2 .i16 s).2).1.getD []),(RS.span (rdLen flex 2 .i16 s).1 (rdLen flex 2 .i16 s).2).2)
def ofSpan (o:Option (List UInt8)):T:=match o with
 | some b=>ofOct b
 | none=>ofNil
def rdBytes (nul flex:Bool) (s:RS):T × RS :=
 if nul && decide ((rdLen flex 4 .i32 s).1 < 0) then (ofNil,(rdLen flex 4 .i32 s).2)
 else if !nul && decide ((rdLen flex 4 .i32 s).1 = -1) then (ofOct [],(rdLen flex 4 .i32 s).2)
 else (ofSpan (RS.span (rdLen flex 4 .i32 s).1 (rdLen flex 4 .i32 s).2).1,(RS.span (rdLen flex 4 .i32 s).1 (rdLen flex 4 .i32 s).2).2)
def rdVal (kind:Nat) (nul flex:Bool) (pt:RS → Option (T × RS)) (s:RS):Option (T × RS) :=
 match kind with
 | 0=>some (ofNum (if (RS.num 1 s).1 = 0 then 0 else 1),(RS.num 1 s).2)
 | 7=>some (ofOct (sixteen ((RS.span 16 s).1.getD [])),(RS.span 16 s).2)
 | 8=>some (rdText nul flex s)
 | 9=>some (rdBytes nul flex s)
 | 10=>pt s
 | k=>some (ofNum (wrapK k (RS.num (width k) s).1),(RS.num (width k) s).2)
def rdEach (one:RS → Option (T × RS)):Nat → RS → Option (List T × RS)
 | 0,s=>some ([],s)
 | n + 1,s=>match one s with
  | some (t,s')=>match rdEach one n s' with
   | some (l,s'')=>some (t :: l,s'')
   | none=>none
  | none=>none
def rdCnt (flex:Bool) (s:RS):Int × RS :=
 let p:=if flex then (IntKind.i32.wrap ((RS.uv s).1:Int) - 1,(RS.uv s).2) else (IntKind.i32.wrap ((RS.num 4 s).1:Int),(RS.num 4 s).2)
 if (p.2.l.length:Int) < IntKind.i32.wrap p.1 then (0,.fail) else (IntKind.i32.wrap p.1,p.2)
def setU (k:Nat) (b:List UInt8):List (Nat × List UInt8) → List (Nat × List UInt8)
 | []=>[(k,b)]
 | x :: r=>if x.1 = k then (k,b) :: r else x :: setU k b r
def rdTag (s:RS):Nat × List UInt8 × RS :=
 let a:=RS.uv s
 let b:=RS.uv a.2
 let c:=RS.span (b.1:Int) b.2
 (a.1,c.1.getD [],c.2)
def rdTagsN:Nat → List (Nat × List UInt8) → RS → List (Nat × List UInt8) × RS
 | 0,u,s=>(u,s)
 | n + 1,u,s=>rdTagsN n (setU (rdTag s).1 (rdTag s).2.1 u) (rdTag s).2.2
def rdTags (s:RS):List (Nat × List UInt8) × RS:=rdTagsN (RS.uv s).1 [] (RS.uv s).2
mutual
def dfF:Fld → T
 | .mk kind _ _ nu _ df _ sub =>
  if kind = 7 then ofOct (List.replicate 16 0)
  else if kind = 8 then .mk 0 [] (decide (0 ≤ nu)) [] []
  else if kind = 9 ∨ kind = 11 then ofNil
  else if kind = 10 then (if 0 ≤ nu then ofNil else .mk 0 [] false (dfFs sub) [])
  else ofNum df
def dfFs:List Fld → List T
 | []=>[]
 | f :: r=>dfF f :: dfFs r
end
def Fld.may (f:Fld) (V:Int):Bool:=decide (0 ≤ f.nu) && decide (f.nu ≤ V)
def Fld.mayR (f:Fld) (V:Int):Bool:=f.may V || (Nat.beq f.kind 9 && Nat.beq f.of 1)
theorem mayR_of {f:Fld} {V:Int} (h:f.may V = true):f.mayR V = true:=by unfold Fld.mayR; rw [h]; rfl
def rdQ (f:Fld) (V:Int) (flex:Bool) (pt:RS → Option (T × RS)) (s:RS):Option (T × RS) :=
 if f.kind = 11 then
  if (rdCnt flex s).2.bad then none
  else match rdEach (rdVal f.of false flex pt) (rdCnt flex s).1.toNat (rdCnt flex s).2 with
   | some (l,s')=>some (.mk 0 [] (if 0 ≤ f.nu then f.may V && decide ((rdCnt flex s).1 < 0) else decide ((rdCnt flex s).1 ≤ 0)) l [],s')
   | none=>none
 else if f.kind = 10 ∧ 0 ≤ f.nu then
  if IntKind.i8.wrap ((RS.num 1 s).1:Int) ≠ -1 ∧ (RS.num 1 s).2.bad = false then pt (RS.num 1 s).2 else some (ofNil,(RS.num 1 s).2)
 else rdVal f.kind (f.mayR V) flex pt s
def rdPart (flex:Bool) (fields:RS → Option (List T × RS)) (s:RS):Option (T × RS) :=
 match fields s with
 | some (l,s')=>if flex then some (.mk 0 [] false l (rdTags s').1,(rdTags s').2) else some (.mk 0 [] false l [],s')
 | none=>none
mutual
def rdF:Fld → Int → Bool → RS → Option (T × RS)
 | .mk kind fr to nu tag df of sub,V,flex,s=>rdQ (.mk kind fr to nu tag df of []) V flex (rdPart flex (rdFs sub V flex)) s
def rdFs:List Fld → Int → Bool → RS → Option (List T × RS)
 | [],_,_,s=>some ([],s)
 | f :: r,V,flex,s =>
  if f.has V then
   match rdF f V flex s with
   | some (t,s')=>match rdFs r V flex s' with
    | some (l,s'')=>some (t :: l,s'')
    | none=>none
   | none=>none
  else match rdFs r V flex s with
   | some (l,s')=>some (dfF f :: l,s')
   | none=>none
end
def rdP (fs:List Fld) (V:Int) (flex:Bool) (s:RS):Option (T × RS):=rdPart flex (rdFs fs V flex) s
theorem uvarint_zero:uvarint 0 = [0]:=uvarint_small (by omega)
theorem rdLen_counted {flex null:Bool} {n k:Nat} {ik:IntKind} (hk:(k = 2 ∧ ik = .i16) ∨ (k = 4 ∧ ik = .i32)) (hn:n ≤ 32767) (r:List UInt8) :
  rdLen flex k ik ⟨some (counted flex null n k ++ r),false⟩ = ((if null then -1 else (n:Int)),⟨some r,false⟩):=by
 unfold rdLen counted
 cases flex with
 | true =>
  cases null with
  | true =>
   simp only [Bool.and_self,if_true]
   rw [← uvarint_zero,RS.uv_uvarint 0 r (by decide)]
   rfl
  | false =>
   simp only [Bool.and_false,Bool.false_eq_true,if_false,if_true]
   rw [RS.uv_uvarint (n + 1) r (by omega)]
   simp only [Prod.mk.injEq,and_true]
   omega
 | false =>
  have h2:((32768:Int)) = 32768:=rfl
  cases null with
  | true =>
   simp only [Bool.false_and,Bool.false_eq_true,if_false,if_true]
   rw [RS.num_fixed]
   rcases hk with ⟨rfl,rfl⟩ | ⟨rfl,rfl⟩ <;> simp only [Prod.mk.injEq,and_true] <;> decide
  | false =>
   simp only [Bool.false_and,Bool.false_eq_true,if_false]
   rw [RS.num_fixed]
   have e:((n:Int) % ((256 ^ k:Nat):Int)).toNat = n:=by
    have:n < 256 ^ k:=by rcases hk with ⟨rfl,_⟩ | ⟨rfl,_⟩ <;> omega
    rw [Int.emod_eq_of_lt (by omega) (by exact_mod_cast this)]
    simp
   rw [e]
   simp only [Prod.mk.injEq,and_true]
   rcases hk with ⟨_,rfl⟩ | ⟨_,rfl⟩ <;> (simp only [IntKind.wrap,IntKind.bits,IntKind.signed]; simp; omega)
theorem rdText_counted {nul flex null:Bool} (h:null = true → nul = true) (t:T) (r:List UInt8) :
  rdText nul flex ⟨some (counted flex null (if null then [] else whole t.s).length 2 ++ (if null then [] else whole t.s) ++ r),false⟩ = ((if null then ofNil else ofOct (whole t.s)),⟨some r,false⟩):=by
 have hw:=whole_len t.s
 unfold rdText
 rw [List.append_assoc,rdLen_counted (.inl ⟨rfl,rfl⟩) (by split <;> simp_all)]
 cases null with
 | true=>simp [h rfl]
 | false =>
  simp only [Bool.false_eq_true,if_false]
  rw [RS.span_app]
  have : ¬ ((whole t.s).length:Int) < 0:=by omega
  simp [this]
theorem rdBytes_counted {nul flex null:Bool} (h:null = true → nul = true) (t:T) (r:List UInt8) :
  rdBytes nul flex ⟨some (counted flex null (if null then [] else whole t.s).length 4 ++ (if null then [] else whole t.s) ++ r),false⟩ = ((if null then ofNil else ofOct (whole t.s)),⟨some r,false⟩):=by
 have hw:=whole_len t.s
 unfold rdBytes
 rw [List.append_assoc,rdLen_counted (.inr ⟨rfl,rfl⟩) (by split <;> simp_all)]
 cases null with
 | true=>simp [h rfl]
 | false =>
  simp only [Bool.false_eq_true,if_false]
  rw [RS.span_app]
  have h1 : ¬ ((whole t.s).length:Int) < 0:=by omega
  have h2 : ¬ ((whole t.s).length:Int) = -1:=by omega
  simp [h1,h2,ofSpan]
def gotV (kind:Nat) (null:Bool) (pt:T → T) (t:T):T :=
 match kind with
 | 0=>ofNum (t.n % 2)
 | 7=>ofOct (sixteen t.s)
 | 8=>if null then ofNil else ofOct (whole t.s)
 | 9=>if null then ofNil else ofOct (whole t.s)
 | 10=>pt t
 | k=>ofNum (wrapK k t.n)
theorem rdVal_valueP {kind:Nat} {nul null flex:Bool} {pt:T → List UInt8} {rp:RS → Option (T × RS)} {gp:T → T} {t:T} (h:null = true → nul = true)
  (hp:∀ r,rp ⟨some (pt t ++ r),false⟩ = some (gp t,⟨some r,false⟩)) (r:List UInt8) :
  rdVal kind nul flex rp ⟨some (valueP kind pt null flex t ++ r),false⟩ = some (gotV kind null gp t,⟨some r,false⟩):=by
 by_cases h0:kind = 0
 ·subst h0
  have e:[u8 (t.n % 2)] = fixed (t.n % 2) 1:=by simp [fixed]
  show some (ofNum (if (RS.num 1 ⟨some ([u8 (t.n % 2)] ++ r),false⟩).1 = 0 then 0 else 1),(RS.num 1 ⟨some ([u8 (t.n % 2)] ++ r),false⟩).2) = _
  rw [e,RS.num_fixed]
  simp only [gotV,Option.some.injEq,Prod.mk.injEq,and_true]
  have key:∀ m:Int,m = 0 ∨ m = 1 → (if (m % ((256 ^ 1:Nat):Int)).toNat = 0 then (0:Int) else 1) = m:=by
   rintro m (rfl | rfl) <;> decide
  exact congrArg ofNum (key _ (Int.emod_two_eq t.n))
 by_cases h7:kind = 7
 ·subst h7
  have hs:=RS.span_app (sixteen t.s) r
  rw [sixteen_length] at hs
  have hs':RS.span 16 ⟨some (sixteen t.s ++ r),false⟩ = (some (sixteen t.s),⟨some r,false⟩):=hs
  show some (ofOct (sixteen ((RS.span 16 ⟨some (sixteen t.s ++ r),false⟩).1.getD [])),(RS.span 16 ⟨some (sixteen t.s ++ r),false⟩).2) = _
  rw [hs']
  simp only [gotV,Option.getD_some,Option.some.injEq,Prod.mk.injEq,and_true]
  congr 1
  unfold sixteen
  rw [List.take_append_of_le_length (by simp),List.take_of_length_le (by simp)]
 by_cases h8:kind = 8
 ·subst h8
  exact congrArg some (rdText_counted h t r)
 by_cases h9:kind = 9
 ·subst h9
  exact congrArg some (rdBytes_counted h t r)
 by_cases h10:kind = 10
 ·subst h10; exact hp r
 ·rw [valueP_num h0 h7 h8 h9 h10]
  have e:rdVal kind nul flex rp ⟨some (fixed t.n (width kind) ++ r),false⟩ = some (ofNum (wrapK kind (RS.num (width kind) ⟨some (fixed t.n (width kind) ++ r),false⟩).1),(RS.num (width kind) ⟨some (fixed t.n (width kind) ++ r),false⟩).2):=by
   unfold rdVal; split <;> first | contradiction | rfl
  rw [e,RS.num_fixed]
  rw [wrapK_mod]
  have e2:gotV kind null gp t = ofNum (wrapK kind t.n):=by unfold gotV; split <;> first | contradiction | rfl
  rw [e2]
theorem rdCnt_counted {flex null:Bool} {n:Nat} (hn:n ≤ 32767) (r:List UInt8) (hr:null = false → n ≤ r.length) :
  rdCnt flex ⟨some (counted flex null n 4 ++ r),false⟩ = ((if null then -1 else (n:Int)),⟨some r,false⟩):=by
 unfold rdCnt counted
 cases flex with
 | true =>
  cases null with
  | true =>
   simp only [Bool.and_self,if_true]
   rw [← uvarint_zero,RS.uv_uvarint 0 r (by decide)]
   have e:IntKind.i32.wrap (IntKind.i32.wrap ((0:Nat):Int) - 1) = -1:=by decide
   simp only [e]
   rw [if_neg (by omega)]
  | false =>
   simp only [Bool.and_false,Bool.false_eq_true,if_false,if_true]
   rw [RS.uv_uvarint (n + 1) r (by omega)]
   have hr':=hr rfl
   have e:IntKind.i32.wrap (IntKind.i32.wrap ((n + 1:Nat):Int) - 1) = (n:Int):=by
    simp only [IntKind.wrap,IntKind.bits,IntKind.signed]; simp; omega
   simp only [e]
   have hrl:(RS.mk (some r) false).l.length = r.length:=rfl
   rw [if_neg (by rw [hrl]; omega)]
 | false =>
  cases null with
  | true =>
   simp only [Bool.false_and,Bool.false_eq_true,if_false,if_true]
   rw [RS.num_fixed]
   have e:IntKind.i32.wrap (IntKind.i32.wrap ((((-1:Int) % ((256 ^ 4:Nat):Int)).toNat:Nat):Int)) = -1:=by decide
   simp only [e]
   rw [if_neg (by omega)]
  | false =>
   simp only [Bool.false_and,Bool.false_eq_true,if_false]
   rw [RS.num_fixed]
   have hr':=hr rfl
   have e0:((n:Int) % ((256 ^ 4:Nat):Int)).toNat = n:=by omega
   rw [e0]
   have e:IntKind.i32.wrap (IntKind.i32.wrap (n:Int)) = (n:Int):=by
    simp only [IntKind.wrap,IntKind.bits,IntKind.signed]; simp; omega
   simp only [e]
   have hrl:(RS.mk (some r) false).l.length = r.length:=rfl
   rw [if_neg (by rw [hrl]; omega)]
theorem rdEach_flat {one:RS → Option (T × RS)} {g:T → List UInt8} {h:T → T}:∀ (l:List T),(∀ x ∈ l,∀ r,one ⟨some (g x ++ r),false⟩ = some (h x,⟨some r,false⟩)) → ∀ r,
  rdEach one l.length ⟨some (l.flatMap g ++ r),false⟩ = some (l.map h,⟨some r,false⟩)
 | [],_,r=>rfl
 | x :: l,hx,r=>by
  simp only [List.length_cons,rdEach,List.flatMap_cons,List.append_assoc]
  rw [hx x List.mem_cons_self]
  simp only
  rw [rdEach_flat l (fun y hy=>hx y (List.mem_cons_of_mem _ hy)) r]
  rfl
def gotQ (f:Fld) (V:Int) (gp:T → T) (t:T):T :=
 if f.kind = 11 then .mk 0 [] (if 0 ≤ f.nu then f.null V t else (things t.l).isEmpty) (if f.null V t then [] else (things t.l).map (gotV f.of false gp)) []
 else if f.kind = 10 ∧ 0 ≤ f.nu then (if f.null V t then ofNil else gp t)
 else gotV f.kind (f.null V t) gp t
theorem null_may {f:Fld} {V:Int} {t:T} (h:f.null V t = true):f.may V = true:=by
 simp only [Fld.null,Fld.may,Bool.and_eq_true,decide_eq_true_eq] at h ⊢
 exact ⟨h.1.2,h.2⟩
theorem flat_ge {g:T → List UInt8}:∀ (l:List T),(∀ x ∈ l,1 ≤ (g x).length) → l.length ≤ (l.flatMap g).length
 | [],_=>by simp
 | x :: l,h=>by
  have h1:=h x List.mem_cons_self
  have h2:=flat_ge l fun y hy=>h y (List.mem_cons_of_mem _ hy)
  simp only [List.flatMap_cons,List.length_append,List.length_cons]; omega
theorem rdQ_fieldQ {f:Fld} {V:Int} {flex:Bool} {pt:T → List UInt8} {rp:RS → Option (T × RS)} {gp:T → T} {t:T} (hsn:t.sane = true)
  (hp:∀ x:T,x.sane = true → ∀ r,rp ⟨some (pt x ++ r),false⟩ = some (gp x,⟨some r,false⟩)) (hth:f.kind = 11 → ∀ x:T,x.sane = true → 1 ≤ (valueP f.of pt false flex x).length) (r:List UInt8) :
  rdQ f V flex rp ⟨some (fieldQ f V flex pt t ++ r),false⟩ = some (gotQ f V gp t,⟨some r,false⟩):=by
 unfold rdQ fieldQ gotQ
 by_cases h11:f.kind = 11
 ·rw [if_pos h11,if_pos h11,if_pos h11,List.append_assoc]
  have hl:(if f.null V t then [] else things t.l).length ≤ 32767:=by split; exact Nat.zero_le _; exact things_len t.l
  have hs:∀ x ∈ (if f.null V t then [] else things t.l),x.sane = true:=fun x hx=>(sane_spec hsn).2.2.2 x (by
   split at hx
   ·cases hx
   ·exact List.mem_of_mem_take hx)
  have hge:=flat_ge (if f.null V t then [] else things t.l) fun x hx=>hth h11 x (hs x hx)
  rw [rdCnt_counted hl _ (fun _=>by rw [List.length_append]; omega)]
  simp only [Bool.false_eq_true,if_false]
  have hn:(if f.null V t then (-1:Int) else (((if f.null V t then [] else things t.l).length:Nat):Int)).toNat = (if f.null V t then [] else things t.l).length:=by
   cases f.null V t <;> simp
  rw [hn,rdEach_flat (h:=gotV f.of false gp) _ (fun x hx=>rdVal_valueP (fun h=>by cases h) (hp x (hs x hx))) r]
  simp only [Option.some.injEq,Prod.mk.injEq,and_true]
  cases hnl:f.null V t with
  | true =>
   have hm:=null_may hnl
   have hnu : 0 ≤ f.nu:=by
    simp only [Fld.may,Bool.and_eq_true,decide_eq_true_eq] at hm
    exact hm.1
   simp [hm,hnu]
  | false =>
   simp only [Bool.false_eq_true,if_false]
   by_cases hnu : 0 ≤ f.nu
   ·rw [if_pos hnu,if_pos hnu]
    have : ¬ (((things t.l).length:Nat):Int) < 0:=by omega
    simp [this]
   ·rw [if_neg hnu,if_neg hnu]
    congr 1
    refine Bool.eq_iff_iff.2 ?_
    simp only [decide_eq_true_eq,List.isEmpty_iff]
    constructor
    ·intro h
     exact List.eq_nil_of_length_eq_zero (by omega)
    ·intro h; rw [h]; simp
 ·rw [if_neg h11,if_neg h11,if_neg h11]
  by_cases h10:f.kind = 10 ∧ f.nu ≥ 0
  ·rw [if_pos h10,if_pos h10,if_pos h10]
   cases hnl:f.null V t with
   | true =>
    simp only [if_true]
    rw [RS.num_fixed]
    rw [if_neg (by simp only [not_and]; intro h; exact absurd (by decide) h)]
   | false =>
    simp only [Bool.false_eq_true,if_false,List.append_assoc]
    rw [RS.num_fixed]
    have e1:(((1:Int) % ((256 ^ 1:Nat):Int)).toNat:Int) = 1:=by decide
    simp only [e1]
    rw [if_pos (by first | decide | exact ⟨by decide,trivial⟩)]
    exact hp t hsn r
  ·rw [if_neg h10,if_neg h10,if_neg h10]
   exact rdVal_valueP (fun h=>mayR_of (null_may h)) (hp t hsn) r
mutual
def gotF:Fld → Int → Bool → T → T
 | .mk kind fr to nu tag df of sub,V,flex,t=>gotQ (.mk kind fr to nu tag df of []) V (fun x=>.mk 0 [] false (gotFs sub V flex x.l 0) (if flex then fitU sub x.u else [])) t
def gotFs:List Fld → Int → Bool → List T → Nat → List T
 | [],_,_,_,_=>[]
 | f :: r,V,flex,l,i=>(if f.has V then gotF f V flex (l.getD i T.nil) else dfF f) :: gotFs r V flex l (i + 1)
end
def gotP (fs:List Fld) (V:Int) (flex:Bool) (t:T):T:=.mk 0 [] false (gotFs fs V flex t.l 0) (if flex then fitU fs t.u else [])
theorem gotF_eq (f:Fld) (V:Int) (flex:Bool) (t:T):gotF f V flex t = gotQ f V (gotP f.sub V flex) t:=by cases f; rfl
theorem rdF_eq (f:Fld) (V:Int) (flex:Bool) (s:RS):rdF f V flex s = rdQ f V flex (rdP f.sub V flex) s:=by cases f; rfl
mutual
def thkF:Fld → Int → Bool → Bool
 | .mk kind _ _ nu _ _ _ sub,V,flex=>!Nat.beq kind 10 || decide (0 ≤ nu) || flex || thkFs sub V flex
def thkFs:List Fld → Int → Bool → Bool
 | [],_,_=>false
 | f :: r,V,flex=>(f.has V && thkF f V flex) || thkFs r V flex
end
def thkP (fs:List Fld) (V:Int) (flex:Bool):Bool:=flex || thkFs fs V flex
theorem thkF_eq (f:Fld) (V:Int) (flex:Bool):thkF f V flex = (!Nat.beq f.kind 10 || decide (0 ≤ f.nu) || thkP f.sub V flex):=by
 cases f; unfold thkF thkP; exact Bool.or_assoc _ _ _
mutual
def okRF:Fld → Int → Bool → Bool
 | .mk kind _ _ _ _ _ of sub,V,flex=>(!Nat.beq kind 11 || !Nat.beq of 10 || thkP sub V flex) && okRFs sub V flex
def okRFs:List Fld → Int → Bool → Bool
 | [],_,_=>true
 | f :: r,V,flex=>okRF f V flex && okRFs r V flex
end
theorem okR_mem {V:Int} {flex:Bool}:∀ {fs:List Fld},okRFs fs V flex = true → ∀ f ∈ fs,okRF f V flex = true
 | [],_,_,h=>by cases h
 | g :: r,h,f,hf=>by
  simp only [okRFs,Bool.and_eq_true] at h
  cases hf with
  | head=>exact h.1
  | tail _ hf=>exact okR_mem h.2 f hf
theorem okR_sub {f:Fld} {V:Int} {flex:Bool} (h:okRF f V flex = true):(f.kind = 11 → f.of = 10 → thkP f.sub V flex = true) ∧ okRFs f.sub V flex = true:=by
 cases f with
 | mk kind fr to nu tag df of sub =>
  simp only [okRF,Bool.and_eq_true] at h
  refine ⟨fun h1 h2=>?_,h.2⟩
  have h1':kind = 11:=h1
  have h2':of = 10:=h2
  subst h1' h2'
  show thkP sub V flex = true
  simpa using h.1
theorem uvarint_pos (n:Nat) : 1 ≤ (uvarint n).length:=by
 by_cases h:n > 127
 ·rw [uvarint_big h]; simp
 ·rw [uvarint_small h]; simp
theorem counted_pos {flex null:Bool} {n k:Nat} (hk : 1 ≤ k) : 1 ≤ (counted flex null n k).length:=by
 unfold counted
 split
 ·simp
 ·split
  ·exact uvarint_pos _
  ·split <;> (rw [fixed_length]; exact hk)
theorem width_pos (k:Nat) : 1 ≤ width k:=by unfold width; split <;> omega
theorem valueP_pos {kind:Nat} {pt:T → List UInt8} {null flex:Bool} {t:T} (h:kind = 10 → 1 ≤ (pt t).length) : 1 ≤ (valueP kind pt null flex t).length:=by
 by_cases h0:kind = 0
 ·subst h0; exact Nat.le_refl 1
 by_cases h7:kind = 7
 ·subst h7; show 1 ≤ (sixteen t.s).length; rw [sixteen_length]; omega
 by_cases h8:kind = 8
 ·subst h8
  show 1 ≤ (counted flex null _ 2 ++ _).length
  rw [List.length_append]
  have:=counted_pos (flex:=flex) (null:=null) (n:=(if null then [] else whole t.s).length) (k:=2) (by decide)
  omega
 by_cases h9:kind = 9
 ·subst h9
  show 1 ≤ (counted flex null _ 4 ++ _).length
  rw [List.length_append]
  have:=counted_pos (flex:=flex) (null:=null) (n:=(if null then [] else whole t.s).length) (k:=4) (by decide)
  omega
 by_cases h10:kind = 10
 ·subst h10; exact h rfl
 ·rw [valueP_num h0 h7 h8 h9 h10,fixed_length]; exact width_pos kind
theorem fieldQ_pos {f:Fld} {V:Int} {flex:Bool} {pt:T → List UInt8} {t:T} (h:f.kind = 10 → f.nu < 0 → 1 ≤ (pt t).length) : 1 ≤ (fieldQ f V flex pt t).length:=by
 unfold fieldQ
 split
 ·rw [List.length_append]
  have:=counted_pos (flex:=flex) (null:=f.null V t) (n:=(if f.null V t then [] else things t.l).length) (k:=4) (by decide)
  omega
 ·split
  ·split
   ·simp [fixed_length]
   ·rw [List.length_append,fixed_length]; omega
  ·rename_i h1
   exact valueP_pos fun h10=>h h10 (by omega)
theorem plain_pos (V:Int) (flex:Bool) (t:T):∀ (fs:List Fld) (i:Nat),noTagFs fs = true → (∀ f ∈ fs,thkF f V flex = true → ∀ t:T,1 ≤ (fieldP f V flex t).length) → thkFs fs V flex = true → 1 ≤ (plainOut fs V (fieldsP fs V flex t.l i)).length
 | [],i,_,_,h=>by simp [thkFs] at h
 | f :: r,i,hn,hf,h=>by
  simp only [noTagFs,Bool.and_eq_true] at hn
  rw [plainOut_cons,List.length_append]
  simp only [thkFs,Bool.or_eq_true,Bool.and_eq_true] at h
  rcases h with h | h
  ·have h1:=hf f List.mem_cons_self h.2 (t.l.getD i T.nil)
   rw [pieceP_has (noTag_tag hn.1) h.1]
   omega
  ·have:=plain_pos V flex t r (i + 1) hn.2 (fun g hg=>hf g (List.mem_cons_of_mem _ hg)) h
   omega
theorem part_pos_of {fs:List Fld} {V:Int} {flex:Bool} (hn:noTagFs fs = true) (hf:∀ f ∈ fs,thkF f V flex = true → ∀ t:T,1 ≤ (fieldP f V flex t).length) (h:thkP fs V flex = true) (t:T) : 1 ≤ (partP fs V flex t).length:=by
 cases flex with
 | true =>
  rw [partP_on rfl (known_none hn),List.length_append,List.length_append]
  have:=uvarint_pos (unknownP fs t.u).length
  omega
 | false =>
  rw [partP_off rfl,plain_flat]
  exact plain_pos V false t fs 0 hn hf (by simpa [thkP] using h)
theorem field_pos {flex:Bool} (V:Int):∀ f:Fld,noTagF f = true → thkF f V flex = true → ∀ t:T,1 ≤ (fieldP f V flex t).length:=Fld_ind fun f ih hn h t=>by
 rw [fieldP_eq]
 refine fieldQ_pos fun h10 hnu=>?_
 rw [thkF_eq,h10] at h
 have h':thkP f.sub V flex = true:=by
  have:decide (0 ≤ f.nu) = false:=decide_eq_false (by omega)
  simpa [this] using h
 exact part_pos_of (noTag_sub hn) (fun g hg=>ih g hg (noTag_mem (noTag_sub hn) g hg)) h' t
theorem part_pos {flex:Bool} {fs:List Fld} {V:Int} (hn:noTagFs fs = true) (h:thkP fs V flex = true) (t:T) : 1 ≤ (partP fs V flex t).length :=
 part_pos_of hn (fun f hf=>field_pos V f (noTag_mem hn f hf)) h t
theorem setU_new {k:Nat} {b:List UInt8}:∀ {u:List (Nat × List UInt8)},(∀ x ∈ u,x.1 ≠ k) → setU k b u = u ++ [(k,b)]
 | [],_=>rfl
 | x :: r,h=>by
  simp only [setU]
  rw [if_neg (h x List.mem_cons_self),setU_new fun y hy=>h y (List.mem_cons_of_mem _ hy)]
  rfl
theorem rdTag_tagP (k:Nat) (b r:List UInt8) (hk:k < 4294967296) (hb:b.length < 4294967296):rdTag ⟨some (tagP k b ++ r),false⟩ = (k,b,⟨some r,false⟩):=by
 unfold rdTag tagP
 simp only [List.append_assoc]
 rw [RS.uv_uvarint k _ hk]
 simp only
 rw [RS.uv_uvarint b.length _ hb]
 simp only
 rw [RS.span_app]
 rfl
theorem rdTagsN_flat (r:List UInt8):∀ (u acc:List (Nat × List UInt8)),rising u → (∀ x ∈ acc,∀ p ∈ u,x.1 ≠ p.1) → (∀ p ∈ u,p.1 < 4294967296) →
  rdTagsN u.length acc ⟨some (u.flatMap (fun p=>tagP p.1 (whole p.2)) ++ r),false⟩ = (acc ++ u.map (fun p=>(p.1,whole p.2)),⟨some r,false⟩)
 | [],acc,_,_,_=>by simp [rdTagsN]
 | p :: u,acc,hr,ha,hk=>by
  simp only [List.length_cons,rdTagsN,List.flatMap_cons,List.append_assoc]
  have hw:=whole_len p.2
  rw [rdTag_tagP _ _ _ (hk p List.mem_cons_self) (by omega)]
  simp only
  rw [setU_new fun x hx=>ha x hx p List.mem_cons_self]
  rw [rdTagsN_flat r u (acc ++ [(p.1,whole p.2)]) hr.2 ?_ fun q hq=>hk q (List.mem_cons_of_mem _ hq)]
  ·simp
  ·intro x hx q hq
   rcases List.mem_append.1 hx with hx | hx
   ·exact ha x hx q (List.mem_cons_of_mem _ hq)
   ·simp only [List.mem_singleton] at hx
    subst hx
    have:=hr.1 q hq
    show p.1 ≠ q.1
    omega
theorem rdTags_tags {fs:List Fld} {t:T} (hsn:t.sane = true) (r:List UInt8):rdTags ⟨some (uvarint (unknownP fs t.u).length ++ ((unknownP fs t.u).flatMap (fun p=>tagP p.1 (whole p.2)) ++ r)),false⟩ = (fitU fs t.u,⟨some r,false⟩):=by
 have hl:=unk_length fs t.u
 unfold rdTags
 rw [RS.uv_uvarint _ _ (by omega)]
 simp only
 rw [rdTagsN_flat r _ [] (unk_rising fs t.u).1 (fun x hx=>by cases hx) fun p hp=>sane_keys hsn p ((unk_rising fs t.u).2 p hp)]
 rfl
theorem rdFs_plain {V:Int} {flex:Bool} {t:T} (hsn:t.sane = true):∀ (fs:List Fld) (i:Nat),noTagFs fs = true → (∀ f ∈ fs,∀ t:T,t.sane = true → ∀ r,rdF f V flex ⟨some (fieldP f V flex t ++ r),false⟩ = some (gotF f V flex t,⟨some r,false⟩)) → ∀ r,
  rdFs fs V flex ⟨some (plainOut fs V (fieldsP fs V flex t.l i) ++ r),false⟩ = some (gotFs fs V flex t.l i,⟨some r,false⟩)
 | [],i,_,_,r=>by simp [plainOut,rdFs,gotFs]
 | f :: rs,i,hn,hf,r=>by
  simp only [noTagFs,Bool.and_eq_true] at hn
  have ih:=rdFs_plain hsn rs (i + 1) hn.2 (fun g hg=>hf g (List.mem_cons_of_mem _ hg)) r
  rw [plainOut_cons]
  simp only [rdFs,gotFs]
  cases hh:f.has V with
  | true =>
   rw [pieceP_has (noTag_tag hn.1) hh,List.append_assoc,hf f List.mem_cons_self _ (sane_get hsn t.l (fun _ hx=>hx) i)]
   simp only [if_true]
   rw [ih]
  | false =>
   rw [pieceP_not hh,List.nil_append,ih]
   simp
theorem rdP_of {fs:List Fld} {V:Int} {flex:Bool} (hn:noTagFs fs = true) (hf:∀ f ∈ fs,∀ t:T,t.sane = true → ∀ r,rdF f V flex ⟨some (fieldP f V flex t ++ r),false⟩ = some (gotF f V flex t,⟨some r,false⟩)) (t:T) (hsn:t.sane = true) (r:List UInt8) :
  rdP fs V flex ⟨some (partP fs V flex t ++ r),false⟩ = some (gotP fs V flex t,⟨some r,false⟩):=by
 unfold rdP rdPart gotP
 cases flex with
 | true =>
  rw [partP_on rfl (known_none hn),plain_flat,List.append_assoc,List.append_assoc,rdFs_plain hsn fs 0 hn hf]
  simp only [if_true]
  rw [rdTags_tags hsn]
 | false =>
  rw [partP_off rfl,plain_flat,rdFs_plain hsn fs 0 hn hf]
  simp
theorem rdF_field {flex:Bool} (V:Int):∀ f:Fld,noTagF f = true → okRF f V flex = true → ∀ t:T,t.sane = true → ∀ r,rdF f V flex ⟨some (fieldP f V flex t ++ r),false⟩ = some (gotF f V flex t,⟨some r,false⟩):=Fld_ind fun f ih hn hk t hsn r=>by
 obtain ⟨h1,h2⟩:=okR_sub hk
 rw [rdF_eq,fieldP_eq,gotF_eq]
 exact rdQ_fieldQ hsn (fun x hx r=>rdP_of (noTag_sub hn) (fun g hg=>ih g hg (noTag_mem (noTag_sub hn) g hg) (okR_mem h2 g hg)) x hx r)
  (fun h11 x hx=>valueP_pos fun h10=>part_pos (noTag_sub hn) (h1 h11 h10) x) r
theorem rdP_part {flex:Bool} {fs:List Fld} {V:Int} (hn:noTagFs fs = true) (hk:okRFs fs V flex = true) (t:T) (hsn:t.sane = true) (r:List UInt8) :
  rdP fs V flex ⟨some (partP fs V flex t ++ r),false⟩ = some (gotP fs V flex t,⟨some r,false⟩) :=
 rdP_of hn (fun f hf=>rdF_field V f (noTag_mem hn f hf) (okR_mem hk f hf)) t hsn r
end Go.Mk
namespace Go.Mk
open Go
open Go.ChangeMaps (setBlock)
theorem MapAt.len {w:World} {r:Nat} {ks:List Nat} {vs:List Value} (h:MapAt w r ks vs):ks.length = vs.length:=by
 obtain ⟨_,_,_,_,h3,_⟩:=h; exact h3
def mapTy (P:Program) (t:Nat):Option (Nat × Nat):=match P.underlying t with
 | some (.map k e)=>match P.underlying k with
  | some (.int .u32)=>some (k,e)
  | _=>none
 | _=>none
theorem mapTy_spec {P:Program} {t k e:Nat} (h:mapTy P t = some (k,e)):P.underlying t = some (.map k e) ∧ P.underlying k = some (.int .u32):=by
 unfold mapTy at h
 split at h
 ·rename_i k' e' h1
  split at h
  ·rename_i h2
   simp only [Option.some.injEq,Prod.mk.injEq] at h
   obtain ⟨rfl,rfl⟩:=h
   exact ⟨h1,h2⟩
  ·cases h
 ·cases h
theorem getObj_map {P:Program} {w:World} {r:Nat} {es:Array MapEntry} {clk:Nat} (h:w.heap[r]? = some (.map es clk)):(getObj r).run P w = .ok (.map es clk) w:=by
 simp [getObj,Sem.run,h]
def keyAt:List Nat → Nat → Option Nat
 | [],_=>none
 | k :: r,x=>if x = k then some 0 else (keyAt r x).map (· + 1)
theorem findNow_keys {x:Nat}:∀ {es:List MapEntry} {ks:List Nat} {vs:List Value} {j:Nat},es.map (fun e=>(e.key,e.val)) = (ks.zip vs).map (fun p=>(Value.int .u32 (p.1:Int),p.2)) → ks.length = vs.length →
  Instr.findNow (.int .u32) (.int .u32 (x:Int)) es j = some ((keyAt ks x).map fun i=>(j + i,vs.getD i undef))
 | [],[],[],j,_,_=>by simp [Instr.findNow,keyAt]
 | [],k :: ks,v :: vs,j,h,_=>by simp at h
 | e :: es,[],[],j,h,_=>by simp at h
 | _,[],_ :: _,_,_,h=>by simp at h
 | _,_ :: _,[],_,_,h=>by simp at h
 | e :: es,k :: ks,v :: vs,j,h,hl=>by
  simp only [List.map_cons,List.zip_cons_cons,List.cons.injEq,Prod.mk.injEq] at h
  obtain ⟨⟨h1,h2⟩,h3⟩:=h
  have ih:=findNow_keys (x:=x) (j:=j + 1) h3 (by simpa using hl)
  simp only [Instr.findNow,h1,Instr.sameNow,if_true,keyAt]
  by_cases hx:x = k
  ·subst hx
   simp [h2]
  ·have:((x:Int) == (k:Int)) = false:=by simp; omega
   rw [this,ih,if_neg hx]
   cases keyAt ks x with
   | none=>simp
   | some q=>simp; omega
section
variable {w0 w w':World} {X Z:Nat → Prop} {m:List Ent}
theorem Mem.newEnt (h:Mem w0 X Z m w) {o:Obj} {e:Ent} (hmu:e.mut = [w.heap.size]) (hh:e.holds (w.alloc o) (Yof w0 Z (e :: m))):Mem w0 X Z (e :: m) (w.alloc o):=by
 have hp:=Agr.alloc Nob w o
 have hm':=h.pure hp
 have hnot:w.heap.size ∉ muts m:=fun hb=>Nat.lt_irrefl _ (h.own _ hb).1
 refine ⟨hm'.agr,h.sub,by simp only [muts,hmu,List.singleton_append,List.nodup_cons]; exact ⟨hnot,h.nodup⟩,?_,?_⟩
 ·intro b hb
  simp only [muts,hmu,List.singleton_append,List.mem_cons] at hb
  rcases hb with rfl | hb
  ·exact ⟨by simp,fun hlt=>absurd hlt (Nat.not_lt.2 h.agr.size)⟩
  ·exact hm'.own b hb
 ·intro x hx
  rcases List.mem_cons.1 hx with rfl | hx
  ·exact hh
  ·refine Ent.holds_move (fun i hi hy=>⟨hp.block i hi id,?_⟩) (h.all x hx) (fun b hb=>hp.block b (h.own b (muts_mem hx hb)).1 id)
   rintro (hz | hz)
   ·exact hy (.inl hz)
   ·simp only [muts,hmu,List.singleton_append,List.mem_cons] at hz
    rcases hz with rfl | hz
    ·exact Nat.lt_irrefl _ hi
    ·exact hy (.inr hz)
theorem Mem.setEnt (h:Mem w0 X Z m w) {i b:Nat} {e e':Ent} (hi:entAt m i = some e) (h1:e.mut = [b]) (h2:e'.mut = [b]) (hp:Agr (fun x=>x = b) w w') (hb:e'.holds w' (Yof w0 Z (putAt m i e'))):Mem w0 X Z (putAt m i e') w':=by
 have hmem:b ∈ muts m:=muts_mem (eA0 hi) (by simp [h1])
 have hmu:muts (putAt m i e') = muts m:=muts_putAt hi (by rw [h1,h2])
 have hy:Yof w0 Z (putAt m i e') = Yof w0 Z m:=by funext x; simp [Yof,hmu]
 refine ⟨h.agr.trans hp (fun _ _ x=>x) (fun k hk hkb=>by subst hkb; exact (h.own _ hmem).2 hk),h.sub,by rw [hmu]; exact h.nodup,?_,?_⟩
 ·rw [hmu]
  exact fun x hx=>⟨Nat.lt_of_lt_of_le (h.own x hx).1 hp.size,(h.own x hx).2⟩
 ·rw [hy]
  intro x hx
  rcases mem_putAt hx with rfl | ⟨j,hji,hj⟩
  ·rw [← hy]; exact hb
  ·have hxm:=eA0 hj
   refine Ent.holds_move (fun k hk hyk=>⟨hp.block k hk (fun hkb=>hyk (.inr (hkb ▸ hmem))),hyk⟩) (h.all x hxm) (fun k hk=>?_)
   exact hp.block k (h.own k (muts_mem hxm hk)).1 (fun hkb=>muts_apart h.nodup (Ne.symm hji) hi hj b (by simp [h1]) (hkb ▸ hk))
end
section
variable {P:Program} {ops:Array Oper} {Q:Exit → Act → World → Prop} {rest:List Oper} {a:Act} {w w0:World} {n:Nat} {l:List (Nat × Value)} {X Z:Nat → Prop} {m:List Ent}
variable {d:Nat} {ty:Nat} {ps:String} {af:Array Edge}
def mapLen (w:World):Option Nat → Nat → Prop
 | none,k=>k = 0
 | some r,k=>∃ ks vs,MapAt w r ks vs ∧ ks.length = k
theorem lenMap_run {t kt et k:Nat} {p:Option Nat} (ht:mapTy P t = some (kt,et)) (hl:mapLen w p k):(Builtin.len_ #[t] ty #[.map p]).run P w = .ok (.int .i64 (k:Int)) w:=by
 obtain ⟨h1,_⟩:=mapTy_spec ht
 cases p with
 | none =>
  have hl':k = 0:=hl
  subst hl'
  simp [Builtin.len_,run_underlying h1,goInt]
 | some r =>
  obtain ⟨ks,vs,⟨es,clk,g1,g2,g3,_⟩,rfl⟩:=hl
  have hsz:es.size = ks.length:=by
   have:=congrArg List.length g2
   simp only [List.length_map,List.length_zip] at this
   rw [Array.length_toList] at this
   omega
  simp [Builtin.len_,run_underlying h1,getObj_map g1,goInt,hsz]
theorem o_lenMap {x:Operand} {t kt et k:Nat} {p:Option Nat} (hk:Kn n l a) (ht:mapTy P t = some (kt,et)) (hx:ev l x = some (.map p)) (hl:mapLen w p k) (hd:Nat.blt d n = true)
  (K:∀ a',Kn n ((d,.int .i64 (k:Int)) :: l) a' → wpList P ops Q rest a' w) :
  wpList P ops Q (⟨some d,.call ⟨.builtin .len,#[x],#[t]⟩,ty,ps,af,none⟩ :: rest) a w:=by
 refine step_runs hk rfl rfl hd ?_ K
 unfold Runs execOp
 simp only [Sem.run_bind,resolve,invoke,builtin,List.map_toArray,List.map_cons,List.map_nil,hk.eval hx,Sem.run_pure,Result.andThen_ok,lenMap_run ht hl]
theorem checkKey_u32 {kt:Nat} (h2:P.underlying kt = some (.int .u32)) (b:Bool) (x:Int) (w:World):(Instr.checkKey b 10000 kt (.int .u32 x)).run P w = .ok () w:=by
 unfold Instr.checkKey
 simp [run_underlying h2]
theorem findKey_run {kt x:Nat} {ks:List Nat} {vs:List Value} {es:Array MapEntry} (h2:P.underlying kt = some (.int .u32)) (h:es.toList.map (fun e=>(e.key,e.val)) = (ks.zip vs).map (fun p=>(Value.int .u32 (p.1:Int),p.2))) (hl:ks.length = vs.length) (w:World) :
  (Instr.findKey kt (.int .u32 (x:Int)) es.toList).run P w = .ok ((keyAt ks x).map fun i=>(i,vs.getD i undef)) w:=by
 unfold Instr.findKey
 have:=findNow_keys (x:=x) (j:=0) h hl
 simp only [Nat.zero_add] at this
 simp only [Sem.run_bind,run_underlying h2,Result.andThen_ok,this,Sem.run_pure]
theorem o_lookup {x i:Operand} {t kt et r key j:Nat} {ks:List Nat} {vs:List Value} (hk:Kn n l a) (ht:mapTy P t = some (kt,et)) (hx:ev l x = some (.map (some r))) (hi:ev l i = some (.int .u32 (key:Int))) (hm:MapAt w r ks vs) (hj:keyAt ks key = some j)
  (hd:Nat.blt d n = true) (K:∀ a',Kn n ((d,vs.getD j undef) :: l) a' → wpList P ops Q rest a' w) :
  wpList P ops Q (⟨some d,.lookup t x i false,ty,ps,af,none⟩ :: rest) a w:=by
 obtain ⟨h1,h2⟩:=mapTy_spec ht
 obtain ⟨es,clk,g1,g2,g3,_⟩:=hm
 refine step_runs (v:=vs.getD j undef) hk rfl rfl hd ?_ K
 unfold Runs execOp
 simp only [Sem.run_bind,hk.eval hx,hk.eval hi,Instr.lookup,run_underlying h1,Result.andThen_ok,getObj_map g1,Sem.run_pure,checkKey_u32 h2,findKey_run h2 g2 g3,hj,Option.map_some]
 rfl
theorem o_makeMap {t:Nat} (hk:Kn n l a) (hd:Nat.blt d n = true)
  (K:∀ a' b w',b = w.heap.size → Agr Nob w w' → MapAt w' b [] [] → Kn n ((d,.map (some b)) :: l) a' → wpList P ops Q rest a' w') :
  wpList P ops Q (⟨some d,.makeMap t none,ty,ps,af,none⟩ :: rest) a w:=by
 refine step_runs (v:=.map (some w.heap.size)) (w':=w.alloc (.map #[] 0)) hk rfl rfl hd ?_ fun a' hk'=>K a' w.heap.size _ rfl (Agr.alloc _ _ _) ⟨#[],0,heap_alloc_new w _,rfl,rfl,List.nodup_nil,fun _ he=>by cases he⟩ hk'
 unfold Runs execOp
 simp [Instr.makeMap]
def setV (ks:List Nat) (vs:List Value) (x:Nat) (v:Value):List Nat × List Value:=match keyAt ks x with
 | some i=>(ks,vs.set i v)
 | none=>(ks ++ [x],vs ++ [v])
theorem keyAt_get {x:Nat}:∀ {ks:List Nat} {i:Nat},keyAt ks x = some i → ks[i]? = some x
 | [],i,h=>by simp [keyAt] at h
 | k :: r,i,h=>by
  simp only [keyAt] at h
  split at h
  ·rename_i hx
   obtain rfl:=Option.some.inj h
   simp [hx]
  ·cases hq:keyAt r x with
   | none=>rw [hq] at h; simp at h
   | some j =>
    rw [hq] at h
    simp only [Option.map_some,Option.some.injEq] at h
    subst h
    simpa using keyAt_get hq
theorem setBlock_agr (w:World) (r:Nat) (o:Obj):Agr (fun k=>k = r) w (setBlock w r o) :=
 ⟨rfl,rfl,rfl,by simp [setBlock],fun i _ hi=>by
  show (w.heap.setIfInBounds r o)[i]? = _
  rw [Array.getElem?_setIfInBounds_ne (Ne.symm hi)]⟩
theorem setBlock_heap {w:World} {r:Nat} {o:Obj} (h:r < w.heap.size):(setBlock w r o).heap[r]? = some o:=by
 show (w.heap.setIfInBounds r o)[r]? = _
 rw [Array.getElem?_setIfInBounds_self_of_lt h]
theorem zip_set:∀ {ks:List Nat} {vs:List Value} {i:Nat} {v:Value} {x:Nat},ks[i]? = some x → ks.length = vs.length → ks.zip (vs.set i v) = (ks.zip vs).set i (x,v)
 | [],vs,i,v,x,h,_=>by simp at h
 | k :: ks,[],i,v,x,_,h=>by simp at h
 | k :: ks,u :: vs,0,v,x,h,hl=>by
  simp only [List.getElem?_cons_zero,Option.some.injEq] at h
  subst h
  simp
 | k :: ks,u :: vs,i + 1,v,x,h,hl=>by
  simp only [List.getElem?_cons_succ] at h
  simp only [List.set_cons_succ,List.zip_cons_cons]
  rw [zip_set h (by simpa using hl)]
theorem o_mapUpdate {x i y:Operand} {t kt et r key:Nat} {v:Value} {ks:List Nat} {vs:List Value} (hk:Kn n l a) (ht:mapTy P t = some (kt,et)) (hx:ev l x = some (.map (some r))) (hi:ev l i = some (.int .u32 (key:Int))) (hy:ev l y = some v) (hm:MapAt w r ks vs)
  (K:∀ a' w',Agr (fun k=>k = r) w w' → MapAt w' r (setV ks vs key v).1 (setV ks vs key v).2 → Kn n l a' → wpList P ops Q rest a' w') :
  wpList P ops Q (⟨none,.mapUpdate t x i y,ty,ps,af,none⟩ :: rest) a w:=by
 obtain ⟨h1,h2⟩:=mapTy_spec ht
 have hrl:=hm.lt
 obtain ⟨es,clk,g1,g2,g3,g4,g5⟩:=hm
 have hlen:es.toList.length = ks.length:=by
  have:=congrArg List.length g2
  simp only [List.length_map,List.length_zip] at this
  omega
 cases hj:keyAt ks key with
 | none =>
  refine step_runsU (w':=setBlock w r (.map (es.push { key:=.int .u32 (key:Int),val:=v,born:=clk }) (clk + 1))) hk rfl rfl ?_ fun a' hk'=>K a' _ (setBlock_agr _ _ _) ?_ hk'
  ·unfold RunsU execOp
   simp only [Sem.run_bind,hk.eval hx,hk.eval hi,hk.eval hy,Instr.mapUpdate,run_underlying h1,Result.andThen_ok,getObj_map g1,checkKey_u32 h2,findKey_run h2 g2 g3,hj,Option.map_none,Sem.run_pure]
   simp [setObj,Sem.run,g1,setBlock]
  ·unfold setV
   rw [hj]
   refine ⟨_,_,setBlock_heap hrl,?_,by simp [g3],?_,?_⟩
   ·simp only [Array.toList_push,List.map_append,List.map_cons,List.map_nil,g2]
    rw [List.zip_append g3]
    simp
   ·simp only [Array.toList_push,List.map_append,List.map_cons,List.map_nil,List.nodup_append]
    refine ⟨g4,by simp,?_⟩
    intro x hx y hy hxy
    obtain ⟨e,he,rfl⟩:=List.mem_map.1 hx
    simp only [List.mem_singleton] at hy
    have:=g5 e he
    omega
   ·intro e he
    simp only [Array.toList_push,List.mem_append,List.mem_singleton] at he
    rcases he with he | rfl
    ·have:=g5 e he; omega
    ·simp
 | some j =>
  have hks:=keyAt_get hj
  have hjl:j < ks.length:=(List.getElem?_eq_some_iff.1 hks).1
  have hjs:j < es.size:=by rw [← Array.length_toList]; omega
  have hke:(es[j]).key = .int .u32 (key:Int):=by
   have h3:(es.toList.map (fun e=>(e.key,e.val)))[j]? = some ((es[j]).key,(es[j]).val):=by simp [hjs]
   rw [g2,List.getElem?_map] at h3
   cases hz:(ks.zip vs)[j]? with
   | none=>rw [hz] at h3; cases h3
   | some p =>
    rw [hz] at h3
    simp only [Option.map_some,Option.some.injEq,Prod.mk.injEq] at h3
    rw [← h3.1]
    have:p.1 = key:=by
     obtain ⟨h4,_⟩:=List.getElem?_zip_eq_some.1 hz
     rw [hks] at h4
     exact (Option.some.inj h4).symm
    rw [this]
  have hsame:Instr.sameBits 10000 (.int .u32 (key:Int)) (.int .u32 (key:Int)) = true:=by
   show (IntKind.u32 == IntKind.u32 && ((key:Int) == (key:Int))) = true
   simp
  refine step_runsU (w':=setBlock w r (.map (es.modify j fun e=>{ e with key:=.int .u32 (key:Int),val:=v }) clk)) hk rfl rfl ?_ fun a' hk'=>K a' _ (setBlock_agr _ _ _) ?_ hk'
  ·unfold RunsU execOp
   simp only [Sem.run_bind,hk.eval hx,hk.eval hi,hk.eval hy,Instr.mapUpdate,run_underlying h1,Result.andThen_ok,getObj_map g1,checkKey_u32 h2,findKey_run h2 g2 g3,hj,Option.map_some]
   have hget:((es[j]?).map (·.key)).getD (.int .u32 (key:Int)) = .int .u32 (key:Int):=by simp [hjs,hke]
   rw [hget]
   simp only [Instr.keyThatStays,hsame,if_true,Sem.run_pure,Result.andThen_ok]
   simp [setObj,Sem.run,g1,setBlock]
  ·unfold setV
   rw [hj]
   have hml:(es.modify j fun e=>{ e with key:=Value.int .u32 (key:Int),val:=v }).toList = es.toList.set j { es[j] with key:=Value.int .u32 (key:Int),val:=v }:=by
    apply List.ext_getElem?
    intro i
    rw [Array.getElem?_toList,Array.getElem?_modify,List.getElem?_set]
    by_cases hij:j = i
    ·subst hij
     simp [hjs]
    ·simp [hij]
   refine ⟨_,_,setBlock_heap hrl,?_,by simp [g3],?_,?_⟩
   ·rw [hml,List.map_set,g2,zip_set hks g3,List.map_set]
   ·rw [hml,List.map_set]
    have:(es.toList.map (·.born)).set j es[j].born = es.toList.map (·.born):=by
     apply List.ext_getElem?
     intro i
     rw [List.getElem?_set]
     split
     ·rename_i hij; subst hij; simp [hjs]
     ·rfl
    rw [this]
    exact g4
   ·intro e he
    rw [hml] at he
    rcases List.mem_or_eq_of_mem_set he with he | rfl
    ·exact g5 e he
    ·exact g5 es[j] (by simp)
theorem o_range {x:Operand} {t kt et r clk:Nat} {es:Array MapEntry} (hk:Kn n l a) (hm:Mem w0 X Z m w) (ht:mapTy P t = some (kt,et)) (hx:ev l x = some (.map (some r))) (hr:w.heap[r]? = some (.map es clk)) (hd:Nat.blt d n = true)
  (K:∀ a' b w',w.heap.size = b → Kn n ((d,.pointer (some ⟨b,0,none⟩)) :: l) a' → Mem w0 X Z (.obj b (.mapIter (some r) clk #[] clk) :: m) w' → wpList P ops Q rest a' w') :
  wpList P ops Q (⟨some d,.range t x,ty,ps,af,none⟩ :: rest) a w:=by
 obtain ⟨h1,h2⟩:=mapTy_spec ht
 refine step_runs (v:=.pointer (some ⟨w.heap.size,0,none⟩)) (w':=w.alloc (.mapIter (some r) clk #[] clk)) hk rfl rfl hd ?_ fun a' hk'=>K a' _ _ rfl hk' (hm.newEnt rfl (heap_alloc_new w _))
 unfold Runs execOp
 simp only [Sem.run_bind,hk.eval hx,run_range_map w t kt et r es clk h1 hr,Result.andThen_ok,Sem.run_pure]
theorem o_next {x:Operand} {i b r since c0 clk:Nat} {seen:Array Nat} {es:Array MapEntry} (hk:Kn n l a) (hm:Mem w0 X Z m w) (hx:ev l x = some (.pointer (some ⟨b,0,none⟩))) (hi:entAt m i = some (.obj b (.mapIter (some r) since seen c0)))
  (hr:w.heap[r]? = some (.map es clk)) (hold:∀ e ∈ es.toList,e.born < since) (hsc:since ≤ c0) (hd:Nat.blt d n = true)
  (K0:(leftOf es seen).size = 0 → ∀ a',Kn n ((d,.tuple #[.bool false]) :: l) a' → wpList P ops Q rest a' w)
  (K1:∀ e ∈ (leftOf es seen).toList,∀ a' w',Kn n ((d,.tuple #[.bool true,e.key,e.val]) :: l) a' → Mem w0 X Z (putAt m i (.obj b (.mapIter (some r) since (seen.push e.born) clk))) w' → wpList P ops Q rest a' w') :
  wpList P ops Q (⟨some d,.next x false,ty,ps,af,none⟩ :: rest) a w:=by
 have hit:w.heap[b]? = some (.mapIter (some r) since seen c0):=hm.all _ (eA0 hi)
 rcases run_next_at (P:=P) w ty b r since c0 seen es clk hit hr hold hsc with ⟨h0,hrun⟩ | ⟨e,he,w1,hw1,hrun⟩
 ·refine step_runs (v:=.tuple #[.bool false]) (w':=w) hk rfl rfl hd ?_ (K0 h0)
  unfold Runs execOp
  simp only [Sem.run_bind,hk.eval hx,hrun,Result.andThen_ok,Sem.run_pure]
 ·have hm1:Mem w0 X Z m w1:=by
   rcases hw1 with rfl | rfl
   ·exact hm
   ·exact hm.pure (Agr.drew _ _)
  have hb1:b < w1.heap.size:=(hm1.own b (muts_mem (eA0 hi) (by simp [Ent.mut]))).1
  refine step_runs hk rfl rfl hd ?_ fun a' hk'=>K1 e he a' _ hk' (hm1.setEnt hi rfl rfl (setBlock_agr w1 b _) (setBlock_heap hb1))
  unfold Runs execOp
  simp only [Sem.run_bind,hk.eval hx,hrun,Result.andThen_ok,Sem.run_pure]
theorem o_entry {x:Operand} {i b r since clk:Nat} {seen:Array Nat} {es:Array MapEntry} {e:MapEntry} (hk:Kn n l a) (hm:Mem w0 X Z m w) (hx:ev l x = some (.pointer (some ⟨b,0,none⟩))) (hi:entAt m i = some (.obj b (.mapIter (some r) since (seen.push e.born) clk)))
  (hr:w.heap[r]? = some (.map es clk)) (he:e ∈ es.toList) (hn:(es.toList.map (·.born)).Nodup) (hd:Nat.blt d n = true)
  (K:∀ a',Kn n ((d,.tuple #[e.key,e.val]) :: l) a' → wpList P ops Q rest a' w) :
  wpList P ops Q (⟨some d,.entry x,ty,ps,af,none⟩ :: rest) a w:=by
 have hit:w.heap[b]? = some (.mapIter (some r) since (seen.push e.born) clk):=hm.all _ (eA0 hi)
 refine step_runs hk rfl rfl hd ?_ K
 unfold Runs execOp
 simp only [Sem.run_bind,hk.eval hx,run_entry_at (P:=P) w b r since seen es clk e hit hr he hn,Result.andThen_ok,Sem.run_pure]
theorem o_extract {x:Operand} {i:Nat} {vs:Array Value} {v:Value} (hk:Kn n l a) (hx:ev l x = some (.tuple vs)) (hv:vs[i]? = some v) (hd:Nat.blt d n = true) (K:∀ a',Kn n ((d,v) :: l) a' → wpList P ops Q rest a' w) :
  wpList P ops Q (⟨some d,.extract x i,ty,ps,af,none⟩ :: rest) a w:=by
 refine step_runs hk rfl rfl hd ?_ K
 unfold Runs execOp
 simp [hk.eval hx,Instr.extract,hv]
theorem o_makeIface {x:Operand} {t e:Nat} {v:Value} (hk:Kn n l a) (ht:tyElem P t = some e) (hx:ev l x = some v) (hd:Nat.blt d n = true) (K:∀ a',Kn n ((d,.iface t v) :: l) a' → wpList P ops Q rest a' w) :
  wpList P ops Q (⟨some d,.makeInterface t x,ty,ps,af,none⟩ :: rest) a w:=by
 refine step_runs hk rfl rfl hd ?_ K
 unfold Runs execOp
 simp [hk.eval hx,Instr.makeInterface,run_underlying (tyElem_run ht)]
theorem o_makeFunc {f:Nat} {xs:List Operand} {vs:List Value} (hk:Kn n l a) (hxs:evs l xs vs) (hd:Nat.blt d n = true) (K:∀ a',Kn n ((d,.func (.func f) #[] vs.toArray) :: l) a' → wpList P ops Q rest a' w) :
  wpList P ops Q (⟨some d,.makeFunc (.func f) #[] xs.toArray,ty,ps,af,none⟩ :: rest) a w:=by
 refine step_runs hk rfl rfl hd ?_ K
 unfold Runs execOp
 simp [Instr.makeFunc,hk.evals hxs]
theorem o_callV {f:Nat} {x:Operand} {xs:List Operand} {vs lb:List Value} {tys:Array Nat} {R:Value → World → Prop} (hk:Kn n l a) (hx:ev l x = some (.func (.func f) #[] lb.toArray)) (hf:cb0 P f = true) (hc:Ret P f (vs ++ lb) w R) (hxs:evs l xs vs) (hd:Nat.blt d n = true)
  (K:∀ v w' a',R v w' → Kn n ((d,v) :: l) a' → wpList P ops Q rest a' w') :
  wpList P ops Q (⟨some d,.call ⟨.value x,xs.toArray,tys⟩,ty,ps,af,none⟩ :: rest) a w:=by
 refine step_calls hk rfl rfl hd ?_ hc K
 unfold execOp
 simp [resolve,Deferred.ofValue,hk.eval hx,invoke,callFunc_run hf,hk.evals hxs]
theorem ret_of_calls {f:FuncId} {args:List Value} {v:Value} {R:World → Prop} {ars:Array Value} (ha:ars = args.toArray) (h:Calls P f ars w fun e w'=>e = .returned v ∧ R w'):Ret P f args w fun u w'=>u = v ∧ R w':=by
 subst ha
 exact Calls.mono h fun e w' ⟨he,hr⟩=>⟨v,he,rfl,hr⟩
end
end Go.Mk
namespace Go.Mk
open Go
open Go.ChangeMaps (setBlock)
open Go.Sort Go.Proofs
theorem rep_tags {w:World} {Y:Nat → Prop} {u:List (Nat × List UInt8)} {c:Value} (h:Rep w Y (ddTagMap u) [c]) :
  (u = [] ∧ c = .map none) ∨ ∃ r vs,c = .map (some r) ∧ ¬ Y r ∧ MapAt w r (u.map (·.1)) vs ∧ vs.length = u.length ∧ ∀ (i:Nat) (p:Nat × List UInt8),u[i]? = some p → ∃ x,vs[i]? = some x ∧ Rep w Y (ddBs p.2) [x]:=by
 simp only [ddTagMap,Rep] at h
 rcases h with ⟨h1,_,h2⟩ | ⟨r,vs,h1,h2,h3,h4⟩
 ·exact .inl ⟨by simpa using h1,by simpa using h2⟩
 ·refine .inr ⟨r,vs,by simpa using h1,h2,h3,by simpa using h3.len.symm,?_⟩
  clear h1 h2 h3
  induction u generalizing vs with
  | nil=>intro i p hi; simp at hi
  | cons q r ih =>
   intro i p hi
   simp only [List.map_cons] at h4
   obtain ⟨x,c2,rfl,h5,h6⟩:=h4.un1 (one1_sl _ _ _)
   cases i with
   | zero =>
    simp only [List.getElem?_cons_zero,Option.some.injEq] at hi
    subst hi
    exact ⟨x,rfl,h5⟩
   | succ i=>exact ih c2 h6 i p (by simpa using hi)
theorem rep_tags_len {w:World} {Y:Nat → Prop} {u:List (Nat × List UInt8)} {c:Value} (h:Rep w Y (ddTagMap u) [c]):∃ p,c = .map p ∧ mapLen w p u.length:=by
 rcases rep_tags h with ⟨rfl,rfl⟩ | ⟨r,vs,rfl,_,h1,h2,_⟩
 ·exact ⟨none,rfl,rfl⟩
 ·exact ⟨some r,rfl,_,vs,h1,by simp⟩
theorem keyAt_of {ks:List Nat} (h:ks.Nodup):∀ {i:Nat} {k:Nat},ks[i]? = some k → keyAt ks k = some i:=by
 induction ks with
 | nil=>intro i k h; simp at h
 | cons x r ih =>
  intro i k hi
  rw [List.nodup_cons] at h
  cases i with
  | zero =>
   simp only [List.getElem?_cons_zero,Option.some.injEq] at hi
   simp [keyAt,hi]
  | succ i =>
   simp only [List.getElem?_cons_succ] at hi
   have hne:k ≠ x:=fun e=>h.1 (e ▸ List.mem_of_getElem? hi)
   simp [keyAt,hne,ih h.2 hi]
theorem mapBlock_agr (w:World) (blk:Nat) (f:Array Value → Array Value):Agr (fun k=>k = blk) w (mapBlock w blk f) :=
 ⟨rfl,rfl,rfl,by simp [mapBlock],fun i _ hi=>by
  show (w.heap.modify blk _)[i]? = _
  rw [Array.getElem?_modify,if_neg (Ne.symm hi)]⟩
theorem grow_agr (w:World) (os:Array Obj):Agr Nob w (grow w os) :=
 ⟨rfl,rfl,rfl,by simp [grow],fun i hi _=>by
  show (w.heap ++ os)[i]? = _
  rw [Array.getElem?_append_left hi]⟩
theorem ahead_agr (w:World) (n:Nat):Agr Nob w (Sort.ahead w n):=⟨rfl,rfl,rfl,Nat.le_refl _,fun _ _ _=>rfl⟩
theorem mapBlock_heap {w:World} {g:Nat} {c:Array Value} {e:TypeId} {fr:Nat × Nat} (f:Array Value → Array Value) (h:w.heap[g]? = some (.cells c e fr)):(mapBlock w g f).heap[g]? = some (.cells (f c) e fr):=by
 show (w.heap.modify g _)[g]? = _
 rw [Array.getElem?_modify,if_pos rfl,h]
 rfl
def u32s (ks:List Int):List Value:=ks.map fun k=>.int .u32 k
theorem putRow_row {w w':World} {e g n cap q:Nat} {ds:List Int} {d':Array Int} {os:Array Obj} (hr:w.ownsRow 0 e 1 (.slice (some ⟨g,0,none⟩) n cap) n (u32s ds)) (hd:d'.size = n)
  (hw:w' = grow (putRow (Value.int .u32) (Sort.ahead w q) g 0 d') os):Agr (fun k=>k = g) w w' ∧ w'.ownsRow 0 e 1 (.slice (some ⟨g,0,none⟩) n cap) n (u32s d'.toList):=by
 subst hw
 have a1:Agr (fun k=>k = g) w (grow (putRow (Value.int .u32) (Sort.ahead w q) g 0 d') os) :=
  (((ahead_agr w q).mono (Y:=fun k=>k = g) (fun _ _ x=>x.elim)).trans (mapBlock_agr (Sort.ahead w q) g _) (fun _ _ x=>x) (fun _ _ x=>x)).trans ((grow_agr _ os).mono (Y:=fun k=>k = g) (fun _ _ x=>x.elim)) (fun _ _ x=>x) (fun _ _ x=>x)
 refine ⟨a1,?_⟩
 obtain ⟨_,hcase⟩:=hr
 rcases hcase with ⟨h0,_⟩ | ⟨g',cap',cur,h0,_,hg,hnc,hcm,hcs,htake⟩
 ·simp at h0
 ·simp only [Value.slice.injEq,Option.some.injEq,Addr.mk.injEq,and_true,true_and] at h0
  obtain ⟨rfl,rfl⟩:=h0
  have hg2:(grow (putRow (Value.int .u32) (Sort.ahead w q) g 0 d') os).heap[g]? = some (.cells (putCells (Value.int .u32) 0 d' cur) e (0,0)):=by
   have h1:=mapBlock_heap (w:=Sort.ahead w q) (putCells (Value.int .u32) 0 d') hg
   have hlt:g < (putRow (Value.int .u32) (Sort.ahead w q) g 0 d').heap.size:=(Array.getElem?_eq_some_iff.1 h1).1
   rw [(grow_agr _ os).block g hlt id]
   exact h1
  refine ⟨by simp [u32s,hd],.inr ⟨g,cap,_,rfl,Nat.zero_le _,hg2,hnc,hcm,by simp [putCells,hcs],?_⟩⟩
  apply List.ext_getElem?
  intro i
  rw [List.getElem?_take]
  by_cases hi:i < n
  ·rw [if_pos (by omega),Array.getElem?_toList,putCells,Array.getElem?_mapIdx]
   have hic:i < cur.size:=by rw [hcs]; omega
   rw [Array.getElem?_eq_getElem hic]
   have hid:i < d'.size:=by omega
   simp [u32s,hid]
  ·rw [if_neg (by omega)]
   symm
   rw [List.getElem?_eq_none]
   simp [u32s]
   omega
theorem sorted_eq {d':Array Int} {ks:List Int} (hp:d'.toList.Perm ks) (hs:SortedIn ltInt 0 d'.size d') (hk:ks.Pairwise (· ≤ ·)):d'.toList = ks:=by
 refine List.Perm.eq_of_pairwise (le:=fun a b:Int=>a ≤ b) (fun a b _ _ h1 h2=>Int.le_antisymm h1 h2) ?_ hk hp
 rw [List.pairwise_iff_getElem]
 intro i j hi hj hij
 have hi':i < d'.size:=by simpa using hi
 have hj':j < d'.size:=by simpa using hj
 have:=hs i j (Nat.zero_le _) hij hj'
 rw [getElem!_pos d' j hj',getElem!_pos d' i hi'] at this
 simp only [ltInt,decide_eq_false_iff_not] at this
 simpa using this
theorem holds_row {w:World} {e g n cap:Nat} {ds:List Int} (hr:w.ownsRow 0 e 1 (.slice (some ⟨g,0,none⟩) n cap) n (u32s ds)):Holds (Value.int .u32) w g 0 ds.toArray ∧ ds.toArray.size = n:=by
 have hl:ds.length = n:=by have:=hr.1; simpa [u32s] using this
 refine ⟨fun j hj=>?_,by simpa using hl⟩
 have hj':j < ds.length:=by simpa using hj
 have hc:=hr.cells (g:=g) rfl j (.int .u32 ds[j]) (by simp [u32s,hj'])
 rw [Addr.add_lit] at hc
 refine ⟨?_,?_⟩
 ·rw [Nat.zero_add] at hc ⊢
  rw [hc,getElem!_pos ds.toArray j hj]
  simp
 ·obtain ⟨_,hcase⟩:=hr
  rcases hcase with ⟨h0,_⟩ | ⟨g',cap',cur,h0,_,hg,_⟩
  ·simp at h0
  ·simp only [Value.slice.injEq,Option.some.injEq,Addr.mk.injEq,and_true,true_and] at h0
   obtain ⟨rfl,rfl⟩:=h0
   simp [World.frozen?,hg]
theorem sortU32 {P:Program} {ρ : Shelf.Ren} (L:LaysGg.n6 P ρ) {t e:Nat} {i ie:TypeInfo} (hi:P.info? t = some i) (hd:i.desc = .slice e) (hpk:P.packed t = false) (hie:P.info? e = some ie) {ke:Nat} (hke:∀ w,(Extern.Rtype.kind e).run P w = .ok ke w)
  (hs1:ie.size = 1) (hagg:∀ w,(isAgg e).run P w = .ok false w) {g:Nat} {lb:Array Value} (eg:∀ args w,(callFunc g args).run P w = .ok (.enter g args) w)
  (f : Nat → Nat) (hf : ∀ n, P.funcs.findIdx? (·.name == "internal/reflectlite" ++ ".Swapper$" ++ toString (Lib.swapperK n ie ke)) = some (f n)) (gS : Bool)
  (hx:∀ n,2 ≤ n → ∀ args W,(callFunc (f n) args).run P W = ((Extern.ReflectliteSwapper.swap gS args).run P W).andThen fun v w'=>.ok (.value v) w')
  {w:World} {v:Value} {n:Nat} {ds ks:List Int} (hr:w.ownsRow 0 e 1 v n (u32s ds)) (hsz:n < 4611686018427387904) (hp:ds.Perm ks) (hk:ks.Pairwise (· ≤ ·))
  (hless:∀ blk cap,v = .slice (some ⟨blk,0,none⟩) n cap → LessReads P g lb (Value.int .u32) ltInt blk 0 n w) :
  Calls P (ρ.f 6) #[.iface t v,.func (.func g) #[] lb] w fun e' w'=>e' = .returned (.tuple #[]) ∧ Agr (fun k=>v.ownBlock = some k) w w' ∧ w'.ownsRow 0 e 1 v n (u32s ks):=by
 have hl:ds.length = n:=by have:=hr.1; simpa [u32s] using this
 obtain ⟨p,cap,rfl⟩ : ∃ p cap,v = .slice p n cap:=row_form hr
 by_cases h2 : 2 ≤ n
 ·obtain ⟨blk,rfl⟩:=row_ptr hr (by omega)
  obtain ⟨hH,hsize⟩:=holds_row hr
  have hblk:blk < w.heap.size:=(hr.lt blk rfl).2
  have hS:=Any.sort_Slice_sorted L t e i ie hi hd hpk hie ke hke hs1 hagg (Value.int .u32) (fun _=>rfl) ltInt swo_ltInt g lb eg blk 0 cap ds.toArray (by omega) (by omega) (f ds.toArray.size) (hf _) gS (hx _ (by omega)) w (by rw [hsize]; exact hless blk cap rfl) hH hblk
  rw [hsize] at hS
  refine hS.mono ?_
  rintro e' w' ⟨rfl,d',q,os,hpm,hso,hw⟩
  have hd':d'.size = n:=by rw [hpm.1,hsize]
  obtain ⟨a1,a2⟩:=putRow_row (q:=q) (os:=os) hr hd' hw
  refine ⟨rfl,a1.mono fun k _ hk=>by simp [Value.ownBlock,hk],?_⟩
  have hpl:d'.toList.Perm ks:=by
   have:=hpm.2.2
   have e1:d'.extract 0 n = d':=by rw [← hd']; simp
   have e2:ds.toArray.extract 0 n = ds.toArray:=by rw [← hsize]; simp
   rw [e1,e2] at this
   exact (by simpa using this:d'.toList.Perm ds).trans hp
  have hso':SortedIn ltInt 0 d'.size d':=by rw [hd']; exact hso
  rw [sorted_eq hpl hso' hk] at a2
  exact a2
 ·have hS:=Any.sort_Slice_tiny L t e i ie hi hd hpk hie ke hke p n cap (by omega) (f n) (hf n) (.func g) #[] lb w
  refine hS.mono ?_
  rintro e' w' ⟨rfl,os,rfl⟩
  have hds:ds = ks:=by
   match ds,ks,hp,hl with
   | [],ks,hp,_=>exact (List.nil_perm.1 hp).symm
   | [x],ks,hp,_=>exact List.singleton_perm.1 hp
   | x :: y :: r,_,_,hl=>simp at hl; omega
  refine ⟨rfl,(grow_agr w os).mono fun _ _ x=>x.elim,?_⟩
  rw [← hds]
  refine Ent.holds_move (e:=.row e 1 _ n _) (Y:=fun _=>True) (Y':=fun _=>True) (fun i _ hy=>absurd trivial hy) hr (fun b hb=>?_)
  exact (grow_agr w os).block b (hr.lt b (by simpa [Ent.mut] using hb)).2 id
def Collect (es:Array MapEntry) (seen:Array Nat) (col:List MapEntry):Prop:=seen.toList = col.map (·.born) ∧ (col ++ (leftOf es seen).toList).Perm es.toList
theorem collect_start (es:Array MapEntry):Collect es #[] []:=by
 refine ⟨rfl,?_⟩
 have:leftOf es #[] = es:=by unfold leftOf; rw [Array.filter_eq_self]; intro x _; simp
 rw [this]
 exact List.Perm.refl _
theorem collect_step {es:Array MapEntry} {seen:Array Nat} {col:List MapEntry} (h:Collect es seen col) (hn:(es.toList.map (·.born)).Nodup) {e:MapEntry} (he:e ∈ (leftOf es seen).toList):Collect es (seen.push e.born) (col ++ [e]):=by
 obtain ⟨h1,h2⟩:=h
 refine ⟨by simp [h1],?_⟩
 have e1:(leftOf es (seen.push e.born)).toList = (leftOf es seen).toList.filter (fun x=>x.born != e.born):=by
  unfold leftOf
  rw [Array.toList_filter,Array.toList_filter,List.filter_filter]
  apply List.filter_congr
  intro x _
  rw [Bool.eq_iff_iff]
  simp only [Array.contains_push,Bool.not_or,Bool.and_eq_true,Bool.not_eq_true',beq_eq_false_iff_ne,bne_iff_ne,ne_eq]
  constructor <;> (rintro ⟨a,b⟩; exact ⟨b,a⟩)
 have hnl:((leftOf es seen).toList.map (·.born)).Nodup:=by
  unfold leftOf
  rw [Array.toList_filter]
  exact (List.Sublist.map _ List.filter_sublist).nodup hn
 have key:∀ (l:List MapEntry),(l.map (·.born)).Nodup → e ∈ l → l.Perm (e :: l.filter fun x=>x.born != e.born):=by
  intro l
  induction l with
  | nil=>intro _ h; cases h
  | cons x r ih =>
   intro hn he
   simp only [List.map_cons,List.nodup_cons] at hn
   rcases List.mem_cons.1 he with rfl | he
   ·have:r.filter (fun x=>x.born != e.born) = r:=by
     rw [List.filter_eq_self]
     intro y hy
     simp only [bne_iff_ne,ne_eq]
     intro hb
     exact hn.1 (List.mem_map.2 ⟨y,hy,hb⟩)
    simp [this]
   ·have hne:x.born ≠ e.born:=fun hb=>hn.1 (List.mem_map.2 ⟨e,he,hb.symm⟩)
    have hf:(x :: r).filter (fun y=>y.born != e.born) = x :: r.filter (fun y=>y.born != e.born):=by
     rw [List.filter_cons_of_pos]
     simpa using hne
    rw [hf]
    exact ((ih hn.2 he).cons x).trans (List.Perm.swap e x _)
 rw [e1]
 refine List.Perm.trans ?_ h2
 rw [List.append_assoc]
 exact List.Perm.append_left _ (key _ hnl he).symm
theorem collect_end {es:Array MapEntry} {seen:Array Nat} {col:List MapEntry} (h:Collect es seen col) (h0:(leftOf es seen).size = 0):col.Perm es.toList:=by
 have:(leftOf es seen).toList = []:=by rw [Array.eq_empty_of_size_eq_zero h0]
 have h2:=h.2
 rw [this,List.append_nil] at h2
 exact h2
theorem collect_less {es:Array MapEntry} {seen:Array Nat} {col:List MapEntry} (h:Collect es seen col) (hn:(es.toList.map (·.born)).Nodup) {e:MapEntry} (he:e ∈ (leftOf es seen).toList):(leftOf es (seen.push e.born)).size < (leftOf es seen).size:=by
 have h1:=h.2.length_eq
 have h2:=(collect_step h hn he).2.length_eq
 simp only [List.length_append,List.length_singleton,Array.length_toList] at h1 h2
 omega
theorem collect_len {es:Array MapEntry} {seen:Array Nat} {col:List MapEntry} (h:Collect es seen col):col.length ≤ es.size:=by
 have h1:=h.2.length_eq
 simp only [List.length_append,Array.length_toList] at h1
 omega
theorem keys_map {es:List MapEntry} {ks:List Nat} {vs:List Value} (h:es.map (fun e=>(e.key,e.val)) = (ks.zip vs).map (fun p=>(Value.int .u32 (p.1:Int),p.2))) (hl:ks.length = vs.length):es.map (·.key) = u32s (ks.map fun (k:Nat)=>(k:Int)):=by
 have h1:=congrArg (List.map (·.1)) h
 rw [List.map_map,List.map_map] at h1
 have e1:es.map (·.key) = es.map ((·.1) ∘ fun e=>(e.key,e.val)):=rfl
 rw [e1,h1]
 unfold u32s
 rw [List.map_map]
 have e2:ks = (ks.zip vs).map (·.1):=by rw [List.map_fst_zip (by omega)]
 conv=>rhs; rw [e2]
 rw [List.map_map]
 rfl
theorem u32s_inj:∀ {a b:List Int},u32s a = u32s b → a = b
 | [],[],_=>rfl
 | [],_ :: _,h=>by simp [u32s] at h
 | _ :: _,[],h=>by simp [u32s] at h
 | x :: r,y :: s,h=>by
  simp only [u32s,List.map_cons,List.cons.injEq,Value.int.injEq,true_and] at h
  rw [h.1,u32s_inj h.2]
theorem keys_perm {es:List MapEntry} {ks:List Nat} {vs:List Value} (h:es.map (fun e=>(e.key,e.val)) = (ks.zip vs).map (fun p=>(Value.int .u32 (p.1:Int),p.2))) (hl:ks.length = vs.length) {col:List MapEntry} (hp:col.Perm es) :
  ∃ ds:List Int,col.map (·.key) = u32s ds ∧ ds.Perm (ks.map fun (k:Nat)=>(k:Int)):=by
 have h1:=(hp.map (·.key))
 rw [keys_map h hl] at h1
 have key:∀ (l:List Value) (ns:List Int),l.Perm (u32s ns) → ∃ ds,l = u32s ds ∧ ds.Perm ns:=by
  intro l ns hp
  have hall:∀ x ∈ l,∃ k,x = Value.int .u32 k:=fun x hx=>by
   obtain ⟨k,_,rfl⟩:=List.mem_map.1 (hp.mem_iff.1 hx)
   exact ⟨k,rfl⟩
  have hex:∃ ds,l = u32s ds:=by
   clear hp
   induction l with
   | nil=>exact ⟨[],rfl⟩
   | cons x r ih =>
    obtain ⟨k,rfl⟩:=hall x List.mem_cons_self
    obtain ⟨ds,rfl⟩:=ih fun y hy=>hall y (List.mem_cons_of_mem _ hy)
    exact ⟨k :: ds,rfl⟩
  obtain ⟨ds,rfl⟩:=hex
  refine ⟨ds,rfl,?_⟩
  have hm:=hp.map (fun v=>match v with | Value.int _ k=>k | _=>0)
  simp only [u32s,List.map_map,Function.comp_def,List.map_id'] at hm
  exact hm
 exact key _ _ h1
theorem rising_pair:∀ {u:List (Nat × List UInt8)},rising u → ((u.map (·.1)).map fun (k:Nat)=>(k:Int)).Pairwise (· ≤ ·) ∧ (u.map (·.1)).Nodup
 | [],_=>⟨List.Pairwise.nil,List.nodup_nil⟩
 | p :: r,h=>by
  obtain ⟨h1,h2⟩:=rising_pair h.2
  simp only [List.map_cons]
  refine ⟨List.pairwise_cons.2 ⟨fun x hx=>?_,h1⟩,List.nodup_cons.2 ⟨fun hx=>?_,h2⟩⟩
  ·obtain ⟨k,hk,rfl⟩:=List.mem_map.1 hx
   obtain ⟨q,hq,rfl⟩:=List.mem_map.1 hk
   have:=h.1 q hq
   omega
  ·obtain ⟨q,hq,he⟩:=List.mem_map.1 hx
   have:=h.1 q hq
   omega
theorem key_u32 {es:List MapEntry} {ks:List Nat} {vs:List Value} (h:es.map (fun e=>(e.key,e.val)) = (ks.zip vs).map (fun p=>(Value.int .u32 (p.1:Int),p.2))) (hl:ks.length = vs.length) {e:MapEntry} (he:e ∈ es):∃ k,e.key = .int .u32 k:=by
 have h1:=keys_map h hl
 have h2:e.key ∈ u32s (ks.map fun (k:Nat)=>(k:Int)):=by rw [← h1]; exact List.mem_map.2 ⟨e,he,rfl⟩
 obtain ⟨k,_,hk⟩:=List.mem_map.1 h2
 exact ⟨k,hk.symm⟩
theorem left_mem {es:Array MapEntry} {seen:Array Nat} {e:MapEntry} (h:e ∈ (leftOf es seen).toList):e ∈ es.toList:=by
 unfold leftOf at h
 rw [Array.toList_filter] at h
 exact (List.mem_filter.1 h).1
theorem Mem.startX {w0:World} {X Z:Nat → Prop} {m:List Ent} (hsub:∀ b,X b → Z b) (hnd:(muts m).Nodup) (hown:∀ b ∈ muts m,b < w0.heap.size ∧ X b) (h:∀ e ∈ m,e.holds w0 Z):Mem w0 X Z m w0:=by
 refine ⟨Agr.refl _ _,hsub,hnd,fun b hb=>⟨(hown b hb).1,fun _=>(hown b hb).2⟩,fun e he=>?_⟩
 refine Ent.holds_move (fun i _ hz=>⟨rfl,?_⟩) (h e he) (fun _ _=>rfl)
 rintro (h1 | h1)
 ·exact hz h1.2
 ·exact hz (hsub i (hown i h1).2)
def EachOk (P:Program) (f:Nat):Prop:=∀ {w0:World} {Y X:Nat → Prop} {b off:Nat} {c:Value} {u:List (Nat × List UInt8)} {g:Nat} {lb:List Value} (J:Nat → Nat → World → Prop),
 Ea.TagsOk u → Cel w0 Y b off [c] → Rep w0 Y (ddTagMap u) [c] → (∀ k,k < w0.heap.size → X k → Y k) → cb0 P g = true → (∀ w1,Agr Nob w0 w1 → J w1.heap.size 0 w1) →
 (∀ S k p x w,u[k]? = some p → w0.heap.size ≤ S → S ≤ w.heap.size → J S k w → Rep w (Ea.Yw Y w0) (ddBs p.2) [x] →
  Ret P g ([.int .u32 (p.1:Int),x] ++ lb) w fun _ w'=>J S (k + 1) w' ∧ Agr (fun i=>(i < w0.heap.size ∧ X i) ∨ S ≤ i) w w') →
 Ret P f [.pointer (some ⟨b,off,none⟩),.func (.func g) #[] lb.toArray] w0 fun _ w'=>∃ S,w0.heap.size ≤ S ∧ S ≤ w'.heap.size ∧ J S u.length w' ∧ Agr (fun i=>i < w0.heap.size ∧ X i) w0 w'
end Go.Mk
namespace Go.Mk
open Go
section
variable {P:Program} {ops:Array Oper} {Q:Exit → Act → World → Prop} {rest:List Oper} {a:Act} {w:World} {n:Nat} {l:List (Nat × Value)}
variable {d:Nat} {ty:Nat} {ps:String} {af:Array Edge}
end
def tyArr (P:Program) (t:Nat):Option (Nat × Nat):=match P.underlying t with | some (.array n e)=>some (n,e) | _=>none
theorem tyArr_run {P:Program} {t n e:Nat} (h:tyArr P t = some (n,e)):P.underlying t = some (.array n e):=by
 unfold tyArr at h
 split at h
 ·rename_i n' e' hu
  simp only [Option.some.injEq,Prod.mk.injEq] at h
  obtain ⟨rfl,rfl⟩:=h
  exact hu
 ·cases h
section
variable {P:Program} {ops:Array Oper} {Q:Exit → Act → World → Prop} {rest:List Oper} {a:Act} {w:World} {n:Nat} {l:List (Nat × Value)}
variable {d:Nat} {ty:Nat} {ps:String} {af:Array Edge}
end
end Go.Mk
namespace Go.Mk
open Go
section
variable {P:Program} {ops:Array Oper} {Q:Exit → Act → World → Prop} {rest:List Oper} {a:Act} {w w0:World} {n:Nat} {l:List (Nat × Value)} {X Z:Nat → Prop} {m:List Ent}
variable {d:Nat} {ty:Nat} {ps:String} {af:Array Edge}
theorem o_sliceFrom {x h:Operand} {t e s len cap k:Nat} {bl:Bool} {kk:IntKind} {p:Option Addr} (hk:Kn n l a) (ht:tyElem P t = some e) (hs:tySz P e = some (bl,s)) (hx:ev l x = some (.slice p len cap)) (hh:ev l h = some (.int kk (k:Int))) (hkl:k ≤ len) (hd:Nat.blt d n = true)
  (K:∀ a',Kn n ((d,.slice (if cap = k then p else p.map (·.add (k * s))) (len - k) (cap - k)) :: l) a' → wpList P ops Q rest a' w) :
  wpList P ops Q (⟨some d,.slice t x (some h) none none,ty,ps,af,none⟩ :: rest) a w:=by
 refine step_runs hk rfl rfl hd ?_ K
 unfold Runs execOp
 simp [hk.eval hx,hk.eval hh,Instr.sliceAt,Instr.slice,run_underlying (tyElem_run ht),Instr.sliceBounds,Instr.sliceBound,asIntOf,hkl,sizeOf_run hs]
theorem o_slice3 {x h g:Operand} {t e s len cap k:Nat} {bl:Bool} {kk kk2:IntKind} {p:Option Addr} (hk:Kn n l a) (ht:tyElem P t = some e) (hs:tySz P e = some (bl,s)) (hx:ev l x = some (.slice p len cap)) (hh:ev l h = some (.int kk (k:Int))) (hg:ev l g = some (.int kk2 (k:Int))) (hkc:k ≤ cap) (hd:Nat.blt d n = true)
  (K:∀ a',Kn n ((d,.slice p k k) :: l) a' → wpList P ops Q rest a' w) :
  wpList P ops Q (⟨some d,.slice t x none (some h) (some g),ty,ps,af,none⟩ :: rest) a w:=by
 refine step_runs hk rfl rfl hd ?_ K
 unfold Runs execOp
 have hp:(if k = 0 then p else p.map (·.add 0)) = p:=by
  split
  ·rfl
  ·cases p <;> simp [Addr.add]
 simp [hk.eval hx,hk.eval hh,hk.eval hg,Instr.sliceAt,Instr.slice,run_underlying (tyElem_run ht),Instr.sliceBounds,Instr.sliceBound,asIntOf,hkc,sizeOf_run hs,hp]
theorem r_shl {x:Operand} {t t' s:Nat} {k yk:IntKind} {i c:Int} (hk:Kn n l a) (hx:ev l x = some (.int k i)) (hs:Nat.ble s k.bits = true) (hc:k.wrap (i * 2 ^ s) = c) :
  Runs P ⟨some d,.binOp .shl t x (.const (.int yk (s:Int))) t',ty,ps,af,none⟩ a w (.int k c) w:=by
 subst hc
 have hs':=Nat.le_of_ble_eq_true hs
 unfold Runs execOp
 have h1 : ¬ ((s:Int) < 0):=by omega
 have h2:min (s:Int).toNat k.bits = s:=by simp; omega
 have hy:a.eval (.const (.int yk (s:Int))) = .int yk (s:Int):=rfl
 simp only [Sem.run_bind,hk.eval hx,hy,eqGuard_at_int,Sem.run_pure,Result.andThen_ok,binOp,Op.shift,if_neg h1,h2]
theorem r_ibits {x y:Operand} {op:BinOp} {t t':Nat} {k:IntKind} {i j c:Int} (hk:Kn n l a) (hx:ev l x = some (.int k i)) (hy:ev l y = some (.int k j)) (hc:ibits op k i j = some c) :
  Runs P ⟨some d,.binOp op t x y t',ty,ps,af,none⟩ a w (.int k c) w:=by
 unfold Runs execOp
 simp only [Sem.run_bind,hk.eval hx,hk.eval hy,eqGuard_at_int,Sem.run_pure,Result.andThen_ok]
 cases op <;> simp only [ibits,Option.some.injEq,reduceCtorEq] at hc <;> subst hc <;> simp [binOp,Op.intBits]
end
def ddSrc:Option (List UInt8) → DD
 | none=>.v (.slice none 0 0)
 | some l=>.sl true 1 (l.map ddB)
theorem bv_drop (l:List UInt8) (k:Nat):bv (l.drop k) = (bv l).drop k:=by simp [bv,List.map_drop]
theorem bv_take (l:List UInt8) (k:Nat):bv (l.take k) = (bv l).take k:=by simp [bv,List.map_take]
theorem src_none {w:World} {Y:Nat → Prop} {v:Value} (h:Rep w Y (ddSrc none) [v]):v = .slice none 0 0:=rep_v_inv h
theorem src_some {w:World} {Y:Nat → Prop} {l:List UInt8} {v:Value} (h:Rep w Y (ddSrc (some l)) [v]):(l = [] ∧ ∃ a,v = .slice (some a) 0 0) ∨ ∃ b off cap,v = .slice (some ⟨b,off,none⟩) l.length cap ∧ l.length ≤ cap ∧ Cel w Y b off (bv l):=by
 simp only [ddSrc,Rep,List.map_eq_nil_iff,List.length_map,List.cons.injEq,and_true] at h
 rcases h with ⟨h1,p,h2,h3⟩ | ⟨b,off,cap,cs,h1,h2,h3,h4⟩
 ·left
  cases p with
  | none=>exact absurd rfl (h3 trivial)
  | some a=>exact ⟨h1,a,h2⟩
 ·right
  have h5:=repE_bs h4
  subst h5
  exact ⟨b,off,cap,h1,h2,h3⟩
theorem src_mk {w:World} {Y:Nat → Prop} {l:List UInt8} {b off cap:Nat} (h2:l.length ≤ cap) (h3:Cel w Y b off (bv l)):Rep w Y (ddSrc (some l)) [.slice (some ⟨b,off,none⟩) l.length cap]:=by
 simp only [ddSrc,Rep]
 exact .inr ⟨b,off,cap,bv l,by rw [List.length_map],by rw [List.length_map]; exact h2,h3,repE_bv l⟩
theorem src_mk0 {w:World} {Y:Nat → Prop} (a:Addr):Rep w Y (ddSrc (some [])) [.slice (some a) 0 0]:=by
 simp only [ddSrc,Rep]
 exact .inl ⟨rfl,some a,rfl,fun _ h=>by cases h⟩
theorem src_form {w:World} {Y:Nat → Prop} {o:Option (List UInt8)} {v:Value} (h:Rep w Y (ddSrc o) [v]):∃ p cap,v = .slice p (o.getD []).length cap ∧ (o.getD []).length ≤ cap:=by
 cases o with
 | none=>exact ⟨none,0,src_none h,Nat.le_refl _⟩
 | some l =>
  rcases src_some h with ⟨rfl,a,rfl⟩ | ⟨b,off,cap,rfl,h2,_⟩
  ·exact ⟨some a,0,rfl,Nat.le_refl _⟩
  ·exact ⟨_,cap,rfl,h2⟩
theorem src_from {w:World} {Y:Nat → Prop} {o:Option (List UInt8)} {p:Option Addr} {len cap k:Nat} (h:Rep w Y (ddSrc o) [.slice p len cap]) (hk:k ≤ len):Rep w Y (ddSrc (o.map (List.drop k))) [.slice (if cap = k then p else p.map (·.add (k * 1))) (len - k) (cap - k)]:=by
 cases o with
 | none =>
  have h1:=src_none h
  simp only [Value.slice.injEq] at h1
  obtain ⟨rfl,rfl,rfl⟩:=h1
  obtain rfl:k = 0:=by omega
  exact rep_v _
 | some l =>
  rcases src_some h with ⟨rfl,a,h1⟩ | ⟨b,off,cap',h1,h2,h3⟩
  ·simp only [Value.slice.injEq] at h1
   obtain ⟨rfl,rfl,rfl⟩:=h1
   obtain rfl:k = 0:=by omega
   exact src_mk0 a
  ·simp only [Value.slice.injEq] at h1
   obtain ⟨rfl,rfl,rfl⟩:=h1
   have hl:(l.drop k).length = l.length - k:=List.length_drop
   simp only [Option.map_some]
   rw [← hl]
   by_cases hc:cap = k
   ·rw [if_pos hc]
    refine src_mk (by omega) ?_
    have:l.drop k = []:=List.drop_of_length_le (by omega)
    rw [this]
    intro j u hj
    simp [bv] at hj
   ·rw [if_neg hc]
    have e:(⟨b,off,none⟩ : Addr).add (k * 1) = ⟨b,off + k,none⟩:=by simp [Addr.add]
    simp only [e]
    refine src_mk (by omega) ?_
    rw [bv_drop]
    intro j u hj
    rw [List.getElem?_drop] at hj
    obtain ⟨h4,h5⟩:=h3 (k + j) u hj
    exact ⟨h4,by rw [Nat.add_assoc]; exact h5⟩
theorem src_span {w:World} {Y:Nat → Prop} {o:Option (List UInt8)} {p:Option Addr} {len cap k:Nat} (h:Rep w Y (ddSrc o) [.slice p len cap]) (hk:k ≤ len):Rep w Y (ddSrc (o.map (List.take k))) [.slice p k k]:=by
 cases o with
 | none =>
  have h1:=src_none h
  simp only [Value.slice.injEq] at h1
  obtain ⟨rfl,rfl,rfl⟩:=h1
  obtain rfl:k = 0:=by omega
  exact rep_v _
 | some l =>
  rcases src_some h with ⟨rfl,a,h1⟩ | ⟨b,off,cap',h1,h2,h3⟩
  ·simp only [Value.slice.injEq] at h1
   obtain ⟨rfl,rfl,rfl⟩:=h1
   obtain rfl:k = 0:=by omega
   exact src_mk0 a
  ·simp only [Value.slice.injEq] at h1
   obtain ⟨rfl,rfl,rfl⟩:=h1
   have hl:(l.take k).length = k:=by rw [List.length_take]; omega
   have:=src_mk (w:=w) (Y:=Y) (l:=l.take k) (b:=b) (off:=off) (cap:=k) (by omega) (by
    rw [bv_take]
    intro j u hj
    rw [List.getElem?_take] at hj
    split at hj
    ·exact h3 j u hj
    ·cases hj)
   rw [hl] at this
   exact this
theorem src_bytes {w:World} {Y:Nat → Prop} {o:Option (List UInt8)} {v:Value} (h:Rep w Y (ddSrc o) [v]):Rep w Y (ddBs (o.getD [])) [v]:=by
 cases o with
 | none =>
  have h':=src_none h
  subst h'
  simp [Rep,ddBs]
 | some l =>
  simp only [ddSrc,Rep,Option.getD_some,ddBs] at h ⊢
  rcases h with ⟨h1,p,h2,_⟩ | h
  ·exact .inl ⟨h1,p,h2,fun hf=>by cases hf⟩
  ·exact .inr h
theorem src_field {w:World} {Y:Nat → Prop} {o:Option (List UInt8)} {v:Value} (h:Rep w Y (ddSrc o) [v]) {nu:Int} {st:T → DD}:Rep w Y (ddVal 9 nu st (ofSpan o)) [v]:=by
 cases o with
 | none=>exact h
 | some l=>exact h
def RdrAt (w:World) (Y:Nat → Prop) (rb e:Nat) (s:RS):Prop:=∃ v,w.heap[rb]? = some (.cells #[v,.bool s.bad] e (0,0)) ∧ Rep w Y (ddSrc s.src) [v]
theorem wrap_nat {k:IntKind} (hs:k.signed = false) {n:Nat} (h:n < 2 ^ k.bits):k.wrap (n:Int) = (n:Int):=by
 have h2:((n:Int)) % (2 ^ k.bits:Nat) = n:=Int.emod_eq_of_lt (by omega) (by exact_mod_cast h)
 cases k <;> first | (simp [IntKind.signed] at hs; done) | (simp only [IntKind.wrap,IntKind.signed,IntKind.bits] at *; simp at *; omega)
theorem or_disj {k:IntKind} (hs:k.signed = false) (x y s:Nat) (hx:x < 2 ^ s) (h:x + y * 2 ^ s < 2 ^ k.bits):ibits .or k (x:Int) ((y * 2 ^ s:Nat):Int) = some ((x + y * 2 ^ s:Nat):Int):=by
 have h1:(BitVec.ofInt k.bits (x:Int) ||| BitVec.ofInt k.bits ((y * 2 ^ s:Nat):Int)).toNat = x + y * 2 ^ s:=by
  rw [BitVec.toNat_or,BitVec.toNat_ofInt,BitVec.toNat_ofInt]
  have e1:((x:Int) % ((2 ^ k.bits:Nat):Int)).toNat = x:=by
   rw [Int.emod_eq_of_lt (by omega) (by exact_mod_cast (by omega:x < 2 ^ k.bits))]; simp
  have e2:(((y * 2 ^ s:Nat):Int) % ((2 ^ k.bits:Nat):Int)).toNat = y * 2 ^ s:=by
   rw [Int.emod_eq_of_lt (by omega) (by exact_mod_cast (by omega:y * 2 ^ s < 2 ^ k.bits))]; exact Int.toNat_natCast _
  rw [e1,e2,Nat.or_comm,Nat.mul_comm,← Nat.two_pow_add_eq_or_of_lt hx,Nat.add_comm]
 show some (k.wrap ((BitVec.ofInt k.bits (x:Int) ||| BitVec.ofInt k.bits ((y * 2 ^ s:Nat):Int)).toNat:Int)) = _
 rw [h1,wrap_nat hs h]
theorem be_take2 {l:List UInt8} (h : 2 ≤ l.length):be (l.take 2) = (l.getD 1 0).toNat + (l.getD 0 0).toNat * 2 ^ 8:=by
 match l,h with
 | a0 :: a1 :: r,_=>simp only [List.take_succ_cons,List.take_zero,be,List.length_cons,List.length_nil,List.getD_cons_zero,List.getD_cons_succ]; omega
theorem be_take4 {l:List UInt8} (h : 4 ≤ l.length):be (l.take 4) = (l.getD 3 0).toNat + (l.getD 2 0).toNat * 2 ^ 8 + (l.getD 1 0).toNat * 2 ^ 16 + (l.getD 0 0).toNat * 2 ^ 24:=by
 match l,h with
 | a0 :: a1 :: a2 :: a3 :: r,_=>simp only [List.take_succ_cons,List.take_zero,be,List.length_cons,List.length_nil,List.getD_cons_zero,List.getD_cons_succ]; omega
theorem be_take8 {l:List UInt8} (h : 8 ≤ l.length):be (l.take 8) = (l.getD 7 0).toNat + (l.getD 6 0).toNat * 2 ^ 8 + (l.getD 5 0).toNat * 2 ^ 16 + (l.getD 4 0).toNat * 2 ^ 24 + (l.getD 3 0).toNat * 2 ^ 32 + (l.getD 2 0).toNat * 2 ^ 40 + (l.getD 1 0).toNat * 2 ^ 48 + (l.getD 0 0).toNat * 2 ^ 56:=by
 match l,h with
 | a0 :: a1 :: a2 :: a3 :: a4 :: a5 :: a6 :: a7 :: r,_=>simp only [List.take_succ_cons,List.take_zero,be,List.length_cons,List.length_nil,List.getD_cons_zero,List.getD_cons_succ]; omega
theorem bv_get {l:List UInt8} {j:Nat} (h:j < l.length):(bv l)[j]? = some (.int .u8 (((l.getD j 0).toNat:Nat):Int)):=by
 simp [bv,List.getElem?_map,List.getElem?_eq_getElem h,List.getD_eq_getElem?_getD]
theorem shl_cast {n s:Nat}:((n * 2 ^ s:Nat):Int) = (n:Int) * 2 ^ s:=by simp
theorem RdrAt.lt {w:World} {Y:Nat → Prop} {rb e:Nat} {s:RS} (h:RdrAt w Y rb e s):rb < w.heap.size:=by
 obtain ⟨v,h1,_⟩:=h
 exact (Array.getElem?_eq_some_iff.1 h1).1
section
variable {w0 w w':World} {X Z:Nat → Prop} {m:List Ent}
theorem Mem.blkCall2 (h:Mem w0 X Z m w) {i g e:Nat} {cs cs':List Value} (hi:entAt m i = some (.blk g cs e)) (hp:Agr (fun k=>k = g) w w') (hb:w'.heap[g]? = some (.cells cs'.toArray e (0,0))) {d d2:DD} {c c2:List Value}
  (hr:Rep w' (fun b=>b < w.heap.size ∧ Yof w0 Z m b) d c) (hr2:Rep w' (fun b=>b < w.heap.size ∧ Yof w0 Z m b) d2 c2):Mem w0 X Z (.rep d2 c2 :: .rep d c :: putAt m i (.blk g cs' e)) w':=by
 have h2:=h.blkCall hi hp hb hr
 have hmu:muts (putAt m i (.blk g cs' e)) = muts m:=muts_putAt hi rfl
 refine h2.add rfl (Rep.move (fun _ _ hy=>⟨rfl,fun hz=>hy ⟨Yof.lt h ?_,?_⟩⟩) d2 c2 hr2)
 ·simpa [Yof,hmu,muts,Ent.mut] using hz
 ·simpa [Yof,hmu,muts,Ent.mut] using hz
end
end Go.Mk
namespace Go.Mk.Ea
open Go Go.Mk
section
variable {cx:Cx} {ls:List LS} {cur:Nat} {e:Nat → Lv} {Y:Nat → Prop} {w:World} {ro:Value} {lb m f:Nat} {ys:List Value}
end
end Go.Mk.Ea
namespace Go.Mk.Ea
open Go Go.Mk
def eos (cx:Cx) (e:Lv) (l:List E):List UInt8:=l.flatMap (eo e.fs cx.V cx.flex e.t)
structure Base (cx:Cx) (ls:List LS) (cur:Nat) (e:Nat → Lv) (w0:World) (Y:Nat → Prop) (v0:Value) (n:Nat) (pre:List UInt8) (ex:List E):Prop where
 cfg:CfgOk cx.P cx.u8 cx.cfg
 data:Data cx ls e Y w0
 cov:Cov Y v0
 room:n + (pre ++ eos cx (e cur) ex).length ≤ room
section
variable {cx:Cx} {ls:List LS} {cur:Nat} {e:Nat → Lv} {w0:World} {Y:Nat → Prop} {v0:Value} {n:Nat} {xs:List Value} {pre:List UInt8} {ex:List E}
variable {ops:Array Oper} {Q:Exit → Act → World → Prop} {rest:List Oper} {a:Act} {w:World}
end
end Go.Mk.Ea
namespace Go.Mk.Ea
open Go Go.Mk
section
variable {cx:Cx} {ls:List LS} {cur:Nat} {e:Nat → Lv} {w0:World} {Y:Nat → Prop} {v0:Value} {n:Nat} {xs:List Value} {pre:List UInt8} {ex:List E}
end
end Go.Mk.Ea
namespace Go.Mk.Ea
open Go Go.Mk
section
variable {cx:Cx} {w0:World} {Y:Nat → Prop} {v0:Value} {n:Nat} {xs:List Value}
end
section
variable {cx:Cx} {w0:World} {Y:Nat → Prop} {v0:Value} {n:Nat} {xs:List Value}
end
theorem all_range {N:Nat} {p:Nat → Bool} (h:(List.range N).all p = true) {k:Nat} (hk:k < N):p k = true:=List.all_eq_true.1 h k (List.mem_range.2 hk)
end Go.Mk.Ea
namespace Go.Mk.Er
open Go Go.Mk
inductive It
 | fld (i:Nat) | tags
def It.is:It → It → Bool
 | .fld i,.fld j=>Nat.beq i j
 | .tags,.tags=>true
 | _,_=>false
def itF (V:Int):List Fld → Nat → List It → List It
 | [],_,l=>l
 | f :: r,i,l=>match f.has V with
  | true=>.fld i :: itF V r (i + 1) l
  | false=>itF V r (i + 1) l
def its (fs:List Fld) (V:Int) (ft:Bool):List It:=itF V fs 0 (match ft with
 | true=>[.tags]
 | false=>[])
structure G where
 q:Nat → T
 u:List (Nat × List UInt8)
def G.set (g:G) (i:Nat) (t:T):G:=⟨fun j=>if j = i then t else g.q j,g.u⟩
def rdI (fs:List Fld) (V:Int) (flex:Bool) (g:G) (s:RS):It → Option (G × RS)
 | .fld i=>(rdF (fs.getD i FNIL) V flex s).map fun p=>(g.set i p.1,p.2)
 | .tags=>some (⟨g.q,(rdTags s).1⟩,(rdTags s).2)
def runI (fs:List Fld) (V:Int) (flex:Bool):List It → G → RS → Option (G × RS)
 | [],g,s=>some (g,s)
 | i :: r,g,s=>(rdI fs V flex g s i).bind fun p=>runI fs V flex r p.1 p.2
def qs (V:Int) (q:Nat → T):List Fld → Nat → List T
 | [],_=>[]
 | f :: r,i=>(if f.has V then q i else dfF f) :: qs V q r (i + 1)
section
variable {fs0:List Fld} {V:Int} {flex:Bool}
theorem runI_flds:∀ (fs:List Fld) (i:Nat) (l:List It) (g:G) (s:RS),(∀ j,fs[j]? = fs0[i + j]?) →
  (∀ l' s',rdFs fs V flex s = some (l',s') → ∃ g',runI fs0 V flex (itF V fs i l) g s = runI fs0 V flex l g' s' ∧ g'.u = g.u ∧ qs V g'.q fs i = l' ∧ ∀ j,j < i → g'.q j = g.q j) ∧
  (rdFs fs V flex s = none → runI fs0 V flex (itF V fs i l) g s = none)
 | [],i,l,g,s,_=>by
  refine ⟨fun l' s' h=>?_,fun h=>by simp [rdFs] at h⟩
  simp only [rdFs,Option.some.injEq,Prod.mk.injEq] at h
  obtain ⟨rfl,rfl⟩:=h
  exact ⟨g,rfl,rfl,rfl,fun _ _=>rfl⟩
 | f :: r,i,l,g,s,hj=>by
  have h0:=hj 0
  simp only [List.getElem?_cons_zero,Nat.add_zero] at h0
  have hg:fs0.getD i FNIL = f:=by rw [List.getD_eq_getElem?_getD,← h0]; rfl
  have hj':∀ j,r[j]? = fs0[i + 1 + j]?:=fun j=>by have:=hj (j + 1); simp only [List.getElem?_cons_succ] at this; rw [this]; congr 1; omega
  simp only [rdFs,itF]
  cases hh:f.has V with
  | false =>
   simp only [Bool.false_eq_true,if_false]
   obtain ⟨k1,k2⟩:=runI_flds r (i + 1) l g s hj'
   constructor
   ·intro l' s' h
    cases hr:rdFs r V flex s with
    | none=>rw [hr] at h; simp at h
    | some p =>
     rw [hr] at h
     simp only [Option.some.injEq,Prod.mk.injEq] at h
     obtain ⟨rfl,rfl⟩:=h
     obtain ⟨g',e1,e2,e3,e4⟩:=k1 p.1 p.2 (by rw [hr])
     exact ⟨g',e1,e2,by simp only [qs,hh,Bool.false_eq_true,if_false,e3],fun j hj=>e4 j (by omega)⟩
   ·intro h
    cases hr:rdFs r V flex s with
    | none=>exact k2 hr
    | some p=>rw [hr] at h; simp at h
  | true =>
   simp only [if_true,runI,rdI]
   rw [hg]
   cases hf:rdF f V flex s with
   | none=>exact ⟨fun l' s' h=>by simp at h,fun _=>rfl⟩
   | some p =>
    obtain ⟨t,s1⟩:=p
    simp only [Option.map_some,Option.bind_some]
    obtain ⟨k1,k2⟩:=runI_flds r (i + 1) l (g.set i t) s1 hj'
    constructor
    ·intro l' s' h
     cases hr:rdFs r V flex s1 with
     | none=>rw [hr] at h; simp at h
     | some p =>
      rw [hr] at h
      simp only [Option.some.injEq,Prod.mk.injEq] at h
      obtain ⟨rfl,rfl⟩:=h
      obtain ⟨g',e1,e2,e3,e4⟩:=k1 p.1 p.2 (by rw [hr])
      refine ⟨g',e1,e2,?_,fun j hj=>?_⟩
      ·simp only [qs,hh,if_true,e3]
       rw [e4 i (by omega)]
       simp [G.set]
      ·rw [e4 j (by omega)]
       show (if j = i then t else g.q j) = _
       rw [if_neg (by omega)]
    ·intro h
     cases hr:rdFs r V flex s1 with
     | none=>exact k2 hr
     | some p=>rw [hr] at h; simp at h
theorem runI_part (g:G) (s:RS) (fs:List Fld) :
  (∀ g' s',runI fs V flex (its fs V flex) g s = some (g',s') → rdP fs V flex s = some (.mk 0 [] false (qs V g'.q fs 0) (if flex then g'.u else []),s')) ∧
  (runI fs V flex (its fs V flex) g s = none → rdP fs V flex s = none):=by
 have key:=runI_flds (fs0:=fs) (V:=V) (flex:=flex) fs 0 (match flex with
  | true=>[.tags]
  | false=>[]) g s (fun j=>by simp)
 unfold its rdP rdPart
 cases hr:rdFs fs V flex s with
 | none=>exact ⟨fun g' s' h=>by rw [key.2 hr] at h; simp at h,fun _=>rfl⟩
 | some p =>
  obtain ⟨l,s1⟩:=p
  obtain ⟨g1,e1,e2,e3,_⟩:=key.1 l s1 hr
  rw [e1]
  subst e3
  cases flex with
  | true =>
   simp only [runI,rdI,Option.bind_some,if_true]
   exact ⟨fun g' s' h=>by
    simp only [Option.some.injEq,Prod.mk.injEq] at h
    obtain ⟨rfl,rfl⟩:=h
    rfl,fun h=>by simp at h⟩
  | false =>
   simp only [runI,Bool.false_eq_true,if_false]
   exact ⟨fun g' s' h=>by
    simp only [Option.some.injEq,Prod.mk.injEq] at h
    obtain ⟨rfl,rfl⟩:=h
    rfl,fun h=>by simp at h⟩
end
inductive AC
 | k (v:Value)
 | got (i:Nat)
 | gotu (i j:Nat)
 | tags
 | sub (i:Nat) (a:AC)
def vis:Value → Value → Bool
 | .bool a,.bool b=>a == b
 | .int p a,.int q b=>decide (p = q) && decide (a = b)
 | .string a,.string b=>decide (a = b)
 | .slice none 0 0,.slice none 0 0=>true
 | .pointer none,.pointer none=>true
 | .map none,.map none=>true
 | _,_=>false
theorem vis_eq {a b:Value} (h:vis a b = true):a = b:=by
 unfold vis at h
 split at h
 ·rw [eq_of_beq h]
 ·simp only [Bool.and_eq_true,decide_eq_true_eq] at h; rw [h.1,h.2]
 ·rw [of_decide_eq_true h]
 ·rfl
 ·rfl
 ·rfl
 ·cases h
def AC.is:AC → AC → Bool
 | .k a,.k b=>vis a b
 | .got i,.got j=>Nat.beq i j
 | .gotu i j,.gotu i' j'=>Nat.beq i i' && Nat.beq j j'
 | .tags,.tags=>true
 | .sub i a,.sub j b=>Nat.beq i j && AC.is a b
 | _,_=>false
theorem AC.is_eq:∀ {a b:AC},AC.is a b = true → a = b:=fun {a}=>by
 induction a with
 | k v =>
  intro b h
  cases b <;> first | (simp only [AC.is] at h; rw [vis_eq h]; done) | (simp [AC.is] at h; done)
 | got i =>
  intro b h
  cases b <;> first | (simp only [AC.is] at h; rw [Nat.eq_of_beq_eq_true h]; done) | (simp [AC.is] at h; done)
 | gotu i j =>
  intro b h
  cases b <;> first | (simp only [AC.is,Bool.and_eq_true] at h; rw [Nat.eq_of_beq_eq_true h.1,Nat.eq_of_beq_eq_true h.2]; done) | (simp [AC.is] at h; done)
 | tags =>
  intro b h
  cases b <;> first | rfl | (simp [AC.is] at h; done)
 | sub i a ih =>
  intro b h
  cases b <;> first | (simp only [AC.is,Bool.and_eq_true] at h; rw [Nat.eq_of_beq_eq_true h.1,ih h.2]; done) | (simp [AC.is] at h; done)
def sameA:List AC → List AC → Bool
 | [],[]=>true
 | a :: r,b :: s=>AC.is a b && sameA r s
 | _,_=>false
theorem sameA_eq:∀ {l m:List AC},sameA l m = true → l = m
 | [],[],_=>rfl
 | a :: r,b :: s,h=>by
  simp only [sameA,Bool.and_eq_true] at h
  rw [AC.is_eq h.1,sameA_eq h.2]
 | [],_ :: _,h=>by simp [sameA] at h
 | _ :: _,[],h=>by simp [sameA] at h
def defC (f:Fld):List Value:=match f.kind with
 | 0=>[.bool (f.df % 2 == 1)]
 | 1=>[.int .i8 (IntKind.i8.wrap f.df)]
 | 2=>[.int .i16 (IntKind.i16.wrap f.df)]
 | 3=>[.int .i32 (IntKind.i32.wrap f.df)]
 | 4=>[.int .i64 f.df]
 | 5=>[.int .u16 (IntKind.u16.wrap f.df)]
 | 7=>List.replicate 16 (.int .u8 0)
 | 8=>if 0 ≤ f.nu then [.pointer none] else [.string (bs [])]
 | 9=>[.slice none 0 0]
 | 10=>[.pointer none]
 | _=>[.slice none 0 0]
def defOk (f:Fld):Bool:=match f.kind with
 | 6=>false
 | 10=>decide (0 ≤ f.nu)
 | k=>Nat.ble k 11
def gus (i:Nat):Nat → List AC
 | 0=>[]
 | k + 1=>.gotu i (15 - k) :: gus i k
def acF0 (V:Int):List Fld → Nat → List AC → List AC
 | [],_,l=>l
 | f :: r,i,l=>match f.has V with
  | true=>match f.kind with
   | 7=>gus i 16 ++ acF0 V r (i + 1) l
   | _=>.got i :: acF0 V r (i + 1) l
  | false=>(defC f).map AC.k ++ acF0 V r (i + 1) l
def okAF0 (V:Int) (f:Fld):Bool:=match f.has V with
 | true=>match f.kind with
  | 10=>decide (0 ≤ f.nu)
  | k=>Nat.ble k 11
 | false=>defOk f
def acS0 (fs:List Fld) (tg:Bool) (V:Int) (flex:Bool):List AC:=acF0 V fs 0 (match tg,flex with
 | true,true=>[.tags]
 | true,false=>[.k (.map none)]
 | false,_=>[])
def gT (t:T):G:=⟨fun j=>t.l.getD j T.nil,t.u⟩
def ACR (w:World) (Y:Nat → Prop):List Fld → Bool → G → AC → Value → Prop
 | _,_,_,.k v,x=>x = v
 | fs,tg,g,.got i,x=>Rep w Y (ddF (fs.getD i FNIL) tg (g.q i)) [x]
 | _,_,g,.gotu i j,x=>(bv (sixteen (g.q i).s))[j]? = some x
 | _,_,g,.tags,x=>Rep w Y (ddTagMap g.u) [x]
 | fs,tg,g,.sub i a,x=>ACR w Y (fs.getD i FNIL).sub tg (gT (g.q i)) a x
def ACs (w:World) (Y:Nat → Prop) (fs:List Fld) (tg:Bool) (g:G):List AC → List Value → Prop
 | [],[]=>True
 | a :: r,x :: s=>ACR w Y fs tg g a x ∧ ACs w Y fs tg g r s
 | _,_=>False
section
variable {w w':World} {Y Y':Nat → Prop} {fs:List Fld} {tg:Bool} {g:G}
theorem ACR.move (hm:∀ i,i < w.heap.size → ¬ Y i → w'.heap[i]? = w.heap[i]? ∧ ¬ Y' i):∀ {a:AC} {fs:List Fld} {tg:Bool} {g:G} {x:Value},ACR w Y fs tg g a x → ACR w' Y' fs tg g a x
 | .k _v,_,_,_,_x,h=>h
 | .got _i,_,_,_,_x,h=>Rep.move hm _ _ h
 | .gotu _i _j,_,_,_,_x,h=>h
 | .tags,_,_,_,_x,h=>Rep.move hm _ _ h
 | .sub i a,fs,_,g,x,h=>ACR.move (a:=a) (fs:=(fs.getD i FNIL).sub) (g:=gT (g.q i)) (x:=x) hm h
theorem ACs.move (hm:∀ i,i < w.heap.size → ¬ Y i → w'.heap[i]? = w.heap[i]? ∧ ¬ Y' i):∀ {l:List AC} {c:List Value},ACs w Y fs tg g l c → ACs w' Y' fs tg g l c
 | [],[],_=>trivial
 | _a :: _r,_x :: _s,h=>⟨ACR.move hm h.1,ACs.move hm h.2⟩
 | [],_ :: _,h=>h.elim
 | _ :: _,[],h=>h.elim
theorem ACs.length:∀ {l:List AC} {c:List Value},ACs w Y fs tg g l c → l.length = c.length
 | [],[],_=>rfl
 | a :: r,x :: s,h=>by simp [ACs.length h.2]
 | [],_ :: _,h=>h.elim
 | _ :: _,[],h=>h.elim
theorem ACs.app:∀ {l l':List AC} {c:List Value},ACs w Y fs tg g (l ++ l') c → ∃ c1 c2,c = c1 ++ c2 ∧ ACs w Y fs tg g l c1 ∧ ACs w Y fs tg g l' c2
 | [],l',c,h=>⟨[],c,rfl,trivial,h⟩
 | a :: r,l',x :: s,h=>by
  obtain ⟨c1,c2,rfl,h1,h2⟩:=ACs.app h.2
  exact ⟨x :: c1,c2,rfl,⟨h.1,h1⟩,h2⟩
 | a :: r,l',[],h=>h.elim
theorem ACs.consts:∀ {l:List Value} {c:List Value},ACs w Y fs tg g (l.map AC.k) c → c = l
 | [],[],_=>rfl
 | a :: r,x :: s,h=>by rw [h.1,ACs.consts (l:=r) h.2]
 | [],_ :: _,h=>h.elim
 | _ :: _,[],h=>h.elim
theorem gus_spec {i:Nat}:∀ {k:Nat} {c:List Value},k ≤ 16 → ACs w Y fs tg g (gus i k) c → c = (bv (sixteen (g.q i).s)).drop (16 - k)
 | 0,[],_,_=>by
  have:(bv (sixteen (g.q i).s)).length = 16:=by rw [bv_length,sixteen_length]
  rw [List.drop_of_length_le (by omega)]
 | k + 1,x :: s,hk,h=>by
  have h2:=gus_spec (k:=k) (by omega) h.2
  have h1:(bv (sixteen (g.q i).s))[15 - k]? = some x:=h.1
  rw [h2]
  have e : 16 - (k + 1) = 15 - k:=by omega
  rw [e,List.drop_eq_getElem_cons (List.getElem?_eq_some_iff.1 h1).1,(List.getElem?_eq_some_iff.1 h1).2]
  congr 2
  omega
 | 0,_ :: _,_,h=>h.elim
 | k + 1,[],_,h=>h.elim
theorem rep_bytes (s:List UInt8):RepL w Y (s.map ddB) (bv s):=by
 induction s with
 | nil=>simp [bv,RepL]
 | cons b r ih=>exact RepL.cons1 (rep_v _) ih
theorem defC_rep {f:Fld} (h:defOk f = true):Rep w Y (ddF f tg (dfF f)) (defC f):=by
 cases f with
 | mk kind fr to nu tag df of sub =>
  unfold ddF
  match kind,h with
  | 0,_=>rw [if_neg (by decide)]; exact rep_v _
  | 1,_=>rw [if_neg (by decide)]; exact rep_v _
  | 2,_=>rw [if_neg (by decide)]; exact rep_v _
  | 3,_=>rw [if_neg (by decide)]; exact rep_v _
  | 4,_=>rw [if_neg (by decide)]; exact rep_v _
  | 5,_=>rw [if_neg (by decide)]; exact rep_v _
  | 6,h=>simp [defOk,Fld.kind] at h
  | 7,_ =>
   rw [if_neg (by decide)]
   exact rep_agg (rep_bytes (List.replicate 16 0))
  | 8,_ =>
   rw [if_neg (by decide)]
   show Rep w Y (if 0 ≤ nu then (if decide (0 ≤ nu) = true then .v (.pointer none) else _) else .v (.string (bs []))) (if 0 ≤ nu then [.pointer none] else [.string (bs [])])
   by_cases h0 : 0 ≤ nu
   ·rw [if_pos h0,if_pos h0,if_pos (by simpa using h0)]; exact rep_v _
   ·rw [if_neg h0,if_neg h0]; exact rep_v _
  | 9,_=>rw [if_neg (by decide)]; exact rep_v _
  | 10,h =>
   rw [if_neg (by decide)]
   have h0 : 0 ≤ nu:=of_decide_eq_true (show decide (0 ≤ nu) = true from h)
   have e:dfF (.mk 10 fr to nu tag df of sub) = ofNil:=by unfold dfF; simp [h0]
   rw [e]
   show Rep w Y (if 0 ≤ nu then (if ofNil.z = true then .v (.pointer none) else _) else _) [.pointer none]
   rw [if_pos h0]
   exact rep_v _
  | 11,_=>rw [if_pos rfl]; exact rep_v _
  | k + 12,h=>simp [defOk,Fld.kind] at h
end
theorem acF0_rep {w:World} {Y:Nat → Prop} {fs0:List Fld} {tg:Bool} {g:G} {V:Int} {tl:List AC} {dd:List DD}:∀ (fs:List Fld) (i:Nat) {c:List Value} (pre:List T),(∀ j,fs[j]? = fs0[i + j]?) → (fs.all (okAF0 V)) = true → pre.length = i → ACs w Y fs0 tg g (acF0 V fs i tl) c →
  (∀ {c},ACs w Y fs0 tg g tl c → RepL w Y dd c) → RepL w Y (ddFs fs tg (pre ++ qs V g.q fs i) i ++ dd) c
 | [],i,c,pre,_,_,_,h,ht=>by simpa [ddFs,acF0] using ht h
 | f :: r,i,c,pre,hj,hok,hi,h,ht=>by
  have h0:=hj 0
  simp only [List.getElem?_cons_zero,Nat.add_zero] at h0
  have hg:fs0.getD i FNIL = f:=by rw [List.getD_eq_getElem?_getD,← h0]; rfl
  have hj':∀ j,r[j]? = fs0[i + 1 + j]?:=fun j=>by have:=hj (j + 1); simp only [List.getElem?_cons_succ] at this; rw [this]; congr 1; omega
  simp only [List.all_cons,Bool.and_eq_true] at hok
  simp only [ddFs,qs,List.cons_append,RepL]
  have e:∀ t:T,(pre ++ t :: qs V g.q r (i + 1)).getD i T.nil = t:=by subst hi; intro t; simp
  rw [e]
  have step:∀ (t:T) {c1 c2:List Value},Rep w Y (ddF f tg t) c1 → ACs w Y fs0 tg g (acF0 V r (i + 1) tl) c2 → ∃ a b,c1 ++ c2 = a ++ b ∧ Rep w Y (ddF f tg t) a ∧ RepL w Y (ddFs r tg (pre ++ t :: qs V g.q r (i + 1)) (i + 1) ++ dd) b:=by
   intro t c1 c2 h1 h2
   have:=acF0_rep r (i + 1) (pre ++ [t]) hj' hok.2 (by simp [hi]) h2 ht
   simp only [List.append_assoc,List.singleton_append] at this
   exact ⟨c1,c2,rfl,h1,this⟩
  unfold acF0 at h
  cases hh:f.has V with
  | false =>
   rw [hh] at h
   simp only at h
   obtain ⟨c1,c2,rfl,h1,h2⟩:=ACs.app h
   rw [ACs.consts h1]
   simp only [Bool.false_eq_true,if_false]
   refine step _ (defC_rep ?_) h2
   have:=hok.1
   unfold okAF0 at this
   rw [hh] at this
   exact this
  | true =>
   rw [hh] at h
   simp only [if_true] at h ⊢
   split at h
   ·rename_i hk
    obtain ⟨c1,c2,rfl,h1,h2⟩:=ACs.app h
    have h3:=gus_spec (Nat.le_refl 16) h1
    rw [Nat.sub_self,List.drop_zero] at h3
    refine step _ ?_ h2
    rw [h3]
    cases f with
    | mk kind fr to nu tag df of sub =>
     have hk':kind = 7:=hk
     subst hk'
     unfold ddF
     rw [if_neg (by decide)]
     exact rep_agg (rep_bytes _)
   ·match c,h with
    | x :: c2,h =>
     refine step _ (c1:=[x]) ?_ h.2
     have h1:Rep w Y (ddF (fs0.getD i FNIL) tg (g.q i)) [x]:=h.1
     rw [hg] at h1
     exact h1
theorem acS0_rep {w:World} {Y:Nat → Prop} {fs:List Fld} {tg flex:Bool} {g:G} {V:Int} {c:List Value} (hok:fs.all (okAF0 V) = true) (hft:(!flex || tg) = true) (h:ACs w Y fs tg g (acS0 fs tg V flex) c) :
  Rep w Y (ddS fs tg (.mk 0 [] false (qs V g.q fs 0) (if flex then g.u else []))) c:=by
 unfold acS0 at h
 have key:∀ (tl:List AC),(∀ {c:List Value},ACs w Y fs tg g tl c → RepL w Y (if tg then [ddTagMap (if flex then g.u else [])] else []) c) → ACs w Y fs tg g (acF0 V fs 0 tl) c → Rep w Y (ddS fs tg (.mk 0 [] false (qs V g.q fs 0) (if flex then g.u else []))) c:=fun tl ht hc=>by
  have:=acF0_rep (fs0:=fs) (tl:=tl) (dd:=if tg then [ddTagMap (if flex then g.u else [])] else []) fs 0 (c:=c) [] (fun j=>by simp) hok rfl hc ht
  rw [List.nil_append] at this
  exact rep_agg this
 refine key _ (fun {c} hc=>?_) h
 clear h key
 revert hc
 cases tg with
 | false =>
  intro hc
  match c,hc with
  | [],_=>simp [RepL]
 | true =>
  cases flex with
  | true =>
   intro hc
   match c,hc with
   | [x],hc=>exact RepL.cons1 hc.1 RepL.nil
  | false =>
   intro hc
   match c,hc with
   | [x],hc =>
    have hx:x = .map none:=hc.1
    subst hx
    refine RepL.cons1 ?_ RepL.nil
    simp [ddTagMap,Rep]
section
variable {w:World} {Y:Nat → Prop} {fs:List Fld} {tg:Bool} {g g':G}
theorem ACs.appI0:∀ {l l':List AC} {c c':List Value},ACs w Y fs tg g l c → ACs w Y fs tg g l' c' → ACs w Y fs tg g (l ++ l') (c ++ c')
 | [],_,[],_,_,h=>h
 | _ :: _,_,_ :: _,_,h,h'=>⟨h.1,ACs.appI0 h.2 h'⟩
 | [],_,_ :: _,_,h,_=>h.elim
 | _ :: _,_,[],_,h,_=>h.elim
theorem ACs.constsI:∀ (l:List Value),ACs w Y fs tg g (l.map AC.k) l
 | []=>trivial
 | _ :: r=>⟨rfl,ACs.constsI r⟩
theorem gus_other {i:Nat} (h:g'.q i = g.q i):∀ {k:Nat} {c:List Value},ACs w Y fs tg g (gus i k) c → ACs w Y fs tg g' (gus i k) c
 | 0,[],_=>trivial
 | 0,_ :: _,h=>h.elim
 | _ + 1,[],h=>h.elim
 | k + 1,x :: c,hc=>by
  refine ⟨?_,gus_other h hc.2⟩
  have h1:(bv (sixteen (g.q i).s))[15 - k]? = some x:=hc.1
  show (bv (sixteen (g'.q i).s))[15 - k]? = some x
  rw [h]; exact h1
end
def subC (i:Nat) (l:List AC):List AC:=l.map (AC.sub i)
def acF (V:Int) (tg flex:Bool):List Fld → Nat → List AC → List AC
 | [],_,l=>l
 | f :: r,i,l=>match f.has V with
  | true=>match f.kind with
   | 7=>gus i 16 ++ acF V tg flex r (i + 1) l
   | 10=>match decide (f.nu < 0) && flex with
    | true=>subC i (acS0 f.sub tg V flex) ++ acF V tg flex r (i + 1) l
    | false=>.got i :: acF V tg flex r (i + 1) l
   | _=>.got i :: acF V tg flex r (i + 1) l
  | false=>(defC f).map AC.k ++ acF V tg flex r (i + 1) l
def okAF (V:Int) (f:Fld):Bool:=match f.has V with
 | true=>match f.kind with
  | 10=>decide (0 ≤ f.nu) || f.sub.all (fun h=>h.has V && okAF0 V h)
  | k=>Nat.ble k 11
 | false=>defOk f
def acS (fs:List Fld) (tg:Bool) (V:Int) (flex:Bool):List AC:=acF V tg flex fs 0 (match tg,flex with
 | true,true=>[.tags]
 | true,false=>[.k (.map none)]
 | false,_=>[])
section
variable {w w':World} {Y Y':Nat → Prop} {fs:List Fld} {tg:Bool} {g:G}
theorem ACs.sub {i:Nat}:∀ {l:List AC} {c:List Value},ACs w Y fs tg g (subC i l) c ↔ ACs w Y (fs.getD i FNIL).sub tg (gT (g.q i)) l c
 | [],[]=>Iff.rfl
 | [],_ :: _=>Iff.rfl
 | _ :: _,[]=>Iff.rfl
 | a :: r,x :: c=>by
  show (ACR w Y fs tg g (.sub i a) x ∧ ACs w Y fs tg g (subC i r) c) ↔ _
  rw [ACs.sub (l:=r) (c:=c)]
  rfl
theorem ddFs_same {tg:Bool}:∀ (fs:List Fld) (l l':List T) (i:Nat),(∀ j,i ≤ j → j < i + fs.length → l.getD j T.nil = l'.getD j T.nil) → ddFs fs tg l i = ddFs fs tg l' i
 | [],_,_,_,_=>rfl
 | f :: r,l,l',i,h=>by
  simp only [ddFs]
  rw [h i (Nat.le_refl _) (by simp only [List.length_cons]; omega),ddFs_same r l l' (i + 1) fun j h1 h2=>h j (by omega) (by simp only [List.length_cons]; omega)]
theorem qs_getD {V:Int} {q:Nat → T}:∀ (fs:List Fld) (i k:Nat),fs.all (fun h=>h.has V) = true → k < fs.length → (qs V q fs i).getD k T.nil = q (i + k)
 | [],_,_,_,hk=>by simp at hk
 | f :: r,i,0,h,_=>by
  simp only [List.all_cons,Bool.and_eq_true] at h
  simp [qs,h.1]
 | f :: r,i,k + 1,h,hk=>by
  simp only [List.all_cons,Bool.and_eq_true] at h
  simp only [qs,List.getD_cons_succ]
  rw [qs_getD r (i + 1) k h.2 (by simpa using hk)]
  congr 1
  omega
theorem has_of_all {V:Int} {l:List Fld} (h:l.all (fun h=>h.has V && okAF0 V h) = true):l.all (fun h=>h.has V) = true ∧ l.all (okAF0 V) = true:=by
 simp only [List.all_eq_true,Bool.and_eq_true] at h ⊢
 exact ⟨fun x hx=>(h x hx).1,fun x hx=>(h x hx).2⟩
theorem sub_rep {V:Int} {sub:List Fld} {t:T} {c:List Value} (h:sub.all (fun h=>h.has V && okAF0 V h) = true) (hc:ACs w Y sub true (gT t) (acS0 sub true V true) c):Rep w Y (ddS sub true t) c:=by
 obtain ⟨h1,h2⟩:=has_of_all h
 have h3:=acS0_rep h2 rfl hc
 have e:ddS sub true (.mk 0 [] false (qs V (gT t).q sub 0) (if true = true then (gT t).u else [])) = ddS sub true t:=by
  unfold ddS
  show DD.agg (ddFs sub true (qs V (gT t).q sub 0) 0 ++ [ddTagMap t.u]) = DD.agg (ddFs sub true t.l 0 ++ [ddTagMap t.u])
  rw [ddFs_same sub (qs V (gT t).q sub 0) t.l 0 fun j _ hj=>by
   rw [qs_getD sub 0 j h1 (by omega),Nat.zero_add]
   rfl]
 rw [← e]
 exact h3
theorem ACs.other {g':G} {tl:List AC} (ht:∀ {c},ACs w Y fs tg g tl c → ACs w Y fs tg g' tl c) {V:Int}:∀ (l:List Fld) (i:Nat) {c:List Value},(∀ j,i ≤ j → j < i + l.length → g'.q j = g.q j) → ACs w Y fs tg g (acF0 V l i tl) c → ACs w Y fs tg g' (acF0 V l i tl) c
 | [],_,_,_,h=>ht h
 | f :: r,i,c,hq,h=>by
  have hr:∀ {c},ACs w Y fs tg g (acF0 V r (i + 1) tl) c → ACs w Y fs tg g' (acF0 V r (i + 1) tl) c:=fun h=>ACs.other ht r (i + 1) (fun j h1 h2=>hq j (by omega) (by simp only [List.length_cons]; omega)) h
  have hi:=hq i (Nat.le_refl _) (by simp only [List.length_cons]; omega)
  unfold acF0 at h ⊢
  cases hh:f.has V with
  | false =>
   rw [hh] at h
   simp only at h ⊢
   obtain ⟨c1,c2,rfl,h1,h2⟩:=ACs.app h
   refine ACs.appI0 ?_ (hr h2)
   rw [ACs.consts h1]
   exact ACs.constsI _
  | true =>
   rw [hh] at h
   simp only at h ⊢
   split at h
   ·obtain ⟨c1,c2,rfl,h1,h2⟩:=ACs.app h
    exact ACs.appI0 (gus_other hi h1) (hr h2)
   ·match c,h with
    | x :: c2,h =>
     refine ⟨?_,hr h.2⟩
     have h1:Rep w Y (ddF (fs.getD i FNIL) tg (g.q i)) [x]:=h.1
     show Rep w Y (ddF (fs.getD i FNIL) tg (g'.q i)) [x]
     rw [hi]; exact h1
end
theorem ddF_part {f:Fld} {tg:Bool} {t:T} (h:f.kind = 10) (hn:f.nu < 0):ddF f tg t = ddS f.sub tg t:=by
 cases f with
 | mk kind fr to nu tag df of sub =>
  have h':kind = 10:=h
  have hn':nu < 0:=hn
  subst h'
  unfold ddF
  rw [if_neg (by decide)]
  show (if 0 ≤ nu then _ else _) = _
  rw [if_neg (by omega)]
  rfl
theorem acF_rep {w:World} {Y:Nat → Prop} {fs0:List Fld} {tg:Bool} {g:G} {V:Int} {flex:Bool} {tl:List AC} {dd:List DD} (hft:(!flex || tg) = true):∀ (fs:List Fld) (i:Nat) {c:List Value} (pre:List T),(∀ j,fs[j]? = fs0[i + j]?) → (fs.all (okAF V)) = true → pre.length = i → ACs w Y fs0 tg g (acF V tg flex fs i tl) c →
  (∀ {c},ACs w Y fs0 tg g tl c → RepL w Y dd c) → RepL w Y (ddFs fs tg (pre ++ qs V g.q fs i) i ++ dd) c
 | [],i,c,pre,_,_,_,h,ht=>by simpa [ddFs,acF] using ht h
 | f :: r,i,c,pre,hj,hok,hi,h,ht=>by
  have h0:=hj 0
  simp only [List.getElem?_cons_zero,Nat.add_zero] at h0
  have hg:fs0.getD i FNIL = f:=by rw [List.getD_eq_getElem?_getD,← h0]; rfl
  have hj':∀ j,r[j]? = fs0[i + 1 + j]?:=fun j=>by have:=hj (j + 1); simp only [List.getElem?_cons_succ] at this; rw [this]; congr 1; omega
  simp only [List.all_cons,Bool.and_eq_true] at hok
  simp only [ddFs,qs,List.cons_append,RepL]
  have e:∀ t:T,(pre ++ t :: qs V g.q r (i + 1)).getD i T.nil = t:=by subst hi; intro t; simp
  rw [e]
  have step:∀ (t:T) {c1 c2:List Value},Rep w Y (ddF f tg t) c1 → ACs w Y fs0 tg g (acF V tg flex r (i + 1) tl) c2 → ∃ a b,c1 ++ c2 = a ++ b ∧ Rep w Y (ddF f tg t) a ∧ RepL w Y (ddFs r tg (pre ++ t :: qs V g.q r (i + 1)) (i + 1) ++ dd) b:=by
   intro t c1 c2 h1 h2
   have:=acF_rep hft r (i + 1) (pre ++ [t]) hj' hok.2 (by simp [hi]) h2 ht
   simp only [List.append_assoc,List.singleton_append] at this
   exact ⟨c1,c2,rfl,h1,this⟩
  unfold acF at h
  cases hh:f.has V with
  | false =>
   rw [hh] at h
   simp only at h
   obtain ⟨c1,c2,rfl,h1,h2⟩:=ACs.app h
   rw [ACs.consts h1]
   simp only [Bool.false_eq_true,if_false]
   refine step _ (defC_rep ?_) h2
   have:=hok.1
   unfold okAF at this
   rw [hh] at this
   exact this
  | true =>
   rw [hh] at h
   simp only [if_true] at h ⊢
   split at h
   ·rename_i hk
    obtain ⟨c1,c2,rfl,h1,h2⟩:=ACs.app h
    have h3:=gus_spec (Nat.le_refl 16) h1
    rw [Nat.sub_self,List.drop_zero] at h3
    refine step _ ?_ h2
    rw [h3]
    cases f with
    | mk kind fr to nu tag df of sub =>
     have hk':kind = 7:=hk
     subst hk'
     unfold ddF
     rw [if_neg (by decide)]
     exact rep_agg (rep_bytes _)
   ·rename_i hk
    split at h
    ·rename_i hb
     simp only [Bool.and_eq_true,decide_eq_true_eq] at hb
     obtain ⟨hnu,hfl⟩:=hb
     have htg:tg = true:=by rw [hfl] at hft; simpa using hft
     obtain ⟨c1,c2,rfl,h1,h2⟩:=ACs.app h
     refine step _ ?_ h2
     have h3:=ACs.sub.1 h1
     rw [hg] at h3
     have hs:f.sub.all (fun h=>h.has V && okAF0 V h) = true:=by
      have:=hok.1
      unfold okAF at this
      rw [hh] at this
      simp only [hk] at this
      rw [Bool.or_eq_true] at this
      rcases this with h | h
      ·have:=of_decide_eq_true h; omega
      ·exact h
     subst hfl htg
     have h4:=sub_rep hs h3
     rw [ddF_part hk hnu]
     exact h4
    ·match c,h with
     | x :: c2,h =>
      refine step _ (c1:=[x]) ?_ h.2
      have h1:Rep w Y (ddF (fs0.getD i FNIL) tg (g.q i)) [x]:=h.1
      rw [hg] at h1
      exact h1
   ·match c,h with
    | x :: c2,h =>
     refine step _ (c1:=[x]) ?_ h.2
     have h1:Rep w Y (ddF (fs0.getD i FNIL) tg (g.q i)) [x]:=h.1
     rw [hg] at h1
     exact h1
theorem acS_rep {w:World} {Y:Nat → Prop} {fs:List Fld} {tg flex:Bool} {g:G} {V:Int} {c:List Value} (hok:fs.all (okAF V) = true) (hft:(!flex || tg) = true) (h:ACs w Y fs tg g (acS fs tg V flex) c) :
  Rep w Y (ddS fs tg (.mk 0 [] false (qs V g.q fs 0) (if flex then g.u else []))) c:=by
 unfold acS at h
 have key:∀ (tl:List AC),(∀ {c:List Value},ACs w Y fs tg g tl c → RepL w Y (if tg then [ddTagMap (if flex then g.u else [])] else []) c) → ACs w Y fs tg g (acF V tg flex fs 0 tl) c → Rep w Y (ddS fs tg (.mk 0 [] false (qs V g.q fs 0) (if flex then g.u else []))) c:=fun tl ht hc=>by
  have:=acF_rep (fs0:=fs) hft (tl:=tl) (dd:=if tg then [ddTagMap (if flex then g.u else [])] else []) fs 0 (c:=c) [] (fun j=>by simp) hok rfl hc ht
  rw [List.nil_append] at this
  exact rep_agg this
 refine key _ (fun {c} hc=>?_) h
 clear h key
 revert hc
 cases tg with
 | false =>
  intro hc
  match c,hc with
  | [],_=>simp [RepL]
 | true =>
  cases flex with
  | true =>
   intro hc
   match c,hc with
   | [x],hc=>exact RepL.cons1 hc.1 RepL.nil
  | false =>
   intro hc
   match c,hc with
   | [x],hc =>
    have hx:x = .map none:=hc.1
    subst hx
    refine RepL.cons1 ?_ RepL.nil
    simp [ddTagMap,Rep]
end Go.Mk.Er
namespace Go.Mk.Er
open Go Go.Mk
open Go.Mk.Ea (ikOf)
inductive RK
 | val (kind:Nat) (nul cp:Bool)
 | cnt (cp:Bool) | ok | done | tags | dflt (ds:List (Nat × Value))
def rdV (kind:Nat) (nul flex:Bool) (s:RS):T × RS:=(rdVal kind nul flex (fun _=>none) s).getD (ofNil,s)
theorem rdV_eq {kind:Nat} {nul flex:Bool} {pt:RS → Option (T × RS)} {s:RS} (h:kind ≠ 10):rdVal kind nul flex pt s = some (rdV kind nul flex s):=by
 unfold rdV
 match kind,h with
 | 0,_=>rfl
 | 1,_=>rfl
 | 2,_=>rfl
 | 3,_=>rfl
 | 4,_=>rfl
 | 5,_=>rfl
 | 6,_=>rfl
 | 7,_=>rfl
 | 8,_=>rfl
 | 9,_=>rfl
 | 10,h=>exact absurd rfl h
 | k + 11,_=>rfl
def setL:List (Nat × Value) → List Value → List Value
 | [],c=>c
 | d :: r,c=>setL r (c.set d.1 d.2)
structure Cx where
 P:Program
 n:Nat
 m:Nat
 rt:Nat
 er:Nat
 cfg:List (Nat × RK)
 V:Nat
 flex:Bool
 /-- nothing went wrong -/
 good:Value
 /-- where what is given back lies where something went wrong; itself -/
 gb:Nat
 gv:Value
def Cx.err (cx:Cx) (v:Value):Prop:=v = cx.gv
def RkOk (P:Program) (er:Nat) (good:Value) (gb:Nat) (gv:Value) (f:Nat):RK → Prop
 | .val kind nul cp=>∀ {w0:World} {Y:Nat → Prop} {rb:Nat} {s:RS} (nu:Int) (st:T → DD),(kind = 8 → nul = decide (0 ≤ nu)) → RdrAt w0 Y rb er s → Y rb →
   Ret P f [.pointer (some ⟨rb,0,none⟩)] w0 fun v w'=>Agr (fun k=>k = rb) w0 w' ∧ (Rep w' (fun b=>b < w0.heap.size ∧ Y b) (ddVal kind nu st (rdV kind nul cp s).1) (cellsOf v) ∧ (kind ≠ 7 → v.oneCell' = true)) ∧ RdrAt w' (fun b=>b < w0.heap.size ∧ Y b) rb er (rdV kind nul cp s).2
 | .cnt cp=>∀ {w0:World} {Y:Nat → Prop} {rb:Nat} {s:RS},RdrAt w0 Y rb er s → Y rb →
   Ret P f [.pointer (some ⟨rb,0,none⟩)] w0 fun v w'=>Agr (fun k=>k = rb) w0 w' ∧ v = .int .i32 (rdCnt cp s).1 ∧ RdrAt w' (fun b=>b < w0.heap.size ∧ Y b) rb er (rdCnt cp s).2
 | .ok=>∀ {w0:World} {Y:Nat → Prop} {rb:Nat} {s:RS},RdrAt w0 Y rb er s → Ret P f [.pointer (some ⟨rb,0,none⟩)] w0 fun v w'=>w' = w0 ∧ v = .bool (!s.bad)
 | .done=>∀ {w0:World} {Y:Nat → Prop} {rb:Nat} {s:RS},RdrAt w0 Y rb er s → w0.cell? ⟨gb,0,none⟩ = some gv → Ret P f [.pointer (some ⟨rb,0,none⟩)] w0 fun v w'=>w' = w0 ∧ (s.bad = false → v = good) ∧ (s.bad = true → v = gv)
 | .tags=>∀ {w0:World} {Y:Nat → Prop} {rb:Nat} {s:RS},RdrAt w0 Y rb er s → Y rb →
   Ret P f [.pointer (some ⟨rb,0,none⟩)] w0 fun v w'=>Agr (fun k=>k = rb) w0 w' ∧ Rep w' (fun b=>b < w0.heap.size ∧ Y b) (ddTagMap (rdTags s).1) (cellsOf v) ∧ RdrAt w' (fun b=>b < w0.heap.size ∧ Y b) rb er (rdTags s).2
 | .dflt ds=>∀ {w0:World} {b ty:Nat} {pre c post:List Value},w0.heap[b]? = some (.cells (pre ++ c ++ post).toArray ty (0,0)) → (∀ d ∈ ds,d.1 < c.length) →
   Ret P f [.pointer (some ⟨b,pre.length,none⟩)] w0 fun _ w'=>Agr (fun k=>k = b) w0 w' ∧ w'.heap[b]? = some (.cells (pre ++ setL ds c ++ post).toArray ty (0,0))
def CfgOk (cx:Cx):Prop:=∀ f ck,(f,ck) ∈ cx.cfg → RkOk cx.P cx.er cx.good cx.gb cx.gv f ck ∧ cb0 cx.P f = true
structure LS where
 fs:List Fld
 tg:Bool
 top:Bool
inductive Md
 | nn | nz | ne
inductive Sg
 | un | pos | npos | zero | nzero
structure Pd where
 bk:Option Bool
 sg:Sg
 z:Option (List Value)
 lp:Bool
inductive AV
 | junk
 | k (v:Value)
 | rdr
 | ptr (l o:Nat)
 | val (i:Nat)
 | tagv
 | cnt (l:Nat)
 | okb (p:Bool)
 | gt0 | eq0
 | base (l:Nat) (m:Md)
 | made
 | arr (l:Nat) (m:Md)
 | box (i:Nat)
 | idx (l:Nat)
 | res
structure St where
 sl:List (Nat × AV)
 cells:List AC
 todo:List It
 pd:Option Pd
 fr:Bool
def alook:List (Nat × AV) → Nat → Option AV
 | [],_=>none
 | (k,v) :: r,s=>match Nat.beq s k with
  | true=>some v
  | false=>alook r s
def aev (l:List (Nat × AV)):Operand → Option AV
 | .tmp t=>alook l t
 | .const v=>some (.k v)
 | _=>none
def aevs (l:List (Nat × AV)):List Operand → Option (List AV)
 | []=>some []
 | x :: r=>match aev l x,aevs l r with
  | some v,some vs=>some (v :: vs)
  | _,_=>none
def put (cx:Cx) (σ : St) (d:Nat) (v:AV):Option St:=match Nat.blt d cx.n with
 | true=>some { σ with sl:=(d,v) :: σ.sl }
 | false=>none
def AV.unl (cur:Nat):AV → AV
 | .cnt l=>if Nat.beq l cur then .junk else .cnt l
 | .arr l m=>if Nat.beq l cur then .junk else .arr l m
 | .base l .nz=>if Nat.beq l cur then .junk else .base l .nz
 | .gt0=>.junk
 | .eq0=>.junk
 | .made=>.junk
 | .okb _=>.junk
 | .res=>.junk
 | v=>v
def AV.unm (cur:Nat):AV → AV
 | .made=>.junk
 | .arr l m=>if Nat.beq l cur then .junk else .arr l m
 | v=>v
def AV.unf:AV → AV
 | .okb _=>.junk
 | .res=>.junk
 | v=>v
def AV.unr:It → AV → AV
 | _,.okb _=>.junk
 | _,.res=>.junk
 | .fld i,.val j=>if Nat.beq i j then .junk else .val j
 | .fld i,.box j=>if Nat.beq i j then .junk else .box j
 | .tags,.tagv=>.junk
 | _,v=>v
def AC.free:It → AC → Bool
 | .fld i,.got j=>!Nat.beq i j
 | .fld i,.gotu j _=>!Nat.beq i j
 | .fld i,.sub j _=>!Nat.beq i j
 | .tags,.tags=>false
 | _,_=>true
def mapV (f:AV → AV):List (Nat × AV) → List (Nat × AV)
 | []=>[]
 | p :: r=>(p.1,f p.2) :: mapV f r
def ckOf:List (Nat × RK) → Nat → Option RK
 | [],_=>none
 | (k,c) :: r,f=>match Nat.beq f k with
  | true=>some c
  | false=>ckOf r f
def setA:List (Nat × Value) → List AC → List AC
 | [],c=>c
 | d :: r,c=>setA r (c.set d.1 (.k d.2))
def isNil:Option Pd → Bool
 | none=>true
 | some _=>false
def stC (fs:List Fld):AV → Option (List AC)
 | .k v=>if v.oneCell' then some [.k v] else none
 | .val i=>match (fs.getD i FNIL).kind with
  | 7=>some (gus i 16)
  | 10=>none
  | k=>if Nat.blt k 10 then some [.got i] else none
 | .tagv=>some [.tags]
 | _=>none
def putC (c:List AC) (o:Nat) (v:List AC):Option (List AC) :=
 if Nat.ble (o + v.length) c.length then some (c.take o ++ v ++ c.drop (o + v.length)) else none
def mdOk (f:Fld) (V:Int):Md → Bool
 | .nn=>decide (f.nu < 0)
 | .nz=>f.may V
 | .ne=>decide (0 ≤ f.nu) && !f.may V
def isZero:Value → Bool
 | .int _ i=>decide (i = 0)
 | _=>false
def xcall (cx:Cx) (ls:List LS) (cur:Nat) (σ : St) (d:Option Nat):Option RK → List AV → Option St
 | some (.val kind nul cp),[.rdr]=>match d,σ.todo,ls[cur]?,isNil σ.pd with
  | some d,.fld i :: r,some s,true =>
   match Nat.beq (s.fs.getD i FNIL).kind kind && Nat.blt kind 10 && (nul == (s.fs.getD i FNIL).mayR cx.V) && (!Nat.beq kind 8 || (nul == decide (0 ≤ (s.fs.getD i FNIL).nu))) && (Nat.blt kind 8 || (cp == cx.flex)) with
   | true=>if σ.cells.all (AC.free (.fld i)) then put cx ⟨mapV (AV.unr (.fld i)) σ.sl,σ.cells,r,none,false⟩ d (.val i) else none
   | false=>none
  | _,_,_,_=>none
 | some (.cnt cp),[.rdr]=>match d,σ.todo,ls[cur]?,isNil σ.pd with
  | some d,.fld i :: _,some s,true =>
   match Nat.beq (s.fs.getD i FNIL).kind 11 && (cp == cx.flex) with
   | true=>put cx ⟨mapV (AV.unl cur) σ.sl,σ.cells,σ.todo,some ⟨none,.un,none,false⟩,false⟩ d (.cnt cur)
   | false=>none
  | _,_,_,_=>none
 | some .ok,[.rdr]=>match d with
  | some d=>put cx ⟨mapV AV.unf σ.sl,σ.cells,σ.todo,σ.pd,true⟩ d (.okb true)
  | none=>none
 | some .done,[.rdr]=>match d with
  | some d=>put cx ⟨mapV AV.unf σ.sl,σ.cells,σ.todo,σ.pd,true⟩ d .res
  | none=>none
 | some .tags,[.rdr]=>match d,σ.todo,isNil σ.pd with
  | some d,.tags :: r,true=>if σ.cells.all (AC.free .tags) then put cx ⟨mapV (AV.unr .tags) σ.sl,σ.cells,r,none,false⟩ d .tagv else none
  | _,_,_=>none
 | some (.dflt ds),[.ptr l 0]=>match d,Nat.beq l cur && ds.all (fun p=>Nat.blt p.1 σ.cells.length && p.2.oneCell') with
  | none,true=>some { σ with cells:=setA ds σ.cells }
  | some d,true=>put cx { σ with cells:=setA ds σ.cells } d .junk
  | _,_=>none
 | _,_=>none
def xop (cx:Cx) (ls:List LS) (cur:Nat) (σ : St):Oper → Option St
 | ⟨some d,.move x,_,_,_,none⟩=>match aev σ.sl x with
  | some v=>put cx σ d v
  | none=>none
 | ⟨some d,.assign x,_,_,_,none⟩=>match aev σ.sl x with
  | some v=>put cx σ d v
  | none=>none
 | ⟨some d,.pick c x y,_,_,_,none⟩=>match aev σ.sl c,aev σ.sl x,aev σ.sl y with
  | some (.k (.bool true)),some v,some _=>put cx σ d v
  | some (.k (.bool false)),some _,some v=>put cx σ d v
  | _,_,_=>none
 | ⟨some d,.nilCheck x,_,_,_,none⟩=>match aev σ.sl x with
  | some (.ptr l o)=>put cx σ d (.ptr l o)
  | some .rdr=>put cx σ d .rdr
  | _=>none
 | ⟨some d,.fieldAddr t x k,_,_,_,none⟩=>match aev σ.sl x,fldOff cx.P t k with
  | some (.ptr l o),some o'=>put cx σ d (.ptr l (o + o'))
  | _,_=>none
 | ⟨some d,.unOp .not _ x,_,_,_,none⟩=>match aev σ.sl x with
  | some (.k (.bool b))=>put cx σ d (.k (.bool (!b)))
  | some (.okb p)=>put cx σ d (.okb (!p))
  | _=>none
 | ⟨some d,.load t x,_,_,_,none⟩=>match aev σ.sl x,tySz cx.P t with
  | some (.ptr l o),some (false,_)=>match Nat.beq l cur,σ.cells[o]? with
   | true,some (.k (.slice none 0 0))=>put cx σ d (.base cur .nn)
   | true,some (.k v)=>put cx σ d (.k v)
   | _,_=>none
  | some (.box i),some (true,16)=>put cx σ d (.val i)
  | _,_=>none
 | ⟨none,.store t x y,_,_,_,none⟩=>match aev σ.sl x,aev σ.sl y,tySz cx.P t with
  | some (.ptr l o),some (.arr l2 m),some (false,1)=>match Nat.beq l cur && Nat.beq l2 cur,σ.todo,σ.pd,ls[cur]? with
   | true,.fld i :: r,some ⟨some false,_,some _,true⟩,some s=>match mdOk (s.fs.getD i FNIL) cx.V m,putC σ.cells o [.got i] with
    | true,some c=>if σ.cells.all (AC.free (.fld i)) then some ⟨mapV (AV.unr (.fld i)) σ.sl,c,r,none,false⟩ else none
    | _,_=>none
   | _,_,_,_=>none
  | some (.ptr l o),some v,some (_bl,sz)=>match Nat.beq l cur,ls[cur]? with
   | true,some s=>match stC s.fs v with
    | some vs=>match Nat.beq vs.length sz,putC σ.cells o vs with
     | true,some c=>some { σ with cells:=c }
     | _,_=>none
    | none=>none
   | _,_=>none
  | _,_,_=>none
 | ⟨some d,.slice t x none (some (.const h)) none,_,_,_,none⟩=>match aev σ.sl x,tyElem cx.P t,isZero h with
  | some (.base l m),some e,true=>match tySz cx.P e with
   | some _=>put cx σ d (.base l m)
   | none=>none
  | _,_,_=>none
 | ⟨some d,.buildSlice t 0 ps,_,_,_,none⟩=>match ps.toList,tyElem cx.P t with
  | [],some e=>match tySz cx.P e with
   | some _=>put cx σ d (.base cur .ne)
   | none=>none
  | _,_=>none
 | ⟨some d,.call ⟨.builtin .append,xs,ts⟩,_,_,_,none⟩=>match xs.toList,ts.toList,σ.pd,ls[cur]?,σ.todo with
  | [x,y],[t,t2],some ⟨bk,.pos,none,false⟩,some s,.fld i :: _=>match aev σ.sl x,aev σ.sl y,rowTy cx.P t,tyInt cx.P t2 with
   | some (.base _ _),some (.cnt l),some (e,sz,by_),some _=>match tyZero cx.P e with
    | some z=>match Nat.beq l cur && Nat.blt by_ 65536 && Nat.beq (cellsOf z).length sz && oneCells (cellsOf z) && Nat.beq sz (widVal (s.fs.getD i FNIL).of (-1) (widS (s.fs.getD i FNIL).sub s.tg)) with
     | true=>put cx ⟨mapV (AV.unm cur) σ.sl,σ.cells,σ.todo,some ⟨bk,.pos,some (cellsOf z),false⟩,σ.fr⟩ d .made
     | false=>none
    | none=>none
   | _,_,_,_=>none
  | _,_,_,_,_=>none
 | ⟨some d,.binOp .gtr _ x (.const (.int .i32 0)) _,_,_,_,none⟩=>match aev σ.sl x with
  | some (.cnt l)=>if Nat.beq l cur then put cx σ d .gt0 else none
  | _=>none
 | ⟨some d,.binOp .eql _t x (.const (.int .i32 0)) _,_,_,_,none⟩=>match aev σ.sl x with
  | some (.cnt l)=>if Nat.beq l cur then put cx σ d .eq0 else none
  | _=>none
 | ⟨some d,.binOp op _ x y _,_,_,_,none⟩=>match aev σ.sl x,aev σ.sl y with
  | some (.k (.int q i)),some (.k (.int q' j))=>match decide (q = q'),icmp op i j with
   | true,some b=>put cx σ d (.k (.bool b))
   | _,_=>none
  | _,_=>none
 | ⟨some d,.convert s t x,_,_,_,none⟩=>match aev σ.sl x,(cx.P.underlying s).isSome,tyInt cx.P t,ls[cur]? with
  | some (.val i),true,some ik,some s=>match ikOf (s.fs.getD i FNIL).kind with
   | some ik'=>if decide (ik = ik') && !Nat.beq (s.fs.getD i FNIL).kind 4 then put cx σ d (.val i) else none
   | none=>none
  | _,_,_,_=>none
 | ⟨some d,.indexAddr t x i,_,_,_,none⟩=>match aev σ.sl x,aev σ.sl i,ls[cur]? with
  | some (.arr l _),some (.idx l'),some s=>match Nat.beq l' cur && Nat.beq (l + 1) cur && !s.top,tyElem cx.P t with
   | true,some e=>match tySz cx.P e with
    | some (_,z)=>match Nat.beq z (widS s.fs s.tg) with
     | true=>put cx σ d (.ptr cur 0)
     | false=>none
    | none=>none
   | _,_=>none
  | _,_,_=>none
 | ⟨d,.call ⟨.value (.func f),xs,_⟩,_,_,_,none⟩=>match aevs σ.sl xs.toList with
  | some ars=>xcall cx ls cur σ d (ckOf cx.cfg f) ars
  | none=>none
 | _=>none
def xopg (cx:Cx) (ls:List LS) (cur:Nat) (all:List Oper) (σ : St) (o:Oper):Option St:=match o.guard with
 | none=>xop cx ls cur σ o
 | some (j,b)=>match (all[j]?).bind (·.dst),o.dst with
  | some dj,some d=>match alook σ.sl dj with
   | some (.k (.bool u))=>match u == b with
    | true=>xop cx ls cur σ { o with guard:=none }
    | false=>put cx σ d (.k undef)
   | _=>none
  | _,_=>none
def xbox (cx:Cx) (ls:List LS) (cur:Nat) (σ : St):Oper → Oper → Option St
 | ⟨some d,.alloc e,_,_,_,none⟩,⟨none,.store t (.tmp d') y,_,_,_,none⟩=>match Nat.beq d d' && isNil σ.pd,aev σ.sl y,ls[cur]?,tyZero cx.P e with
  | true,some (.val i),some s,some z=>match Nat.beq (s.fs.getD i FNIL).kind 7 && Nat.beq (cellsOf z).length 16,y,tySz cx.P t with
   | true,.tmp y',some (true,16)=>if Nat.beq y' d then none else put cx σ d (.box i)
   | _,_,_=>none
  | _,_,_,_=>none
 | _,_=>none
def xops (cx:Cx) (ls:List LS) (cur:Nat) (all:List Oper):List Oper → St → Option St
 | [],σ=>some σ
 | o :: r,σ=>match xopg cx ls cur all σ o with
  | some σ'=>xops cx ls cur all r σ'
  | none=>match r with
   | o2 :: r2=>match xbox cx ls cur σ o o2 with
    | some σ'=>xops cx ls cur all r2 σ'
    | none=>none
   | []=>none
def vway (n d:Nat):Nat → List (Nat × AV) → Code → Option (List (Nat × AV) × Oper × Oper)
 | 0,_,_=>none
 | g + 1,sl,c=>match c with
  | .seq (.region _ o1 false) (.cond (.tmp c) a b)=>match o1.toList with
   | [⟨some m,.move x,_,_,_,none⟩]=>match Nat.beq m c && Nat.blt m n && !Nat.beq m d,aev sl x with
    | true,some (.k (.bool true))=>vway n d g ((m,.k (.bool true)) :: sl) a
    | true,some (.k (.bool false))=>vway n d g ((m,.k (.bool false)) :: sl) b
    | _,_=>none
   | _=>none
  | .region _ ops false=>match ops.toList with
   | [o1,o2]=>some (sl,o1,o2)
   | _=>none
  | _=>none
def xvv (cx:Cx) (ls:List LS) (cur:Nat) (σ : St) (d e:Nat) (c:Code):Option St:=match vway cx.n d 9 ((d,.junk) :: σ.sl) c with
 | some (sl',⟨some t,.call ⟨.value (.func f),xs,_⟩,_,_,_,none⟩,⟨none,.store ty (.tmp d') (.tmp t'),_,_,_,none⟩) =>
  match ckOf cx.cfg f,aevs sl' xs.toList,σ.todo,ls[cur]?,tyZero cx.P e with
  | some (.val 8 false cp),some [.rdr],.fld i :: r,some s,some z =>
   match Nat.blt d cx.n && Nat.blt t cx.n && !Nat.beq t d && isNil σ.pd && Nat.beq d' d && Nat.beq t' t && Nat.beq (s.fs.getD i FNIL).kind 8 && decide (0 ≤ (s.fs.getD i FNIL).nu) && !(s.fs.getD i FNIL).mayR cx.V && (cp == cx.flex) && Nat.beq (cellsOf z).length 1 && σ.cells.all (AC.free (.fld i)),tySz cx.P ty with
   | true,some (_,1)=>some ⟨(d,.val i) :: (t,.junk) :: mapV (AV.unr (.fld i)) sl',σ.cells,r,none,false⟩
   | _,_=>none
  | _,_,_,_,_=>none
 | _=>none
def asVV:Code → Code → Option (Nat × Nat × Code × Code)
 | .region _ ops false,.seq c b=>match ops.toList with
  | [⟨some d,.alloc e,_,_,_,none⟩]=>some (d,e,c,b)
  | _=>none
 | _,_=>none
def kept (m:Nat) (keep:List Nat) (s:Nat):Bool:=Nat.blt s m || keep.any (Nat.beq s)
def prune (f:Nat → Bool):List (Nat × AV) → List (Nat × AV)
 | []=>[]
 | p :: r=>match f p.1 with
  | true=>p :: prune f r
  | false=>prune f r
def AV.low (cur:Nat):AV → Bool
 | .junk=>true
 | .k _=>true
 | .rdr=>true
 | .ptr l _=>Nat.ble l cur
 | .cnt l=>Nat.ble l cur
 | .arr l _=>Nat.ble l cur
 | .idx l=>Nat.ble l cur
 | _=>false
def AV.lowV (cur:Nat) (v:AV):AV:=if v.low cur then v else .junk
def AV.is:AV → AV → Bool
 | .k a,.k b=>vis a b
 | .rdr,.rdr=>true
 | .ptr l o,.ptr l' o'=>Nat.beq l l' && Nat.beq o o'
 | .cnt l,.cnt l'=>Nat.beq l l'
 | .base l .nn,.base l' .nn=>Nat.beq l l'
 | .base l .ne,.base l' .ne=>Nat.beq l l'
 | .base l .nz,.base l' .nz=>Nat.beq l l'
 | .arr l .nn,.arr l' .nn=>Nat.beq l l'
 | .arr l .ne,.arr l' .ne=>Nat.beq l l'
 | .arr l .nz,.arr l' .nz=>Nat.beq l l'
 | .idx l,.idx l'=>Nat.beq l l'
 | _,_=>false
def left (l:List (Nat × AV)):List (Nat × AV) → Bool
 | []=>true
 | p :: r=>(match alook l p.1,p.2 with
  | some _,.junk=>true
  | some v,u=>AV.is u v
  | none,_=>false) && left l r
def joinG (cur:Nat):AV → AV → AV
 | .made,.base l m=>if Nat.beq l cur then .arr l m else .junk
 | a,b=>if AV.is a b then a else .junk
def joinE (cur:Nat):AV → AV → AV
 | .base l .ne,.base l' .nn=>if Nat.beq l cur && Nat.beq l' cur then .base cur .nz else .junk
 | a,b=>if AV.is a b then a else .junk
def joinS (J:AV → AV → AV) (f:Nat → Bool) (sb:List (Nat × AV)):List (Nat × AV) → List (Nat × AV)
 | []=>[]
 | p :: r=>match f p.1,alook sb p.1 with
  | true,some v=>(p.1,J p.2 v) :: joinS J f sb r
  | _,_=>joinS J f sb r
def zOk (ls:List LS) (cur:Nat) (todo:List It):Option (List Value) → Bool
 | none=>true
 | some z=>match ls[cur]?,todo with
  | some s,.fld i :: _=>Nat.beq z.length (widVal (s.fs.getD i FNIL).of (-1) (widS (s.fs.getD i FNIL).sub s.tg)) && oneCells z
  | _,_=>false
def sameI:List It → List It → Bool
 | [],[]=>true
 | a :: r,b :: s=>It.is a b && sameI r s
 | _,_=>false
def joinZ:Option (List Value) → Option (List Value) → Option (Option (List Value))
 | some z,none=>some (some z)
 | none,none=>some none
 | _,_=>none
structure RP where
 id:Nat
 idb:Nat
 i:Nat
 ln:Nat
 ta:Nat
 tb:Nat
 c:Nat
 tc:Nat
 td:Nat
 body:Code
def asLoop:Code → Option RP
 | .block id (.loop (.seq (.seq (.region _ o1 false) (.cond (.tmp c) .skip (.exit id'))) (.seq (.block idb body) (.region _ o2 false)))) =>
  match o1.toList,o2.toList with
  | [⟨some ta,.move (.tmp i),_,_,_,none⟩,⟨some tb,.move (.tmp ln),_,_,_,none⟩,⟨some c1,.binOp .lss _ (.tmp ta') (.tmp tb') _,_,_,_,none⟩],
   [⟨some tc,.move (.tmp i'),_,_,_,none⟩,⟨some td,.binOp .add _ (.tmp tc') (.const (.int .i32 1)) _,_,_,_,none⟩,⟨some i2,.assign (.tmp td'),_,_,_,none⟩] =>
   match Nat.beq id id' && Nat.beq c c1 && Nat.beq ta ta' && Nat.beq tb tb' && Nat.beq i i' && Nat.beq tc tc' && Nat.beq i i2 && Nat.beq td td' with
   | true=>some ⟨id,idb,i,ln,ta,tb,c,tc,td,body⟩
   | false=>none
  | _,_=>none
 | _=>none
def RP.own (r:RP):List Nat:=[r.i,r.ln,r.ta,r.tb,r.c,r.tc,r.td]
def apart:List Nat → Bool
 | []=>true
 | x :: r=>!r.any (Nat.beq x) && apart r
def inner (s:LS) (f:Fld):LS:=match Nat.beq f.of 10 with
 | true=>⟨f.sub,s.tg,false⟩
 | false=>⟨[.mk f.of 0 (-1) (-1) (-1) 0 0 []],false,false⟩
def goodSub (cx:Cx) (s:LS) (f:Fld):Bool:=match Nat.beq f.of 10 with
 | true=>f.sub.all (okAF cx.V) && (!cx.flex || s.tg)
 | false=>Nat.blt f.of 10
def writes:Code → List Nat
 | .region _ ops _=>ops.toList.filterMap (·.dst)
 | .seq a b=>writes a ++ writes b
 | .cond _ a b=>writes a ++ writes b
 | .block _ b=>writes b
 | .loop b=>writes b
 | _=>[]
def stays (cx:Cx) (keep:List Nat) (r:RP) (s:Nat):Bool :=
 kept cx.m keep s && !r.own.any (Nat.beq s) && !(writes r.body).any (Nat.beq s)
structure NP where
 t1:Nat
 pr:Nat
 t2:Nat
 t3:Nat
 t4:Nat
 t5:Nat
 t6:Nat
 a:Nat
 al:Nat
 nc:Nat
 fa:Nat
 a2:Nat
 nc2:Nat
 fa2:Nat
 ld:Nat
 v:Nat
 f8:Nat
 q8:Operand
 fo:Nat
 qo:Operand
 so:Operand
 ety:Nat
 st:Nat
 k:Nat
 pty:Nat
 so2:Operand
 st2:Nat
 k2:Nat
 pty2:Nat
 body:Code
def NP.tm (p:NP):List Nat:=[p.t1,p.pr,p.t2,p.t3,p.t4,p.t5,p.t6,p.a,p.al,p.nc,p.fa,p.a2,p.nc2,p.fa2,p.ld,p.v]
def asNP:Code → Code → Option NP
 | .region _ o1 false,.seq (.region _ o2 false) (.cond (.tmp c) (.seq (.region _ o3 false) (.seq (.region _ o4 false) body)) .skip) =>
  match o1.toList,o2.toList with
  | [⟨some t1,.call ⟨.value (.func f8),x8,_⟩,_,_,_,none⟩,⟨some pr,.assign (.tmp y1),_,_,_,none⟩],
   [⟨some t2,.move (.tmp y2),_,_,_,none⟩,⟨some t3,.binOp .neq _ (.tmp y3) (.const (.int .i8 m)) _,_,_,_,none⟩,⟨some t4,.move (.tmp y4),_,_,_,none⟩,⟨some t5,.call ⟨.value (.func fo),xo,_⟩,_,_,_,some (2,true)⟩,⟨some t6,.pick (.tmp y5) (.tmp y6) (.const (.bool false)),_,_,_,none⟩] =>
   match o3.toList,o4.toList,x8.toList,xo.toList with
   | [⟨some a,.move so,_,_,_,none⟩,⟨some al,.alloc ety,_,_,_,none⟩,⟨some nc,.nilCheck (.tmp y7),_,_,_,none⟩,⟨some fa,.fieldAddr st (.tmp y8) k,_,_,_,none⟩,⟨none,.store pty (.tmp y9) (.tmp y10),_,_,_,none⟩],
    [⟨some a2,.move so2,_,_,_,none⟩,⟨some nc2,.nilCheck (.tmp z1),_,_,_,none⟩,⟨some fa2,.fieldAddr st2 (.tmp z2) k2,_,_,_,none⟩,⟨some ld,.load pty2 (.tmp z3),_,_,_,none⟩,⟨some v,.assign (.tmp z4),_,_,_,none⟩],[q8],[qo] =>
    match Nat.beq y1 t1 && Nat.beq y2 pr && Nat.beq y3 t2 && Nat.beq y4 t3 && Nat.beq y5 t4 && Nat.beq y6 t5 && Nat.beq c t6 && Nat.beq y7 a && Nat.beq y8 nc && Nat.beq y9 fa && Nat.beq y10 al && Nat.beq z1 a2 && Nat.beq z2 nc2 && Nat.beq z3 fa2 && Nat.beq z4 ld && decide (m = -1) with
    | true=>some ⟨t1,pr,t2,t3,t4,t5,t6,a,al,nc,fa,a2,nc2,fa2,ld,v,f8,q8,fo,qo,so,ety,st,k,pty,so2,st2,k2,pty2,body⟩
    | false=>none
   | _,_,_,_=>none
  | _,_=>none
 | _,_=>none
def uniq:List Nat → List (Nat × AV) → List (Nat × AV)
 | _,[]=>[]
 | seen,p :: r=>match seen.any (Nat.beq p.1) with
  | true=>uniq seen r
  | false=>p :: uniq (p.1 :: seen) r
def npHd (cx:Cx) (cur:Nat) (keep:List Nat) (np:NP) (sl:List (Nat × AV)):List (Nat × AV) :=
 uniq [] (mapV (AV.lowV cur) (prune (fun s=>kept cx.m keep s && !np.tm.any (Nat.beq s)) sl))
def npPre (cx:Cx) (ls:List LS) (cur:Nat) (hd:List (Nat × AV)) (σ : St) (np:NP):Option (Nat × Value × LS × Nat × List It) :=
 match σ.todo,ls[cur]? with
 | .fld i :: r,some s =>
  match ckOf cx.cfg np.f8,ckOf cx.cfg np.fo,aev hd np.q8,aev hd np.qo,aev hd np.so,aev hd np.so2 with
  | some (.val 1 _ _),some .ok,some .rdr,some .rdr,some (.ptr l o),some (.ptr l2 o2) =>
   match fldOff cx.P np.st np.k,fldOff cx.P np.st2 np.k2,tyZero cx.P np.ety,tySz cx.P np.pty,tySz cx.P np.pty2 with
   | some p,some p2,some z,some (_,1),some (false,_) =>
    match isNil σ.pd && Nat.beq l cur && Nat.beq l2 cur && Nat.beq (o + p) (o2 + p2) && Nat.beq (s.fs.getD i FNIL).kind 10 && decide (0 ≤ (s.fs.getD i FNIL).nu) && ((s.fs.getD i FNIL).sub.all (okAF cx.V) && (!cx.flex || s.tg)) && σ.cells.all (AC.free (.fld i)) && apart np.tm && np.tm.all (fun s=>Nat.blt s cx.n) && Nat.beq (cur + 1) ls.length,σ.cells[o + p]? with
    | true,some (.k (.pointer none))=>some (o + p,z,⟨(s.fs.getD i FNIL).sub,s.tg,true⟩,i,r)
    | _,_=>none
   | _,_,_,_,_=>none
  | _,_,_,_,_,_=>none
 | _,_=>none
structure IP where
 a:Nat
 nc:Nat
 fa:Nat
 v:Nat
 so:Operand
 st:Nat
 k:Nat
def IP.tm (p:IP):List Nat:=[p.a,p.nc,p.fa,p.v]
def asIP:Code → Option IP
 | .region _ ops false=>match ops.toList with
  | [⟨some a,.move so,_,_,_,none⟩,⟨some nc,.nilCheck (.tmp y1),_,_,_,none⟩,⟨some fa,.fieldAddr st (.tmp y2) k,_,_,_,none⟩,⟨some v,.assign (.tmp y3),_,_,_,none⟩] =>
   match Nat.beq y1 a && Nat.beq y2 nc && Nat.beq y3 fa with
   | true=>some ⟨a,nc,fa,v,so,st,k⟩
   | false=>none
  | _=>none
 | _=>none
def ipHd (cx:Cx) (cur:Nat) (keep:List Nat) (p:IP) (sl:List (Nat × AV)):List (Nat × AV) :=
 uniq [] (mapV (AV.lowV cur) (prune (fun s=>kept cx.m keep s && !p.tm.any (Nat.beq s)) sl))
def AC.isK:AC → Bool
 | .k _=>true
 | _=>false
def ipPre (cx:Cx) (ls:List LS) (cur:Nat) (hd:List (Nat × AV)) (σ : St) (p:IP):Option (Nat × Nat × LS × Nat × List It) :=
 match σ.todo,ls[cur]? with
 | .fld i :: r,some s =>
  match aev hd p.so,fldOff cx.P p.st p.k with
  | some (.ptr l o),some q =>
   match isNil σ.pd && Nat.beq l cur && Nat.beq (s.fs.getD i FNIL).kind 10 && decide ((s.fs.getD i FNIL).nu < 0) && cx.flex && s.tg && (s.fs.getD i FNIL).sub.all (fun h=>h.has cx.V && okAF0 cx.V h) && σ.cells.all (AC.free (.fld i)) && apart p.tm && p.tm.all (fun s=>Nat.blt s cx.n) && Nat.beq (cur + 1) ls.length && Nat.ble (o + q + widS (s.fs.getD i FNIL).sub s.tg) σ.cells.length && ((σ.cells.drop (o + q)).take (widS (s.fs.getD i FNIL).sub s.tg)).all AC.isK with
   | true=>some (o + q,widS (s.fs.getD i FNIL).sub s.tg,⟨(s.fs.getD i FNIL).sub,s.tg,true⟩,i,r)
   | false=>none
  | _,_=>none
 | _,_=>none
def ipAll (cx:Cx) (ls:List LS) (cur:Nat) (keep:List Nat) (σ : St) (a:Code):Option (IP × Nat × Nat × LS × Nat × List It):=match asIP a with
 | some p=>match ipPre cx ls cur (ipHd cx cur keep p σ.sl) σ p with
  | some t=>some (p,t)
  | none=>none
 | none=>none
mutual
def xc (cx:Cx):Nat → List LS → Nat → List Nat → Code → St → Option St
 | 0,_,_,_,_,_=>none
 | g + 1,ls,cur,keep,c,σ=>match c with
  | .skip=>some σ
  | .region _ ops false=>xops cx ls cur ops.toList ops.toList { σ with sl:=prune (kept cx.m keep) σ.sl }
  | .seq a b=>match ipAll cx ls cur keep σ a with
   | some (p,o,len,s',i,r)=>match xc cx g (ls ++ [s']) (cur + 1) keep b ⟨(p.v,.ptr (cur + 1) 0) :: ipHd cx cur keep p σ.sl,(σ.cells.drop o).take len,its s'.fs cx.V (cx.flex && s'.tg),none,false⟩ with
    | some τ=>match τ.todo,τ.pd,left τ.sl (ipHd cx cur keep p σ.sl) && sameA τ.cells (acS0 s'.fs s'.tg cx.V cx.flex) && Nat.beq τ.cells.length len with
     | [],none,true=>some ⟨mapV (AV.unr (.fld i)) (ipHd cx cur keep p σ.sl),σ.cells.take o ++ subC i τ.cells ++ σ.cells.drop (o + len),r,none,false⟩
     | _,_,_=>none
    | none=>none
   | none=>match xc cx g ls cur keep a σ with
    | some σ'=>xc cx g ls cur keep b σ'
    | none=>match asVV a b with
     | some (d,e,c,b')=>match xvv cx ls cur { σ with sl:=prune (kept cx.m keep) σ.sl } d e c with
      | some σ'=>xc cx g ls cur keep b' σ'
      | none=>none
     | none=>match asNP a b with
      | some np=>match npPre cx ls cur (npHd cx cur keep np σ.sl) σ np with
       | some (o,z,s',i,r)=>match xc cx g (ls ++ [s']) (cur + 1) keep np.body ⟨(np.v,.ptr (cur + 1) 0) :: npHd cx cur keep np σ.sl,(cellsOf z).map AC.k,its s'.fs cx.V (cx.flex && s'.tg),none,false⟩ with
        | some τ=>match τ.todo,τ.pd,left τ.sl (npHd cx cur keep np σ.sl) && sameA τ.cells (acS s'.fs s'.tg cx.V cx.flex) with
         | [],none,true=>some ⟨mapV (AV.unr (.fld i)) (npHd cx cur keep np σ.sl),σ.cells.set o (.got i),r,none,false⟩
         | _,_,_=>none
        | none=>none
       | none=>none
      | none=>none
  | .cond x a b=>match aev σ.sl x with
   | some (.k (.bool true))=>xc cx g ls cur keep a σ
   | some (.k (.bool false))=>xc cx g ls cur keep b σ
   | some (.okb false)=>match σ.pd,σ.fr with
    | some ⟨none,sg,z,false⟩,true=>match xr cx g ls cur keep a { σ with pd:=some ⟨some true,sg,z,false⟩ } with
     | true=>xc cx g ls cur keep b { σ with pd:=some ⟨some false,sg,z,false⟩ }
     | false=>none
    | _,_=>none
   | some .gt0=>match σ.pd with
    | some ⟨bk,.un,z,false⟩=>match xc cx g ls cur keep a { σ with pd:=some ⟨bk,.pos,z,false⟩ },xc cx g ls cur keep b { σ with pd:=some ⟨bk,.npos,z,false⟩ } with
     | some ⟨sa,ca,ta,some ⟨ba,.pos,za,false⟩,_⟩,some ⟨sb,cb,tb,some ⟨bb,.npos,zb,false⟩,_⟩=>match sameA ca cb && sameI ta tb && decide (ba = bb) && zOk ls cur ta za,joinZ za zb with
      | true,some zz=>some ⟨joinS (joinG cur) (kept cx.m keep) sb sa,ca,ta,some ⟨ba,.un,zz,false⟩,false⟩
      | _,_=>none
     | _,_=>none
    | _=>none
   | some .eq0=>match σ.pd with
    | some ⟨bk,.un,z,false⟩=>match xc cx g ls cur keep a { σ with pd:=some ⟨bk,.zero,z,false⟩ },xc cx g ls cur keep b { σ with pd:=some ⟨bk,.nzero,z,false⟩ } with
     | some ⟨sa,ca,ta,some ⟨ba,.zero,none,false⟩,_⟩,some ⟨sb,cb,tb,some ⟨bb,.nzero,none,false⟩,_⟩=>match sameA ca cb && sameI ta tb && decide (ba = bb) with
      | true=>some ⟨joinS (joinE cur) (kept cx.m keep) sb sa,ca,ta,some ⟨ba,.un,none,false⟩,false⟩
      | _=>none
     | _,_=>none
    | _=>none
   | _=>none
  | .block _ _=>match asLoop c with
   | some r=>match alook σ.sl r.i,alook σ.sl r.ln,ls[cur]?,σ.todo,σ.pd with
    | some (.k (.int .i32 0)),some (.cnt l),some s,.fld i :: _,some ⟨some false,.un,some z,false⟩ =>
     let f:=s.fs.getD i FNIL
     let hd:=mapV (AV.lowV cur) (prune (stays cx keep r) σ.sl)
     let s':=inner s f
     match Nat.beq l cur && Nat.beq f.kind 11 && goodSub cx s f && r.own.all (fun s=>Nat.blt s cx.n) && apart r.own && Nat.beq (cur + 1) ls.length with
     | true=>match xc cx g (ls ++ [s']) (cur + 1) (r.i :: r.ln :: keep) r.body ⟨(r.i,.idx (cur + 1)) :: (r.ln,.cnt cur) :: hd,z.map AC.k,its s'.fs cx.V (cx.flex && s'.tg),none,false⟩ with
      | some τ=>match τ.todo,τ.pd,left τ.sl ((r.i,.idx (cur + 1)) :: (r.ln,.cnt cur) :: hd) && sameA τ.cells (acS s'.fs s'.tg cx.V cx.flex) && Nat.beq τ.cells.length z.length with
       | [],none,true=>some ⟨(r.i,.junk) :: (r.ln,.cnt cur) :: hd,σ.cells,σ.todo,some ⟨some false,.un,some z,true⟩,false⟩
       | _,_,_=>none
      | none=>none
     | false=>none
    | _,_,_,_,_=>none
   | none=>none
  | _=>none
def xr (cx:Cx):Nat → List LS → Nat → List Nat → Code → St → Bool
 | 0,_,_,_,_,_=>false
 | g + 1,ls,cur,keep,c,σ=>match c with
  | .seq a b=>match xc cx g ls cur keep a σ with
   | some σ'=>xr cx g ls cur keep b σ'
   | none=>false
  | .ret=>match alook σ.sl cx.rt,σ.fr,σ.pd with
   | some .res,true,some ⟨some true,_,_,false⟩=>true
   | _,_,_=>false
  | _=>false
end
end Go.Mk.Er
namespace Go.Mk.Er
open Go Go.Mk
structure Lv where
 b:Nat
 off:Nat
 ty:Nat
 ix:Nat
 pre:List Value
 post:List Value
 g:G
 cnt:Int
 lb:Nat
 bad:Bool
def BaseOk (n:Int):Md → Value → Prop
 | .nn,x=>x = .slice none 0 0
 | .ne,x=>∃ a,x = .slice (some a) 0 0
 | .nz,x=>(n = 0 → ∃ a,x = .slice (some a) 0 0) ∧ (n ≠ 0 → x = .slice none 0 0)
def Made (e:Lv) (x:Value):Prop:=∃ cap,x = .slice (some ⟨e.lb,0,none⟩) e.cnt.toNat cap ∧ e.cnt.toNat ≤ cap
def many (n:Nat) (z:List Value):List Value:=(List.replicate n z).flatten
structure En where
 cx:Cx
 ls:List LS
 cur:Nat
 rb:Nat
def VR (E:En) (w:World) (Y:Nat → Prop) (e:Nat → Lv):AV → Value → Prop
 | .junk,_=>True
 | .k v,x=>x = v
 | .rdr,x=>x = .pointer (some ⟨E.rb,0,none⟩)
 | .ptr l o,x=>x = .pointer (some ⟨(e l).b,(e l).off + o,none⟩)
 | .val i,x=>∃ s,E.ls[E.cur]? = some s ∧ Rep w Y (ddF (s.fs.getD i FNIL) s.tg ((e E.cur).g.q i)) (cellsOf x) ∧ ((s.fs.getD i FNIL).kind ≠ 7 → x.oneCell' = true)
 | .tagv,x=>Rep w Y (ddTagMap (e E.cur).g.u) (cellsOf x)
 | .cnt l,x=>x = .int .i32 (e l).cnt
 | .okb p,x=>x = .bool (if p then !(e E.cur).bad else (e E.cur).bad)
 | .gt0,x=>x = .bool (decide (0 < (e E.cur).cnt))
 | .eq0,x=>x = .bool (decide ((e E.cur).cnt = 0))
 | .base l m,x=>BaseOk (e l).cnt m x
 | .made,x=>0 < (e E.cur).cnt ∧ Made (e E.cur) x
 | .arr l m,x=>(0 < (e l).cnt → Made (e l) x) ∧ ((e l).cnt ≤ 0 → BaseOk (e l).cnt m x)
 | .box i,x=>∃ s b,E.ls[E.cur]? = some s ∧ (s.fs.getD i FNIL).kind = 7 ∧ x = .pointer (some ⟨b,0,none⟩) ∧ Cel w Y b 0 (bv (sixteen ((e E.cur).g.q i).s))
 | .idx l,x=>x = .int .i32 ((e l).ix:Int)
 | .res,x=>((e E.cur).bad = false → x = E.cx.good) ∧ ((e E.cur).bad = true → E.cx.err x)
def SR (E:En) (w:World) (Y:Nat → Prop) (e:Nat → Lv):List (Nat × AV) → List (Nat × Value) → Prop
 | [],[]=>True
 | p :: r,q :: s=>p.1 = q.1 ∧ VR E w Y e p.2 q.2 ∧ SR E w Y e r s
 | _,_=>False
section
variable {E E':En} {w w':World} {Y Y':Nat → Prop} {e e':Nat → Lv}
theorem SR.look:∀ {sl:List (Nat × AV)} {l:List (Nat × Value)} {s:Nat} {v:AV},SR E w Y e sl l → alook sl s = some v → ∃ x,look l s = some x ∧ VR E w Y e v x
 | [],_,s,v,_,h=>by simp [alook] at h
 | (k,a) :: r,[],s,v,h,_=>by simp [SR] at h
 | (k,a) :: r,(k',x) :: l,s,v,h,hl=>by
  simp only [SR] at h
  obtain ⟨rfl,h1,h2⟩:=h
  simp only [alook] at hl
  simp only [Mk.look]
  split at hl
  ·rename_i hb
   simp only [Option.some.injEq] at hl
   subst hl
   rw [hb]
   exact ⟨x,rfl,h1⟩
  ·rename_i hb
   rw [hb]
   exact h2.look hl
theorem SR.ev {sl:List (Nat × AV)} {l:List (Nat × Value)} {x:Operand} {v:AV} (h:SR E w Y e sl l) (hx:aev sl x = some v):∃ u,Mk.ev l x = some u ∧ VR E w Y e v u:=by
 cases x with
 | tmp t=>exact h.look hx
 | const u=>simp only [aev,Option.some.injEq] at hx; subst hx; exact ⟨u,rfl,rfl⟩
 | global g=>simp [aev] at hx
 | func f=>simp [aev] at hx
theorem SR.map {F:AV → AV} (hc:∀ v x,VR E w Y e v x → VR E' w' Y' e' (F v) x):∀ {sl:List (Nat × AV)} {l:List (Nat × Value)},SR E w Y e sl l → SR E' w' Y' e' (mapV F sl) l
 | [],[],_=>trivial
 | [],_ :: _,h=>by simp [SR] at h
 | _ :: _,[],h=>by simp [SR] at h
 | p :: r,q :: s,h=>by
  simp only [SR,mapV] at h ⊢
  exact ⟨h.1,hc _ _ h.2.1,SR.map hc h.2.2⟩
theorem mapV_id:∀ sl:List (Nat × AV),mapV id sl = sl
 | []=>rfl
 | p :: r=>by simp [mapV,mapV_id r]
theorem SR.same (hc:∀ v x,VR E w Y e v x → VR E' w' Y' e' v x) {sl:List (Nat × AV)} {l:List (Nat × Value)} (h:SR E w Y e sl l):SR E' w' Y' e' sl l:=by
 have:=SR.map (F:=id) hc h
 rwa [mapV_id] at this
theorem VR.move (hm:∀ i,i < w.heap.size → ¬ Y i → w'.heap[i]? = w.heap[i]? ∧ ¬ Y' i):∀ {v:AV} {x:Value},VR E w Y e v x → VR E w' Y' e v x
 | .junk,_,_=>trivial
 | .k _,_,h=>h
 | .rdr,_,h=>h
 | .ptr _ _,_,h=>h
 | .val _i,_x,⟨s,h1,h2,h3⟩=>⟨s,h1,Rep.move hm _ _ h2,h3⟩
 | .tagv,_x,h=>Rep.move hm _ _ h
 | .cnt _,_,h=>h
 | .okb _,_,h=>h
 | .gt0,_,h=>h
 | .eq0,_,h=>h
 | .base _ _,_,h=>h
 | .made,_,h=>h
 | .arr _ _,_,h=>h
 | .box _i,_x,⟨s,b,h1,h2,h3,h4⟩=>⟨s,b,h1,h2,h3,h4.move hm⟩
 | .idx _,_,h=>h
 | .res,_,h=>h
theorem SR.move (hm:∀ i,i < w.heap.size → ¬ Y i → w'.heap[i]? = w.heap[i]? ∧ ¬ Y' i) {sl:List (Nat × AV)} {l:List (Nat × Value)} (h:SR E w Y e sl l):SR E w' Y' e sl l:=h.same fun _ _=>VR.move hm
theorem prune_sr {f:Nat → Bool}:∀ {sl:List (Nat × AV)} {l:List (Nat × Value)},SR E w Y e sl l → ∃ l',SR E w Y e (prune f sl) l' ∧ (∀ s v,Mk.look l' s = some v → Mk.look l s = some v ∧ f s = true) ∧ ∀ p ∈ l',f p.1 = true
 | [],[],_=>⟨[],trivial,(fun s v h=>by simp [Mk.look] at h),fun p hp=>by cases hp⟩
 | [],_ :: _,h=>by simp [SR] at h
 | _ :: _,[],h=>by simp [SR] at h
 | p :: r,q :: s,h=>by
  simp only [SR] at h
  obtain ⟨h1,h2,h3⟩:=h
  obtain ⟨l',g1,g2,g3⟩:=prune_sr (f:=f) h3
  obtain ⟨k,u⟩:=q
  simp only at h1
  unfold prune
  split
  ·rename_i hk
   refine ⟨(k,u) :: l',⟨h1,h2,g1⟩,fun s v hv=>?_,fun p' hp=>?_⟩
   ·subst h1
    simp only [Mk.look] at hv ⊢
    split at hv
    ·rename_i hb
     exact ⟨hv,by rw [Nat.eq_of_beq_eq_true hb]; exact hk⟩
    ·exact g2 _ v hv
   ·rcases List.mem_cons.1 hp with rfl | hp
    ·rw [← h1]; exact hk
    ·exact g3 p' hp
  ·rename_i hk
   refine ⟨l',g1,fun s v hv=>?_,g3⟩
   obtain ⟨g4,g5⟩:=g2 s v hv
   refine ⟨?_,g5⟩
   subst h1
   rw [lkN (by rintro rfl; rw [g5] at hk; cases hk)]
   exact g4
end
def SgOk (n:Int):Sg → Prop
 | .un=>True
 | .pos=>0 < n
 | .npos=>n ≤ 0
 | .zero=>n = 0
 | .nzero=>n ≠ 0
def rdOne (cx:Cx) (f:Fld):RS → Option (T × RS):=rdVal f.of false cx.flex (rdP f.sub cx.V cx.flex)
def RowAt (w:World) (Y:Nat → Prop) (f:Fld) (tg:Bool) (z:List Value) (e:Lv) (xs:List T):Prop:=∃ D slack ety,w.heap[e.lb]? = some (.cells (D ++ many (e.cnt.toNat - xs.length) z ++ slack).toArray ety (0,0)) ∧
 RepE w Y (widVal f.of (-1) (widS f.sub tg)) (xs.map (ddVal f.of (-1) (ddS f.sub tg))) D
def ZOk (f:Fld) (tg:Bool) (z:List Value):Prop:=z.length = widVal f.of (-1) (widS f.sub tg) ∧ oneCells z = true
def PdOk (cx:Cx) (w0 w:World) (Y:Nat → Prop) (f:Fld) (tg:Bool) (e:Lv) (s1 s:RS) (p:Pd):Prop :=
 e.cnt = (rdCnt cx.flex s1).1 ∧ (∀ b,p.bk = some b → (rdCnt cx.flex s1).2.bad = b) ∧ SgOk e.cnt p.sg ∧
 (p.lp = false → s = (rdCnt cx.flex s1).2) ∧
 (p.lp = true → ∃ xs,xs.length = e.cnt.toNat ∧ rdEach (rdOne cx f) e.cnt.toNat (rdCnt cx.flex s1).2 = some (xs,s) ∧ ∀ z,p.z = some z → ZOk f tg z ∧ (0 < e.cnt → w0.heap.size ≤ e.lb ∧ RowAt w Y f tg z e xs)) ∧
 (p.lp = false → ∀ z,p.z = some z → ZOk f tg z ∧ (0 < e.cnt → w0.heap.size ≤ e.lb ∧ RowAt w Y f tg z e []))
def Yl (Y:Nat → Prop) (σ : St) (e:Lv):Nat → Prop:=fun k=>Y k ∨ (∃ p z,σ.pd = some p ∧ p.z = some z ∧ 0 < e.cnt ∧ k = e.lb)
def Same (cur:Nat) (e0 e:Nat → Lv):Prop:=(∀ l,l ≠ cur → e l = e0 l) ∧ (e cur).b = (e0 cur).b ∧ (e cur).off = (e0 cur).off ∧ (e cur).ty = (e0 cur).ty ∧ (e cur).ix = (e0 cur).ix ∧ (e cur).pre = (e0 cur).pre ∧ (e cur).post = (e0 cur).post
theorem Same.refl (cur:Nat) (e:Nat → Lv):Same cur e e:=⟨fun _ _=>rfl,rfl,rfl,rfl,rfl,rfl,rfl⟩
def spec (E:En) (s:LS) (σ : St) (items:List It) (g0:G) (s0:RS) (e:Lv) (sb:RS):Prop :=
 runI s.fs E.cx.V E.cx.flex items g0 s0 = runI s.fs E.cx.V E.cx.flex σ.todo e.g sb
structure Inv (E:En) (e0:Nat → Lv) (w0:World) (Y:Nat → Prop) (items:List It) (g0:G) (s0:RS) (σ : St) (a:Act) (w:World) (e:Nat → Lv) (l:List (Nat × Value)) (s:RS) (cs:List Value) (S:LS):Prop where
 ls:E.ls[E.cur]? = some S
 same:Same E.cur e0 e
 kn:Kn E.cx.n l a
 sr:SR E w (Yl Y σ (e E.cur)) e σ.sl l
 agr:Agr (fun k=>k = E.rb ∨ k = (e0 E.cur).b) w0 w
 rdr:RdrAt w (Yl Y σ (e E.cur)) E.rb E.cx.er s
 blk:w.heap[(e0 E.cur).b]? = some (.cells ((e0 E.cur).pre ++ cs ++ (e0 E.cur).post).toArray (e0 E.cur).ty (0,0))
 cel:ACs w (Yl Y σ (e E.cur)) S.fs S.tg (e E.cur).g σ.cells cs
 none_ : σ.pd = none → spec E S σ items g0 s0 (e E.cur) s
 pend:∀ p,σ.pd = some p → ∃ i r s1,σ.todo = .fld i :: r ∧ (S.fs.getD i FNIL).kind = 11 ∧ spec E S σ items g0 s0 (e E.cur) s1 ∧ PdOk E.cx w0 w (Yl Y σ (e E.cur)) (S.fs.getD i FNIL) S.tg (e E.cur) s1 s p
 fr : σ.fr = true → (e E.cur).bad = s.bad
structure Base (E:En) (e0:Nat → Lv) (w0:World) (Y:Nat → Prop):Prop where
 cfg:CfgOk E.cx
 old:∀ k,Y k → k < w0.heap.size
 yr:Y E.rb
 yb:Y (e0 E.cur).b
 ne:E.rb ≠ (e0 E.cur).b
 off:(e0 E.cur).off = (e0 E.cur).pre.length
 gl : ¬ Y E.cx.gb ∧ w0.cell? ⟨E.cx.gb,0,none⟩ = some E.cx.gv
theorem Base.glob {E:En} {e0:Nat → Lv} {w0 w:World} {Y:Nat → Prop} (B:Base E e0 w0 Y) (ag:Agr (fun k=>k = E.rb ∨ k = (e0 E.cur).b) w0 w):w.cell? ⟨E.cx.gb,0,none⟩ = some E.cx.gv:=by
 have hlt:=cell_lt B.gl.2
 rw [World.cell?_of_block (w:=w0) (w':=w) (a:=⟨E.cx.gb,0,none⟩) (ag.block _ hlt fun hx=>by
  rcases hx with hx | hx
  ·have hx':E.cx.gb = E.rb:=hx
   exact B.gl.1 (by rw [hx']; exact B.yr)
  ·have hx':E.cx.gb = (e0 E.cur).b:=hx
   exact B.gl.1 (by rw [hx']; exact B.yb))]
 exact B.gl.2
def ThingOf (E:En) (e0:Nat → Lv):Prop:=∀ s,E.ls[E.cur]? = some s → 0 < E.cur → s.top = false → (e0 E.cur).b = (e0 (E.cur - 1)).lb ∧ (e0 E.cur).off = (e0 E.cur).ix * widS s.fs s.tg ∧ ((e0 E.cur).ix:Int) < (e0 (E.cur - 1)).cnt
end Go.Mk.Er
namespace Go.Mk.Er
open Go Go.Mk
def IV (E:En) (e0:Nat → Lv) (w0:World) (Y:Nat → Prop) (items:List It) (g0:G) (s0:RS) (σ : St) (a:Act) (w:World):Prop:=∃ e l s cs S,Inv E e0 w0 Y items g0 s0 σ a w e l s cs S
theorem Yl_none {Y:Nat → Prop} {σ : St} {e:Lv} (h : σ.pd = none):Yl Y σ e = Y:=by
 funext k
 unfold Yl
 rw [h]
 simp
theorem Yl_sub {Y:Nat → Prop} {σ : St} {e:Lv} {k:Nat} (h:Y k):Yl Y σ e k:=.inl h
theorem put_spec {cx:Cx} {σ σ':St} {d:Nat} {v:AV} (h:put cx σ d v = some σ'):Nat.blt d cx.n = true ∧ σ' = { σ with sl:=(d,v) :: σ.sl }:=by
 unfold put at h
 split at h
 ·rename_i hb
  exact ⟨hb,(Option.some.inj h).symm⟩
 ·cases h
theorem toArr {α : Type} {xs:Array α} {l:List α} (h:xs.toList = l):xs = l.toArray:=by subst h; simp
theorem ckOf_mem:∀ {cfg:List (Nat × RK)} {f:Nat} {c:RK},ckOf cfg f = some c → (f,c) ∈ cfg
 | [],f,c,h=>by simp [ckOf] at h
 | (k,c') :: r,f,c,h=>by
  simp only [ckOf] at h
  split at h
  ·rename_i hb
   obtain rfl:=Nat.eq_of_beq_eq_true hb
   obtain rfl:=Option.some.inj h
   exact List.mem_cons_self
  ·exact List.mem_cons_of_mem _ (ckOf_mem h)
def AR (E:En) (w:World) (Y:Nat → Prop) (e:Nat → Lv):List AV → List Value → Prop
 | [],[]=>True
 | p :: r,q :: s=>VR E w Y e p q ∧ AR E w Y e r s
 | _,_=>False
theorem SR.evs {E:En} {w:World} {Y:Nat → Prop} {e:Nat → Lv} {sl:List (Nat × AV)} {l:List (Nat × Value)} (h:SR E w Y e sl l):∀ {xs:List Operand} {ars:List AV},aevs sl xs = some ars → ∃ vs,Mk.evs l xs vs ∧ AR E w Y e ars vs
 | [],ars,hx=>by simp only [aevs,Option.some.injEq] at hx; subst hx; exact ⟨[],trivial,trivial⟩
 | x :: r,ars,hx=>by
  simp only [aevs] at hx
  split at hx
  ·rename_i v vs hv hvs
   simp only [Option.some.injEq] at hx
   subst hx
   obtain ⟨u,h1,h2⟩:=h.ev hv
   obtain ⟨us,h3,h4⟩:=h.evs hvs
   exact ⟨u :: us,⟨h1,h3⟩,h2,h4⟩
  ·cases hx
theorem AR.one {E:En} {w:World} {Y:Nat → Prop} {e:Nat → Lv} {a:AV} {vs:List Value} (h:AR E w Y e [a] vs):∃ x,vs = [x] ∧ VR E w Y e a x:=by
 match vs,h with
 | [x],h=>exact ⟨x,rfl,h.1⟩
theorem sixteen_cells (s:List UInt8):(bv (sixteen s)).length = 16:=by rw [bv_length,sixteen_length]
section
variable {E:En} {e0 e:Nat → Lv} {w0 w w':World} {Y:Nat → Prop} {items:List It} {g0:G} {s0 s:RS} {σ σ':St} {a a':Act} {l:List (Nat × Value)} {cs:List Value} {S:LS}
theorem Inv.put (h:Inv E e0 w0 Y items g0 s0 σ a w e l s cs S) {d:Nat} {v:AV} {x:Value} (hk:Kn E.cx.n ((d,x) :: l) a') (hv:VR E w (Yl Y σ (e E.cur)) e v x):Inv E e0 w0 Y items g0 s0 { σ with sl:=(d,v) :: σ.sl } a' w e ((d,x) :: l) s cs S :=
 ⟨h.ls,h.same,hk,⟨rfl,hv,h.sr⟩,h.agr,h.rdr,h.blk,h.cel,h.none_,h.pend,h.fr⟩
def withG (e:Nat → Lv) (cur:Nat) (g:G):Nat → Lv:=fun l=>if l = cur then { e l with g:=g } else e l
def withC (e:Nat → Lv) (cur:Nat) (n:Int):Nat → Lv:=fun l=>if l = cur then { e l with cnt:=n } else e l
def withB (e:Nat → Lv) (cur:Nat) (b:Bool):Nat → Lv:=fun l=>if l = cur then { e l with bad:=b } else e l
def withL (e:Nat → Lv) (cur:Nat) (b:Nat):Nat → Lv:=fun l=>if l = cur then { e l with lb:=b } else e l
theorem withG_ne {cur l:Nat} {g:G} (h:l ≠ cur):withG e cur g l = e l:=by unfold withG; rw [if_neg h]
theorem withG_eq {cur:Nat} {g:G}:withG e cur g cur = { e cur with g:=g }:=by unfold withG; rw [if_pos rfl]
theorem withC_ne {cur l:Nat} {n:Int} (h:l ≠ cur):withC e cur n l = e l:=by unfold withC; rw [if_neg h]
theorem withC_eq {cur:Nat} {n:Int}:withC e cur n cur = { e cur with cnt:=n }:=by unfold withC; rw [if_pos rfl]
theorem withB_ne {cur l:Nat} {b:Bool} (h:l ≠ cur):withB e cur b l = e l:=by unfold withB; rw [if_neg h]
theorem withB_eq {cur:Nat} {b:Bool}:withB e cur b cur = { e cur with bad:=b }:=by unfold withB; rw [if_pos rfl]
theorem withL_ne {cur l b:Nat} (h:l ≠ cur):withL e cur b l = e l:=by unfold withL; rw [if_neg h]
theorem withL_eq {cur b:Nat}:withL e cur b cur = { e cur with lb:=b }:=by unfold withL; rw [if_pos rfl]
theorem Same.wG {cur:Nat} (h:Same cur e0 e) (g:G):Same cur e0 (withG e cur g):=by
 obtain ⟨h1,h2⟩:=h
 refine ⟨fun l hl=>by rw [withG_ne hl]; exact h1 l hl,?_⟩
 rw [withG_eq]; exact h2
theorem Same.wC {cur:Nat} (h:Same cur e0 e) (n:Int):Same cur e0 (withC e cur n):=by
 obtain ⟨h1,h2⟩:=h
 refine ⟨fun l hl=>by rw [withC_ne hl]; exact h1 l hl,?_⟩
 rw [withC_eq]; exact h2
theorem Same.wB {cur:Nat} (h:Same cur e0 e) (b:Bool):Same cur e0 (withB e cur b):=by
 obtain ⟨h1,h2⟩:=h
 refine ⟨fun l hl=>by rw [withB_ne hl]; exact h1 l hl,?_⟩
 rw [withB_eq]; exact h2
theorem Same.wL {cur:Nat} (h:Same cur e0 e) (b:Nat):Same cur e0 (withL e cur b):=by
 obtain ⟨h1,h2⟩:=h
 refine ⟨fun l hl=>by rw [withL_ne hl]; exact h1 l hl,?_⟩
 rw [withL_eq]; exact h2
def GOk:It → G → G → Prop
 | .fld i,g,g'=>(∀ j,j ≠ i → g'.q j = g.q j) ∧ g'.u = g.u
 | .tags,g,g'=>g'.q = g.q
theorem VR.unr {it:It} {g:G} (hg:GOk it (e E.cur).g g):∀ (v:AV) (x:Value),VR E w Y e v x → VR E w Y (withG e E.cur g) (AV.unr it v) x:=by
 have hb:∀ l,(withG e E.cur g l).b = (e l).b:=fun l=>by unfold withG; split <;> rfl
 have ho:∀ l,(withG e E.cur g l).off = (e l).off:=fun l=>by unfold withG; split <;> rfl
 have hc:∀ l,(withG e E.cur g l).cnt = (e l).cnt:=fun l=>by unfold withG; split <;> rfl
 have hl:∀ l,(withG e E.cur g l).lb = (e l).lb:=fun l=>by unfold withG; split <;> rfl
 have hi:∀ l,(withG e E.cur g l).ix = (e l).ix:=fun l=>by unfold withG; split <;> rfl
 have hm:∀ l x,Made (withG e E.cur g l) x ↔ Made (e l) x:=fun l x=>by unfold Made; rw [hc,hl]
 intro v x h
 cases v with
 | okb p=>cases it <;> trivial
 | res=>cases it <;> trivial
 | val j =>
  cases it with
  | fld i =>
   show VR E w Y _ (if Nat.beq i j then .junk else .val j) x
   split
   ·trivial
   ·rename_i hne
    obtain ⟨s,h1,h2,h3⟩:=h
    refine ⟨s,h1,?_,h3⟩
    rw [withG_eq]
    have:j ≠ i:=fun e=>hne (by rw [e]; simp)
    show Rep w Y (ddF _ _ (g.q j)) _
    rw [hg.1 j this]
    exact h2
  | tags =>
   obtain ⟨s,h1,h2,h3⟩:=h
   refine ⟨s,h1,?_,h3⟩
   rw [withG_eq]
   show Rep w Y (ddF _ _ (g.q j)) _
   rw [hg]
   exact h2
 | tagv =>
  cases it with
  | fld i =>
   show Rep w Y (ddTagMap (withG e E.cur g E.cur).g.u) _
   rw [withG_eq]
   show Rep w Y (ddTagMap g.u) _
   rw [hg.2]
   exact h
  | tags=>trivial
 | junk=>cases it <;> trivial
 | k u=>cases it <;> exact h
 | rdr=>cases it <;> exact h
 | ptr l o=>cases it <;> (show x = _; rw [hb,ho]; exact h)
 | cnt l=>cases it <;> (show x = _; rw [hc]; exact h)
 | gt0=>cases it <;> (show x = _; rw [hc]; exact h)
 | eq0=>cases it <;> (show x = _; rw [hc]; exact h)
 | base l m=>cases it <;> (show BaseOk _ m x; rw [hc]; exact h)
 | made=>cases it <;> (show 0 < _ ∧ Made _ x; rw [hc,hm]; exact h)
 | arr l m=>cases it <;> (show (0 < _ → Made _ x) ∧ (_ ≤ 0 → BaseOk _ m x); rw [hc,hm]; exact h)
 | box j =>
  cases it with
  | fld i =>
   show VR E w Y _ (if Nat.beq i j then .junk else .box j) x
   split
   ·trivial
   ·rename_i hne
    obtain ⟨s,b,h1,h2,h3,h4⟩:=h
    refine ⟨s,b,h1,h2,h3,?_⟩
    rw [withG_eq]
    have:j ≠ i:=fun e=>hne (by rw [e]; simp)
    show Cel w Y b 0 (bv (sixteen (g.q j).s))
    rw [hg.1 j this]
    exact h4
  | tags =>
   obtain ⟨s,b,h1,h2,h3,h4⟩:=h
   refine ⟨s,b,h1,h2,h3,?_⟩
   rw [withG_eq]
   show Cel w Y b 0 (bv (sixteen (g.q j).s))
   rw [hg]
   exact h4
 | idx l=>cases it <;> (show x = _; rw [hi]; exact h)
theorem ACs.free {fs:List Fld} {tg:Bool} {it:It} {g g':G} (hg:GOk it g g'):∀ {l:List AC} {c:List Value},l.all (AC.free it) = true → ACs w Y fs tg g l c → ACs w Y fs tg g' l c
 | [],[],_,_=>trivial
 | [],_ :: _,_,h=>h.elim
 | _ :: _,[],_,h=>h.elim
 | p :: r,x :: c,hf,h=>by
  simp only [List.all_cons,Bool.and_eq_true] at hf
  refine ⟨?_,ACs.free hg hf.2 h.2⟩
  have h1:=h.1
  have hf1:=hf.1
  cases p with
  | k v=>exact h1
  | got j =>
   show Rep w Y (ddF _ _ (g'.q j)) [x]
   cases it with
   | fld i =>
    have:j ≠ i:=fun e=>by subst e; simp [AC.free] at hf1
    rw [hg.1 j this]; exact h1
   | tags=>rw [hg]; exact h1
  | gotu j k =>
   show (bv (sixteen (g'.q j).s))[k]? = some x
   cases it with
   | fld i =>
    have:j ≠ i:=fun e=>by subst e; simp [AC.free] at hf1
    rw [hg.1 j this]; exact h1
   | tags=>rw [hg]; exact h1
  | sub j a =>
   show ACR w Y (fs.getD j FNIL).sub tg (gT (g'.q j)) a x
   cases it with
   | fld i =>
    have:j ≠ i:=fun e=>by subst e; simp [AC.free] at hf1
    rw [hg.1 j this]; exact h1
   | tags=>rw [hg]; exact h1
  | tags =>
   cases it with
   | fld i =>
    show Rep w Y (ddTagMap g'.u) [x]
    rw [hg.2]; exact h1
   | tags=>simp [AC.free] at hf1
theorem Inv.read (B:Base E e0 w0 Y) (h:Inv E e0 w0 Y items g0 s0 σ a w e l s cs S) (hpd : σ.pd = none) {it:It} {r:List It} (htodo : σ.todo = it :: r) (hfree : σ.cells.all (AC.free it) = true) {g:G} {s':RS} (hrd:rdI S.fs E.cx.V E.cx.flex (e E.cur).g s it = some (g,s'))
  (hg:GOk it (e E.cur).g g)
  (hag:Agr (fun k=>k = E.rb) w w') (hr:RdrAt w' (fun b=>b < w.heap.size ∧ Y b) E.rb E.cx.er s') {d:Nat} {v:AV} {x:Value} (hk:Kn E.cx.n ((d,x) :: l) a') (hv:VR E w' Y (withG e E.cur g) v x) :
  Inv E e0 w0 Y items g0 s0 ⟨(d,v) :: mapV (AV.unr it) σ.sl,σ.cells,r,none,false⟩ a' w' (withG e E.cur g) ((d,x) :: l) s' cs S:=by
 have hY:=Yl_none (Y:=Y) (e:=e E.cur) hpd
 have hsz:=h.agr.size
 have hmv:∀ i,i < w.heap.size → ¬ Y i → w'.heap[i]? = w.heap[i]? ∧ ¬ Y i:=fun i hi hy=>⟨hag.block i hi (fun e=>hy (by rw [e]; exact B.yr)),hy⟩
 have hsr:=h.sr
 have hcel:=h.cel
 have hrdr:=h.rdr
 rw [hY] at hsr hcel hrdr
 have hYn:∀ (σ : St) (e:Lv),σ.pd = none → Yl Y σ e = Y:=fun σ e h=>Yl_none h
 refine ⟨h.ls,h.same.wG g,hk,?_,h.agr.trans hag (fun _ _ x=>x) (fun _ _ x=>.inl x),?_,?_,?_,fun _=>?_,fun p hp=>(by cases hp),fun hp=>(by cases hp)⟩
 ·rw [hYn _ _ rfl]
  exact ⟨rfl,hv,(hsr.move hmv).map (VR.unr hg)⟩
 ·rw [hYn _ _ rfl]
  obtain ⟨u,h1,h2⟩:=hr
  exact ⟨u,h1,Rep.move (fun i hi hn=>⟨rfl,fun hy=>hn ⟨Nat.lt_of_lt_of_le (B.old i hy) hsz,hy⟩⟩) _ _ h2⟩
 ·rw [hag.block _ (Array.getElem?_eq_some_iff.1 h.blk).1 (Ne.symm B.ne)]
  exact h.blk
 ·rw [hYn _ _ rfl,withG_eq]
  exact (hcel.move hmv).free hg hfree
 ·have hsp:=h.none_ hpd
  unfold spec at hsp ⊢
  rw [hsp,htodo]
  show (rdI S.fs E.cx.V E.cx.flex (e E.cur).g s it).bind _ = _
  rw [hrd,withG_eq]
  rfl
theorem Yl_z {σ : St} {e:Lv} (h:∀ p,σ.pd = some p → p.z = none):Yl Y σ e = Y:=by
 funext k
 unfold Yl
 refine propext ⟨fun hk=>hk.elim id ?_,.inl⟩
 rintro ⟨p,z,h1,h2,_⟩
 rw [h p h1] at h2
 cases h2
theorem VR.unl {n:Int}:∀ (v:AV) (x:Value),VR E w Y e v x → VR E w Y (withC e E.cur n) (AV.unl E.cur v) x:=by
 have hb:∀ l,(withC e E.cur n l).b = (e l).b:=fun l=>by unfold withC; split <;> rfl
 have ho:∀ l,(withC e E.cur n l).off = (e l).off:=fun l=>by unfold withC; split <;> rfl
 have hi:∀ l,(withC e E.cur n l).ix = (e l).ix:=fun l=>by unfold withC; split <;> rfl
 have hg:(withC e E.cur n E.cur).g = (e E.cur).g:=by rw [withC_eq]
 intro v x h
 cases v with
 | okb p=>trivial
 | res=>trivial
 | val j =>
  obtain ⟨s,h1,h2,h3⟩:=h
  exact ⟨s,h1,by rw [hg]; exact h2,h3⟩
 | tagv=>show Rep w Y (ddTagMap (withC e E.cur n E.cur).g.u) _; rw [hg]; exact h
 | junk=>trivial
 | k u=>exact h
 | rdr=>exact h
 | ptr l o=>show x = _; rw [hb,ho]; exact h
 | cnt l =>
  show VR E w Y _ (if Nat.beq l E.cur then .junk else .cnt l) x
  split
  ·trivial
  ·rename_i hne
   show x = _
   rw [withC_ne (fun e=>hne (by rw [e]; simp))]
   exact h
 | gt0=>trivial
 | eq0=>trivial
 | made=>trivial
 | box j =>
  obtain ⟨s,b,h1,h2,h3,h4⟩:=h
  exact ⟨s,b,h1,h2,h3,by rw [hg]; exact h4⟩
 | base l m =>
  cases m with
  | nn=>exact h
  | ne=>exact h
  | nz =>
   show VR E w Y _ (if Nat.beq l E.cur then .junk else .base l .nz) x
   split
   ·trivial
   ·rename_i hne
    show BaseOk (withC e E.cur n l).cnt Md.nz x
    rw [withC_ne (fun e=>hne (by rw [e]; simp))]
    exact h
 | arr l m =>
  show VR E w Y _ (if Nat.beq l E.cur then .junk else .arr l m) x
  split
  ·trivial
  ·rename_i hne
   show (0 < _ → Made _ x) ∧ (_ ≤ 0 → BaseOk _ m x)
   rw [withC_ne (fun e=>hne (by rw [e]; simp))]
   exact h
 | idx l=>show x = _; rw [hi]; exact h
theorem VR.unf {b:Bool}:∀ (v:AV) (x:Value),VR E w Y e v x → VR E w Y (withB e E.cur b) (AV.unf v) x:=by
 have hl:∀ l,∃ b',withB e E.cur b l = { e l with bad:=b' }:=fun l=>by unfold withB; split; exact ⟨b,rfl⟩; exact ⟨(e l).bad,rfl⟩
 intro v x h
 cases v with
 | okb p=>trivial
 | res=>trivial
 | val j =>
  obtain ⟨s,h1,h2,h3⟩:=h
  obtain ⟨b',hb⟩:=hl E.cur
  exact ⟨s,h1,by rw [hb]; exact h2,h3⟩
 | tagv=>obtain ⟨b',hb⟩:=hl E.cur; show Rep w Y (ddTagMap (withB e E.cur b E.cur).g.u) _; rw [hb]; exact h
 | junk=>trivial
 | k u=>exact h
 | rdr=>exact h
 | ptr l o=>obtain ⟨b',hb⟩:=hl l; show x = _; rw [hb]; exact h
 | cnt l=>obtain ⟨b',hb⟩:=hl l; show x = _; rw [hb]; exact h
 | gt0=>obtain ⟨b',hb⟩:=hl E.cur; show x = _; rw [hb]; exact h
 | eq0=>obtain ⟨b',hb⟩:=hl E.cur; show x = _; rw [hb]; exact h
 | made=>obtain ⟨b',hb⟩:=hl E.cur; show 0 < (withB e E.cur b E.cur).cnt ∧ Made _ x; rw [hb]; exact h
 | box j =>
  obtain ⟨s,b1,h1,h2,h3,h4⟩:=h
  obtain ⟨b',hb⟩:=hl E.cur
  exact ⟨s,b1,h1,h2,h3,by rw [hb]; exact h4⟩
 | base l m=>obtain ⟨b',hb⟩:=hl l; show BaseOk _ m x; rw [hb]; exact h
 | arr l m=>obtain ⟨b',hb⟩:=hl l; show (0 < _ → Made _ x) ∧ (_ ≤ 0 → BaseOk _ m x); rw [hb]; exact h
 | idx l=>obtain ⟨b',hb⟩:=hl l; show x = _; rw [hb]; exact h
theorem RowAt.move {f:Fld} {tg:Bool} {z:List Value} {lv:Lv} {xs:List T} {Y':Nat → Prop} (hm:∀ i,i < w.heap.size → ¬ Y i → w'.heap[i]? = w.heap[i]? ∧ ¬ Y' i) (hb:w'.heap[lv.lb]? = w.heap[lv.lb]?) (h:RowAt w Y f tg z lv xs):RowAt w' Y' f tg z lv xs:=by
 obtain ⟨D,sl,ety,h1,h2⟩:=h
 exact ⟨D,sl,ety,hb.trans h1,RepE.move hm _ _ _ h2⟩
theorem PdOk.move {cx:Cx} {f:Fld} {tg:Bool} {lv:Lv} {s1 s:RS} {p:Pd} {Y':Nat → Prop} (hm:∀ i,i < w.heap.size → ¬ Y i → w'.heap[i]? = w.heap[i]? ∧ ¬ Y' i) (hb:w0.heap.size ≤ lv.lb → lv.lb < w.heap.size → w'.heap[lv.lb]? = w.heap[lv.lb]?) (h:PdOk cx w0 w Y f tg lv s1 s p):PdOk cx w0 w' Y' f tg lv s1 s p:=by
 obtain ⟨h1,h2,h3,h4,h5,h6⟩:=h
 have hlt:∀ {z:List Value} {xs:List T},RowAt w Y f tg z lv xs → lv.lb < w.heap.size:=fun h=>by
  obtain ⟨_,_,_,h,_⟩:=h
  exact (Array.getElem?_eq_some_iff.1 h).1
 refine ⟨h1,h2,h3,h4,fun hp=>?_,fun hp z hz=>?_⟩
 ·obtain ⟨xs,k1,k2,k3⟩:=h5 hp
  refine ⟨xs,k1,k2,fun z hz=>⟨(k3 z hz).1,fun hc=>?_⟩⟩
  obtain ⟨k4,k5⟩:=(k3 z hz).2 hc
  exact ⟨k4,k5.move hm (hb k4 (hlt k5))⟩
 ·refine ⟨(h6 hp z hz).1,fun hc=>?_⟩
  obtain ⟨k4,k5⟩:=(h6 hp z hz).2 hc
  exact ⟨k4,k5.move hm (hb k4 (hlt k5))⟩
theorem ACs.set1 {fs:List Fld} {tg:Bool} {g:G} {v:Value}:∀ {l:List AC} {c:List Value} (i:Nat),ACs w Y fs tg g l c → ACs w Y fs tg g (l.set i (.k v)) (c.set i v)
 | [],[],_,_=>trivial
 | _ :: _,_ :: _,0,h=>⟨rfl,h.2⟩
 | _ :: _,_ :: _,i + 1,h=>⟨h.1,ACs.set1 i h.2⟩
 | [],_ :: _,_,h=>h.elim
 | _ :: _,[],_,h=>h.elim
theorem setA_spec {fs:List Fld} {tg:Bool} {g:G}:∀ {ds:List (Nat × Value)} {l:List AC} {c:List Value},ACs w Y fs tg g l c → ACs w Y fs tg g (setA ds l) (setL ds c)
 | [],_,_,h=>h
 | d :: r,_l,_c,h=>setA_spec (ds:=r) (ACs.set1 d.1 h)
theorem Inv.write (B:Base E e0 w0 Y) (h:Inv E e0 w0 Y items g0 s0 σ a w e l s cs S) {cells:List AC} {cs':List Value} (hag:Agr (fun k=>k = (e0 E.cur).b) w w') (hb:w'.heap[(e0 E.cur).b]? = some (.cells ((e0 E.cur).pre ++ cs' ++ (e0 E.cur).post).toArray (e0 E.cur).ty (0,0)))
  (hc:ACs w (Yl Y σ (e E.cur)) S.fs S.tg (e E.cur).g cells cs') (hk:Kn E.cx.n l a'):Inv E e0 w0 Y items g0 s0 { σ with cells:=cells } a' w' e l s cs' S:=by
 have hmv:∀ i,i < w.heap.size → ¬ Yl Y σ (e E.cur) i → w'.heap[i]? = w.heap[i]? ∧ ¬ Yl Y σ (e E.cur) i:=fun i hi hy=>⟨hag.block i hi (fun e=>hy (.inl (by rw [e]; exact B.yb))),hy⟩
 refine ⟨h.ls,h.same,hk,h.sr.move hmv,h.agr.trans hag (fun _ _ x=>x) (fun _ _ x=>.inr x),?_,hb,hc.move hmv,h.none_,fun p hp=>?_,h.fr⟩
 ·obtain ⟨u,h1,h2⟩:=h.rdr
  have hlt:=(Array.getElem?_eq_some_iff.1 h1).1
  exact ⟨u,by rw [hag.block _ hlt B.ne]; exact h1,Rep.move hmv _ _ h2⟩
 ·obtain ⟨i,r,s1,k1,k2,k3,k4⟩:=h.pend p hp
  refine ⟨i,r,s1,k1,k2,k3,k4.move hmv fun q1 q2=>hag.block _ q2 (fun e=>?_)⟩
  have:=B.old _ B.yb
  omega
end
theorem rdV_cp {kind:Nat} {nul cp flex:Bool} {s:RS} (h:kind < 8 ∨ cp = flex):rdV kind nul cp s = rdV kind nul flex s:=by
 rcases h with h | h
 ·match kind,h with
  | 0,_=>rfl
  | 1,_=>rfl
  | 2,_=>rfl
  | 3,_=>rfl
  | 4,_=>rfl
  | 5,_=>rfl
  | 6,_=>rfl
  | 7,_=>rfl
 ·rw [h]
theorem rdF_val {f:Fld} {V:Int} {flex:Bool} {s:RS} (h:f.kind < 10):rdF f V flex s = some (rdV f.kind (f.mayR V) flex s):=by
 rw [rdF_eq]
 unfold rdQ
 rw [if_neg (by omega),if_neg (by omega)]
 exact rdV_eq (by omega)
theorem ddF_val {f:Fld} {tg:Bool} {t:T} (h:f.kind ≠ 11):ddF f tg t = ddVal f.kind f.nu (ddS f.sub tg) t:=by
 cases f with
 | mk kind fr to nu tag df of sub =>
  unfold ddF
  rw [if_neg (show ¬ kind = 11 from h)]
  rfl
section
variable {E:En} {e0 e:Nat → Lv} {w0 w w':World} {Y:Nat → Prop} {items:List It} {g0:G} {s0 s:RS} {σ σ':St} {a a':Act} {l:List (Nat × Value)} {cs:List Value} {S:LS}
variable {ops:Array Oper} {Q:Exit → Act → World → Prop} {rest:List Oper} {d:Option Nat} {ty:Nat} {ps:String} {af:Array Edge} {f:Nat} {xs:List Operand} {tys:Array Nat} {vs:List Value} {ars:List AV}
theorem xcall_sound (B:Base E e0 w0 Y) (hI:Inv E e0 w0 Y items g0 s0 σ a w e l s cs S) (hx:Mk.evs l xs vs) (ha:AR E w (Yl Y σ (e E.cur)) e ars vs) (h:xcall E.cx E.ls E.cur σ d (ckOf E.cx.cfg f) ars = some σ')
    (K:∀ a' w',IV E e0 w0 Y items g0 s0 σ' a' w' → wpList E.cx.P ops Q rest a' w'):wpList E.cx.P ops Q (⟨d,.call ⟨.value (.func f),xs.toArray,tys⟩,ty,ps,af,none⟩ :: rest) a w:=by
  cases hck:ckOf E.cx.cfg f with
  | none=>rw [hck] at h; simp [xcall] at h
  | some ck =>
    obtain ⟨hc,hcal⟩:=B.cfg f ck (ckOf_mem hck)
    rw [hck] at h
    have hsz:=hI.agr.size
    have back:∀ {w':World} {d:DD} {c:List Value},Rep w' (fun b=>b < w.heap.size ∧ Y b) d c → Rep w' Y d c:=fun hr =>
      Rep.move (fun i _ hn=>⟨rfl,fun hy=>hn ⟨Nat.lt_of_lt_of_le (B.old i hy) hsz,hy⟩⟩) _ _ hr
    unfold xcall at h
    split at h
    · -- a value
      rename_i kind nul cp hck'
      obtain rfl:=Option.some.inj hck'
      split at h
      · rename_i d1 i r s1 hto hls hpd
        split at h
        · rename_i hb
          simp only [Bool.and_eq_true,Bool.or_eq_true,Bool.not_eq_true',beq_iff_eq] at hb
          obtain ⟨⟨⟨⟨b1,b2⟩,b3⟩,b4⟩,b5⟩:=hb
          split at h
          · rename_i hfree
            obtain ⟨hdn,rfl⟩:=put_spec h
            have hls':=hI.ls
            rw [hls] at hls'
            obtain rfl:=Option.some.inj hls'
            have hpd' : σ.pd = none:=by
              cases hp : σ.pd with
              | none=>rfl
              | some p=>rw [hp] at hpd; cases hpd
            have hk:=Nat.eq_of_beq_eq_true b1
            have hk10:kind < 10:=by simpa [Nat.blt_eq] using b2
            obtain ⟨x,rfl,rfl⟩:=ha.one
            have hY:=Yl_none (Y:=Y) (e:=e E.cur) hpd'
            have hrdr:=hI.rdr
            rw [hY] at hrdr
            refine o_call hI.kn hcal (hc (s1.fs.getD i FNIL).nu (ddS (s1.fs.getD i FNIL).sub s1.tg) (fun h8=>?_) hrdr B.yr) hx hdn fun v w' a' hv hk'=>?_
            · rcases b4 with b4 | b4
              · rw [h8] at b4; simp at b4
              · exact b4
            · obtain ⟨v1,v2,v3⟩:=hv
              have hrd:rdF (s1.fs.getD i FNIL) E.cx.V E.cx.flex s = some (rdV kind nul cp s):=by
                rw [rdF_val (by omega),hk,← b3]
                congr 1
                refine (rdV_cp ?_).symm
                rcases b5 with b5 | b5
                · exact .inl (by simpa [Nat.blt_eq] using b5)
                · exact .inr b5
              refine K a' w' ⟨_,_,_,_,_,hI.read B hpd' hto hfree (g:=(e E.cur).g.set i (rdV kind nul cp s).1) (s':=(rdV kind nul cp s).2) (by
                show (rdF (s1.fs.getD i FNIL) E.cx.V E.cx.flex s).map _ = _
                rw [hrd]; rfl) ⟨fun j hj=>by simp [G.set,hj],rfl⟩ v1 v3 hk' (v:=.val i) ⟨s1,hls,?_,fun h7=>v2.2 (by rw [← hk]; exact h7)⟩⟩
              rw [withG_eq]
              have:((e E.cur).g.set i (rdV kind nul cp s).1).q i = (rdV kind nul cp s).1:=by simp [G.set]
              show Rep w' Y (ddF _ _ (((e E.cur).g.set i (rdV kind nul cp s).1).q i)) _
              rw [this,ddF_val (by omega),hk]
              exact back v2.1
          · cases h
        · cases h
      · cases h
    · -- a count
      rename_i cp hck'
      obtain rfl:=Option.some.inj hck'
      split at h
      · rename_i d1 i r s1 hto hls hpd
        split at h
        · rename_i hb
          simp only [Bool.and_eq_true,beq_iff_eq] at hb
          obtain ⟨b1,rfl⟩:=hb
          obtain ⟨hdn,rfl⟩:=put_spec h
          have hls':=hI.ls
          rw [hls] at hls'
          obtain rfl:=Option.some.inj hls'
          have hpd' : σ.pd = none:=by
            cases hp : σ.pd with
            | none=>rfl
            | some p=>rw [hp] at hpd; cases hpd
          have hk:=Nat.eq_of_beq_eq_true b1
          obtain ⟨x,rfl,rfl⟩:=ha.one
          have hY:=Yl_none (Y:=Y) (e:=e E.cur) hpd'
          have hrdr:=hI.rdr
          have hsr:=hI.sr
          have hcel:=hI.cel
          rw [hY] at hrdr hsr hcel
          refine o_call hI.kn hcal (hc hrdr B.yr) hx hdn fun v w' a' hv hk'=>?_
          obtain ⟨v1,rfl,v3⟩:=hv
          have hmv:∀ i,i < w.heap.size → ¬ Y i → w'.heap[i]? = w.heap[i]? ∧ ¬ Y i:=fun i hi hy=>⟨v1.block i hi (fun e=>hy (by rw [e]; exact B.yr)),hy⟩
          have hYn:∀ (σ : St) (lv:Lv),σ.pd = some ⟨none,.un,none,false⟩ → Yl Y σ lv = Y:=fun σ lv h=>Yl_z fun p hp=>by
            rw [h] at hp
            obtain rfl:=Option.some.inj hp
            rfl
          refine K a' w' ⟨withC e E.cur (rdCnt E.cx.flex s).1,(d1,.int .i32 (rdCnt E.cx.flex s).1) :: l,(rdCnt E.cx.flex s).2,cs,s1,?_⟩
          refine ⟨hls,hI.same.wC _,hk',?_,hI.agr.trans v1 (fun _ _ x=>x) (fun _ _ x=>.inl x),?_,?_,?_,fun hp=>(by cases hp),fun p hp=>?_,fun hp=>(by cases hp)⟩
          · rw [hYn _ _ rfl]
            exact ⟨rfl,by show _ = Value.int .i32 (withC e E.cur (rdCnt E.cx.flex s).1 E.cur).cnt; rw [withC_eq],(hsr.move hmv).map VR.unl⟩
          · rw [hYn _ _ rfl]
            obtain ⟨u,h1,h2⟩:=v3
            exact ⟨u,h1,back h2⟩
          · rw [v1.block _ (Array.getElem?_eq_some_iff.1 hI.blk).1 (Ne.symm B.ne)]
            exact hI.blk
          · rw [hYn _ _ rfl,withC_eq]
            exact hcel.move hmv
          · obtain rfl:=Option.some.inj hp
            refine ⟨i,r,s,hto,hk,?_,?_⟩
            · have hsp:=hI.none_ hpd'
              unfold spec at hsp ⊢
              rw [hsp,withC_eq]
            · rw [withC_eq]
              exact ⟨rfl,fun b hb=>(by cases hb),trivial,fun _=>rfl,fun hb=>(by cases hb),fun _ z hz=>(by cases hz)⟩
        · cases h
      · cases h
    · -- ok?
      rename_i hck'
      obtain rfl:=Option.some.inj hck'
      split at h
      · rename_i d1
        obtain ⟨hdn,rfl⟩:=put_spec h
        obtain ⟨x,rfl,rfl⟩:=ha.one
        refine o_call hI.kn hcal (hc hI.rdr) hx hdn fun v w' a' hv hk'=>?_
        obtain ⟨rfl,rfl⟩:=hv
        refine K a' w' ⟨withB e E.cur s.bad,(d1,.bool (!s.bad)) :: l,s,cs,S,?_⟩
        have hY:∀ sl fr,Yl Y ⟨sl,σ.cells,σ.todo,σ.pd,fr⟩ (withB e E.cur s.bad E.cur) = Yl Y σ (e E.cur):=fun sl fr=>by rw [withB_eq]; rfl
        refine ⟨hI.ls,hI.same.wB _,hk',?_,hI.agr,?_,hI.blk,?_,fun hp=>?_,fun p hp=>?_,fun _=>by rw [withB_eq]⟩
        · rw [hY]
          exact ⟨rfl,by show _ = Value.bool (if true then !(withB e E.cur s.bad E.cur).bad else _); rw [withB_eq]; rfl,hI.sr.map VR.unf⟩
        · rw [hY]; exact hI.rdr
        · rw [hY,withB_eq]; exact hI.cel
        · have:=hI.none_ hp; rw [withB_eq]; exact this
        · obtain ⟨i,r,s1,k1,k2,k3,k4⟩:=hI.pend p hp
          rw [hY,withB_eq]
          exact ⟨i,r,s1,k1,k2,k3,k4⟩
      · cases h
    · -- the end
      rename_i hck'
      obtain rfl:=Option.some.inj hck'
      split at h
      · rename_i d1
        obtain ⟨hdn,rfl⟩:=put_spec h
        obtain ⟨x,rfl,rfl⟩:=ha.one
        refine o_call hI.kn hcal (hc hI.rdr (B.glob hI.agr)) hx hdn fun v w' a' hv hk'=>?_
        obtain ⟨rfl,hv1,hv2⟩:=hv
        refine K a' w' ⟨withB e E.cur s.bad,(d1,v) :: l,s,cs,S,?_⟩
        have hY:∀ sl fr,Yl Y ⟨sl,σ.cells,σ.todo,σ.pd,fr⟩ (withB e E.cur s.bad E.cur) = Yl Y σ (e E.cur):=fun sl fr=>by rw [withB_eq]; rfl
        refine ⟨hI.ls,hI.same.wB _,hk',?_,hI.agr,?_,hI.blk,?_,fun hp=>?_,fun p hp=>?_,fun _=>by rw [withB_eq]⟩
        · rw [hY]
          exact ⟨rfl,by
            show ((withB e E.cur s.bad E.cur).bad = false → _) ∧ ((withB e E.cur s.bad E.cur).bad = true → _)
            rw [withB_eq]; exact ⟨hv1,hv2⟩,hI.sr.map VR.unf⟩
        · rw [hY]; exact hI.rdr
        · rw [hY,withB_eq]; exact hI.cel
        · have:=hI.none_ hp; rw [withB_eq]; exact this
        · obtain ⟨i,r,s1,k1,k2,k3,k4⟩:=hI.pend p hp
          rw [hY,withB_eq]
          exact ⟨i,r,s1,k1,k2,k3,k4⟩
      · cases h
    · -- tags
      rename_i hck'
      obtain rfl:=Option.some.inj hck'
      split at h
      · rename_i d1 r hto hpd
        split at h
        · rename_i hfree
          obtain ⟨hdn,rfl⟩:=put_spec h
          have hpd' : σ.pd = none:=by
            cases hp : σ.pd with
            | none=>rfl
            | some p=>rw [hp] at hpd; cases hpd
          obtain ⟨x,rfl,rfl⟩:=ha.one
          have hY:=Yl_none (Y:=Y) (e:=e E.cur) hpd'
          have hrdr:=hI.rdr
          rw [hY] at hrdr
          refine o_call hI.kn hcal (hc hrdr B.yr) hx hdn fun v w' a' hv hk'=>?_
          obtain ⟨v1,v2,v3⟩:=hv
          refine K a' w' ⟨_,_,_,_,_,hI.read B hpd' hto hfree (g:=⟨(e E.cur).g.q,(rdTags s).1⟩) (s':=(rdTags s).2) rfl rfl v1 v3 hk' (v:=.tagv) ?_⟩
          show Rep w' Y (ddTagMap (withG e E.cur _ E.cur).g.u) _
          rw [withG_eq]
          exact back v2
        · cases h
      · cases h
    · -- defaults
      rename_i ds l1 hck'
      obtain rfl:=Option.some.inj hck'
      split at h
      all_goals first
        | (rename_i hb
           simp only [Bool.and_eq_true,List.all_eq_true] at hb
           obtain ⟨hl,hds⟩:=hb
           obtain rfl:=Nat.eq_of_beq_eq_true hl
           obtain ⟨x,rfl,rfl⟩:=ha.one
           have hlen:=hI.cel.length
           have hoff:(e E.cur).off + 0 = (e0 E.cur).pre.length:=by rw [Nat.add_zero,hI.same.2.2.1,B.off]
           have hbb:=hI.same.2.1
           have hdl:∀ p ∈ ds,p.1 < cs.length:=fun p hp=>by have:=(hds p hp).1; rw [← hlen]; simpa [Nat.blt_eq] using this
           have hc':=hc hI.blk hdl
           rw [← hoff,← hbb] at hc'
           first
             | (obtain rfl:=Option.some.inj h
                refine o_callU hI.kn hcal hc' hx fun v w' a' hv hk'=>?_
                rw [hbb] at hv
                exact K a' w' ⟨e,l,s,_,S,hI.write B hv.1 hv.2 (setA_spec hI.cel) hk'⟩)
             | (obtain ⟨hdn,rfl⟩:=put_spec h
                refine o_call hI.kn hcal hc' hx hdn fun v w' a' hv hk'=>?_
                rw [hbb] at hv
                have hW:=hI.write B hv.1 hv.2 (setA_spec hI.cel) hI.kn
                exact K a' w' ⟨e,_,s,_,S,hW.put hk' trivial⟩))
        | cases h
    · cases h
end
end Go.Mk.Er
