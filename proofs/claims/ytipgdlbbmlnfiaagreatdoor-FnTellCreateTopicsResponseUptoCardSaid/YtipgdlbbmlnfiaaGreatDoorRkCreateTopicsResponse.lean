/- Walks of functions that the seat's laws reach. -/
import Derived.Test.YtipgdlbbmlnfiaaGreatDoorL4
import Derived.Test.YtipgdlbbmlnfiaaGreatDoorRows
import Derived.Test.YtipgdlbbmlnfiaaGreatDoorFa
import Derived.Test.YtipgdlbbmlnfiaaGreatDoorRj
import Derived.Test.YtipgdlbbmlnfiaaGreatDoorSch
namespace Go.Proofs.YtipgdlbbmlnfiaaGreatDoor
open Go Go.Mk
theorem aEQ {good gv:Value}{gb:Nat}:Er.RkOk Tryz.prog 142 good gb gv 90 (.dflt []):=Er.rk_dflt0 (er:=142) (good:=good) (gb:=gb) (gv:=gv) Tryz.func90 rfl rfl rfl
theorem aGt {good gv:Value}{gb:Nat}:Er.RkOk Tryz.prog 142 good gb gv 138 (.dflt [(20,(.int .i32 (-1):Value)),(21,(.int .i16 (-1):Value))]):=by
  intro w0 b ty pre c post hbk hd
  have h0 : 20<c.length:=hd (20,.int .i32 (-1)) (by simp)
  have h1 : 21<c.length:=hd (21,.int .i16 (-1)) (by simp)
  refine aAy Tryz.func138 rfl rfl fun a hk=>?_
  have hk:Kn 8 [(0,.pointer (some ⟨b,pre.length,none⟩))] a:=hk
  have hm:Mem w0 (fun k=>k=b) (fun k=>k=b) [.blk b (pre++c++post) ty] w0:=Mem.startBlk (Z:=fun k=>k=b) (m:=[]) hbk rfl rfl (by simp)
  refine cR0 ?_
  refine oM0 hk rfl rfl fun a hk=>?_
  refine oN0 hk rfl rfl fun a hk=>?_
  refine oF0 hk aSn rfl rfl fun a hk=>?_
  refine aAz (i:=0) hk hm aIe rfl rfl rfl rfl rfl rfl (show pre.length+20+1≤_ by simp only[List.length_append];omega) fun a w hk hm=>?_
  have hm:Mem w0 (fun k=>k=b) (fun k=>k=b) [.blk b (pre++(c.set 20 (.int .i32 (-1)))++post) ty] w:=by rw[← aJr (by simpa using h0)];exact hm
  refine cE0 ?_
  refine aC2 ?_
  refine oM0 hk rfl rfl fun a hk=>?_
  refine oN0 hk rfl rfl fun a hk=>?_
  refine oF0 hk aR1 rfl rfl fun a hk=>?_
  refine aAz (i:=0) hk hm aMb rfl rfl rfl rfl rfl rfl (show pre.length+21+1≤_ by simp only[List.length_append,List.length_set];omega) fun a w hk hm=>?_
  have hm:Mem w0 (fun k=>k=b) (fun k=>k=b) [.blk b (pre++((c.set 20 (.int .i32 (-1))).set 21 (.int .i16 (-1)))++post) ty] w:=by rw[← aJr (by simpa using h1)];exact hm
  refine aAb ?_
  refine aB4 rfl hk ?_
  exact⟨hm.agr,hm.all _ (eA0 (i:=0) rfl)⟩
theorem aEG {good gv:Value}{gb:Nat}:Er.RkOk Tryz.prog 142 good gb gv 139 (.dflt [(3,(.int .i8 (-1):Value))]):=by
  intro w0 b ty pre c post hbk hd
  have h0 : 3<c.length:=hd (3,.int .i8 (-1)) (by simp)
  refine aAy Tryz.func139 rfl rfl fun a hk=>?_
  have hk:Kn 5 [(0,.pointer (some ⟨b,pre.length,none⟩))] a:=hk
  have hm:Mem w0 (fun k=>k=b) (fun k=>k=b) [.blk b (pre++c++post) ty] w0:=Mem.startBlk (Z:=fun k=>k=b) (m:=[]) hbk rfl rfl (by simp)
  refine aC2 ?_
  refine oM0 hk rfl rfl fun a hk=>?_
  refine oN0 hk rfl rfl fun a hk=>?_
  refine oF0 hk aSk rfl rfl fun a hk=>?_
  refine aAz (i:=0) hk hm aXC rfl rfl rfl rfl rfl rfl (show pre.length+3+1≤_ by simp only[List.length_append];omega) fun a w hk hm=>?_
  have hm:Mem w0 (fun k=>k=b) (fun k=>k=b) [.blk b (pre++(c.set 3 (.int .i8 (-1)))++post) ty] w:=by rw[← aJr (by simpa using h0)];exact hm
  refine aAb ?_
  refine aB4 rfl hk ?_
  exact⟨hm.agr,hm.all _ (eA0 (i:=0) rfl)⟩
theorem aGP {gv:Value}:Er.RkOk Tryz.prog 142 .nilIface 1 gv 90 (.dflt []):=by
  apply @aEQ .nilIface gv 1
theorem aIP {gv:Value}:Er.RkOk Tryz.prog 142 .nilIface 1 gv 95 (.val 2 false false):=by
  apply Er.rk_num (k:=2) (ik:=.i16) rfl
  exact (fun h1 h2=>aH6 h1 h2)
theorem aBV {gv:Value}:Er.RkOk Tryz.prog 142 .nilIface 1 gv 96 (.cnt true):=by
  apply (fun {w0 Y rb s}=>aDA (w0:=w0) (Y:=Y) (rb:=rb) (s:=s))
theorem aEV {gv:Value}:Er.RkOk Tryz.prog 142 .nilIface 1 gv 97 (.cnt false):=by
  apply (fun {w0 Y rb s}=>aHF (w0:=w0) (Y:=Y) (rb:=rb) (s:=s))
theorem aQ0 {gv:Value}:Er.RkOk Tryz.prog 142 .nilIface 1 gv 98 (.ok):=by
  apply @aOQ .nilIface gv 1
theorem aE3 {gv:Value}:Er.RkOk Tryz.prog 142 .nilIface 1 gv 99 (.done):=by
  apply @aHM gv
theorem aCl {gv:Value}:Er.RkOk Tryz.prog 142 .nilIface 1 gv 103 (.val 8 false true):=by
  apply Er.rk_text
  exact (fun h1 h2=>aEo h1 h2)
theorem aHh {gv:Value}:Er.RkOk Tryz.prog 142 .nilIface 1 gv 104 (.val 8 false false):=by
  apply Er.rk_text
  exact (fun h1 h2=>aJQ h1 h2)
theorem aIF {gv:Value}:Er.RkOk Tryz.prog 142 .nilIface 1 gv 106 (.val 3 false false):=by
  apply Er.rk_num (k:=3) (ik:=.i32) rfl
  exact (fun h1 h2=>aJl h1 h2)
theorem aKC {gv:Value}:Er.RkOk Tryz.prog 142 .nilIface 1 gv 107 (.tags):=by
  apply @aIE .nilIface gv 1
theorem aFU {gv:Value}:Er.RkOk Tryz.prog 142 .nilIface 1 gv 108 (.uv):=by
  apply id
  intro w0 Y rb s h1 h2
  exact aC4 h1 h2
theorem aM7 {gv:Value}:Er.RkOk Tryz.prog 142 .nilIface 1 gv 109 (.setTag):=by
  apply id
  intro w0 g off e key cs p ks vs x h1 h2 h3
  exact aJp h1 h2 h3
theorem aKD {gv:Value}:Er.RkOk Tryz.prog 142 .nilIface 1 gv 110 (.span):=by
  apply id
  intro w0 Y rb s k h1 h2
  exact aF7 k h1 h2
theorem aHb {gv:Value}:Er.RkOk Tryz.prog 142 .nilIface 1 gv 112 (.val 5 false false):=by
  apply Er.rk_num (k:=5) (ik:=.u16) rfl
  exact (fun h1 h2=>Ret.mono (aJT h1 h2) fun v w' hv=>⟨hv.1,by show v=.int .u16 (IntKind.u16.wrap ((RS.num 2 _).1:Int));rw[Er.wrap_u16_num];exact hv.2.1,hv.2.2⟩)
theorem aIW {gv:Value}:Er.RkOk Tryz.prog 142 .nilIface 1 gv 130 (.val 4 false false):=by
  apply Er.rk_num (k:=4) (ik:=.i64) rfl
  exact (fun h1 h2=>aKU h1 h2)
theorem aKp {gv:Value}:Er.RkOk Tryz.prog 142 .nilIface 1 gv 131 (.val 7 false false):=by
  apply Er.rk_uuid
  exact (fun h1 h2=>aMg h1 h2)
theorem aBj {gv:Value}:Er.RkOk Tryz.prog 142 .nilIface 1 gv 133 (.val 8 true true):=by
  apply Er.rk_textN
  exact (fun h1 h2=>aCf h1 h2)
theorem aB7 {gv:Value}:Er.RkOk Tryz.prog 142 .nilIface 1 gv 135 (.val 8 true false):=by
  apply Er.rk_textN
  exact (fun h1 h2=>aEa h1 h2)
theorem aFA {gv:Value}:Er.RkOk Tryz.prog 142 .nilIface 1 gv 138 (.dflt [(20,(.int .i32 (-1):Value)),(21,(.int .i16 (-1):Value))]):=by
  apply @aGt .nilIface gv 1
theorem aEf {gv:Value}:Er.RkOk Tryz.prog 142 .nilIface 1 gv 139 (.dflt [(3,(.int .i8 (-1):Value))]):=by
  apply @aEG .nilIface gv 1
theorem aKq {gv:Value}:Er.RkOk Tryz.prog 142 .nilIface 1 gv 140 (.val 0 false false):=by
  apply Er.rk_bool
  exact (fun h1 h2=>aMq h1 h2)
theorem aKb {gv:Value}:Er.RkOk Tryz.prog 142 .nilIface 1 gv 141 (.val 1 false false):=by
  apply Er.rk_num (k:=1) (ik:=.i8) rfl
  exact (fun h1 h2=>aMk h1 h2)
def aTL:List (Nat × Er.RK):=(90,.dflt [])::(95,.val 2 false false)::(96,.cnt true)::(97,.cnt false)::(98,.ok)::(99,.done)::(103,.val 8 false true)::(104,.val 8 false false)::(106,.val 3 false false)::(107,.tags)::(108,.uv)::(109,.setTag)::(110,.span)::(112,.val 5 false false)::(130,.val 4 false false)::(131,.val 7 false false)::(133,.val 8 true true)::(135,.val 8 true false)::(138,.dflt [(20,(.int .i32 (-1):Value)),(21,(.int .i16 (-1):Value))])::(139,.dflt [(3,(.int .i8 (-1):Value))])::(140,.val 0 false false)::(141,.val 1 false false)::[]
noncomputable def cxR (gv:Value)(n m rt V:Nat)(flex:Bool):Er.Cx:=⟨Tryz.prog,n,m,rt,142,aTL,V,flex,.nilIface,1,gv⟩
theorem aKj {gv:Value}{n m rt V:Nat}{flex:Bool}:Er.CfgOk (cxR gv n m rt V flex):=by
  intro f ck h
  simp only[cxR,aTL,List.mem_cons,Prod.mk.injEq,List.not_mem_nil,or_false] at h
  rcases h with ⟨rfl,rfl⟩|⟨rfl,rfl⟩|⟨rfl,rfl⟩|⟨rfl,rfl⟩|⟨rfl,rfl⟩|⟨rfl,rfl⟩|⟨rfl,rfl⟩|⟨rfl,rfl⟩|⟨rfl,rfl⟩|⟨rfl,rfl⟩|⟨rfl,rfl⟩|⟨rfl,rfl⟩|⟨rfl,rfl⟩|⟨rfl,rfl⟩|⟨rfl,rfl⟩|⟨rfl,rfl⟩|⟨rfl,rfl⟩|⟨rfl,rfl⟩|⟨rfl,rfl⟩|⟨rfl,rfl⟩|⟨rfl,rfl⟩|⟨rfl,rfl⟩
  · exact⟨@aGP gv,aYS⟩
  · exact⟨@aIP gv,aSN⟩
  · exact⟨@aBV gv,aXb⟩
  · exact⟨@aEV gv,aWi⟩
  · exact⟨@aQ0 gv,aVA⟩
  · exact⟨@aE3 gv,aW4⟩
  · exact⟨@aCl gv,aRJ⟩
  · exact⟨@aHh gv,aR0⟩
  · exact⟨@aIF gv,aPD⟩
  · exact⟨@aKC gv,aRB⟩
  · exact⟨@aFU gv,aJ7⟩
  · exact⟨@aM7 gv,aQh⟩
  · exact⟨@aKD gv,aJ5⟩
  · exact⟨@aHb gv,aSb⟩
  · exact⟨@aIW gv,aRv⟩
  · exact⟨@aKp gv,aRe⟩
  · exact⟨@aBj gv,aRO⟩
  · exact⟨@aB7 gv,aSs⟩
  · exact⟨@aFA gv,aZX⟩
  · exact⟨@aEf gv,aZ7⟩
  · exact⟨@aKq gv,aSe⟩
  · exact⟨@aKb gv,aRL⟩
noncomputable def aDi (gv:Value)(V:Nat):Er.Cx:=cxR gv 266 40 6 V (decide ((V:Int)≥5))
theorem aHS (gv:Value):(List.range 8).all (fun V=>Er.rdTop (aDi gv V) aAe true false Tryz.f92)=true:=by kernel_rfl
theorem aGI {w0:World}{Y:Nat→Prop}{v gv:Value}{o:Option (List UInt8)}{g:Nat}(V:Nat)(h1:V≤7)(hg:w0.heap[g]?=some (.cells (.int .i16 (V:Int)::Er.dflS aAe true).toArray 134 (0,0)))(hR:Rep w0 Y (aBr o) [v])(hY:Y g)(hG : ¬ Y 1∧w0.cell? ⟨1,0,none⟩=some gv)(hL:rdP aAe (V:Int) (decide ((V:Int)≥5)) ⟨o,false⟩≠none) :
    Ret Tryz.prog 92 [.pointer (some ⟨g,0,none⟩),v,.bool false] w0 fun x w'=>Er.Told .nilIface gv aAe true V (decide ((V:Int)≥5)) o g 134 Y w0 x w':=by
  have h:Er.rdTop (aDi gv V) aAe true false Tryz.f92=true:=Ea.all_range (aHS gv) (by omega)
  exact Er.rd_soundL (cx:=aDi gv V) (fn:=Tryz.f92) aKj Tryz.func92 h hg hR hY hG (fun _=>hL)
theorem aGJ {w0:World}{Y:Nat→Prop}{v gv:Value}{o:Option (List UInt8)}{g:Nat}(V:Nat)(h1:V≤7)(hg:w0.heap[g]?=some (.cells (.int .i16 (V:Int)::Er.dflS aAe true).toArray 134 (0,0)))(hR:Rep w0 Y (aBr o) [v])(hY:Y g)(hG : ¬ Y 1∧w0.cell? ⟨1,0,none⟩=some gv)(hL:rdP aAe (V:Int) (decide ((V:Int)≥5)) ⟨o,false⟩≠none) :
    Ret Tryz.prog 59 [.pointer (some ⟨g,0,none⟩),v] w0 fun x w'=>Er.Told .nilIface gv aAe true V (decide ((V:Int)≥5)) o g 134 Y w0 x w':=by
  refine aAy Tryz.func59 rfl rfl fun a hk=>?_
  have hk:Kn 8 [(0,.pointer (some ⟨g,0,none⟩)),(1,v)] a:=hk
  refine cR0 ?_
  refine oA0 hk rfl rfl fun a hk=>?_
  refine cE0 ?_
  refine cR0 ?_
  refine oM0 hk rfl rfl fun a hk=>?_
  refine oM0 hk rfl rfl fun a hk=>?_
  refine aAk hk bBg (aGI V h1 hg hR hY hG hL) ⟨rfl,rfl,rfl,trivial⟩ rfl fun x w a hR hk=>?_
  refine oA0 hk rfl rfl fun a hk=>?_
  refine cE0 ?_
  refine wp_ret ?_
  refine bT0 rfl hk rfl ?_
  exact hR
theorem aGQ {w0:World}:Ret Tryz.prog 55 [] w0 fun v w'=>Agr Nob w0 w'∧w0.heap.size<w'.heap.size∧v=.pointer (some ⟨w0.heap.size,0,none⟩)∧w'.heap[w0.heap.size]?=some (.cells (.int .i16 0::Er.dflS aAe true).toArray 134 (0,0)):=by
  refine aAy Tryz.func55 rfl rfl fun a hk=>?_
  have hk:Kn 3 [] a:=hk
  refine cR0 ?_
  refine oA0 hk rfl rfl fun a hk=>?_
  refine cE0 ?_
  refine cR0 ?_
  refine Er.o_allocW (cs:=[.int .i16 0,.int .i32 0,.slice none 0 0,.map none]) hk aXm rfl rfl fun a w1 ag1 lt1 hb1 hk=>?_
  refine cE0 ?_
  refine cR0 ?_
  refine aAk hk aYS (aEQ (good:=.nilIface) (gv:=.nilIface) (gb:=1) (pre:=[]) (post:=[]) (c:=[.int .i16 0,.int .i32 0,.slice none 0 0,.map none]) hb1 (by decide)) ⟨rfl,trivial⟩ rfl fun v w2 a hR hk=>?_
  obtain⟨ag2,hb2⟩:=hR
  refine cE0 ?_
  refine cR0 ?_
  refine oA0 hk rfl rfl fun a hk=>?_
  refine cE0 ?_
  refine wp_ret ?_
  refine bT0 rfl hk rfl ?_
  exact⟨ag1.trans ag2 (fun _ _ x=>x) (fun i hi x=>by omega),Nat.lt_of_lt_of_le lt1 ag2.size,rfl,hb2⟩
end Go.Proofs.YtipgdlbbmlnfiaaGreatDoor
