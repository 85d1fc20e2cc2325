/- What the reference's functions give, as functions on trees and fields. No statement of a seat stands here. -/
import Derived.Test.YtbljeefficdemaaMkList
namespace Go.Mk
open Go

namespace Fld
def kind : Fld → Nat | .mk k _ _ _ _ _ _ _ => k
def fr : Fld → Int | .mk _ x _ _ _ _ _ _ => x
def to : Fld → Int | .mk _ _ x _ _ _ _ _ => x
def nu : Fld → Int | .mk _ _ _ x _ _ _ _ => x
def tag : Fld → Int | .mk _ _ _ _ x _ _ _ => x
def df : Fld → Int | .mk _ _ _ _ _ x _ _ => x
def of : Fld → Nat | .mk _ _ _ _ _ _ x _ => x
def sub : Fld → List Fld | .mk _ _ _ _ _ _ _ x => x
/-- does the version have the field? -/
def has (f : Fld) (v : Int) : Bool := decide (f.fr ≤ v) && (decide (f.to < 0) || decide (v ≤ f.to))
/-- is it null at the version? -/
def null (f : Fld) (v : Int) (t : T) : Bool := t.z && decide (f.nu ≥ 0) && decide (v ≥ f.nu)
end Fld

def whole (b : List UInt8) : List UInt8 := b.take 32767
def things {α : Type} (l : List α) : List α := l.take 32767

/-- A number in groups of seven bits. -/
def uvarint (n : Nat) : List UInt8 := if h : n > 127 then UInt8.ofNat (n % 128 + 128) :: uvarint (n / 128) else [UInt8.ofNat n]
  termination_by n
  decreasing_by omega

def width : Nat → Nat
  | 1 => 1
  | 2 => 2
  | 5 => 2
  | 3 => 4
  | _ => 8

def counted (flex null : Bool) (n size : Nat) : List UInt8 :=
  if flex && null then [0] else if flex then uvarint (n + 1) else if null then fixed (-1) size else fixed n size

def valueP (kind : Nat) (pt : T → List UInt8) (null flex : Bool) (t : T) : List UInt8 :=
  match kind with
  | 0 => [u8 (t.n % 2)]
  | 7 => sixteen t.s
  | 8 => counted flex null (if null then [] else whole t.s).length 2 ++ (if null then [] else whole t.s)
  | 9 => counted flex null (if null then [] else whole t.s).length 4 ++ (if null then [] else whole t.s)
  | 10 => pt t
  | k => fixed t.n (width k)

/-- A field, where 'pt' writes its part. -/
def fieldQ (f : Fld) (v : Int) (flex : Bool) (pt : T → List UInt8) (t : T) : List UInt8 :=
  if f.kind = 11 then counted flex (f.null v t) (if f.null v t then [] else things t.l).length 4 ++ (if f.null v t then [] else things t.l).flatMap (valueP f.of pt false flex)
  else if f.kind = 10 ∧ f.nu ≥ 0 then (if f.null v t then fixed (-1) 1 else fixed 1 1 ++ pt t)
  else valueP f.kind pt (f.null v t) flex t

/-- The tag that is one more than all that the fields have. -/
def known : List Fld → Nat
  | [] => 0
  | f :: r => max (if f.tag ≥ 0 then f.tag.toNat + 1 else 0) (known r)

/-- A tag is laid among others by its number; one that is there stays. -/
def insTag (u : Nat × List UInt8) : List (Nat × List UInt8) → List (Nat × List UInt8)
  | [] => [u]
  | x :: r => if x.1 < u.1 then x :: insTag u r else if x.1 = u.1 then x :: r else u :: x :: r
def unknownP (fs : List Fld) (u : List (Nat × List UInt8)) : List (Nat × List UInt8) :=
  (u.take 32767).foldl (fun out t => if t.1 < known fs then out else insTag t out) []

mutual
/-- Is a field as it is by default? -/
def usualF : Fld → T → Bool
  | .mk kind _ _ nu _ df _ sub, t =>
    if kind = 0 then t.n % 2 == df
    else if kind = 7 then (t.s.take 16).all (· == 0)
    else if kind = 8 ∨ kind = 9 then (if nu ≥ 0 then t.z else t.s.isEmpty)
    else if kind = 11 then t.l.isEmpty
    else if kind = 10 then usualFs sub t.l 0 && (unknownP sub t.u).isEmpty
    else fixed t.n (width kind) == fixed df (width kind)
def usualFs : List Fld → List T → Nat → Bool
  | [], _, _ => true
  | f :: r, l, i => usualF f (l.getD i T.nil) && usualFs r l (i + 1)
end

/-- A tag's number, its length, itself. -/
def tagP (k : Nat) (b : List UInt8) : List UInt8 := uvarint k ++ uvarint b.length ++ b

/-- The fields without tags, out of what each writes. -/
def plainOut : List Fld → Int → List (List UInt8) → List UInt8
  | [], _, _ => []
  | f :: r, v, outs => (if f.tag < 0 && f.has v then outs.headD [] else []) ++ plainOut r v outs.tail
/-- The fields of one tag that are not as by default. -/
def tagOut (tag : Nat) : List Fld → List T → Nat → List (List UInt8) → List (List UInt8)
  | [], _, _, _ => []
  | f :: r, l, i, outs => (if f.tag = (tag : Int) && !usualF f (l.getD i T.nil) then [tagP tag (outs.headD [])] else []) ++ tagOut tag r l (i + 1) outs.tail
def partQ (fs : List Fld) (v : Int) (flex : Bool) (outs : List (List UInt8)) (t : T) : List UInt8 :=
  if flex then
    plainOut fs v outs ++ uvarint (((List.range (known fs)).flatMap fun tag => tagOut tag fs t.l 0 outs).length + (unknownP fs t.u).length) ++
      ((List.range (known fs)).flatMap fun tag => tagOut tag fs t.l 0 outs).flatten ++ (unknownP fs t.u).flatMap (fun u => tagP u.1 (whole u.2))
  else plainOut fs v outs

mutual
def fieldP : Fld → Int → Bool → T → List UInt8
  | .mk kind fr to nu tag df of sub, v, flex, t => fieldQ (.mk kind fr to nu tag df of []) v flex (fun x => partQ sub v flex (fieldsP sub v flex x.l 0) x) t
def fieldsP : List Fld → Int → Bool → List T → Nat → List (List UInt8)
  | [], _, _, _, _ => []
  | f :: r, v, flex, l, i => fieldP f v flex (l.getD i T.nil) :: fieldsP r v flex l (i + 1)
end
def partP (fs : List Fld) (v : Int) (flex : Bool) (t : T) : List UInt8 := partQ fs v flex (fieldsP fs v flex t.l 0) t

/-- A message: its fields, and from which version on it is flexible. -/
structure Msg where
  fields : List Fld
  flex : Int
def Msg.flexible (m : Msg) (v : Int) : Bool := decide (m.flex ≥ 0) && decide (v ≥ m.flex)
def writeP (m : Msg) (v : Int) (t : T) : List UInt8 := partP m.fields v (m.flexible v) t

/-! ### What is fitted -/
def fitU (fs : List Fld) (u : List (Nat × List UInt8)) : List (Nat × List UInt8) := (unknownP fs u).map fun p => (p.1, whole p.2)
/-- A value: 'st' fits a part. -/
def fitVal (kind : Nat) (null : Bool) (st : T → T) (t : T) : T :=
  match kind with
  | 8 => .mk 0 (whole t.s) null [] []
  | 9 => .mk 0 (whole t.s) null [] []
  | 10 => .mk (st t).n (st t).s null (st t).l (st t).u
  | _ => .mk t.n t.s false [] []
mutual
def fitF : Fld → Int → T → T
  | .mk kind fr to nu tag df of sub, v, t =>
    if kind = 11 then .mk 0 [] ((Fld.mk kind fr to nu tag df of []).null v t || (decide (tag ≥ 0) && decide (t.l.length = 0)))
      ((things t.l).map fun x => fitVal of false (fun x => .mk 0 [] false (fitFs sub v x.l 0) (fitU sub x.u)) x) []
    else fitVal kind ((Fld.mk kind fr to nu tag df of []).null v t) (fun x => .mk 0 [] false (fitFs sub v x.l 0) (fitU sub x.u)) t
def fitFs : List Fld → Int → List T → Nat → List T
  | [], _, _, _ => []
  | f :: r, v, l, i => fitF f v (l.getD i T.nil) :: fitFs r v l (i + 1)
end
def fitP (fs : List Fld) (v : Int) (t : T) : T := .mk 0 [] false (fitFs fs v t.l 0) (fitU fs t.u)

end Go.Mk
