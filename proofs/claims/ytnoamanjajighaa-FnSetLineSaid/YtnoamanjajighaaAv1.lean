/- Definitions alone: an evaluator of the model's code over an abstract memory, in which a local variable that lies in memory is a handle with known cells and a slice is a list. -/
import Derived.WalkKit
import Derived.Deep.LoopGhost
import Derived.Defers
import Derived.Orders
import Derived.StillTail
import Derived.Laws.OwnMore
import Derived.Laws.AppendOwnNone
import Derived.Laws.FloatArith
import Derived.Below
import Derived.Laws.BytesArg
set_option linter.unusedVariables false
noncomputable section
namespace Go.Av
open Go
open Classical in
/-- What two ways agree on. -/
def agree {R : Type} (x y : Option R) : Option R := if x = y then x else none

/-! ### kinds of plain data, and their values -/

/-- A geometry as plain data (the package's own recursive struct). -/
inductive Geo where
  | mk (kind layout srid : Int) (flat : List Nat) (ends : List Int) (endss : List (List Int)) (kids : List Geo)
def Geo.kind : Geo → Int | .mk a _ _ _ _ _ _ => a
def Geo.layout : Geo → Int | .mk _ a _ _ _ _ _ => a
def Geo.srid : Geo → Int | .mk _ _ a _ _ _ _ => a
def Geo.flat : Geo → List Nat | .mk _ _ _ a _ _ _ => a
def Geo.ends : Geo → List Int | .mk _ _ _ _ a _ _ => a
def Geo.endss : Geo → List (List Int) | .mk _ _ _ _ _ a _ => a
def Geo.kids : Geo → List Geo | .mk _ _ _ _ _ _ a => a

/-- Memory that is written no more, as a tree: what lies in one cell. -/
inductive Ce where
  | int (k : IntKind) (n : Int)
  | flt (b : Nat)
  | boo (b : Bool)
  | str (s : ByteArray)
  | fl (xs : List Nat)
  | il (xs : List Int)
  | ill (xs : List (List Int))
  | nl
  | sl (xs : List Ce)
  | nilp
  | ptr (cs : List Ce)
  | nili
  | ifc (t : TypeId) (c : Ce)
  | ifa (t : TypeId) (cs : List Ce)

inductive Kd where
  | int (k : IntKind)
  | float
  | bool
  | str
  | list (e : Kd)
  | unit
  | pair (a b : Kd)
  | geo
  | any
  /-- a slice that may be nil -/
  | nl (e : Kd)
  deriving DecidableEq

@[reducible] def Den : Kd → Type
  | .int _ => Int
  | .float => Nat
  | .bool => Bool
  | .str => ByteArray
  | .list e => List (Den e)
  | .unit => Unit
  | .pair a b => Den a × Den b
  | .geo => Geo
  | .any => Ce
  | .nl e => Option (List (Den e))

/-- How many cells of memory. -/
def Kd.size : Kd → Nat
  | .unit => 0
  | .pair a b => a.size + b.size
  | .geo => 7
  | _ => 1
/-- A struct. -/
def Kd.isAgg : Kd → Bool
  | .unit => true
  | .pair _ _ => true
  | .geo => true
  | _ => false
/-- No list inside: what it stands for does not hang on memory. -/
def Kd.plain : Kd → Bool
  | .list _ => false
  | .geo => false
  | .any => false
  | .nl _ => false
  | .pair a b => a.plain && b.plain
  | _ => true
def Kd.zero : (κ : Kd) → Den κ
  | .int _ => (0 : Int)
  | .float => (0 : Nat)
  | .bool => false
  | .str => ⟨#[]⟩
  | .list _ => []
  | .unit => ()
  | .pair a b => (a.zero, b.zero)
  | .geo => .mk 0 0 0 [] [] [] []
  | .any => .nilp
  | .nl _ => none

/-! ### cells of frozen memory and plain data -/
/-- The plain data of a cell. -/
def getC : (κ : Kd) → Ce → Option (Den κ)
  | .any, c => some c
  | .int k, .int k' n => bif decide (k' = k) then some n else none
  | .float, .flt b => some b
  | .bool, .boo b => some b
  | .str, .str s => some s
  | .list .float, .fl xs => some xs
  | .list (.int .i64), .il xs => some xs
  | .list (.list (.int .i64)), .ill xs => some xs
  | .list .any, .sl xs => some xs
  | .list _, .nl => some []
  | _, _ => none
/-- Plain data as a cell. -/
def putC : (κ : Kd) → Den κ → Option Ce
  | .any, c => some c
  | .int k, n => some (.int k n)
  | .float, b => some (.flt b)
  | .bool, b => some (.boo b)
  | .str, s => some (.str s)
  | .list .float, xs => some (.fl xs)
  | .list (.int .i64), xs => some (.il xs)
  | .list (.list (.int .i64)), xs => some (.ill xs)
  | .list .any, xs => some (.sl xs)
  | _, _ => none
def getCs : (κ : Kd) → List Ce → Option (Den κ × List Ce)
  | .unit, cs => some ((), cs)
  | .pair a b, cs => (getCs a cs).bind fun p => (getCs b p.2).bind fun q => some ((p.1, q.1), q.2)
  | .geo, _ => none
  | κ, c :: r => (getC κ c).bind fun x => some (x, r)
  | _, [] => none
def putCs : (κ : Kd) → Den κ → Option (List Ce)
  | .unit, _ => some []
  | .pair a b, x => (putCs a x.1).bind fun p => (putCs b x.2).bind fun q => some (p ++ q)
  | .geo, _ => none
  | κ, x => (putC κ x).bind fun c => some [c]
/-- What lies behind a pointer. -/
def ptrD (κ : Kd) : Ce → Option (Den κ)
  | .ptr cs => (getCs κ cs).bind fun p => match p.2 with | [] => some p.1 | _ => none
  | _ => none
def isNilp : Ce → Option Bool
  | .nilp => some true
  | .ptr _ => some false
  | _ => none
def isNili : Ce → Option Bool
  | .nili => some true
  | .ifc _ _ => some false
  | .ifa _ _ => some false
  | _ => none
/-- Is the type of what an interface holds this one? -/
def isT (t : TypeId) : Ce → Option Bool
  | .nili => some false
  | .ifc u _ => some (Nat.beq u t)
  | .ifa u _ => some (Nat.beq u t)
  | _ => none
/-- What an interface holds of a type. -/
def asT (κ : Kd) (t : TypeId) : Ce → Option (Den κ)
  | .ifc u c => bif Nat.beq u t && !κ.isAgg then getC κ c else none
  | .ifa u cs => bif Nat.beq u t && κ.isAgg then (getCs κ cs).bind fun p => match p.2 with | [] => some p.1 | _ => none else none
  | _ => none

/-! ### abstract values -/
inductive AV where
  | pv (κ : Kd) (x : Den κ)
  | nils
  | agg (cs : List AV)
  | own (κ : Kd) (h : Nat)
  | sub (κ : Kd) (h off len : Nat)
  | ref (h off : Nat)
  | eref (κ : Kd) (x : Den κ)
  | aref (κ : Kd) (h idx : Nat)
  | nilp
  | gi (t : TypeId) (g : Nat)
  | ep (g : Nat)
  | mf (t : TypeId) (nm : String)
  | niliface
  | iface (t : TypeId) (v : AV)
  | func (f : FuncId) (caps : List AV)
  | nilf
  | nanv
  | bsl (h n : Nat)
  | capd (κ : Kd) (x : List (Den κ))
  | tuple (vs : List AV)
  | dead

mutual
/-- Is the handle named in it? -/
def AV.ment (d : Nat) : AV → Bool
  | .own _ h => Nat.beq h d
  | .sub _ h _ _ => Nat.beq h d
  | .ref h _ => Nat.beq h d
  | .aref _ h _ => Nat.beq h d
  | .bsl h _ => Nat.beq h d
  | .agg cs => mentL d cs
  | .iface _ v => AV.ment d v
  | .func _ cs => mentL d cs
  | .tuple cs => mentL d cs
  | _ => false
def mentL (d : Nat) : List AV → Bool
  | [] => false
  | v :: r => AV.ment d v || mentL d r
end
/-- What names the handle is struck. -/
def AV.strike (d : Nat) (v : AV) : AV := bif AV.ment d v then .dead else v

inductive AB where
  | gone
  | box (cs : List AV)
  | arr (e : TypeId) (κ : Kd) (xs : List (Den κ))

def getF : List (Nat × AV) → Nat → AV
  | [], _ => .dead
  | (s, v) :: r, t => bif Nat.beq s t then v else getF r t
def getH : List (Nat × AB) → Nat → AB
  | [], _ => .gone
  | (s, v) :: r, t => bif Nat.beq s t then v else getH r t
structure St where
  fr : List (Nat × AV)
  H : List (Nat × AB)
  df : List AV
def AB.strike (d : Nat) : AB → AB
  | .box cs => .box (cs.map (AV.strike d))
  | b => b
def strikeF (d : Nat) (fr : List (Nat × AV)) : List (Nat × AV) := fr.map fun (t, v) => (t, v.strike d)
def strikeH (d : Nat) (H : List (Nat × AB)) : List (Nat × AB) := H.map fun (t, b) => (t, b.strike d)
/-- The handle comes anew: what named it before is struck. -/
def St.fresh (st : St) (d : Nat) : St := ⟨strikeF d st.fr, strikeH d st.H, st.df⟩
/-- No deferred call names the handle. -/
def okDf (df : List AV) (d : Nat) : Bool := !mentL d df
/-- .. and it is a name that may come anew. -/
def okNew (df : List AV) (d : Nat) : Bool := Nat.blt d 1000000 && okDf df d
def AB.ment (d : Nat) : AB → Bool
  | .box cs => mentL d cs
  | _ => false

def aliveL : List AV → Bool
  | [] => true
  | .dead :: _ => false
  | .agg _ :: _ => false
  | .tuple _ :: _ => false
  | _ :: r => aliveL r

/-- The abstract value of a constant. -/
def avOf1 : Value → AV
  | .bool b => .pv .bool b
  | .int k n => .pv (.int k) n
  | .float .f64 b => .pv .float b
  | .string s => .pv .str s
  | .pointer none => .nilp
  | .slice none 0 0 => .nils
  | .nilFunc => .nilf
  | .nilIface => .niliface
  | _ => .dead
def avOf : Value → AV
  | .agg cs => bif aliveL (cs.toList.map avOf1) then .agg (cs.toList.map avOf1) else .dead
  | .iface t v => .iface t (avOf1 v)
  | v => avOf1 v
/-- A package variable that is not written, and what lies in it. -/
structure Gl where
  g : Nat
  κ : Kd
  x : Den κ
  ti : Option TypeId
def getG : List Gl → Nat → AV
  | [], _ => .dead
  | a :: r, n => bif Nat.beq a.g n then (match a.ti with | some t => .gi t n | none => .eref a.κ a.x) else getG r n
def opnd (gl : List Gl) (fr : List (Nat × AV)) : Operand → AV
  | .tmp t => getF fr t
  | .const v => avOf v
  | .global g => getG gl g
  | .func f => .func f []

/-! ### from abstract values to plain data -/
def castD (κ' κ : Kd) (x : Den κ') : Option (Den κ) := if h : κ' = κ then some (h ▸ x) else none
mutual
/-- What lies in one cell, as a tree; r: what pointers to boxes give. -/
def cev (r : Nat → Option Ce) (H : List (Nat × AB)) : AV → Option Ce
  | .pv κ x => bif κ.isAgg then none else putC κ x
  | .nils => some .nl
  | .nilp => some .nilp
  | .niliface => some .nili
  | .eref κ x => (putCs κ x).bind fun cs => some (.ptr cs)
  | .ref h off => bif Nat.beq off 0 then r h else none
  | .own _ h => match getH H h with | .arr _ κ' xs => putC (.list κ') xs | _ => none
  | .sub κ₀ h off len => match getH H h with | .arr _ κ' xs => bif decide (κ₀ = κ') then putC (.list κ') ((xs.drop off).take len) else none | _ => none
  | .iface t v => (cevI r H v).bind fun c => match c with | .inl c => some (.ifc t c) | .inr cs => some (.ifa t cs)
  | _ => none
/-- .. in an interface: one cell, or a struct's. -/
def cevI (r : Nat → Option Ce) (H : List (Nat × AB)) : AV → Option (Ce ⊕ List Ce)
  | .pv κ x => bif κ.isAgg then (putCs κ x).bind fun cs => some (.inr cs) else (putC κ x).bind fun c => some (.inl c)
  | .agg cs => (cevs (fun _ => none) H cs).bind fun cs => some (.inr cs)
  | .nilp => some (.inl .nilp)
  | .eref κ x => (putCs κ x).bind fun cs => some (.inl (.ptr cs))
  | .ref h off => bif Nat.beq off 0 then (r h).bind fun c => some (.inl c) else none
  | .own _ h => match getH H h with | .arr _ κ' xs => (putC (.list κ') xs).bind fun c => some (.inl c) | _ => none
  | .sub κ₀ h off len => match getH H h with | .arr _ κ' xs => bif decide (κ₀ = κ') then (putC (.list κ') ((xs.drop off).take len)).bind fun c => some (.inl c) else none | _ => none
  | _ => none
def cevs (r : Nat → Option Ce) (H : List (Nat × AB)) : List AV → Option (List Ce)
  | [] => some []
  | v :: vs => (cev r H v).bind fun c => (cevs r H vs).bind fun cs => some (c :: cs)
end
/-- .. with boxes, d of them one in another. -/
def boxC (H : List (Nat × AB)) : Nat → Nat → Option Ce
  | 0, _ => none
  | d + 1, h => match getH H h with | .box cs => (cevs (boxC H d) H cs).bind fun cs => some (.ptr cs) | _ => none
/-- The cells of the boxes that are met so. -/
def boxL (H : List (Nat × AB)) : Nat → List AV → List AV
  | 0, vs => vs
  | d + 1, vs => vs ++ vs.flatMap fun v => match v with
    | .ref h _ => (match getH H h with | .box cs => boxL H d cs | _ => [])
    | .iface _ (.ref h _) => (match getH H h with | .box cs => boxL H d cs | _ => [])
    | _ => []
/-- A slice that may be nil, as a list; a list that is not empty, as such a slice. -/
def unopt : (κ' κ : Kd) → Den κ' → Option (Den κ)
  | .nl e', .list e, x => castD (.list e') (.list e) (x.getD [])
  | .list e', .nl e, x => bif Nat.ble 1 x.length then castD (.nl e') (.nl e) (some x) else none
  | _, _, _ => none
def leaf0 (H : List (Nat × AB)) (κ : Kd) : AV → Option (Den κ)
  | .pv κ' x => match castD κ' κ x with | some y => some y | none => unopt κ' κ x
  | .nils => match κ with | .list _ => some [] | .nl _ => some none | _ => none
  | .own _ h => match getH H h with | .arr _ κ' xs => castD (.list κ') κ xs | _ => none
  | .sub κ₀ h off len => match getH H h with | .arr _ κ' xs => bif decide (κ₀ = κ') then castD (.list κ') κ ((xs.drop off).take len) else none | _ => none
  | _ => none
def leafD (H : List (Nat × AB)) (κ : Kd) (a : AV) : Option (Den κ) :=
  match κ with
  | .any => cev (fun _ => none) H a
  | κ => leaf0 H κ a
def cellsD (H : List (Nat × AB)) : (κ : Kd) → List AV → Option (Den κ × List AV)
  | .unit, cs => some ((), cs)
  | .pair a b, cs => (cellsD H a cs).bind fun p => (cellsD H b p.2).bind fun q => some ((p.1, q.1), q.2)
  | .geo, c0 :: c1 :: c2 :: c3 :: c4 :: c5 :: c6 :: r =>
    (leafD H (.int .i64) c0).bind fun x0 => (leafD H (.int .i64) c1).bind fun x1 => (leafD H (.int .i64) c2).bind fun x2 =>
    (leafD H (.list .float) c3).bind fun x3 => (leafD H (.list (.int .i64)) c4).bind fun x4 => (leafD H (.list (.list (.int .i64))) c5).bind fun x5 =>
    (leafD H (.list .geo) c6).bind fun x6 => some (Geo.mk x0 x1 x2 x3 x4 x5 x6, r)
  | .geo, _ => none
  | κ, c :: r => (leafD H κ c).bind fun x => some (x, r)
  | _, [] => none
/-- The plain data of an abstract value. -/
def argD (H : List (Nat × AB)) (κ : Kd) : AV → Option (Den κ)
  | .pv κ' x => bif κ.isAgg then castD κ' κ x else leafD H κ (.pv κ' x)
  | .agg cs => (cellsD H κ cs).bind fun p => match p.2 with | [] => bif κ.isAgg then some p.1 else none | _ => none
  | v => bif κ.isAgg then none else leafD H κ v
/-- The cells of plain data. -/
def flatD : (κ : Kd) → Den κ → List AV
  | .unit, _ => []
  | .pair a b, x => flatD a x.1 ++ flatD b x.2
  | .geo, g => [.pv (.int .i64) g.kind, .pv (.int .i64) g.layout, .pv (.int .i64) g.srid, .pv (.list .float) g.flat, .pv (.list (.int .i64)) g.ends,
      .pv (.list (.list (.int .i64))) g.endss, .pv (.list .geo) g.kids]
  | κ, x => [.pv κ x]
def AV.flat : AV → List AV
  | .agg cs => cs
  | .pv κ x => flatD κ x
  | v => [v]
/-- A field of a struct as plain data, and where it begins. -/
def prjK {R : Type} (κ : Kd) (x : Den κ) (n : Nat) (k : (κ' : Kd) → Den κ' → Nat → Option R) : Option R :=
  match κ, x, n with
  | .pair a _, x, 0 => k a x.1 0
  | .pair a b, x, n + 1 => prjK b x.2 n fun κ' y o => k κ' y (a.size + o)
  | .geo, g, 0 => k (.int .i64) g.kind 0
  | .geo, g, 1 => k (.int .i64) g.layout 1
  | .geo, g, 2 => k (.int .i64) g.srid 2
  | .geo, g, 3 => k (.list .float) g.flat 3
  | .geo, g, 4 => k (.list (.int .i64)) g.ends 4
  | .geo, g, 5 => k (.list (.list (.int .i64))) g.endss 5
  | .geo, g, 6 => k (.list .geo) g.kids 6
  | _, _, _ => none

/-! ### contracts of functions -/
inductive Par where
  | k (κ : Kd)
  | fn (f : FuncId)
  | ifc (t : TypeId) (κ : Kd)
@[reducible] def HL : List Par → Type
  | [] => Unit
  | .k κ :: r => Den κ × HL r
  | .fn _ :: r => HL r
  | .ifc _ κ :: r => Den κ × HL r
@[reducible] def HR : List Kd → Type
  | [] => Unit
  | [κ] => Den κ
  | κ :: κ' :: r => Den κ × HR (κ' :: r)
structure Con where
  fid : FuncId
  ps : List Par
  rs : List Kd
  fn : HL ps → Option (HR rs)
def argsD (H : List (Nat × AB)) : (ps : List Par) → List AV → Option (HL ps)
  | [], [] => some ()
  | .k κ :: ps, v :: vs => (argD H κ v).bind fun x => (argsD H ps vs).bind fun y => some (x, y)
  | .fn f :: ps, v :: vs => match v with | .func g [] => bif Nat.beq f g then argsD H ps vs else none | _ => none
  | .ifc t κ :: ps, v :: vs => match v with | .iface u v => bif Nat.beq t u then (argD H κ v).bind fun x => (argsD H ps vs).bind fun y => some (x, y) else none | _ => none
  | _, _ => none
def resL : (rs : List Kd) → HR rs → List AV
  | [], _ => []
  | [κ], x => [.pv κ x]
  | κ :: κ' :: r, x => .pv κ x.1 :: resL (κ' :: r) x.2
def resV (rs : List Kd) (x : HR rs) : AV :=
  match resL rs x with
  | [v] => v
  | vs => .tuple vs
def AV.noH : AV → Bool
  | .pv _ _ => true
  | .nils => true
  | _ => false
mutual
/-- No handle in it. -/
def AV.free : AV → Bool
  | .pv _ _ => true
  | .nils => true
  | .agg cs => freeL cs
  | _ => false
def freeL : List AV → Bool
  | [] => true
  | v :: r => AV.free v && freeL r
end
/-! ### shapes: what a function takes and gives, with the memory that is its own -/
inductive Sh where
  | k (κ : Kd)
  | row (e : TypeId) (κ : Kd)
  | box (cs : List Sh)
  | agg (cs : List Sh)
  | ifc (t : TypeId) (s : Sh)
  | fn (f : FuncId) (cs : List Sh)
  | lref (κ : Kd)
  | ep (g : Nat)
  | nilp
  | nili
  | nilf
  | par (i : Nat)
  | nan
  | snil
  | bsl (cs : List Sh)
  | sub (e : TypeId) (κ : Kd)
  | krow (i : Nat) (e : TypeId) (κ : Kd)
  | parw (i : Nat) (κ : Kd)
  | tr
mutual
@[reducible] def ShD : Sh → Type
  | .k κ => Den κ
  | .row _ κ => List (Den κ)
  | .sub _ κ => List (Den κ) × (Nat × Nat)
  | .krow _ _ κ => List (Den κ)
  | .parw _ _ => Unit
  | .box cs => ShDs cs
  | .bsl cs => ShDs cs
  | .agg cs => ShDs cs
  | .ifc _ s => ShD s
  | .fn _ cs => ShDs cs
  | .lref κ => Den κ
  | .nilp => Unit
  | .ep _ => Unit
  | .nili => Unit
  | .nilf => Unit
  | .nan => Unit
  | .snil => Unit
  | .par _ => Unit
  | .tr => Ce
@[reducible] def ShDs : List Sh → Type
  | [] => Unit
  | s :: r => ShD s × ShDs r
end
mutual
/-- How many handles. -/
def Sh.cnt : Sh → Nat
  | .row _ _ => 1
  | .sub _ _ => 1
  | .krow _ _ _ => 1
  | .box cs => cnts cs + 1
  | .bsl cs => cnts cs + 1
  | .agg cs => cnts cs
  | .ifc _ s => s.cnt
  | .fn _ cs => cnts cs
  | _ => 0
def cnts : List Sh → Nat
  | [] => 0
  | s :: r => s.cnt + cnts r
end
mutual
/-- Which of them the value itself names. -/
def Sh.tops : Sh → List Bool
  | .row _ _ => [true]
  | .sub _ _ => [true]
  | .krow _ _ _ => [false]
  | .box cs => true :: List.replicate (cnts cs) false
  | .bsl cs => true :: List.replicate (cnts cs) false
  | .agg cs => topsL cs
  | .ifc _ s => s.tops
  | .fn _ cs => topsL cs
  | _ => []
def topsL : List Sh → List Bool
  | [] => []
  | s :: r => s.tops ++ topsL r
end
mutual
/-- Alike but for what lies behind pointers. -/
def Sh.sim : Sh → Sh → Bool
  | .k _, .k _ => true
  | .row _ _, .row _ _ => true
  | .box _, .box _ => true
  | .bsl _, .bsl _ => true
  | .agg cs, .agg ds => simL cs ds
  | .ifc _ s, .ifc _ t => s.sim t
  | .fn _ cs, .fn _ ds => simL cs ds
  | .lref _, .lref _ => true
  | .nilp, .nilp => true
  | .ep g, .ep g' => Nat.beq g g'
  | .nili, .nili => true
  | .nilf, .nilf => true
  | .nan, .nan => true
  | .snil, .snil => true
  | _, _ => false
def simL : List Sh → List Sh → Bool
  | [], [] => true
  | s :: r, t :: q => s.sim t && simL r q
  | _, _ => false
end
mutual
/-- The parameters' boxes in it. -/
def Sh.pars : Sh → List Nat
  | .par i => [i]
  | .box cs => parsL cs
  | .bsl cs => parsL cs
  | .agg cs => parsL cs
  | .ifc _ s => s.pars
  | .fn _ cs => parsL cs
  | _ => []
def parsL : List Sh → List Nat
  | [] => []
  | s :: r => s.pars ++ parsL r
end
mutual
/-- The parameters' rows in it. -/
def Sh.wpars : Sh → List Nat
  | .parw i _ => [i]
  | .box cs => wparsL cs
  | .bsl cs => wparsL cs
  | .agg cs => wparsL cs
  | .ifc _ s => s.wpars
  | .fn _ cs => wparsL cs
  | _ => []
def wparsL : List Sh → List Nat
  | [] => []
  | s :: r => s.wpars ++ wparsL r
end
mutual
/-- Which of its handles are the parameters'. -/
def Sh.fixs : Sh → List (Option Nat)
  | .row _ _ => [none]
  | .sub _ _ => [none]
  | .krow i _ _ => [some i]
  | .box cs => none :: fixL cs
  | .bsl cs => none :: fixL cs
  | .agg cs => fixL cs
  | .ifc _ s => s.fixs
  | .fn _ cs => fixL cs
  | _ => []
def fixL : List Sh → List (Option Nat)
  | [] => []
  | s :: r => s.fixs ++ fixL r
end
mutual
/-- No parameter's box in it. -/
def Sh.noPar : Sh → Bool
  | .par _ => false
  | .krow _ _ _ => false
  | .parw _ _ => false
  | .box cs => noParL cs
  | .bsl cs => noParL cs
  | .agg cs => noParL cs
  | .ifc _ s => s.noPar
  | .fn _ cs => noParL cs
  | _ => true
def noParL : List Sh → Bool
  | [] => true
  | s :: r => s.noPar && noParL r
end
mutual
/-- What it stands for hangs on own memory alone. -/
def Sh.safe : Sh → Bool
  | .k κ => κ.plain
  | .row _ κ => κ.plain
  | .sub _ κ => κ.plain
  | .krow _ _ κ => κ.plain
  | .box cs => safeL cs
  | .bsl cs => safeL cs
  | .agg cs => safeL cs
  | .ifc _ s => s.safe
  | .fn _ cs => safeL cs
  | .lref _ => false
  | .ep _ => false
  | .tr => false
  | _ => true
def safeL : List Sh → Bool
  | [] => true
  | s :: r => s.safe && safeL r
end
mutual
/-- The data of a shape out of an abstract value: the data, the own handles (none: a nil row), what is lent. -/
def matchSh (H : List (Nat × AB)) : (s : Sh) → AV → Option (ShD s × List (Option Nat) × List AV)
  | .k κ, v => (argD H κ v).bind fun x => some (x, [], [v])
  | .tr, v => (cev (boxC H 9) H v).bind fun x => some (x, [], boxL H 10 [v])
  | .row e κ, v =>
    match v with
    | .own _ h =>
      match getH H h with
      | .arr e' κ' xs => bif Nat.beq e e' then (castD (.list κ') (.list κ) xs).bind fun ys => some (ys, [some h], []) else none
      | _ => none
    | .nils => some (([] : List (Den κ)), [none], [])
    | _ => none
  | .krow i e κ, v =>
    match v with
    | .own _ h =>
      match getH H h with
      | .arr e' κ' xs => bif Nat.beq h (1000000 + i) && Nat.beq e e' then (castD (.list κ') (.list κ) xs).bind fun ys => some (ys, [some h], []) else none
      | _ => none
    | _ => none
  | .parw i κ, v => match v with | .own κ₀ h => bif Nat.beq h (1000000 + i) && decide (κ₀ = κ) then some ((), [], []) else none | _ => none
  | .sub e κ, v =>
    match v with
    | .sub κ₀ h off len =>
      match getH H h with
      | .arr e' κ' xs => bif Nat.beq e e' && decide (κ₀ = κ) then (castD (.list κ') (.list κ) xs).bind fun ys => some ((ys, off, len), [some h], []) else none
      | _ => none
    | _ => none
  | .box cs, v =>
    match v with
    | .ref h off =>
      match getH H h with
      | .box avs => bif Nat.beq off 0 then (matchShs H cs avs).bind fun p => some (p.1, some h :: p.2.1, p.2.2) else none
      | _ => none
    | _ => none
  | .bsl cs, v =>
    match v with
    | .bsl h n =>
      match getH H h with
      | .box avs => bif Nat.beq n avs.length then (matchShs H cs avs).bind fun p => some (p.1, some h :: p.2.1, p.2.2) else none
      | _ => none
    | _ => none
  | .agg cs, v => match v with | .agg avs => matchShs H cs avs | _ => none
  | .ifc t s, v => match v with | .iface u x => bif Nat.beq t u then matchSh H s x else none | _ => none
  | .fn f cs, v => match v with | .func g caps => bif Nat.beq f g then matchShs H cs caps else none | _ => none
  | .lref κ, v =>
    match v with
    | .eref κ' x => (castD κ' κ x).bind fun y => some (y, [], [])
    | .ref h off =>
      match getH H h with
      | .box avs => bif Nat.beq off 0 then (cellsD H κ avs).bind fun p => match p.2 with | [] => some (p.1, [], .ref h 0 :: avs) | _ => none else none
      | _ => none
    | _ => none
  | .nilp, v => match v with | .nilp => some ((), [], []) | _ => none
  | .ep g, v => match v with | .ep g' => bif Nat.beq g g' then some ((), [], []) else none | _ => none
  | .nili, v => match v with | .niliface => some ((), [], []) | _ => none
  | .nilf, v => match v with | .nilf => some ((), [], []) | _ => none
  | .nan, v => match v with | .nanv => some ((), [], []) | _ => none
  | .snil, v => match v with | .nils => some ((), [], []) | _ => none
  | .par i, v => match v with | .ref h off => bif Nat.beq h (1000000 + i) && Nat.beq off 0 then some ((), [], []) else none | _ => none
def matchShs (H : List (Nat × AB)) : (ss : List Sh) → List AV → Option (ShDs ss × List (Option Nat) × List AV)
  | [], [] => some ((), [], [])
  | s :: r, v :: vs => (matchSh H s v).bind fun p => (matchShs H r vs).bind fun q => some ((p.1, q.1), p.2.1 ++ q.2.1, p.2.2 ++ q.2.2)
  | _, _ => none
end
def hdN : List Nat → Nat
  | [] => 0
  | n :: _ => n
def tlN : List Nat → List Nat
  | [] => []
  | _ :: r => r
mutual
/-- The abstract value of a shape's data under names, and its memory; the names left. -/
def renderSh (pn : Nat → Nat) : (s : Sh) → ShD s → List Nat → AV × List (Nat × AB) × List Nat
  | .k κ, x, ns => (.pv κ x, [], ns)
  | .tr, x, ns => (.pv .any x, [], ns)
  | .row e κ, xs, ns => (.own κ (hdN ns), [(hdN ns, .arr e κ xs)], tlN ns)
  | .krow _ e κ, xs, ns => (.own κ (hdN ns), [(hdN ns, .arr e κ xs)], tlN ns)
  | .parw i κ, _, ns => (.own κ (pn i), [], ns)
  | .sub e κ, d, ns => (.sub κ (hdN ns) d.2.1 d.2.2, [(hdN ns, .arr e κ d.1)], tlN ns)
  | .box cs, d, ns => (fun r => (.ref (hdN ns) 0, (hdN ns, .box r.1) :: r.2.1, r.2.2)) (renderShs pn cs d (tlN ns))
  | .bsl cs, d, ns => (fun r => (.bsl (hdN ns) cs.length, (hdN ns, .box r.1) :: r.2.1, r.2.2)) (renderShs pn cs d (tlN ns))
  | .agg cs, d, ns => (fun r => (.agg r.1, r.2.1, r.2.2)) (renderShs pn cs d ns)
  | .ifc t s, d, ns => (fun r => (.iface t r.1, r.2.1, r.2.2)) (renderSh pn s d ns)
  | .fn f cs, d, ns => (fun r => (.func f r.1, r.2.1, r.2.2)) (renderShs pn cs d ns)
  | .lref κ, x, ns => (.eref κ x, [], ns)
  | .nilp, _, ns => (.nilp, [], ns)
  | .ep g, _, ns => (.ep g, [], ns)
  | .nili, _, ns => (.niliface, [], ns)
  | .nilf, _, ns => (.nilf, [], ns)
  | .nan, _, ns => (.nanv, [], ns)
  | .snil, _, ns => (.nils, [], ns)
  | .par i, _, ns => (.ref (pn i) 0, [], ns)
def renderShs (pn : Nat → Nat) : (ss : List Sh) → ShDs ss → List Nat → List AV × List (Nat × AB) × List Nat
  | [], _, ns => ([], [], ns)
  | s :: r, d, ns => (fun p => (fun q => (p.1 :: q.1, p.2.1 ++ q.2.1, q.2.2)) (renderShs pn r d.2 p.2.2)) (renderSh pn s d.1 ns)
end
def nameL (b : Nat) : Nat → List Nat
  | 0 => []
  | n + 1 => b :: nameL (b + 1) n
def memN : List Nat → Nat → Bool
  | [], _ => false
  | m :: r, n => Nat.beq m n || memN r n
def nodupN : List Nat → Bool
  | [] => true
  | n :: r => !memN r n && nodupN r
def someN : List (Option Nat) → List Nat
  | [] => []
  | some n :: r => n :: someN r
  | none :: r => someN r
/-- No own handle twice, none of them lent. -/
def ownOk (os : List (Option Nat)) (ls : List AV) : Bool := nodupN (someN os) && (someN os).all fun h => !mentL h ls
structure Alt where
  ress : List Sh
  fins : List (Option Sh)
def keepS : List (Option Sh) → List Sh
  | [] => []
  | some s :: r => s :: keepS r
  | none :: r => keepS r
def keepV {α : Type} : List (Option Sh) → List α → List α
  | some _ :: r, v :: vs => v :: keepV r vs
  | none :: r, _ :: vs => keepV r vs
  | _, _ => []
def Alt.all (a : Alt) : List Sh := a.ress ++ keepS a.fins
@[reducible] def AltD : List Alt → Type
  | [] => Empty
  | [a] => ShDs a.all
  | a :: b :: r => ShDs a.all ⊕ AltD (b :: r)
structure Con2 where
  fid : FuncId
  ins : List Sh
  alts : List Alt
  fn : ShDs ins → Option (AltD alts)
def topN : List Bool → List (Option Nat) → List (Option Nat)
  | true :: t, o :: os => o :: topN t os
  | false :: t, _ :: os => topN t os
  | _, _ => []
/-- What the value does not name itself. -/
def botN : List Bool → List (Option Nat) → List (Option Nat)
  | true :: t, _ :: os => botN t os
  | false :: t, o :: os => o :: botN t os
  | _, _ => []
def headO (d : Nat) (top : Bool) : List (Option Nat) → Nat
  | some h :: _ => bif top || Nat.blt h 1000000 then h else d
  | _ => d
def tailO : List (Option Nat) → List (Option Nat)
  | [] => []
  | _ :: r => r
def fillN (d : Nat) : List Bool → List (Option Nat) → List (Option Nat) → Nat → List Nat
  | [], _, _, _ => []
  | true :: t, ns, is, c => headO (d + c) true ns :: fillN d t (tailO ns) is (c + 1)
  | false :: t, ns, is, c => headO (d + c) false is :: fillN d t ns (tailO is) (c + 1)
/-- The names of what is kept: what the values name themselves keeps its name. -/
def keepNames (fr : Bool) (d : Nat) : List Sh → List (Option Sh) → List (Option Nat) → Nat → List Nat
  | i :: ins, some s :: fins, os, c => fillN d s.tops (topN i.tops os) (bif fr then [] else botN i.tops os) c ++ keepNames fr d ins fins (os.drop i.cnt) (c + s.cnt)
  | i :: ins, none :: fins, os, c => keepNames fr d ins fins (os.drop i.cnt) c
  | _, _, _, _ => []
def keepTops : List Sh → List (Option Sh) → List (Option Nat) → List Nat
  | i :: ins, some _ :: fins, os => someN (topN i.tops os) ++ keepTops ins fins (os.drop i.cnt)
  | i :: ins, none :: fins, os => keepTops ins fins (os.drop i.cnt)
  | _, _, _ => []
def Sh.isSub : Sh → Bool
  | .sub _ _ => true
  | _ => false
def finsOk : List Sh → List (Option Sh) → Bool
  | i :: ins, some s :: fins => (i.sim s || (i.isSub && s.isSub)) && finsOk ins fins
  | _ :: ins, none :: fins => finsOk ins fins
  | [], [] => true
  | _, _ => false
def dropSh : (a b : List Sh) → ShDs (a ++ b) → ShDs b
  | [], _, d => d
  | _ :: a, b, d => dropSh a b d.2
/-- A part of a row that was lent comes back as the same part. -/
def subOk1 : (i s : Sh) → ShD i → ShD s → Bool
  | .sub _ κ, .sub _ κ', x, y => decide (κ = κ') && Nat.ble 1 x.2.2 && Nat.beq y.2.1 x.2.1 && Nat.beq y.2.2 x.2.2 && Nat.beq y.1.length x.1.length
  | _, _, _, _ => true
def subOk : (ins : List Sh) → (fins : List (Option Sh)) → ShDs ins → ShDs (keepS fins) → Bool
  | i :: ins, some s :: fins, x, y => subOk1 i s x.1 y.1 && subOk ins fins x.2 y.2
  | _ :: ins, none :: fins, x, y => subOk ins fins x.2 y
  | [], _, _, _ => true
  | _ :: _, [], _, _ => true
def ownAt : List (Option Nat) → Nat → Nat
  | some h :: _, 0 => h
  | _ :: r, i + 1 => ownAt r i
  | _, _ => 0
/-- Handles that are the parameters' bear their names. -/
def ovr (os : List (Option Nat)) : List (Option Nat) → List Nat → List Nat
  | [], ns => ns
  | _ :: _, [] => []
  | some i :: f, _ :: ns => ownAt os i :: ovr os f ns
  | none :: f, n :: ns => n :: ovr os f ns
def fixN (os : List (Option Nat)) : List (Option Nat) → List Nat
  | [] => []
  | some i :: f => ownAt os i :: fixN os f
  | none :: f => fixN os f
def fixI : List (Option Nat) → List Nat
  | [] => []
  | some i :: f => i :: fixI f
  | none :: f => fixI f
def ownSome : List (Option Nat) → Nat → Bool
  | some _ :: _, 0 => true
  | _ :: r, i + 1 => ownSome r i
  | _, _ => false
/-- What is kept stays where it was. -/
def tOk (kt : List Nat) : List Nat → List Nat → Bool
  | a :: as, b :: bs => (!memN kt a || Nat.beq a b) && tOk kt as bs
  | _, _ => true
def Alt.names (a : Alt) (fr : Bool) (ins : List Sh) (os : List (Option Nat)) (d : Nat) : List Nat := nameL d (cnts a.ress) ++ keepNames fr d ins a.fins os (cnts a.ress)
def altK {R : Type} : (alts : List Alt) → AltD alts → ((a : Alt) → ShDs a.all → Option R) → Option R
  | [], _, _ => none
  | [a], y, K => K a y
  | a :: b :: r, y, K => Sum.elim (fun d => K a d) (fun y' => altK (b :: r) y' K) y
def allSafe (alts : List Alt) : Bool := alts.all fun a => safeL a.all
def AV.isPv : AV → Bool
  | .pv _ _ => true
  | .nils => true
  | .nilp => true
  | .niliface => true
  | .eref _ _ => true
  | .iface _ (.pv _ _) => true
  | .iface _ (.eref _ _) => true
  | _ => false
def AV.handled : AV → Bool
  | .pv _ _ => false
  | .agg cs => !cs.all AV.isPv
  | .nils => false
  | .func _ [] => false
  | .iface _ (.pv _ _) => false
  | .eref _ _ => false
  | .nilp => false
  | .ep _ => false
  | .gi _ _ => false
  | .mf _ _ => false
  | .iface _ (.ep _) => false
  | .iface _ (.eref _ _) => false
  | .niliface => false
  | .nilf => false
  | .nanv => false
  | _ => true

/-! ### numbers -/
def nth {α : Type} (xs : List α) (n : Int) : Option α := if 0 ≤ n then xs[n.toNat]? else none
def chk (n : Int) (len : Nat) : Option Nat := if 0 ≤ n ∧ n < len then some n.toNat else none
/-- How many places a slice has that is made. -/
def mkn (n m : Int) (bytes : Nat) : Option Nat := if 0 ≤ n ∧ n ≤ m ∧ (bytes : Int) * m ≤ 281474976710656 ∧ m ≤ 9223372036854775807 then some n.toNat else none
def chk2 (l h : Int) (len : Nat) : Option (Nat × Nat) := if 0 ≤ l ∧ l ≤ h ∧ h ≤ len then some (l.toNat, h.toNat) else none
def lim (n : Nat) : Option Unit := if n ≤ 140737488355328 then some () else none
def feq (x y : Nat) : Bool := Ieee.double.order x y == some .eq
def fne (x y : Nat) : Bool := Ieee.double.order x y != some .eq
def flt (x y : Nat) : Bool := Ieee.double.order x y == some .lt
def fle (x y : Nat) : Bool := Ieee.double.order x y == some .lt || Ieee.double.order x y == some .eq
def fgt (x y : Nat) : Bool := Ieee.double.order x y == some .gt
def fge (x y : Nat) : Bool := Ieee.double.order x y == some .gt || Ieee.double.order x y == some .eq
def fneg (x : Nat) : Nat := x ^^^ 2 ^ 63
def i2f (n : Int) : Nat := floatOfInt .f64 n

section
variable {R : Type}
def binI (op : BinOp) (k : IntKind) (x y : Int) (K : AV → Option R) : Option R :=
  match op with
  | .add => K (.pv (.int k) (k.wrap (x + y)))
  | .sub => K (.pv (.int k) (k.wrap (x - y)))
  | .mul => K (.pv (.int k) (k.wrap (x * y)))
  | .quo => if y = 0 then none else K (.pv (.int k) (k.wrap (x.tdiv y)))
  | .rem => if y = 0 then none else K (.pv (.int k) (x.tmod y))
  | .and => K (.pv (.int k) (bits .and k x y))
  | .or => K (.pv (.int k) (bits .or k x y))
  | .xor => K (.pv (.int k) (bits .xor k x y))
  | .andNot => K (.pv (.int k) (bits .andNot k x y))
  | .eql => K (.pv .bool (x == y))
  | .neq => K (.pv .bool (x != y))
  | .lss => K (.pv .bool (decide (x < y)))
  | .leq => K (.pv .bool (decide (x ≤ y)))
  | .gtr => K (.pv .bool (decide (x > y)))
  | .geq => K (.pv .bool (decide (x ≥ y)))
  | _ => none
def shI (op : BinOp) (k : IntKind) (x y : Int) (K : AV → Option R) : Option R :=
  match op with
  | .shl => if y < 0 then none else K (.pv (.int k) (k.wrap (x * 2 ^ (min y.toNat k.bits))))
  | .shr => if y < 0 then none else K (.pv (.int k) (x.fdiv (2 ^ (min y.toNat k.bits))))
  | _ => none
def binF (op : BinOp) (x y : Nat) (K : AV → Option R) : Option R :=
  match op with
  | .add => (Ieee.double.add x y).bind fun z => K (.pv .float z)
  | .sub => (Ieee.double.sub x y).bind fun z => K (.pv .float z)
  | .mul => (Ieee.double.mul x y).bind fun z => K (.pv .float z)
  | .quo => (Ieee.double.div x y).bind fun z => K (.pv .float z)
  | .eql => K (.pv .bool (feq x y))
  | .neq => K (.pv .bool (fne x y))
  | .lss => K (.pv .bool (flt x y))
  | .leq => K (.pv .bool (fle x y))
  | .gtr => K (.pv .bool (fgt x y))
  | .geq => K (.pv .bool (fge x y))
  | _ => none
/-- A comparison with what is not a number. -/
def nanK (op : BinOp) (K : AV → Option R) : Option R :=
  match op with
  | .eql => K (.pv .bool false)
  | .neq => K (.pv .bool true)
  | .lss => K (.pv .bool false)
  | .leq => K (.pv .bool false)
  | .gtr => K (.pv .bool false)
  | .geq => K (.pv .bool false)
  | _ => none
def cmpK (op : BinOp) (b : Bool) (K : AV → Option R) : Option R :=
  match op with
  | .eql => K (.pv .bool b)
  | .neq => K (.pv .bool (!b))
  | _ => none
def sadd (m n : ByteArray) : Option ByteArray := if m.size + n.size ≤ 9223372036854775807 then some (m ++ n) else none
/-- A letter of a text. -/
def sbyte (s : ByteArray) (j : Nat) : Int := if h : j < s.size then ((s[j]'h).toNat : Int) else 0
def isInt (op : BinOp) : Bool := match op with | .shl => false | .shr => false | _ => true
def eqLeaf (P : Program) (t : TypeId) (x y : AV) : Option Bool :=
  match x with
  | .pv .float a => match y with | .pv .float b => (match P.underlying t with | some (.float .f64) => some (feq a b) | _ => none) | _ => none
  | .pv (.int k) a => match y with | .pv (.int k') b => (match P.underlying t with | some (.int _) => bif decide (k = k') then some (a == b) else none | _ => none) | _ => none
  | .pv .bool a => match y with | .pv .bool b => (match P.underlying t with | some .bool => some (a == b) | _ => none) | _ => none
  | .pv .str a => match y with | .pv .str b => (match P.underlying t with | some .string => some (a.toList == b.toList) | _ => none) | _ => none
  | _ => none
def eqFs (rec : TypeId → List AV → List AV → Option Bool) (P : Program) : List Field → Nat → List AV → List AV → Option Bool
  | [], _, [], [] => some true
  | f :: fs, i, xs, ys =>
    bif Nat.beq f.offset i && f.name != "_" then
      match P.info? f.type with
      | some inf => bif Nat.ble inf.size xs.length && Nat.ble inf.size ys.length then
          (rec f.type (xs.take inf.size) (ys.take inf.size)).bind fun a => (eqFs rec P fs (i + inf.size) (xs.drop inf.size) (ys.drop inf.size)).bind fun r => some (a && r) else none
      | none => none
    else none
  | _, _, _, _ => none
/-- The elements of two arrays, compared. -/
def eqEs (rec : List AV → List AV → Option Bool) (s : Nat) : Nat → List AV → List AV → Option Bool
  | 0, [], [] => some true
  | n + 1, xs, ys =>
    bif Nat.ble s xs.length && Nat.ble s ys.length then
      (rec (xs.take s) (ys.take s)).bind fun a => (eqEs rec s n (xs.drop s) (ys.drop s)).bind fun r => some (a && r)
    else none
  | _, _, _ => none
def eqTy (P : Program) : Nat → TypeId → List AV → List AV → Option Bool
  | 0, _, _, _ => none
  | d + 1, t, xs, ys =>
    match P.underlying t with
    | some (.struct fs) => bif P.stoodInHeld t then none else eqFs (eqTy P d) P fs.toList 0 xs ys
    | some (.array n el) => (match P.info? el with | some inf => eqEs (eqTy P d el) inf.size n xs ys | none => none)
    | _ => match xs, ys with | [x], [y] => eqLeaf P t x y | _, _ => none
def AV.isAgg : AV → Bool
  | .agg _ => true
  | .pv (.pair _ _) _ => true
  | _ => false
/-- Two structs of single cells, compared. -/
def eqAgg (P : Program) (t : TypeId) (x y : AV) : Option Bool :=
  bif x.isAgg && y.isAgg && aliveL x.flat && aliveL y.flat then
    match P.underlying t with
    | some (.struct _) => bif P.eqGuardType P.depth t then none else eqTy P 9 t x.flat y.flat
    | some (.array _ _) => bif P.eqGuardType P.depth t then none else eqTy P 9 t x.flat y.flat
    | _ => none
  else none
/-- Two interfaces that hold what one package variable holds. -/
def epEq (P : Program) (t t1 t2 : TypeId) (x y : AV) : Bool :=
  match x, y with
  | .ep g, .ep g' => Nat.beq g g' && Nat.beq t1 t2 && (match P.underlying t with | some (.interface _) => true | _ => false) &&
      (match P.underlying t1 with | some (.pointer e) => (match P.info? t1 with | some i => i.comparable | none => false) && (P.info? e).isSome | _ => false)
  | _, _ => false
/-- Two interfaces that hold a struct without fields, of one type. -/
def unEq (P : Program) (t t1 : TypeId) (x y : AV) : Bool :=
  match x, y with
  | .pv .unit _, .pv .unit _ => (match P.underlying t with | some (.interface _) => true | _ => false) && (match P.info? t1 with | some i => i.comparable | none => false) &&
      (match P.underlying t1 with | some (.struct fs) => Nat.beq fs.size 0 && !P.stoodInHeld t1 | _ => false)
  | _, _ => false
/-- Two interfaces that hold values of two types. -/
def otEq (P : Program) (t t1 t2 : TypeId) : Bool := !Nat.beq t1 t2 && (match P.underlying t with | some (.interface _) => true | _ => false)
def binV (P : Program) (t : TypeId) (cst : Bool) (op : BinOp) (x y : AV) (K : AV → Option R) : Option R :=
  match x with
  | .pv (.int a) m => match y with | .pv (.int b) n => bif isInt op then (bif decide (a = b) then binI op a m n K else none) else shI op a m n K | _ => none
  | .pv .float m => match y with | .pv .float n => binF op m n K | .nanv => nanK op K | _ => none
  | .nanv => match y with | .pv .float _ => nanK op K | .nanv => nanK op K | _ => none
  | .pv .bool m => match y with | .pv .bool n => (match P.underlying t with | some .bool => cmpK op (m == n) K | _ => none) | _ => none
  | .pv .str m => match y with | .pv .str n => (match op with | .add => (sadd m n).bind fun s => K (.pv .str s) | op => cmpK op (m.toList == n.toList) K) | _ => none
  | .iface t1 x1 => match y with | .niliface => (match P.underlying t with | some (.interface _) => cmpK op false K | _ => none) | .iface t2 y2 => bif epEq P t t1 t2 x1 y2 then cmpK op true K else bif otEq P t t1 t2 then cmpK op false K else bif Nat.beq t1 t2 && unEq P t t1 x1 y2 then cmpK op true K else none | _ => none
  | .niliface => match y with | .niliface => (match P.underlying t with | some (.interface _) => bif cst then cmpK op true K else none | _ => none) | .iface _ _ => (match P.underlying t with | some (.interface _) => cmpK op false K | _ => none) | _ => none
  | .ref _ _ => match y with | .nilp => (match P.underlying t with | some (.pointer _) => cmpK op false K | _ => none) | _ => none
  | .eref _ _ => match y with | .nilp => (match P.underlying t with | some (.pointer _) => cmpK op false K | _ => none) | _ => none
  | .nilp => match y with | .nilp => (match P.underlying t with | some (.pointer _) => cmpK op true K | _ => none) | _ => none
  | .nils => match y with | .nils => (match P.underlying t with | some (.slice _) => cmpK op true K | _ => none) | _ => none
  | .pv (.nl _) o => match y with | .nils => (match P.underlying t with | some (.slice _) => cmpK op o.isNone K | _ => none) | _ => none
  | .pv .any c =>
    match y with
    | .nilp => (match P.underlying t with | some (.pointer _) => (isNilp c).bind fun b => cmpK op b K | _ => none)
    | .niliface => (match P.underlying t with | some (.interface _) => bif cst then (isNili c).bind fun b => cmpK op b K else none | _ => none)
    | _ => none
  | .agg cs => (eqAgg P t (.agg cs) y).bind fun b => cmpK op b K
  | .pv (.pair a b) m => (eqAgg P t (.pv (.pair a b) m) y).bind fun b => cmpK op b K
  | _ => none
/-- How long a row is that is compared with nil. -/
def rowNil (H : List (Nat × AB)) (x y : AV) : Option Nat :=
  match y with
  | .nils =>
    match x with
    | .own _ h => (match getH H h with | .arr _ _ xs => some xs.length | _ => none)
    | .pv (.list _) xs => some xs.length
    | _ => none
  | _ => none
/-- A row with something in it is not nil; of an empty one nobody knows: both ways must agree. -/
def nilK (P : Program) (t : TypeId) (op : BinOp) (n : Nat) (K : AV → Option R) : Option R :=
  match P.underlying t with
  | some (.slice _) => bif Nat.ble 1 n then cmpK op false K else agree (cmpK op true K) (cmpK op false K)
  | _ => none
/-- .. where both ways can't be tried. -/
def nilD (P : Program) (t : TypeId) (op : BinOp) (n : Nat) (K : AV → Option R) : Option R :=
  match P.underlying t with
  | some (.slice _) => bif Nat.ble 1 n then cmpK op false K else none
  | _ => none
/-- The greater, or the lesser, of two numbers that are none of them NaN. -/
def fmm (mx : Bool) (m n : Nat) : Option Nat :=
  match Ieee.double.order m n with
  | none => none
  | some .lt => some (bif mx then n else m)
  | some .gt => some (bif mx then m else n)
  | some .eq => some (bif mx then (if (Ieee.double.read m).neg then n else m) else (if (Ieee.double.read m).neg then m else n))
def imm (mx : Bool) (m n : Int) : Int := bif mx then (if m < n then n else m) else (if n < m then n else m)
def mmV (mx : Bool) (x y : AV) (K : AV → Option R) : Option R :=
  match x with
  | .pv (.int a) m => match y with | .pv (.int b) n => bif decide (a = b) then K (.pv (.int a) (imm mx m n)) else none | _ => none
  | .pv .float m => match y with | .pv .float n => (fmm mx m n).bind fun z => K (.pv .float z) | _ => none
  | _ => none
def isConst : Operand → Bool
  | .const _ => true
  | _ => false
end

/-! ### operations -/
/-- What a run of the evaluator is over: the program, the fuel of loops, the contracts of callees, what is done at the head of a region, the kinds of types. -/
structure Norm where
  /-- slots that must hold an own row: slot, its element's type and kind, the handle that it gets -/
  own : List (Nat × TypeId × Kd × Nat)
  /-- cells of boxes that must: box, cell, .. -/
  ownC : List (Nat × Nat × TypeId × Kd × Nat)
  /-- slots that must be plain rows -/
  pv : List (Nat × Kd)
  /-- cells that must -/
  pvC : List (Nat × Nat × Kd)
  /-- boxes that are written no more -/
  bx : List (Nat × Kd)
  keep : List Nat
  keepH : List Nat
  /-- a gate: what stands behind is not looked at before the number is known -/
  gt : Option Nat
structure Env where
  P : Program
  n : Nat
  cons : List Con
  adv : List (Nat × Norm)
  kd : TypeId → Option Kd
  con2 : List Con2
  cut : List Nat
  gl : List Gl
  /-- types that an interface in frozen memory may hold -/
  cands : List TypeId
  /-- calls of methods whose result is plain data, whatever the interface holds -/
  dyn : List (Nat × Kd)

/-- Is the type a struct or an array (b), or not? -/
def aggIs (P : Program) (t : TypeId) (b : Bool) : Bool :=
  match P.underlying t with
  | some (.struct _) => b
  | some (.array _ _) => b
  | some _ => !b
  | none => false
def sizeB (P : Program) (t : TypeId) (n : Nat) : Bool :=
  match P.info? t with
  | some i => Nat.beq i.size n
  | none => false
def zeroSz (P : Program) (t : TypeId) (n : Nat) : Bool :=
  match P.info? t with
  | some i => match i.zero with | some z => Nat.beq z.cells.size n | none => false
  | none => false
def zeroSome (P : Program) (t : TypeId) : Bool :=
  match P.info? t with
  | some i => i.zero.isSome
  | none => false
def sizeK {R : Type} (P : Program) (t : TypeId) (K : Nat → Option R) : Option R :=
  match P.info? t with
  | some i => K i.size
  | none => none
def fieldK {R : Type} (P : Program) (s : TypeId) (f : Nat) (K : Field → Option R) : Option R :=
  match P.underlying s with
  | some (.struct fs) => match fs[f]? with | some x => K x | none => none
  | _ => none
/-- An array: how many elements, of what type. -/
def arrT (P : Program) (t : TypeId) : Option (Nat × TypeId) :=
  match P.underlying t with
  | some (.array n el) => some (n, el)
  | _ => none
/-- One of the numbers from q on, m of them. -/
def idxK {R : Type} (j : Int) (K : Nat → Option R) : Nat → Nat → Option R
  | 0, _ => none
  | m + 1, q => bif decide (j = (q : Int)) then K q else idxK j K m (q + 1)
def elemK {R : Type} (P : Program) (t : TypeId) (K : TypeId → Option R) : Option R :=
  match P.underlying t with
  | some (.slice e) => K e
  | _ => none
/-- Are the cells the zero value of the kind? -/
def zeroB : Kd → List Value → Bool
  | .unit, [] => true
  | .int k, [.int k' n] => decide (k = k') && decide (n = 0)
  | .float, [.float .f64 n] => Nat.beq n 0
  | .bool, [.bool b] => !b
  | .str, [.string s] => s.data.isEmpty
  | .list _, [.slice none 0 0] => true
  | .pair a b, cs => zeroB a (cs.take a.size) && zeroB b (cs.drop a.size)
  | .geo, [.int .i64 a, .int .i64 b, .int .i64 c, .slice none 0 0, .slice none 0 0, .slice none 0 0, .slice none 0 0] => decide (a = 0) && decide (b = 0) && decide (c = 0)
  | _, _ => false
/-- The zero value of a type. -/
def zeroK {R : Type} (P : Program) (t : TypeId) (K : AV → Option R) : Option R :=
  match P.info? t with
  | some i => match i.zero with | some z => (match avOf z with | .dead => none | v => K v) | none => none
  | none => none
/-- Where the field lies to which a path leads. -/
def pathOff (P : Program) : List FieldStep → Bool → Option Nat
  | [], _ => some 0
  | s :: r, first =>
    match P.underlying s.struct with
    | some (.struct fs) =>
      match fs[s.index]? with
      | some f => bif (s.deref == first) && aggIs P f.type true && (match P.info? f.type with | some i => !Nat.beq i.size 0 | none => false) then (pathOff P r false).bind fun o => some (f.offset + o) else none
      | none => none
    | _ => none
/-- .. in frozen memory. -/
def pathE (P : Program) : List FieldStep → Bool → (κ : Kd) → Den κ → Option AV
  | [], _, κ, x => some (.eref κ x)
  | s :: r, first, κ, x =>
    match P.underlying s.struct with
    | some (.struct fs) =>
      match fs[s.index]? with
      | some f => bif (s.deref == first) && aggIs P f.type true && (match P.info? f.type with | some i => !Nat.beq i.size 0 | none => false) then
          prjK κ x s.index fun κ' y o => bif Nat.beq o f.offset then pathE P r false κ' y else none else none
      | none => none
    | _ => none
/-- Does a type lack a method that is wanted? (told without reading the names' letters) -/
def lacks (want : Array (String × TypeId)) (got : Array Method) : Bool := want.toList.any fun p => !got.any fun m => m.name == p.1 && m.sig == p.2
/-- A method that is a type's own, of a pointer. -/
def mthOk (P : Program) (t : TypeId) (nm : String) : Bool :=
  match P.info? t with
  | some i => (match i.methods.find? (fun m => m.name == nm) with | some m => m.path.toList.isEmpty && (match m.func with | some (_, true) => true | _ => false) | none => false)
  | none => false
/-- A method of a value in an interface: the function, and what it is called with. -/
def methAV (P : Program) (t : TypeId) (name : String) (v : AV) : Option (FuncId × AV) :=
  match P.info? t with
  | some i =>
    match i.methods.find? (fun m => m.name == name) with
    | some m =>
      match m.func with
      | some (f, true) =>
        match v, P.underlying t with
        | .ref h off, some (.pointer _) => (pathOff P m.path.toList true).bind fun o => some (f, .ref h (off + o))
        | .eref κ x, some (.pointer el) => (pathE P m.path.toList true κ x).bind fun v => some (f, v)
        | _, _ => none
      | some (f, false) =>
        match m.path.toList, P.underlying t with
        | [], some (.slice _) => some (f, v)
        | [], some (.struct _) => some (f, v)
        | [], some (.int _) => some (f, v)
        | _, _ => none
      | none => none
    | none => none
  | none => none
/-- A value of one cell. -/
def AV.single : AV → Bool
  | .pv κ _ => !κ.isAgg
  | .agg _ => false
  | .tuple _ => false
  | .dead => false
  | _ => true
def inOrder : Nat → List Nat → Bool
  | _, [] => true
  | i, j :: r => Nat.beq i j && inOrder (i + 1) r
section
variable {R : Type}
def findCon (cons : List Con) (f : FuncId) (H : List (Nat × AB)) (vs : List AV) (K : (c : Con) → HL c.ps → Option R) : Option R :=
  match cons with
  | [] => none
  | c :: r => bif Nat.beq c.fid f then (match argsD H c.ps vs with | some x => K c x | none => findCon r f H vs K) else findCon r f H vs K
def partsD (H : List (Nat × AB)) (κ : Kd) : Nat → List (Nat × AV) → Option (List (Den κ))
  | _, [] => some []
  | i, (j, v) :: r => bif Nat.beq i j then (argD H κ v).bind fun x => (partsD H κ (i + 1) r).bind fun y => some (x :: y) else none
/-- The elements of an array's cells. -/
def chunks (H : List (Nat × AB)) (κ : Kd) : Nat → List AV → Option (List (Den κ))
  | 0, [] => some []
  | 0, _ :: _ => none
  | n + 1, cs => (cellsD H κ cs).bind fun p => (chunks H κ n p.2).bind fun r => some (p.1 :: r)
/-- A struct put together of its parts. -/
def setCells (cs : List AV) (off : Nat) : List AV → List AV
  | [] => cs
  | v :: r => setCells (cs.set off v) (off + 1) r
/-- An array put together of its parts. -/
def fillA (s : Nat) : List AV → List (Nat × AV) → Option (List AV)
  | cs, [] => some cs
  | cs, (i, v) :: r => bif Nat.beq v.flat.length s && Nat.ble (i * s + s) cs.length && aliveL v.flat then fillA s (setCells cs (i * s) v.flat) r else none
def fillV (fs : Array Field) (P : Program) : List AV → List (Nat × AV) → Option (List AV)
  | cs, [] => some cs
  | cs, (i, v) :: r =>
    match fs[i]? with
    | some f => bif sizeB P f.type v.flat.length && Nat.ble (f.offset + v.flat.length) cs.length && aliveL v.flat then fillV fs P (setCells cs f.offset v.flat) r else none
    | none => none
/-- The type of bytes. -/
def u8T (P : Program) (t : TypeId) : Bool := match P.underlying t with | some (.int .u8) => true | _ => false
def kdK (E : Env) (t : TypeId) (K : Kd → Option R) : Option R := match E.kd t with | some κ => K κ | none => none
/-- What an interface in frozen memory holds: one of some types. -/
def dynK (E : Env) (c : Ce) (K : TypeId → AV → Option R) : List TypeId → Option R
  | [] => none
  | t :: r => (isT t c).bind fun b => bif b then kdK E t fun κ => bif aggIs E.P t κ.isAgg then (asT κ t c).bind fun x => K t (.pv κ x) else none else dynK E c K r
/-- A method of a value in an interface. -/
def methK (E : Env) (t : TypeId) (name : String) (v : AV) (K : FuncId × AV → Option R) : Option R :=
  match v with
  | .pv .any c =>
    match E.P.underlying t with
    | some (.pointer el) => kdK E el fun κ => (ptrD κ c).bind fun x => (methAV E.P t name (.eref κ x)).bind K
    | _ => none
  | v => (methAV E.P t name v).bind K
/-- An operation that only reads, or makes memory of its own ('some b': at the handle 'dst'). -/
def opR (E : Env) (op : Op) (e : Operand → AV) (H : List (Nat × AB)) (K : AV → Option AB → Option R) (dst : Nat) : Option R :=
  match op with
  | .move x => match e x with | .dead => none | v => K v none
  | .assign x => match e x with | .dead => none | v => K v none
  | .pick c a b =>
    match e c with
    | .pv .bool true => match e a with | .dead => none | v => K v none
    | .pv .bool false => match e b with | .dead => none | v => K v none
    | _ => none
  | .binOp op t x y _ =>
    match rowNil H (e x) (e y) with
    | some n => nilD E.P t op n fun v => K v none
    | none => binV E.P t (isConst x || isConst y) op (e x) (e y) fun v => K v none
  | .unOp op _ x =>
    match op, e x with
    | .not, .pv .bool b => K (.pv .bool (!b)) none
    | .neg, .pv (.int k) n => K (.pv (.int k) (k.wrap (0 - n))) none
    | .neg, .pv .float b => K (.pv .float (fneg b)) none
    | _, _ => none
  | .convert src dst x =>
    match e x, E.P.underlying src, E.P.underlying dst with
    | .pv (.int _) n, some _, some (.int k) => K (.pv (.int k) (k.wrap n)) none
    | .pv (.int _) n, some _, some (.float .f64) => K (.pv .float (i2f n)) none
    | .pv .float b, some _, some (.int k) => (floatToIntVal .f64 b k).bind fun n => K (.pv (.int k) n) none
    | .pv .float b, some _, some (.float .f64) => K (.pv .float b) none
    | v, some (.slice el), some .string => bif u8T E.P el then (leafD H (.list (.int .u8)) v).bind fun xs => K (.pv .str (strOfNums xs)) none else none
    | _, _, _ => none
  | .alloc t =>
    match E.P.info? t with
    | some i => match i.zero with
      | some z => bif aliveL (z.cells.toList.map avOf1) then K (.ref dst 0) (some (.box (z.cells.toList.map avOf1))) else none
      | none => none
    | none => none
  | .box _ x => bif aliveL (e x).flat then K (.ref dst 0) (some (.box (e x).flat)) else none
  | .load t a =>
    match e a with
    | .ref h off =>
      match getH H h with
      | .box cs =>
        bif aggIs E.P t true then sizeK E.P t fun s => bif Nat.ble (off + s) cs.length && aliveL ((cs.drop off).take s) then K (.agg ((cs.drop off).take s)) none else none
        else bif aggIs E.P t false then (match cs[off]? with | some .dead => none | some v => K v none | none => none) else none
      | _ => none
    | .eref κ x => bif aggIs E.P t κ.isAgg && sizeB E.P t κ.size then K (.pv κ x) none else none
    | .pv .any c => kdK E t fun κ => bif aggIs E.P t κ.isAgg && sizeB E.P t κ.size then (ptrD κ c).bind fun x => K (.pv κ x) none else none
    | .gi ti g => bif aggIs E.P t false then K (.iface ti (.ep g)) none else none
    | .aref κ₀ h idx =>
      match getH H h with
      | .arr _ κ xs => bif decide (κ₀ = κ) && aggIs E.P t κ.isAgg && sizeB E.P t κ.size then (xs[idx]?).bind fun x => K (.pv κ x) none else none
      | _ => none
    | _ => none
  | .fieldAddr s x f =>
    fieldK E.P s f fun fd => sizeK E.P fd.type fun n => bif Nat.beq n 0 then none else
    match e x with
    | .ref h off => K (.ref h (off + fd.offset)) none
    | .eref κ x => prjK κ x f fun κ' y o => bif Nat.beq o fd.offset then K (.eref κ' y) none else none
    | .pv .any c => kdK E s fun κ => (ptrD κ c).bind fun x => prjK κ x f fun κ' y o => bif Nat.beq o fd.offset then K (.eref κ' y) none else none
    | _ => none
  | .field s x f =>
    fieldK E.P s f fun fd =>
    match e x with
    | .agg cs => bif aggIs E.P fd.type true then sizeK E.P fd.type fun n => bif aliveL ((cs.drop fd.offset).take n) then K (.agg ((cs.drop fd.offset).take n)) none else none
        else bif aggIs E.P fd.type false then (match cs[fd.offset]? with | some .dead => none | some v => K v none | none => none) else none
    | .pv κ x => prjK κ x f fun κ' y o => bif Nat.beq o fd.offset && aggIs E.P fd.type κ'.isAgg && sizeB E.P fd.type κ'.size then K (.pv κ' y) none else none
    | _ => none
  | .indexAddr t x i =>
    match arrT E.P t with
    | some (n, el) =>
      (match e x, e i with
      | .ref h off, .pv (.int _) j => bif Nat.ble 1 n then sizeK E.P el fun s => idxK j (fun q => K (.ref h (off + q * s)) none) n 0 else none
      | .eref κ y, .pv (.int _) j => bif Nat.ble 1 n then sizeK E.P el fun s => idxK j (fun q => prjK κ y q fun κ' z o => bif Nat.beq o (q * s) && Nat.beq κ'.size s then K (.eref κ' z) none else none) n 0 else none
      | _, _ => none)
    | none =>
    elemK E.P t fun el =>
    match e x, e i with
    | .bsl h n, .pv (.int _) j => bif sizeB E.P el 1 then idxK j (fun q => K (.ref h q) none) n 0 else none
    | .pv (.list κ) xs, .pv (.int _) n => bif sizeB E.P el κ.size then (nth xs n).bind fun y => K (.eref κ y) none else none
    | .own _ h, .pv (.int _) n =>
      match getH H h with
      | .arr _ κ xs => bif sizeB E.P el κ.size then (chk n xs.length).bind fun j => K (.aref κ h j) none else none
      | _ => none
    | .sub κ₀ h off len, .pv (.int _) n =>
      match getH H h with
      | .arr _ κ _ => bif decide (κ₀ = κ) && sizeB E.P el κ.size then (chk n len).bind fun j => K (.aref κ h (off + j)) none else none
      | _ => none
    | _, _ => none
  | .index t x i =>
    match arrT E.P t with
    | some (n, el) =>
      (match E.kd el, e i with
      | some κ, .pv (.int _) j => bif sizeB E.P el κ.size && aggIs E.P el κ.isAgg && (e x).isAgg && κ.plain then (chunks H κ n (e x).flat).bind fun ys => (nth ys j).bind fun y => K (.pv κ y) none else none
      | _, _ => none)
    | none =>
    match e x, e i with
    | .pv .str s, .pv (.int _) n => (match E.P.underlying t with | some .string => (chk n s.size).bind fun j => K (.pv (.int .u8) (sbyte s j)) none | _ => none)
    | _, _ => none
  | .nilCheck x =>
    match e x with
    | .ref h o => K (.ref h o) none
    | .eref κ y => K (.eref κ y) none
    | .aref κ h i => K (.aref κ h i) none
    | .func f cs => K (.func f cs) none
    | .mf t nm => bif mthOk E.P t nm then K (.mf t nm) none else none
    | .pv .any c => (isNilp c).bind fun b => bif b then none else K (.pv .any c) none
    | _ => none
  | .slice t x lo hi none =>
    let bd (len : Nat) (G : Nat × Nat → Option R) : Option R :=
      match (lo.map e).getD (.pv (.int .i64) 0), (hi.map e).getD (.pv (.int .i64) (len : Int)) with
      | .pv (.int _) l, .pv (.int _) h => (chk2 l h len).bind G
      | _, _ => none
    let bd2 (len top : Nat) (G : Nat × Nat → Option R) : Option R :=
      match (lo.map e).getD (.pv (.int .i64) 0), (hi.map e).getD (.pv (.int .i64) (len : Int)) with
      | .pv (.int _) l, .pv (.int _) h => (chk2 l h top).bind G
      | _, _ => none
    match e x with
    | .pv .str s => (match E.P.underlying t with | some .string => bd s.size fun p => K (.pv .str (s.extract p.1 p.2)) none | _ => none)
    | .eref κ y =>
      (match arrT E.P t with
      | some (n, el) => (match E.kd el with
        | some κ' => bif sizeB E.P el κ'.size && Nat.ble 1 κ'.size then (chunks H κ' n (flatD κ y)).bind fun ys => bd n fun p => K (.pv (.list κ') ((ys.drop p.1).take (p.2 - p.1))) none else none
        | none => none)
      | none => none)
    | _ =>
    elemK E.P t fun el =>
    match e x with
    | .pv (.list κ) xs => bif sizeB E.P el κ.size then bd xs.length fun p => K (.pv (.list κ) ((xs.drop p.1).take (p.2 - p.1))) none else none
    | .own κ₁ h =>
      match getH H h with
      | .arr _ κ xs => bif sizeB E.P el κ.size then (bif lo.isNone && hi.isNone then K (.own κ₁ h) none else bd xs.length fun p => K (.sub κ h p.1 (p.2 - p.1)) none) else none
      | _ => none
    | .sub κ₀ h off len =>
      match getH H h with
      | .arr _ κ xs => bif decide (κ₀ = κ) && sizeB E.P el κ.size then bd2 len (bif Nat.beq off 0 then xs.length else len) fun p => K (.sub κ h (off + p.1) (p.2 - p.1)) none else none
      | _ => none
    | .nils => (E.P.info? el).bind fun _ => bd 0 fun _ => K .nils none
    | _ => none
  | .slice t x lo (some hi) (some mx) =>
    elemK E.P t fun el =>
    match e x, (lo.map e).getD (.pv (.int .i64) 0), e hi, e mx with
    | .pv (.list κ) xs, .pv (.int _) l, .pv (.int _) h, .pv (.int _) m =>
      bif sizeB E.P el κ.size && decide (h = m) then (chk2 l h xs.length).bind fun p => K (.capd κ ((xs.drop p.1).take (p.2 - p.1))) none else none
    | _, _, _, _ => none
  | .build t parts =>
    match E.P.info? t, E.P.underlying t with
    | some i, some (.array _ el) => (match i.zero with
      | some z => bif aliveL (z.cells.toList.map avOf1) then sizeK E.P el fun s => (fillA s (z.cells.toList.map avOf1) (parts.toList.map fun p => (p.1, e p.2))).bind fun cs => K (.agg cs) none else none
      | none => none)
    | some i, some (.struct fs) => match i.zero with
      | some z => bif aliveL (z.cells.toList.map avOf1) && fs.all (fun f => (E.P.info? f.type).isSome) then
          (fillV fs E.P (z.cells.toList.map avOf1) (parts.toList.map fun p => (p.1, e p.2))).bind fun cs => K (.agg cs) none else none
      | none => none
    | _, _ => none
  | .buildSlice t len parts =>
    elemK E.P t fun el =>
    match E.kd el with
    | some κ => bif sizeB E.P el κ.size && zeroSome E.P el && Nat.ble 1 κ.size && Nat.beq parts.size len && Nat.ble (len * κ.size) 1000 then
        (partsD H κ 0 (parts.toList.map fun p => (p.1, e p.2))).bind fun xs =>
          bif (parts.toList.all fun p => (e p.2).free || !(e p.2).handled) then K (.own κ dst) (some (.arr el κ xs)) else none
      else none
    | none => bif sizeB E.P el 1 && zeroSome E.P el && Nat.ble 1 len && Nat.beq parts.size len && Nat.ble len 1000 && inOrder 0 (parts.toList.map Prod.fst) && (parts.toList.map fun p => e p.2).all AV.single then
        K (.bsl dst len) (some (.box (parts.toList.map fun p => e p.2))) else none
  | .makeSlice t l c =>
    elemK E.P t fun el =>
    match E.P.info? el, E.kd el with
    | some i, some κ =>
      match i.zero with
      | some z =>
        bif Nat.beq i.size κ.size && Nat.ble 1 κ.size && zeroB κ z.cells.toList then
          match e l, e c with
          | .pv (.int _) n, .pv (.int _) m => (mkn n m i.bytes).bind fun k => K (.own κ dst) (some (.arr el κ (List.replicate k κ.zero)))
          | _, _ => none
        else none
      | none => none
    | _, _ => none
  | .makeInterface t x =>
    match E.P.underlying t with
    | some (.interface _) => none
    | some _ => match e x with | .dead => none | v => K (.iface t v) none
    | none => none
  | .typeAssert x _ asserted false =>
    match E.P.underlying asserted, e x with
    | some (.interface want), .iface t v => (match E.P.info? t with | some i => bif lacks want i.methods then none else K (.iface t v) none | none => none)
    | some (.interface _), _ => none
    | some _, .iface t v => bif Nat.beq t asserted then K v none else none
    | some _, .pv .any c => kdK E asserted fun κ => bif aggIs E.P asserted κ.isAgg then (asT κ asserted c).bind fun x => K (.pv κ x) none else none
    | _, _ => none
  | .typeAssert x _ asserted true =>
    match E.P.underlying asserted, e x with
    | some (.interface want), .iface t v =>
      (match E.P.info? t with
        | some i => bif lacks want i.methods then zeroK E.P asserted fun z => K (.tuple [z, .pv .bool false]) none else K (.tuple [.iface t v, .pv .bool true]) none
        | none => none)
    | some _, .iface t v => bif Nat.beq t asserted then (match v with | .dead => none | v => K (.tuple [v, .pv .bool true]) none) else zeroK E.P asserted fun z => K (.tuple [z, .pv .bool false]) none
    | some _, .niliface => zeroK E.P asserted fun z => K (.tuple [z, .pv .bool false]) none
    | some (.interface _), .pv .any _ => none
    | some _, .pv .any c => (isT asserted c).bind fun b => bif b then kdK E asserted fun κ => bif aggIs E.P asserted κ.isAgg then (asT κ asserted c).bind fun x => K (.tuple [.pv κ x, .pv .bool true]) none else none else zeroK E.P asserted fun z => K (.tuple [z, .pv .bool false]) none
    | _, _ => none
  | .makeFunc (.method nm) first caps => (match first.toList, caps.toList with | [x], [] => (match e x with | .iface t (.ref _ _) => K (.mf t nm) none | _ => none) | _, _ => none)
  | .makeFunc (.func f) first caps => bif first.isEmpty && aliveL (caps.toList.map e) then K (.func f (caps.toList.map e)) none else none
  | .extract x i => match e x with | .tuple vs => (match vs[i]? with | some .dead => none | some v => K v none | none => none) | _ => none
  | .call c =>
    match c.callee with
    | .builtin .len =>
      match c.args.toList, c.argTypes.toList with
      | [x], [t] =>
        match e x, E.P.underlying t with
        | .pv (.list _) xs, some (.slice _) => K (.pv (.int .i64) (xs.length : Int)) none
        | .pv (.nl _) o, some (.slice _) => K (.pv (.int .i64) ((o.getD []).length : Int)) none
        | .own _ h, some (.slice _) => match getH H h with | .arr _ _ xs => K (.pv (.int .i64) (xs.length : Int)) none | _ => none
        | .sub _ _ _ len, some (.slice _) => K (.pv (.int .i64) (len : Int)) none
        | .nils, some (.slice _) => K (.pv (.int .i64) 0) none
        | .bsl _ n, some (.slice _) => K (.pv (.int .i64) (n : Int)) none
        | .pv .str s, some .string => K (.pv (.int .i64) (s.size : Int)) none
        | _, _ => none
      | _, _ => none
    | .builtin .cap =>
      match c.args.toList, c.argTypes.toList with
      | [x], [t] => (match e x, E.P.underlying t with | .nils, some (.slice _) => K (.pv (.int .i64) 0) none | _, _ => none)
      | _, _ => none
    | .builtin .max => match c.args.toList with | [x, y] => mmV true (e x) (e y) fun v => K v none | [x, y, z] => mmV true (e x) (e y) fun v => mmV true v (e z) fun u => K u none | _ => none
    | .builtin .min => match c.args.toList with | [x, y] => mmV false (e x) (e y) fun v => K v none | [x, y, z] => mmV false (e x) (e y) fun v => mmV false v (e z) fun u => K u none | _ => none
    | .value f =>
      match e f with
      | .func g caps => findCon E.cons g H (c.args.toList.map e ++ caps) fun c' x =>
          bif c'.rs.all Kd.plain || (c.args.toList.map e ++ caps).all (fun v => !v.handled) then (c'.fn x).bind fun y => K (resV c'.rs y) none else none
      | _ => none
    | .invoke f nm =>
      match e f with
      | .iface t u => methK E t nm u fun g => findCon E.cons g.1 H (g.2 :: c.args.toList.map e) fun c' x =>
          bif c'.rs.all Kd.plain || (g.2 :: c.args.toList.map e).all (fun v => !v.handled) then (c'.fn x).bind fun y => K (resV c'.rs y) none else none
      | .pv .any a => dynK E a (fun t u => methK E t nm u fun g => findCon E.cons g.1 H (g.2 :: c.args.toList.map e) fun c' x =>
          bif c'.rs.all Kd.plain || (g.2 :: c.args.toList.map e).all (fun v => !v.handled) then (c'.fn x).bind fun y => K (resV c'.rs y) none else none) E.cands
      | _ => none
    | _ => none
  | _ => none
end

/-! ### writing operations, regions, code -/
/-- A row of one's own that is written no more: what names it becomes plain data. -/
def AV.frz (h : Nat) (κ : Kd) (xs : List (Den κ)) : AV → AV
  | .own κ' g => bif Nat.beq g h then .pv (.list κ) xs else .own κ' g
  | .sub κ' g off len => bif Nat.beq g h then (bif decide (κ' = κ) then .pv (.list κ) ((xs.drop off).take len) else .dead) else .sub κ' g off len
  | v => v.strike h
def AB.frz (h : Nat) (κ : Kd) (xs : List (Den κ)) : AB → AB
  | .box cs => .box (cs.map (AV.frz h κ xs))
  | b => b
def St.frz (st : St) (h : Nat) : St :=
  match getH st.H h with
  | .arr _ κ xs => ⟨st.fr.map fun (t, v) => (t, v.frz h κ xs), (h, .gone) :: st.H.map fun (t, b) => (t, b.frz h κ xs), st.df⟩
  | _ => st
def AB.notBox : AB → Bool
  | .box _ => false
  | _ => true
def frzArgs (st : St) : List AV → Option St
  | [] => some st
  | v :: r =>
    match v with
    | .own _ h => bif okDf st.df h && (getH st.H h).notBox then frzArgs (st.frz h) r else none
    | .sub _ h _ _ => bif okDf st.df h && (getH st.H h).notBox then frzArgs (st.frz h) r else none
    | v => bif v.free || !v.handled then frzArgs st r else none
/-- Rows of one's own that are written no more, and not named again. -/
def gonesOf : List AV → List (Nat × AB) → Option (List (Nat × AB))
  | [], _ => some []
  | v :: r, H =>
    match v with
    | .own _ h => (match getH H h with | .arr _ _ _ => (gonesOf r ((h, .gone) :: H)).bind fun gs => some (gs ++ [(h, .gone)]) | _ => none)
    | .sub _ h _ _ => (match getH H h with | .arr _ _ _ => (gonesOf r ((h, .gone) :: H)).bind fun gs => some (gs ++ [(h, .gone)]) | _ => none)
    | v => bif v.free || !v.handled then gonesOf r H else none
def arrKd (κ : Kd) : Nat → Kd
  | 0 => .unit
  | n + 1 => .pair κ (arrKd κ n)
/-- A box that is written no more: pointers to it become pointers to plain data. -/
def AV.frzB (h : Nat) (κ : Kd) (x : Den κ) : AV → AV
  | .ref g off => bif Nat.beq g h then (bif Nat.beq off 0 then .eref κ x else .dead) else .ref g off
  | v => v.strike h
def AB.frzB (h : Nat) (κ : Kd) (x : Den κ) : AB → AB
  | .box cs => .box (cs.map (AV.frzB h κ x))
  | b => b
def St.frzB (st : St) (h : Nat) (κ : Kd) : Option St :=
  match getH st.H h with
  | .box cs => bif cs.all AV.isPv then (cellsD st.H κ cs).bind fun p => match p.2 with
    | [] => some ⟨st.fr.map fun (t, v) => (t, v.frzB h κ p.1), (h, .gone) :: st.H.map fun (t, b) => (t, b.frzB h κ p.1), st.df⟩
    | _ => none else none
  | _ => none
/-- A slice of plain data. -/
def plainSl (E : Env) (t : TypeId) : Bool :=
  match E.P.underlying t with
  | some (.slice el) => (E.kd el).isSome
  | _ => true
section
variable {R : Type}
def putF (st : St) (dst : Option Nat) (v : AV) : St := match dst with | some d => ⟨(d, v) :: st.fr, st.H, st.df⟩ | none => st
/-- Two types of slices. -/
def sameSl (P : Program) (t t' : TypeId) : Bool := Nat.beq t t' || (match P.underlying t' with | some (.slice _) => true | _ => false)
/-- 'append' of plain data to a row of one's own: the value, what it leaves, the name that comes anew. -/
def appX0 (E : Env) (t : TypeId) (H : List (Nat × AB)) (df : List AV) (s x : AV) (d : Nat) (K : AV → List (Nat × AB) → List Nat → Option R) : Option R :=
  elemK E.P t fun el =>
  match E.P.info? el, E.kd el with
  | some i, some κ =>
    bif Nat.beq i.size κ.size && Nat.ble 1 κ.size && zeroSz E.P el κ.size && Nat.ble 1 i.bytes then
      (argD H (.list κ) x).bind fun ys =>
      bif !okNew df d then none else
      match s with
      | .nils => bif memN E.cut d && !Nat.ble 1 ys.length then K .nils [(d, .gone)] [d] else (lim (ys.length * i.bytes)).bind fun _ => K (.own κ d) [(d, .arr el κ ys)] [d]
      | .capd κ' zs => (castD (.list κ') (.list κ) zs).bind fun zs => bif Nat.ble 1 ys.length then (lim ((zs.length + ys.length) * i.bytes)).bind fun _ => K (.own κ d) [(d, .arr el κ (zs ++ ys))] [d] else none
      | .own _ h =>
        match getH H h with
        | .arr el' κ' xs => bif Nat.beq el el' then
            (castD (.list κ') (.list κ) xs).bind fun zs => (lim ((zs.length + ys.length) * i.bytes)).bind fun _ =>
              K (.own κ d) [(d, .arr el κ (zs ++ ys)), (h, .gone)] [d] else none
        | _ => none
      | _ => none
    else none
  | _, _ => none
/-- .. or to the first part of one, whose rest is given up. -/
def appX (E : Env) (t : TypeId) (H : List (Nat × AB)) (df : List AV) (s x : AV) (d : Nat) (K : AV → List (Nat × AB) → List Nat → Option R) : Option R :=
  match s with
  | .sub κ₀ h off len =>
    match getH H h with
    | .arr e κ' xs => bif decide (κ₀ = κ') && okNew df d && x.isPv && Nat.beq off 0 && Nat.ble 1 len then
        appX0 E t ((d, .arr e κ' (xs.take len)) :: (h, .gone) :: strikeH d H) df (.own κ₀ d) x d fun v ks nf => K v (ks ++ [(h, .gone)]) nf
      else none
    | _ => none
  | s => appX0 E t H df s x d K
def isIntT (P : Program) (t : TypeId) : Bool := match P.underlying t with | some (.int _) => true | _ => false
/-- 'append' of a number of zeros to nil. -/
def appZ (E : Env) (t t' : TypeId) (df : List AV) (s x : AV) (d : Nat) (K : AV → List (Nat × AB) → List Nat → Option R) : Option R :=
  elemK E.P t fun el =>
  match E.P.info? el, E.kd el with
  | some i, some κ =>
    match i.zero with
    | some z =>
      bif Nat.beq i.size κ.size && Nat.ble 1 κ.size && zeroB κ z.cells.toList && Nat.ble 1 i.bytes && okNew df d && isIntT E.P t' then
        match s, x with
        | .nils, .pv (.int _) n => bif decide (1 ≤ n) then (lim (n.toNat * i.bytes)).bind fun _ => K (.own κ d) [(d, .arr el κ (List.replicate n.toNat κ.zero))] [d] else none
        | _, _ => none
      else none
    | none => none
  | _, _ => none
def appK (E : Env) (t : TypeId) (st : St) (s x : AV) (d : Nat) (K : AV → St → Option R) : Option R :=
  appX E t st.H st.df s x d fun v ks _ => K v ⟨strikeF d st.fr, ks ++ strikeH d st.H, st.df⟩
/-- The contracts for a call: where the name of its result is a marked one, the last is tried first. -/
def Env.c2at (E : Env) (d : Nat) : List Con2 := bif memN E.cut d then E.con2.reverse else E.con2
theorem Env.c2at_mem {E : Env} {d : Nat} {c : Con2} (h : c ∈ E.c2at d) : c ∈ E.con2 := by
  unfold Env.c2at at h
  cases hm : memN E.cut d with
  | true => rw [hm] at h; exact List.mem_reverse.1 h
  | false => rw [hm] at h; exact h
def getDyn : List (Nat × Kd) → Nat → Option Kd
  | [], _ => none
  | (d, κ) :: r, t => bif Nat.beq d t then some κ else getDyn r t
def findC2 (c2 : List Con2) (f : FuncId) (H : List (Nat × AB)) (vs : List AV) (K : (c : Con2) → ShDs c.ins → List (Option Nat) → List AV → Option R) (K0 : Option R) : Option R :=
  match c2 with
  | [] => K0
  | c :: r => bif Nat.beq c.fid f then (match matchShs H c.ins vs with | some p => K c p.1 p.2.1 p.2.2 | none => findC2 r f H vs K K0) else findC2 r f H vs K K0
def freshL : List Nat → St → St
  | [], st => st
  | n :: r, st => freshL r (st.fresh n)
def goneL : List Nat → List (Nat × AB)
  | [] => []
  | n :: r => (n, .gone) :: goneL r
def notIn (l : List Nat) : List Nat → List Nat
  | [] => []
  | n :: r => bif memN l n then notIn l r else n :: notIn l r
def resT : List AV → AV
  | [v] => v
  | vs => .tuple vs
/-- The call itself: the value, what it leaves, the names that come anew. -/
def callX (fr : Bool) (c : Con2) (x : ShDs c.ins) (os : List (Option Nat)) (df : List AV) (d : Nat) (K : AV → List (Nat × AB) → List Nat → Option R) : Option R :=
  (c.fn x).bind fun y => altK c.alts y fun a dd =>
    (fun (ns nf : List Nat) =>
      bif finsOk c.ins a.fins && nodupN ns && nf.all (okNew df) && (parsL a.all).all (fun i => !memN nf (ownAt os i)) && (wparsL a.all).all (fun i => !memN nf (ownAt os i) && ownSome os i) && (fixI (fixL a.all)).all (ownSome os) && tOk (keepTops c.ins a.fins os) (a.names fr c.ins os d) ns then
        (bif subOk c.ins a.fins x (dropSh a.ress (keepS a.fins) dd) then (fun (r : List AV × List (Nat × AB) × List Nat) => K (resT (r.1.take a.ress.length)) (r.2.1 ++ goneL (someN os)) nf) (renderShs (ownAt os) a.all dd ns) else none)
      else none) (ovr os (fixL a.all) (a.names fr c.ins os d)) (notIn (keepTops c.ins a.fins os ++ fixN os (fixL a.all)) (ovr os (fixL a.all) (a.names fr c.ins os d)))
/-- A call that has memory of its own lent, or gives some back. -/
def call2 (c : Con2) (x : ShDs c.ins) (os : List (Option Nat)) (ls : List AV) (st : St) (d : Nat) (K : AV → St → Option R) : Option R :=
  bif ownOk os ls then
    (bif allSafe c.alts then some st else frzArgs st ls).bind fun st1 =>
    callX false c x os st1.df d fun v ks nf => (fun (s : St) => K v ⟨s.fr, ks ++ s.H, s.df⟩) (freshL nf st1)
  else none
/-- A store: what it leaves. -/
def stX (E : Env) (t : TypeId) (av x : AV) (H : List (Nat × AB)) (K : AV → List (Nat × AB) → List Nat → Option R) : Option R :=
  match av with
  | .ref h off =>
    match getH H h with
    | .box cs => bif sizeB E.P t x.flat.length && Nat.ble (off + x.flat.length) cs.length && aliveL x.flat then
        K .dead [(h, .box (setCells cs off x.flat))] [] else none
    | _ => none
  | .aref κ₀ h idx =>
    match getH H h with
    | .arr el κ xs => bif decide (κ₀ = κ) && sizeB E.P t κ.size && x.free then (argD H κ x).bind fun y => K .dead [(h, .arr el κ (xs.set idx y))] [] else none
    | _ => none
  | _ => none
/-- 'copy' of plain data into a row of one's own. -/
def cpX (E : Env) (t : TypeId) (H : List (Nat × AB)) (s x : AV) (K : AV → List (Nat × AB) → List Nat → Option R) : Option R :=
  elemK E.P t fun el =>
  match s with
  | .own _ h =>
    match getH H h with
    | .arr e κ xs => bif Nat.beq κ.size 1 && sizeB E.P el 1 && κ.plain then (argD H (.list κ) x).bind fun ys => K (.pv (.int .i64) ((min ys.length xs.length : Nat) : Int)) [(h, .arr e κ (ys.take xs.length ++ xs.drop ys.length))] [] else none
    | _ => none
  | .sub κ₀ h off len =>
    match getH H h with
    | .arr e κ xs => bif decide (κ₀ = κ) && Nat.beq κ.size 1 && sizeB E.P el 1 && κ.plain then (argD H (.list κ) x).bind fun ys => K (.pv (.int .i64) ((min ys.length len : Nat) : Int)) [(h, .arr e κ (xs.take off ++ (ys.take len ++ xs.drop (off + min ys.length len))))] [] else none
    | _ => none
  | .nils => (E.kd el).bind fun κ => bif sizeB E.P el 1 then (argD H (.list κ) x).bind fun _ => K (.pv (.int .i64) 0) [] [] else none
  | _ => none
/-- A row of one's own that becomes an array. -/
def apX (E : Env) (t : TypeId) (H : List (Nat × AB)) (df : List AV) (s : AV) (d : Nat) (K : AV → List (Nat × AB) → List Nat → Option R) : Option R :=
  match arrT E.P t with
  | some (n, el) =>
    match s with
    | .own _ h =>
      match getH H h with
      | .arr _ κ xs => bif Nat.beq κ.size 1 && !κ.isAgg && Nat.ble 1 n && okNew df d then
          (if xs.length = n then K (.ref d 0) [(d, .box ((List.range n).map fun i => .pv κ (xs.getD i κ.zero))), (h, .gone)] [d] else none) else none
      | _ => none
    | _ => none
  | none => none
/-- A row of one's own that is cut back. -/
def cutX (E : Env) (t : TypeId) (H : List (Nat × AB)) (df : List AV) (s hi : AV) (d : Nat) (K : AV → List (Nat × AB) → List Nat → Option R) : Option R :=
  elemK E.P t fun el =>
  match s, hi with
  | .own _ h, .pv (.int _) j =>
    match getH H h with
    | .arr e κ xs => bif sizeB E.P el κ.size && okNew df d then (chk2 0 j xs.length).bind fun p => K (.own κ d) [(d, .arr e κ (xs.take p.2)), (h, .gone)] [d] else none
    | _ => none
  | _, _ => none
/-- An array that is written no more, as a slice. -/
def slX (E : Env) (t : TypeId) (H : List (Nat × AB)) (df : List AV) (s : AV) (K : AV → List (Nat × AB) → List Nat → Option R) : Option R :=
  match s, arrT E.P t with
  | .ref h off, some (n, el) =>
    match E.kd el, getH H h with
    | some κ, .box cs => bif Nat.beq off 0 && cs.all AV.isPv && sizeB E.P el κ.size && Nat.ble 1 κ.size then (chunks H κ n cs).bind fun ys => K (.pv (.list κ) ys) [(h, .gone)] [] else none
    | _, _ => none
  | _, _ => none
/-- A product that may be no number. -/
def mulN (x y : AV) (K : AV → Option R) : Option R :=
  match x, y with
  | .pv .float m, .pv .float n => Option.elim (Ieee.double.mul m n) (K .nanv) (fun z => K (.pv .float z))
  | _, _ => none
/-- A call of a method. -/
def invW (E : Env) (o : Oper) (st : St) (args : Array Operand) (g : FuncId × AV) (K : AV → St → Option R) : Option R :=
  findC2 E.con2 g.1 st.H (g.2 :: args.toList.map (opnd E.gl st.fr)) (fun c' x os ls => call2 c' x os ls st (100000 + 50 * o.dst.getD 17999) K)
      (findCon E.cons g.1 st.H (g.2 :: args.toList.map (opnd E.gl st.fr)) fun c' x =>
        bif c'.rs.all Kd.plain then (c'.fn x).bind fun y => K (resV c'.rs y) st
        else (frzArgs st (g.2 :: args.toList.map (opnd E.gl st.fr))).bind fun st' => (c'.fn x).bind fun y => K (resV c'.rs y) st')
/-- .. whose result is plain data, and that leaves nothing. -/
def invP (E : Env) (o : Oper) (st : St) (args : Array Operand) (g : FuncId × AV) (κ : Kd) : Option (Den κ) :=
  findC2 E.con2 g.1 st.H (g.2 :: args.toList.map (opnd E.gl st.fr)) (fun c' x os ls => bif ownOk os ls && (allSafe c'.alts || ls.all fun v => v.free || !v.handled) then callX false c' x os st.df (100000 + 50 * o.dst.getD 17999) (fun v ks nf => match v, ks, nf with | .pv κ' y, [], [] => castD κ' κ y | _, _, _ => none) else none)
      (findCon E.cons g.1 st.H (g.2 :: args.toList.map (opnd E.gl st.fr)) fun c' x =>
        bif c'.rs.all Kd.plain then (c'.fn x).bind fun y => match resV c'.rs y with | .pv κ' z => castD κ' κ z | _ => none else none)
/-- A call of a method of what an interface in frozen memory holds. -/
def dynW (E : Env) (o : Oper) (st : St) (args : Array Operand) (nm : String) (c : Ce) (K : AV → St → Option R) : Option R :=
  match getDyn E.dyn (o.dst.getD 17999) with
  | some κ => (dynK E c (fun t u => methK E t nm u fun g => invP E o st args g κ) E.cands).bind fun y => K (.pv κ y) st
  | none => dynK E c (fun t u => methK E t nm u fun g => invW E o st args g K) E.cands
def opW (E : Env) (o : Oper) (st : St) (K : AV → St → Option R) : Option R :=
  match o.op with
  | .binOp op t x y _ =>
    match rowNil st.H (opnd E.gl st.fr x) (opnd E.gl st.fr y) with
    | some n => nilK E.P t op n fun v => K v st
    | none => match op with | .mul => mulN (opnd E.gl st.fr x) (opnd E.gl st.fr y) fun v => K v st | _ => none
  | .sliceToArrayPointer t x =>
    match o.dst with
    | some d => apX E t st.H st.df (opnd E.gl st.fr x) d fun v ks _ => K v ⟨strikeF d st.fr, ks ++ strikeH d st.H, st.df⟩
    | none => none
  | .slice t x none (some hi) none =>
    match o.dst with
    | some d => cutX E t st.H st.df (opnd E.gl st.fr x) (opnd E.gl st.fr hi) d fun v ks _ => K v ⟨strikeF d st.fr, ks ++ strikeH d st.H, st.df⟩
    | none => none
  | .store t a x => stX E t (opnd E.gl st.fr a) (opnd E.gl st.fr x) st.H fun v ks _ => K v ⟨st.fr, ks ++ st.H, st.df⟩
  | .defer c =>
    match c.callee, c.args.toList with
    | .value f, [] => match opnd E.gl st.fr f with | .func g caps => K .dead ⟨st.fr, st.H, .func g caps :: st.df⟩ | _ => none
    | _, _ => none
  | .call { callee := .builtin .append, args := args, argTypes := ts } =>
    match args.toList, ts.toList, o.dst with
    | [s, x], [t, t'], some d => bif sameSl E.P t t' then appK E t st (opnd E.gl st.fr s) (opnd E.gl st.fr x) d K else appZ E t t' st.df (opnd E.gl st.fr s) (opnd E.gl st.fr x) d fun v ks _ => K v ⟨strikeF d st.fr, ks ++ strikeH d st.H, st.df⟩
    | _, _, _ => none
  | .call { callee := .builtin .copy, args := args, argTypes := ts } =>
    match args.toList, ts.toList with
    | [s, x], [t, _] => cpX E t st.H (opnd E.gl st.fr s) (opnd E.gl st.fr x) fun v ks _ => K v ⟨st.fr, ks ++ st.H, st.df⟩
    | _, _ => none
  | .call { callee := .value f, args := args, .. } =>
    match opnd E.gl st.fr f with
    | .func g caps =>
      findC2 (E.c2at (o.dst.getD 17999)) g st.H (args.toList.map (opnd E.gl st.fr) ++ caps) (fun c' x os ls => call2 c' x os ls st (100000 + 50 * o.dst.getD 17999) K)
      (findCon E.cons g st.H (args.toList.map (opnd E.gl st.fr) ++ caps) fun c' x =>
        bif c'.rs.all Kd.plain then (c'.fn x).bind fun y => K (resV c'.rs y) st
        else (frzArgs st (args.toList.map (opnd E.gl st.fr) ++ caps)).bind fun st' => (c'.fn x).bind fun y => K (resV c'.rs y) st')
    | _ => none
  | .call { callee := .invoke f nm, args := args, .. } =>
    match opnd E.gl st.fr f with
    | .iface t u => methK E t nm u fun g => invW E o st args g K
    | .pv .any c => dynW E o st args nm c K
    | _ => none
  | _ => none
def Op.isW : Op → Bool
  | .store .. => true
  | .defer _ => true
  | .call { callee := .builtin .append, .. } => true
  | .call { callee := .builtin .copy, .. } => true
  | .call { callee := .value _, .. } => true
  | .call { callee := .invoke _ _, .. } => true
  | .sliceToArrayPointer .. => true
  | _ => false
/-- A row that is cut back. -/
def isCut (E : Env) (o : Oper) : Bool :=
  match o.op, o.dst with
  | .slice _ _ none (some _) none, some d => memN E.cut d
  | _, _ => false
/-- A product of which it is told that it may be no number. -/
def isMulN (E : Env) (o : Oper) : Bool :=
  match o.op, o.dst with
  | .binOp .mul _ _ _ _, some d => memN E.cut d
  | _, _ => false
/-- A row is compared with nil. -/
def isNil (E : Env) (o : Oper) (st : St) : Bool :=
  match o.op with
  | .binOp _ _ x y _ => (rowNil st.H (opnd E.gl st.fr x) (opnd E.gl st.fr y)).isSome
  | _ => false
/-- Rows of one's own that become parts of a slice are written no more. -/
def preS (E : Env) (op : Op) (st : St) : Option St :=
  match op with
  | .buildSlice t _ parts => bif plainSl E t then frzArgs st (parts.toList.map fun p => opnd E.gl st.fr p.2) else some st
  | .slice t x _ _ none =>
    match opnd E.gl st.fr x, arrT E.P t with
    | .ref h off, some (n, el) => (match E.kd el with
      | some κ => bif Nat.beq off 0 && okDf st.df h then st.frzB h (arrKd κ n) else none
      | none => none)
    | _, _ => some st
  | _ => some st
/-- One operation in the text's order. -/
def opS (E : Env) (o : Oper) (st0 : St) (K : AV → St → Option R) : Option R :=
  bif Op.isW o.op || isCut E o || isNil E o st0 || isMulN E o then opW E o st0 K
  else (preS E o.op st0).bind fun st => opR E o.op (opnd E.gl st.fr) st.H (fun v ob => match ob with | none => K v st | some b => bif !okNew st.df (o.dst.getD 0) || b.ment (o.dst.getD 0) then none else K v ⟨(st.fresh (o.dst.getD 0)).fr, (o.dst.getD 0, b) :: (st.fresh (o.dst.getD 0)).H, (st.fresh (o.dst.getD 0)).df⟩) (o.dst.getD 0)
def opG (E : Env) (ops : Array Oper) (o : Oper) (st : St) (K : St → Option R) : Option R :=
  match o.guard with
  | none => opS E o st fun v st' => K (putF st' o.dst v)
  | some (j, want) =>
    match (ops[j]?).bind (·.dst) with
    | some d =>
      match getF st.fr d with
      | .pv .bool p =>
        cond p
          (cond want (opS E o ⟨(d, .pv .bool true) :: st.fr, st.H, st.df⟩ fun v st' => K (putF st' o.dst v)) (K (putF ⟨(d, .pv .bool true) :: st.fr, st.H, st.df⟩ o.dst (.tuple []))))
          (cond want (K (putF ⟨(d, .pv .bool false) :: st.fr, st.H, st.df⟩ o.dst (.tuple []))) (opS E o ⟨(d, .pv .bool false) :: st.fr, st.H, st.df⟩ fun v st' => K (putF st' o.dst v)))
      | .tuple [] => K (putF st o.dst (.tuple []))
      | _ => none
    | none => none
def opsG (E : Env) (ops : Array Oper) : List Oper → St → (St → Option R) → Option R
  | [], st, K => K st
  | o :: r, st, K => opG E ops o st fun st' => opsG E ops r st' K

def AV.ren (g h : Nat) : AV → AV
  | .own κ g' => bif Nat.beq g' g then .own κ h else .own κ g'
  | .sub κ g' off len => bif Nat.beq g' g then .sub κ h off len else .sub κ g' off len
  | v => v.strike g
def AB.ren (g h : Nat) : AB → AB
  | .box cs => .box (cs.map (AV.ren g h))
  | b => b
/-- What must be an own row under handle h is made one. -/
def ownV (v : AV) (e : TypeId) (κ : Kd) (h : Nat) (st : St) (set : AV → St → Option St) : Option St :=
  bif !okNew st.df h then none else
  match v with
  | .nils => (fun st' => set (.own κ h) ⟨st'.fr, (h, .arr e κ []) :: st'.H, st'.df⟩) (st.fresh h)
  | .own _ g =>
    bif Nat.beq g h then some st else
    bif !okDf st.df g then none else
    match getH st.H g with
    | .arr e' κ' xs =>
      (fun st' => some ⟨st'.fr.map fun (t, v) => (t, v.ren g h), (h, .arr e' κ' xs) :: (g, .gone) :: st'.H.map fun (t, b) => (t, b.ren g h), st'.df⟩) (st.fresh h)
    | _ => none
  | _ => none
def setC (st : St) (b j : Nat) (v : AV) : Option St :=
  match getH st.H b with
  | .box cs => some ⟨st.fr, (b, .box (cs.set j v)) :: st.H, st.df⟩
  | _ => none
def normOwn : List (Nat × TypeId × Kd × Nat) → St → Option St
  | [], st => some st
  | (t, e, κ, h) :: r, st => (ownV (getF st.fr t) e κ h st fun v st' => some ⟨(t, v) :: st'.fr, st'.H, st'.df⟩).bind (normOwn r)
def normOwnC : List (Nat × Nat × TypeId × Kd × Nat) → St → Option St
  | [], st => some st
  | (b, j, e, κ, h) :: r, st =>
    match getH st.H b with
    | .box cs => (ownV ((cs[j]?).getD .dead) e κ h st fun v st' => setC st' b j v).bind (normOwnC r)
    | _ => none
/-- Slots that must hold a plain row: what is an own one there is frozen. -/
def normPv : List (Nat × Kd) → St → Option St
  | [], st => some st
  | (t, κ) :: r, st => (frzArgs st [getF st.fr t]).bind fun st1 =>
    match getF st1.fr t with
    | .nils => normPv r ⟨(t, .pv (.list κ) []) :: st1.fr, st1.H, st1.df⟩
    | .pv _ _ => normPv r st1
    | _ => none
def normPvC : List (Nat × Nat × Kd) → St → Option St
  | [], st => some st
  | (b, j, κ) :: r, st =>
    match getH st.H b with
    | .box cs => (frzArgs st [(cs[j]?).getD .dead]).bind fun st1 =>
      match getH st1.H b with
      | .box cs1 =>
        match (cs1[j]?).getD .dead with
        | .nils => (setC st1 b j (.pv (.list κ) [])).bind (normPvC r)
        | .pv _ _ => normPvC r st1
        | _ => none
      | _ => none
    | _ => none
def normBx : List (Nat × Kd) → St → Option St
  | [], st => some st
  | (h, κ) :: r, st => match getH st.H h with | .gone => normBx r st | _ => bif okDf st.df h then (st.frzB h κ).bind (normBx r) else none
def keepFr (fr : List (Nat × AV)) (l : List Nat) : List (Nat × AV) := l.map fun t => (t, getF fr t)
def keepHp (H : List (Nat × AB)) (l : List Nat) : List (Nat × AB) := l.map fun t => (t, getH H t)
def Norm.at (nm : Norm) (st : St) : Option St :=
  (normOwn nm.own st).bind fun st => (normOwnC nm.ownC st).bind fun st => (normPv nm.pv st).bind fun st => (normPvC nm.pvC st).bind fun st => (normBx nm.bx st).bind fun st => some ⟨keepFr st.fr nm.keep, keepHp st.H nm.keepH, st.df⟩
def findAdv : List (Nat × Norm) → Nat → Option Norm
  | [], _ => none
  | (i, n) :: r, j => bif Nat.beq i j then some n else findAdv r j
/-- The first region of a piece of code. -/
def fstR : Code → Option Nat
  | .region id _ _ => some id
  | .seq a _ => fstR a
  | .block _ c => fstR c
  | .loop c => fstR c
  | .cond _ a b => match fstR a with | some i => some i | none => fstR b
  | _ => none
def advOf (E : Env) (c : Code) : Option Norm := (fstR c).bind (findAdv E.adv)
/-- The first round of the loop is gone by itself. -/
def peelB (E : Env) (c : Code) : Bool := match fstR c with | some r => (getDyn E.dyn (1000000 + r)).isSome | none => false
def gate : Nat → Option R → Option R
  | 0, _ => none
  | _ + 1, x => x
def gateO (g : Option Nat) (x : Option R) : Option R := match g with | none => x | some n => gate n x
def normK (nm : Option Norm) (st : St) (K : St → Option R) : Option R :=
  match nm with
  | none => K st
  | some n => (n.at st).bind fun st' => gateO n.gt (K st')
/-- Exits of a piece of code (of our own: 'Exit' without panics). -/
inductive Ex where
  | normal
  | exit (id : Nat)
  | ret
def kSeq (nm : Option Norm) (f : St → (Ex → St → Option R) → Option R) (K : Ex → St → Option R) : Ex → St → Option R
  | .normal, st => normK nm st fun st' => f st' K
  | e, st => K e st
def kBlock (id : Nat) (K : Ex → St → Option R) : Ex → St → Option R
  | .exit i, st => bif Nat.beq i id then K .normal st else K (.exit i) st
  | e, st => K e st
def loopN (nm : Option Norm) (f : St → (Ex → St → Option R) → Option R) : Nat → St → (Ex → St → Option R) → Option R
  | 0, _, _ => none
  | n + 1, st, K => f st (kSeq nm (fun st' K' => loopN nm f n st' K') K)
/-! ### regions whose order is drawn: a head of operations that write nothing, in any order; behind it the rest, one after another -/
/-- It writes nothing that another one reads but for its own temporary. -/
def Op.isA : Op → Bool
  | .move _ => true
  | .assign _ => true
  | .pick .. => true
  | .binOp .. => true
  | .unOp .. => true
  | .convert .. => true
  | .load .. => true
  | .fieldAddr .. => true
  | .field .. => true
  | .indexAddr .. => true
  | .index .. => true
  | .nilCheck _ => true
  | .slice .. => true
  | .build .. => true
  | .buildSlice .. => true
  | .makeInterface .. => true
  | .typeAssert .. => true
  | .makeFunc .. => true
  | .extract .. => true
  | .call { callee := .builtin .len, .. } => true
  | .call { callee := .builtin .cap, .. } => true
  | .call { callee := .builtin .min, .. } => true
  | .call { callee := .builtin .max, .. } => true
  | .call { callee := .value _, .. } => true
  | .call { callee := .invoke _ _, .. } => true
  | _ => false
def aK (K : AV → Option R) : AV → Option AB → Option R := fun v ob => match ob with | none => K v | some _ => none
def bK (K : AV → Option R) : AV → Option AB → Option R := fun v ob =>
  match v, ob with
  | .own κ _, some (.arr _ κ' xs) => bif decide (κ = κ') then K (.pv (.list κ') xs) else none
  | _, _ => none
def opA (E : Env) (op : Op) (e : Operand → AV) (H : List (Nat × AB)) (K : AV → Option R) (dst : Nat) : Option R :=
  match op with
  | .buildSlice t len parts => opR E (.buildSlice t len parts) e H (bK K) dst
  | op => opR E op e H (aK K) dst
def dstIs (o : Oper) (t : Nat) : Bool := match o.dst with | some d => Nat.beq d t | none => false
/-! ### regions whose order is drawn, with memory -/
structure Tr where
  v : AV
  ks : List (Nat × AB)
  nf : List Nat
  fp : List Nat
mutual
def AV.names : AV → List Nat
  | .own _ h => [h]
  | .sub _ h _ _ => [h]
  | .ref h _ => [h]
  | .aref _ h _ => [h]
  | .bsl h _ => [h]
  | .agg cs => namesL cs
  | .iface _ v => v.names
  | .func _ cs => namesL cs
  | .tuple cs => namesL cs
  | _ => []
def namesL : List AV → List Nat
  | [] => []
  | v :: r => v.names ++ namesL r
end
def AB.names : AB → List Nat
  | .box cs => namesL cs
  | _ => []
def closeN (H : List (Nat × AB)) : Nat → List Nat → List Nat → List Nat
  | 0, _, seen => seen
  | _ + 1, [], seen => seen
  | k + 1, h :: r, seen => bif memN seen h then closeN H k r seen else closeN H k ((getH H h).names ++ r) (h :: seen)
/-- What an operation can reach. -/
def fpOf (H : List (Nat × AB)) (e : Operand → AV) (op : Op) : List Nat :=
  match op with
  | .call { callee := .value f, args := args, .. } => closeN H 300 (namesL (args.toList.map e) ++ (e f).names) []
  | .call { callee := .invoke f _, args := args, .. } => closeN H 300 (namesL (args.toList.map e) ++ (e f).names) []
  | .load _ a => (e a).names
  | .convert _ _ x => (e x).names
  | .sliceToArrayPointer _ x => (e x).names
  | .indexAddr _ x _ => (e x).names
  | .index _ x _ => (e x).names
  | .slice _ x _ _ _ => (e x).names
  | .buildSlice _ _ parts => namesL (parts.toList.map fun p => e p.2)
  | .store _ a x => (e a).names ++ (e x).names
  | .call c => namesL (c.args.toList.map e)
  | _ => []
def nK (df : List AV) (d : Nat) (K : AV → List (Nat × AB) → List Nat → Option R) : AV → Option AB → Option R := fun v ob =>
  match ob with
  | some b => bif okNew df d && !b.ment d then K v [(d, b)] [d] else none
  | none => none
/-- A cell that names a row of one's own, as plain data. -/
def AV.frz1 (H : List (Nat × AB)) : AV → AV
  | .own _ h => match getH H h with | .arr _ κ' xs => .pv (.list κ') xs | _ => .dead
  | .sub κ h off len => match getH H h with | .arr _ κ' xs => bif decide (κ = κ') then .pv (.list κ') ((xs.drop off).take len) else .dead | _ => .dead
  | v => v
def AV.frzV (H : List (Nat × AB)) : AV → AV
  | .agg cs => .agg (cs.map (AV.frz1 H))
  | v => v.frz1 H
def partsF (e : Operand → AV) (parts : Array (Nat × Operand)) : List AV := parts.toList.flatMap fun p => (e p.2).flat
/-- A call of a method in a drawn region. -/
def invM (E : Env) (args : Array Operand) (e : Operand → AV) (H : List (Nat × AB)) (df : List AV) (d : Nat) (g : FuncId × AV) (K : AV → List (Nat × AB) → List Nat → Option R) : Option R :=
  findC2 E.con2 g.1 H (g.2 :: args.toList.map e) (fun c x os ls => bif ownOk os ls then (bif allSafe c.alts then some [] else gonesOf ls H).bind fun gs => callX true c x os df (100000 + 50 * d) fun v ks nf => K v (ks ++ gs) nf else none)
    (findCon E.cons g.1 H (g.2 :: args.toList.map e) fun c' x =>
        bif c'.rs.all Kd.plain || (g.2 :: args.toList.map e).all (fun v => !v.handled) then (c'.fn x).bind fun y => K (resV c'.rs y) [] [] else none)
def opM (E : Env) (op : Op) (e : Operand → AV) (H : List (Nat × AB)) (df : List AV) (d : Nat) (K : AV → List (Nat × AB) → List Nat → Option R) : Option R :=
  match op with
  | .alloc t => opR E (.alloc t) e H (nK df d K) d
  | .box t x => opR E (.box t x) e H (nK df d K) d
  | .makeSlice t l c => opR E (.makeSlice t l c) e H (nK df d K) d
  | .sliceToArrayPointer t x => apX E t H df (e x) d K
  | .slice t x none (some hi) none => bif memN E.cut d then cutX E t H df (e x) (e hi) d K else opA E (.slice t x none (some hi) none) e H (fun v => K v [] []) d
  | .slice t x none none none => (match e x with | .ref h off => slX E t H df (.ref h off) K | _ => opA E (.slice t x none none none) e H (fun v => K v [] []) d)
  | .buildSlice t len parts => bif Nat.beq len 0 || !plainSl E t then opR E (.buildSlice t len parts) e H (nK df d K) d
      else (gonesOf (partsF e parts) H).bind fun gs => opA E (.buildSlice t len parts) (fun x => (e x).frzV H) (gs ++ H) (fun v => K v gs []) d
  | .call { callee := .value f, args := args, argTypes := ts } =>
    match e f with
    | .func g caps =>
      findC2 (E.c2at d) g H (args.toList.map e ++ caps) (fun c x os ls => bif ownOk os ls then (bif allSafe c.alts then some [] else gonesOf ls H).bind fun gs => callX true c x os df (100000 + 50 * d) fun v ks nf => K v (ks ++ gs) nf else none)
        (opA E (.call { callee := .value f, args := args, argTypes := ts }) e H (fun v => K v [] []) d)
    | _ => none
  | .call { callee := .invoke f nm, args := args, argTypes := ts } =>
    match e f with
    | .iface t u => methK E t nm u fun g => invM E args e H df d g K
    | .pv .any c => dynK E c (fun t u => methK E t nm u fun g => invM E args e H df d g K) E.cands
    | _ => none
  | .call { callee := .builtin .append, args := args, argTypes := ts } =>
    match args.toList, ts.toList with
    | [s, x], [t, t'] => bif sameSl E.P t t' then appX E t H df (e s) (e x) d K else appZ E t t' df (e s) (e x) d K
    | _, _ => none
  | .call { callee := .builtin .copy, args := args, argTypes := ts } =>
    match args.toList, ts.toList with
    | [s, x], [t, _] => cpX E t H (e s) (e x) K
    | _, _ => none
  | .store t a x => stX E t (e a) (e x) H K
  | op => opA E op e H (fun v => K v [] []) d
def opMG (E : Env) (ops : Array Oper) (o : Oper) (st : St) (K : Tr → St → Option R) : Option R :=
  match o.guard with
  | none => (fun fp => opM E o.op (opnd E.gl st.fr) (keepHp st.H fp) st.df (o.dst.getD 0) fun v ks nf => K ⟨v, ks, nf, fp⟩ (putF ⟨st.fr, ks ++ st.H, st.df⟩ o.dst v)) (fpOf st.H (opnd E.gl st.fr) o.op)
  | some (j, want) =>
    match (ops[j]?).bind (·.dst) with
    | some d =>
      match getF st.fr d with
      | .pv .bool p =>
        cond p
          (cond want ((fun fp => opM E o.op (opnd E.gl ((d, .pv .bool true) :: st.fr)) (keepHp st.H fp) st.df (o.dst.getD 0) fun v ks nf => K ⟨v, ks, nf, fp⟩ (putF ⟨(d, .pv .bool true) :: st.fr, ks ++ st.H, st.df⟩ o.dst v)) (fpOf st.H (opnd E.gl ((d, .pv .bool true) :: st.fr)) o.op))
            (K ⟨.tuple [], [], [], []⟩ (putF ⟨(d, .pv .bool true) :: st.fr, st.H, st.df⟩ o.dst (.tuple []))))
          (cond want (K ⟨.tuple [], [], [], []⟩ (putF ⟨(d, .pv .bool false) :: st.fr, st.H, st.df⟩ o.dst (.tuple [])))
            ((fun fp => opM E o.op (opnd E.gl ((d, .pv .bool false) :: st.fr)) (keepHp st.H fp) st.df (o.dst.getD 0) fun v ks nf => K ⟨v, ks, nf, fp⟩ (putF ⟨(d, .pv .bool false) :: st.fr, ks ++ st.H, st.df⟩ o.dst v)) (fpOf st.H (opnd E.gl ((d, .pv .bool false) :: st.fr)) o.op)))
      | .tuple [] => K ⟨.tuple [], [], [], []⟩ (putF st o.dst (.tuple []))
      | _ => none
    | none => none
def opsM (E : Env) (ops : Array Oper) : List Oper → St → (List Tr → St → Option R) → Option R
  | [], st, K => K [] st
  | o :: r, st, K => opMG E ops o st fun t st' => opsM E ops r st' fun ts st'' => K (t :: ts) st''
def Op.isM : Op → Bool
  | .alloc _ => true
  | .box _ _ => true
  | .makeSlice .. => true
  | .call { callee := .builtin .append, .. } => true
  | .call { callee := .builtin .copy, .. } => true
  | .store _ _ _ => true
  | .sliceToArrayPointer .. => true
  | op => Op.isA op
def headM : List Oper → Nat
  | [] => 0
  | o :: r => bif Op.isM o.op then headM r + 1 else 0
def keysT (t : Tr) : List Nat := t.ks.map Prod.fst
def meets : List Nat → List Nat → Bool
  | [], _ => false
  | n :: r, l => memN l n || meets r l
/-- None of the names is named in what the operation tells or leaves. -/
def trNo (nf : List Nat) (t : Tr) : Bool := nf.all fun n => !t.v.ment n && t.ks.all fun e => !e.2.ment n
def maskOf (acc : List Nat) : List Edge → Nat
  | [] => 0
  | e :: r => bif Region.binds .any e then Nat.lor (Nat.lor (2 ^ e.on) (acc.getD e.on 0)) (maskOf acc r) else maskOf acc r
/-- Which operations each one waits for, through others too. -/
def ancs : List Oper → List Nat → List Nat
  | [], acc => acc
  | o :: r, acc => ancs r (acc ++ [maskOf acc o.after.toList])
def isAnc (m i : Nat) : Bool := Nat.testBit m i
def looksB (ops : Array Oper) (o : Oper) (t : Option Nat) : Bool := match t with | some d => (o.looksAt ops).any fun s => Nat.beq s d | none => false
def pairM (ops : Array Oper) (oi oj : Oper) (ti tj : Tr) (i mj : Nat) : Bool :=
  (match oi.dst with | some d => !dstIs oj d | none => true) && trNo tj.nf ti &&
  (isAnc mj i || (!looksB ops oj oi.dst && !looksB ops oi oj.dst && !meets (keysT ti) (tj.fp ++ keysT tj) && !meets (keysT tj) ti.fp && trNo ti.nf tj))
def colM (ops : Array Oper) (oj : Oper) (tj : Tr) (mj : Nat) : Nat → List Oper → List Tr → Bool
  | i, oi :: os, ti :: ts => pairM ops oi oj ti tj i mj && colM ops oj tj mj (i + 1) os ts
  | _, _, _ => true
def rowsM (ops : Array Oper) (hd : List Oper) (tr : List Tr) : Nat → List Oper → List Tr → List Nat → Bool
  | j, oj :: os, tj :: ts, mj :: ms => colM ops oj tj mj 0 (hd.take j) (tr.take j) && tj.nf.all (memN (keysT tj)) && oj.after.toList.all (fun e => !Region.binds .any e || Nat.blt e.on j) && rowsM ops hd tr (j + 1) os ts ms
  | _, [], [], [] => true
  | _, _, _, _ => false
def stNo (st : St) (nf : List Nat) : Bool := nf.all fun n => st.fr.all (fun p => !p.2.ment n) && st.H.all fun p => !p.2.ment n
def condM (ops : Array Oper) (hd : List Oper) (tr : List Tr) (st : St) : Bool :=
  rowsM ops hd tr 0 hd tr (ancs hd []) && tr.all fun t => stNo st t.nf
def drawM (ops : Array Oper) (n : Nat) : Bool :=
  Region.noSelect ops && (bif Nat.beq n ops.size then true else Region.sinkB .any ops n && Region.chainB .any ops n) &&
  Region.seqB .any ops (ops.size - n) n ((List.replicate n true ++ List.replicate (ops.size - n) false).toArray)
/-- Every temporary that is written lies in the frame. -/
def dstB (nt : Nat) (o : Oper) : Bool := match o.dst with | some d => Nat.blt d nt | none => true
def codeB (nt : Nat) : Code → Bool
  | .region _ ops _ => ops.toList.all (dstB nt)
  | .seq a b => codeB nt a && codeB nt b
  | .cond _ a b => codeB nt a && codeB nt b
  | .block _ c => codeB nt c
  | .loop c => codeB nt c
  | _ => true
def evC (E : Env) : Code → St → (Ex → St → Option R) → Option R
  | .skip, st, K => K .normal st
  | .region _ ops draw, st, K =>
    bif draw then (bif E.P.follows .mixedOrders && drawM ops (headM ops.toList) then
        opsM E ops (ops.toList.take (headM ops.toList)) st fun tr st' => bif condM ops (ops.toList.take (headM ops.toList)) tr st then opsG E ops (ops.toList.drop (headM ops.toList)) st' fun st'' => K .normal st'' else none
      else none)
    else opsG E ops ops.toList st fun st' => K .normal st'
  | .seq a b, st, K => evC E a st (kSeq (advOf E b) (evC E b) K)
  | .cond c a b, st, K =>
    match opnd E.gl st.fr c with
    | .pv .bool p => cond p (evC E a st K) (evC E b st K)
    | _ => none
  | .block id c, st, K => evC E c st (kBlock id K)
  | .loop c, st, K => bif peelB E c then loopN (advOf E c) (evC E c) (E.n + 1) st K else normK (advOf E c) st fun st' => loopN (advOf E c) (evC E c) E.n st' K
  | .exit id, st, K => K (.exit id) st
  | .ret, st, K => K .ret st
  | _, _, _ => none

/-! ### functions -/
def frArgs : Nat → (ps : List Par) → HL ps → List (Nat × AV)
  | _, [], _ => []
  | i, .k κ :: r, x => (i, .pv κ x.1) :: frArgs (i + 1) r x.2
  | i, .fn f :: r, x => (i, .func f []) :: frArgs (i + 1) r x
  | i, .ifc t κ :: r, x => (i, .iface t (.pv κ x.1)) :: frArgs (i + 1) r x.2
def resAV (P : Program) (st : St) : List ResultVar → Option (List AV)
  | [] => some []
  | .tmp t :: r => (resAV P st r).bind fun vs => some (getF st.fr t :: vs)
  | .cell a t :: r =>
    match getF st.fr a with
    | .ref h off =>
      match getH st.H h with
      | .box cs => bif aggIs P t true then sizeK P t fun s => bif Nat.ble (off + s) cs.length && aliveL ((cs.drop off).take s) then (resAV P st r).bind fun vs => some (.agg ((cs.drop off).take s) :: vs) else none
          else bif aggIs P t false then (match cs[off]? with | some v => (resAV P st r).bind fun vs => some (v :: vs) | none => none) else none
      | _ => none
    | _ => none
def resD (H : List (Nat × AB)) : (rs : List Kd) → List AV → Option (HR rs)
  | [], [] => some ()
  | [κ], [v] => argD H κ v
  | κ :: κ' :: r, v :: vs => (argD H κ v).bind fun x => (resD H (κ' :: r) vs).bind fun y => some (x, y)
  | _, _ => none
/-- The deferred calls are of functions that do nothing where nothing panics. -/
def idleDf (idle : List FuncId) : List AV → Bool
  | [] => true
  | .func g caps :: r => (idle.any fun f => Nat.beq f g) && aliveL caps && idleDf idle r
  | _ => false
def kEnd (E : Env) (idle : List FuncId) (rv : List ResultVar) (rs : List Kd) : Ex → St → Option (HR rs)
  | .exit _, _ => none
  | _, st => bif idleDf idle st.df then (resAV E.P st rv).bind fun vs => resD st.H rs vs else none
def evF (E : Env) (idle : List FuncId) (fn : Func) (ps : List Par) (rs : List Kd) (x : HL ps) : Option (HR rs) :=
  match fn.body with
  | some c => bif codeB fn.ntmps c && Nat.ble ps.length fn.ntmps then normK (advOf E c) ⟨frArgs 0 ps x, [], []⟩ fun st => evC E c st (kEnd E idle fn.results.toList rs) else none
  | none => none
/-! ### functions with shapes -/
def matchAlt (H : List (Nat × AB)) (a : Alt) (vs as : List AV) : Option (ShDs a.all) :=
  (matchShs H a.all (vs ++ keepV a.fins as)).bind fun p => bif ownOk p.2.1 p.2.2 && Nat.beq vs.length a.ress.length then some p.1 else none
def altTry (H : List (Nat × AB)) (vs as : List AV) : (alts : List Alt) → Option (AltD alts)
  | [] => none
  | [a] => matchAlt H a vs as
  | a :: b :: r => match matchAlt H a vs as with | some d => some (.inl d) | none => (altTry H vs as (b :: r)).bind fun y => some (.inr y)
def frL : Nat → List AV → List (Nat × AV)
  | _, [] => []
  | i, v :: r => (i, v) :: frL (i + 1) r
def kEnd2 (E : Env) (idle : List FuncId) (rv : List ResultVar) (alts : List Alt) (as : List AV) : Ex → St → Option (AltD alts)
  | .exit _, _ => none
  | _, st => bif idleDf idle st.df then (resAV E.P st rv).bind fun vs => altTry st.H vs as alts else none
/-- What holds no memory is not looked at again. -/
def maskA : List Sh → List AV → List AV
  | i :: ins, v :: vs => (bif Nat.beq i.cnt 0 then .dead else v) :: maskA ins vs
  | _, _ => []
def evF2 (E : Env) (idle : List FuncId) (fn : Func) (ins : List Sh) (alts : List Alt) (x : ShDs ins) : Option (AltD alts) :=
  match fn.body with
  | some c => bif codeB fn.ntmps c && Nat.ble ins.length fn.ntmps && noParL ins then
      (fun (r : List AV × List (Nat × AB) × List Nat) => normK (advOf E c) ⟨frL 0 r.1, r.2.1, []⟩ fun st => evC E c st (kEnd2 E idle fn.results.toList alts (maskA ins r.1)))
        (renderShs (fun _ => 0) ins x (nameL 1000000 (cnts ins))) else none
  | none => none
end
end Go.Av
