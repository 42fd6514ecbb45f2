/- Texts of the proof, merged: Av1 Av2 Av3 Av4 Av5 Av6 Av7 Av28. -/
import Derived.WalkKit
import Derived.Deep.LoopGhost
import Derived.Defers
import Derived.Orders
import Derived.StillTail
import Derived.Laws.OwnMore
import Derived.Laws.AppendOwnNone
import Derived.Laws.FloatArith
import Derived.Below
import Derived.Laws.BytesArg
import Derived.LaidEql
import Derived.ChangeKeysEq
import Derived.Laws.StructEq
set_option linter.unusedVariables false
set_option linter.unusedSimpArgs false
noncomputable section
namespace Go.Av
open Go
open Classical in
def agree{R:Type}(x y:Option R):Option R:=if x=y then x else none
inductive Geo where
 |mk (kind layout srid:Int) (flat:List Nat) (ends:List Int) (endss:List (List Int)) (kids:List Geo)
def Geo.kind:Geo→Int| .mk a _ _ _ _ _ _=>a
def Geo.layout:Geo→Int| .mk _ a _ _ _ _ _=>a
def Geo.srid:Geo→Int| .mk _ _ a _ _ _ _=>a
def Geo.flat:Geo→List Nat| .mk _ _ _ a _ _ _=>a
def Geo.ends:Geo→List Int| .mk _ _ _ _ a _ _=>a
def Geo.endss:Geo→List (List Int)| .mk _ _ _ _ _ a _=>a
def Geo.kids:Geo→List Geo| .mk _ _ _ _ _ _ a=>a
inductive Ce where
 |int (k:IntKind) (n:Int)
 |flt (b:Nat)
 |boo (b:Bool)
 |str (s:ByteArray)
 |fl (xs:List Nat)
 |il (xs:List Int)
 |ill (xs:List (List Int))
 |nl
 |sl (xs:List Ce)
 |nilp
 |ptr (cs:List Ce)
 |nili
 |ifc (t:TypeId) (c:Ce)
 |ifa (t:TypeId) (cs:List Ce)
inductive Kd where
 |int (k:IntKind)
 |float
 |bool
 |str
 |list (e:Kd)
 |unit
 |pair (a b:Kd)
 |geo
 |any
 |nl (e:Kd)
 deriving DecidableEq
@[reducible] def Den:Kd→Type
 | .int _=>Int
 | .float=>Nat
 | .bool=>Bool
 | .str=>ByteArray
 | .list e=>List (Den e)
 | .unit=>Unit
 | .pair a b=>Den a×Den b
 | .geo=>Geo
 | .any=>Ce
 | .nl e=>Option (List (Den e))
def Kd.size:Kd→Nat
 | .unit=>0
 | .pair a b=>a.size+b.size
 | .geo=>7
 |_=>1
def Kd.isAgg:Kd→Bool
 | .unit=>true
 | .pair _ _=>true
 | .geo=>true
 |_=>false
def Kd.plain:Kd→Bool
 | .list _=>false
 | .geo=>false
 | .any=>false
 | .nl _=>false
 | .pair a b=>a.plain&&b.plain
 |_=>true
def Kd.zero:(κ:Kd)→Den κ
 | .int _=>(0:Int)
 | .float=>(0:Nat)
 | .bool=>false
 | .str=>⟨#[]⟩
 | .list _=>[]
 | .unit=>()
 | .pair a b=>(a.zero,b.zero)
 | .geo=> .mk 0 0 0 [] [] [] []
 | .any=> .nilp
 | .nl _=>none
def getC:(κ:Kd)→Ce→Option (Den κ)
 | .any,c=>some c
 | .int k, .int k' n=>bif decide (k'=k)then some n else none
 | .float, .flt b=>some b
 | .bool, .boo b=>some b
 | .str, .str s=>some s
 | .list .float, .fl xs=>some xs
 | .list (.int .i64), .il xs=>some xs
 | .list (.list (.int .i64)), .ill xs=>some xs
 | .list .any, .sl xs=>some xs
 | .list _, .nl=>some []
 |_,_=>none
def putC:(κ:Kd)→Den κ→Option Ce
 | .any,c=>some c
 | .int k,n=>some (.int k n)
 | .float,b=>some (.flt b)
 | .bool,b=>some (.boo b)
 | .str,s=>some (.str s)
 | .list .float,xs=>some (.fl xs)
 | .list (.int .i64),xs=>some (.il xs)
 | .list (.list (.int .i64)),xs=>some (.ill xs)
 | .list .any,xs=>some (.sl xs)
 |_,_=>none
def getCs:(κ:Kd)→List Ce→Option (Den κ×List Ce)
 | .unit,cs=>some ((),cs)
 | .pair a b,cs=>(getCs a cs).bind fun p=>(getCs b p.2).bind fun q=>some ((p.1,q.1),q.2)
 | .geo,_=>none
 |κ,c::r=>(getC κ c).bind fun x=>some (x,r)
 |_,[]=>none
def putCs:(κ:Kd)→Den κ→Option (List Ce)
 | .unit,_=>some []
 | .pair a b,x=>(putCs a x.1).bind fun p=>(putCs b x.2).bind fun q=>some (p++q)
 | .geo,_=>none
 |κ,x=>(putC κ x).bind fun c=>some [c]
def ptrD(κ:Kd):Ce→Option (Den κ)
 | .ptr cs=>(getCs κ cs).bind fun p=>match p.2 with|[]=>some p.1|_=>none
 |_=>none
def isNilp:Ce→Option Bool
 | .nilp=>some true
 | .ptr _=>some false
 |_=>none
def isNili:Ce→Option Bool
 | .nili=>some true
 | .ifc _ _=>some false
 | .ifa _ _=>some false
 |_=>none
def isT(t:TypeId):Ce→Option Bool
 | .nili=>some false
 | .ifc u _=>some (Nat.beq u t)
 | .ifa u _=>some (Nat.beq u t)
 |_=>none
def asT(κ:Kd)(t:TypeId):Ce→Option (Den κ)
 | .ifc u c=>bif Nat.beq u t&& !κ.isAgg then getC κ c else none
 | .ifa u cs=>bif Nat.beq u t&&κ.isAgg then(getCs κ cs).bind fun p=>match p.2 with|[]=>some p.1|_=>none else none
 |_=>none
inductive AV where
 |pv (κ:Kd) (x:Den κ)
 |nils
 |agg (cs:List AV)
 |own (κ:Kd) (h:Nat)
 |sub (κ:Kd) (h off len:Nat)
 |ref (h off:Nat)
 |eref (κ:Kd) (x:Den κ)
 |aref (κ:Kd) (h idx:Nat)
 |nilp
 |gi (t:TypeId) (g:Nat)
 |ep (g:Nat)
 |mf (t:TypeId) (nm:String)
 |mfa (c:Ce) (nm:String)
 |niliface
 |iface (t:TypeId) (v:AV)
 |func (f:FuncId) (caps:List AV)
 |nilf
 |nanv
 |bsl (h n:Nat)
 |pa (κ:Kd) (h n:Nat)
 |capd (κ:Kd) (x:List (Den κ))
 |tuple (vs:List AV)
 |dead
mutual
def AV.ment(d:Nat):AV→Bool
 | .own _ h=>Nat.beq h d
 | .sub _ h _ _=>Nat.beq h d
 | .ref h _=>Nat.beq h d
 | .aref _ h _=>Nat.beq h d
 | .bsl h _=>Nat.beq h d
 | .pa _ h _=>Nat.beq h d
 | .agg cs=>mentL d cs
 | .iface _ v=>AV.ment d v
 | .func _ cs=>mentL d cs
 | .tuple cs=>mentL d cs
 |_=>false
def mentL(d:Nat):List AV→Bool
 |[]=>false
 |v::r=>AV.ment d v||mentL d r
end
def AV.strike(d:Nat)(v:AV):AV:=bif AV.ment d v then .dead else v
inductive AB where
 |gone
 |box (cs:List AV)
 |arr (e:TypeId) (κ:Kd) (xs:List (Den κ))
def getF:List (Nat×AV)→Nat→AV
 |[],_=> .dead
 |(s,v)::r,t=>bif Nat.beq s t then v else getF r t
def getH:List (Nat×AB)→Nat→AB
 |[],_=> .gone
 |(s,v)::r,t=>bif Nat.beq s t then v else getH r t
structure St where
 fr:List (Nat×AV)
 H:List (Nat×AB)
 df:List AV
def AB.strike(d:Nat):AB→AB
 | .box cs=> .box (cs.map (AV.strike d))
 |b=>b
def strikeF(d:Nat)(fr:List (Nat×AV)):List (Nat×AV):=fr.map fun(t,v)=>(t,v.strike d)
def strikeH(d:Nat)(H:List (Nat×AB)):List (Nat×AB):=H.map fun(t,b)=>(t,b.strike d)
def St.fresh(st:St)(d:Nat):St:=⟨strikeF d st.fr,strikeH d st.H,st.df⟩
def okDf(df:List AV)(d:Nat):Bool:= !mentL d df
def okNew(df:List AV)(d:Nat):Bool:=Nat.blt d 1000000&&okDf df d
def AB.ment(d:Nat):AB→Bool
 | .box cs=>mentL d cs
 |_=>false
def aliveL:List AV→Bool
 |[]=>true
 | .dead::_=>false
 | .agg _::_=>false
 | .tuple _::_=>false
 |_::r=>aliveL r
def avOf1:Value→AV
 | .bool b=> .pv .bool b
 | .int k n=> .pv (.int k) n
 | .float .f64 b=> .pv .float b
 | .string s=> .pv .str s
 | .pointer none=> .nilp
 | .slice none 0 0=> .nils
 | .nilFunc=> .nilf
 | .nilIface=> .niliface
 |_=> .dead
def avOf:Value→AV
 | .agg cs=>bif aliveL (cs.toList.map avOf1)then .agg (cs.toList.map avOf1)else .dead
 | .iface t v=> .iface t (avOf1 v)
 |v=>avOf1 v
structure Gl where
 g:Nat
 κ:Kd
 x:Den κ
 ti:Option TypeId
def getG:List Gl→Nat→AV
 |[],_=> .dead
 |a::r,n=>bif Nat.beq a.g n then(match a.ti with|some t=> .gi t n|none=> .eref a.κ a.x)else getG r n
def opnd(gl:List Gl)(fr:List (Nat×AV)):Operand→AV
 | .tmp t=>getF fr t
 | .const v=>avOf v
 | .global g=>getG gl g
 | .func f=> .func f []
def castD(κ' κ:Kd)(x:Den κ'):Option (Den κ):=if h:κ'=κ then some (h▸x)else none
mutual
def cev(r:Nat→Option Ce)(H:List (Nat×AB)):AV→Option Ce
 | .pv κ x=>bif κ.isAgg then none else putC κ x
 | .nils=>some .nl
 | .nilp=>some .nilp
 | .niliface=>some .nili
 | .eref κ x=>(putCs κ x).bind fun cs=>some (.ptr cs)
 | .ref h off=>bif Nat.beq off 0 then r h else none
 | .own _ h=>match getH H h with| .arr _ κ' xs=>putC (.list κ') xs|_=>none
 | .sub κ₀ h off len=>match getH H h with| .arr _ κ' xs=>bif decide (κ₀=κ')then putC (.list κ') ((xs.drop off).take len)else none|_=>none
 | .iface t v=>(cevI r H v).bind fun c=>match c with| .inl c=>some (.ifc t c)| .inr cs=>some (.ifa t cs)
 |_=>none
def cevI(r:Nat→Option Ce)(H:List (Nat×AB)):AV→Option (Ce⊕List Ce)
 | .pv κ x=>bif κ.isAgg then(putCs κ x).bind fun cs=>some (.inr cs)else(putC κ x).bind fun c=>some (.inl c)
 | .agg cs=>(cevs (fun _=>none) H cs).bind fun cs=>some (.inr cs)
 | .nilp=>some (.inl .nilp)
 | .eref κ x=>(putCs κ x).bind fun cs=>some (.inl (.ptr cs))
 | .ref h off=>bif Nat.beq off 0 then(r h).bind fun c=>some (.inl c)else none
 | .own _ h=>match getH H h with| .arr _ κ' xs=>(putC (.list κ') xs).bind fun c=>some (.inl c)|_=>none
 | .sub κ₀ h off len=>match getH H h with| .arr _ κ' xs=>bif decide (κ₀=κ')then(putC (.list κ') ((xs.drop off).take len)).bind fun c=>some (.inl c)else none|_=>none
 |_=>none
def cevs(r:Nat→Option Ce)(H:List (Nat×AB)):List AV→Option (List Ce)
 |[]=>some []
 |v::vs=>(cev r H v).bind fun c=>(cevs r H vs).bind fun cs=>some (c::cs)
end
def boxC(H:List (Nat×AB)):Nat→Nat→Option Ce
 |0,_=>none
 |d+1,h=>match getH H h with| .box cs=>(cevs (boxC H d) H cs).bind fun cs=>some (.ptr cs)|_=>none
def boxL(H:List (Nat×AB)):Nat→List AV→List AV
 |0,vs=>vs
 |d+1,vs=>vs++vs.flatMap fun v=>match v with
  | .ref h _=>(match getH H h with| .box cs=>boxL H d cs|_=>[])
  | .iface _ (.ref h _)=>(match getH H h with| .box cs=>boxL H d cs|_=>[])
  |_=>[]
def unopt:(κ' κ:Kd)→Den κ'→Option (Den κ)
 | .nl e', .list e,x=>castD (.list e') (.list e) (x.getD [])
 | .list e', .nl e,x=>bif Nat.ble 1 x.length then castD (.nl e') (.nl e) (some x)else none
 |_,_,_=>none
def leaf0(H:List (Nat×AB))(κ:Kd):AV→Option (Den κ)
 | .pv κ' x=>match castD κ' κ x with|some y=>some y|none=>unopt κ' κ x
 | .nils=>match κ with| .list _=>some []| .nl _=>some none|_=>none
 | .own _ h=>match getH H h with| .arr _ κ' xs=>castD (.list κ') κ xs|_=>none
 | .sub κ₀ h off len=>match getH H h with| .arr _ κ' xs=>bif decide (κ₀=κ')then castD (.list κ') κ ((xs.drop off).take len)else none|_=>none
 |_=>none
def leafD(H:List (Nat×AB))(κ:Kd)(a:AV):Option (Den κ):=
 match κ with
 | .any=>cev (fun _=>none) H a
 |κ=>leaf0 H κ a
def cellsD(H:List (Nat×AB)):(κ:Kd)→List AV→Option (Den κ×List AV)
 | .unit,cs=>some ((),cs)
 | .pair a b,cs=>(cellsD H a cs).bind fun p=>(cellsD H b p.2).bind fun q=>some ((p.1,q.1),q.2)
 | .geo,c0::c1::c2::c3::c4::c5::c6::r=>
  (leafD H (.int .i64) c0).bind fun x0=>(leafD H (.int .i64) c1).bind fun x1=>(leafD H (.int .i64) c2).bind fun x2=>
  (leafD H (.list .float) c3).bind fun x3=>(leafD H (.list (.int .i64)) c4).bind fun x4=>(leafD H (.list (.list (.int .i64))) c5).bind fun x5=>
  (leafD H (.list .geo) c6).bind fun x6=>some (Geo.mk x0 x1 x2 x3 x4 x5 x6,r)
 | .geo,_=>none
 |κ,c::r=>(leafD H κ c).bind fun x=>some (x,r)
 |_,[]=>none
def argD(H:List (Nat×AB))(κ:Kd):AV→Option (Den κ)
 | .pv κ' x=>bif κ.isAgg then castD κ' κ x else leafD H κ (.pv κ' x)
 | .agg cs=>(cellsD H κ cs).bind fun p=>match p.2 with|[]=>bif κ.isAgg then some p.1 else none|_=>none
 |v=>bif κ.isAgg then none else leafD H κ v
def flatD:(κ:Kd)→Den κ→List AV
 | .unit,_=>[]
 | .pair a b,x=>flatD a x.1++flatD b x.2
 | .geo,g=>[.pv (.int .i64) g.kind, .pv (.int .i64) g.layout, .pv (.int .i64) g.srid, .pv (.list .float) g.flat, .pv (.list (.int .i64)) g.ends,
  .pv (.list (.list (.int .i64))) g.endss, .pv (.list .geo) g.kids]
 |κ,x=>[.pv κ x]
def AV.flat:AV→List AV
 | .agg cs=>cs
 | .pv κ x=>flatD κ x
 |v=>[v]
def prjK{R:Type}(κ:Kd)(x:Den κ)(n:Nat)(k:(κ':Kd)→Den κ'→Nat→Option R):Option R:=
 match κ,x,n with
 | .pair a _,x,0=>k a x.1 0
 | .pair a b,x,n+1=>prjK b x.2 n fun κ' y o=>k κ' y (a.size+o)
 | .geo,g,0=>k (.int .i64) g.kind 0
 | .geo,g,1=>k (.int .i64) g.layout 1
 | .geo,g,2=>k (.int .i64) g.srid 2
 | .geo,g,3=>k (.list .float) g.flat 3
 | .geo,g,4=>k (.list (.int .i64)) g.ends 4
 | .geo,g,5=>k (.list (.list (.int .i64))) g.endss 5
 | .geo,g,6=>k (.list .geo) g.kids 6
 |_,_,_=>none
inductive Par where
 |k (κ:Kd)
 |fn (f:FuncId)
 |ifc (t:TypeId) (κ:Kd)
@[reducible] def HL:List Par→Type
 |[]=>Unit
 | .k κ::r=>Den κ×HL r
 | .fn _::r=>HL r
 | .ifc _ κ::r=>Den κ×HL r
@[reducible] def HR:List Kd→Type
 |[]=>Unit
 |[κ]=>Den κ
 |κ::κ'::r=>Den κ×HR (κ'::r)
structure Con where
 fid:FuncId
 ps:List Par
 rs:List Kd
 fn:HL ps→Option (HR rs)
def argsD(H:List (Nat×AB)):(ps:List Par)→List AV→Option (HL ps)
 |[],[]=>some ()
 | .k κ::ps,v::vs=>(argD H κ v).bind fun x=>(argsD H ps vs).bind fun y=>some (x,y)
 | .fn f::ps,v::vs=>match v with| .func g []=>bif Nat.beq f g then argsD H ps vs else none|_=>none
 | .ifc t κ::ps,v::vs=>match v with| .iface u v=>bif Nat.beq t u then(argD H κ v).bind fun x=>(argsD H ps vs).bind fun y=>some (x,y)else none|_=>none
 |_,_=>none
def resL:(rs:List Kd)→HR rs→List AV
 |[],_=>[]
 |[κ],x=>[.pv κ x]
 |κ::κ'::r,x=> .pv κ x.1::resL (κ'::r) x.2
def resV(rs:List Kd)(x:HR rs):AV:=
 match resL rs x with
 |[v]=>v
 |vs=> .tuple vs
mutual
def AV.free:AV→Bool
 | .pv _ _=>true
 | .nils=>true
 | .agg cs=>freeL cs
 |_=>false
def freeL:List AV→Bool
 |[]=>true
 |v::r=>AV.free v&&freeL r
end
inductive Sh where
 |k (κ:Kd)
 |row (e:TypeId) (κ:Kd)
 |box (cs:List Sh)
 |agg (cs:List Sh)
 |ifc (t:TypeId) (s:Sh)
 |fn (f:FuncId) (cs:List Sh)
 |lref (κ:Kd)
 |ep (g:Nat)
 |nilp
 |nili
 |nilf
 |par (i:Nat)
 |nan
 |snil
 |bsl (cs:List Sh)
 |sub (e:TypeId) (κ:Kd)
 |krow (i:Nat) (e:TypeId) (κ:Kd)
 |parw (i:Nat) (κ:Kd)
 |tr
mutual
@[reducible] def ShD:Sh→Type
 | .k κ=>Den κ
 | .row _ κ=>List (Den κ)
 | .sub _ κ=>List (Den κ)×(Nat×Nat)
 | .krow _ _ κ=>List (Den κ)
 | .parw _ _=>Unit
 | .box cs=>ShDs cs
 | .bsl cs=>ShDs cs
 | .agg cs=>ShDs cs
 | .ifc _ s=>ShD s
 | .fn _ cs=>ShDs cs
 | .lref κ=>Den κ
 | .nilp=>Unit
 | .ep _=>Unit
 | .nili=>Unit
 | .nilf=>Unit
 | .nan=>Unit
 | .snil=>Unit
 | .par _=>Unit
 | .tr=>Ce
@[reducible] def ShDs:List Sh→Type
 |[]=>Unit
 |s::r=>ShD s×ShDs r
end
mutual
def Sh.cnt:Sh→Nat
 | .row _ _=>1
 | .sub _ _=>1
 | .krow _ _ _=>1
 | .box cs=>cnts cs+1
 | .bsl cs=>cnts cs+1
 | .agg cs=>cnts cs
 | .ifc _ s=>s.cnt
 | .fn _ cs=>cnts cs
 |_=>0
def cnts:List Sh→Nat
 |[]=>0
 |s::r=>s.cnt+cnts r
end
mutual
def Sh.tops:Sh→List Bool
 | .row _ _=>[true]
 | .sub _ _=>[true]
 | .krow _ _ _=>[false]
 | .box cs=>true::List.replicate (cnts cs) false
 | .bsl cs=>true::List.replicate (cnts cs) false
 | .agg cs=>topsL cs
 | .ifc _ s=>s.tops
 | .fn _ cs=>topsL cs
 |_=>[]
def topsL:List Sh→List Bool
 |[]=>[]
 |s::r=>s.tops++topsL r
end
mutual
def Sh.sim:Sh→Sh→Bool
 | .k _, .k _=>true
 | .row _ _, .row _ _=>true
 | .box _, .box _=>true
 | .bsl _, .bsl _=>true
 | .agg cs, .agg ds=>simL cs ds
 | .ifc _ s, .ifc _ t=>s.sim t
 | .fn _ cs, .fn _ ds=>simL cs ds
 | .lref _, .lref _=>true
 | .nilp, .nilp=>true
 | .ep g, .ep g'=>Nat.beq g g'
 | .nili, .nili=>true
 | .nilf, .nilf=>true
 | .nan, .nan=>true
 | .snil, .snil=>true
 |_,_=>false
def simL:List Sh→List Sh→Bool
 |[],[]=>true
 |s::r,t::q=>s.sim t&&simL r q
 |_,_=>false
end
mutual
def Sh.pars:Sh→List Nat
 | .par i=>[i]
 | .box cs=>parsL cs
 | .bsl cs=>parsL cs
 | .agg cs=>parsL cs
 | .ifc _ s=>s.pars
 | .fn _ cs=>parsL cs
 |_=>[]
def parsL:List Sh→List Nat
 |[]=>[]
 |s::r=>s.pars++parsL r
end
mutual
def Sh.wpars:Sh→List Nat
 | .parw i _=>[i]
 | .box cs=>wparsL cs
 | .bsl cs=>wparsL cs
 | .agg cs=>wparsL cs
 | .ifc _ s=>s.wpars
 | .fn _ cs=>wparsL cs
 |_=>[]
def wparsL:List Sh→List Nat
 |[]=>[]
 |s::r=>s.wpars++wparsL r
end
mutual
def Sh.fixs:Sh→List (Option Nat)
 | .row _ _=>[none]
 | .sub _ _=>[none]
 | .krow i _ _=>[some i]
 | .box cs=>none::fixL cs
 | .bsl cs=>none::fixL cs
 | .agg cs=>fixL cs
 | .ifc _ s=>s.fixs
 | .fn _ cs=>fixL cs
 |_=>[]
def fixL:List Sh→List (Option Nat)
 |[]=>[]
 |s::r=>s.fixs++fixL r
end
mutual
def Sh.noPar:Sh→Bool
 | .par _=>false
 | .krow _ _ _=>false
 | .parw _ _=>false
 | .box cs=>noParL cs
 | .bsl cs=>noParL cs
 | .agg cs=>noParL cs
 | .ifc _ s=>s.noPar
 | .fn _ cs=>noParL cs
 |_=>true
def noParL:List Sh→Bool
 |[]=>true
 |s::r=>s.noPar&&noParL r
end
mutual
def Sh.safe:Sh→Bool
 | .k κ=>κ.plain
 | .row _ κ=>κ.plain
 | .sub _ κ=>κ.plain
 | .krow _ _ κ=>κ.plain
 | .box cs=>safeL cs
 | .bsl cs=>safeL cs
 | .agg cs=>safeL cs
 | .ifc _ s=>s.safe
 | .fn _ cs=>safeL cs
 | .lref _=>false
 | .ep _=>false
 | .tr=>false
 |_=>true
def safeL:List Sh→Bool
 |[]=>true
 |s::r=>s.safe&&safeL r
end
mutual
def matchSh(H:List (Nat×AB)):(s:Sh)→AV→Option (ShD s×List (Option Nat)×List AV)
 | .k κ,v=>(argD H κ v).bind fun x=>some (x,[],[v])
 | .tr,v=>(cev (boxC H 9) H v).bind fun x=>some (x,[],boxL H 10 [v])
 | .row e κ,v=>
  match v with
  | .own _ h=>
   match getH H h with
   | .arr e' κ' xs=>bif Nat.beq e e' then(castD (.list κ') (.list κ) xs).bind fun ys=>some (ys,[some h],[])else none
   |_=>none
  | .nils=>some (([]:List (Den κ)),[none],[])
  |_=>none
 | .krow i e κ,v=>
  match v with
  | .own _ h=>
   match getH H h with
   | .arr e' κ' xs=>bif Nat.beq h (1000000+i)&&Nat.beq e e' then(castD (.list κ') (.list κ) xs).bind fun ys=>some (ys,[some h],[])else none
   |_=>none
  |_=>none
 | .parw i κ,v=>match v with| .own κ₀ h=>bif Nat.beq h (1000000+i)&&decide (κ₀=κ)then some ((),[],[])else none|_=>none
 | .sub e κ,v=>
  match v with
  | .sub κ₀ h off len=>
   match getH H h with
   | .arr e' κ' xs=>bif Nat.beq e e'&&decide (κ₀=κ)then(castD (.list κ') (.list κ) xs).bind fun ys=>some ((ys,off,len),[some h],[])else none
   |_=>none
  |_=>none
 | .box cs,v=>
  match v with
  | .ref h off=>
   match getH H h with
   | .box avs=>bif Nat.beq off 0 then(matchShs H cs avs).bind fun p=>some (p.1,some h::p.2.1,p.2.2)else none
   |_=>none
  |_=>none
 | .bsl cs,v=>
  match v with
  | .bsl h n=>
   match getH H h with
   | .box avs=>bif Nat.beq n avs.length then(matchShs H cs avs).bind fun p=>some (p.1,some h::p.2.1,p.2.2)else none
   |_=>none
  |_=>none
 | .agg cs,v=>match v with| .agg avs=>matchShs H cs avs|_=>none
 | .ifc t s,v=>match v with| .iface u x=>bif Nat.beq t u then matchSh H s x else none|_=>none
 | .fn f cs,v=>match v with| .func g caps=>bif Nat.beq f g then matchShs H cs caps else none|_=>none
 | .lref κ,v=>
  match v with
  | .eref κ' x=>(castD κ' κ x).bind fun y=>some (y,[],[])
  | .ref h off=>
   match getH H h with
   | .box avs=>bif Nat.beq off 0 then(cellsD H κ avs).bind fun p=>match p.2 with|[]=>some (p.1,[], .ref h 0::avs)|_=>none else none
   |_=>none
  |_=>none
 | .nilp,v=>match v with| .nilp=>some ((),[],[])|_=>none
 | .ep g,v=>match v with| .ep g'=>bif Nat.beq g g' then some ((),[],[])else none|_=>none
 | .nili,v=>match v with| .niliface=>some ((),[],[])|_=>none
 | .nilf,v=>match v with| .nilf=>some ((),[],[])|_=>none
 | .nan,v=>match v with| .nanv=>some ((),[],[])|_=>none
 | .snil,v=>match v with| .nils=>some ((),[],[])|_=>none
 | .par i,v=>match v with| .ref h off=>bif Nat.beq h (1000000+i)&&Nat.beq off 0 then some ((),[],[])else none|_=>none
def matchShs(H:List (Nat×AB)):(ss:List Sh)→List AV→Option (ShDs ss×List (Option Nat)×List AV)
 |[],[]=>some ((),[],[])
 |s::r,v::vs=>(matchSh H s v).bind fun p=>(matchShs H r vs).bind fun q=>some ((p.1,q.1),p.2.1++q.2.1,p.2.2++q.2.2)
 |_,_=>none
end
def hdN:List Nat→Nat
 |[]=>0
 |n::_=>n
def tlN:List Nat→List Nat
 |[]=>[]
 |_::r=>r
mutual
def renderSh(pn:Nat→Nat):(s:Sh)→ShD s→List Nat→AV×List (Nat×AB)×List Nat
 | .k κ,x,ns=>(.pv κ x,[],ns)
 | .tr,x,ns=>(.pv .any x,[],ns)
 | .row e κ,xs,ns=>(.own κ (hdN ns),[(hdN ns, .arr e κ xs)],tlN ns)
 | .krow _ e κ,xs,ns=>(.own κ (hdN ns),[(hdN ns, .arr e κ xs)],tlN ns)
 | .parw i κ,_,ns=>(.own κ (pn i),[],ns)
 | .sub e κ,d,ns=>(.sub κ (hdN ns) d.2.1 d.2.2,[(hdN ns, .arr e κ d.1)],tlN ns)
 | .box cs,d,ns=>(fun r=>(.ref (hdN ns) 0,(hdN ns, .box r.1)::r.2.1,r.2.2)) (renderShs pn cs d (tlN ns))
 | .bsl cs,d,ns=>(fun r=>(.bsl (hdN ns) cs.length,(hdN ns, .box r.1)::r.2.1,r.2.2)) (renderShs pn cs d (tlN ns))
 | .agg cs,d,ns=>(fun r=>(.agg r.1,r.2.1,r.2.2)) (renderShs pn cs d ns)
 | .ifc t s,d,ns=>(fun r=>(.iface t r.1,r.2.1,r.2.2)) (renderSh pn s d ns)
 | .fn f cs,d,ns=>(fun r=>(.func f r.1,r.2.1,r.2.2)) (renderShs pn cs d ns)
 | .lref κ,x,ns=>(.eref κ x,[],ns)
 | .nilp,_,ns=>(.nilp,[],ns)
 | .ep g,_,ns=>(.ep g,[],ns)
 | .nili,_,ns=>(.niliface,[],ns)
 | .nilf,_,ns=>(.nilf,[],ns)
 | .nan,_,ns=>(.nanv,[],ns)
 | .snil,_,ns=>(.nils,[],ns)
 | .par i,_,ns=>(.ref (pn i) 0,[],ns)
def renderShs(pn:Nat→Nat):(ss:List Sh)→ShDs ss→List Nat→List AV×List (Nat×AB)×List Nat
 |[],_,ns=>([],[],ns)
 |s::r,d,ns=>(fun p=>(fun q=>(p.1::q.1,p.2.1++q.2.1,q.2.2)) (renderShs pn r d.2 p.2.2)) (renderSh pn s d.1 ns)
end
def nameL(b:Nat):Nat→List Nat
 |0=>[]
 |n+1=>b::nameL (b+1) n
def memN:List Nat→Nat→Bool
 |[],_=>false
 |m::r,n=>Nat.beq m n||memN r n
def nodupN:List Nat→Bool
 |[]=>true
 |n::r=> !memN r n&&nodupN r
def someN:List (Option Nat)→List Nat
 |[]=>[]
 |some n::r=>n::someN r
 |none::r=>someN r
def ownOk(os:List (Option Nat))(ls:List AV):Bool:=nodupN (someN os)&&(someN os).all fun h=> !mentL h ls
structure Alt where
 ress:List Sh
 fins:List (Option Sh)
def keepS:List (Option Sh)→List Sh
 |[]=>[]
 |some s::r=>s::keepS r
 |none::r=>keepS r
def keepV{α:Type}:List (Option Sh)→List α→List α
 |some _::r,v::vs=>v::keepV r vs
 |none::r,_::vs=>keepV r vs
 |_,_=>[]
def Alt.all(a:Alt):List Sh:=a.ress++keepS a.fins
@[reducible] def AltD:List Alt→Type
 |[]=>Empty
 |[a]=>ShDs a.all
 |a::b::r=>ShDs a.all⊕AltD (b::r)
structure Con2 where
 fid:FuncId
 ins:List Sh
 alts:List Alt
 fn:ShDs ins→Option (AltD alts)
def topN:List Bool→List (Option Nat)→List (Option Nat)
 |true::t,o::os=>o::topN t os
 |false::t,_::os=>topN t os
 |_,_=>[]
def botN:List Bool→List (Option Nat)→List (Option Nat)
 |true::t,_::os=>botN t os
 |false::t,o::os=>o::botN t os
 |_,_=>[]
def headO(d:Nat)(top:Bool):List (Option Nat)→Nat
 |some h::_=>bif top||Nat.blt h 1000000 then h else d
 |_=>d
def tailO:List (Option Nat)→List (Option Nat)
 |[]=>[]
 |_::r=>r
def fillN(d:Nat):List Bool→List (Option Nat)→List (Option Nat)→Nat→List Nat
 |[],_,_,_=>[]
 |true::t,ns,is,c=>headO (d+c) true ns::fillN d t (tailO ns) is (c+1)
 |false::t,ns,is,c=>headO (d+c) false is::fillN d t ns (tailO is) (c+1)
def keepNames(fr:Bool)(d:Nat):List Sh→List (Option Sh)→List (Option Nat)→Nat→List Nat
 |i::ins,some s::fins,os,c=>fillN d s.tops (topN i.tops os) (bif fr then []else botN i.tops os) c++keepNames fr d ins fins (os.drop i.cnt) (c+s.cnt)
 |i::ins,none::fins,os,c=>keepNames fr d ins fins (os.drop i.cnt) c
 |_,_,_,_=>[]
def keepTops:List Sh→List (Option Sh)→List (Option Nat)→List Nat
 |i::ins,some _::fins,os=>someN (topN i.tops os)++keepTops ins fins (os.drop i.cnt)
 |i::ins,none::fins,os=>keepTops ins fins (os.drop i.cnt)
 |_,_,_=>[]
def Sh.isSub:Sh→Bool
 | .sub _ _=>true
 |_=>false
def finsOk:List Sh→List (Option Sh)→Bool
 |i::ins,some s::fins=>(i.sim s||(i.isSub&&s.isSub))&&finsOk ins fins
 |_::ins,none::fins=>finsOk ins fins
 |[],[]=>true
 |_,_=>false
def dropSh:(a b:List Sh)→ShDs (a++b)→ShDs b
 |[],_,d=>d
 |_::a,b,d=>dropSh a b d.2
def subOk1:(i s:Sh)→ShD i→ShD s→Bool
 | .sub _ κ, .sub _ κ',x,y=>decide (κ=κ')&&Nat.ble 1 x.2.2&&Nat.beq y.2.1 x.2.1&&Nat.beq y.2.2 x.2.2&&Nat.beq y.1.length x.1.length
 |_,_,_,_=>true
def subOk:(ins:List Sh)→(fins:List (Option Sh))→ShDs ins→ShDs (keepS fins)→Bool
 |i::ins,some s::fins,x,y=>subOk1 i s x.1 y.1&&subOk ins fins x.2 y.2
 |_::ins,none::fins,x,y=>subOk ins fins x.2 y
 |[],_,_,_=>true
 |_::_,[],_,_=>true
def ownAt:List (Option Nat)→Nat→Nat
 |some h::_,0=>h
 |_::r,i+1=>ownAt r i
 |_,_=>0
def ovr(os:List (Option Nat)):List (Option Nat)→List Nat→List Nat
 |[],ns=>ns
 |_::_,[]=>[]
 |some i::f,_::ns=>ownAt os i::ovr os f ns
 |none::f,n::ns=>n::ovr os f ns
def fixN(os:List (Option Nat)):List (Option Nat)→List Nat
 |[]=>[]
 |some i::f=>ownAt os i::fixN os f
 |none::f=>fixN os f
def fixI:List (Option Nat)→List Nat
 |[]=>[]
 |some i::f=>i::fixI f
 |none::f=>fixI f
def ownSome:List (Option Nat)→Nat→Bool
 |some _::_,0=>true
 |_::r,i+1=>ownSome r i
 |_,_=>false
def tOk(kt:List Nat):List Nat→List Nat→Bool
 |a::as,b::bs=>(!memN kt a||Nat.beq a b)&&tOk kt as bs
 |_,_=>true
def Alt.names(a:Alt)(fr:Bool)(ins:List Sh)(os:List (Option Nat))(d:Nat):List Nat:=nameL d (cnts a.ress)++keepNames fr d ins a.fins os (cnts a.ress)
def altK{R:Type}:(alts:List Alt)→AltD alts→((a:Alt)→ShDs a.all→Option R)→Option R
 |[],_,_=>none
 |[a],y,K=>K a y
 |a::b::r,y,K=>Sum.elim (fun d=>K a d) (fun y'=>altK (b::r) y' K) y
def allSafe(alts:List Alt):Bool:=alts.all fun a=>safeL a.all
def AV.isPv:AV→Bool
 | .pv _ _=>true
 | .nils=>true
 | .nilp=>true
 | .niliface=>true
 | .eref _ _=>true
 | .iface _ (.pv _ _)=>true
 | .iface _ (.eref _ _)=>true
 |_=>false
def AV.handled:AV→Bool
 | .pv _ _=>false
 | .agg cs=> !cs.all AV.isPv
 | .nils=>false
 | .func _ []=>false
 | .iface _ (.pv _ _)=>false
 | .eref _ _=>false
 | .nilp=>false
 | .ep _=>false
 | .gi _ _=>false
 | .mf _ _=>false
 | .mfa _ _=>false
 | .iface _ (.ep _)=>false
 | .iface _ (.eref _ _)=>false
 | .niliface=>false
 | .nilf=>false
 | .nanv=>false
 |_=>true
def nth{α:Type}(xs:List α)(n:Int):Option α:=if 0≤n then xs[n.toNat]? else none
def chk(n:Int)(len:Nat):Option Nat:=if 0≤n∧n<len then some n.toNat else none
def mkn(n m:Int)(bytes:Nat):Option Nat:=if 0≤n∧n≤m∧(bytes:Int)*m≤281474976710656∧m≤9223372036854775807 then some n.toNat else none
def chk2(l h:Int)(len:Nat):Option (Nat×Nat):=if 0≤l∧l≤h∧h≤len then some (l.toNat,h.toNat)else none
def lim(n:Nat):Option Unit:=if n≤140737488355328 then some ()else none
def feq(x y:Nat):Bool:=Ieee.double.order x y==some .eq
def fne(x y:Nat):Bool:=Ieee.double.order x y !=some .eq
def flt(x y:Nat):Bool:=Ieee.double.order x y==some .lt
def fle(x y:Nat):Bool:=Ieee.double.order x y==some .lt||Ieee.double.order x y==some .eq
def fgt(x y:Nat):Bool:=Ieee.double.order x y==some .gt
def fge(x y:Nat):Bool:=Ieee.double.order x y==some .gt||Ieee.double.order x y==some .eq
def fneg(x:Nat):Nat:=x^^^2^63
def i2f(n:Int):Nat:=floatOfInt .f64 n
section
variable {R:Type}
def binI(op:BinOp)(k:IntKind)(x y:Int)(K:AV→Option R):Option R:=
 match op with
 | .add=>K (.pv (.int k) (k.wrap (x+y)))
 | .sub=>K (.pv (.int k) (k.wrap (x-y)))
 | .mul=>K (.pv (.int k) (k.wrap (x*y)))
 | .quo=>if y=0 then none else K (.pv (.int k) (k.wrap (x.tdiv y)))
 | .rem=>if y=0 then none else K (.pv (.int k) (x.tmod y))
 | .and=>K (.pv (.int k) (bits .and k x y))
 | .or=>K (.pv (.int k) (bits .or k x y))
 | .xor=>K (.pv (.int k) (bits .xor k x y))
 | .andNot=>K (.pv (.int k) (bits .andNot k x y))
 | .eql=>K (.pv .bool (x==y))
 | .neq=>K (.pv .bool (x !=y))
 | .lss=>K (.pv .bool (decide (x<y)))
 | .leq=>K (.pv .bool (decide (x≤y)))
 | .gtr=>K (.pv .bool (decide (x>y)))
 | .geq=>K (.pv .bool (decide (x≥y)))
 |_=>none
def shI(op:BinOp)(k:IntKind)(x y:Int)(K:AV→Option R):Option R:=
 match op with
 | .shl=>if y<0 then none else K (.pv (.int k) (k.wrap (x*2^(min y.toNat k.bits))))
 | .shr=>if y<0 then none else K (.pv (.int k) (x.fdiv (2^(min y.toNat k.bits))))
 |_=>none
def binF(op:BinOp)(x y:Nat)(K:AV→Option R):Option R:=
 match op with
 | .add=>(Ieee.double.add x y).bind fun z=>K (.pv .float z)
 | .sub=>(Ieee.double.sub x y).bind fun z=>K (.pv .float z)
 | .mul=>(Ieee.double.mul x y).bind fun z=>K (.pv .float z)
 | .quo=>(Ieee.double.div x y).bind fun z=>K (.pv .float z)
 | .eql=>K (.pv .bool (feq x y))
 | .neq=>K (.pv .bool (fne x y))
 | .lss=>K (.pv .bool (flt x y))
 | .leq=>K (.pv .bool (fle x y))
 | .gtr=>K (.pv .bool (fgt x y))
 | .geq=>K (.pv .bool (fge x y))
 |_=>none
def nanK(op:BinOp)(K:AV→Option R):Option R:=
 match op with
 | .eql=>K (.pv .bool false)
 | .neq=>K (.pv .bool true)
 | .lss=>K (.pv .bool false)
 | .leq=>K (.pv .bool false)
 | .gtr=>K (.pv .bool false)
 | .geq=>K (.pv .bool false)
 |_=>none
def cmpK(op:BinOp)(b:Bool)(K:AV→Option R):Option R:=
 match op with
 | .eql=>K (.pv .bool b)
 | .neq=>K (.pv .bool (!b))
 |_=>none
def sadd(m n:ByteArray):Option ByteArray:=if m.size+n.size≤9223372036854775807 then some (m++n)else none
def sbyte(s:ByteArray)(j:Nat):Int:=if h:j<s.size then((s[j]'h).toNat:Int)else 0
def isInt(op:BinOp):Bool:=match op with| .shl=>false| .shr=>false|_=>true
def eqLeaf(P:Program)(t:TypeId)(x y:AV):Option Bool:=
 match x with
 | .pv .float a=>match y with| .pv .float b=>(match P.underlying t with|some (.float .f64)=>some (feq a b)|_=>none)|_=>none
 | .pv (.int k) a=>match y with| .pv (.int k') b=>(match P.underlying t with|some (.int _)=>bif decide (k=k')then some (a==b)else none|_=>none)|_=>none
 | .pv .bool a=>match y with| .pv .bool b=>(match P.underlying t with|some .bool=>some (a==b)|_=>none)|_=>none
 | .pv .str a=>match y with| .pv .str b=>(match P.underlying t with|some .string=>some (a.toList==b.toList)|_=>none)|_=>none
 |_=>none
def eqFs(rec:TypeId→List AV→List AV→Option Bool)(P:Program):List Field→Nat→List AV→List AV→Option Bool
 |[],_,[],[]=>some true
 |f::fs,i,xs,ys=>
  bif Nat.beq f.offset i && f.name != "_" then
   match P.info? f.type with
   |some inf=>bif Nat.ble inf.size xs.length&&Nat.ble inf.size ys.length then
    (rec f.type (xs.take inf.size) (ys.take inf.size)).bind fun a=>(eqFs rec P fs (i+inf.size) (xs.drop inf.size) (ys.drop inf.size)).bind fun r=>some (a&&r)else none
   |none=>none
  else none
 |_,_,_,_=>none
def eqEs(rec:List AV→List AV→Option Bool)(s:Nat):Nat→List AV→List AV→Option Bool
 |0,[],[]=>some true
 |n+1,xs,ys=>
  bif Nat.ble s xs.length&&Nat.ble s ys.length then
   (rec (xs.take s) (ys.take s)).bind fun a=>(eqEs rec s n (xs.drop s) (ys.drop s)).bind fun r=>some (a&&r)
  else none
 |_,_,_=>none
def eqTy(P:Program):Nat→TypeId→List AV→List AV→Option Bool
 |0,_,_,_=>none
 |d+1,t,xs,ys=>
  match P.underlying t with
  |some (.struct fs)=>bif P.stoodInHeld t then none else eqFs (eqTy P d) P fs.toList 0 xs ys
  |some (.array n el)=>(match P.info? el with|some inf=>eqEs (eqTy P d el) inf.size n xs ys|none=>none)
  |_=>match xs,ys with|[x],[y]=>eqLeaf P t x y|_,_=>none
def AV.isAgg:AV→Bool
 | .agg _=>true
 | .pv (.pair _ _) _=>true
 |_=>false
def eqAgg(P:Program)(t:TypeId)(x y:AV):Option Bool:=
 bif x.isAgg&&y.isAgg&&aliveL x.flat&&aliveL y.flat then
  match P.underlying t with
  |some (.struct _)=>bif P.eqGuardType P.depth t then none else eqTy P 9 t x.flat y.flat
  |some (.array _ _)=>bif P.eqGuardType P.depth t then none else eqTy P 9 t x.flat y.flat
  |_=>none
 else none
def epEq(P:Program)(t t1 t2:TypeId)(x y:AV):Bool:=
 match x,y with
 | .ep g, .ep g'=>Nat.beq g g'&&Nat.beq t1 t2&&(match P.underlying t with|some (.interface _)=>true|_=>false)&&
  (match P.underlying t1 with|some (.pointer e)=>(match P.info? t1 with|some i=>i.comparable|none=>false)&&(P.info? e).isSome|_=>false)
 |_,_=>false
def unEq(P:Program)(t t1:TypeId)(x y:AV):Bool:=
 match x,y with
 | .pv .unit _, .pv .unit _=>(match P.underlying t with|some (.interface _)=>true|_=>false)&&(match P.info? t1 with|some i=>i.comparable|none=>false)&&
  (match P.underlying t1 with|some (.struct fs)=>Nat.beq fs.size 0&& !P.stoodInHeld t1|_=>false)
 |_,_=>false
def otEq(P:Program)(t t1 t2:TypeId):Bool:= !Nat.beq t1 t2&&(match P.underlying t with|some (.interface _)=>true|_=>false)
def isU(t:TypeId):Ce→Option Bool
 | .nili=>some false
 | .ifa u _=>some (Nat.beq u t)
 | .ifc u _=>bif Nat.beq u t then none else some false
 |_=>none
def binV(P:Program)(t:TypeId)(cst:Bool)(op:BinOp)(x y:AV)(K:AV→Option R):Option R:=
 match x with
 | .pv (.int a) m=>match y with| .pv (.int b) n=>bif isInt op then(bif decide (a=b)then binI op a m n K else none)else shI op a m n K|_=>none
 | .pv .float m=>match y with| .pv .float n=>binF op m n K| .nanv=>nanK op K|_=>none
 | .nanv=>match y with| .pv .float _=>nanK op K| .nanv=>nanK op K|_=>none
 | .pv .bool m=>match y with| .pv .bool n=>(match P.underlying t with|some .bool=>cmpK op (m==n) K|_=>none)|_=>none
 | .pv .str m=>match y with| .pv .str n=>(match op with| .add=>(sadd m n).bind fun s=>K (.pv .str s)|op=>cmpK op (m.toList==n.toList) K)|_=>none
 | .iface t1 x1=>match y with| .niliface=>(match P.underlying t with|some (.interface _)=>cmpK op false K|_=>none)| .iface t2 y2=>bif epEq P t t1 t2 x1 y2 then cmpK op true K else bif otEq P t t1 t2 then cmpK op false K else bif Nat.beq t1 t2&&unEq P t t1 x1 y2 then cmpK op true K else none|_=>none
 | .niliface=>match y with| .niliface=>(match P.underlying t with|some (.interface _)=>bif cst then cmpK op true K else none|_=>none)| .iface _ _=>(match P.underlying t with|some (.interface _)=>cmpK op false K|_=>none)|_=>none
 | .ref _ _=>match y with| .nilp=>(match P.underlying t with|some (.pointer _)=>cmpK op false K|_=>none)|_=>none
 | .eref _ _=>match y with| .nilp=>(match P.underlying t with|some (.pointer _)=>cmpK op false K|_=>none)|_=>none
 | .nilp=>match y with| .nilp=>(match P.underlying t with|some (.pointer _)=>cmpK op true K|_=>none)|_=>none
 | .nils=>match y with| .nils=>(match P.underlying t with|some (.slice _)=>cmpK op true K|_=>none)|_=>none
 | .pv (.nl _) o=>match y with| .nils=>(match P.underlying t with|some (.slice _)=>cmpK op o.isNone K|_=>none)|_=>none
 | .pv .any c=>
  match y with
  | .nilp=>(match P.underlying t with|some (.pointer _)=>(isNilp c).bind fun b=>cmpK op b K|_=>none)
  | .niliface=>(match P.underlying t with|some (.interface _)=>bif cst then(isNili c).bind fun b=>cmpK op b K else none|_=>none)
  | .iface t1 u=>bif unEq P t t1 u u then(isU t1 c).bind fun b=>cmpK op b K else none
  |_=>none
 | .agg cs=>(eqAgg P t (.agg cs) y).bind fun b=>cmpK op b K
 | .pv (.pair a b) m=>(eqAgg P t (.pv (.pair a b) m) y).bind fun b=>cmpK op b K
 |_=>none
def rowNil(H:List (Nat×AB))(x y:AV):Option Nat:=
 match y with
 | .nils=>
  match x with
  | .own _ h=>(match getH H h with| .arr _ _ xs=>some xs.length|_=>none)
  | .pv (.list _) xs=>some xs.length
  |_=>none
 |_=>none
def nilK(P:Program)(t:TypeId)(op:BinOp)(n:Nat)(K:AV→Option R):Option R:=
 match P.underlying t with
 |some (.slice _)=>bif Nat.ble 1 n then cmpK op false K else agree (cmpK op true K) (cmpK op false K)
 |_=>none
def nilD(P:Program)(t:TypeId)(op:BinOp)(n:Nat)(K:AV→Option R):Option R:=
 match P.underlying t with
 |some (.slice _)=>bif Nat.ble 1 n then cmpK op false K else none
 |_=>none
def fmm(mx:Bool)(m n:Nat):Option Nat:=
 match Ieee.double.order m n with
 |none=>none
 |some .lt=>some (bif mx then n else m)
 |some .gt=>some (bif mx then m else n)
 |some .eq=>some (bif mx then(if(Ieee.double.read m).neg then n else m)else(if(Ieee.double.read m).neg then m else n))
def imm(mx:Bool)(m n:Int):Int:=bif mx then(if m<n then n else m)else(if n<m then n else m)
def mmV(mx:Bool)(x y:AV)(K:AV→Option R):Option R:=
 match x with
 | .pv (.int a) m=>match y with| .pv (.int b) n=>bif decide (a=b)then K (.pv (.int a) (imm mx m n))else none|_=>none
 | .pv .float m=>match y with| .pv .float n=>(fmm mx m n).bind fun z=>K (.pv .float z)|_=>none
 |_=>none
def isConst:Operand→Bool
 | .const _=>true
 |_=>false
end
structure Norm where
 own:List (Nat×TypeId×Kd×Nat)
 ownC:List (Nat×Nat×TypeId×Kd×Nat)
 pv:List (Nat×Kd)
 pvC:List (Nat×Nat×Kd)
 bx:List (Nat×Kd)
 keep:List Nat
 keepH:List Nat
 gt:Option Nat
structure Env where
 P:Program
 n:Nat
 cons:List Con
 adv:List (Nat×Norm)
 kd:TypeId→Option Kd
 con2:List Con2
 cut:List Nat
 gl:List Gl
 cands:List TypeId
 dyn:List (Nat×Kd)
def aggIs(P:Program)(t:TypeId)(b:Bool):Bool:=
 match P.underlying t with
 |some (.struct _)=>b
 |some (.array _ _)=>b
 |some _=> !b
 |none=>false
def sizeB(P:Program)(t:TypeId)(n:Nat):Bool:=
 match P.info? t with
 |some i=>Nat.beq i.size n
 |none=>false
def zeroSz(P:Program)(t:TypeId)(n:Nat):Bool:=
 match P.info? t with
 |some i=>match i.zero with|some z=>Nat.beq z.cells.size n|none=>false
 |none=>false
def zeroSome(P:Program)(t:TypeId):Bool:=
 match P.info? t with
 |some i=>i.zero.isSome
 |none=>false
def sizeK{R:Type}(P:Program)(t:TypeId)(K:Nat→Option R):Option R:=
 match P.info? t with
 |some i=>K i.size
 |none=>none
def fieldK{R:Type}(P:Program)(s:TypeId)(f:Nat)(K:Field→Option R):Option R:=
 match P.underlying s with
 |some (.struct fs)=>match fs[f]? with|some x=>K x|none=>none
 |_=>none
def arrT(P:Program)(t:TypeId):Option (Nat×TypeId):=
 match P.underlying t with
 |some (.array n el)=>some (n,el)
 |_=>none
def idxK{R:Type}(j:Int)(K:Nat→Option R):Nat→Nat→Option R
 |0,_=>none
 |m+1,q=>bif decide (j=(q:Int))then K q else idxK j K m (q+1)
def elemK{R:Type}(P:Program)(t:TypeId)(K:TypeId→Option R):Option R:=
 match P.underlying t with
 |some (.slice e)=>K e
 |_=>none
def zeroB:Kd→List Value→Bool
 | .unit,[]=>true
 | .int k,[.int k' n]=>decide (k=k')&&decide (n=0)
 | .float,[.float .f64 n]=>Nat.beq n 0
 | .bool,[.bool b]=> !b
 | .str,[.string s]=>s.data.isEmpty
 | .list _,[.slice none 0 0]=>true
 | .pair a b,cs=>zeroB a (cs.take a.size)&&zeroB b (cs.drop a.size)
 | .geo,[.int .i64 a, .int .i64 b, .int .i64 c, .slice none 0 0, .slice none 0 0, .slice none 0 0, .slice none 0 0]=>decide (a=0)&&decide (b=0)&&decide (c=0)
 |_,_=>false
def zeroK{R:Type}(P:Program)(t:TypeId)(K:AV→Option R):Option R:=
 match P.info? t with
 |some i=>match i.zero with|some z=>(match avOf z with| .dead=>none|v=>K v)|none=>none
 |none=>none
def pathOff(P:Program):List FieldStep→Bool→Option Nat
 |[],_=>some 0
 |s::r,first=>
  match P.underlying s.struct with
  |some (.struct fs)=>
   match fs[s.index]? with
   |some f=>bif(s.deref==first)&&aggIs P f.type true&&(match P.info? f.type with|some i=> !Nat.beq i.size 0|none=>false)then(pathOff P r false).bind fun o=>some (f.offset+o)else none
   |none=>none
  |_=>none
def pathE(P:Program):List FieldStep→Bool→(κ:Kd)→Den κ→Option AV
 |[],_,κ,x=>some (.eref κ x)
 |s::r,first,κ,x=>
  match P.underlying s.struct with
  |some (.struct fs)=>
   match fs[s.index]? with
   |some f=>bif(s.deref==first)&&aggIs P f.type true&&(match P.info? f.type with|some i=> !Nat.beq i.size 0|none=>false)then
    prjK κ x s.index fun κ' y o=>bif Nat.beq o f.offset then pathE P r false κ' y else none else none
   |none=>none
  |_=>none
def lacks(want:Array (String×TypeId))(got:Array Method):Bool:=want.toList.any fun p=> !got.any fun m=>m.name==p.1&&m.sig==p.2
def mthOk(P:Program)(t:TypeId)(nm:String):Bool:=
 match P.info? t with
 |some i=>(match i.methods.find? (fun m=>m.name==nm)with|some m=>m.path.toList.isEmpty&&(match m.func with|some (_,true)=>true|some (_,false)=>(match P.underlying t with|some (.struct _)=>true|_=>false)|_=>false)|none=>false)
 |none=>false
def mfD(P:Program)(nm:String)(c:Ce):List TypeId→Option Unit
 |[]=>none
 |t::r=>(isT t c).bind fun b=>bif b then(bif mthOk P t nm then some ()else none)else mfD P nm c r
def methAV(P:Program)(t:TypeId)(name:String)(v:AV):Option (FuncId×AV):=
 match P.info? t with
 |some i=>
  match i.methods.find? (fun m=>m.name==name)with
  |some m=>
   match m.func with
   |some (f,true)=>
    match v,P.underlying t with
    | .ref h off,some (.pointer _)=>(pathOff P m.path.toList true).bind fun o=>some (f, .ref h (off+o))
    | .eref κ x,some (.pointer el)=>(pathE P m.path.toList true κ x).bind fun v=>some (f,v)
    |_,_=>none
   |some (f,false)=>
    match m.path.toList,P.underlying t with
    |[],some (.slice _)=>some (f,v)
    |[],some (.struct _)=>some (f,v)
    |[],some (.int _)=>some (f,v)
    |_,_=>none
   |none=>none
  |none=>none
 |none=>none
def AV.single:AV→Bool
 | .pv κ _=> !κ.isAgg
 | .agg _=>false
 | .tuple _=>false
 | .dead=>false
 |_=>true
def inOrder:Nat→List Nat→Bool
 |_,[]=>true
 |i,j::r=>Nat.beq i j&&inOrder (i+1) r
section
variable {R:Type}
def findCon(cons:List Con)(f:FuncId)(H:List (Nat×AB))(vs:List AV)(K:(c:Con)→HL c.ps→Option R):Option R:=
 match cons with
 |[]=>none
 |c::r=>bif Nat.beq c.fid f then(match argsD H c.ps vs with|some x=>K c x|none=>findCon r f H vs K)else findCon r f H vs K
def partsD(H:List (Nat×AB))(κ:Kd):Nat→List (Nat×AV)→Option (List (Den κ))
 |_,[]=>some []
 |i,(j,v)::r=>bif Nat.beq i j then(argD H κ v).bind fun x=>(partsD H κ (i+1) r).bind fun y=>some (x::y)else none
def chunks(H:List (Nat×AB))(κ:Kd):Nat→List AV→Option (List (Den κ))
 |0,[]=>some []
 |0,_::_=>none
 |n+1,cs=>(cellsD H κ cs).bind fun p=>(chunks H κ n p.2).bind fun r=>some (p.1::r)
def setCells(cs:List AV)(off:Nat):List AV→List AV
 |[]=>cs
 |v::r=>setCells (cs.set off v) (off+1) r
def fillA(s:Nat):List AV→List (Nat×AV)→Option (List AV)
 |cs,[]=>some cs
 |cs,(i,v)::r=>bif Nat.beq v.flat.length s&&Nat.ble (i*s+s) cs.length&&aliveL v.flat then fillA s (setCells cs (i*s) v.flat) r else none
def fillV(fs:Array Field)(P:Program):List AV→List (Nat×AV)→Option (List AV)
 |cs,[]=>some cs
 |cs,(i,v)::r=>
  match fs[i]? with
  |some f=>bif sizeB P f.type v.flat.length&&Nat.ble (f.offset+v.flat.length) cs.length&&aliveL v.flat then fillV fs P (setCells cs f.offset v.flat) r else none
  |none=>none
def u8T(P:Program)(t:TypeId):Bool:=match P.underlying t with|some (.int .u8)=>true|_=>false
def kdK(E:Env)(t:TypeId)(K:Kd→Option R):Option R:=match E.kd t with|some κ=>K κ|none=>none
def dynK(E:Env)(c:Ce)(K:TypeId→AV→Option R):List TypeId→Option R
 |[]=>none
 |t::r=>(isT t c).bind fun b=>bif b then kdK E t fun κ=>bif aggIs E.P t κ.isAgg then(asT κ t c).bind fun x=>K t (.pv κ x)else none else dynK E c K r
def methK(E:Env)(t:TypeId)(name:String)(v:AV)(K:FuncId×AV→Option R):Option R:=
 match v with
 | .pv .any c=>
  match E.P.underlying t with
  |some (.pointer el)=>kdK E el fun κ=>(ptrD κ c).bind fun x=>(methAV E.P t name (.eref κ x)).bind K
  |_=>none
 |v=>(methAV E.P t name v).bind K
def opR(E:Env)(op:Op)(e:Operand→AV)(H:List (Nat×AB))(K:AV→Option AB→Option R)(dst:Nat):Option R:=
 match op with
 | .move x=>match e x with| .dead=>none|v=>K v none
 | .assign x=>match e x with| .dead=>none|v=>K v none
 | .pick c a b=>
  match e c with
  | .pv .bool true=>match e a with| .dead=>none|v=>K v none
  | .pv .bool false=>match e b with| .dead=>none|v=>K v none
  |_=>none
 | .binOp op t x y _=>
  match rowNil H (e x) (e y)with
  |some n=>nilD E.P t op n fun v=>K v none
  |none=>binV E.P t (isConst x||isConst y) op (e x) (e y) fun v=>K v none
 | .unOp op _ x=>
  match op,e x with
  | .not, .pv .bool b=>K (.pv .bool (!b)) none
  | .neg, .pv (.int k) n=>K (.pv (.int k) (k.wrap (0-n))) none
  | .neg, .pv .float b=>K (.pv .float (fneg b)) none
  |_,_=>none
 | .convert src dst x=>
  match e x,E.P.underlying src,E.P.underlying dst with
  | .pv (.int _) n,some _,some (.int k)=>K (.pv (.int k) (k.wrap n)) none
  | .pv (.int _) n,some _,some (.float .f64)=>K (.pv .float (i2f n)) none
  | .pv .float b,some _,some (.int k)=>(floatToIntVal .f64 b k).bind fun n=>K (.pv (.int k) n) none
  | .pv .float b,some _,some (.float .f64)=>K (.pv .float b) none
  |v,some (.slice el),some .string=>bif u8T E.P el then(leafD H (.list (.int .u8)) v).bind fun xs=>K (.pv .str (strOfNums xs)) none else none
  |_,_,_=>none
 | .alloc t=>
  match E.P.info? t with
  |some i=>match i.zero with
   |some z=>bif memN E.cut (dst+2000000)then
    (match arrT E.P t with
    |some (n,el)=>(match E.kd el with
     |some κ=>bif sizeB E.P el κ.size&&Nat.ble n 1000 then(chunks [] κ n (z.cells.toList.map avOf1)).bind fun ys=>K (.pa κ dst n) (some (.arr t κ ys))else none
     |none=>none)
    |none=>none)
    else bif aliveL (z.cells.toList.map avOf1)then K (.ref dst 0) (some (.box (z.cells.toList.map avOf1)))else none
   |none=>none
  |none=>none
 | .box _ x=>bif aliveL (e x).flat then K (.ref dst 0) (some (.box (e x).flat))else none
 | .load t a=>
  match e a with
  | .ref h off=>
   match getH H h with
   | .box cs=>
    bif aggIs E.P t true then sizeK E.P t fun s=>bif Nat.ble (off+s) cs.length&&aliveL ((cs.drop off).take s)then K (.agg ((cs.drop off).take s)) none else none
    else bif aggIs E.P t false then(match cs[off]? with|some .dead=>none|some v=>K v none|none=>none)else none
   |_=>none
  | .eref κ x=>bif aggIs E.P t κ.isAgg&&sizeB E.P t κ.size then K (.pv κ x) none else none
  | .pv .any c=>kdK E t fun κ=>bif aggIs E.P t κ.isAgg&&sizeB E.P t κ.size then(ptrD κ c).bind fun x=>K (.pv κ x) none else none
  | .gi ti g=>bif aggIs E.P t false then K (.iface ti (.ep g)) none else none
  | .aref κ₀ h idx=>
   match getH H h with
   | .arr _ κ xs=>bif decide (κ₀=κ)&&aggIs E.P t κ.isAgg&&sizeB E.P t κ.size then(xs[idx]?).bind fun x=>K (.pv κ x) none else none
   |_=>none
  |_=>none
 | .fieldAddr s x f=>
  fieldK E.P s f fun fd=>sizeK E.P fd.type fun n=>bif Nat.beq n 0 then none else
  match e x with
  | .ref h off=>K (.ref h (off+fd.offset)) none
  | .eref κ x=>prjK κ x f fun κ' y o=>bif Nat.beq o fd.offset then K (.eref κ' y) none else none
  | .pv .any c=>kdK E s fun κ=>(ptrD κ c).bind fun x=>prjK κ x f fun κ' y o=>bif Nat.beq o fd.offset then K (.eref κ' y) none else none
  |_=>none
 | .field s x f=>
  fieldK E.P s f fun fd=>
  match e x with
  | .agg cs=>bif aggIs E.P fd.type true then sizeK E.P fd.type fun n=>bif aliveL ((cs.drop fd.offset).take n)then K (.agg ((cs.drop fd.offset).take n)) none else none
   else bif aggIs E.P fd.type false then(match cs[fd.offset]? with|some .dead=>none|some v=>K v none|none=>none)else none
  | .pv κ x=>prjK κ x f fun κ' y o=>bif Nat.beq o fd.offset&&aggIs E.P fd.type κ'.isAgg&&sizeB E.P fd.type κ'.size then K (.pv κ' y) none else none
  |_=>none
 | .indexAddr t x i=>
  match arrT E.P t with
  |some (n,el)=>
   (match e x,e i with
   | .pa κ h m, .pv (.int _) j=>bif Nat.beq m n&&sizeB E.P el κ.size then(chk j n).bind fun q=>K (.aref κ h q) none else none
   | .ref h off, .pv (.int _) j=>bif Nat.ble 1 n then sizeK E.P el fun s=>idxK j (fun q=>K (.ref h (off+q*s)) none) n 0 else none
   | .eref κ y, .pv (.int _) j=>bif Nat.ble 1 n then sizeK E.P el fun s=>idxK j (fun q=>prjK κ y q fun κ' z o=>bif Nat.beq o (q*s)&&Nat.beq κ'.size s then K (.eref κ' z) none else none) n 0 else none
   |_,_=>none)
  |none=>
  elemK E.P t fun el=>
  match e x,e i with
  | .bsl h n, .pv (.int _) j=>bif sizeB E.P el 1 then idxK j (fun q=>K (.ref h q) none) n 0 else none
  | .pv (.list κ) xs, .pv (.int _) n=>bif sizeB E.P el κ.size then(nth xs n).bind fun y=>K (.eref κ y) none else none
  | .own _ h, .pv (.int _) n=>
   match getH H h with
   | .arr _ κ xs=>bif sizeB E.P el κ.size then(chk n xs.length).bind fun j=>K (.aref κ h j) none else none
   |_=>none
  | .sub κ₀ h off len, .pv (.int _) n=>
   match getH H h with
   | .arr _ κ _=>bif decide (κ₀=κ)&&sizeB E.P el κ.size then(chk n len).bind fun j=>K (.aref κ h (off+j)) none else none
   |_=>none
  |_,_=>none
 | .index t x i=>
  match arrT E.P t with
  |some (n,el)=>
   (match E.kd el,e i with
   |some κ, .pv (.int _) j=>bif sizeB E.P el κ.size&&aggIs E.P el κ.isAgg&&(e x).isAgg&&κ.plain then(chunks H κ n (e x).flat).bind fun ys=>(nth ys j).bind fun y=>K (.pv κ y) none else none
   |_,_=>none)
  |none=>
  match e x,e i with
  | .pv .str s, .pv (.int _) n=>(match E.P.underlying t with|some .string=>(chk n s.size).bind fun j=>K (.pv (.int .u8) (sbyte s j)) none|_=>none)
  |_,_=>none
 | .nilCheck x=>
  match e x with
  | .ref h o=>K (.ref h o) none
  | .eref κ y=>K (.eref κ y) none
  | .aref κ h i=>K (.aref κ h i) none
  | .func f cs=>K (.func f cs) none
  | .mf t nm=>bif mthOk E.P t nm then K (.mf t nm) none else none
  | .mfa c nm=>(mfD E.P nm c E.cands).bind fun _=>K (.mfa c nm) none
  | .pv .any c=>(isNilp c).bind fun b=>bif b then none else K (.pv .any c) none
  |_=>none
 | .slice t x lo hi none=>
  let bd (len:Nat) (G:Nat×Nat→Option R):Option R:=
   match(lo.map e).getD (.pv (.int .i64) 0),(hi.map e).getD (.pv (.int .i64) (len:Int))with
   | .pv (.int _) l, .pv (.int _) h=>(chk2 l h len).bind G
   |_,_=>none
  let bd2 (len top:Nat) (G:Nat×Nat→Option R):Option R:=
   match(lo.map e).getD (.pv (.int .i64) 0),(hi.map e).getD (.pv (.int .i64) (len:Int))with
   | .pv (.int _) l, .pv (.int _) h=>(chk2 l h top).bind G
   |_,_=>none
  match e x with
  | .pv .str s=>(match E.P.underlying t with|some .string=>bd s.size fun p=>K (.pv .str (s.extract p.1 p.2)) none|_=>none)
  | .pa κ h m=>
   (match arrT E.P t with
   |some (n,el)=>bif Nat.beq m n&&sizeB E.P el κ.size&&lo.isNone&&hi.isNone then K (.own κ h) none else none
   |none=>none)
  | .eref κ y=>
   (match arrT E.P t with
   |some (n,el)=>(match E.kd el with
    |some κ'=>bif sizeB E.P el κ'.size&&Nat.ble 1 κ'.size then(chunks H κ' n (flatD κ y)).bind fun ys=>bd n fun p=>K (.pv (.list κ') ((ys.drop p.1).take (p.2-p.1))) none else none
    |none=>none)
   |none=>none)
  |_=>
  elemK E.P t fun el=>
  match e x with
  | .pv (.list κ) xs=>bif sizeB E.P el κ.size then bd xs.length fun p=>K (.pv (.list κ) ((xs.drop p.1).take (p.2-p.1))) none else none
  | .own κ₁ h=>
   match getH H h with
   | .arr _ κ xs=>bif sizeB E.P el κ.size then(bif lo.isNone&&hi.isNone then K (.own κ₁ h) none else bd xs.length fun p=>K (.sub κ h p.1 (p.2-p.1)) none)else none
   |_=>none
  | .sub κ₀ h off len=>
   match getH H h with
   | .arr _ κ xs=>bif decide (κ₀=κ)&&sizeB E.P el κ.size then bd2 len (bif Nat.beq off 0 then xs.length else len) fun p=>K (.sub κ h (off+p.1) (p.2-p.1)) none else none
   |_=>none
  | .nils=>(E.P.info? el).bind fun _=>bd 0 fun _=>K .nils none
  |_=>none
 | .slice t x lo (some hi) (some mx)=>
  elemK E.P t fun el=>
  match e x,(lo.map e).getD (.pv (.int .i64) 0),e hi,e mx with
  | .pv (.list κ) xs, .pv (.int _) l, .pv (.int _) h, .pv (.int _) m=>
   bif sizeB E.P el κ.size&&decide (h=m)then(chk2 l h xs.length).bind fun p=>K (.capd κ ((xs.drop p.1).take (p.2-p.1))) none else none
  |_,_,_,_=>none
 | .build t parts=>
  match E.P.info? t,E.P.underlying t with
  |some i,some (.array _ el)=>(match i.zero with
   |some z=>bif aliveL (z.cells.toList.map avOf1)then sizeK E.P el fun s=>(fillA s (z.cells.toList.map avOf1) (parts.toList.map fun p=>(p.1,e p.2))).bind fun cs=>K (.agg cs) none else none
   |none=>none)
  |some i,some (.struct fs)=>match i.zero with
   |some z=>bif aliveL (z.cells.toList.map avOf1)&&fs.all (fun f=>(E.P.info? f.type).isSome)then
    (fillV fs E.P (z.cells.toList.map avOf1) (parts.toList.map fun p=>(p.1,e p.2))).bind fun cs=>K (.agg cs) none else none
   |none=>none
  |_,_=>none
 | .buildSlice t len parts=>
  elemK E.P t fun el=>
  match E.kd el with
  |some κ=>bif sizeB E.P el κ.size&&zeroSome E.P el&&Nat.ble 1 κ.size&&Nat.beq parts.size len&&Nat.ble (len*κ.size) 1000 then
   (partsD H κ 0 (parts.toList.map fun p=>(p.1,e p.2))).bind fun xs=>
    bif(parts.toList.all fun p=>(e p.2).free|| !(e p.2).handled)then K (.own κ dst) (some (.arr el κ xs))else none
   else none
  |none=>bif sizeB E.P el 1&&zeroSome E.P el&&Nat.ble 1 len&&Nat.beq parts.size len&&Nat.ble len 1000&&inOrder 0 (parts.toList.map Prod.fst)&&(parts.toList.map fun p=>e p.2).all AV.single then
   K (.bsl dst len) (some (.box (parts.toList.map fun p=>e p.2)))else none
 | .makeSlice t l c=>
  elemK E.P t fun el=>
  match E.P.info? el,E.kd el with
  |some i,some κ=>
   match i.zero with
   |some z=>
    bif Nat.beq i.size κ.size&&Nat.ble 1 κ.size&&zeroB κ z.cells.toList then
     match e l,e c with
     | .pv (.int _) n, .pv (.int _) m=>(mkn n m i.bytes).bind fun k=>K (.own κ dst) (some (.arr el κ (List.replicate k κ.zero)))
     |_,_=>none
    else none
   |none=>none
  |_,_=>none
 | .makeInterface t x=>
  match E.P.underlying t with
  |some (.interface _)=>none
  |some _=>match e x with| .dead=>none|v=>K (.iface t v) none
  |none=>none
 | .typeAssert x _ asserted false=>
  match E.P.underlying asserted,e x with
  |some (.interface want), .iface t v=>(match E.P.info? t with|some i=>bif lacks want i.methods then none else K (.iface t v) none|none=>none)
  |some (.interface _),_=>none
  |some _, .iface t v=>bif Nat.beq t asserted then K v none else none
  |some _, .pv .any c=>kdK E asserted fun κ=>bif aggIs E.P asserted κ.isAgg then(asT κ asserted c).bind fun x=>K (.pv κ x) none else none
  |_,_=>none
 | .typeAssert x _ asserted true=>
  match E.P.underlying asserted,e x with
  |some (.interface want), .iface t v=>
   (match E.P.info? t with
    |some i=>bif lacks want i.methods then zeroK E.P asserted fun z=>K (.tuple [z, .pv .bool false]) none else K (.tuple [.iface t v, .pv .bool true]) none
    |none=>none)
  |some _, .iface t v=>bif Nat.beq t asserted then(match v with| .dead=>none|v=>K (.tuple [v, .pv .bool true]) none)else zeroK E.P asserted fun z=>K (.tuple [z, .pv .bool false]) none
  |some _, .niliface=>zeroK E.P asserted fun z=>K (.tuple [z, .pv .bool false]) none
  |some (.interface _), .pv .any _=>none
  |some _, .pv .any c=>(isT asserted c).bind fun b=>bif b then kdK E asserted fun κ=>bif aggIs E.P asserted κ.isAgg then(asT κ asserted c).bind fun x=>K (.tuple [.pv κ x, .pv .bool true]) none else none else zeroK E.P asserted fun z=>K (.tuple [z, .pv .bool false]) none
  |_,_=>none
 | .makeFunc (.method nm) first caps=>(match first.toList,caps.toList with|[x],[]=>(match e x with| .iface t (.ref _ _)=>K (.mf t nm) none| .iface t (.pv .unit _)=>K (.mf t nm) none| .pv .any c=>K (.mfa c nm) none|_=>none)|_,_=>none)
 | .makeFunc (.func f) first caps=>bif first.isEmpty&&aliveL (caps.toList.map e)then K (.func f (caps.toList.map e)) none else none
 | .extract x i=>match e x with| .tuple vs=>(match vs[i]? with|some .dead=>none|some v=>K v none|none=>none)|_=>none
 | .call c=>
  match c.callee with
  | .builtin .len=>
   match c.args.toList,c.argTypes.toList with
   |[x],[t]=>
    match e x,E.P.underlying t with
    | .pv (.list _) xs,some (.slice _)=>K (.pv (.int .i64) (xs.length:Int)) none
    | .pv (.nl _) o,some (.slice _)=>K (.pv (.int .i64) ((o.getD []).length:Int)) none
    | .own _ h,some (.slice _)=>match getH H h with| .arr _ _ xs=>K (.pv (.int .i64) (xs.length:Int)) none|_=>none
    | .sub _ _ _ len,some (.slice _)=>K (.pv (.int .i64) (len:Int)) none
    | .nils,some (.slice _)=>K (.pv (.int .i64) 0) none
    | .bsl _ n,some (.slice _)=>K (.pv (.int .i64) (n:Int)) none
    | .pv .str s,some .string=>K (.pv (.int .i64) (s.size:Int)) none
    |_,_=>none
   |_,_=>none
  | .builtin .cap=>
   match c.args.toList,c.argTypes.toList with
   |[x],[t]=>(match e x,E.P.underlying t with| .nils,some (.slice _)=>K (.pv (.int .i64) 0) none|_,_=>none)
   |_,_=>none
  | .builtin .max=>match c.args.toList with|[x,y]=>mmV true (e x) (e y) fun v=>K v none|[x,y,z]=>mmV true (e x) (e y) fun v=>mmV true v (e z) fun u=>K u none|_=>none
  | .builtin .min=>match c.args.toList with|[x,y]=>mmV false (e x) (e y) fun v=>K v none|[x,y,z]=>mmV false (e x) (e y) fun v=>mmV false v (e z) fun u=>K u none|_=>none
  | .value f=>
   match e f with
   | .func g caps=>findCon E.cons g H (c.args.toList.map e++caps) fun c' x=>
    bif c'.rs.all Kd.plain||(c.args.toList.map e++caps).all (fun v=> !v.handled)then(c'.fn x).bind fun y=>K (resV c'.rs y) none else none
   |_=>none
  | .invoke f nm=>
   match e f with
   | .iface t u=>methK E t nm u fun g=>findCon E.cons g.1 H (g.2::c.args.toList.map e) fun c' x=>
    bif c'.rs.all Kd.plain||(g.2::c.args.toList.map e).all (fun v=> !v.handled)then(c'.fn x).bind fun y=>K (resV c'.rs y) none else none
   | .pv .any a=>dynK E a (fun t u=>methK E t nm u fun g=>findCon E.cons g.1 H (g.2::c.args.toList.map e) fun c' x=>
    bif c'.rs.all Kd.plain||(g.2::c.args.toList.map e).all (fun v=> !v.handled)then(c'.fn x).bind fun y=>K (resV c'.rs y) none else none) E.cands
   |_=>none
  |_=>none
 |_=>none
end
def AV.frz(h:Nat)(κ:Kd)(xs:List (Den κ)):AV→AV
 | .own κ' g=>bif Nat.beq g h then .pv (.list κ) xs else .own κ' g
 | .sub κ' g off len=>bif Nat.beq g h then(bif decide (κ'=κ)then .pv (.list κ) ((xs.drop off).take len)else .dead)else .sub κ' g off len
 |v=>v.strike h
def AB.frz(h:Nat)(κ:Kd)(xs:List (Den κ)):AB→AB
 | .box cs=> .box (cs.map (AV.frz h κ xs))
 |b=>b
def St.frz(st:St)(h:Nat):St:=
 match getH st.H h with
 | .arr _ κ xs=>⟨st.fr.map fun(t,v)=>(t,v.frz h κ xs),(h, .gone)::st.H.map fun(t,b)=>(t,b.frz h κ xs),st.df⟩
 |_=>st
def AB.notBox:AB→Bool
 | .box _=>false
 |_=>true
def frzArgs(st:St):List AV→Option St
 |[]=>some st
 |v::r=>
  match v with
  | .own _ h=>bif okDf st.df h&&(getH st.H h).notBox then frzArgs (st.frz h) r else none
  | .sub _ h _ _=>bif okDf st.df h&&(getH st.H h).notBox then frzArgs (st.frz h) r else none
  |v=>bif v.free|| !v.handled then frzArgs st r else none
def gonesOf:List AV→List (Nat×AB)→Option (List (Nat×AB))
 |[],_=>some []
 |v::r,H=>
  match v with
  | .own _ h=>(match getH H h with| .arr _ _ _=>(gonesOf r ((h, .gone)::H)).bind fun gs=>some (gs++[(h, .gone)])|_=>none)
  | .sub _ h _ _=>(match getH H h with| .arr _ _ _=>(gonesOf r ((h, .gone)::H)).bind fun gs=>some (gs++[(h, .gone)])|_=>none)
  |v=>bif v.free|| !v.handled then gonesOf r H else none
def arrKd(κ:Kd):Nat→Kd
 |0=> .unit
 |n+1=> .pair κ (arrKd κ n)
def AV.frzB(h:Nat)(κ:Kd)(x:Den κ):AV→AV
 | .ref g off=>bif Nat.beq g h then(bif Nat.beq off 0 then .eref κ x else .dead)else .ref g off
 |v=>v.strike h
def AB.frzB(h:Nat)(κ:Kd)(x:Den κ):AB→AB
 | .box cs=> .box (cs.map (AV.frzB h κ x))
 |b=>b
def St.frzB(st:St)(h:Nat)(κ:Kd):Option St:=
 match getH st.H h with
 | .box cs=>bif cs.all AV.isPv then(cellsD st.H κ cs).bind fun p=>match p.2 with
  |[]=>some ⟨st.fr.map fun(t,v)=>(t,v.frzB h κ p.1),(h, .gone)::st.H.map fun(t,b)=>(t,b.frzB h κ p.1),st.df⟩
  |_=>none else none
 |_=>none
def plainSl(E:Env)(t:TypeId):Bool:=
 match E.P.underlying t with
 |some (.slice el)=>(E.kd el).isSome
 |_=>true
section
variable {R:Type}
def putF(st:St)(dst:Option Nat)(v:AV):St:=match dst with|some d=>⟨(d,v)::st.fr,st.H,st.df⟩|none=>st
def sameSl(P:Program)(t t':TypeId):Bool:=Nat.beq t t'||(match P.underlying t' with|some (.slice _)=>true|_=>false)
def appX0(E:Env)(t:TypeId)(H:List (Nat×AB))(df:List AV)(s x:AV)(d:Nat)(K:AV→List (Nat×AB)→List Nat→Option R):Option R:=
 elemK E.P t fun el=>
 match E.P.info? el,E.kd el with
 |some i,some κ=>
  bif Nat.beq i.size κ.size&&Nat.ble 1 κ.size&&zeroSz E.P el κ.size&&Nat.ble 1 i.bytes then
   (argD H (.list κ) x).bind fun ys=>
   bif !okNew df d then none else
   match s with
   | .nils=>bif memN E.cut d&& !Nat.ble 1 ys.length then K .nils [(d, .gone)] [d]else(lim (ys.length*i.bytes)).bind fun _=>K (.own κ d) [(d, .arr el κ ys)] [d]
   | .capd κ' zs=>(castD (.list κ') (.list κ) zs).bind fun zs=>bif Nat.ble 1 ys.length then(lim ((zs.length+ys.length)*i.bytes)).bind fun _=>K (.own κ d) [(d, .arr el κ (zs++ys))] [d]else none
   | .own _ h=>
    match getH H h with
    | .arr el' κ' xs=>bif Nat.beq el el' then
     (castD (.list κ') (.list κ) xs).bind fun zs=>(lim ((zs.length+ys.length)*i.bytes)).bind fun _=>
      K (.own κ d) [(d, .arr el κ (zs++ys)),(h, .gone)] [d]else none
    |_=>none
   |_=>none
  else none
 |_,_=>none
def appX(E:Env)(t:TypeId)(H:List (Nat×AB))(df:List AV)(s x:AV)(d:Nat)(K:AV→List (Nat×AB)→List Nat→Option R):Option R:=
 match s with
 | .sub κ₀ h off len=>
  match getH H h with
  | .arr e κ' xs=>bif decide (κ₀=κ')&&okNew df d&&x.isPv&&Nat.beq off 0&&Nat.ble 1 len then
   appX0 E t ((d, .arr e κ' (xs.take len))::(h, .gone)::strikeH d H) df (.own κ₀ d) x d fun v ks nf=>K v (ks++[(h, .gone)]) nf
   else none
  |_=>none
 |s=>appX0 E t H df s x d K
def isIntT(P:Program)(t:TypeId):Bool:=match P.underlying t with|some (.int _)=>true|_=>false
def appZ(E:Env)(t t':TypeId)(df:List AV)(s x:AV)(d:Nat)(K:AV→List (Nat×AB)→List Nat→Option R):Option R:=
 elemK E.P t fun el=>
 match E.P.info? el,E.kd el with
 |some i,some κ=>
  match i.zero with
  |some z=>
   bif Nat.beq i.size κ.size&&Nat.ble 1 κ.size&&zeroB κ z.cells.toList&&Nat.ble 1 i.bytes&&okNew df d&&isIntT E.P t' then
    match s,x with
    | .nils, .pv (.int _) n=>bif decide (1≤n)then(lim (n.toNat *i.bytes)).bind fun _=>K (.own κ d) [(d, .arr el κ (List.replicate n.toNat κ.zero))] [d]else none
    |_,_=>none
   else none
  |none=>none
 |_,_=>none
def appK(E:Env)(t:TypeId)(st:St)(s x:AV)(d:Nat)(K:AV→St→Option R):Option R:=
 appX E t st.H st.df s x d fun v ks _=>K v ⟨strikeF d st.fr,ks++strikeH d st.H,st.df⟩
def Env.c2at(E:Env)(d:Nat):List Con2:=bif memN E.cut d then E.con2.reverse else E.con2
theorem Env.c2at_mem{E:Env}{d:Nat}{c:Con2}(h:c∈E.c2at d):c∈E.con2:=by
 unfold Env.c2at at h
 cases hm:memN E.cut d with
 |true=>rw[hm]at h;exact List.mem_reverse.1 h
 |false=>rw[hm]at h;exact h
def getDyn:List (Nat×Kd)→Nat→Option Kd
 |[],_=>none
 |(d,κ)::r,t=>bif Nat.beq d t then some κ else getDyn r t
def findC2(c2:List Con2)(f:FuncId)(H:List (Nat×AB))(vs:List AV)(K:(c:Con2)→ShDs c.ins→List (Option Nat)→List AV→Option R)(K0:Option R):Option R:=
 match c2 with
 |[]=>K0
 |c::r=>bif Nat.beq c.fid f then(match matchShs H c.ins vs with|some p=>K c p.1 p.2.1 p.2.2|none=>findC2 r f H vs K K0)else findC2 r f H vs K K0
def freshL:List Nat→St→St
 |[],st=>st
 |n::r,st=>freshL r (st.fresh n)
def goneL:List Nat→List (Nat×AB)
 |[]=>[]
 |n::r=>(n, .gone)::goneL r
def notIn(l:List Nat):List Nat→List Nat
 |[]=>[]
 |n::r=>bif memN l n then notIn l r else n::notIn l r
def resT:List AV→AV
 |[v]=>v
 |vs=> .tuple vs
def callX(fr:Bool)(c:Con2)(x:ShDs c.ins)(os:List (Option Nat))(df:List AV)(d:Nat)(K:AV→List (Nat×AB)→List Nat→Option R):Option R:=
 (c.fn x).bind fun y=>altK c.alts y fun a dd=>
  (fun(ns nf:List Nat)=>
   bif finsOk c.ins a.fins&&nodupN ns&&nf.all (okNew df)&&(parsL a.all).all (fun i=> !memN nf (ownAt os i))&&(wparsL a.all).all (fun i=> !memN nf (ownAt os i)&&ownSome os i)&&(fixI (fixL a.all)).all (ownSome os)&&tOk (keepTops c.ins a.fins os) (a.names fr c.ins os d) ns then
    (bif subOk c.ins a.fins x (dropSh a.ress (keepS a.fins) dd)then(fun(r:List AV×List (Nat×AB)×List Nat)=>K (resT (r.1.take a.ress.length)) (r.2.1++goneL (someN os)) nf) (renderShs (ownAt os) a.all dd ns)else none)
   else none) (ovr os (fixL a.all) (a.names fr c.ins os d)) (notIn (keepTops c.ins a.fins os++fixN os (fixL a.all)) (ovr os (fixL a.all) (a.names fr c.ins os d)))
def call2(c:Con2)(x:ShDs c.ins)(os:List (Option Nat))(ls:List AV)(st:St)(d:Nat)(K:AV→St→Option R):Option R:=
 bif ownOk os ls then
  (bif allSafe c.alts then some st else frzArgs st ls).bind fun st1=>
  callX false c x os st1.df d fun v ks nf=>(fun(s:St)=>K v ⟨s.fr,ks++s.H,s.df⟩) (freshL nf st1)
 else none
def stX(E:Env)(t:TypeId)(av x:AV)(H:List (Nat×AB))(K:AV→List (Nat×AB)→List Nat→Option R):Option R:=
 match av with
 | .ref h off=>
  match getH H h with
  | .box cs=>bif sizeB E.P t x.flat.length&&Nat.ble (off+x.flat.length) cs.length&&aliveL x.flat then
   K .dead [(h, .box (setCells cs off x.flat))] []else none
  |_=>none
 | .aref κ₀ h idx=>
  match getH H h with
  | .arr el κ xs=>bif decide (κ₀=κ)&&sizeB E.P t κ.size&&x.free then(argD H κ x).bind fun y=>K .dead [(h, .arr el κ (xs.set idx y))] []else none
  |_=>none
 |_=>none
def cpX(E:Env)(t:TypeId)(H:List (Nat×AB))(s x:AV)(K:AV→List (Nat×AB)→List Nat→Option R):Option R:=
 elemK E.P t fun el=>
 match s with
 | .own _ h=>
  match getH H h with
  | .arr e κ xs=>bif Nat.beq κ.size 1&&sizeB E.P el 1&&κ.plain then(argD H (.list κ) x).bind fun ys=>K (.pv (.int .i64) ((min ys.length xs.length:Nat):Int)) [(h, .arr e κ (ys.take xs.length++xs.drop ys.length))] []else none
  |_=>none
 | .sub κ₀ h off len=>
  match getH H h with
  | .arr e κ xs=>bif decide (κ₀=κ)&&Nat.beq κ.size 1&&sizeB E.P el 1&&κ.plain then(argD H (.list κ) x).bind fun ys=>K (.pv (.int .i64) ((min ys.length len:Nat):Int)) [(h, .arr e κ (xs.take off++(ys.take len++xs.drop (off+min ys.length len))))] []else none
  |_=>none
 | .nils=>(E.kd el).bind fun κ=>bif sizeB E.P el 1 then(argD H (.list κ) x).bind fun _=>K (.pv (.int .i64) 0) [] []else none
 |_=>none
def apX(E:Env)(t:TypeId)(H:List (Nat×AB))(df:List AV)(s:AV)(d:Nat)(K:AV→List (Nat×AB)→List Nat→Option R):Option R:=
 match arrT E.P t with
 |some (n,el)=>
  match s with
  | .own _ h=>
   match getH H h with
   | .arr _ κ xs=>bif Nat.beq κ.size 1&& !κ.isAgg&&Nat.ble 1 n&&okNew df d then
    (if xs.length=n then K (.ref d 0) [(d, .box ((List.range n).map fun i=> .pv κ (xs.getD i κ.zero))),(h, .gone)] [d]else none)else none
   |_=>none
  |_=>none
 |none=>none
def cutX(E:Env)(t:TypeId)(H:List (Nat×AB))(df:List AV)(s hi:AV)(d:Nat)(K:AV→List (Nat×AB)→List Nat→Option R):Option R:=
 elemK E.P t fun el=>
 match s,hi with
 | .own _ h, .pv (.int _) j=>
  match getH H h with
  | .arr e κ xs=>bif sizeB E.P el κ.size&&okNew df d then(chk2 0 j xs.length).bind fun p=>K (.own κ d) [(d, .arr e κ (xs.take p.2)),(h, .gone)] [d]else none
  |_=>none
 |_,_=>none
def slX(E:Env)(t:TypeId)(H:List (Nat×AB))(df:List AV)(s:AV)(K:AV→List (Nat×AB)→List Nat→Option R):Option R:=
 match s,arrT E.P t with
 | .ref h off,some (n,el)=>
  match E.kd el,getH H h with
  |some κ, .box cs=>bif Nat.beq off 0&&cs.all AV.isPv&&sizeB E.P el κ.size&&Nat.ble 1 κ.size then(chunks H κ n cs).bind fun ys=>K (.pv (.list κ) ys) [(h, .gone)] []else none
  |_,_=>none
 |_,_=>none
def mulN(x y:AV)(K:AV→Option R):Option R:=
 match x,y with
 | .pv .float m, .pv .float n=>Option.elim (Ieee.double.mul m n) (K .nanv) (fun z=>K (.pv .float z))
 |_,_=>none
def invW(E:Env)(o:Oper)(st:St)(args:Array Operand)(g:FuncId×AV)(K:AV→St→Option R):Option R:=
 findC2 E.con2 g.1 st.H (g.2::args.toList.map (opnd E.gl st.fr)) (fun c' x os ls=>call2 c' x os ls st (100000+50*o.dst.getD 17999) K)
  (findCon E.cons g.1 st.H (g.2::args.toList.map (opnd E.gl st.fr)) fun c' x=>
   bif c'.rs.all Kd.plain then(c'.fn x).bind fun y=>K (resV c'.rs y) st
   else(frzArgs st (g.2::args.toList.map (opnd E.gl st.fr))).bind fun st'=>(c'.fn x).bind fun y=>K (resV c'.rs y) st')
def invP(E:Env)(o:Oper)(st:St)(args:Array Operand)(g:FuncId×AV)(κ:Kd):Option (Den κ):=
 findC2 E.con2 g.1 st.H (g.2::args.toList.map (opnd E.gl st.fr)) (fun c' x os ls=>bif ownOk os ls&&(allSafe c'.alts||ls.all fun v=>v.free|| !v.handled)then callX false c' x os st.df (100000+50*o.dst.getD 17999) (fun v ks nf=>match v,ks,nf with| .pv κ' y,[],[]=>castD κ' κ y|_,_,_=>none)else none)
  (findCon E.cons g.1 st.H (g.2::args.toList.map (opnd E.gl st.fr)) fun c' x=>
   bif c'.rs.all Kd.plain then(c'.fn x).bind fun y=>match resV c'.rs y with| .pv κ' z=>castD κ' κ z|_=>none else none)
def dynW(E:Env)(o:Oper)(st:St)(args:Array Operand)(nm:String)(c:Ce)(K:AV→St→Option R):Option R:=
 match getDyn E.dyn (o.dst.getD 17999)with
 |some κ=>(dynK E c (fun t u=>methK E t nm u fun g=>invP E o st args g κ) E.cands).bind fun y=>K (.pv κ y) st
 |none=>dynK E c (fun t u=>methK E t nm u fun g=>invW E o st args g K) E.cands
def opW(E:Env)(o:Oper)(st:St)(K:AV→St→Option R):Option R:=
 match o.op with
 | .binOp op t x y _=>
  match rowNil st.H (opnd E.gl st.fr x) (opnd E.gl st.fr y)with
  |some n=>nilK E.P t op n fun v=>K v st
  |none=>match op with| .mul=>mulN (opnd E.gl st.fr x) (opnd E.gl st.fr y) fun v=>K v st|_=>none
 | .sliceToArrayPointer t x=>
  match o.dst with
  |some d=>apX E t st.H st.df (opnd E.gl st.fr x) d fun v ks _=>K v ⟨strikeF d st.fr,ks++strikeH d st.H,st.df⟩
  |none=>none
 | .slice t x none (some hi) none=>
  match o.dst with
  |some d=>cutX E t st.H st.df (opnd E.gl st.fr x) (opnd E.gl st.fr hi) d fun v ks _=>K v ⟨strikeF d st.fr,ks++strikeH d st.H,st.df⟩
  |none=>none
 | .store t a x=>stX E t (opnd E.gl st.fr a) (opnd E.gl st.fr x) st.H fun v ks _=>K v ⟨st.fr,ks++st.H,st.df⟩
 | .defer c=>
  match c.callee,c.args.toList with
  | .value f,[]=>match opnd E.gl st.fr f with| .func g caps=>K .dead ⟨st.fr,st.H, .func g caps::st.df⟩|_=>none
  |_,_=>none
 | .call {callee:= .builtin .append,args:=args,argTypes:=ts}=>
  match args.toList,ts.toList,o.dst with
  |[s,x],[t,t'],some d=>bif sameSl E.P t t' then appK E t st (opnd E.gl st.fr s) (opnd E.gl st.fr x) d K else appZ E t t' st.df (opnd E.gl st.fr s) (opnd E.gl st.fr x) d fun v ks _=>K v ⟨strikeF d st.fr,ks++strikeH d st.H,st.df⟩
  |_,_,_=>none
 | .call {callee:= .builtin .copy,args:=args,argTypes:=ts}=>
  match args.toList,ts.toList with
  |[s,x],[t,_]=>cpX E t st.H (opnd E.gl st.fr s) (opnd E.gl st.fr x) fun v ks _=>K v ⟨st.fr,ks++st.H,st.df⟩
  |_,_=>none
 | .call {callee:= .value f,args:=args, .. }=>
  match opnd E.gl st.fr f with
  | .func g caps=>
   findC2 (E.c2at (o.dst.getD 17999)) g st.H (args.toList.map (opnd E.gl st.fr)++caps) (fun c' x os ls=>call2 c' x os ls st (100000+50*o.dst.getD 17999) K)
   (findCon E.cons g st.H (args.toList.map (opnd E.gl st.fr)++caps) fun c' x=>
    bif c'.rs.all Kd.plain then(c'.fn x).bind fun y=>K (resV c'.rs y) st
    else(frzArgs st (args.toList.map (opnd E.gl st.fr)++caps)).bind fun st'=>(c'.fn x).bind fun y=>K (resV c'.rs y) st')
  |_=>none
 | .call {callee:= .invoke f nm,args:=args, .. }=>
  match opnd E.gl st.fr f with
  | .iface t u=>methK E t nm u fun g=>invW E o st args g K
  | .pv .any c=>dynW E o st args nm c K
  |_=>none
 |_=>none
def Op.isW:Op→Bool
 | .store .. =>true
 | .defer _=>true
 | .call {callee:= .builtin .append, .. }=>true
 | .call {callee:= .builtin .copy, .. }=>true
 | .call {callee:= .value _, .. }=>true
 | .call {callee:= .invoke _ _, .. }=>true
 | .sliceToArrayPointer .. =>true
 |_=>false
def isCut(E:Env)(o:Oper):Bool:=
 match o.op,o.dst with
 | .slice _ _ none (some _) none,some d=>memN E.cut d
 |_,_=>false
def isMulN(E:Env)(o:Oper):Bool:=
 match o.op,o.dst with
 | .binOp .mul _ _ _ _,some d=>memN E.cut d
 |_,_=>false
def isNil(E:Env)(o:Oper)(st:St):Bool:=
 match o.op with
 | .binOp _ _ x y _=>(rowNil st.H (opnd E.gl st.fr x) (opnd E.gl st.fr y)).isSome
 |_=>false
def preS(E:Env)(op:Op)(st:St):Option St:=
 match op with
 | .buildSlice t _ parts=>bif plainSl E t then frzArgs st (parts.toList.map fun p=>opnd E.gl st.fr p.2)else some st
 | .slice t x _ _ none=>
  match opnd E.gl st.fr x,arrT E.P t with
  | .ref h off,some (n,el)=>(match E.kd el with
   |some κ=>bif Nat.beq off 0&&okDf st.df h then st.frzB h (arrKd κ n)else none
   |none=>none)
  |_,_=>some st
 |_=>some st
def opS(E:Env)(o:Oper)(st0:St)(K:AV→St→Option R):Option R:=
 bif Op.isW o.op||isCut E o||isNil E o st0||isMulN E o then opW E o st0 K
 else(preS E o.op st0).bind fun st=>opR E o.op (opnd E.gl st.fr) st.H (fun v ob=>match ob with|none=>K v st|some b=>bif !okNew st.df (o.dst.getD 0)||b.ment (o.dst.getD 0)then none else K v ⟨(st.fresh (o.dst.getD 0)).fr,(o.dst.getD 0,b)::(st.fresh (o.dst.getD 0)).H,(st.fresh (o.dst.getD 0)).df⟩) (o.dst.getD 0)
def opG(E:Env)(ops:Array Oper)(o:Oper)(st:St)(K:St→Option R):Option R:=
 match o.guard with
 |none=>opS E o st fun v st'=>K (putF st' o.dst v)
 |some (j,want)=>
  match(ops[j]?).bind (·.dst)with
  |some d=>
   match getF st.fr d with
   | .pv .bool p=>
    cond p
     (cond want (opS E o ⟨(d, .pv .bool true)::st.fr,st.H,st.df⟩ fun v st'=>K (putF st' o.dst v)) (K (putF ⟨(d, .pv .bool true)::st.fr,st.H,st.df⟩ o.dst (.tuple []))))
     (cond want (K (putF ⟨(d, .pv .bool false)::st.fr,st.H,st.df⟩ o.dst (.tuple []))) (opS E o ⟨(d, .pv .bool false)::st.fr,st.H,st.df⟩ fun v st'=>K (putF st' o.dst v)))
   | .tuple []=>K (putF st o.dst (.tuple []))
   |_=>none
  |none=>none
def opsG(E:Env)(ops:Array Oper):List Oper→St→(St→Option R)→Option R
 |[],st,K=>K st
 |o::r,st,K=>opG E ops o st fun st'=>opsG E ops r st' K
def AV.ren(g h:Nat):AV→AV
 | .own κ g'=>bif Nat.beq g' g then .own κ h else .own κ g'
 | .sub κ g' off len=>bif Nat.beq g' g then .sub κ h off len else .sub κ g' off len
 |v=>v.strike g
def AB.ren(g h:Nat):AB→AB
 | .box cs=> .box (cs.map (AV.ren g h))
 |b=>b
def ownV(v:AV)(e:TypeId)(κ:Kd)(h:Nat)(st:St)(set:AV→St→Option St):Option St:=
 bif !okNew st.df h then none else
 match v with
 | .nils=>(fun st'=>set (.own κ h) ⟨st'.fr,(h, .arr e κ [])::st'.H,st'.df⟩) (st.fresh h)
 | .own _ g=>
  bif Nat.beq g h then some st else
  bif !okDf st.df g then none else
  match getH st.H g with
  | .arr e' κ' xs=>
   (fun st'=>some ⟨st'.fr.map fun(t,v)=>(t,v.ren g h),(h, .arr e' κ' xs)::(g, .gone)::st'.H.map fun(t,b)=>(t,b.ren g h),st'.df⟩) (st.fresh h)
  |_=>none
 |_=>none
def setC(st:St)(b j:Nat)(v:AV):Option St:=
 match getH st.H b with
 | .box cs=>some ⟨st.fr,(b, .box (cs.set j v))::st.H,st.df⟩
 |_=>none
def normOwn:List (Nat×TypeId×Kd×Nat)→St→Option St
 |[],st=>some st
 |(t,e,κ,h)::r,st=>(ownV (getF st.fr t) e κ h st fun v st'=>some ⟨(t,v)::st'.fr,st'.H,st'.df⟩).bind (normOwn r)
def normOwnC:List (Nat×Nat×TypeId×Kd×Nat)→St→Option St
 |[],st=>some st
 |(b,j,e,κ,h)::r,st=>
  match getH st.H b with
  | .box cs=>(ownV ((cs[j]?).getD .dead) e κ h st fun v st'=>setC st' b j v).bind (normOwnC r)
  |_=>none
def normPv:List (Nat×Kd)→St→Option St
 |[],st=>some st
 |(t,κ)::r,st=>(frzArgs st [getF st.fr t]).bind fun st1=>
  match getF st1.fr t with
  | .nils=>normPv r ⟨(t, .pv (.list κ) [])::st1.fr,st1.H,st1.df⟩
  | .pv _ _=>normPv r st1
  | .iface ti (.pv κ' x)=>bif decide (κ= .unit)then(cev (fun _=>none) st1.H (.iface ti (.pv κ' x))).bind fun c=>normPv r ⟨(t, .pv .any c)::st1.fr,st1.H,st1.df⟩else none
  |_=>none
def normPvC:List (Nat×Nat×Kd)→St→Option St
 |[],st=>some st
 |(b,j,κ)::r,st=>
  match getH st.H b with
  | .box cs=>(frzArgs st [(cs[j]?).getD .dead]).bind fun st1=>
   match getH st1.H b with
   | .box cs1=>
    match(cs1[j]?).getD .dead with
    | .nils=>(setC st1 b j (.pv (.list κ) [])).bind (normPvC r)
    | .pv _ _=>normPvC r st1
    |_=>none
   |_=>none
  |_=>none
def normBx:List (Nat×Kd)→St→Option St
 |[],st=>some st
 |(h,κ)::r,st=>match getH st.H h with| .gone=>normBx r st|_=>bif okDf st.df h then(st.frzB h κ).bind (normBx r)else none
def keepFr(fr:List (Nat×AV))(l:List Nat):List (Nat×AV):=l.map fun t=>(t,getF fr t)
def keepHp(H:List (Nat×AB))(l:List Nat):List (Nat×AB):=l.map fun t=>(t,getH H t)
def Norm.at(nm:Norm)(st:St):Option St:=
 (normOwn nm.own st).bind fun st=>(normOwnC nm.ownC st).bind fun st=>(normPv nm.pv st).bind fun st=>(normPvC nm.pvC st).bind fun st=>(normBx nm.bx st).bind fun st=>some ⟨keepFr st.fr nm.keep,keepHp st.H nm.keepH,st.df⟩
def findAdv:List (Nat×Norm)→Nat→Option Norm
 |[],_=>none
 |(i,n)::r,j=>bif Nat.beq i j then some n else findAdv r j
def fstR:Code→Option Nat
 | .region id _ _=>some id
 | .seq a _=>fstR a
 | .block _ c=>fstR c
 | .loop c=>fstR c
 | .cond _ a b=>match fstR a with|some i=>some i|none=>fstR b
 |_=>none
def advOf(E:Env)(c:Code):Option Norm:=(fstR c).bind (findAdv E.adv)
def peelB(E:Env)(c:Code):Bool:=match fstR c with|some r=>(getDyn E.dyn (1000000+r)).isSome|none=>false
def gate:Nat→Option R→Option R
 |0,_=>none
 |_+1,x=>x
def gateO(g:Option Nat)(x:Option R):Option R:=match g with|none=>x|some n=>gate n x
def normK(nm:Option Norm)(st:St)(K:St→Option R):Option R:=
 match nm with
 |none=>K st
 |some n=>(n.at st).bind fun st'=>gateO n.gt (K st')
inductive Ex where
 |normal
 |exit (id:Nat)
 |ret
def kSeq(nm:Option Norm)(f:St→(Ex→St→Option R)→Option R)(K:Ex→St→Option R):Ex→St→Option R
 | .normal,st=>normK nm st fun st'=>f st' K
 |e,st=>K e st
def kBlock(id:Nat)(K:Ex→St→Option R):Ex→St→Option R
 | .exit i,st=>bif Nat.beq i id then K .normal st else K (.exit i) st
 |e,st=>K e st
def loopN(nm:Option Norm)(f:St→(Ex→St→Option R)→Option R):Nat→St→(Ex→St→Option R)→Option R
 |0,_,_=>none
 |n+1,st,K=>f st (kSeq nm (fun st' K'=>loopN nm f n st' K') K)
def Op.isA:Op→Bool
 | .move _=>true
 | .assign _=>true
 | .pick .. =>true
 | .binOp .. =>true
 | .unOp .. =>true
 | .convert .. =>true
 | .load .. =>true
 | .fieldAddr .. =>true
 | .field .. =>true
 | .indexAddr .. =>true
 | .index .. =>true
 | .nilCheck _=>true
 | .slice .. =>true
 | .build .. =>true
 | .buildSlice .. =>true
 | .makeInterface .. =>true
 | .typeAssert .. =>true
 | .makeFunc .. =>true
 | .extract .. =>true
 | .call {callee:= .builtin .len, .. }=>true
 | .call {callee:= .builtin .cap, .. }=>true
 | .call {callee:= .builtin .min, .. }=>true
 | .call {callee:= .builtin .max, .. }=>true
 | .call {callee:= .value _, .. }=>true
 | .call {callee:= .invoke _ _, .. }=>true
 |_=>false
def aK(K:AV→Option R):AV→Option AB→Option R:=fun v ob=>match ob with|none=>K v|some _=>none
def bK(K:AV→Option R):AV→Option AB→Option R:=fun v ob=>
 match v,ob with
 | .own κ _,some (.arr _ κ' xs)=>bif decide (κ=κ')then K (.pv (.list κ') xs)else none
 |_,_=>none
def opA(E:Env)(op:Op)(e:Operand→AV)(H:List (Nat×AB))(K:AV→Option R)(dst:Nat):Option R:=
 match op with
 | .buildSlice t len parts=>opR E (.buildSlice t len parts) e H (bK K) dst
 |op=>opR E op e H (aK K) dst
def dstIs(o:Oper)(t:Nat):Bool:=match o.dst with|some d=>Nat.beq d t|none=>false
structure Tr where
 v:AV
 ks:List (Nat×AB)
 nf:List Nat
 fp:List Nat
mutual
def AV.names:AV→List Nat
 | .own _ h=>[h]
 | .sub _ h _ _=>[h]
 | .ref h _=>[h]
 | .aref _ h _=>[h]
 | .bsl h _=>[h]
 | .pa _ h _=>[h]
 | .agg cs=>namesL cs
 | .iface _ v=>v.names
 | .func _ cs=>namesL cs
 | .tuple cs=>namesL cs
 |_=>[]
def namesL:List AV→List Nat
 |[]=>[]
 |v::r=>v.names++namesL r
end
def AB.names:AB→List Nat
 | .box cs=>namesL cs
 |_=>[]
def closeN(H:List (Nat×AB)):Nat→List Nat→List Nat→List Nat
 |0,_,seen=>seen
 |_+1,[],seen=>seen
 |k+1,h::r,seen=>bif memN seen h then closeN H k r seen else closeN H k ((getH H h).names++r) (h::seen)
def fpOf(H:List (Nat×AB))(e:Operand→AV)(op:Op):List Nat:=
 match op with
 | .call {callee:= .value f,args:=args, .. }=>closeN H 300 (namesL (args.toList.map e)++(e f).names) []
 | .call {callee:= .invoke f _,args:=args, .. }=>closeN H 300 (namesL (args.toList.map e)++(e f).names) []
 | .load _ a=>(e a).names
 | .convert _ _ x=>(e x).names
 | .sliceToArrayPointer _ x=>(e x).names
 | .indexAddr _ x _=>(e x).names
 | .index _ x _=>(e x).names
 | .slice _ x _ _ _=>(e x).names
 | .buildSlice _ _ parts=>namesL (parts.toList.map fun p=>e p.2)
 | .store _ a x=>(e a).names++(e x).names
 | .call c=>namesL (c.args.toList.map e)
 |_=>[]
def nK(df:List AV)(d:Nat)(K:AV→List (Nat×AB)→List Nat→Option R):AV→Option AB→Option R:=fun v ob=>
 match ob with
 |some b=>bif okNew df d&& !b.ment d then K v [(d,b)] [d]else none
 |none=>none
def AV.frz1(H:List (Nat×AB)):AV→AV
 | .own _ h=>match getH H h with| .arr _ κ' xs=> .pv (.list κ') xs|_=> .dead
 | .sub κ h off len=>match getH H h with| .arr _ κ' xs=>bif decide (κ=κ')then .pv (.list κ') ((xs.drop off).take len)else .dead|_=> .dead
 |v=>v
def AV.frzV(H:List (Nat×AB)):AV→AV
 | .agg cs=> .agg (cs.map (AV.frz1 H))
 |v=>v.frz1 H
def partsF(e:Operand→AV)(parts:Array (Nat×Operand)):List AV:=parts.toList.flatMap fun p=>(e p.2).flat
def invM(E:Env)(args:Array Operand)(e:Operand→AV)(H:List (Nat×AB))(df:List AV)(d:Nat)(g:FuncId×AV)(K:AV→List (Nat×AB)→List Nat→Option R):Option R:=
 findC2 E.con2 g.1 H (g.2::args.toList.map e) (fun c x os ls=>bif ownOk os ls then(bif allSafe c.alts then some []else gonesOf ls H).bind fun gs=>callX true c x os df (100000+50*d) fun v ks nf=>K v (ks++gs) nf else none)
  (findCon E.cons g.1 H (g.2::args.toList.map e) fun c' x=>
   bif c'.rs.all Kd.plain||(g.2::args.toList.map e).all (fun v=> !v.handled)then(c'.fn x).bind fun y=>K (resV c'.rs y) [] []else none)
def opM(E:Env)(op:Op)(e:Operand→AV)(H:List (Nat×AB))(df:List AV)(d:Nat)(K:AV→List (Nat×AB)→List Nat→Option R):Option R:=
 match op with
 | .alloc t=>opR E (.alloc t) e H (nK df d K) d
 | .box t x=>opR E (.box t x) e H (nK df d K) d
 | .makeSlice t l c=>opR E (.makeSlice t l c) e H (nK df d K) d
 | .sliceToArrayPointer t x=>apX E t H df (e x) d K
 | .slice t x none (some hi) none=>bif memN E.cut d then cutX E t H df (e x) (e hi) d K else opA E (.slice t x none (some hi) none) e H (fun v=>K v [] []) d
 | .slice t x none none none=>(match e x with| .ref h off=>slX E t H df (.ref h off) K|_=>opA E (.slice t x none none none) e H (fun v=>K v [] []) d)
 | .buildSlice t len parts=>bif Nat.beq len 0|| !plainSl E t then opR E (.buildSlice t len parts) e H (nK df d K) d
  else(gonesOf (partsF e parts) H).bind fun gs=>opA E (.buildSlice t len parts) (fun x=>(e x).frzV H) (gs++H) (fun v=>K v gs []) d
 | .call {callee:= .value f,args:=args,argTypes:=ts}=>
  match e f with
  | .func g caps=>
   findC2 (E.c2at d) g H (args.toList.map e++caps) (fun c x os ls=>bif ownOk os ls then(bif allSafe c.alts then some []else gonesOf ls H).bind fun gs=>callX true c x os df (100000+50*d) fun v ks nf=>K v (ks++gs) nf else none)
    (opA E (.call {callee:= .value f,args:=args,argTypes:=ts}) e H (fun v=>K v [] []) d)
  |_=>none
 | .call {callee:= .invoke f nm,args:=args,argTypes:=ts}=>
  match e f with
  | .iface t u=>methK E t nm u fun g=>invM E args e H df d g K
  | .pv .any c=>dynK E c (fun t u=>methK E t nm u fun g=>invM E args e H df d g K) E.cands
  |_=>none
 | .call {callee:= .builtin .append,args:=args,argTypes:=ts}=>
  match args.toList,ts.toList with
  |[s,x],[t,t']=>bif sameSl E.P t t' then appX E t H df (e s) (e x) d K else appZ E t t' df (e s) (e x) d K
  |_,_=>none
 | .call {callee:= .builtin .copy,args:=args,argTypes:=ts}=>
  match args.toList,ts.toList with
  |[s,x],[t,_]=>cpX E t H (e s) (e x) K
  |_,_=>none
 | .store t a x=>stX E t (e a) (e x) H K
 |op=>opA E op e H (fun v=>K v [] []) d
def opMG(E:Env)(ops:Array Oper)(o:Oper)(st:St)(K:Tr→St→Option R):Option R:=
 match o.guard with
 |none=>(fun fp=>opM E o.op (opnd E.gl st.fr) (keepHp st.H fp) st.df (o.dst.getD 0) fun v ks nf=>K ⟨v,ks,nf,fp⟩ (putF ⟨st.fr,ks++st.H,st.df⟩ o.dst v)) (fpOf st.H (opnd E.gl st.fr) o.op)
 |some (j,want)=>
  match(ops[j]?).bind (·.dst)with
  |some d=>
   match getF st.fr d with
   | .pv .bool p=>
    cond p
     (cond want ((fun fp=>opM E o.op (opnd E.gl ((d, .pv .bool true)::st.fr)) (keepHp st.H fp) st.df (o.dst.getD 0) fun v ks nf=>K ⟨v,ks,nf,fp⟩ (putF ⟨(d, .pv .bool true)::st.fr,ks++st.H,st.df⟩ o.dst v)) (fpOf st.H (opnd E.gl ((d, .pv .bool true)::st.fr)) o.op))
      (K ⟨.tuple [],[],[],[]⟩ (putF ⟨(d, .pv .bool true)::st.fr,st.H,st.df⟩ o.dst (.tuple []))))
     (cond want (K ⟨.tuple [],[],[],[]⟩ (putF ⟨(d, .pv .bool false)::st.fr,st.H,st.df⟩ o.dst (.tuple [])))
      ((fun fp=>opM E o.op (opnd E.gl ((d, .pv .bool false)::st.fr)) (keepHp st.H fp) st.df (o.dst.getD 0) fun v ks nf=>K ⟨v,ks,nf,fp⟩ (putF ⟨(d, .pv .bool false)::st.fr,ks++st.H,st.df⟩ o.dst v)) (fpOf st.H (opnd E.gl ((d, .pv .bool false)::st.fr)) o.op)))
   | .tuple []=>K ⟨.tuple [],[],[],[]⟩ (putF st o.dst (.tuple []))
   |_=>none
  |none=>none
def opsM(E:Env)(ops:Array Oper):List Oper→St→(List Tr→St→Option R)→Option R
 |[],st,K=>K [] st
 |o::r,st,K=>opMG E ops o st fun t st'=>opsM E ops r st' fun ts st''=>K (t::ts) st''
def Op.isM:Op→Bool
 | .alloc _=>true
 | .box _ _=>true
 | .makeSlice .. =>true
 | .call {callee:= .builtin .append, .. }=>true
 | .call {callee:= .builtin .copy, .. }=>true
 | .store _ _ _=>true
 | .sliceToArrayPointer .. =>true
 |op=>Op.isA op
def headM:List Oper→Nat
 |[]=>0
 |o::r=>bif Op.isM o.op then headM r+1 else 0
def keysT(t:Tr):List Nat:=t.ks.map Prod.fst
def meets:List Nat→List Nat→Bool
 |[],_=>false
 |n::r,l=>memN l n||meets r l
def trNo(nf:List Nat)(t:Tr):Bool:=nf.all fun n=> !t.v.ment n&&t.ks.all fun e=> !e.2.ment n
def maskOf(acc:List Nat):List Edge→Nat
 |[]=>0
 |e::r=>bif Region.binds .any e then Nat.lor (Nat.lor (2^e.on) (acc.getD e.on 0)) (maskOf acc r)else maskOf acc r
def ancs:List Oper→List Nat→List Nat
 |[],acc=>acc
 |o::r,acc=>ancs r (acc++[maskOf acc o.after.toList])
def isAnc(m i:Nat):Bool:=Nat.testBit m i
def looksB(ops:Array Oper)(o:Oper)(t:Option Nat):Bool:=match t with|some d=>(o.looksAt ops).any fun s=>Nat.beq s d|none=>false
def pairM(ops:Array Oper)(oi oj:Oper)(ti tj:Tr)(i mj:Nat):Bool:=
 (match oi.dst with|some d=> !dstIs oj d|none=>true)&&trNo tj.nf ti&&
 (isAnc mj i||(!looksB ops oj oi.dst&& !looksB ops oi oj.dst&& !meets (keysT ti) (tj.fp++keysT tj)&& !meets (keysT tj) ti.fp&&trNo ti.nf tj))
def colM(ops:Array Oper)(oj:Oper)(tj:Tr)(mj:Nat):Nat→List Oper→List Tr→Bool
 |i,oi::os,ti::ts=>pairM ops oi oj ti tj i mj&&colM ops oj tj mj (i+1) os ts
 |_,_,_=>true
def rowsM(ops:Array Oper)(hd:List Oper)(tr:List Tr):Nat→List Oper→List Tr→List Nat→Bool
 |j,oj::os,tj::ts,mj::ms=>colM ops oj tj mj 0 (hd.take j) (tr.take j)&&tj.nf.all (memN (keysT tj))&&oj.after.toList.all (fun e=> !Region.binds .any e||Nat.blt e.on j)&&rowsM ops hd tr (j+1) os ts ms
 |_,[],[],[]=>true
 |_,_,_,_=>false
def stNo(st:St)(nf:List Nat):Bool:=nf.all fun n=>st.fr.all (fun p=> !p.2.ment n)&&st.H.all fun p=> !p.2.ment n
def condM(ops:Array Oper)(hd:List Oper)(tr:List Tr)(st:St):Bool:=
 rowsM ops hd tr 0 hd tr (ancs hd [])&&tr.all fun t=>stNo st t.nf
def drawM(ops:Array Oper)(n:Nat):Bool:=
 Region.noSelect ops&&(bif Nat.beq n ops.size then true else Region.sinkB .any ops n&&Region.chainB .any ops n)&&
 Region.seqB .any ops (ops.size-n) n ((List.replicate n true++List.replicate (ops.size-n) false).toArray)
def dstB(nt:Nat)(o:Oper):Bool:=match o.dst with|some d=>Nat.blt d nt|none=>true
def codeB(nt:Nat):Code→Bool
 | .region _ ops _=>ops.toList.all (dstB nt)
 | .seq a b=>codeB nt a&&codeB nt b
 | .cond _ a b=>codeB nt a&&codeB nt b
 | .block _ c=>codeB nt c
 | .loop c=>codeB nt c
 |_=>true
def evC(E:Env):Code→St→(Ex→St→Option R)→Option R
 | .skip,st,K=>K .normal st
 | .region _ ops draw,st,K=>
  bif draw then(bif E.P.follows .mixedOrders&&drawM ops (headM ops.toList)then
   opsM E ops (ops.toList.take (headM ops.toList)) st fun tr st'=>bif condM ops (ops.toList.take (headM ops.toList)) tr st then opsG E ops (ops.toList.drop (headM ops.toList)) st' fun st''=>K .normal st'' else none
   else none)
  else opsG E ops ops.toList st fun st'=>K .normal st'
 | .seq a b,st,K=>evC E a st (kSeq (advOf E b) (evC E b) K)
 | .cond c a b,st,K=>
  match opnd E.gl st.fr c with
  | .pv .bool p=>cond p (evC E a st K) (evC E b st K)
  |_=>none
 | .block id c,st,K=>evC E c st (kBlock id K)
 | .loop c,st,K=>bif peelB E c then loopN (advOf E c) (evC E c) (E.n+1) st K else normK (advOf E c) st fun st'=>loopN (advOf E c) (evC E c) E.n st' K
 | .exit id,st,K=>K (.exit id) st
 | .ret,st,K=>K .ret st
 |_,_,_=>none
def frArgs:Nat→(ps:List Par)→HL ps→List (Nat×AV)
 |_,[],_=>[]
 |i, .k κ::r,x=>(i, .pv κ x.1)::frArgs (i+1) r x.2
 |i, .fn f::r,x=>(i, .func f [])::frArgs (i+1) r x
 |i, .ifc t κ::r,x=>(i, .iface t (.pv κ x.1))::frArgs (i+1) r x.2
def resAV(P:Program)(st:St):List ResultVar→Option (List AV)
 |[]=>some []
 | .tmp t::r=>(resAV P st r).bind fun vs=>some (getF st.fr t::vs)
 | .cell a t::r=>
  match getF st.fr a with
  | .ref h off=>
   match getH st.H h with
   | .box cs=>bif aggIs P t true then sizeK P t fun s=>bif Nat.ble (off+s) cs.length&&aliveL ((cs.drop off).take s)then(resAV P st r).bind fun vs=>some (.agg ((cs.drop off).take s)::vs)else none
    else bif aggIs P t false then(match cs[off]? with|some v=>(resAV P st r).bind fun vs=>some (v::vs)|none=>none)else none
   |_=>none
  |_=>none
def resD(H:List (Nat×AB)):(rs:List Kd)→List AV→Option (HR rs)
 |[],[]=>some ()
 |[κ],[v]=>argD H κ v
 |κ::κ'::r,v::vs=>(argD H κ v).bind fun x=>(resD H (κ'::r) vs).bind fun y=>some (x,y)
 |_,_=>none
def idleDf(idle:List FuncId):List AV→Bool
 |[]=>true
 | .func g caps::r=>(idle.any fun f=>Nat.beq f g)&&aliveL caps&&idleDf idle r
 |_=>false
def kEnd(E:Env)(idle:List FuncId)(rv:List ResultVar)(rs:List Kd):Ex→St→Option (HR rs)
 | .exit _,_=>none
 |_,st=>bif idleDf idle st.df then(resAV E.P st rv).bind fun vs=>resD st.H rs vs else none
def evF(E:Env)(idle:List FuncId)(fn:Func)(ps:List Par)(rs:List Kd)(x:HL ps):Option (HR rs):=
 match fn.body with
 |some c=>bif codeB fn.ntmps c&&Nat.ble ps.length fn.ntmps then normK (advOf E c) ⟨frArgs 0 ps x,[],[]⟩ fun st=>evC E c st (kEnd E idle fn.results.toList rs)else none
 |none=>none
def matchAlt(H:List (Nat×AB))(a:Alt)(vs as:List AV):Option (ShDs a.all):=
 (matchShs H a.all (vs++keepV a.fins as)).bind fun p=>bif ownOk p.2.1 p.2.2&&Nat.beq vs.length a.ress.length then some p.1 else none
def altTry(H:List (Nat×AB))(vs as:List AV):(alts:List Alt)→Option (AltD alts)
 |[]=>none
 |[a]=>matchAlt H a vs as
 |a::b::r=>match matchAlt H a vs as with|some d=>some (.inl d)|none=>(altTry H vs as (b::r)).bind fun y=>some (.inr y)
def frL:Nat→List AV→List (Nat×AV)
 |_,[]=>[]
 |i,v::r=>(i,v)::frL (i+1) r
def kEnd2(E:Env)(idle:List FuncId)(rv:List ResultVar)(alts:List Alt)(as:List AV):Ex→St→Option (AltD alts)
 | .exit _,_=>none
 |_,st=>bif idleDf idle st.df then(resAV E.P st rv).bind fun vs=>altTry st.H vs as alts else none
def maskA:List Sh→List AV→List AV
 |i::ins,v::vs=>(bif Nat.beq i.cnt 0 then .dead else v)::maskA ins vs
 |_,_=>[]
def evF2(E:Env)(idle:List FuncId)(fn:Func)(ins:List Sh)(alts:List Alt)(x:ShDs ins):Option (AltD alts):=
 match fn.body with
 |some c=>bif codeB fn.ntmps c&&Nat.ble ins.length fn.ntmps&&noParL ins then
  (fun(r:List AV×List (Nat×AB)×List Nat)=>normK (advOf E c) ⟨frL 0 r.1,r.2.1,[]⟩ fun st=>evC E c st (kEnd2 E idle fn.results.toList alts (maskA ins r.1)))
   (renderShs (fun _=>0) ins x (nameL 1000000 (cnts ins)))else none
 |none=>none
end
end Go.Av
namespace Go.Av
open Go Go.RowKit
def Lie(w:World)(es:List Value)(b off:Nat):Prop:=∀j u,es[j]?=some u→w.cell? ⟨b,off+j,none⟩=some u
def RLf{α:Type}(Fz:Nat→Prop)(w:World)(E:α→List Value→Prop)(sz:Nat)(xs:List α)(v:Value):Prop:=
 ∃a c,v= .slice a xs.length c∧xs.length≤c∧(xs=[]∨∃b off,a=some ⟨b,off,none⟩∧Fz b∧∀i x,xs[i]?=some x→∃es,E x es∧es.length=sz∧Lie w es b (off+i*sz))
mutual
def RG(Fz:Nat→Prop)(w:World):Geo→List Value→Prop
 | .mk kd ly sr flat ends endss kids,cs=>∃v3 v4 v5 a c,cs=[.int .i64 kd, .int .i64 ly, .int .i64 sr,v3,v4,v5, .slice a kids.length c]∧
  RLf Fz w (fun(b:Nat) es=>es=[.float .f64 b]) 1 flat v3∧RLf Fz w (fun(n:Int) es=>es=[.int .i64 n]) 1 ends v4∧
  RLf Fz w (fun(l:List Int) es=>∃v,es=[v]∧RLf Fz w (fun(n:Int) es=>es=[.int .i64 n]) 1 l v) 1 endss v5∧
  kids.length≤c∧(kids=[]∨∃b off,a=some ⟨b,off,none⟩∧Fz b∧RGs Fz w kids b off)
def RGs(Fz:Nat→Prop)(w:World):List Geo→Nat→Nat→Prop
 |[],_,_=>True
 |g::r,b,off=>(∃es,RG Fz w g es∧es.length=7∧Lie w es b off)∧RGs Fz w r b (off+7)
end
mutual
def RC(Fz:Nat→Prop)(w:World):Ce→Value→Prop
 | .int k n,v=>v= .int k n
 | .flt b,v=>v= .float .f64 b
 | .boo b,v=>v= .bool b
 | .str s,v=>v= .string s
 | .fl xs,v=>RLf Fz w (fun(b:Nat) es=>es=[.float .f64 b]) 1 xs v
 | .il xs,v=>RLf Fz w (fun(n:Int) es=>es=[.int .i64 n]) 1 xs v
 | .ill xs,v=>RLf Fz w (fun(l:List Int) es=>∃v,es=[v]∧RLf Fz w (fun(n:Int) es=>es=[.int .i64 n]) 1 l v) 1 xs v
 | .nl,v=>v= .slice none 0 0
 | .sl xs,v=>∃a c,v= .slice a xs.length c∧xs.length≤c∧(xs=[]∨∃b off,a=some ⟨b,off,none⟩∧Fz b∧RCs Fz w xs b off)
 | .nilp,v=>v= .pointer none
 | .ptr cs,v=>∃b off,v= .pointer (some ⟨b,off,none⟩)∧Fz b∧RCs Fz w cs b off
 | .nili,v=>v= .nilIface
 | .ifc t c,v=>∃u,v= .iface t u∧RC Fz w c u
 | .ifa t cs,v=>∃us:Array Value,v= .iface t (.agg us)∧RCv Fz w cs us.toList
def RCs(Fz:Nat→Prop)(w:World):List Ce→Nat→Nat→Prop
 |[],_,_=>True
 |c::r,b,off=>(∃u,RC Fz w c u∧w.cell? ⟨b,off,none⟩=some u)∧RCs Fz w r b (off+1)
def RCv(Fz:Nat→Prop)(w:World):List Ce→List Value→Prop
 |[],us=>us=[]
 |c::r,us=>∃u q,us=u::q∧RC Fz w c u∧RCv Fz w r q
end
def RP(Fz:Nat→Prop)(w:World):(κ:Kd)→Den κ→List Value→Prop
 | .int k,n,cs=>cs=[.int k n]
 | .float,b,cs=>cs=[.float .f64 b]
 | .bool,b,cs=>cs=[.bool b]
 | .str,s,cs=>cs=[.string s]
 | .list e,xs,cs=>∃v,cs=[v]∧RLf Fz w (RP Fz w e) e.size xs v
 | .unit,_,cs=>cs=[]
 | .pair a b,x,cs=>∃c1 c2,cs=c1++c2∧RP Fz w a x.1 c1∧RP Fz w b x.2 c2
 | .geo,g,cs=>RG Fz w g cs
 | .any,c,cs=>∃v,cs=[v]∧RC Fz w c v
 | .nl e,o,cs=>∃v,cs=[v]∧((o=none∧v= .slice none 0 0)∨∃xs,o=some xs∧RLf Fz w (RP Fz w e) e.size xs v∧∃a l c,v= .slice (some a) l c)
theorem Lie.mono{w w':World}{es:List Value}{b off:Nat}(h:Lie w es b off)(hb:w'.heap[b]?=w.heap[b]?):Lie w' es b off:=by
 intro j u hj
 have:=h j u hj
 unfold World.cell? at this⊢
 rw[hb];exact this
theorem RLf.mono{α:Type}{Fz Fz':Nat→Prop}{w w':World}{E E':α→List Value→Prop}{sz:Nat}{xs:List α}{v:Value}
 (hw:∀b,Fz b→w'.heap[b]?=w.heap[b]?) (hf:∀b,Fz b→Fz' b) (hE:∀x∈xs,∀es,E x es→E' x es) (h:RLf Fz w E sz xs v):RLf Fz' w' E' sz xs v:=by
 obtain⟨a,c,e,hl,h⟩:=h
 refine⟨a,c,e,hl, ?_⟩
 rcases h with h|⟨b,off,ha,hb,h⟩
 ·exact .inl h
 ·refine .inr ⟨b,off,ha,hf _ hb,fun i x hx=> ?_⟩
  obtain⟨es,h1,h2,h3⟩:=h i x hx
  exact⟨es,hE x (List.mem_of_getElem? hx) _ h1,h2,h3.mono (hw _ hb)⟩
mutual
theorem RG_mono{Fz Fz':Nat→Prop}{w w':World}(hw:∀b,Fz b→w'.heap[b]?=w.heap[b]?)(hf:∀b,Fz b→Fz' b):
 ∀(g:Geo) (cs:List Value),RG Fz w g cs→RG Fz' w' g cs
 | .mk kd ly sr flat ends endss kids,cs,h=>by
  simp only[RG]at h⊢
  obtain⟨v3,v4,v5,a,c,e,h3,h4,h5,hl,h6⟩:=h
  refine⟨v3,v4,v5,a,c,e,h3.mono hw hf (fun _ _ _ h=>h),h4.mono hw hf (fun _ _ _ h=>h),h5.mono hw hf ?_,hl, ?_⟩
  ·rintro x _ es ⟨v,e,h⟩
   exact⟨v,e,h.mono hw hf (fun _ _ _ h=>h)⟩
  ·rcases h6 with h6|⟨b,off,ha,hb,h6⟩
   ·exact .inl h6
   ·exact .inr ⟨b,off,ha,hf _ hb,RGs_mono hw hf kids b off (hw _ hb) h6⟩
theorem RGs_mono{Fz Fz':Nat→Prop}{w w':World}(hw:∀b,Fz b→w'.heap[b]?=w.heap[b]?)(hf:∀b,Fz b→Fz' b):
 ∀(l:List Geo) (b off:Nat),w'.heap[b]?=w.heap[b]?→RGs Fz w l b off→RGs Fz' w' l b off
 |[],_,_,_,_=>by simp only[RGs]
 |g::r,b,off,hb,h=>by
  simp only[RGs]at h⊢
  obtain⟨⟨es,h1,h2,h3⟩,h4⟩:=h
  exact⟨⟨es,RG_mono hw hf g es h1,h2,h3.mono hb⟩,RGs_mono hw hf r b (off+7) hb h4⟩
end
theorem RGs_at{Fz:Nat→Prop}{w:World}:∀(l:List Geo) (b off i:Nat) (x:Geo),RGs Fz w l b off→l[i]?=some x→∃es,RG Fz w x es∧es.length=7∧Lie w es b (off+i*7)
 |[],_,_,_,_,_,h=>by simp at h
 |g::r,b,off,0,x,h,hx=>by
  simp only[RGs]at h
  simp only[List.getElem?_cons_zero,Option.some.injEq]at hx
  subst hx
  simpa using h.1
 |g::r,b,off,i+1,x,h,hx=>by
  simp only[RGs]at h
  have:=RGs_at r b (off+7) i x h.2 (by simpa using hx)
  rwa[show off+7+i*7=off+(i+1)*7 by omega]at this
theorem RGs_of{Fz:Nat→Prop}{w:World}:∀(l:List Geo) (b off:Nat),(∀i x,l[i]?=some x→∃es,RG Fz w x es∧es.length=7∧Lie w es b (off+i*7))→RGs Fz w l b off
 |[],_,_,_=>by simp only[RGs]
 |g::r,b,off,h=>by
  simp only[RGs]
  refine⟨by simpa using h 0 g (by simp),RGs_of r b (off+7) fun i x hx=> ?_⟩
  have:=h (i+1) x (by simpa using hx)
  rwa[show off+(i+1)*7=off+7+i*7 by omega]at this
mutual
theorem RC_mono{Fz Fz':Nat→Prop}{w w':World}(hw:∀b,Fz b→w'.heap[b]?=w.heap[b]?)(hf:∀b,Fz b→Fz' b):
 ∀(c:Ce) (v:Value),RC Fz w c v→RC Fz' w' c v
 | .int _ _,_,h=>by simpa only[RC]using h
 | .flt _,_,h=>by simpa only[RC]using h
 | .boo _,_,h=>by simpa only[RC]using h
 | .str _,_,h=>by simpa only[RC]using h
 | .fl _,_,h=>by simp only[RC]at h⊢;exact h.mono hw hf (fun _ _ _ h=>h)
 | .il _,_,h=>by simp only[RC]at h⊢;exact h.mono hw hf (fun _ _ _ h=>h)
 | .ill _,_,h=>by
  simp only[RC]at h⊢
  refine h.mono hw hf ?_
  rintro x _ es ⟨v,e,h⟩
  exact⟨v,e,h.mono hw hf (fun _ _ _ h=>h)⟩
 | .nl,_,h=>by simpa only[RC]using h
 | .sl xs,_,h=>by
  simp only[RC]at h⊢
  obtain⟨a,c,e,hl,h6⟩:=h
  refine⟨a,c,e,hl, ?_⟩
  rcases h6 with h6|⟨b,off,ha,hb,h6⟩
  ·exact .inl h6
  ·exact .inr ⟨b,off,ha,hf _ hb,RCs_mono hw hf xs b off (hw _ hb) h6⟩
 | .nilp,_,h=>by simpa only[RC]using h
 | .ptr cs,_,h=>by
  simp only[RC]at h⊢
  obtain⟨b,off,e,hb,h6⟩:=h
  exact⟨b,off,e,hf _ hb,RCs_mono hw hf cs b off (hw _ hb) h6⟩
 | .nili,_,h=>by simpa only[RC]using h
 | .ifc t c,_,h=>by
  simp only[RC]at h⊢
  obtain⟨u,e,h⟩:=h
  exact⟨u,e,RC_mono hw hf c u h⟩
 | .ifa t cs,_,h=>by
  simp only[RC]at h⊢
  obtain⟨u,e,h⟩:=h
  exact⟨u,e,RCv_mono hw hf cs _ h⟩
theorem RCs_mono{Fz Fz':Nat→Prop}{w w':World}(hw:∀b,Fz b→w'.heap[b]?=w.heap[b]?)(hf:∀b,Fz b→Fz' b):
 ∀(l:List Ce) (b off:Nat),w'.heap[b]?=w.heap[b]?→RCs Fz w l b off→RCs Fz' w' l b off
 |[],_,_,_,_=>by simp only[RCs]
 |c::r,b,off,hb,h=>by
  simp only[RCs]at h⊢
  obtain⟨⟨u,h1,h2⟩,h4⟩:=h
  exact⟨⟨u,RC_mono hw hf c u h1,by unfold World.cell? at h2⊢;rw[hb];exact h2⟩,RCs_mono hw hf r b (off+1) hb h4⟩
theorem RCv_mono{Fz Fz':Nat→Prop}{w w':World}(hw:∀b,Fz b→w'.heap[b]?=w.heap[b]?)(hf:∀b,Fz b→Fz' b):
 ∀(l:List Ce) (us:List Value),RCv Fz w l us→RCv Fz' w' l us
 |[],_,h=>by simpa only[RCv]using h
 |c::r,us,h=>by
  simp only[RCv]at h⊢
  obtain⟨u,q,e,h1,h2⟩:=h
  exact⟨u,q,e,RC_mono hw hf c u h1,RCv_mono hw hf r q h2⟩
end
theorem RCs_at{Fz:Nat→Prop}{w:World}:∀(l:List Ce) (b off i:Nat) (x:Ce),RCs Fz w l b off→l[i]?=some x→∃u,RC Fz w x u∧w.cell? ⟨b,off+i,none⟩=some u
 |[],_,_,_,_,_,h=>by simp at h
 |c::r,b,off,0,x,h,hx=>by
  simp only[RCs]at h
  simp only[List.getElem?_cons_zero,Option.some.injEq]at hx
  subst hx
  exact h.1
 |c::r,b,off,i+1,x,h,hx=>by
  simp only[RCs]at h
  have:=RCs_at r b (off+1) i x h.2 (by simpa using hx)
  rwa[show off+1+i=off+(i+1)by omega]at this
theorem RCs_of{Fz:Nat→Prop}{w:World}:∀(l:List Ce) (b off:Nat),(∀i x,l[i]?=some x→∃u,RC Fz w x u∧w.cell? ⟨b,off+i,none⟩=some u)→RCs Fz w l b off
 |[],_,_,_=>by simp only[RCs]
 |g::r,b,off,h=>by
  simp only[RCs]
  refine⟨by simpa using h 0 g (by simp),RCs_of r b (off+1) fun i x hx=> ?_⟩
  have:=h (i+1) x (by simpa using hx)
  rwa[show off+(i+1)=off+1+i by omega]at this
theorem RC_one{Fz:Nat→Prop}{w:World}{c:Ce}{v:Value}(h:RC Fz w c v):v.oneCell'=true:=by
 cases c<;>simp only[RC]at h
 case fl=>obtain⟨_,_,rfl,_⟩:=h;rfl
 case il=>obtain⟨_,_,rfl,_⟩:=h;rfl
 case ill=>obtain⟨_,_,rfl,_⟩:=h;rfl
 case sl=>obtain⟨_,_,rfl,_⟩:=h;rfl
 case ptr=>obtain⟨_,_,rfl,_⟩:=h;rfl
 case ifc=>obtain⟨_,rfl,_⟩:=h;rfl
 case ifa=>obtain⟨_,rfl,_⟩:=h;rfl
 all_goals(subst h;rfl)
theorem RP_mono{Fz Fz':Nat→Prop}{w w':World}(hw:∀b,Fz b→w'.heap[b]?=w.heap[b]?)(hf:∀b,Fz b→Fz' b):
 ∀(κ:Kd) (x:Den κ) (cs:List Value),RP Fz w κ x cs→RP Fz' w' κ x cs
 | .int _,_,_,h=>h
 | .float,_,_,h=>h
 | .bool,_,_,h=>h
 | .str,_,_,h=>h
 | .list e,xs,cs,⟨v,hc,h⟩=>⟨v,hc,h.mono hw hf fun x _ es h=>RP_mono hw hf e x es h⟩
 | .unit,_,_,h=>h
 | .pair a b,x,cs,⟨c1,c2,hc,h1,h2⟩=>⟨c1,c2,hc,RP_mono hw hf a x.1 c1 h1,RP_mono hw hf b x.2 c2 h2⟩
 | .geo,g,cs,h=>RG_mono hw hf g cs h
 | .any,c,cs,⟨v,hc,h⟩=>⟨v,hc,RC_mono hw hf c v h⟩
 | .nl e,o,cs,⟨v,hc,h⟩=>⟨v,hc,h.imp id fun⟨xs,h1,h2,h3⟩=>⟨xs,h1,h2.mono hw hf fun x _ es h=>RP_mono hw hf e x es h,h3⟩⟩
theorem RP_plain{Fz Fz':Nat→Prop}{w w':World}:∀(κ:Kd) (x:Den κ) (cs:List Value),κ.plain=true→RP Fz w κ x cs→RP Fz' w' κ x cs
 | .int _,_,_,_,h=>h
 | .float,_,_,_,h=>h
 | .bool,_,_,_,h=>h
 | .str,_,_,_,h=>h
 | .list _,_,_,hp,_=>by simp[Kd.plain]at hp
 | .unit,_,_,_,h=>h
 | .pair a b,x,cs,hp,⟨c1,c2,hc,h1,h2⟩=>by
  simp only[Kd.plain,Bool.and_eq_true]at hp
  exact⟨c1,c2,hc,RP_plain a x.1 c1 hp.1 h1,RP_plain b x.2 c2 hp.2 h2⟩
 | .geo,_,_,hp,_=>by simp[Kd.plain]at hp
 | .any,_,_,hp,_=>by simp[Kd.plain]at hp
 | .nl _,_,_,hp,_=>by simp[Kd.plain]at hp
theorem RG_len{Fz:Nat→Prop}{w:World}{g:Geo}{cs:List Value}(h:RG Fz w g cs):cs.length=7:=by
 cases g;simp only[RG]at h
 obtain⟨_,_,_,_,_,rfl,_⟩:=h
 rfl
theorem RP_len{Fz:Nat→Prop}{w:World}:∀(κ:Kd) (x:Den κ) (cs:List Value),RP Fz w κ x cs→cs.length=κ.size
 | .int _,_,_,h=>by rw[h];rfl
 | .float,_,_,h=>by rw[h];rfl
 | .bool,_,_,h=>by rw[h];rfl
 | .str,_,_,h=>by rw[h];rfl
 | .list e,xs,cs,⟨v,hc,_⟩=>by rw[hc];rfl
 | .unit,_,_,h=>by rw[h];rfl
 | .pair a b,x,cs,⟨c1,c2,hc,h1,h2⟩=>by rw[hc,List.length_append,RP_len a _ _ h1,RP_len b _ _ h2];rfl
 | .geo,g,cs,h=>RG_len h
 | .any,c,cs,⟨v,hc,_⟩=>by rw[hc];rfl
 | .nl e,o,cs,⟨v,hc,_⟩=>by rw[hc];rfl
theorem RLf_one{α:Type}{Fz:Nat→Prop}{w:World}{E:α→List Value→Prop}{sz:Nat}{xs:List α}{v:Value}(h:RLf Fz w E sz xs v):v.oneCell'=true:=by
 obtain⟨_,_,rfl,_⟩:=h;rfl
theorem RG_one{Fz:Nat→Prop}{w:World}{g:Geo}{cs:List Value}(h:RG Fz w g cs):∀u∈cs,u.oneCell'=true:=by
 cases g;simp only[RG]at h
 obtain⟨_,_,_,_,_,rfl,h3,h4,h5,_⟩:=h
 intro u hu
 simp only[List.mem_cons,List.not_mem_nil,or_false]at hu
 rcases hu with rfl|rfl|rfl|rfl|rfl|rfl|rfl
 ·rfl
 ·rfl
 ·rfl
 ·exact RLf_one h3
 ·exact RLf_one h4
 ·exact RLf_one h5
 ·rfl
theorem RP_one{Fz:Nat→Prop}{w:World}:∀(κ:Kd) (x:Den κ) (cs:List Value),RP Fz w κ x cs→∀u∈cs,u.oneCell'=true
 | .int _,_,_,h=>by rw[h];intro u hu;rw[List.mem_singleton.1 hu];rfl
 | .float,_,_,h=>by rw[h];intro u hu;rw[List.mem_singleton.1 hu];rfl
 | .bool,_,_,h=>by rw[h];intro u hu;rw[List.mem_singleton.1 hu];rfl
 | .str,_,_,h=>by rw[h];intro u hu;rw[List.mem_singleton.1 hu];rfl
 | .list e,xs,cs,⟨v,hc,h⟩=>by rw[hc];intro u hu;rw[List.mem_singleton.1 hu];exact RLf_one h
 | .unit,_,_,h=>by rw[h];intro u hu;simp at hu
 | .pair a b,x,cs,⟨c1,c2,hc,h1,h2⟩=>by
  rw[hc];intro u hu
  rcases List.mem_append.1 hu with hu|hu
  ·exact RP_one a _ _ h1 u hu
  ·exact RP_one b _ _ h2 u hu
 | .geo,g,cs,h=>RG_one h
 | .any,c,cs,⟨v,hc,h⟩=>by rw[hc];intro u hu;rw[List.mem_singleton.1 hu];exact RC_one h
 | .nl e,o,cs,⟨v,hc,h⟩=>by
  rw[hc];intro u hu;rw[List.mem_singleton.1 hu]
  rcases h with⟨_,rfl⟩|⟨xs,_,h,_⟩
  ·rfl
  ·exact RLf_one h
structure HI where
 blk:Nat
 cap:Nat
 len:Nat
 virt:Bool
def NanB(n:Nat):Prop:=∀m,Ieee.double.order m n=none∧Ieee.double.order n m=none
mutual
def RV(ι:Nat→HI)(Fz:Nat→Prop)(w:World):AV→Value→Prop
 | .pv κ x,v=>if κ.isAgg then∃vs:Array Value,v= .agg vs∧RP Fz w κ x vs.toList else RP Fz w κ x [v]
 | .nils,v=>v= .slice none 0 0
 | .agg cs,v=>∃vs:List Value,v= .agg vs.toArray∧(∀u∈vs,u.oneCell'=true)∧RVs ι Fz w cs vs
 | .own _ h,v=>((ι h).virt=true∧v= .slice none 0 0)∨((ι h).virt=false∧v= .slice (some ⟨(ι h).blk,0,none⟩) (ι h).len (ι h).cap)
 | .sub κ h off len,v=>off+len≤(ι h).len∧((len=0∧∃a c,v= .slice a 0 c∧(off=0→(ι h).virt=false→a=some ⟨(ι h).blk,0,none⟩∧c=(ι h).cap))∨((ι h).virt=false∧∃c,v= .slice (some ⟨(ι h).blk,off*κ.size,none⟩) len c∧len≤c∧off+c=(ι h).cap))
 | .ref h off,v=>(ι h).virt=false∧v= .pointer (some ⟨(ι h).blk,off,none⟩)
 | .eref κ x,v=>∃b off es,v= .pointer (some ⟨b,off,none⟩)∧Fz b∧RP Fz w κ x es∧Lie w es b off
 | .aref κ h idx,v=>(ι h).virt=false∧idx<(ι h).len∧v= .pointer (some ⟨(ι h).blk,idx*κ.size,none⟩)
 | .nilp,v=>v= .pointer none
 | .gi t g,v=>v= .pointer (some ⟨g,0,none⟩)∧Fz g∧∃a,Lie w [.iface t (.pointer (some a))] g 0
 | .mf t nm,v=>∃u c,v= .func (.method nm) #[.iface t u] c
 | .mfa c nm,v=>∃u k,RC Fz w c u∧v= .func (.method nm) #[u] k
 | .ep g,v=>∃t a,v= .pointer (some a)∧Fz g∧Lie w [.iface t (.pointer (some a))] g 0
 | .niliface,v=>v= .nilIface
 | .iface t x,v=>∃u,v= .iface t u∧RV ι Fz w x u
 | .func f caps,v=>∃vs:List Value,v= .func (.func f) #[] vs.toArray∧RVs ι Fz w caps vs
 | .nilf,v=>v= .nilFunc
 | .nanv,v=>∃n,v= .float .f64 n∧NanB n
 | .bsl h n,v=>(ι h).virt=false∧v= .slice (some ⟨(ι h).blk,0,none⟩) n n
 | .pa κ h n,v=>(ι h).virt=false∧(ι h).len=n∧(ι h).cap=n∧v= .pointer (some ⟨(ι h).blk,0,none⟩)
 | .capd κ xs,v=>RLf Fz w (RP Fz w κ) κ.size xs v∧∃a,v= .slice a xs.length xs.length
 | .tuple cs,v=>∃vs:List Value,v= .tuple vs.toArray∧RVs ι Fz w cs vs
 | .dead,_=>True
def RVs(ι:Nat→HI)(Fz:Nat→Prop)(w:World):List AV→List Value→Prop
 |[],vs=>vs=[]
 |c::cs,vs=>∃v r,vs=v::r∧RV ι Fz w c v∧RVs ι Fz w cs r
end
mutual
theorem RV_mono{ι ι':Nat→HI}{Fz Fz':Nat→Prop}{w w':World}(hw:∀b,Fz b→w'.heap[b]?=w.heap[b]?)(hf:∀b,Fz b→Fz' b):
 ∀(a:AV) (v:Value),(∀h,a.ment h=true→ι' h=ι h)→RV ι Fz w a v→RV ι' Fz' w' a v
 | .pv κ x,v,_,h=>by
  simp only[RV]at h⊢
  split
  ·rename_i hk
   simp only[hk,if_true]at h
   obtain⟨vs,e,h⟩:=h
   exact⟨vs,e,RP_mono hw hf _ _ _ h⟩
  ·rename_i hk
   simp only[hk]at h
   exact RP_mono hw hf _ _ _ h
 | .nils,v,_,h=>by simpa only[RV]using h
 | .agg cs,v,hm,h=>by
  simp only[RV]at h⊢
  obtain⟨vs,e,h1,h2⟩:=h
  exact⟨vs,e,h1,RVs_mono hw hf cs vs (fun h hh=>hm h (by simpa[AV.ment]using hh)) h2⟩
 | .own κ g,v,hm,h=>by simp only[RV]at h⊢;rw[hm g (by simp[AV.ment])];exact h
 | .sub κ g _ _,v,hm,h=>by simp only[RV]at h⊢;rw[hm g (by simp[AV.ment])];exact h
 | .ref g _,v,hm,h=>by simp only[RV]at h⊢;rw[hm g (by simp[AV.ment])];exact h
 | .eref κ x,v,_,h=>by
  simp only[RV]at h⊢
  obtain⟨b,off,es,e,hb,h1,h2⟩:=h
  exact⟨b,off,es,e,hf _ hb,RP_mono hw hf _ _ _ h1,h2.mono (hw _ hb)⟩
 | .aref κ g _,v,hm,h=>by simp only[RV]at h⊢;rw[hm g (by simp[AV.ment])];exact h
 | .nilp,v,_,h=>by simpa only[RV]using h
 | .gi t g,v,_,h=>by
  simp only[RV]at h⊢
  obtain⟨e,hb,a,hl⟩:=h
  exact⟨e,hf _ hb,a,hl.mono (hw _ hb)⟩
 | .mf t nm,v,_,h=>by simpa only[RV]using h
 | .mfa c nm,v,_,h=>by
  simp only[RV]at h⊢
  obtain⟨u,k,h1,h2⟩:=h
  exact⟨u,k,RC_mono hw hf c u h1,h2⟩
 | .ep g,v,_,h=>by
  simp only[RV]at h⊢
  obtain⟨t,a,e,hb,hl⟩:=h
  exact⟨t,a,e,hf _ hb,hl.mono (hw _ hb)⟩
 | .niliface,v,_,h=>by simpa only[RV]using h
 | .iface t x,v,hm,h=>by
  simp only[RV]at h⊢
  obtain⟨u,e,h⟩:=h
  exact⟨u,e,RV_mono hw hf x u (fun h hh=>hm h (by simpa[AV.ment]using hh)) h⟩
 | .func f cs,v,hm,h=>by
  simp only[RV]at h⊢
  obtain⟨vs,e,h2⟩:=h
  exact⟨vs,e,RVs_mono hw hf cs vs (fun h hh=>hm h (by simpa[AV.ment]using hh)) h2⟩
 | .nilf,v,_,h=>by simpa only[RV]using h
 | .nanv,v,_,h=>by simpa only[RV]using h
 | .bsl g _,v,hm,h=>by simp only[RV]at h⊢;rw[hm g (by simp[AV.ment])];exact h
 | .pa _ g _,v,hm,h=>by simp only[RV]at h⊢;rw[hm g (by simp[AV.ment])];exact h
 | .capd κ xs,v,_,h=>by
  simp only[RV]at h⊢
  exact⟨h.1.mono hw hf fun x _ es h=>RP_mono hw hf κ x es h,h.2⟩
 | .tuple cs,v,hm,h=>by
  simp only[RV]at h⊢
  obtain⟨vs,e,h2⟩:=h
  exact⟨vs,e,RVs_mono hw hf cs vs (fun h hh=>hm h (by simpa[AV.ment]using hh)) h2⟩
 | .dead,v,_,h=>by simp only[RV]
theorem RVs_mono{ι ι':Nat→HI}{Fz Fz':Nat→Prop}{w w':World}(hw:∀b,Fz b→w'.heap[b]?=w.heap[b]?)(hf:∀b,Fz b→Fz' b):
 ∀(cs:List AV) (vs:List Value),(∀h,mentL h cs=true→ι' h=ι h)→RVs ι Fz w cs vs→RVs ι' Fz' w' cs vs
 |[],vs,_,h=>by simpa only[RVs]using h
 |c::cs,vs,hm,h=>by
  simp only[RVs]at h⊢
  obtain⟨v,r,e,h1,h2⟩:=h
  exact⟨v,r,e,RV_mono hw hf c v (fun h hh=>hm h (by simp[mentL,hh])) h1,RVs_mono hw hf cs r (fun h hh=>hm h (by simp[mentL,hh])) h2⟩
end
theorem RV_strike{ι ι':Nat→HI}{Fz Fz':Nat→Prop}{w w':World}(hw:∀b,Fz b→w'.heap[b]?=w.heap[b]?)(hf:∀b,Fz b→Fz' b)
 {d:Nat} (hd:∀h,h≠d→ι' h=ι h) {a:AV} {v:Value} (h:RV ι Fz w a v):RV ι' Fz' w' (a.strike d) v:=by
 unfold AV.strike
 cases hm:a.ment d with
 |true=>simp[RV]
 |false=>
  simp only[cond_false]
  exact RV_mono hw hf a v (fun h hh=>hd h (fun e=>by rw[e,hm]at hh;cases hh)) h
theorem RVs_strike{ι ι':Nat→HI}{Fz Fz':Nat→Prop}{w w':World}(hw:∀b,Fz b→w'.heap[b]?=w.heap[b]?)(hf:∀b,Fz b→Fz' b)
 {d:Nat} (hd:∀h,h≠d→ι' h=ι h):∀{cs:List AV} {vs:List Value},RVs ι Fz w cs vs→RVs ι' Fz' w' (cs.map (AV.strike d)) vs
 |[],vs,h=>by simp only[RVs,List.map_nil]at h⊢;exact h
 |c::cs,vs,h=>by
  simp only[RVs,List.map_cons]at h⊢
  obtain⟨v,r,e,h1,h2⟩:=h
  exact⟨v,r,e,RV_strike hw hf hd h1,RVs_strike hw hf hd h2⟩
theorem RVs_len{ι:Nat→HI}{Fz:Nat→Prop}{w:World}:∀{cs:List AV} {vs:List Value},RVs ι Fz w cs vs→cs.length=vs.length
 |[],vs,h=>by simp only[RVs]at h;subst h;rfl
 |c::cs,vs,h=>by
  simp only[RVs]at h
  obtain⟨v,r,e,_,h2⟩:=h
  rw[e,List.length_cons,List.length_cons,RVs_len h2]
theorem RVs_at{ι:Nat→HI}{Fz:Nat→Prop}{w:World}:∀{cs:List AV} {vs:List Value} {i:Nat} {c:AV},RVs ι Fz w cs vs→cs[i]?=some c→∃v,vs[i]?=some v∧RV ι Fz w c v
 |[],_,_,_,_,h=>by simp at h
 |c::cs,vs,i,x,h,hx=>by
  simp only[RVs]at h
  obtain⟨v,r,e,h1,h2⟩:=h
  subst e
  cases i with
  |zero=>simp only[List.getElem?_cons_zero,Option.some.injEq]at hx⊢;subst hx;exact⟨v,rfl,h1⟩
  |succ i=>simp only[List.getElem?_cons_succ]at hx⊢;exact RVs_at h2 hx
theorem RVs_drop{ι:Nat→HI}{Fz:Nat→Prop}{w:World}:∀{cs:List AV} {vs:List Value} (n:Nat),RVs ι Fz w cs vs→RVs ι Fz w (cs.drop n) (vs.drop n)
 |cs,vs,0,h=>by simpa using h
 |[],vs,n+1,h=>by simp only[RVs]at h;subst h;simp[RVs]
 |c::cs,vs,n+1,h=>by
  simp only[RVs]at h
  obtain⟨v,r,e,_,h2⟩:=h
  subst e
  simpa using RVs_drop n h2
theorem RVs_take{ι:Nat→HI}{Fz:Nat→Prop}{w:World}:∀{cs:List AV} {vs:List Value} (n:Nat),RVs ι Fz w cs vs→RVs ι Fz w (cs.take n) (vs.take n)
 |cs,vs,0,h=>by simp[RVs]
 |[],vs,n+1,h=>by simp only[RVs]at h;subst h;simp[RVs]
 |c::cs,vs,n+1,h=>by
  simp only[RVs]at h
  obtain⟨v,r,e,h1,h2⟩:=h
  subst e
  simp only[List.take_succ_cons,RVs]
  exact⟨v,_,rfl,h1,RVs_take n h2⟩
theorem RVs_append{ι:Nat→HI}{Fz:Nat→Prop}{w:World}:∀{cs ds:List AV} {vs us:List Value},RVs ι Fz w cs vs→RVs ι Fz w ds us→RVs ι Fz w (cs++ds) (vs++us)
 |[],_,vs,_,h,h'=>by simp only[RVs]at h;subst h;simpa using h'
 |c::cs,_,vs,_,h,h'=>by
  simp only[RVs]at h
  obtain⟨v,r,e,h1,h2⟩:=h
  subst e
  simp only[List.cons_append,RVs]
  exact⟨v,_,rfl,h1,RVs_append h2 h'⟩
theorem RVs_set{ι:Nat→HI}{Fz:Nat→Prop}{w:World}:∀{cs:List AV} {vs:List Value} (i:Nat) {c:AV} {v:Value},RVs ι Fz w cs vs→RV ι Fz w c v→RVs ι Fz w (cs.set i c) (vs.set i v)
 |[],vs,_,_,_,h,_=>by simp only[RVs]at h;subst h;simp[RVs]
 |_::cs,vs,0,c,v,h,hv=>by
  simp only[RVs]at h
  obtain⟨v',r,e,_,h2⟩:=h
  subst e
  simp only[List.set_cons_zero,RVs]
  exact⟨v,r,rfl,hv,h2⟩
 |_::cs,vs,i+1,c,v,h,hv=>by
  simp only[RVs]at h
  obtain⟨v',r,e,h1,h2⟩:=h
  subst e
  simp only[List.set_cons_succ,RVs]
  exact⟨v',_,rfl,h1,RVs_set i h2 hv⟩
theorem flatD_of{ι:Nat→HI}{Fz:Nat→Prop}{w:World}:∀(κ:Kd) (x:Den κ) (cs:List Value),RP Fz w κ x cs→RVs ι Fz w (flatD κ x) cs
 | .int _,_,_,h=>by rw[h];simp only[flatD,RVs,RV];exact⟨_,_,rfl,by simp[Kd.isAgg,RP],rfl⟩
 | .float,_,_,h=>by rw[h];simp only[flatD,RVs,RV];exact⟨_,_,rfl,by simp[Kd.isAgg,RP],rfl⟩
 | .bool,_,_,h=>by rw[h];simp only[flatD,RVs,RV];exact⟨_,_,rfl,by simp[Kd.isAgg,RP],rfl⟩
 | .str,_,_,h=>by rw[h];simp only[flatD,RVs,RV];exact⟨_,_,rfl,by simp[Kd.isAgg,RP],rfl⟩
 | .list e,xs,cs,h=>by
  obtain⟨v,hc,h'⟩:=h
  rw[hc]
  simp only[flatD,RVs,RV]
  exact⟨v,[],rfl,by simp only[Kd.isAgg,Bool.false_eq_true,if_false];exact⟨v,rfl,h'⟩,rfl⟩
 | .unit,_,_,h=>by rw[h];simp[flatD,RVs]
 | .pair a b,x,cs,⟨c1,c2,hc,h1,h2⟩=>by rw[hc];exact RVs_append (flatD_of a _ _ h1) (flatD_of b _ _ h2)
 | .geo,g,cs,h=>by
  cases g with
  |mk kd ly sr flat ends endss kids=>
  simp only[RP,RG]at h
  obtain⟨v3,v4,v5,a,c,rfl,h3,h4,h5,hl,h6⟩:=h
  simp only[flatD,RVs,RV,Kd.isAgg,Bool.false_eq_true,if_false,RP,Geo.kind,Geo.layout,Geo.srid,Geo.flat,Geo.ends,Geo.endss,Geo.kids]
  refine⟨_,_,rfl,rfl,_,_,rfl,rfl,_,_,rfl,rfl,_,_,rfl,⟨_,rfl,h3⟩,_,_,rfl,⟨_,rfl,h4⟩,_,_,rfl,⟨_,rfl,h5⟩,_,_,rfl,⟨_,rfl, ?_⟩,rfl⟩
  refine⟨a,c,rfl,hl, ?_⟩
  rcases h6 with h6|⟨b,off,ha,hb,h6⟩
  ·exact .inl h6
  ·exact .inr ⟨b,off,ha,hb,fun i x hx=>RGs_at kids b off i x h6 hx⟩
 | .any,c,cs,h=>by
  obtain⟨v,hc,h'⟩:=h
  rw[hc]
  simp only[flatD,RVs,RV]
  exact⟨v,[],rfl,by simp only[Kd.isAgg,Bool.false_eq_true,if_false];exact⟨v,rfl,h'⟩,rfl⟩
 | .nl e,o,cs,h=>by
  obtain⟨v,hc,h'⟩:=h
  rw[hc]
  simp only[flatD,RVs,RV]
  exact⟨v,[],rfl,by simp only[Kd.isAgg,Bool.false_eq_true,if_false];exact⟨v,rfl,h'⟩,rfl⟩
theorem flat_of{ι:Nat→HI}{Fz:Nat→Prop}{w:World}{a:AV}{v:Value}(h:RV ι Fz w a v)(hl:aliveL a.flat=true):
 RVs ι Fz w a.flat v.cells.toList∧∀u∈v.cells.toList,u.oneCell'=true:=by
 cases a with
 |pv κ x=>
  simp only[RV]at h
  cases hk:κ.isAgg with
  |true=>
   simp only[hk,if_true]at h
   obtain⟨vs,rfl,h⟩:=h
   exact⟨flatD_of κ x _ h,RP_one κ x _ h⟩
  |false=>
   simp only[hk,Bool.false_eq_true,if_false]at h
   have h1:=RP_one κ x _ h v (by simp)
   have hc:v.cells.toList=[v]:=by cases v<;>simp_all [Value.cells,Value.oneCell']
   rw[hc]
   exact⟨flatD_of κ x _ h,by simpa using h1⟩
 |nils=>simp only[RV]at h;subst h;exact⟨by simp[AV.flat,Value.cells,RVs,RV],by simp[Value.cells,Value.oneCell']⟩
 |agg cs=>simp only[RV]at h;obtain⟨vs,rfl,h1,h2⟩:=h;simpa[Value.cells,AV.flat]using⟨h2,h1⟩
 |own κ g=>
  have h0:=h
  simp only[RV]at h
  rcases h with⟨_,rfl⟩|⟨_,rfl⟩<;>exact⟨by simpa[AV.flat,Value.cells,RVs]using h0,by simp[Value.cells,Value.oneCell']⟩
 |sub κ g o l=>
  have h0:=h
  simp only[RV]at h
  obtain⟨_,h⟩:=h
  rcases h with⟨_,a,c,rfl,_⟩|⟨_,c,rfl,_⟩<;>exact⟨by simpa[AV.flat,Value.cells,RVs]using h0,by simp[Value.cells,Value.oneCell']⟩
 |ref g o=>have h0:=h;simp only[RV]at h;obtain⟨_,rfl⟩:=h;exact⟨by simpa[AV.flat,Value.cells,RVs]using h0,by simp[Value.cells,Value.oneCell']⟩
 |eref κ x=>have h0:=h;simp only[RV]at h;obtain⟨_,_,_,rfl,_⟩:=h;exact⟨by simpa[AV.flat,Value.cells,RVs]using h0,by simp[Value.cells,Value.oneCell']⟩
 |aref κ g o=>have h0:=h;simp only[RV]at h;obtain⟨_,_,rfl⟩:=h;exact⟨by simpa[AV.flat,Value.cells,RVs]using h0,by simp[Value.cells,Value.oneCell']⟩
 |nilp=>simp only[RV]at h;subst h;exact⟨by simp[AV.flat,Value.cells,RVs,RV],by simp[Value.cells,Value.oneCell']⟩
 |gi _ _=>have h0:=h;simp only[RV]at h;obtain⟨rfl,_⟩:=h;exact⟨by simpa[AV.flat,Value.cells,RVs]using h0,by simp[Value.cells,Value.oneCell']⟩
 |mfa _ _=>have h0:=h;simp only[RV]at h;obtain⟨_,_,_,rfl⟩:=h;exact⟨by simpa[AV.flat,Value.cells,RVs]using h0,by simp[Value.cells,Value.oneCell']⟩
 |mf _ _=>have h0:=h;simp only[RV]at h;obtain⟨_,_,rfl⟩:=h;exact⟨by simpa[AV.flat,Value.cells,RVs]using h0,by simp[Value.cells,Value.oneCell']⟩
 |ep _=>have h0:=h;simp only[RV]at h;obtain⟨_,_,rfl,_⟩:=h;exact⟨by simpa[AV.flat,Value.cells,RVs]using h0,by simp[Value.cells,Value.oneCell']⟩
 |niliface=>simp only[RV]at h;subst h;exact⟨by simp[AV.flat,Value.cells,RVs,RV],by simp[Value.cells,Value.oneCell']⟩
 |iface t x=>have h0:=h;simp only[RV]at h;obtain⟨_,rfl,_⟩:=h;exact⟨by simpa[AV.flat,Value.cells,RVs]using h0,by simp[Value.cells,Value.oneCell']⟩
 |func f cs=>have h0:=h;simp only[RV]at h;obtain⟨_,rfl,_⟩:=h;exact⟨by simpa[AV.flat,Value.cells,RVs]using h0,by simp[Value.cells,Value.oneCell']⟩
 |nanv=>have h0:=h;simp only[RV]at h;obtain⟨_,rfl,_⟩:=h;exact⟨by simpa[AV.flat,Value.cells,RVs]using h0,by simp[Value.cells,Value.oneCell']⟩
 |nilf=>simp only[RV]at h;subst h;exact⟨by simp[AV.flat,Value.cells,RVs,RV],by simp[Value.cells,Value.oneCell']⟩
 |bsl g n=>have h0:=h;simp only[RV]at h;obtain⟨_,rfl⟩:=h;exact⟨by simpa[AV.flat,Value.cells,RVs]using h0,by simp[Value.cells,Value.oneCell']⟩
 |pa κ g n=>have h0:=h;simp only[RV]at h;obtain⟨_,_,_,rfl⟩:=h;exact⟨by simpa[AV.flat,Value.cells,RVs]using h0,by simp[Value.cells,Value.oneCell']⟩
 |capd κ xs=>have h0:=h;simp only[RV]at h;obtain⟨_,a,rfl⟩:=h;exact⟨by simpa[AV.flat,Value.cells,RVs]using h0,by simp[Value.cells,Value.oneCell']⟩
 |tuple cs=>simp[AV.flat,aliveL]at hl
 |dead=>simp[AV.flat,aliveL]at hl
def AB.isArr:AB→Prop
 | .arr _ _ _=>True
 |_=>False
def AB.live:AB→Prop
 | .gone=>False
 |_=>True
def RB(ι:Nat→HI)(Fz:Nat→Prop)(w:World)(h:Nat):AB→Prop
 | .gone=>True
 | .box cs=>(ι h).virt=false∧∃(vs:List Value) (T:TypeId),(∃rest:List Value,w.heap[(ι h).blk]?=some (.cells (vs++rest).toArray T (0,0)))∧RVs ι Fz w cs vs∧∀v∈vs,v.oneCell'=true
 | .arr e κ xs=>(ι h).len=xs.length∧(((ι h).virt=true∧xs=[])∨((ι h).virt=false∧∃vs:Array Value,w.heap[(ι h).blk]?=some (.cells vs e (0,0))∧
  xs.length≤(ι h).cap∧(ι h).cap≤maxLen∧vs.size=(ι h).cap*κ.size∧∀i x,xs[i]?=some x→∃es,RP Fz w κ x es∧es.length=κ.size∧∀j u,es[j]?=some u→vs[i*κ.size+j]?=some u))
structure Root where
 w:World
 own:Nat→Prop
 big:∀b,w.heap.size≤b→own b
 io:Nat→HI
 gl:List Gl
structure Bel(own:Nat→Prop)(w w':World):Prop where
 os:w'.os=w.os
 tape:w'.tape=w.tape
 output:w'.output=w.output
 size:w.heap.size≤w'.heap.size
 block:∀k,¬own k→w'.heap[k]?=w.heap[k]?
theorem Bel.refl(own:Nat→Prop)(w:World):Bel own w w:=⟨rfl,rfl,rfl,Nat.le_refl _,fun _ _=>rfl⟩
theorem Bel.trans{own:Nat→Prop}{a b c:World}(h:Bel own a b)(k:Bel own b c):Bel own a c:=
 ⟨k.os.trans h.os,k.tape.trans h.tape,k.output.trans h.output,Nat.le_trans h.size k.size,fun i hi=>(k.block i hi).trans (h.block i hi)⟩
theorem Bel.of{own:Nat→Prop}{B:Nat}{w w':World}(h:Below B w w')(hB:∀b,B≤b→own b):Bel own w w':=
 ⟨h.os,h.tape,h.output,h.size,fun k hk=>h.block k (by rcases Nat.lt_or_ge k B with h'|h';exact h';exact absurd (hB k h') hk)⟩
def Root.at(w:World)(ι:Nat→HI)(gl:List Gl):Root:=⟨w,fun b=>w.heap.size≤b,fun _ h=>h,ι,gl⟩
def GOK(gl:List Gl)(Fz:Nat→Prop)(w:World):Prop:=∀g∈gl,g.κ.plain=true∧Fz g.g∧(∃es,RP (fun _=>False) w g.κ g.x es∧Lie w es g.g 0)∧∀t,g.ti=some t→∃a,Lie w [.iface t (.pointer (some a))] g.g 0
theorem GOK.mono{gl:List Gl}{Fz Fz':Nat→Prop}{w w':World}(h:GOK gl Fz w)(hw:∀b,Fz b→w'.heap[b]?=w.heap[b]?)(hf:∀b,Fz b→Fz' b):GOK gl Fz' w':=by
 intro g hg
 obtain⟨h1,h2,⟨es,h3,h4⟩,h5⟩:=h g hg
 exact⟨h1,hf _ h2,⟨es,RP_plain g.κ g.x es h1 h3,h4.mono (hw _ h2)⟩,fun t ht=>(h5 t ht).imp fun a ha=>ha.mono (hw _ h2)⟩
theorem getG_of{gl:List Gl}{Fz:Nat→Prop}{w:World}{ι:Nat→HI}:∀(l:List Gl),(∀g∈l,g∈gl)→GOK gl Fz w→∀n,RV ι Fz w (getG l n) (.pointer (some ⟨n,0,none⟩))
 |[],_,_,n=>by simp[getG,RV]
 |a::r,hl,h,n=>by
  simp only[getG]
  cases hb:Nat.beq a.g n with
  |false=>exact getG_of r (fun g hg=>hl g (by simp[hg])) h n
  |true=>
   obtain⟨h1,h2,⟨es,h3,h4⟩,h5⟩:=h a (hl a (by simp))
   have e:=Nat.eq_of_beq_eq_true hb
   subst e
   rw[cond_true]
   cases ht:a.ti with
   |none=>
    simp only[RV]
    exact⟨a.g,0,es,rfl,h2,RP_plain a.κ a.x es h1 h3,h4⟩
   |some t=>
    simp only[RV]
    exact⟨trivial,h2,h5 t ht⟩
theorem Bel.below{w w':World}(h:Bel (fun b=>w.heap.size≤b) w w'):Below w.heap.size w w':=
 ⟨h.os,h.tape,h.output,h.size,fun k hk=>h.block k (by omega)⟩
def Cn(i:HI):AB→Prop
 | .gone=>True
 | .box _=>i.len=0∧i.cap=0
 | .arr _ _ _=>i.virt=true→i.blk=0∧i.cap=0
structure Mem(w0:Root)(Fz0:Nat→Prop)(ι:Nat→HI)(Fz:Nat→Prop)(H:List (Nat×AB))(w:World):Prop where
 below:Bel w0.own w0.w w
 fz:∀b,Fz b→b<w.heap.size
 fz0:∀b,Fz0 b→Fz b
 fzn:∀b,Fz b→Fz0 b∨w0.own b
 rb:∀h,RB ι Fz w h (getH H h)
 sep:∀h,(getH H h).live→(ι h).virt=false→w0.own (ι h).blk∧(ι h).blk<w.heap.size∧¬Fz (ι h).blk
 inj:∀h h',(getH H h).live→(getH H h').live→(ι h).virt=false→(ι h').virt=false→(ι h).blk=(ι h').blk→h=h'
 iot:∀h,1000000≤h→ι h=w0.io h
 cn:∀h,Cn (ι h) (getH H h)
 gz:GOK w0.gl Fz0 w0.w∧∀b,Fz0 b→¬w0.own b
theorem Mem.gok{w0:Root}{Fz0:Nat→Prop}{ι:Nat→HI}{Fz:Nat→Prop}{H:List (Nat×AB)}{w:World}(m:Mem w0 Fz0 ι Fz H w):GOK w0.gl Fz w:=
 m.gz.1.mono (fun b hb=>m.below.block b (m.gz.2 b hb)) m.fz0
def RD(ι:Nat→HI)(Fz:Nat→Prop)(w:World):List AV→List Deferred→Prop
 |[],ds=>ds=[]
 |v::r,ds=>∃f caps vs s,v= .func f caps∧ds={target:= .fn (.func f) vs,args:= #[]}::s∧RVs ι Fz w caps vs.toList∧RD ι Fz w r s
structure Sim(w0:Root)(Fz0:Nat→Prop)(nt:Nat)(ι:Nat→HI)(Fz:Nat→Prop)(st:St)(a:Act)(w:World):Prop where
 size:a.tmps.size=nt
 fr:∀t,RV ι Fz w (getF st.fr t) (a.tmps.getD t undef)
 df:RD ι Fz w st.df a.defers
 mem:Mem w0 Fz0 ι Fz st.H w
mutual
theorem free_ment:∀(a:AV),a.free=true→∀h,a.ment h=false
 | .pv _ _,_,_=>rfl
 | .nils,_,_=>rfl
 | .agg cs,hf,h=>by simp only[AV.ment];exact freeL_ment cs (by simpa[AV.free]using hf) h
 | .own _ _,hf,_=>by simp[AV.free]at hf
 | .sub _ _ _ _,hf,_=>by simp[AV.free]at hf
 | .ref _ _,hf,_=>by simp[AV.free]at hf
 | .eref _ _,hf,_=>by simp[AV.free]at hf
 | .aref _ _ _,hf,_=>by simp[AV.free]at hf
 | .nilp,hf,_=>by simp[AV.free]at hf
 | .gi _ _,hf,_=>by simp[AV.free]at hf
 | .ep _,hf,_=>by simp[AV.free]at hf
 | .mf _ _,hf,_=>by simp[AV.free]at hf
 | .mfa _ _,hf,_=>by simp[AV.free]at hf
 | .niliface,hf,_=>by simp[AV.free]at hf
 | .iface _ _,hf,_=>by simp[AV.free]at hf
 | .func _ _,hf,_=>by simp[AV.free]at hf
 | .nilf,hf,_=>by simp[AV.free]at hf
 | .nanv,hf,_=>by simp[AV.free]at hf
 | .bsl _ _,hf,_=>by simp[AV.free]at hf
 | .pa _ _ _,hf,_=>by simp[AV.free]at hf
 | .capd _ _,hf,_=>by simp[AV.free]at hf
 | .tuple _,hf,_=>by simp[AV.free]at hf
 | .dead,hf,_=>by simp[AV.free]at hf
theorem freeL_ment:∀(l:List AV),freeL l=true→∀h,mentL h l=false
 |[],_,_=>rfl
 |v::r,hf,h=>by
  simp only[freeL,Bool.and_eq_true]at hf
  simp only[mentL,free_ment v hf.1 h,freeL_ment r hf.2 h,Bool.or_self]
end
end Go.Av
namespace Go.Av
open Go Go.RowKit
theorem getF_map(f:AV→AV)(hf:f .dead= .dead):∀(l:List (Nat×AV)) (t:Nat),getF (l.map fun(t,v)=>(t,f v)) t=f (getF l t)
 |[],t=>by simp[getF,hf]
 |(s,v)::r,t=>by
  simp only[List.map_cons,getF]
  cases Nat.beq s t
  ·simpa using getF_map f hf r t
  ·rfl
theorem getH_map(f:AB→AB)(hf:f .gone= .gone):∀(l:List (Nat×AB)) (t:Nat),getH (l.map fun(t,v)=>(t,f v)) t=f (getH l t)
 |[],t=>by simp[getH,hf]
 |(s,v)::r,t=>by
  simp only[List.map_cons,getH]
  cases Nat.beq s t
  ·simpa using getH_map f hf r t
  ·rfl
theorem getF_strike(d:Nat)(l:List (Nat×AV))(t:Nat):getF (strikeF d l) t=(getF l t).strike d:=getF_map (AV.strike d) rfl l t
theorem getH_strike(d:Nat)(l:List (Nat×AB))(t:Nat):getH (strikeH d l) t=(getH l t).strike d:=getH_map (AB.strike d) rfl l t
theorem getF_cons(s:Nat)(v:AV)(l:List (Nat×AV))(t:Nat):getF ((s,v)::l) t=if s=t then v else getF l t:=by
 simp only[getF]
 by_cases h:s=t
 ·subst h;simp
 ·have:Nat.beq s t=false:=by rw[Bool.eq_false_iff];intro e;exact h (Nat.eq_of_beq_eq_true e)
  simp[this,h]
theorem getH_cons(s:Nat)(v:AB)(l:List (Nat×AB))(t:Nat):getH ((s,v)::l) t=if s=t then v else getH l t:=by
 simp only[getH]
 by_cases h:s=t
 ·subst h;simp
 ·have:Nat.beq s t=false:=by rw[Bool.eq_false_iff];intro e;exact h (Nat.eq_of_beq_eq_true e)
  simp[this,h]
theorem live_strike(d:Nat)(b:AB):(b.strike d).live↔b.live:=by cases b<;>simp[AB.strike,AB.live]
structure Upd(w w':World)(b:Nat)(o:Obj):Prop where
 os:w'.os=w.os
 tape:w'.tape=w.tape
 output:w'.output=w.output
 size:w'.heap.size=w.heap.size
 at':w'.heap[b]?=some o
 ne:∀k,k≠b→w'.heap[k]?=w.heap[k]?
theorem Upd.below{w0 w w':World}{b:Nat}{o:Obj}{own:Nat→Prop}(h:Upd w w' b o)(hb:own b)(hw:Bel own w0 w):Bel own w0 w':=
 hw.trans ⟨h.os,h.tape,h.output,by rw[h.size];exact Nat.le_refl _,fun k hk=>h.ne k (fun e=>hk (e▸hb))⟩
theorem Upd.refl{w:World}{b:Nat}{o:Obj}(h:w.heap[b]?=some o):Upd w w b o:=⟨rfl,rfl,rfl,rfl,h,fun _ _=>rfl⟩
theorem Upd.trans{a b c:World}{k:Nat}{o o':Obj}(h:Upd a b k o)(h':Upd b c k o'):Upd a c k o':=
 ⟨h'.os.trans h.os,h'.tape.trans h.tape,h'.output.trans h.output,h'.size.trans h.size,h'.at',fun j hj=>(h'.ne j hj).trans (h.ne j hj)⟩
theorem Upd.setCell{w:World}{b off:Nat}{vs:List Value}{T:TypeId}{v:Value}(h:w.heap[b]?=some (.cells vs.toArray T (0,0))):
 Upd w (w.setCell ⟨b,off,none⟩ v) b (.cells (vs.set off v).toArray T (0,0)):=by
 refine⟨rfl,rfl,rfl,by simp, ?_,fun k hk=> ?_⟩
 ·simp only[World.setCell,Array.getElem?_modify,if_true,h,Option.map_some]
  simp
 ·simp only[World.setCell,Array.getElem?_modify]
  rw[if_neg (by omega)]
def setV(vs:List Value)(off:Nat):List Value→List Value
 |[]=>vs
 |v::r=>setV (vs.set off v) (off+1) r
theorem setV_len:∀(us vs:List Value) (off:Nat),(setV vs off us).length=vs.length
 |[],vs,off=>rfl
 |u::us,vs,off=>by simp only[setV];rw[setV_len];simp
theorem run_storeCells{P:Program}{b:Nat}{T:TypeId}:∀(us vs:List Value) (w:World) (off i:Nat),w.heap[b]?=some (.cells vs.toArray T (0,0))→off+i+us.length≤vs.length→
 (∀u∈us,u.oneCell'=true)→∃w',(storeCells ⟨b,off,none⟩ us i).run P w= .ok () w'∧Upd w w' b (.cells (setV vs (off+i) us).toArray T (0,0))
 |[],vs,w,off,i,h,_,_=>⟨w,by simp[storeCells],Upd.refl h⟩
 |u::us,vs,w,off,i,h,hl,h1=>by
  simp only[List.length_cons]at hl
  have hc:w.cell? ⟨b,off+i,none⟩=some (vs[off+i]'(by omega)):=by
   simp only[World.cell?,h]
   simp
  have hf:w.frozen? ⟨b,off+i,none⟩=false:=by simp[World.frozen?,h]
  have hu:=Upd.setCell (off:=off+i) (v:=u) h
  obtain⟨w',hr,hu'⟩:=run_storeCells us (vs.set (off+i) u) (w.setCell ⟨b,off+i,none⟩ u) off (i+1) hu.at' (by simp;omega) (fun x hx=>h1 x (by simp[hx]))
  refine⟨w', ?_, ?_⟩
  ·simp only[storeCells,Addr.add_lit,Sem.run_bind]
   rw[run_store P w _ u .plain (h1 u (by simp))]
   simp only[hc,hf,Bool.false_eq_true,if_false,Result.andThen_ok]
   exact hr
  ·simp only[setV]
   rw[show off+i+1=off+(i+1)by omega]
   exact hu.trans hu'
theorem setCells_of{ι:Nat→HI}{Fz:Nat→Prop}{w:World}:∀(as:List AV) (us:List Value) (cs:List AV) (vs:List Value) (off:Nat),RVs ι Fz w as us→RVs ι Fz w cs vs→RVs ι Fz w (setCells cs off as) (setV vs off us)
 |[],us,cs,vs,off,h,hc=>by simp only[RVs]at h;subst h;simpa[setCells,setV]using hc
 |a::as,us,cs,vs,off,h,hc=>by
  simp only[RVs]at h
  obtain⟨v,r,rfl,h1,h2⟩:=h
  simp only[setCells,setV]
  exact setCells_of as r _ _ (off+1) h2 (RVs_set off hc h1)
theorem setV_one:∀(us vs:List Value) (off:Nat),(∀u∈us,u.oneCell'=true)→(∀u∈vs,u.oneCell'=true)→∀u∈setV vs off us,u.oneCell'=true
 |[],vs,off,_,h,u,hu=>h u hu
 |x::us,vs,off,hx,h,u,hu=>by
  simp only[setV]at hu
  refine setV_one us (vs.set off x) (off+1) (fun y hy=>hx y (by simp[hy])) (fun y hy=> ?_) u hu
  rcases List.mem_or_eq_of_mem_set hy with h'|h'
  ·exact h y h'
  ·rw[h'];exact hx x (by simp)
def upd(ι:Nat→HI)(d:Nat)(i:HI):Nat→HI:=fun h=>if h=d then i else ι h
theorem upd_at(ι:Nat→HI)(d:Nat)(i:HI):upd ι d i d=i:=by simp[upd]
theorem upd_ne(ι:Nat→HI)(d:Nat)(i:HI){h:Nat}(hh:h≠d):upd ι d i h=ι h:=by simp[upd,hh]
theorem getH_new{H:List (Nat×AB)}{d:Nat}{b:AB}{h:Nat}:getH ((d,b)::strikeH d H) h=if d=h then b else(getH H h).strike d:=by
 rw[getH_cons,getH_strike]
theorem RB_strike{ι ι':Nat→HI}{Fz Fz':Nat→Prop}{w w':World}{d h:Nat}{b:AB}(hw:∀b,Fz b→w'.heap[b]?=w.heap[b]?)(hf:∀b,Fz b→Fz' b)
 (hd:∀h,h≠d→ι' h=ι h) (hh:h≠d) (hb:b.live→(ι h).virt=false→w'.heap[(ι h).blk]?=w.heap[(ι h).blk]?) (hr:RB ι Fz w h b):RB ι' Fz' w' h (b.strike d):=by
 cases b with
 |gone=>simp[AB.strike,RB]
 |box cs=>
  simp only[RB,AB.strike]at hr⊢
  obtain⟨hv,vs,T,h1,h2,h3⟩:=hr
  rw[hd h hh]
  exact⟨hv,vs,T,by rw[hb trivial hv];exact h1,RVs_strike hw hf hd h2,h3⟩
 |arr e κ xs=>
  simp only[RB,AB.strike]at hr⊢
  rw[hd h hh]
  refine⟨hr.1, ?_⟩
  rcases hr.2 with h2|⟨hv,vs,h1,h2,h3,h4,h5⟩
  ·exact .inl h2
  ·refine .inr ⟨hv,vs,by rw[hb trivial hv];exact h1,h2,h3,h4,fun i x hx=> ?_⟩
   obtain⟨es,a,b,c⟩:=h5 i x hx
   exact⟨es,RP_mono hw hf _ _ _ a,b,c⟩
theorem RB_mono{ι:Nat→HI}{Fz Fz':Nat→Prop}{w w':World}{h:Nat}{b:AB}(hw:∀b,Fz b→w'.heap[b]?=w.heap[b]?)(hf:∀b,Fz b→Fz' b)
 (hb:b.live→(ι h).virt=false→w'.heap[(ι h).blk]?=w.heap[(ι h).blk]?) (hr:RB ι Fz w h b):RB ι Fz' w' h b:=by
 cases b with
 |gone=>simp[RB]
 |box cs=>
  simp only[RB]at hr⊢
  obtain⟨hv,vs,T,h1,h2,h3⟩:=hr
  exact⟨hv,vs,T,by rw[hb trivial hv];exact h1,RVs_mono hw hf _ _ (fun _ _=>rfl) h2,h3⟩
 |arr e κ xs=>
  simp only[RB]at hr⊢
  refine⟨hr.1, ?_⟩
  rcases hr.2 with h2|⟨hv,vs,h1,h2,h3,h4,h5⟩
  ·exact .inl h2
  ·refine .inr ⟨hv,vs,by rw[hb trivial hv];exact h1,h2,h3,h4,fun i x hx=> ?_⟩
   obtain⟨es,a,b,c⟩:=h5 i x hx
   exact⟨es,RP_mono hw hf _ _ _ a,b,c⟩
theorem Cn_strike{i:HI}{d:Nat}{b:AB}:Cn i (b.strike d)↔Cn i b:=by cases b<;>simp[AB.strike,Cn]
theorem Cn_new{ι:Nat→HI}{H:List (Nat×AB)}{d:Nat}{i:HI}{b:AB}(m:∀h,Cn (ι h) (getH H h))(hcn:Cn i b)(h:Nat):Cn (upd ι d i h) (getH ((d,b)::strikeH d H) h):=by
 rw[getH_new]
 by_cases e:d=h
 ·subst e;rw[upd_at];simpa using hcn
 ·rw[if_neg e,upd_ne _ _ _ (Ne.symm e),Cn_strike];exact m h
theorem Mem.new{w0:Root}{Fz0:Nat→Prop}{ι:Nat→HI}{Fz:Nat→Prop}{H:List (Nat×AB)}{w w':World}{d:Nat}{i:HI}{b:AB}
 (m:Mem w0 Fz0 ι Fz H w) (hbel:Below w.heap.size w w') (hi:i.virt=false→i.blk=w.heap.size∧i.blk<w'.heap.size) (hb:RB (upd ι d i) Fz w' d b) (hd:d<1000000) (hcn:Cn i b):
 Mem w0 Fz0 (upd ι d i) Fz ((d,b)::strikeH d H) w':=by
 have hs:∀b,w.heap.size≤b→w0.own b:=fun b hb=>w0.big b (Nat.le_trans m.below.size hb)
 have hw:∀b,Fz b→w'.heap[b]?=w.heap[b]?:=fun b hb=>hbel.block b (m.fz b hb)
 refine⟨m.below.trans (Bel.of hbel hs),fun b hb=>Nat.lt_of_lt_of_le (m.fz b hb) hbel.size,m.fz0,m.fzn,fun h=> ?_,fun h hl hv=> ?_,fun h h' hl hl' hv hv' he=> ?_,fun k hk=>(upd_ne _ _ _ (by omega)).trans (m.iot k hk),Cn_new m.cn hcn,m.gz⟩
 ·rw[getH_new]
  by_cases e:d=h
  ·subst e;simpa using hb
  ·rw[if_neg e]
   exact RB_strike hw (fun _ h=>h) (fun _ h=>upd_ne _ _ _ h) (Ne.symm e) (fun hl hv=>hbel.block _ (m.sep h hl hv).2.1) (m.rb h)
 ·rw[getH_new]at hl
  by_cases e:d=h
  ·subst e
   rw[upd_at]at hv⊢
   obtain⟨h1,h2⟩:=hi hv
   exact⟨hs _ (by omega),h2,fun hf=>by have:=m.fz _ hf;omega⟩
  ·rw[if_neg e,live_strike]at hl
   rw[upd_ne _ _ _ (Ne.symm e)]at hv⊢
   obtain⟨h1,h2,h3⟩:=m.sep h hl hv
   exact⟨h1,Nat.lt_of_lt_of_le h2 hbel.size,h3⟩
 ·rw[getH_new]at hl hl'
  by_cases e:d=h
  ·by_cases e':d=h'
   ·omega
   ·subst e
    rw[if_neg e',live_strike]at hl'
    rw[upd_at]at hv he
    rw[upd_ne _ _ _ (Ne.symm e')]at hv' he
    have:=(hi hv).1
    have:=(m.sep h' hl' hv').2.1
    omega
  ·rw[if_neg e,live_strike]at hl
   rw[upd_ne _ _ _ (Ne.symm e)]at hv he
   by_cases e':d=h'
   ·subst e'
    rw[upd_at]at hv' he
    have:=(hi hv').1
    have:=(m.sep h hl hv).2.1
    omega
   ·rw[if_neg e',live_strike]at hl'
    rw[upd_ne _ _ _ (Ne.symm e')]at hv' he
    exact m.inj h h' hl hl' hv hv' he
theorem Mem.upd{w0:Root}{Fz0:Nat→Prop}{ι:Nat→HI}{Fz:Nat→Prop}{H:List (Nat×AB)}{w w':World}{h:Nat}{o:Obj}{b:AB}
 (m:Mem w0 Fz0 ι Fz H w) (hl:(getH H h).live) (hv:(ι h).virt=false) (hu:Upd w w' (ι h).blk o) (hb:RB ι Fz w' h b) (hbl:b.live) (hcn:Cn (ι h) b):
 Mem w0 Fz0 ι Fz ((h,b)::H) w':=by
 obtain⟨s1,s2,s3⟩:=m.sep h hl hv
 have hw:∀b,Fz b→w'.heap[b]?=w.heap[b]?:=fun b hb=>hu.ne b (fun e=>s3 (e▸hb))
 have live:∀k,(getH ((h,b)::H) k).live→(getH H k).live:=fun k hk=>by
  rw[getH_cons]at hk
  by_cases e:h=k
  ·subst e;exact hl
  ·rwa[if_neg e]at hk
 refine⟨hu.below s1 m.below,fun b hb=>by rw[hu.size];exact m.fz b hb,m.fz0,m.fzn,fun k=> ?_,fun k hk hv'=> ?_,fun k k' hk hk'=>m.inj k k' (live k hk) (live k' hk'),m.iot,fun k=>(by rw[getH_cons];by_cases e:h=k;(·subst e;simpa using hcn);(·rw[if_neg e];exact m.cn k)),m.gz⟩
 ·rw[getH_cons]
  by_cases e:h=k
  ·subst e;simpa using hb
  ·rw[if_neg e]
   exact RB_mono hw (fun _ h=>h) (fun hl' hv'=>hu.ne _ (fun e'=>e (m.inj h k hl hl' hv hv' e'.symm))) (m.rb k)
 ·obtain⟨a,b',c⟩:=m.sep k (live k hk) hv'
  exact⟨a,by rw[hu.size];exact b',c⟩
theorem Mem.grow{w0:Root}{Fz0:Nat→Prop}{ι:Nat→HI}{Fz Fz':Nat→Prop}{H:List (Nat×AB)}{w w':World}
 (m:Mem w0 Fz0 ι Fz H w) (hbel:Below w.heap.size w w') (h1:∀b,Fz b→Fz' b) (h2:∀b,Fz' b→Fz b∨w.heap.size≤b) (h3:∀b,Fz' b→b<w'.heap.size):
 Mem w0 Fz0 ι Fz' H w':=by
 have hs:∀b,w.heap.size≤b→w0.own b:=fun b hb=>w0.big b (Nat.le_trans m.below.size hb)
 have hw:∀b,Fz b→w'.heap[b]?=w.heap[b]?:=fun b hb=>hbel.block b (m.fz b hb)
 refine⟨m.below.trans (Bel.of hbel hs),h3,fun b hb=>h1 _ (m.fz0 b hb),fun b hb=> ?_,fun h=> ?_,fun h hl hv=> ?_,m.inj,m.iot,m.cn,m.gz⟩
 ·rcases h2 b hb with hb|hb
  ·exact m.fzn b hb
  ·right;exact hs b hb
 ·exact RB_mono hw h1 (fun hl hv=>hbel.block _ (m.sep h hl hv).2.1) (m.rb h)
 ·obtain⟨a,b,c⟩:=m.sep h hl hv
  exact⟨a,Nat.lt_of_lt_of_le b hbel.size,fun hf=>by rcases h2 _ hf with hf|hf;exact c hf;omega⟩
theorem Mem.drop{w0:Root}{Fz0:Nat→Prop}{ι:Nat→HI}{Fz:Nat→Prop}{H H':List (Nat×AB)}{w:World}
 (m:Mem w0 Fz0 ι Fz H w) (h:∀k,getH H' k=getH H k∨getH H' k= .gone):Mem w0 Fz0 ι Fz H' w:=by
 have live:∀k,(getH H' k).live→(getH H k).live:=fun k hk=>by
  rcases h k with e|e
  ·rwa[e]at hk
  ·rw[e]at hk;exact hk.elim
 refine⟨m.below,m.fz,m.fz0,m.fzn,fun k=> ?_,fun k hk=>m.sep k (live k hk),fun k k' hk hk'=>m.inj k k' (live k hk) (live k' hk'),m.iot,fun k=>(by rcases h k with e|e;(·rw[e];exact m.cn k);(·rw[e];trivial)),m.gz⟩
 rcases h k with e|e
 ·rw[e];exact m.rb k
 ·rw[e];trivial
end Go.Av
namespace Go.Av
open Go Go.RowKit
theorem avOf1_of{ι:Nat→HI}{Fz:Nat→Prop}{w:World}(v:Value):RV ι Fz w (avOf1 v) v:=by
 unfold avOf1
 split<;>simp[RV,Kd.isAgg,RP]
theorem avOf1_one(v:Value)(h:v.oneCell'=false):avOf1 v= .dead:=by
 cases v<;>simp_all [Value.oneCell',avOf1]
theorem avOf1s{ι:Nat→HI}{Fz:Nat→Prop}{w:World}:∀(l:List Value),RVs ι Fz w (l.map avOf1) l
 |[]=>by simp[RVs]
 |v::r=>by simp only[List.map_cons,RVs];exact⟨v,r,rfl,avOf1_of v,avOf1s r⟩
theorem avOf1s_one:∀(l:List Value),aliveL (l.map avOf1)=true→∀u∈l,u.oneCell'=true
 |[],_,u,hu=>by simp at hu
 |v::r,h,u,hu=>by
  cases hv:v.oneCell' with
  |false=>simp[avOf1_one v hv,aliveL]at h
  |true=>
   rcases List.mem_cons.1 hu with rfl|hu
   ·exact hv
   ·refine avOf1s_one r ?_ u hu
    simp only[List.map_cons]at h
    revert h
    cases avOf1 v<;>simp[aliveL]
theorem avOf_of{ι:Nat→HI}{Fz:Nat→Prop}{w:World}(v:Value):RV ι Fz w (avOf v) v:=by
 unfold avOf
 split
 ·rename_i cs
  cases h:aliveL (cs.toList.map avOf1)with
  |true=>simp only[cond_true,RV];exact⟨cs.toList,by simp,avOf1s_one _ h,avOf1s _⟩
  |false=>simp[RV]
 ·simp only[RV];exact⟨_,rfl,avOf1_of _⟩
 ·exact avOf1_of _
theorem opnd_of{ι:Nat→HI}{Fz:Nat→Prop}{w:World}{fr:List (Nat×AV)}{a:Act}{gl:List Gl}(hg:GOK gl Fz w)(h:∀t,RV ι Fz w (getF fr t) (a.tmps.getD t undef))(x:Operand):RV ι Fz w (opnd gl fr x) (a.eval x):=by
 cases x with
 |tmp t=>exact h t
 |const v=>exact avOf_of v
 |global g=>exact getG_of gl (fun _ h=>h) hg g
 |func f=>simp only[opnd,RV,Act.eval];exact⟨[],rfl,by simp[RVs]⟩
theorem castD_of{Fz:Nat→Prop}{w:World}{κ' κ:Kd}{x:Den κ'}{y:Den κ}{cs:List Value}(h:castD κ' κ x=some y)(hr:RP Fz w κ' x cs):RP Fz w κ y cs:=by
 unfold castD at h
 split at h
 ·rename_i e;subst e;simp only[Option.some.injEq]at h;subst h;exact hr
 ·cases h
theorem castD_list{κ' κ:Kd}{x:Den κ'}{y:Den κ}(h:castD κ' κ x=some y):κ'=κ:=by
 unfold castD at h
 split at h
 ·assumption
 ·cases h
def lent(ι:Nat→HI)(Fz:Nat→Prop)(H:List (Nat×AB)):Nat→Prop:=fun b=>Fz b∨∃h,(getH H h).live∧(ι h).virt=false∧(ι h).blk=b
theorem pv_mono{ι ι':Nat→HI}{Fz Fz':Nat→Prop}{w w':World}{κ:Kd}{x:Den κ}{v:Value}(hw:∀b,Fz b→w'.heap[b]?=w.heap[b]?)(hf:∀b,Fz b→Fz' b)(h:RV ι Fz w (.pv κ x) v):RV ι' Fz' w' (.pv κ x) v:=
 RV_mono (ι:=ι) (ι':=ι') hw hf (.pv κ x) v (fun h hh=>by simp[AV.ment]at hh) h
theorem pv_iota{ι ι':Nat→HI}{Fz:Nat→Prop}{w:World}{κ:Kd}{x:Den κ}{v:Value}(h:RV ι Fz w (.pv κ x) v):RV ι' Fz w (.pv κ x) v:=by
 simp only[RV]at h⊢;exact h
theorem sub_old{p q c0:Nat}{L:Prop}{X:Option Addr→Nat→Prop}{b:Bool}{f:Nat→Value}{v:Value}(h:(L∧∃a c,v= .slice a 0 c∧X a c)∨(b=false∧∃c,v=f c∧p≤c∧q+c=c0)):(L∧∃a c,v= .slice a 0 c)∨(b=false∧∃c,v=f c∧p≤c):=by
 rcases h with⟨l,a,c,h,_⟩|⟨h1,c,h2,h3,_⟩
 ·exact .inl ⟨l,a,c,h⟩
 ·exact .inr ⟨h1,c,h2,h3⟩
theorem arr_RLf{ι:Nat→HI}{Fz:Nat→Prop}{w:World}{h:Nat}{e:TypeId}{κ:Kd}{xs:List (Den κ)}{Fz':Nat→Prop}(hr:RB ι Fz w h (.arr e κ xs))(hf:∀b,Fz b→Fz' b)
 (hb:(ι h).virt=false→Fz' (ι h).blk) (off len:Nat) (hl:off+len≤xs.length) {v:Value}
 (hv:(len=0∧∃a c,v= .slice a 0 c)∨((ι h).virt=false∧∃c,v= .slice (some ⟨(ι h).blk,off*κ.size,none⟩) len c∧len≤c)):
 RLf Fz' w (RP Fz' w κ) κ.size ((xs.drop off).take len) v:=by
 have hlen:((xs.drop off).take len).length=len:=by rw[List.length_take,List.length_drop];omega
 rcases hv with⟨rfl,a,c,rfl⟩|⟨hvt,c,rfl,hc⟩
 ·exact⟨a,c,by simp,by simp, .inl (by simp)⟩
 ·refine⟨_,c,by rw[hlen],by rw[hlen];exact hc, .inr ⟨_,_,rfl,hb hvt,fun i x hx=> ?_⟩⟩
  simp only[RB]at hr
  rcases hr.2 with⟨hv2,_⟩|⟨_,vs,h1,h2,h3,h4,h5⟩
  ·rw[hv2]at hvt;cases hvt
  have hi:i<len:=by
   rcases Nat.lt_or_ge i len with h|h
   ·exact h
   ·rw[List.getElem?_eq_none (by omega)]at hx;cases hx
  have hx':xs[off+i]?=some x:=by
   rw[List.getElem?_take,if_pos hi,List.getElem?_drop]at hx;exact hx
  obtain⟨es,a,b,d⟩:=h5 _ x hx'
  refine⟨es,RP_mono (fun _ _=>rfl) hf _ _ _ a,b,fun j u hj=> ?_⟩
  have:=d j u hj
  simp only[World.cell?,h1,Option.isSome_none,Bool.false_eq_true,if_false]
  rw[←this]
  congr 1
  rw[Nat.add_mul]
theorem RP_any{Fz:Nat→Prop}{w:World}{c:Ce}{v:Value}:RP Fz w .any c [v]↔RC Fz w c v:=by
 simp only[RP]
 constructor
 ·rintro ⟨u,e,h⟩
  simp only[List.cons.injEq,and_true]at e
  subst e;exact h
 ·intro h;exact⟨v,rfl,h⟩
theorem RP_list{Fz:Nat→Prop}{w:World}{κ:Kd}{xs:List (Den κ)}{v:Value}:RP Fz w (.list κ) xs [v]↔RLf Fz w (RP Fz w κ) κ.size xs v:=by
 simp only[RP]
 constructor
 ·rintro ⟨u,e,h⟩
  simp only[List.cons.injEq,and_true]at e
  subst e;exact h
 ·intro h;exact⟨v,rfl,h⟩
theorem RLf_nil{α:Type}{Fz:Nat→Prop}{w:World}{E:α→List Value→Prop}{sz:Nat}:RLf Fz w E sz [] (.slice none 0 0):=⟨none,0,rfl,Nat.le_refl _, .inl rfl⟩
theorem sl_RLf{Fz:Nat→Prop}{w:World}{xs:List Ce}{v:Value}:RC Fz w (.sl xs) v↔RLf Fz w (RP Fz w .any) 1 xs v:=by
 simp only[RC,RLf]
 constructor
 ·rintro ⟨a,c,e,hl,h⟩
  refine⟨a,c,e,hl, ?_⟩
  rcases h with h|⟨b,off,ha,hb,h⟩
  ·exact .inl h
  ·refine .inr ⟨b,off,ha,hb,fun i x hx=> ?_⟩
   obtain⟨u,h1,h2⟩:=RCs_at xs b off i x h hx
   refine⟨[u],RP_any.2 h1,rfl,fun j v hj=> ?_⟩
   cases j with
   |zero=>simp only[List.getElem?_cons_zero,Option.some.injEq]at hj;subst hj;simpa using h2
   |succ j=>simp at hj
 ·rintro ⟨a,c,e,hl,h⟩
  refine⟨a,c,e,hl, ?_⟩
  rcases h with h|⟨b,off,ha,hb,h⟩
  ·exact .inl h
  ·refine .inr ⟨b,off,ha,hb,RCs_of xs b off fun i x hx=> ?_⟩
   obtain⟨es,h1,h2,h3⟩:=h i x hx
   obtain⟨u,rfl,h1⟩:=h1
   have:=h3 0 u rfl
   exact⟨u,h1,by simpa using this⟩
theorem getC_of{Fz:Nat→Prop}{w:World}{κ:Kd}{c:Ce}{x:Den κ}{v:Value}(h:getC κ c=some x)(hr:RC Fz w c v):RP Fz w κ x [v]:=by
 unfold getC at h
 split at h
 all_goals first|(cases h;done)|skip
 case h_1=>simp only[Option.some.injEq]at h;subst h;exact RP_any.2 hr
 case h_2 k k' n=>
  cases hd:decide (k'=k)with
  |false=>rw[hd]at h;cases h
  |true=>
   rw[hd,cond_true,Option.some.injEq]at h
   have e:=of_decide_eq_true hd
   subst e;subst h
   simp only[RC]at hr;subst hr;rfl
 case h_3=>simp only[Option.some.injEq]at h;subst h;simp only[RC]at hr;subst hr;rfl
 case h_4=>simp only[Option.some.injEq]at h;subst h;simp only[RC]at hr;subst hr;rfl
 case h_5=>simp only[Option.some.injEq]at h;subst h;simp only[RC]at hr;subst hr;rfl
 case h_6=>simp only[Option.some.injEq]at h;subst h;simp only[RC]at hr;exact RP_list.2 hr
 case h_7=>simp only[Option.some.injEq]at h;subst h;simp only[RC]at hr;exact RP_list.2 hr
 case h_8=>simp only[Option.some.injEq]at h;subst h;simp only[RC]at hr;exact RP_list.2 hr
 case h_9=>simp only[Option.some.injEq]at h;subst h;exact RP_list.2 (sl_RLf.1 hr)
 case h_10=>simp only[Option.some.injEq]at h;subst h;simp only[RC]at hr;subst hr;exact RP_list.2 RLf_nil
theorem putC_of{Fz:Nat→Prop}{w:World}{κ:Kd}{c:Ce}{x:Den κ}{v:Value}(h:putC κ x=some c)(hr:RP Fz w κ x [v]):RC Fz w c v:=by
 unfold putC at h
 split at h
 all_goals first|(cases h;done)|skip
 all_goals(simp only[Option.some.injEq]at h;subst h)
 case h_1=>exact RP_any.1 hr
 case h_2=>simp only[RP,List.cons.injEq,and_true]at hr;subst hr;simp only[RC]
 case h_3=>simp only[RP,List.cons.injEq,and_true]at hr;subst hr;simp only[RC]
 case h_4=>simp only[RP,List.cons.injEq,and_true]at hr;subst hr;simp only[RC]
 case h_5=>simp only[RP,List.cons.injEq,and_true]at hr;subst hr;simp only[RC]
 case h_6=>simp only[RC];exact RP_list.1 hr
 case h_7=>simp only[RC];exact RP_list.1 hr
 case h_8=>simp only[RC];exact RP_list.1 hr
 case h_9=>exact sl_RLf.2 (RP_list.1 hr)
theorem RCv_append{Fz:Nat→Prop}{w:World}:∀{c1 c2:List Ce} {u1 u2:List Value},RCv Fz w c1 u1→RCv Fz w c2 u2→RCv Fz w (c1++c2) (u1++u2)
 |[],_,u1,_,h,h'=>by simp only[RCv]at h;subst h;simpa using h'
 |c::cs,_,u1,_,h,h'=>by
  simp only[RCv]at h
  obtain⟨u,q,rfl,h1,h2⟩:=h
  simp only[List.cons_append,RCv]
  exact⟨u,_,rfl,h1,RCv_append h2 h'⟩
theorem RCv_lie{Fz:Nat→Prop}{w:World}:∀{cs:List Ce} {es:List Value} {b off:Nat},RCv Fz w cs es→Lie w es b off→RCs Fz w cs b off
 |[],_,_,_,_,_=>by simp only[RCs]
 |c::cs,es,b,off,h,hl=>by
  simp only[RCv]at h
  obtain⟨u,q,rfl,h1,h2⟩:=h
  simp only[RCs]
  refine⟨⟨u,h1,by simpa using hl 0 u rfl⟩,RCv_lie h2 fun j v hj=> ?_⟩
  have:=hl (j+1) v (by simpa using hj)
  rwa[show off+(j+1)=off+1+j by omega]at this
theorem RCs_lie{Fz:Nat→Prop}{w:World}:∀{cs:List Ce} {b off:Nat},RCs Fz w cs b off→∃es,RCv Fz w cs es∧Lie w es b off
 |[],_,_,_=>⟨[],by simp only[RCv],fun j v hj=>by simp at hj⟩
 |c::cs,b,off,h=>by
  simp only[RCs]at h
  obtain⟨⟨u,h1,h2⟩,h3⟩:=h
  obtain⟨es,h4,h5⟩:=RCs_lie h3
  refine⟨u::es,by simp only[RCv];exact⟨u,es,rfl,h1,h4⟩,fun j v hj=> ?_⟩
  cases j with
  |zero=>simp only[List.getElem?_cons_zero,Option.some.injEq]at hj;subst hj;simpa using h2
  |succ j=>
   have:=h5 j v (by simpa using hj)
   rwa[show off+1+j=off+(j+1)by omega]at this
theorem getCs_leaf{κ:Kd}(hk:κ.isAgg=false){cs:List Ce}{x:Den κ}{r:List Ce}(h:getCs κ cs=some (x,r)):∃c,cs=c::r∧getC κ c=some x:=by
 cases κ<;>first|(simp[Kd.isAgg]at hk;done)|skip
 all_goals
  cases cs with
  |nil=>simp[getCs]at h
  |cons c cs=>
   simp only[getCs,Option.bind_eq_some_iff,Option.some.injEq,Prod.mk.injEq]at h
   obtain⟨y,h1,rfl,rfl⟩:=h
   exact⟨c,rfl,h1⟩
theorem putCs_leaf{κ:Kd}(hk:κ.isAgg=false){cs:List Ce}{x:Den κ}(h:putCs κ x=some cs):∃c,cs=[c]∧putC κ x=some c:=by
 cases κ<;>first|(simp[Kd.isAgg]at hk;done)|skip
 all_goals
  simp only[putCs,Option.bind_eq_some_iff,Option.some.injEq]at h
  obtain⟨y,h1,rfl⟩:=h
  exact⟨y,rfl,h1⟩
theorem getCs_leaf_of{Fz:Nat→Prop}{w:World}{κ:Kd}(hk:κ.isAgg=false){cs:List Ce}{x:Den κ}{r:List Ce}{us:List Value}(h:getCs κ cs=some (x,r))(hr:RCv Fz w cs us):∃u1 u2,us=u1++u2∧RP Fz w κ x u1∧RCv Fz w r u2:=by
 obtain⟨c,rfl,h1⟩:=getCs_leaf hk h
 simp only[RCv]at hr
 obtain⟨u,q,rfl,h2,h3⟩:=hr
 exact⟨[u],q,rfl,getC_of h1 h2,h3⟩
theorem getCs_of{Fz:Nat→Prop}{w:World}:∀(κ:Kd) (cs:List Ce) (x:Den κ) (r:List Ce) (us:List Value),getCs κ cs=some (x,r)→RCv Fz w cs us→∃u1 u2,us=u1++u2∧RP Fz w κ x u1∧RCv Fz w r u2
 | .unit,cs,x,r,us,h,hr=>by
  simp only[getCs,Option.some.injEq,Prod.mk.injEq]at h
  obtain⟨_,rfl⟩:=h
  exact⟨[],us,rfl,rfl,hr⟩
 | .pair a b,cs,x,r,us,h,hr=>by
  simp only[getCs,Option.bind_eq_some_iff,Option.some.injEq,Prod.mk.injEq]at h
  obtain⟨p,h1,q,h2,rfl,rfl⟩:=h
  obtain⟨v1,v2,rfl,r1,r2⟩:=getCs_of a cs p.1 p.2 us h1 hr
  obtain⟨v3,v4,rfl,r3,r4⟩:=getCs_of b p.2 q.1 q.2 v2 h2 r2
  exact⟨v1++v3,v4,by simp,⟨v1,v3,rfl,r1,r3⟩,r4⟩
 | .geo,_,_,_,_,h,_=>by simp[getCs]at h
 | .int k,cs,x,r,us,h,hr=>getCs_leaf_of rfl h hr
 | .float,cs,x,r,us,h,hr=>getCs_leaf_of rfl h hr
 | .bool,cs,x,r,us,h,hr=>getCs_leaf_of rfl h hr
 | .str,cs,x,r,us,h,hr=>getCs_leaf_of rfl h hr
 | .list e,cs,x,r,us,h,hr=>getCs_leaf_of rfl h hr
 | .any,cs,x,r,us,h,hr=>getCs_leaf_of rfl h hr
 | .nl e,cs,x,r,us,h,hr=>getCs_leaf_of rfl h hr
theorem putCs_leaf_of{Fz:Nat→Prop}{w:World}{κ:Kd}(hk:κ.isAgg=false){cs:List Ce}{x:Den κ}{us:List Value}(h:putCs κ x=some cs)(hr:RP Fz w κ x us):RCv Fz w cs us:=by
 obtain⟨c,rfl,h1⟩:=putCs_leaf hk h
 have hl:=RP_len κ x us hr
 have h1':us.length=1:=by rw[hl];cases κ<;>simp_all [Kd.isAgg,Kd.size]
 obtain⟨u,rfl⟩:=List.length_eq_one_iff.1 h1'
 simp only[RCv]
 exact⟨u,[],rfl,putC_of h1 hr,rfl⟩
theorem putCs_of{Fz:Nat→Prop}{w:World}:∀(κ:Kd) (cs:List Ce) (x:Den κ) (us:List Value),putCs κ x=some cs→RP Fz w κ x us→RCv Fz w cs us
 | .unit,cs,x,us,h,hr=>by
  simp only[putCs,Option.some.injEq]at h
  subst h
  simp only[RP]at hr
  subst hr
  simp only[RCv]
 | .pair a b,cs,x,us,h,hr=>by
  simp only[putCs,Option.bind_eq_some_iff,Option.some.injEq]at h
  obtain⟨p,h1,q,h2,rfl⟩:=h
  obtain⟨c1,c2,rfl,r1,r2⟩:=hr
  exact RCv_append (putCs_of a p x.1 c1 h1 r1) (putCs_of b q x.2 c2 h2 r2)
 | .geo,_,_,_,h,_=>by simp[putCs]at h
 | .int k,cs,x,us,h,hr=>putCs_leaf_of rfl h hr
 | .float,cs,x,us,h,hr=>putCs_leaf_of rfl h hr
 | .bool,cs,x,us,h,hr=>putCs_leaf_of rfl h hr
 | .str,cs,x,us,h,hr=>putCs_leaf_of rfl h hr
 | .list e,cs,x,us,h,hr=>putCs_leaf_of rfl h hr
 | .any,cs,x,us,h,hr=>putCs_leaf_of rfl h hr
 | .nl e,cs,x,us,h,hr=>putCs_leaf_of rfl h hr
theorem getCs_all{Fz:Nat→Prop}{w:World}{κ:Kd}{cs:List Ce}{x:Den κ}{us:List Value}(h:((getCs κ cs).bind fun p=>match p.2 with|[]=>some p.1|_=>none)=some x)(hr:RCv Fz w cs us):RP Fz w κ x us:=by
 obtain⟨p,h1,h2⟩:=Option.bind_eq_some_iff.1 h
 obtain⟨y,r⟩:=p
 simp only at h2
 split at h2
 ·simp only[Option.some.injEq]at h2
  subst h2
  obtain⟨u1,u2,rfl,h3,h4⟩:=getCs_of κ cs _ _ us h1 hr
  simp only[RCv]at h4
  subst h4
  simpa using h3
 ·cases h2
theorem RV_any{ι:Nat→HI}{Fz:Nat→Prop}{w:World}{c:Ce}{v:Value}:RV ι Fz w (.pv .any c) v↔RC Fz w c v:=by
 simp only[RV,Kd.isAgg,Bool.false_eq_true,if_false];exact RP_any
theorem ptrD_of{ι:Nat→HI}{Fz:Nat→Prop}{w:World}{κ:Kd}{c:Ce}{x:Den κ}{v:Value}(h:ptrD κ c=some x)(hr:RV ι Fz w (.pv .any c) v):RV ι Fz w (.eref κ x) v:=by
 rw[RV_any]at hr
 cases c<;>simp only[ptrD]at h<;>first|(cases h;done)|skip
 simp only[RC]at hr
 obtain⟨b,off,rfl,hb,hr⟩:=hr
 obtain⟨es,h1,h2⟩:=RCs_lie hr
 simp only[RV]
 exact⟨b,off,es,rfl,hb,getCs_all h h1,h2⟩
theorem isNilp_of{Fz:Nat→Prop}{w:World}{c:Ce}{b:Bool}{v:Value}(h:isNilp c=some b)(hr:RC Fz w c v):(b=true∧v= .pointer none)∨(b=false∧∃a,v= .pointer (some a)):=by
 cases c<;>simp only[isNilp,Option.some.injEq]at h<;>first|(cases h;done)|skip
 ·simp only[RC]at hr;exact .inl ⟨h.symm,hr⟩
 ·simp only[RC]at hr;obtain⟨b,off,rfl,_⟩:=hr;exact .inr ⟨h.symm,_,rfl⟩
theorem isNili_of{Fz:Nat→Prop}{w:World}{c:Ce}{b:Bool}{v:Value}(h:isNili c=some b)(hr:RC Fz w c v):(b=true∧v= .nilIface)∨(b=false∧∃t u,v= .iface t u):=by
 cases c<;>simp only[isNili,Option.some.injEq]at h<;>first|(cases h;done)|skip
 ·simp only[RC]at hr;exact .inl ⟨h.symm,hr⟩
 ·simp only[RC]at hr;obtain⟨u,rfl,_⟩:=hr;exact .inr ⟨h.symm,_,_,rfl⟩
 ·simp only[RC]at hr;obtain⟨u,rfl,_⟩:=hr;exact .inr ⟨h.symm,_,_,rfl⟩
theorem isT_of{Fz:Nat→Prop}{w:World}{t:TypeId}{c:Ce}{b:Bool}{v:Value}(h:isT t c=some b)(hr:RC Fz w c v):(v= .nilIface∧b=false)∨∃u x,v= .iface u x∧b=Nat.beq u t:=by
 cases c<;>simp only[isT,Option.some.injEq]at h<;>first|(cases h;done)|skip
 ·simp only[RC]at hr;exact .inl ⟨hr,h.symm⟩
 ·simp only[RC]at hr;obtain⟨u,rfl,_⟩:=hr;exact .inr ⟨_,_,rfl,h.symm⟩
 ·simp only[RC]at hr;obtain⟨u,rfl,_⟩:=hr;exact .inr ⟨_,_,rfl,h.symm⟩
theorem asT_of{ι:Nat→HI}{Fz:Nat→Prop}{w:World}{κ:Kd}{t:TypeId}{c:Ce}{x:Den κ}{v:Value}(h:asT κ t c=some x)(hr:RC Fz w c v):∃u,v= .iface t u∧RV ι Fz w (.pv κ x) u:=by
 cases c<;>simp only[asT]at h<;>first|(cases h;done)|skip
 ·rename_i u c
  cases hc:Nat.beq u t&& !κ.isAgg with
  |false=>rw[hc]at h;cases h
  |true=>
   rw[hc,cond_true]at h
   simp only[Bool.and_eq_true,Bool.not_eq_true']at hc
   have e:=Nat.eq_of_beq_eq_true hc.1
   subst e
   simp only[RC]at hr
   obtain⟨u',rfl,hr⟩:=hr
   exact⟨u',rfl,by simp only[RV,hc.2,Bool.false_eq_true,if_false];exact getC_of h hr⟩
 ·rename_i u cs
  cases hc:Nat.beq u t&&κ.isAgg with
  |false=>rw[hc]at h;cases h
  |true=>
   rw[hc,cond_true]at h
   simp only[Bool.and_eq_true]at hc
   have e:=Nat.eq_of_beq_eq_true hc.1
   subst e
   simp only[RC]at hr
   obtain⟨us,rfl,hr⟩:=hr
   exact⟨_,rfl,by simp only[RV,hc.2,if_true];exact⟨us,rfl,getCs_all h hr⟩⟩
theorem mentL_left{k:Nat}:∀{l m:List AV},mentL k l=true→mentL k (l++m)=true
 |[],_,h=>by simp[mentL]at h
 |a::l,m,h=>by
  simp only[mentL,List.cons_append,Bool.or_eq_true]at h⊢
  rcases h with h|h
  ·exact .inl h
  ·exact .inr (mentL_left h)
theorem mentL_right{k:Nat}:∀{l m:List AV},mentL k m=true→mentL k (l++m)=true
 |[],_,h=>by simpa using h
 |a::l,m,h=>by
  simp only[mentL,List.cons_append,Bool.or_eq_true]
  exact .inr (mentL_right h)
theorem mentL_mem{k:Nat}{a:AV}:∀{l:List AV},a∈l→a.ment k=true→mentL k l=true
 |[],h,_=>by simp at h
 |b::l,h,hm=>by
  simp only[mentL,Bool.or_eq_true]
  rcases List.mem_cons.1 h with rfl|h
  ·exact .inl hm
  ·exact .inr (mentL_mem h hm)
theorem mentL_flat{k:Nat}{a:AV}{f:AV→List AV}:∀{l:List AV},a∈l→mentL k (f a)=true→mentL k (l.flatMap f)=true
 |[],h,_=>by simp at h
 |b::l,h,hm=>by
  simp only[List.flatMap_cons]
  rcases List.mem_cons.1 h with rfl|h
  ·exact mentL_left hm
  ·exact mentL_right (mentL_flat h hm)
theorem leaf0_of{ι ι':Nat→HI}{Fz Fz':Nat→Prop}{w:World}{H:List (Nat×AB)}(hrb:∀h,RB ι Fz w h (getH H h))(hf:∀b,Fz b→Fz' b)
 {κ:Kd} (hk:κ.isAgg=false) {a:AV} {x:Den κ} {v:Value} (h:leaf0 H κ a=some x) (hr:RV ι Fz w a v)
 (hb:∀h,a.ment h=true→(getH H h).isArr→(ι h).virt=false→Fz' (ι h).blk):RV ι' Fz' w (.pv κ x) v:=by
 cases a with
 |pv κ' y=>
  simp only[leaf0]at h
  split at h
  ·rename_i z h'
   simp only[Option.some.injEq]at h
   subst h
   have h:=h'
   have e:=castD_list h
   subst e
   simp only[castD,dif_pos,Option.some.injEq]at h
   subst h
   exact pv_mono (fun _ _=>rfl) hf hr
  ·unfold unopt at h
   split at h
   ·rename_i e' e y _
    have e2:=castD_list h
    simp only[Kd.list.injEq]at e2
    subst e2
    simp only[castD,dif_pos,Option.some.injEq]at h
    subst h
    refine pv_mono (ι:=ι) (fun _ _=>rfl) hf ?_
    simp only[RV,Kd.isAgg,Bool.false_eq_true,if_false,RP]at hr⊢
    obtain⟨u,hu,hr⟩:=hr
    refine⟨u,hu, ?_⟩
    rcases hr with⟨rfl,rfl⟩|⟨xs,rfl,h1,_⟩
    ·exact⟨none,0,rfl,by simp, .inl rfl⟩
    ·exact h1
   ·rename_i e' e y _ _
    cases hb1:Nat.ble 1 y.length with
    |false=>rw[hb1]at h;cases h
    |true=>
     rw[hb1,cond_true]at h
     have e2:=castD_list h
     simp only[Kd.nl.injEq]at e2
     subst e2
     simp only[castD,dif_pos,Option.some.injEq]at h
     subst h
     refine pv_mono (ι:=ι) (fun _ _=>rfl) hf ?_
     simp only[RV,Kd.isAgg,Bool.false_eq_true,if_false,RP]at hr⊢
     obtain⟨u,hu,hr⟩:=hr
     refine⟨u,hu, .inr ⟨y,rfl,hr, ?_⟩⟩
     obtain⟨a,c,rfl,_,hr⟩:=hr
     rcases hr with hr|⟨b,off,rfl,_⟩
     ·rw[hr]at hb1;cases hb1
     ·exact⟨_,_,_,rfl⟩
   ·cases h
 |nils=>
  simp only[RV]at hr
  subst hr
  simp only[leaf0]at h
  split at h
  ·simp only[Option.some.injEq]at h
   subst h
   simp only[RV,Kd.isAgg,Bool.false_eq_true,if_false,RP]
   exact⟨_,rfl,none,0,rfl,by simp, .inl rfl⟩
  ·simp only[Option.some.injEq]at h
   subst h
   simp only[RV,Kd.isAgg,Bool.false_eq_true,if_false,RP]
   exact⟨_,rfl, .inl ⟨trivial,rfl⟩⟩
  ·cases h
 |own κ' g=>
  simp only[leaf0]at h
  have hg:=hrb g
  split at h
  ·rename_i e κ'' xs he
   rw[he]at hg
   have hcast:=castD_list h
   have key:RP Fz' w (.list κ'') xs [v]:=by
    refine⟨v,rfl, ?_⟩
    have hlen:=hg.1
    have:=arr_RLf hg hf (fun hv=>hb g (by simp[AV.ment]) (by rw[he];trivial) hv) 0 xs.length (by omega) (v:=v) (by
     simp only[RV]at hr
     rcases hr with⟨hv,rfl⟩|⟨hv,rfl⟩
     ·left
      rcases hg.2 with⟨_,e⟩|⟨e,_⟩
      ·rw[e];exact⟨rfl,none,0,rfl⟩
      ·rw[hv]at e;cases e
     ·right
      refine⟨hv,(ι g).cap,by rw[hlen];simp, ?_⟩
      rcases hg.2 with⟨e,_⟩|⟨_,vs,_,e,_⟩
      ·rw[hv]at e;cases e
      ·exact e)
    simpa using this
   have:=castD_of h key
   simp only[RV,hk,Bool.false_eq_true,if_false]
   exact this
  ·cases h
 |sub κ' g off len=>
  simp only[leaf0]at h
  have hg:=hrb g
  split at h
  ·rename_i e κ'' xs he
   rw[he]at hg
   simp only[RV]at hr
   have hlen:=hg.1
   cases hd:decide (κ'=κ'')with
   |false=>rw[hd]at h;simp at h
   |true=>
    have e:=of_decide_eq_true hd
    subst e
    rw[hd]at h
    simp only[cond_true]at h
    have key:RP Fz' w (.list κ') ((xs.drop off).take len) [v]:=
     ⟨v,rfl,arr_RLf hg hf (fun hv=>hb g (by simp[AV.ment]) (by rw[he];trivial) hv) off len (by omega) (v:=v) (sub_old (f:=fun c=> .slice (some ⟨_,_,none⟩) len c) hr.2)⟩
    have:=castD_of h key
    simp only[RV,hk,Bool.false_eq_true,if_false]
    exact this
  ·cases h
 |_=>simp[leaf0]at h
theorem leafD_ne{H:List (Nat×AB)}{κ:Kd}(h:κ≠ .any)(a:AV):leafD H κ a=leaf0 H κ a:=by
 cases κ<;>first|exact absurd rfl h|rfl
section
variable {ι ι':Nat→HI} {Fz Fz':Nat→Prop} {w:World} {H:List (Nat×AB)}
theorem pv_RC{κ:Kd}{x:Den κ}{c:Ce}{v:Value}(hf:∀b,Fz b→Fz' b)(hk:κ.isAgg=false)(h:putC κ x=some c)(hr:RV ι Fz w (.pv κ x) v):RC Fz' w c v:=by
 simp only[RV,hk,Bool.false_eq_true,if_false]at hr
 exact putC_of h (RP_mono (fun _ _=>rfl) hf _ _ _ hr)
theorem eref_RC{κ:Kd}{x:Den κ}{cs:List Ce}{v:Value}(hf:∀b,Fz b→Fz' b)(h:putCs κ x=some cs)(hr:RV ι Fz w (.eref κ x) v):RC Fz' w (.ptr cs) v:=by
 simp only[RV]at hr
 obtain⟨b,off,es,rfl,hb,h1,h2⟩:=hr
 simp only[RC]
 exact⟨b,off,rfl,hf _ hb,RCv_lie (putCs_of κ cs x es h (RP_mono (fun _ _=>rfl) hf _ _ _ h1)) h2⟩
theorem own_RC(hrb:∀h,RB ι Fz w h (getH H h))(hf:∀b,Fz b→Fz' b){κ κ':Kd}{h:Nat}{e:TypeId}{xs:List (Den κ')}{c:Ce}{v:Value}(hg:getH H h= .arr e κ' xs)(hp:putC (.list κ') xs=some c)(hr:RV ι Fz w (.own κ h) v)
 (hb:(ι h).virt=false→Fz' (ι h).blk):RC Fz' w c v:=by
 have:=leaf0_of (ι':=ι) hrb hf (κ:= .list κ') rfl (a:= .own κ h) (x:=xs) (by simp[leaf0,hg,castD]) hr (fun k hk _ hv=>by
  simp only[AV.ment]at hk
  have e:=Nat.eq_of_beq_eq_true hk
  subst e;exact hb hv)
 exact pv_RC (fun _ h=>h) rfl hp this
theorem sub_RC(hrb:∀h,RB ι Fz w h (getH H h))(hf:∀b,Fz b→Fz' b){κ':Kd}{h off len:Nat}{e:TypeId}{xs:List (Den κ')}{c:Ce}{v:Value}(hg:getH H h= .arr e κ' xs)(hp:putC (.list κ') ((xs.drop off).take len)=some c)(hr:RV ι Fz w (.sub κ' h off len) v)
 (hb:(ι h).virt=false→Fz' (ι h).blk):RC Fz' w c v:=by
 have:=leaf0_of (ι':=ι) hrb hf (κ:= .list κ') rfl (a:= .sub κ' h off len) (x:=(xs.drop off).take len) (by simp[leaf0,hg,castD]) hr (fun k hk _ hv=>by
  simp only[AV.ment]at hk
  have e:=Nat.eq_of_beq_eq_true hk
  subst e;exact hb hv)
 exact pv_RC (fun _ h=>h) rfl hp this
mutual
theorem cev_of(hrb:∀h,RB ι Fz w h (getH H h))(hf:∀b,Fz b→Fz' b)(r:Nat→Option Ce):∀(a:AV) (c:Ce) (v:Value),cev r H a=some c→RV ι Fz w a v→
 (∀h,a.ment h=true→(getH H h).isArr→(ι h).virt=false→Fz' (ι h).blk)→
 (∀h c,(∃o,a= .ref h o∨∃t,a= .iface t (.ref h o))→r h=some c→(ι h).virt=false→RC Fz' w c (.pointer (some ⟨(ι h).blk,0,none⟩)))→RC Fz' w c v
 | .pv κ x,c,v,h,hr,_,_=>by
  simp only[cev]at h
  cases hk:κ.isAgg with
  |true=>rw[hk]at h;cases h
  |false=>rw[hk,cond_false]at h;exact pv_RC hf hk h hr
 | .nils,c,v,h,hr,_,_=>by
  simp only[cev,Option.some.injEq]at h;subst h
  simp only[RV]at hr;simpa only[RC]using hr
 | .nilp,c,v,h,hr,_,_=>by
  simp only[cev,Option.some.injEq]at h;subst h
  simp only[RV]at hr;simpa only[RC]using hr
 | .niliface,c,v,h,hr,_,_=>by
  simp only[cev,Option.some.injEq]at h;subst h
  simp only[RV]at hr;simpa only[RC]using hr
 | .eref κ x,c,v,h,hr,_,_=>by
  simp only[cev,Option.bind_eq_some_iff,Option.some.injEq]at h
  obtain⟨cs,h,rfl⟩:=h
  exact eref_RC hf h hr
 | .ref g off,c,v,h,hr,_,hbx=>by
  simp only[cev]at h
  cases ho:Nat.beq off 0 with
  |false=>rw[ho]at h;cases h
  |true=>
   rw[ho,cond_true]at h
   have e:=Nat.eq_of_beq_eq_true ho
   subst e
   simp only[RV]at hr
   obtain⟨hv,rfl⟩:=hr
   exact hbx g c ⟨0, .inl rfl⟩ h hv
 | .own κ g,c,v,h,hr,hb,_=>by
  simp only[cev]at h
  split at h
  ·rename_i e κ' xs hg
   exact own_RC hrb hf hg h hr (hb g (by simp[AV.ment]) (by rw[hg];trivial))
  ·cases h
 | .sub κ₀ g off len,c,v,h,hr,hb,_=>by
  simp only[cev]at h
  split at h
  ·rename_i e κ' xs hg
   cases hd:decide (κ₀=κ')with
   |false=>rw[hd]at h;cases h
   |true=>
    rw[hd,cond_true]at h
    have e:=of_decide_eq_true hd
    subst e
    exact sub_RC hrb hf hg h hr (hb g (by simp[AV.ment]) (by rw[hg];trivial))
  ·cases h
 | .iface t a,c,v,h,hr,hb,hbx=>by
  simp only[cev,Option.bind_eq_some_iff]at h
  obtain⟨y,h1,h⟩:=h
  simp only[RV]at hr
  obtain⟨u,rfl,hr⟩:=hr
  have key:=cevI_of hrb hf r a y u h1 hr (fun k hk=>hb k (by simpa[AV.ment]using hk)) (fun k c hk=>hbx k c (by obtain⟨o,rfl⟩:=hk;exact⟨o, .inr ⟨t,rfl⟩⟩))
  cases y with
  |inl c'=>
   simp only[Option.some.injEq]at h;subst h
   simp only[RC];exact⟨u,rfl,key⟩
  |inr cs=>
   simp only[Option.some.injEq]at h;subst h
   obtain⟨us,rfl,key⟩:=key
   simp only[RC];exact⟨us,rfl,key⟩
 | .agg _,c,v,h,_,_,_=>by simp[cev]at h
 | .aref _ _ _,c,v,h,_,_,_=>by simp[cev]at h
 | .gi _ _,c,v,h,_,_,_=>by simp[cev]at h
 | .ep _,c,v,h,_,_,_=>by simp[cev]at h
 | .mf _ _,c,v,h,_,_,_=>by simp[cev]at h
 | .mfa _ _,c,v,h,_,_,_=>by simp[cev]at h
 | .func _ _,c,v,h,_,_,_=>by simp[cev]at h
 | .nilf,c,v,h,_,_,_=>by simp[cev]at h
 | .nanv,c,v,h,_,_,_=>by simp[cev]at h
 | .bsl _ _,c,v,h,_,_,_=>by simp[cev]at h
 | .pa _ _ _,c,v,h,_,_,_=>by simp[cev]at h
 | .capd _ _,c,v,h,_,_,_=>by simp[cev]at h
 | .tuple _,c,v,h,_,_,_=>by simp[cev]at h
 | .dead,c,v,h,_,_,_=>by simp[cev]at h
theorem cevI_of(hrb:∀h,RB ι Fz w h (getH H h))(hf:∀b,Fz b→Fz' b)(r:Nat→Option Ce):∀(a:AV) (y:Ce⊕List Ce) (v:Value),cevI r H a=some y→RV ι Fz w a v→
 (∀h,a.ment h=true→(getH H h).isArr→(ι h).virt=false→Fz' (ι h).blk)→
 (∀h c,(∃o,a= .ref h o)→r h=some c→(ι h).virt=false→RC Fz' w c (.pointer (some ⟨(ι h).blk,0,none⟩)))→
 (match y with| .inl c=>RC Fz' w c v| .inr cs=>∃us:Array Value,v= .agg us∧RCv Fz' w cs us.toList)
 | .pv κ x,y,v,h,hr,_,_=>by
  simp only[cevI]at h
  cases hk:κ.isAgg with
  |true=>
   rw[hk,cond_true]at h
   simp only[Option.bind_eq_some_iff,Option.some.injEq]at h
   obtain⟨cs,h,rfl⟩:=h
   simp only[RV,hk,if_true]at hr
   obtain⟨vs,rfl,hr⟩:=hr
   exact⟨vs,rfl,putCs_of κ cs x _ h (RP_mono (fun _ _=>rfl) hf _ _ _ hr)⟩
  |false=>
   rw[hk,cond_false]at h
   simp only[Option.bind_eq_some_iff,Option.some.injEq]at h
   obtain⟨c,h,rfl⟩:=h
   exact pv_RC hf hk h hr
 | .agg cs,y,v,h,hr,hb,_=>by
  simp only[cevI,Option.bind_eq_some_iff,Option.some.injEq]at h
  obtain⟨cs',h,rfl⟩:=h
  simp only[RV]at hr
  obtain⟨vs,rfl,_,hr⟩:=hr
  exact⟨_,rfl,by simpa using cevs_of hrb hf (fun _=>none) cs cs' vs h hr (fun k hk=>hb k (by simpa[AV.ment]using hk)) (fun k c a _ _ hn=>by cases hn)⟩
 | .nilp,y,v,h,hr,_,_=>by
  simp only[cevI,Option.some.injEq]at h;subst h
  simp only[RV]at hr;simpa only[RC]using hr
 | .eref κ x,y,v,h,hr,_,_=>by
  simp only[cevI,Option.bind_eq_some_iff,Option.some.injEq]at h
  obtain⟨cs,h,rfl⟩:=h
  exact eref_RC hf h hr
 | .ref g off,y,v,h,hr,_,hbx=>by
  simp only[cevI]at h
  cases ho:Nat.beq off 0 with
  |false=>rw[ho]at h;cases h
  |true=>
   rw[ho,cond_true]at h
   simp only[Option.bind_eq_some_iff,Option.some.injEq]at h
   obtain⟨c,h,rfl⟩:=h
   have e:=Nat.eq_of_beq_eq_true ho
   subst e
   simp only[RV]at hr
   obtain⟨hv,rfl⟩:=hr
   exact hbx g c ⟨0,rfl⟩ h hv
 | .own κ g,y,v,h,hr,hb,_=>by
  simp only[cevI]at h
  split at h
  ·rename_i e κ' xs hg
   simp only[Option.bind_eq_some_iff,Option.some.injEq]at h
   obtain⟨c,h,rfl⟩:=h
   exact own_RC hrb hf hg h hr (hb g (by simp[AV.ment]) (by rw[hg];trivial))
  ·cases h
 | .sub κ₀ g off len,y,v,h,hr,hb,_=>by
  simp only[cevI]at h
  split at h
  ·rename_i e κ' xs hg
   cases hd:decide (κ₀=κ')with
   |false=>rw[hd]at h;cases h
   |true=>
    rw[hd,cond_true]at h
    simp only[Option.bind_eq_some_iff,Option.some.injEq]at h
    obtain⟨c,h,rfl⟩:=h
    have e:=of_decide_eq_true hd
    subst e
    exact sub_RC hrb hf hg h hr (hb g (by simp[AV.ment]) (by rw[hg];trivial))
  ·cases h
 | .nils,y,v,h,_,_,_=>by simp[cevI]at h
 | .niliface,y,v,h,_,_,_=>by simp[cevI]at h
 | .iface _ _,y,v,h,_,_,_=>by simp[cevI]at h
 | .aref _ _ _,y,v,h,_,_,_=>by simp[cevI]at h
 | .gi _ _,y,v,h,_,_,_=>by simp[cevI]at h
 | .ep _,y,v,h,_,_,_=>by simp[cevI]at h
 | .mf _ _,y,v,h,_,_,_=>by simp[cevI]at h
 | .mfa _ _,y,v,h,_,_,_=>by simp[cevI]at h
 | .func _ _,y,v,h,_,_,_=>by simp[cevI]at h
 | .nilf,y,v,h,_,_,_=>by simp[cevI]at h
 | .nanv,y,v,h,_,_,_=>by simp[cevI]at h
 | .bsl _ _,y,v,h,_,_,_=>by simp[cevI]at h
 | .pa _ _ _,y,v,h,_,_,_=>by simp[cevI]at h
 | .capd _ _,y,v,h,_,_,_=>by simp[cevI]at h
 | .tuple _,y,v,h,_,_,_=>by simp[cevI]at h
 | .dead,y,v,h,_,_,_=>by simp[cevI]at h
theorem cevs_of(hrb:∀h,RB ι Fz w h (getH H h))(hf:∀b,Fz b→Fz' b)(r:Nat→Option Ce):∀(l:List AV) (cs:List Ce) (vs:List Value),cevs r H l=some cs→RVs ι Fz w l vs→
 (∀h,mentL h l=true→(getH H h).isArr→(ι h).virt=false→Fz' (ι h).blk)→
 (∀h c a,a∈l→(∃o,a= .ref h o∨∃t,a= .iface t (.ref h o))→r h=some c→(ι h).virt=false→RC Fz' w c (.pointer (some ⟨(ι h).blk,0,none⟩)))→RCv Fz' w cs vs
 |[],cs,vs,h,hr,_,_=>by
  simp only[cevs,Option.some.injEq]at h;subst h
  simp only[RVs]at hr;subst hr;simp only[RCv]
 |a::l,cs,vs,h,hr,hb,hbx=>by
  simp only[cevs,Option.bind_eq_some_iff,Option.some.injEq]at h
  obtain⟨c,h1,cs',h2,rfl⟩:=h
  simp only[RVs]at hr
  obtain⟨v,q,rfl,r1,r2⟩:=hr
  simp only[RCv]
  exact⟨v,q,rfl,cev_of hrb hf r a c v h1 r1 (fun k hk=>hb k (by simp[mentL,hk])) (fun k c hk=>hbx k c a (by simp) hk),
   cevs_of hrb hf r l cs' q h2 r2 (fun k hk=>hb k (by simp[mentL,hk])) (fun k c a ha=>hbx k c a (by simp[ha]))⟩
end
theorem boxC_of(hrb:∀h,RB ι Fz w h (getH H h))(hf:∀b,Fz b→Fz' b):∀(d h:Nat) (c:Ce),boxC H d h=some c→(ι h).virt=false→(getH H h).live→
 (∀k,mentL k (.ref h 0::(match getH H h with| .box cs=>boxL H d cs|_=>[]))=true→(getH H k).live→(ι k).virt=false→Fz' (ι k).blk)→RC Fz' w c (.pointer (some ⟨(ι h).blk,0,none⟩))
 |0,_,_,h,_,_,_=>by simp[boxC]at h
 |d+1,g,c,h,hv,hlv,hb=>by
  simp only[boxC]at h
  have hg:=hrb g
  split at h
  ·rename_i cs hc
   rw[hc]at hg
   simp only[RB]at hg
   obtain⟨_,vs,T,⟨rest,hh⟩,hcs,h1⟩:=hg
   simp only[Option.bind_eq_some_iff,Option.some.injEq]at h
   obtain⟨cs',h,rfl⟩:=h
   rw[hc]at hb
   simp only[RC]
   refine⟨(ι g).blk,0,rfl,hb g (by simp[mentL,AV.ment]) hlv hv,RCv_lie (es:=vs) (cevs_of hrb hf (boxC H d) cs cs' vs h hcs (fun k hk ha=>hb k ?_ (by revert ha;cases getH H k<;>simp[AB.isArr,AB.live])) fun k c a ha hk hbc hkv=> ?_) fun j u hj=> ?_⟩
   ·simp only[mentL,Bool.or_eq_true]
    right
    simp only[boxL]
    exact mentL_left hk
   ·have hlk:(getH H k).live:=by
     cases d with
     |zero=>simp[boxC]at hbc
     | succ d => simp only [boxC] at hbc; split at hbc; · rename_i hq; rw [hq]; trivial
                 ·cases hbc
    refine boxC_of hrb hf d k c hbc hkv hlk fun q hq=>hb q ?_
    simp only[mentL,Bool.or_eq_true]at hq⊢
    right
    simp only[boxL]
    rcases hq with hq|hq
    ·refine mentL_left (mentL_mem ha ?_)
     obtain⟨o,rfl|⟨t,rfl⟩⟩:=hk<;>simpa[AV.ment]using hq
    ·refine mentL_right (mentL_flat ha ?_)
     obtain⟨o,rfl|⟨t,rfl⟩⟩:=hk
     ·exact hq
     ·exact hq
   ·have:=List.getElem?_append_left (l₂:=rest) (List.getElem?_eq_some_iff.1 hj).1
    simp[World.cell?,hh,this,hj]
  ·cases h
end
theorem leafD_of{ι ι':Nat→HI}{Fz Fz':Nat→Prop}{w:World}{H:List (Nat×AB)}(hrb:∀h,RB ι Fz w h (getH H h))(hf:∀b,Fz b→Fz' b)
 {κ:Kd} (hk:κ.isAgg=false) {a:AV} {x:Den κ} {v:Value} (h:leafD H κ a=some x) (hr:RV ι Fz w a v)
 (hb:∀h,a.ment h=true→(getH H h).isArr→(ι h).virt=false→Fz' (ι h).blk):RV ι' Fz' w (.pv κ x) v:=by
 by_cases he:κ= .any
 ·subst he
  rw[RV_any]
  exact cev_of hrb hf (fun _=>none) a x v h hr hb (fun _ _ _ hn=>by cases hn)
 ·rw[leafD_ne he]at h
  exact leaf0_of hrb hf hk h hr hb
theorem leaf_RP{ι:Nat→HI}{Fz:Nat→Prop}{w:World}{κ:Kd}(hk:κ.isAgg=false){x:Den κ}{v:Value}(h:RV ι Fz w (.pv κ x) v):RP Fz w κ x [v]:=by
 simpa only[RV,hk,Bool.false_eq_true,if_false]using h
theorem cellsD_leaf{H:List (Nat×AB)}{κ:Kd}(hk:κ.isAgg=false){cs:List AV}{x:Den κ}{r:List AV}(h:cellsD H κ cs=some (x,r)):
 ∃c,cs=c::r∧leafD H κ c=some x:=by
 cases κ<;>first|(simp[Kd.isAgg]at hk;done)|skip
 all_goals
  cases cs with
  |nil=>simp[cellsD]at h
  |cons c cs=>
   simp only[cellsD,Option.bind_eq_some_iff,Option.some.injEq,Prod.mk.injEq]at h
   obtain⟨y,h1,rfl,rfl⟩:=h
   exact⟨c,rfl,h1⟩
theorem cellsD_of{ι:Nat→HI}{Fz Fz':Nat→Prop}{w:World}{H:List (Nat×AB)}(hrb:∀h,RB ι Fz w h (getH H h))(hf:∀b,Fz b→Fz' b):
 ∀(κ:Kd) (cs:List AV) (x:Den κ) (r:List AV) (vs:List Value),cellsD H κ cs=some (x,r)→RVs ι Fz w cs vs→
  (∀h,mentL h cs=true→(getH H h).isArr→(ι h).virt=false→Fz' (ι h).blk)→∃v1 v2,vs=v1++v2∧RP Fz' w κ x v1∧RVs ι Fz w r v2∧(∀h,mentL h r=true→mentL h cs=true)
 | .unit,cs,x,r,vs,h,hr,hb=>by
  simp only[cellsD,Option.some.injEq,Prod.mk.injEq]at h
  obtain⟨_,rfl⟩:=h
  exact⟨[],vs,rfl,rfl,hr,fun _ h=>h⟩
 | .pair a b,cs,x,r,vs,h,hr,hb=>by
  simp only[cellsD,Option.bind_eq_some_iff,Option.some.injEq,Prod.mk.injEq]at h
  obtain⟨p,h1,q,h2,rfl,rfl⟩:=h
  obtain⟨v1,v2,rfl,r1,r2,m1⟩:=cellsD_of hrb hf a cs p.1 p.2 vs h1 hr hb
  obtain⟨v3,v4,rfl,r3,r4,m2⟩:=cellsD_of hrb hf b p.2 q.1 q.2 v2 h2 r2 (fun h hh=>hb h (m1 h hh))
  exact⟨v1++v3,v4,by simp,⟨v1,v3,rfl,r1,r3⟩,r4,fun h hh=>m1 h (m2 h hh)⟩
 | .geo,cs,x,r,vs,h,hr,hb=>by
  match cs,h,hr,hb with
  |c0::c1::c2::c3::c4::c5::c6::cs,h,hr,hb=>
   simp only[cellsD,Option.bind_eq_some_iff,Option.some.injEq,Prod.mk.injEq]at h
   obtain⟨x0,h0,x1,h1,x2,h2,x3,h3,x4,h4,x5,h5,x6,h6,rfl,rfl⟩:=h
   simp only[RVs]at hr
   obtain⟨u0,_,rfl,r0,u1,_,rfl,r1,u2,_,rfl,r2,u3,_,rfl,r3,u4,_,rfl,r4,u5,_,rfl,r5,u6,v2,rfl,r6,r7⟩:=hr
   have hb':∀c∈[c0,c1,c2,c3,c4,c5,c6],∀h,c.ment h=true→(getH H h).isArr→(ι h).virt=false→Fz' (ι h).blk:=by
    intro c hc h hm
    refine hb h ?_
    simp only[List.mem_cons,List.not_mem_nil,or_false]at hc
    simp only[mentL]
    rcases hc with rfl|rfl|rfl|rfl|rfl|rfl|rfl<;>simp[hm]
   have k0:=leaf_RP rfl (leafD_of (ι':=ι) hrb hf rfl h0 r0 (hb' c0 (by simp)))
   have k1:=leaf_RP rfl (leafD_of (ι':=ι) hrb hf rfl h1 r1 (hb' c1 (by simp)))
   have k2:=leaf_RP rfl (leafD_of (ι':=ι) hrb hf rfl h2 r2 (hb' c2 (by simp)))
   have k3:=leaf_RP rfl (leafD_of (ι':=ι) hrb hf rfl h3 r3 (hb' c3 (by simp)))
   have k4:=leaf_RP rfl (leafD_of (ι':=ι) hrb hf rfl h4 r4 (hb' c4 (by simp)))
   have k5:=leaf_RP rfl (leafD_of (ι':=ι) hrb hf rfl h5 r5 (hb' c5 (by simp)))
   have k6:=leaf_RP rfl (leafD_of (ι':=ι) hrb hf rfl h6 r6 (hb' c6 (by simp)))
   simp only[RP,List.cons.injEq,and_true]at k0 k1 k2
   subst k0 k1 k2
   obtain⟨_,e3,k3⟩:=k3
   obtain⟨_,e4,k4⟩:=k4
   obtain⟨_,e5,k5⟩:=k5
   obtain⟨_,e6,a,c,e6',k6,k7⟩:=k6
   simp only[List.cons.injEq,and_true]at e3 e4 e5 e6
   subst e3 e4 e5 e6
   subst e6'
   refine⟨[.int .i64 x0, .int .i64 x1, .int .i64 x2,u3,u4,u5, .slice a x6.length c],v2,rfl, ?_,r7,fun h hh=>by simp[mentL,hh]⟩
   simp only[RP,RG]
   refine⟨u3,u4,u5,a,c,rfl,k3,k4,k5,k6, ?_⟩
   rcases k7 with k7|⟨b,off,ha,hb,k7⟩
   ·exact .inl k7
   ·exact .inr ⟨b,off,ha,hb,RGs_of x6 b off fun i x hx=>k7 i x hx⟩
  |[],h,_,_=>simp[cellsD]at h
  |[_],h,_,_=>simp[cellsD]at h
  |[_,_],h,_,_=>simp[cellsD]at h
  |[_,_,_],h,_,_=>simp[cellsD]at h
  |[_,_,_,_],h,_,_=>simp[cellsD]at h
  |[_,_,_,_,_],h,_,_=>simp[cellsD]at h
  |[_,_,_,_,_,_],h,_,_=>simp[cellsD]at h
 | .int k,cs,x,r,vs,h,hr,hb=>by
  obtain⟨c,rfl,h1⟩:=cellsD_leaf rfl h
  simp only[RVs]at hr
  obtain⟨v,r',rfl,hr1,hr2⟩:=hr
  exact⟨[v],r',rfl,leaf_RP rfl (leafD_of (ι':=ι) hrb hf rfl h1 hr1 (fun h hm=>hb h (by simp[mentL,hm]))),hr2,fun h hh=>by simp[mentL,hh]⟩
 | .float,cs,x,r,vs,h,hr,hb=>by
  obtain⟨c,rfl,h1⟩:=cellsD_leaf rfl h
  simp only[RVs]at hr
  obtain⟨v,r',rfl,hr1,hr2⟩:=hr
  exact⟨[v],r',rfl,leaf_RP rfl (leafD_of (ι':=ι) hrb hf rfl h1 hr1 (fun h hm=>hb h (by simp[mentL,hm]))),hr2,fun h hh=>by simp[mentL,hh]⟩
 | .bool,cs,x,r,vs,h,hr,hb=>by
  obtain⟨c,rfl,h1⟩:=cellsD_leaf rfl h
  simp only[RVs]at hr
  obtain⟨v,r',rfl,hr1,hr2⟩:=hr
  exact⟨[v],r',rfl,leaf_RP rfl (leafD_of (ι':=ι) hrb hf rfl h1 hr1 (fun h hm=>hb h (by simp[mentL,hm]))),hr2,fun h hh=>by simp[mentL,hh]⟩
 | .str,cs,x,r,vs,h,hr,hb=>by
  obtain⟨c,rfl,h1⟩:=cellsD_leaf rfl h
  simp only[RVs]at hr
  obtain⟨v,r',rfl,hr1,hr2⟩:=hr
  exact⟨[v],r',rfl,leaf_RP rfl (leafD_of (ι':=ι) hrb hf rfl h1 hr1 (fun h hm=>hb h (by simp[mentL,hm]))),hr2,fun h hh=>by simp[mentL,hh]⟩
 | .list e,cs,x,r,vs,h,hr,hb=>by
  obtain⟨c,rfl,h1⟩:=cellsD_leaf rfl h
  simp only[RVs]at hr
  obtain⟨v,r',rfl,hr1,hr2⟩:=hr
  exact⟨[v],r',rfl,leaf_RP rfl (leafD_of (ι':=ι) hrb hf rfl h1 hr1 (fun h hm=>hb h (by simp[mentL,hm]))),hr2,fun h hh=>by simp[mentL,hh]⟩
 | .any,cs,x,r,vs,h,hr,hb=>by
  obtain⟨c,rfl,h1⟩:=cellsD_leaf rfl h
  simp only[RVs]at hr
  obtain⟨v,r',rfl,hr1,hr2⟩:=hr
  exact⟨[v],r',rfl,leaf_RP rfl (leafD_of (ι':=ι) hrb hf rfl h1 hr1 (fun h hm=>hb h (by simp[mentL,hm]))),hr2,fun h hh=>by simp[mentL,hh]⟩
 | .nl e,cs,x,r,vs,h,hr,hb=>by
  obtain⟨c,rfl,h1⟩:=cellsD_leaf rfl h
  simp only[RVs]at hr
  obtain⟨v,r',rfl,hr1,hr2⟩:=hr
  exact⟨[v],r',rfl,leaf_RP rfl (leafD_of (ι':=ι) hrb hf rfl h1 hr1 (fun h hm=>hb h (by simp[mentL,hm]))),hr2,fun h hh=>by simp[mentL,hh]⟩
theorem argD_of{ι ι':Nat→HI}{Fz Fz':Nat→Prop}{w:World}{H:List (Nat×AB)}(hrb:∀h,RB ι Fz w h (getH H h))(hf:∀b,Fz b→Fz' b)
 {κ:Kd} {a:AV} {x:Den κ} {v:Value} (h:argD H κ a=some x) (hr:RV ι Fz w a v)
 (hb:∀h,a.ment h=true→(getH H h).isArr→(ι h).virt=false→Fz' (ι h).blk):RV ι' Fz' w (.pv κ x) v:=by
 cases hk:κ.isAgg with
 |false=>
  have key:leafD H κ a=some x:=by
   cases a<;>simp only[argD,hk,cond_false]at h<;>first|exact h|skip
   simp only[Option.bind_eq_some_iff]at h
   obtain⟨p,_,h⟩:=h
   split at h<;>cases h
  exact leafD_of hrb hf hk key hr hb
 |true=>
  cases a<;>simp only[argD,hk,cond_true]at h<;>first|(cases h;done)|skip
  ·rename_i κ' y
   have e:=castD_list h
   subst e
   simp only[castD,dif_pos,Option.some.injEq]at h
   subst h
   exact pv_mono (fun _ _=>rfl) hf hr
  ·rename_i cs
   simp only[Option.bind_eq_some_iff]at h
   obtain⟨p,h1,h⟩:=h
   split at h
   ·rename_i hp
    simp only[Option.some.injEq]at h
    subst h
    simp only[RV]at hr
    obtain⟨vs,rfl,_,hr⟩:=hr
    obtain⟨v1,v2,rfl,r1,r2,_⟩:=cellsD_of hrb hf κ cs p.1 p.2 vs (by rw[h1]) hr (fun h hm=>hb h (by simpa[AV.ment]using hm))
    rw[hp]at r2
    simp only[RVs]at r2
    subst r2
    simp only[RV,hk,if_true]
    exact⟨_,rfl,by simpa using r1⟩
   ·cases h
def ι0:Nat→HI:=fun _=>⟨0,0,0,true⟩
def RA(Fz:Nat→Prop)(w:World):(ps:List Par)→HL ps→List Value→Prop
 |[],_,vs=>vs=[]
 | .k κ::ps,x,vs=>∃v r,vs=v::r∧RV ι0 Fz w (.pv κ x.1) v∧RA Fz w ps x.2 r
 | .fn f::ps,x,vs=>∃r,vs= .func (.func f) #[] #[]::r∧RA Fz w ps x r
 | .ifc t κ::ps,x,vs=>∃v r,vs= .iface t v::r∧RV ι0 Fz w (.pv κ x.1) v∧RA Fz w ps x.2 r
theorem argsD_of{ι:Nat→HI}{Fz Fz':Nat→Prop}{w:World}{H:List (Nat×AB)}(hrb:∀h,RB ι Fz w h (getH H h))(hf:∀b,Fz b→Fz' b):
 ∀(ps:List Par) (avs:List AV) (x:HL ps) (vs:List Value),argsD H ps avs=some x→RVs ι Fz w avs vs→
 (∀h,mentL h avs=true→(getH H h).isArr→(ι h).virt=false→Fz' (ι h).blk)→RA Fz' w ps x vs
 |[],[],x,vs,_,hr,_=>by simpa only[RVs,RA]using hr
 |[],_::_,_,_,h,_,_=>by simp[argsD]at h
 | .k κ::ps,[],_,_,h,_,_=>by simp[argsD]at h
 | .fn f::ps,[],_,_,h,_,_=>by simp[argsD]at h
 | .ifc t κ::ps,[],_,_,h,_,_=>by simp[argsD]at h
 | .k κ::ps,a::avs,x,vs,h,hr,hb=>by
  simp only[argsD,Option.bind_eq_some_iff,Option.some.injEq]at h
  obtain⟨y,h1,z,h2,rfl⟩:=h
  simp only[RVs]at hr
  obtain⟨v,r,rfl,r1,r2⟩:=hr
  simp only[RA]
  exact⟨v,r,rfl,argD_of hrb hf h1 r1 (fun h hm=>hb h (by simp[mentL,hm])),argsD_of hrb hf ps avs z r h2 r2 (fun h hm=>hb h (by simp[mentL,hm]))⟩
 | .fn f::ps,a::avs,x,vs,h,hr,hb=>by
  simp only[RVs]at hr
  obtain⟨v,r,rfl,r1,r2⟩:=hr
  simp only[argsD]at h
  split at h
  ·rename_i g
   cases hg:Nat.beq f g with
   |false=>rw[hg]at h;cases h
   |true=>
    rw[hg]at h
    have e:=Nat.eq_of_beq_eq_true hg
    subst e
    simp only[RV,RVs]at r1
    obtain⟨us,rfl,rfl⟩:=r1
    simp only[RA]
    exact⟨r,rfl,argsD_of hrb hf ps avs x r h r2 (fun h hm=>hb h (by simp[mentL,hm]))⟩
  ·cases h
 | .ifc t κ::ps,a::avs,x,vs,h,hr,hb=>by
  simp only[RVs]at hr
  obtain⟨v,r,rfl,r1,r2⟩:=hr
  simp only[argsD]at h
  split at h
  ·rename_i u a
   cases hg:Nat.beq t u with
   |false=>rw[hg]at h;cases h
   |true=>
    rw[hg]at h
    have e:=Nat.eq_of_beq_eq_true hg
    subst e
    simp only[cond_true,Option.bind_eq_some_iff,Option.some.injEq]at h
    obtain⟨y,h1,z,h2,rfl⟩:=h
    simp only[RV]at r1
    obtain⟨v',rfl,r1⟩:=r1
    simp only[RA]
    exact⟨v',r,rfl,argD_of hrb hf h1 r1 (fun h hm=>hb h (by simp[mentL,AV.ment,hm])),argsD_of hrb hf ps avs z r h2 r2 (fun h hm=>hb h (by simp[mentL,hm]))⟩
  ·cases h
def CallGives(P:Program)(f:FuncId)(args:List Value)(w:World)(G:Value→World→Prop):Prop:=
 (∃v w',(callFunc f args.toArray).run P w= .ok (.value v) w'∧G v w')∨
 ((callFunc f args.toArray).run P w= .ok (.enter f args.toArray) w∧Calls P f args.toArray w fun e w'=>∃v,e= .returned v∧G v w')
def Con.Sound(P:Program)(gl:List Gl)(c:Con):Prop:=
 ∀(w:World) (Fz:Nat→Prop) (x:HL c.ps) (vals:List Value) (y:HR c.rs),(∀b,Fz b→b<w.heap.size)→GOK gl Fz w→RA Fz w c.ps x vals→c.fn x=some y→
  CallGives P c.fid vals w fun v w'=>Below w.heap.size w w'∧∃Fz':Nat→Prop,(∀b,Fz b→Fz' b)∧(∀b,Fz' b→Fz b∨w.heap.size≤b)∧(∀b,Fz' b→b<w'.heap.size)∧
   RV ι0 Fz' w' (resV c.rs y) v
def OpGives(P:Program)(o:Oper)(a:Act)(w:World)(G:Value→World→Prop):Prop:=
 (∃v w',(execOp a.eval o).run P w= .ok (.value v) w'∧G v w')∨(∃w',(execOp a.eval o).run P w= .ok .skip w'∧G undef w')∨
 (∃f args,(execOp a.eval o).run P w= .ok (.enter f args) w∧Calls P f args w fun e w'=>∃v,e= .returned v∧G v w')
theorem OpGives.wp{P:Program}{o:Oper}{a:Act}{w:World}{G:Value→World→Prop}{K:Act→World→Prop}{Q:Exit→Act→World→Prop}
 (h:OpGives P o a w G) (hk:∀v w',G v w'→K (a.put o.dst v) w'):o.wp P a w K Q:=by
 unfold Oper.wp
 rcases h with⟨v,w',hr,hg⟩|⟨w',hr,hg⟩|⟨f,args,hr,hc⟩
 ·rw[hr];exact hk v w' hg
 ·rw[hr];exact hk _ w' hg
 ·rw[hr]
  refine hc.mono ?_
  rintro e w' ⟨v,rfl,hg⟩
  exact hk v w' hg
theorem OpGives.val{P:Program}{o:Oper}{a:Act}{w:World}{G:Value→World→Prop}{v:Value}(h:(execOp a.eval o).run P w= .ok (.value v) w)(hg:G v w):OpGives P o a w G:= .inl ⟨v,w,h,hg⟩
theorem OpGives.mono{P:Program}{o:Oper}{a:Act}{w:World}{G G':Value→World→Prop}(h:OpGives P o a w G)(hg:∀v w',G v w'→G' v w'):OpGives P o a w G':=by
 rcases h with⟨v,w',hr,h⟩|⟨w',hr,h⟩|⟨f,args,hr,hc⟩
 ·exact .inl ⟨v,w',hr,hg _ _ h⟩
 ·exact .inr (.inl ⟨w',hr,hg _ _ h⟩)
 ·exact .inr (.inr ⟨f,args,hr,hc.mono fun e w' ⟨v,e,h⟩=>⟨v,e,hg _ _ h⟩⟩)
end Go.Av
namespace Go.Av
open Go Go.RowKit
theorem run_size{P:Program}{t:TypeId}{i:TypeInfo}(h:P.info? t=some i)(w:World):(sizeOf t).run P w= .ok i.size w:=by simp[sizeOf,typeInfo,h]
theorem run_agg{P:Program}{t:TypeId}{b:Bool}(h:aggIs P t b=true)(w:World):(isAgg t).run P w= .ok b w:=by
 unfold aggIs at h
 simp only[isAgg,Sem.run_bind]
 split at h
 ·rename_i e;simp[run_underlying e,h]
 ·rename_i e;simp[run_underlying e,h]
 ·rename_i d h1 h2 e
  simp only[run_underlying e,Result.andThen_ok]
  cases d<;>first|(exact absurd rfl (h1 _);done)|(exact absurd rfl (h2 _ _);done)|(simp at h;subst h;rfl)
 ·cases h
theorem run_part{P:Program}{t:TypeId}{cs:Array Value}{off:Nat}{b:Bool}{i:TypeInfo}(w:World)(ha:aggIs P t b=true)(hi:P.info? t=some i):
 (part t cs off).run P w = if b then .ok (.agg (cs.extract off (off + i.size))) w else match cs[off]? with | some v => .ok v w | none => (stuck "part: no such cell" : Sem Value).run P w := by
 cases b
 ·simp only[part,Sem.run_bind,run_agg ha,Result.andThen_ok,Bool.false_eq_true,if_false]
  cases cs[off]?<;>simp
 ·simp[part,run_agg ha,run_size hi]
theorem run_part_cell{P:Program}{t:TypeId}{cs:Array Value}{off:Nat}{v:Value}(w:World)(ha:aggIs P t false=true)(hv:cs[off]?=some v):
 (part t cs off).run P w= .ok v w:=by
 simp only[part,Sem.run_bind,run_agg ha,Result.andThen_ok,Bool.false_eq_true,if_false,hv]
 simp
theorem RVs_cons{ι:Nat→HI}{Fz:Nat→Prop}{w:World}{c:AV}{cs:List AV}{vs:List Value}(h:RVs ι Fz w (c::cs) vs):∃v r,vs=v::r∧RV ι Fz w c v∧RVs ι Fz w cs r:=by
 simpa only[RVs]using h
def After(w0:Root)(Fz0:Nat→Prop)(ι:Nat→HI)(Fz:Nat→Prop)(H:List (Nat×AB))(w:World)(d:Nat)(v:AV)(ob:Option AB)(v':Value)(w':World):Prop:=
 ∃(ι':Nat→HI) (Fz':Nat→Prop),(∀b,Fz b→w'.heap[b]?=w.heap[b]?)∧(∀b,Fz b→Fz' b)∧(∀h,(ob=none∨h≠d)→ι' h=ι h)∧
  Mem w0 Fz0 ι' Fz' (match ob with|none=>H|some b=>(d,b)::strikeH d H) w'∧RV ι' Fz' w' v v'
theorem After.same{w0:Root}{Fz0:Nat→Prop}{ι:Nat→HI}{Fz:Nat→Prop}{H:List (Nat×AB)}{w:World}{d:Nat}{v:AV}{v':Value}
 (m:Mem w0 Fz0 ι Fz H w) (h:RV ι Fz w v v'):After w0 Fz0 ι Fz H w d v none v' w:=
 ⟨ι,Fz,fun _ _=>rfl,fun _ h=>h,fun _ _=>rfl,m,h⟩
theorem RV_int{ι:Nat→HI}{Fz:Nat→Prop}{w:World}{k:IntKind}{n:Int}{v:Value}:RV ι Fz w (.pv (.int k) n) v↔v= .int k n:=by simp[RV,Kd.isAgg,RP]
theorem RV_float{ι:Nat→HI}{Fz:Nat→Prop}{w:World}{n:Nat}{v:Value}:RV ι Fz w (.pv .float n) v↔v= .float .f64 n:=by simp[RV,Kd.isAgg,RP]
theorem RV_bool{ι:Nat→HI}{Fz:Nat→Prop}{w:World}{n:Bool}{v:Value}:RV ι Fz w (.pv .bool n) v↔v= .bool n:=by simp[RV,Kd.isAgg,RP]
theorem RV_str{ι:Nat→HI}{Fz:Nat→Prop}{w:World}{n:ByteArray}{v:Value}:RV ι Fz w (.pv .str n) v↔v= .string n:=by simp[RV,Kd.isAgg,RP]
section
variable {R:Type} {P:Program} {ι:Nat→HI} {Fz:Nat→Prop} {w:World}
theorem binI_of{op:BinOp}{k:IntKind}{x y:Int}{K:AV→Option R}{r:R}(t:TypeId)(hi:isInt op=true)(h:binI op k x y K=some r):
 ∃v,K v=some r∧∃v',(binOp op t (.int k x) (.int k y)).run P w= .ok v' w∧RV ι Fz w v v':=by
 cases op<;>simp only[binI]at h<;>first|(cases h;done)|(simp[isInt]at hi;done)|skip
 case quo=>
  split at h
  ·cases h
  ·rename_i hy
   refine⟨_,h,_, ?_,RV_int.2 rfl⟩
   simp[binOp,Op.intDiv,hy]
 case rem=>
  split at h
  ·cases h
  ·rename_i hy
   refine⟨_,h,_, ?_,RV_int.2 rfl⟩
   simp[binOp,Op.intDiv,hy]
 all_goals
  refine⟨_,h,_, ?_,by first|exact RV_int.2 rfl|exact RV_bool.2 rfl⟩
  first
  |(simp only[binOp_and,binOp_or,binOp_xor,binOp_andNot,intBits_and,intBits_or,intBits_xor,intBits_andNot,Sem.run_pure];done)
  |(simp[binOp,Op.intArith,Op.intCmp];done)
theorem shI_of{op:BinOp}{k k':IntKind}{x y:Int}{K:AV→Option R}{r:R}(t:TypeId)(h:shI op k x y K=some r):
 ∃v,K v=some r∧∃v',(binOp op t (.int k x) (.int k' y)).run P w= .ok v' w∧RV ι Fz w v v':=by
 cases op<;>simp only[shI]at h<;>first|(cases h;done)|skip
 all_goals
  split at h
  ·cases h
  ·rename_i hy
   refine⟨_,h,_, ?_,RV_int.2 rfl⟩
   simp[binOp,Op.shift,hy]
theorem binF_of{op:BinOp}{x y:Nat}{K:AV→Option R}{r:R}(t:TypeId)(h:binF op x y K=some r):
 ∃v,K v=some r∧∃v',(binOp op t (.float .f64 x) (.float .f64 y)).run P w= .ok v' w∧RV ι Fz w v v':=by
 cases op<;>simp only[binF]at h<;>first|(cases h;done)|skip
 case add=>
  obtain⟨z,hz,h⟩:=Option.bind_eq_some_iff.1 h
  exact⟨_,h,_,run_float_arith w .add t .f64 x y z hz,RV_float.2 rfl⟩
 case sub=>
  obtain⟨z,hz,h⟩:=Option.bind_eq_some_iff.1 h
  exact⟨_,h,_,run_float_arith w .sub t .f64 x y z hz,RV_float.2 rfl⟩
 case mul=>
  obtain⟨z,hz,h⟩:=Option.bind_eq_some_iff.1 h
  exact⟨_,h,_,run_float_arith w .mul t .f64 x y z hz,RV_float.2 rfl⟩
 case quo=>
  obtain⟨z,hz,h⟩:=Option.bind_eq_some_iff.1 h
  exact⟨_,h,_,run_float_arith w .quo t .f64 x y z hz,RV_float.2 rfl⟩
 all_goals
  refine⟨_,h,_, ?_,RV_bool.2 rfl⟩
  first|(simp only[binOp_float_cmp_eql,binOp_float_cmp_neq,binOp_float_cmp_lss,binOp_float_cmp_leq,binOp_float_cmp_gtr,binOp_float_cmp_geq,Sem.run_pure];rfl)
theorem nanK_of{op:BinOp}{x y:Nat}{K:AV→Option R}{r:R}(t:TypeId)(ho:Ieee.double.order x y=none)(h:nanK op K=some r):
 ∃v,K v=some r∧∃v',(binOp op t (.float .f64 x) (.float .f64 y)).run P w= .ok v' w∧RV ι Fz w v v':=by
 refine binF_of t ?_
 cases op<;>simp only[nanK]at h<;>first|(cases h;done)|(simp only[binF,feq,fne,flt,fle,fgt,fge,ho];exact h)
theorem cmpK_of{op:BinOp}{b:Bool}{K:AV→Option R}{r:R}(h:cmpK op b K=some r):(op= .eql∧K (.pv .bool b)=some r)∨(op= .neq∧K (.pv .bool (!b))=some r):=by
 cases op<;>simp only[cmpK]at h<;>first|(cases h;done)|exact .inl ⟨rfl,h⟩|exact .inr ⟨rfl,h⟩
theorem run_equal{t:TypeId}{x y:Value}{b:Bool}(h:∀d,(Op.equalIn (d+1) t x y).run P w= .ok b w):(Op.equal t x y).run P w= .ok b w:=h 9999
theorem eq_of{op:BinOp}{t:TypeId}{x y:Value}{b:Bool}{K:AV→Option R}{r:R}(he:∀op,(op= .eql∨op= .neq)→binOp op t x y=(if op= .eql then(do pure (.bool (←Op.equal t x y)))else do pure (.bool (!(←Op.equal t x y)))))
 (hq:(Op.equal t x y).run P w= .ok b w) (h:cmpK op b K=some r):
 ∃v,K v=some r∧∃v',(binOp op t x y).run P w= .ok v' w∧RV ι Fz w v v':=by
 rcases cmpK_of h with⟨rfl,h⟩|⟨rfl,h⟩
 ·exact⟨_,h, .bool b,by rw[he _ (.inl rfl)];simp[hq],RV_bool.2 rfl⟩
 ·exact⟨_,h, .bool (!b),by rw[he _ (.inr rfl)];simp[hq],RV_bool.2 rfl⟩
theorem eqGuard_of{op:BinOp}{t:TypeId}{x y:Operand}{vx vy:Value}(h1:(vx= .nilIface∧vy= .nilIface)→(isConst x||isConst y)=true)(h2:¬∃c,vx= .agg c):eqGuard op t x y vx vy=pure ():=by
 cases vx
 case agg c=>exact absurd ⟨c,rfl⟩ h2
 case nilIface=>
  cases vy
  case nilIface=>
   have:=h1 ⟨rfl,rfl⟩
   cases x<;>cases y<;>first|(simp[isConst]at this;done)|(cases op<;>rfl)
  all_goals(cases op<;>rfl)
 all_goals(cases op<;>rfl)
theorem eqLeaf_of{t:TypeId}{x y:AV}{vx vy:Value}{b:Bool}(hx:RV ι Fz w x vx)(hy:RV ι Fz w y vy)(h:eqLeaf P t x y=some b):
 (∀d,(Op.equalIn (d+1) t vx vy).run P w= .ok b w)∧aggIs P t false=true∧(∃i,P.info? t=some i):=by
 have info:∀{u},P.underlying t=some u→∃i,P.info? t=some i:=by
  intro u hu
  cases hi:P.info? t with
  |some i=>exact⟨i,rfl⟩
  |none=>simp[Program.underlying,hi]at hu
 unfold eqLeaf at h
 split at h
 ·split at h<;>try(cases h;done)
  split at h<;>try(cases h;done)
  rename_i hu
  rw[RV_float]at hx hy
  subst hx hy
  simp only[Option.some.injEq]at h
  subst h
  refine⟨fun d=> ?_,by unfold aggIs;rw[hu];rfl,info hu⟩
  simp[Op.equalIn,run_underlying hu,feq]
  rfl
 ·split at h<;>try(cases h;done)
  split at h<;>try(cases h;done)
  rename_i hu
  rw[RV_int]at hx hy
  subst hx hy
  rename_i k a _ k' b' _ _
  cases hd:decide (k=k')with
  |false=>rw[hd]at h;cases h
  |true=>
  rw[hd]at h
  have e:=of_decide_eq_true hd
  subst e
  simp only[cond_true,Option.some.injEq]at h
  subst h
  exact⟨fun d=>run_equalIn_int w d t _ _ _ _ hu,by unfold aggIs;rw[hu];rfl,info hu⟩
 ·split at h<;>try(cases h;done)
  split at h<;>try(cases h;done)
  rename_i hu
  rw[RV_bool]at hx hy
  subst hx hy
  simp only[Option.some.injEq]at h
  subst h
  exact⟨fun d=>run_equalIn_bool w d t _ _ hu,by unfold aggIs;rw[hu];rfl,info hu⟩
 ·split at h<;>try(cases h;done)
  split at h<;>try(cases h;done)
  rename_i hu
  rw[RV_str]at hx hy
  subst hx hy
  simp only[Option.some.injEq]at h
  subst h
  exact⟨fun d=>run_equalIn_string w d t _ _ hu,by unfold aggIs;rw[hu];rfl,info hu⟩
 ·cases h
def EqGives(P:Program)(w:World)(k:Nat)(t:TypeId)(vs us:List Value)(b:Bool):Prop:=
 (aggIs P t true=true∧(Op.equalIn k t (.agg vs.toArray) (.agg us.toArray)).run P w= .ok b w)∨
 (aggIs P t false=true∧∃v u,vs=[v]∧us=[u]∧(Op.equalIn k t v u).run P w= .ok b w)
theorem RVs_drop_of{ι:Nat→HI}{Fz:Nat→Prop}{w:World}{xs:List AV}{vs:List Value}{i:Nat}(n:Nat)(h:RVs ι Fz w xs (vs.drop i)):RVs ι Fz w (xs.drop n) (vs.drop (i+n)):=by
 have:=RVs_drop n h
 rwa[List.drop_drop]at this
theorem eqFs_of{rec:TypeId→List AV→List AV→Option Bool}(k:Nat)(hrec:∀t xs ys b vs us,RVs ι Fz w xs vs→RVs ι Fz w ys us→rec t xs ys=some b→EqGives P w k t vs us b)(vs us:Array Value):
 ∀(fs:List Field) (i:Nat) (xs ys:List AV) (b:Bool),RVs ι Fz w xs (vs.toList.drop i)→RVs ι Fz w ys (us.toList.drop i)→eqFs rec P fs i xs ys=some b→(Op.eqFields k vs us fs).run P w= .ok b w
 |[],i,xs,ys,b,hx,hy,h=>by
  cases xs<;>cases ys<;>simp only[eqFs]at h<;>first|(cases h;done)|skip
  simp only[Option.some.injEq]at h
  subst h
  simp[Op.eqFields]
 |f::fs,i,xs,ys,b,hx,hy,h=>by
  simp only[eqFs]at h
  cases hg : Nat.beq f.offset i && f.name != "_" with
  |false=>rw[hg]at h;cases h
  |true=>
   rw[hg,cond_true]at h
   simp only[Bool.and_eq_true,bne_iff_ne,ne_eq]at hg
   have ho:=Nat.eq_of_beq_eq_true hg.1
   split at h
   ·rename_i inf hinf
    cases hl:Nat.ble inf.size xs.length&&Nat.ble inf.size ys.length with
    |false=>rw[hl]at h;cases h
    |true=>
     rw[hl,cond_true]at h
     simp only[Bool.and_eq_true]at hl
     have hlx:=Nat.le_of_ble_eq_true hl.1
     have hly:=Nat.le_of_ble_eq_true hl.2
     obtain⟨a,ha,h⟩:=Option.bind_eq_some_iff.1 h
     obtain⟨r,hr,h⟩:=Option.bind_eq_some_iff.1 h
     simp only[Option.some.injEq]at h
     subst h
     have ih:=eqFs_of k hrec vs us fs (i+inf.size) _ _ r (RVs_drop_of _ hx) (RVs_drop_of _ hy) hr
     have hq:=hrec f.type _ _ a _ _ (RVs_take inf.size hx) (RVs_take inf.size hy) ha
     have hlvx:=RVs_len hx
     have hlvy:=RVs_len hy
     rw[List.length_drop]at hlvx hlvy
     simp only[Op.eqFields]
     rw[if_pos hg.2]
     have fin:∀{va ua:Value},(part f.type vs f.offset).run P w= .ok va w→(part f.type us f.offset).run P w= .ok ua w→(Op.equalIn k f.type va ua).run P w= .ok a w→
      (do let a←part f.type vs f.offset;let b←part f.type us f.offset;let r←Op.equalIn k f.type a b;if(!r)=true then pure false else Op.eqFields k vs us fs:Sem Bool).run P w= .ok (a&&r) w:=by
      intro va ua h1 h2 h3
      simp only[Sem.run_bind,h1,h2,Result.andThen_ok,h3]
      cases a with
      |false=>simp
      |true=>simp[ih]
     rcases hq with⟨hag,he⟩|⟨hag,v,u,hv,hu,he⟩
     ·refine fin (va:= .agg ((vs.toList.drop i).take inf.size).toArray) (ua:= .agg ((us.toList.drop i).take inf.size).toArray) ?_ ?_ he
      ·rw[run_part w hag hinf,if_pos rfl,ho]
       congr 2
       apply Array.ext'
       simp[List.take_drop]
      ·rw[run_part w hag hinf,if_pos rfl,ho]
       congr 2
       apply Array.ext'
       simp[List.take_drop]
     ·have gx:vs[f.offset]?=some v:=by
       rw[ho,←Array.getElem?_toList]
       have:=congrArg (fun l=>l[0]?) hv
       simp only[List.getElem?_take,List.getElem?_drop,List.getElem?_cons_zero]at this
       split at this
       ·simpa using this
       ·cases this
      have gy:us[f.offset]?=some u:=by
       rw[ho,←Array.getElem?_toList]
       have:=congrArg (fun l=>l[0]?) hu
       simp only[List.getElem?_take,List.getElem?_drop,List.getElem?_cons_zero]at this
       split at this
       ·simpa using this
       ·cases this
      exact fin (run_part_cell w hag gx) (run_part_cell w hag gy) he
   ·cases h
theorem eqEs_of{el:TypeId}{inf:TypeInfo}(hinf:P.info? el=some inf){rec:List AV→List AV→Option Bool}(k:Nat)(hrec:∀xs ys b vs us,RVs ι Fz w xs vs→RVs ι Fz w ys us→rec xs ys=some b→EqGives P w k el vs us b)(vs us:Array Value):
 ∀(n j:Nat) (xs ys:List AV) (b:Bool),RVs ι Fz w xs (vs.toList.drop (j*inf.size))→RVs ι Fz w ys (us.toList.drop (j*inf.size))→eqEs rec inf.size n xs ys=some b→(Op.eqItems k el (P.cellsOf el) vs us (List.range' j n)).run P w= .ok b w
 |0,j,xs,ys,b,hx,hy,h=>by
  cases xs<;>cases ys<;>simp only[eqEs]at h<;>first|(cases h;done)|skip
  simp only[Option.some.injEq]at h
  subst h
  simp[Op.eqItems]
 |n+1,j,xs,ys,b,hx,hy,h=>by
  have hc:P.cellsOf el=inf.size:=by unfold Program.cellsOf;rw[hinf];rfl
  simp only[eqEs]at h
  cases hl:Nat.ble inf.size xs.length&&Nat.ble inf.size ys.length with
  |false=>rw[hl]at h;cases h
  |true=>
   rw[hl,cond_true]at h
   obtain⟨a,ha,h⟩:=Option.bind_eq_some_iff.1 h
   obtain⟨r,hr,h⟩:=Option.bind_eq_some_iff.1 h
   simp only[Option.some.injEq]at h
   subst h
   have e1:j*inf.size+inf.size=(j+1)*inf.size:=(Nat.succ_mul j inf.size).symm
   have ih:=eqEs_of hinf k hrec vs us n (j+1) _ _ r (by rw[←e1];exact RVs_drop_of _ hx) (by rw[←e1];exact RVs_drop_of _ hy) hr
   have hq:=hrec _ _ a _ _ (RVs_take inf.size hx) (RVs_take inf.size hy) ha
   rw[List.range'_succ]
   simp only[Op.eqItems]
   have fin:∀{va ua:Value},(part el vs (j*P.cellsOf el)).run P w= .ok va w→(part el us (j*P.cellsOf el)).run P w= .ok ua w→(Op.equalIn k el va ua).run P w= .ok a w→
    (do let a←part el vs (j*P.cellsOf el);let b←part el us (j*P.cellsOf el);let r←Op.equalIn k el a b;if(!r)=true then pure false else Op.eqItems k el (P.cellsOf el) vs us (List.range' (j+1) n):Sem Bool).run P w= .ok (a&&r) w:=by
    intro va ua h1 h2 h3
    simp only[Sem.run_bind,h1,h2,Result.andThen_ok,h3]
    cases a with
    |false=>simp
    |true=>simp[ih]
   rcases hq with⟨hag,he⟩|⟨hag,v,u,hv,hu,he⟩
   ·refine fin (va:= .agg ((vs.toList.drop (j*inf.size)).take inf.size).toArray) (ua:= .agg ((us.toList.drop (j*inf.size)).take inf.size).toArray) ?_ ?_ he
    ·rw[run_part w hag hinf,if_pos rfl,hc]
     congr 2
     apply Array.ext'
     simp[List.take_drop]
    ·rw[run_part w hag hinf,if_pos rfl,hc]
     congr 2
     apply Array.ext'
     simp[List.take_drop]
   ·have gx:vs[j*P.cellsOf el]?=some v:=by
     rw[hc,←Array.getElem?_toList]
     have:=congrArg (fun l=>l[0]?) hv
     simp only[List.getElem?_take,List.getElem?_drop,List.getElem?_cons_zero]at this
     split at this
     ·simpa using this
     ·cases this
    have gy:us[j*P.cellsOf el]?=some u:=by
     rw[hc,←Array.getElem?_toList]
     have:=congrArg (fun l=>l[0]?) hu
     simp only[List.getElem?_take,List.getElem?_drop,List.getElem?_cons_zero]at this
     split at this
     ·simpa using this
     ·cases this
    exact fin (run_part_cell w hag gx) (run_part_cell w hag gy) he
theorem eqTy_of:∀(d k:Nat) (t:TypeId) (xs ys:List AV) (b:Bool) (vs us:List Value),RVs ι Fz w xs vs→RVs ι Fz w ys us→eqTy P d t xs ys=some b→EqGives P w (k+d) t vs us b
 |0,k,t,xs,ys,b,vs,us,hx,hy,h=>by simp only[eqTy]at h;cases h
 |d+1,k,t,xs,ys,b,vs,us,hx,hy,h=>by
  simp only[eqTy]at h
  split at h
  ·rename_i fs hu
   cases hp:P.stoodInHeld t with
   |true=>rw[hp]at h;cases h
   |false=>
    rw[hp,cond_false]at h
    have hf:P.fieldsOf t=fs:=by unfold Program.fieldsOf;rw[hu]
    refine .inl ⟨by unfold aggIs;rw[hu], ?_⟩
    rw[←Nat.add_assoc,run_equalIn_struct w (k+d) t vs.toArray us.toArray (by rw[hf];exact hu) hp,hf]
    exact eqFs_of (k+d) (fun t xs ys b vs us h1 h2 h3=>eqTy_of d k t xs ys b vs us h1 h2 h3) vs.toArray us.toArray fs.toList 0 xs ys b (by simpa using hx) (by simpa using hy) h
  ·rename_i n el hu
   split at h
   ·rename_i inf hinf
    refine .inl ⟨by unfold aggIs;rw[hu], ?_⟩
    rw[←Nat.add_assoc,run_equalIn_array w (k+d) vs.toArray us.toArray hu hinf,List.range_eq_range']
    exact eqEs_of hinf (k+d) (fun xs ys b vs us h1 h2 h3=>eqTy_of d k el xs ys b vs us h1 h2 h3) vs.toArray us.toArray n 0 xs ys b (by simpa using hx) (by simpa using hy) h
   ·cases h
  ·split at h
   ·obtain⟨v,r,rfl,hx1,hx2⟩:=RVs_cons hx
    obtain⟨u,r',rfl,hy1,hy2⟩:=RVs_cons hy
    simp only[RVs]at hx2 hy2
    subst hx2 hy2
    obtain⟨he,hag,_⟩:=eqLeaf_of hx1 hy1 h
    exact .inr ⟨hag,v,u,rfl,rfl,by rw[←Nat.add_assoc];exact he _⟩
   ·cases h
theorem isAgg_of{x:AV}{v:Value}(hx:RV ι Fz w x v)(h:x.isAgg=true):∃cs,v= .agg cs∧v.cells=cs:=by
 unfold AV.isAgg at h
 split at h
 ·simp only[RV]at hx;obtain⟨vs,rfl,_⟩:=hx;exact⟨_,rfl,rfl⟩
 ·simp only[RV]at hx;obtain⟨vs,rfl,_⟩:=hx;exact⟨_,rfl,rfl⟩
 ·cases h
theorem eqAgg_of{t:TypeId}{x y:AV}{vx vy:Value}{b:Bool}(hx:RV ι Fz w x vx)(hy:RV ι Fz w y vy)(h:eqAgg P t x y=some b):
 ∃xs ys,vx= .agg xs∧vy= .agg ys∧(Op.equalIn 10000 t vx vy).run P w= .ok b w∧P.eqGuardType P.depth t=false:=by
 unfold eqAgg at h
 cases hg:x.isAgg&&y.isAgg&&aliveL x.flat&&aliveL y.flat with
 |false=>rw[hg]at h;cases h
 |true=>
  rw[hg,cond_true]at h
  simp only[Bool.and_eq_true]at hg
  obtain⟨⟨⟨g1,g2⟩,g3⟩,g4⟩:=hg
  have key:(aggIs P t false=true→False)→(bif P.eqGuardType P.depth t then none else eqTy P 9 t x.flat y.flat)=some b→
   ∃xs ys,vx= .agg xs∧vy= .agg ys∧(Op.equalIn 10000 t vx vy).run P w= .ok b w∧P.eqGuardType P.depth t=false:=by
   intro hn h
   cases hp:P.eqGuardType P.depth t with
   |true=>rw[hp]at h;cases h
   |false=>
    rw[hp,cond_false]at h
    obtain⟨xs,rfl,ex⟩:=isAgg_of hx g1
    obtain⟨ys,rfl,ey⟩:=isAgg_of hy g2
    have fx:=(flat_of hx g3).1
    have fy:=(flat_of hy g4).1
    rw[ex]at fx
    rw[ey]at fy
    refine⟨xs,ys,rfl,rfl, ?_,rfl⟩
    rcases eqTy_of 9 9991 t _ _ b _ _ fx fy h with⟨_,he⟩|⟨hag,_⟩
    ·simpa using he
    ·exact(hn hag).elim
  split at h<;>try(cases h;done)
  ·rename_i fs hu
   exact key (fun hag=>by unfold aggIs at hag;rw[hu]at hag;cases hag) h
  ·rename_i n el hu
   exact key (fun hag=>by unfold aggIs at hag;rw[hu]at hag;cases hag) h
theorem epEq_of{t t1 t2:TypeId}{x y:AV}(h:epEq P t t1 t2 x y=true):
 ∃(ms:Array (String×TypeId)) (te:TypeId) (i j:TypeInfo),t2=t1∧P.underlying t=some (.interface ms)∧P.underlying t1=some (.pointer te)∧P.info? t1=some i∧i.comparable=true∧P.info? te=some j∧∃g,x= .ep g∧y= .ep g:=by
 unfold epEq at h
 split at h
 ·rename_i g g'
  simp only[Bool.and_eq_true]at h
  obtain⟨⟨⟨h1,h2⟩,h3⟩,h4⟩:=h
  have e1:=Nat.eq_of_beq_eq_true h1
  have e2:=Nat.eq_of_beq_eq_true h2
  subst e1 e2
  split at h3<;>try(cases h3;done)
  rename_i ms hms
  split at h4<;>try(cases h4;done)
  rename_i e he
  simp only[Bool.and_eq_true]at h4
  obtain⟨h5,h6⟩:=h4
  split at h5<;>try(cases h5;done)
  rename_i i hi
  obtain⟨j,hj⟩:=Option.isSome_iff_exists.1 h6
  exact⟨ms,e,i,j,rfl,hms,he,hi,h5,hj,g,rfl,rfl⟩
 ·cases h
theorem run_equalIn_iface_empty(w:World)(d:Nat){ti tp:TypeId}{ms:Array (String×TypeId)}{i:TypeInfo}(xs ys:Array Value)
 (hi:P.underlying ti=some (.interface ms)) (hp:P.underlying tp=some (.struct #[])) (hinfo:P.info? tp=some i) (hcomp:i.comparable=true) (hs:P.stoodInHeld tp=false):
 (Op.equalIn (d+2) ti (.iface tp (.agg xs)) (.iface tp (.agg ys))).run P w= .ok true w:=by
 simp[Op.equalIn,run_underlying hi,run_underlying hp,typeInfo,hinfo,hcomp,hs]
theorem run_equalIn_iface_types(w:World)(d:Nat){ti t1 t2:TypeId}{ms:Array (String×TypeId)}(x y:Value)
 (hi:P.underlying ti=some (.interface ms)) (hne:t1≠t2):(Op.equalIn (d+2) ti (.iface t1 x) (.iface t2 y)).run P w= .ok false w:=by
 simp[Op.equalIn,run_underlying hi,hne]
theorem unEq_of{t t1:TypeId}{x y:AV}(h:unEq P t t1 x y=true):
 ∃(ms:Array (String×TypeId)) (i:TypeInfo),P.underlying t=some (.interface ms)∧P.info? t1=some i∧i.comparable=true∧P.underlying t1=some (.struct #[])∧P.stoodInHeld t1=false∧∃a b,x= .pv .unit a∧y= .pv .unit b:=by
 unfold unEq at h
 split at h
 ·rename_i a b
  simp only[Bool.and_eq_true]at h
  obtain⟨⟨h1,h2⟩,h3⟩:=h
  split at h1<;>try(cases h1;done)
  rename_i ms hms
  split at h2<;>try(cases h2;done)
  rename_i i hi
  split at h3<;>try(cases h3;done)
  rename_i fs hfs
  simp only[Bool.and_eq_true,Bool.not_eq_true']at h3
  have:fs= #[]:=Array.eq_empty_of_size_eq_zero (Nat.eq_of_beq_eq_true h3.1)
  subst this
  exact⟨ms,i,hms,hi,h2,hfs,h3.2,a,b,rfl,rfl⟩
 ·cases h
theorem otEq_of{t t1 t2:TypeId}(h:otEq P t t1 t2=true):∃ms:Array (String×TypeId),P.underlying t=some (.interface ms)∧t1≠t2:=by
 unfold otEq at h
 simp only[Bool.and_eq_true,Bool.not_eq_true']at h
 obtain⟨h1,h2⟩:=h
 split at h2<;>try(cases h2;done)
 rename_i ms hms
 exact⟨ms,hms,fun e=>by subst e;simp at h1⟩
theorem binV_of{t:TypeId}{cst:Bool}{op:BinOp}{x y:AV}{vx vy:Value}{K:AV→Option R}{r:R}(hx:RV ι Fz w x vx)(hy:RV ι Fz w y vy)(h:binV P t cst op x y K=some r):
 ∃v,K v=some r∧∃v',(binOp op t vx vy).run P w= .ok v' w∧RV ι Fz w v v'∧(∀ox oy:Operand,cst=(isConst ox||isConst oy)→(eqGuard op t ox oy vx vy).run P w= .ok () w):=by
 have fin:(∃v,K v=some r∧∃v',(binOp op t vx vy).run P w= .ok v' w∧RV ι Fz w v v')→((vx= .nilIface∧vy= .nilIface)→cst=true)→¬(∃c,vx= .agg c)→
  ∃v,K v=some r∧∃v',(binOp op t vx vy).run P w= .ok v' w∧RV ι Fz w v v'∧(∀ox oy:Operand,cst=(isConst ox||isConst oy)→(eqGuard op t ox oy vx vy).run P w= .ok () w):=
  fun⟨v,h1,v',h2,h3⟩ h4 h5=>⟨v,h1,v',h2,h3,fun ox oy hc=>by rw[eqGuard_of (fun hn=>by rw[←hc];exact h4 hn) h5];rfl⟩
 have agg:∀{x:AV},RV ι Fz w x vx→((eqAgg P t x y).bind fun b=>cmpK op b K)=some r→
  ∃v,K v=some r∧∃v',(binOp op t vx vy).run P w= .ok v' w∧RV ι Fz w v v'∧(∀ox oy:Operand,cst=(isConst ox||isConst oy)→(eqGuard op t ox oy vx vy).run P w= .ok () w):=by
  intro x hx h
  obtain⟨b,hb,h⟩:=Option.bind_eq_some_iff.1 h
  obtain⟨xs,ys,rfl,rfl,he,hgt⟩:=eqAgg_of hx hy hb
  rcases cmpK_of h with⟨rfl,h⟩|⟨rfl,h⟩
  ·exact⟨_,h, .bool b,by rw[run_eql_struct,he];rfl,RV_bool.2 rfl,fun ox oy _=>run_eqGuard_agg w _ _ _ _ _ _ hgt⟩
  ·exact⟨_,h, .bool (!b),by rw[run_neq_struct,he];rfl,RV_bool.2 rfl,fun ox oy _=>run_eqGuard_agg w _ _ _ _ _ _ hgt⟩
 unfold binV at h
 split at h
 ·rename_i a m
  split at h<;>try(cases h;done)
  rename_i b n
  rw[RV_int]at hx hy
  subst hx hy
  refine fin ?_ (by simp) (by simp)
  cases hi:isInt op with
  |true=>
   rw[hi,cond_true]at h
   cases hd:decide (a=b)with
   |false=>rw[hd]at h;cases h
   |true=>
    rw[hd]at h
    have e:=of_decide_eq_true hd
    subst e
    exact binI_of t hi h
  |false=>rw[hi,cond_false]at h;exact shI_of t h
 ·split at h<;>try(cases h;done)
  ·rw[RV_float]at hx hy
   subst hx hy
   exact fin (binF_of t h) (by simp) (by simp)
  ·rw[RV_float]at hx
   simp only[RV]at hy
   obtain⟨n,rfl,hn⟩:=hy
   subst hx
   exact fin (nanK_of t (hn _).1 h) (by simp) (by simp)
 ·simp only[RV]at hx
  obtain⟨m,rfl,hm⟩:=hx
  split at h<;>try(cases h;done)
  ·rw[RV_float]at hy
   subst hy
   exact fin (nanK_of t (hm _).2 h) (by simp) (by simp)
  ·simp only[RV]at hy
   obtain⟨n,rfl,hn⟩:=hy
   exact fin (nanK_of t (hn _).1 h) (by simp) (by simp)
 ·split at h<;>try(cases h;done)
  split at h<;>try(cases h;done)
  rename_i hu
  rw[RV_bool]at hx hy
  subst hx hy
  refine fin (eq_of (by rintro op (rfl|rfl)<;>simp[binOp]) (run_equal fun d=>by simp[Op.equalIn,run_underlying hu]) h) (by simp) (by simp)
 ·split at h<;>try(cases h;done)
  rw[RV_str]at hx hy
  subst hx hy
  refine fin ?_ (by simp) (by simp)
  split at h
  ·obtain⟨s,hs,h⟩:=Option.bind_eq_some_iff.1 h
   refine⟨_,h,_, ?_,RV_str.2 rfl⟩
   unfold sadd at hs
   split at hs
   ·rename_i hsz
    simp only[Option.some.injEq]at hs
    subst hs
    simp only[binOp,Op.stringOp,Sem.run_ite,Sem.run_pure]
    rw[if_neg (by simp;omega)]
   ·cases hs
  ·rcases cmpK_of h with⟨rfl,h⟩|⟨rfl,h⟩
   ·refine⟨_,h,_, ?_,RV_bool.2 rfl⟩
    simp[binOp,Op.stringOp]
   ·refine⟨_,h,_, ?_,RV_bool.2 rfl⟩
    simp[binOp,Op.stringOp]
 ·split at h<;>try(cases h;done)
  ·split at h<;>try(cases h;done)
   rename_i hu
   simp only[RV]at hx hy
   obtain⟨u,rfl,_⟩:=hx
   subst hy
   refine fin (eq_of (by rintro op (rfl|rfl)<;>simp[binOp]) (run_equal fun d=>by simp[Op.equalIn,run_underlying hu]) h) (by simp) (by simp)
  ·rename_i t1 x1 _ t2 y2
   cases hq:epEq P t t1 t2 x1 y2 with
   |false=>
    rw[hq,cond_false]at h
    cases ho:otEq P t t1 t2 with
    |true=>
     rw[ho,cond_true]at h
     obtain⟨ms,hi,hne⟩:=otEq_of ho
     simp only[RV]at hx hy
     obtain⟨u,rfl,_⟩:=hx
     obtain⟨u',rfl,_⟩:=hy
     refine fin (eq_of (by rintro op (rfl|rfl)<;>simp[binOp]) (show(Op.equal t _ _).run P w= .ok false w from by
      simp[Op.equal,Op.maxDepth,run_equalIn_iface_types w 9998 u u' hi hne]) h) (by simp) (by simp)
    |false=>
     rw[ho,cond_false]at h
     cases hu:(Nat.beq t1 t2&&unEq P t t1 x1 y2)with
     |false=>rw[hu]at h;cases h
     |true=>
      rw[hu,cond_true]at h
      simp only[Bool.and_eq_true]at hu
      obtain⟨e,hu⟩:=hu
      have e:=Nat.eq_of_beq_eq_true e
      subst e
      obtain⟨ms,i,hi,hinfo,hcomp,hp,hs,a,b,rfl,rfl⟩:=unEq_of hu
      simp only[RV]at hx hy
      obtain⟨u,rfl,hx⟩:=hx
      obtain⟨u',rfl,hy⟩:=hy
      rw[if_pos (show Kd.unit.isAgg=true from rfl)]at hx hy
      obtain⟨vs,rfl,_⟩:=hx
      obtain⟨vs',rfl,_⟩:=hy
      refine fin (eq_of (by rintro op (rfl|rfl)<;>simp[binOp]) (show(Op.equal t _ _).run P w= .ok true w from by
       simp[Op.equal,Op.maxDepth,run_equalIn_iface_empty w 9998 _ _ hi hp hinfo hcomp hs]) h) (by simp) (by simp)
   |true=>
    rw[hq,cond_true]at h
    obtain⟨ms,te,i,j,rfl,hi,hp,hinfo,hcomp,hte,g,rfl,rfl⟩:=epEq_of hq
    simp only[RV]at hx hy
    obtain⟨u,rfl,ta,a,rfl,_,la⟩:=hx
    obtain⟨u',rfl,tb,a',rfl,_,lb⟩:=hy
    have e1:=la 0 _ rfl
    have e2:=lb 0 _ rfl
    rw[e1]at e2
    simp only[Option.some.injEq,Value.iface.injEq,Value.pointer.injEq]at e2
    obtain⟨_,rfl⟩:=e2
    refine fin (eq_of (by rintro op (rfl|rfl)<;>simp[binOp]) (show(Op.equal t _ _).run P w= .ok true w from by
     simp[Op.equal,Op.maxDepth,run_equalIn_iface_ptr_same w 9998 a hi hp hinfo hcomp hte]) h) (by simp) (by simp)
 ·split at h<;>try(cases h;done)
  ·split at h<;>try(cases h;done)
   rename_i hu
   simp only[RV]at hx hy
   subst hx hy
   cases hc:cst with
   |false=>rw[hc]at h;cases h
   |true=>
    rw[hc,cond_true]at h
    exact hc▸fin (eq_of (by rintro op (rfl|rfl)<;>simp[binOp]) (run_equal fun d=>by simp[Op.equalIn,run_underlying hu]) h) (fun _=>hc) (by simp)
  ·split at h<;>try(cases h;done)
   rename_i hu
   simp only[RV]at hx hy
   obtain⟨u,rfl,_⟩:=hy
   subst hx
   refine fin (eq_of (by rintro op (rfl|rfl)<;>simp[binOp]) (run_equal fun d=>by simp[Op.equalIn,run_underlying hu]) h) (by simp) (by simp)
 ·split at h<;>try(cases h;done)
  split at h<;>try(cases h;done)
  rename_i hu
  simp only[RV]at hx hy
  obtain⟨_,rfl⟩:=hx
  subst hy
  refine fin (eq_of (by rintro op (rfl|rfl)<;>simp[binOp]) (run_equal fun d=>by simp[Op.equalIn,run_underlying hu]) h) (by simp) (by simp)
 ·split at h<;>try(cases h;done)
  split at h<;>try(cases h;done)
  rename_i hu
  simp only[RV]at hx hy
  obtain⟨_,_,_,rfl,_⟩:=hx
  subst hy
  refine fin (eq_of (by rintro op (rfl|rfl)<;>simp[binOp]) (run_equal fun d=>by simp[Op.equalIn,run_underlying hu]) h) (by simp) (by simp)
 ·split at h<;>try(cases h;done)
  split at h<;>try(cases h;done)
  rename_i hu
  simp only[RV]at hx hy
  subst hx hy
  refine fin (eq_of (by rintro op (rfl|rfl)<;>simp[binOp]) (run_equal fun d=>by simp[Op.equalIn,run_underlying hu]) h) (by simp) (by simp)
 ·split at h<;>try(cases h;done)
  split at h<;>try(cases h;done)
  rename_i hu
  simp only[RV]at hx hy
  subst hx hy
  refine fin (eq_of (by rintro op (rfl|rfl)<;>simp[binOp]) (run_equal fun d=>by simp[Op.equalIn,run_underlying hu]) h) (by simp) (by simp)
 ·rename_i e o
  split at h<;>try(cases h;done)
  split at h<;>try(cases h;done)
  rename_i hu
  simp only[RV]at hy
  subst hy
  simp only[RV,Kd.isAgg,Bool.false_eq_true,if_false,RP,List.cons.injEq,and_true]at hx
  obtain⟨u,rfl,hx⟩:=hx
  rcases hx with⟨rfl,rfl⟩|⟨xs,rfl,_,a,l,c,rfl⟩
  ·simp only[Option.isNone_none]at h
   refine fin (eq_of (by rintro op (rfl|rfl)<;>simp[binOp]) (run_equal fun d=>by simp[Op.equalIn,run_underlying hu]) h) (by simp) (by simp)
  ·simp only[Option.isNone_some]at h
   refine fin (eq_of (by rintro op (rfl|rfl)<;>simp[binOp]) (run_equal fun d=>by simp[Op.equalIn,run_underlying hu]) h) (by simp) (by simp)
 ·rename_i c
  rw[RV_any]at hx
  split at h<;>try(cases h;done)
  ·split at h<;>try(cases h;done)
   rename_i hu
   simp only[RV]at hy
   subst hy
   obtain⟨b,hb,h⟩:=Option.bind_eq_some_iff.1 h
   rcases isNilp_of hb hx with⟨rfl,rfl⟩|⟨rfl,a,rfl⟩
   ·refine fin (eq_of (by rintro op (rfl|rfl)<;>simp[binOp]) (run_equal fun d=>by simp[Op.equalIn,run_underlying hu]) h) (by simp) (by simp)
   ·refine fin (eq_of (by rintro op (rfl|rfl)<;>simp[binOp]) (run_equal fun d=>by simp[Op.equalIn,run_underlying hu]) h) (by simp) (by simp)
  ·split at h<;>try(cases h;done)
   rename_i hu
   simp only[RV]at hy
   subst hy
   cases hc:cst with
   |false=>rw[hc]at h;cases h
   |true=>
   rw[hc,cond_true]at h
   obtain⟨b,hb,h⟩:=Option.bind_eq_some_iff.1 h
   rcases isNili_of hb hx with⟨rfl,rfl⟩|⟨rfl,t',u',rfl⟩
   ·exact hc▸fin (eq_of (by rintro op (rfl|rfl)<;>simp[binOp]) (run_equal fun d=>by simp[Op.equalIn,run_underlying hu]) h) (fun _=>hc) (by simp)
   ·exact hc▸fin (eq_of (by rintro op (rfl|rfl)<;>simp[binOp]) (run_equal fun d=>by simp[Op.equalIn,run_underlying hu]) h) (fun _=>hc) (by simp)
  ·rename_i t1 u0
   cases hq:unEq P t t1 u0 u0 with
   |false=>rw[hq]at h;cases h
   |true=>
    rw[hq,cond_true]at h
    obtain⟨ms,i,hi,hinfo,hcomp,hp,hs,a,b',rfl,_⟩:=unEq_of hq
    obtain⟨b,hb,h⟩:=Option.bind_eq_some_iff.1 h
    simp only[RV]at hy
    obtain⟨u',rfl,hy⟩:=hy
    rw[if_pos (show Kd.unit.isAgg=true from rfl)]at hy
    obtain⟨vs',rfl,_⟩:=hy
    have other:∀(t2:TypeId) (y:Value),t2≠t1→(Op.equal t (.iface t2 y) (.iface t1 (.agg vs'))).run P w= .ok false w:=fun t2 y hne=>by
     simp[Op.equal,Op.maxDepth,run_equalIn_iface_types w 9998 y _ hi hne]
    cases c<;>simp only[isU]at hb<;>first|(cases hb;done)|skip
    ·simp only[Option.some.injEq]at hb
     subst hb
     simp only[RC]at hx
     subst hx
     refine fin (eq_of (by rintro op (rfl|rfl)<;>simp[binOp]) (run_equal fun d=>by simp[Op.equalIn,run_underlying hi]) h) (by simp) (by simp)
    ·rename_i t2 c2
     cases hbq:Nat.beq t2 t1 with
     |true=>rw[hbq]at hb;cases hb
     |false=>
      rw[hbq,cond_false,Option.some.injEq]at hb
      subst hb
      simp only[RC]at hx
      obtain⟨y,rfl,_⟩:=hx
      refine fin (eq_of (by rintro op (rfl|rfl)<;>simp[binOp]) (other t2 y (fun e=>by subst e;simp at hbq)) h) (by simp) (by simp)
    ·rename_i t2 cs
     simp only[Option.some.injEq]at hb
     simp only[RC]at hx
     obtain⟨us,rfl,_⟩:=hx
     cases hbq:Nat.beq t2 t1 with
     |true=>
      have e:=Nat.eq_of_beq_eq_true hbq
      subst e
      rw[hbq]at hb
      subst hb
      refine fin (eq_of (by rintro op (rfl|rfl)<;>simp[binOp]) (show(Op.equal t _ _).run P w= .ok true w from by
       simp[Op.equal,Op.maxDepth,run_equalIn_iface_empty w 9998 _ _ hi hp hinfo hcomp hs]) h) (by simp) (by simp)
     |false=>
      rw[hbq]at hb
      subst hb
      refine fin (eq_of (by rintro op (rfl|rfl)<;>simp[binOp]) (other t2 _ (fun e=>by subst e;simp at hbq)) h) (by simp) (by simp)
 ·exact agg hx h
 ·exact agg hx h
 ·cases h
theorem agree_some{R:Type}{x y:Option R}{r:R}(h:agree x y=some r):x=some r∧y=some r:=by
 unfold agree at h
 split at h
 ·rename_i e;exact⟨h,e▸h⟩
 ·cases h
theorem nilK_of{t:TypeId}{op:BinOp}{x y:AV}{vx vy:Value}{K:AV→Option R}{r:R}{n:Nat}{H:List (Nat×AB)}(hrb:∀h,RB ι Fz w h (getH H h))(hn:rowNil H x y=some n)(hx:RV ι Fz w x vx)(hy:RV ι Fz w y vy)(h:nilK P t op n K=some r):
 ∃v,K v=some r∧∃v',(binOp op t vx vy).run P w= .ok v' w∧RV ι Fz w v v'∧(∀ox oy:Operand,(eqGuard op t ox oy vx vy).run P w= .ok () w):=by
 have key:vy= .slice none 0 0∧∃(a:Option Addr) (l c:Nat),vx= .slice a l c∧(1≤n→∃p,a=some p):=by
  unfold rowNil at hn
  split at hn
  ·simp only[RV]at hy
   refine⟨hy, ?_⟩
   split at hn
   ·rename_i κ g
    split at hn
    ·rename_i e κ' xs he
     simp only[Option.some.injEq]at hn
     subst hn
     have hg:=hrb g
     rw[he]at hg
     simp only[RB]at hg
     simp only[RV]at hx
     rcases hx with⟨hv,rfl⟩|⟨hv,rfl⟩
     ·refine⟨_,_,_,rfl,fun h1=> ?_⟩
      rcases hg.2 with⟨_,e⟩|⟨e,_⟩
      ·rw[e]at h1;simp at h1
      ·rw[hv]at e;cases e
     ·exact⟨_,_,_,rfl,fun _=>⟨_,rfl⟩⟩
    ·cases hn
   ·rename_i κ xs
    simp only[Option.some.injEq]at hn
    subst hn
    simp only[RV,Kd.isAgg,Bool.false_eq_true,if_false,RP]at hx
    obtain⟨_,e1,a,c,rfl,hc,hx⟩:=hx
    simp only[List.cons.injEq,and_true]at e1
    subst e1
    refine⟨_,_,_,rfl,fun h1=> ?_⟩
    rcases hx with rfl|⟨b,off,rfl,_⟩
    ·simp at h1
    ·exact⟨_,rfl⟩
   ·cases hn
  ·cases hn
 obtain⟨rfl,a,l,c,rfl,ha⟩:=key
 unfold nilK at h
 split at h
 ·rename_i el hu
  have hb:∀op',(op'= .eql∨op'= .neq)→binOp op' t (.slice a l c) (.slice none 0 0)=(if op'= .eql then(do pure (.bool (←Op.equal t (.slice a l c) (.slice none 0 0))))else do pure (.bool (!(←Op.equal t (.slice a l c) (.slice none 0 0))))):=by
   rintro op' (rfl|rfl)<;>simp[binOp]
  have hg:∀ox oy:Operand,(eqGuard op t ox oy (.slice a l c) (.slice none 0 0)).run P w= .ok () w:=fun ox oy=>by
   cases op<;>rfl
  have go:∀b,(a.isNone=b)→cmpK op b K=some r→∃v,K v=some r∧∃v',(binOp op t (.slice a l c) (.slice none 0 0)).run P w= .ok v' w∧RV ι Fz w v v'∧(∀ox oy:Operand,(eqGuard op t ox oy (.slice a l c) (.slice none 0 0)).run P w= .ok () w):=by
   intro b hab hk
   obtain⟨v,h1,v',h2,h3⟩:=eq_of (P:=P) (w:=w) hb (b:=b) (run_equal (P:=P) (w:=w) fun d=>by
    cases a with
    |none=>simp at hab;subst hab;simp[Op.equalIn,run_underlying hu]
    |some p=>simp at hab;subst hab;simp[Op.equalIn,run_underlying hu]) hk
   exact⟨v,h1,v',h2,h3,hg⟩
  cases hb1:Nat.ble 1 n with
  |true=>
   rw[hb1,cond_true]at h
   obtain⟨p,rfl⟩:=ha (Nat.le_of_ble_eq_true hb1)
   exact go false rfl h
  |false=>
   rw[hb1,cond_false]at h
   obtain⟨h1,h2⟩:=agree_some h
   cases a with
   |none=>exact go true rfl h1
   |some p=>exact go false rfl h2
 ·cases h
theorem nilD_of{P:Program}{t:TypeId}{op:BinOp}{n:Nat}{K:AV→Option R}{r:R}(h:nilD P t op n K=some r):nilK P t op n K=some r:=by
 unfold nilD at h
 unfold nilK
 split at h
 ·rename_i hu
  cases hb:Nat.ble 1 n with
  |true=>rw[hb]at h;simpa using h
  |false=>rw[hb]at h;cases h
 ·cases h
end
end Go.Av
namespace Go.Av
open Go Go.RowKit
theorem sizeB_of{P:Program}{t:TypeId}{n:Nat}(h:sizeB P t n=true):∃i,P.info? t=some i∧i.size=n:=by
 unfold sizeB at h
 split at h
 ·rename_i i hi;exact⟨i,hi,Nat.eq_of_beq_eq_true h⟩
 ·cases h
theorem sizeK_of{R:Type}{P:Program}{t:TypeId}{K:Nat→Option R}{r:R}(h:sizeK P t K=some r):∃i,P.info? t=some i∧K i.size=some r:=by
 unfold sizeK at h
 split at h
 ·rename_i i hi;exact⟨i,hi,h⟩
 ·cases h
theorem fieldK_of{R:Type}{P:Program}{t:TypeId}{f:Nat}{K:Field→Option R}{r:R}(h:fieldK P t f K=some r):∃fs x,P.underlying t=some (.struct fs)∧fs[f]?=some x∧K x=some r:=by
 unfold fieldK at h
 split at h
 ·rename_i fs hfs
  split at h
  ·rename_i x hx;exact⟨fs,x,hfs,hx,h⟩
  ·cases h
 ·cases h
theorem elemK_of{R:Type}{P:Program}{t:TypeId}{K:TypeId→Option R}{r:R}(h:elemK P t K=some r):∃e,P.underlying t=some (.slice e)∧K e=some r:=by
 unfold elemK at h
 split at h
 ·rename_i e he;exact⟨e,he,h⟩
 ·cases h
theorem idxK_of{R:Type}{j:Int}{K:Nat→Option R}{r:R}:∀(m q:Nat),idxK j K m q=some r→∃p,q≤p∧p<q+m∧j=(p:Int)∧K p=some r
 |0,_,h=>by simp[idxK]at h
 |m+1,q,h=>by
  simp only[idxK]at h
  cases hd:decide (j=(q:Int))with
  |true=>rw[hd,cond_true]at h;exact⟨q,Nat.le_refl _,by omega,of_decide_eq_true hd,h⟩
  |false=>
   rw[hd,cond_false]at h
   obtain⟨p,h1,h2,h3,h4⟩:=idxK_of m (q+1) h
   exact⟨p,by omega,by omega,h3,h4⟩
theorem arrT_of{P:Program}{t:TypeId}{n:Nat}{el:TypeId}(h:arrT P t=some (n,el)):P.underlying t=some (.array n el):=by
 unfold arrT at h
 split at h
 ·rename_i hu
  simp only[Option.some.injEq,Prod.mk.injEq]at h
  obtain⟨rfl,rfl⟩:=h
  exact hu
 ·cases h
theorem chk2_of{l h:Int}{len:Nat}{p:Nat×Nat}(hh:chk2 l h len=some p):0≤l∧l≤h∧h≤len∧p=(l.toNat,h.toNat):=by
 unfold chk2 at hh
 split at hh
 ·rename_i c;simp only[Option.some.injEq]at hh;exact⟨c.1,c.2.1,c.2.2,hh.symm⟩
 ·cases hh
theorem chk_of{n:Int}{len j:Nat}(hh:chk n len=some j):0≤n∧n<len∧j=n.toNat:=by
 unfold chk at hh
 split at hh
 ·rename_i c;simp only[Option.some.injEq]at hh;exact⟨c.1,c.2,hh.symm⟩
 ·cases hh
theorem nth_of{α:Type}{xs:List α}{n:Int}{x:α}(h:nth xs n=some x):0≤n∧n.toNat<xs.length∧xs[n.toNat]?=some x:=by
 unfold nth at h
 split at h
 ·rename_i c;exact⟨c,(List.getElem?_eq_some_iff.1 h).1,h⟩
 ·cases h
theorem lim_of{n:Nat}{u:Unit}(h:lim n=some u):n≤140737488355328:=by
 unfold lim at h
 split at h
 ·assumption
 ·cases h
theorem prjK_of{R:Type}:∀(κ:Kd) (x:Den κ) (n:Nat) (K:(κ':Kd)→Den κ'→Nat→Option R) (r:R),prjK κ x n K=some r→
 ∃κ' y o,K κ' y o=some r∧∀(Fz:Nat→Prop) (w:World) (es:List Value),RP Fz w κ x es→∃e1 e2 e3,es=e1++e2++e3∧e1.length=o∧RP Fz w κ' y e2
 | .int _,_,_,_,_,h=>by simp[prjK]at h
 | .float,_,_,_,_,h=>by simp[prjK]at h
 | .bool,_,_,_,_,h=>by simp[prjK]at h
 | .str,_,_,_,_,h=>by simp[prjK]at h
 | .list _,_,_,_,_,h=>by simp[prjK]at h
 | .unit,_,_,_,_,h=>by simp[prjK]at h
 | .pair a b,x,0,K,r,h=>by
  simp only[prjK]at h
  exact⟨a,x.1,0,h,fun Fz w es ⟨c1,c2,e,h1,h2⟩=>⟨[],c1,c2,by simpa using e,rfl,h1⟩⟩
 | .pair a b,x,n+1,K,r,h=>by
  simp only[prjK]at h
  obtain⟨κ',y,o,hk,hr⟩:=prjK_of b x.2 n _ r h
  refine⟨κ',y,a.size+o,hk,fun Fz w es ⟨c1,c2,e,h1,h2⟩=> ?_⟩
  obtain⟨e1,e2,e3,rfl,h3,h4⟩:=hr Fz w c2 h2
  exact⟨c1++e1,e2,e3,by simp[e],by rw[List.length_append,RP_len a _ _ h1,h3],h4⟩
 | .geo,g,n,K,r,h=>by
  have key:∀(Fz:Nat→Prop) (w:World) (es:List Value),RP Fz w .geo g es→∃v3 v4 v5 v6,es=[.int .i64 g.kind, .int .i64 g.layout, .int .i64 g.srid,v3,v4,v5,v6]∧
   RP Fz w (.list .float) g.flat [v3]∧RP Fz w (.list (.int .i64)) g.ends [v4]∧RP Fz w (.list (.list (.int .i64))) g.endss [v5]∧RP Fz w (.list .geo) g.kids [v6]:=by
   intro Fz w es hr
   cases g with
   |mk kd ly sr flat ends endss kids=>
   simp only[RP,RG]at hr
   obtain⟨v3,v4,v5,a,c,rfl,h3,h4,h5,hl,h6⟩:=hr
   refine⟨v3,v4,v5,_,rfl,⟨_,rfl,h3⟩,⟨_,rfl,h4⟩,⟨_,rfl,h5⟩,⟨_,rfl,a,c,rfl,hl, ?_⟩⟩
   rcases h6 with h6|⟨b,off,ha,hb,h6⟩
   ·exact .inl h6
   ·exact .inr ⟨b,off,ha,hb,fun i x hx=>RGs_at kids b off i x h6 hx⟩
  match n,h with
  |0,h=>exact⟨_,_,_,h,fun Fz w es hr=>by obtain⟨v3,v4,v5,v6,rfl,_⟩:=key Fz w es hr;exact⟨[],[_],_,rfl,rfl,rfl⟩⟩
  |1,h=>exact⟨_,_,_,h,fun Fz w es hr=>by obtain⟨v3,v4,v5,v6,rfl,_⟩:=key Fz w es hr;exact⟨[_],[_],_,rfl,rfl,rfl⟩⟩
  |2,h=>exact⟨_,_,_,h,fun Fz w es hr=>by obtain⟨v3,v4,v5,v6,rfl,_⟩:=key Fz w es hr;exact⟨[_,_],[_],_,rfl,rfl,rfl⟩⟩
  |3,h=>exact⟨_,_,_,h,fun Fz w es hr=>by obtain⟨v3,v4,v5,v6,rfl,h3,_⟩:=key Fz w es hr;exact⟨[_,_,_],[_],_,rfl,rfl,h3⟩⟩
  |4,h=>exact⟨_,_,_,h,fun Fz w es hr=>by obtain⟨v3,v4,v5,v6,rfl,_,h3,_⟩:=key Fz w es hr;exact⟨[_,_,_,_],[_],_,rfl,rfl,h3⟩⟩
  |5,h=>exact⟨_,_,_,h,fun Fz w es hr=>by obtain⟨v3,v4,v5,v6,rfl,_,_,h3,_⟩:=key Fz w es hr;exact⟨[_,_,_,_,_],[_],_,rfl,rfl,h3⟩⟩
  |6,h=>exact⟨_,_,_,h,fun Fz w es hr=>by obtain⟨v3,v4,v5,v6,rfl,_,_,_,h3⟩:=key Fz w es hr;exact⟨[_,_,_,_,_,_],[_],[],rfl,rfl,h3⟩⟩
  |n+7,h=>simp[prjK]at h
theorem chunks_of{ι:Nat→HI}{Fz Fz':Nat→Prop}{w:World}{H:List (Nat×AB)}(hrb:∀h,RB ι Fz w h (getH H h))(hf:∀b,Fz b→Fz' b){κ:Kd}:
 ∀(n:Nat) (cs:List AV) (xs:List (Den κ)) (vs:List Value),chunks H κ n cs=some xs→RVs ι Fz w cs vs→
  (∀h,mentL h cs=true→(getH H h).isArr→(ι h).virt=false→Fz' (ι h).blk)→xs.length=n∧vs.length=n*κ.size∧∀i x,xs[i]?=some x→RP Fz' w κ x ((vs.drop (i*κ.size)).take κ.size)
 |0,[],xs,vs,h,hr,_=>by
  simp only[chunks,Option.some.injEq]at h
  subst h
  simp only[RVs]at hr
  subst hr
  exact⟨rfl,by simp,fun i x hx=>by simp at hx⟩
 |0,_::_,_,_,h,_,_=>by simp[chunks]at h
 |n+1,cs,xs,vs,h,hr,hb=>by
  simp only[chunks,Option.bind_eq_some_iff,Option.some.injEq]at h
  obtain⟨p,h1,ys,h2,rfl⟩:=h
  obtain⟨v1,v2,rfl,r1,r2,m1⟩:=cellsD_of hrb hf κ cs p.1 p.2 vs h1 hr hb
  obtain⟨g1,g2,g3⟩:=chunks_of hrb hf n p.2 ys v2 h2 r2 (fun h hh=>hb h (m1 h hh))
  have hl:=RP_len κ p.1 v1 r1
  refine⟨by simp[g1],by rw[List.length_append,hl,g2,Nat.add_mul,Nat.one_mul,Nat.add_comm],fun i x hx=> ?_⟩
  cases i with
  |zero=>
   simp only[List.getElem?_cons_zero,Option.some.injEq]at hx
   subst hx
   rw[Nat.zero_mul,List.drop_zero,←hl,List.take_left]
   exact r1
  |succ i=>
   simp only[List.getElem?_cons_succ]at hx
   have:=g3 i x hx
   rw[show(i+1)*κ.size=v1.length+i*κ.size by rw[hl,Nat.add_mul,Nat.one_mul,Nat.add_comm],List.drop_append,List.drop_eq_nil_of_le (by omega),List.nil_append,show v1.length+i*κ.size-v1.length=i*κ.size by omega]
   exact this
theorem Lie.mid{w:World}{e1 e2 e3:List Value}{b off:Nat}(h:Lie w (e1++e2++e3) b off):Lie w e2 b (off+e1.length):=by
 intro j u hj
 have hlt:j<e2.length:=(List.getElem?_eq_some_iff.1 hj).1
 have:=h (e1.length+j) u (by rw[List.append_assoc,List.getElem?_append_right (by omega),show e1.length+j-e1.length=j by omega,List.getElem?_append_left hlt];exact hj)
 rwa[show off+(e1.length+j)=off+e1.length+j by omega]at this
theorem load_lie{P:Program}{ι:Nat→HI}{Fz:Nat→Prop}{w:World}{t:TypeId}{κ:Kd}{x:Den κ}{es:List Value}{b off:Nat}(ha:aggIs P t κ.isAgg=true)(hs:sizeB P t κ.size=true)
 (hr:RP Fz w κ x es) (hl:Lie w es b off):∃v,(loadVar t ⟨b,off,none⟩).run P w= .ok v w∧RV ι Fz w (.pv κ x) v:=by
 obtain⟨i,hi,hsz⟩:=sizeB_of hs
 have hlen:=RP_len κ x es hr
 cases hk:κ.isAgg with
 |true=>
  rw[hk]at ha
  refine⟨.agg es.toArray, ?_,by simp only[RV,hk,if_true];exact⟨_,rfl,by simpa using hr⟩⟩
  have:=run_loadCells_list (P:=P) w ⟨b,off,none⟩ es (fun j v hj=>by rw[Addr.add_lit];exact hl j v hj)
  rw[hlen,←hsz]at this
  simp[loadVar,run_agg ha,run_size hi,this]
 |false=>
  rw[hk]at ha
  have h1:es.length=1:=by rw[hlen];cases κ<;>simp_all [Kd.isAgg,Kd.size]
  obtain⟨u,rfl⟩:=List.length_eq_one_iff.1 h1
  refine⟨u, ?_,by simpa only[RV,hk,Bool.false_eq_true,if_false]using hr⟩
  have:=hl 0 u rfl
  simp only[Nat.add_zero]at this
  simp[loadVar,run_agg ha,this]
theorem box_cell{w:World}{b:Nat}{vs:List Value}{T:TypeId}(h:w.heap[b]?=some (.cells vs.toArray T (0,0)))(j:Nat):w.cell? ⟨b,j,none⟩=vs[j]?:=by
 simp[World.cell?,h]
section
variable {R:Type} {P:Program} {w0:Root} {Fz0:Nat→Prop} {ι:Nat→HI} {Fz:Nat→Prop} {H:List (Nat×AB)} {w:World}
theorem kdK_of{E:Env}{t:TypeId}{K:Kd→Option R}{r:R}(h:kdK E t K=some r):∃κ,E.kd t=some κ∧K κ=some r:=by
 unfold kdK at h
 split at h
 ·rename_i κ hk;exact⟨κ,hk,h⟩
 ·cases h
theorem load_of{t:TypeId}{vx:Value}{K:AV→Option AB→Option R}{r:R}{E:Env}{e:Operand→AV}{a:Operand}{d:Nat}(hP:E.P=P)(m:Mem w0 Fz0 ι Fz H w)(hx:RV ι Fz w (e a) vx)
 (h:opR E (.load t a) e H K d=some r):∃v,K v none=some r∧∃v',(Instr.loadAt t vx).run P w= .ok v' w∧RV ι Fz w v v':=by
 subst hP
 simp only[opR]at h
 split at h
 ·--a box
  rename_i g off he
  rw[he]at hx
  simp only[RV]at hx
  obtain⟨hv,rfl⟩:=hx
  have hrb:=m.rb g
  split at h
  ·rename_i cs hb
   rw[hb]at hrb
   simp only[RB]at hrb
   obtain⟨_,vs,T,⟨rest,hh⟩,hcs,h1⟩:=hrb
   cases ha:aggIs E.P t true with
   |true=>
    rw[ha,cond_true]at h
    obtain⟨i,hi,h⟩:=sizeK_of h
    cases hc:(Nat.ble (off+i.size) cs.length&&aliveL ((cs.drop off).take i.size))with
    |false=>rw[hc]at h;cases h
    |true=>
     rw[hc,cond_true]at h
     simp only[Bool.and_eq_true]at hc
     have hle:=Nat.le_of_ble_eq_true hc.1
     have hlen:=RVs_len hcs
     refine⟨_,h, .agg ((vs.drop off).take i.size).toArray, ?_, ?_⟩
     ·have:=run_loadCells_list (P:=E.P) w ⟨(ι g).blk,off,none⟩ ((vs.drop off).take i.size) (fun j v hj=>by
       rw[Addr.add_lit,box_cell hh]
       rw[List.getElem?_take]at hj
       split at hj
       ·rw[List.getElem?_drop]at hj
        rw[List.getElem?_append_left (List.getElem?_eq_some_iff.1 hj).1]
        exact hj
       ·cases hj)
      rw[show((vs.drop off).take i.size).length=i.size by rw[List.length_take,List.length_drop];omega]at this
      simp[Instr.loadAt,Instr.sureAddr,loadVar,run_agg ha,run_size hi,this]
     ·simp only[RV]
      exact⟨_,rfl,fun u hu=>h1 u (List.mem_of_mem_drop (List.mem_of_mem_take hu)),RVs_take _ (RVs_drop _ hcs)⟩
   |false=>
    rw[ha,cond_false]at h
    cases ha':aggIs E.P t false with
    |false=>rw[ha']at h;cases h
    |true=>
     rw[ha',cond_true]at h
     split at h
     ·cases h
     ·rename_i v hnd hv'
      obtain⟨u,hu,hru⟩:=RVs_at hcs hv'
      refine⟨_,h,u, ?_,hru⟩
      have:=box_cell hh off
      rw[List.getElem?_append_left (List.getElem?_eq_some_iff.1 hu).1,hu]at this
      simp[Instr.loadAt,Instr.sureAddr,loadVar,run_agg ha',this]
     ·cases h
  ·cases h
 ·--an element of a frozen list
  rename_i κ y he
  rw[he]at hx
  simp only[RV]at hx
  obtain⟨b,off,es,rfl,hb,hr,hl⟩:=hx
  cases hc:(aggIs E.P t κ.isAgg&&sizeB E.P t κ.size)with
  |false=>rw[hc]at h;cases h
  |true=>
   rw[hc,cond_true]at h
   simp only[Bool.and_eq_true]at hc
   obtain⟨v,h1,h2⟩:=load_lie (ι:=ι) hc.1 hc.2 hr hl
   exact⟨_,h,v,by simp[Instr.loadAt,Instr.sureAddr,h1],h2⟩
 ·--behind a pointer in frozen memory
  rename_i c he
  rw[he]at hx
  obtain⟨κ,_,h⟩:=kdK_of h
  cases hc:(aggIs E.P t κ.isAgg&&sizeB E.P t κ.size)with
  |false=>rw[hc]at h;cases h
  |true=>
   rw[hc,cond_true]at h
   simp only[Bool.and_eq_true]at hc
   obtain⟨y,hy,h⟩:=Option.bind_eq_some_iff.1 h
   have hx2:=ptrD_of hy hx
   simp only[RV]at hx2
   obtain⟨b,off,es,rfl,hb,hr,hl⟩:=hx2
   obtain⟨v,h1,h2⟩:=load_lie (ι:=ι) hc.1 hc.2 hr hl
   exact⟨_,h,v,by simp[Instr.loadAt,Instr.sureAddr,h1],h2⟩
 ·--an interface in a package variable
  rename_i ti g he
  rw[he]at hx
  simp only[RV]at hx
  obtain⟨rfl,hb,a,hl⟩:=hx
  cases hc:aggIs E.P t false with
  |false=>rw[hc]at h;cases h
  |true=>
   rw[hc,cond_true]at h
   refine⟨_,h, .iface ti (.pointer (some a)), ?_, ?_⟩
   ·have:=hl 0 _ rfl
    simp[Instr.loadAt,Instr.sureAddr,loadVar,run_agg hc,this]
   ·simp only[RV]
    exact⟨_,rfl,ti,a,rfl,hb,hl⟩
 ·--an element of a row of one's own
  rename_i κ₀ g idx he
  rw[he]at hx
  simp only[RV]at hx
  obtain⟨hv,_,rfl⟩:=hx
  have hrb:=m.rb g
  split at h
  ·rename_i el κ xs hb
   rw[hb]at hrb
   cases hc:(decide (κ₀=κ)&&aggIs E.P t κ.isAgg&&sizeB E.P t κ.size)with
   |false=>rw[hc]at h;cases h
   |true=>
    rw[hc,cond_true]at h
    simp only[Bool.and_eq_true,decide_eq_true_eq]at hc
    obtain⟨⟨rfl,hc1⟩,hc2⟩:=hc
    obtain⟨y,hy,h⟩:=Option.bind_eq_some_iff.1 h
    simp only[RB]at hrb
    rcases hrb.2 with⟨hv2,_⟩|⟨_,vs,hh,h2,h3,h4,h5⟩
    ·rw[hv2]at hv;cases hv
    obtain⟨es,hr,hes,hcell⟩:=h5 idx y hy
    obtain⟨v,h1,h2⟩:=load_lie (ι:=ι) (w:=w) (b:=(ι g).blk) (off:=idx*κ₀.size) hc1 hc2 hr (fun j u hj=>by simp[World.cell?,hh,hcell j u hj])
    exact⟨_,h,v,by simp[Instr.loadAt,Instr.sureAddr,h1],h2⟩
  ·cases h
 ·cases h
end
end Go.Av
namespace Go.Av
open Go Go.RowKit
section
variable {R:Type} {P:Program} {w0:Root} {Fz0:Nat→Prop} {ι:Nat→HI} {Fz:Nat→Prop} {H:List (Nat×AB)} {w:World}
theorem fieldAddr_of{s:TypeId}{f:Nat}{vx:Value}{K:AV→Option AB→Option R}{r:R}{E:Env}{e:Operand→AV}{x:Operand}{d:Nat}(hx:RV ι Fz w (e x) vx)
 (h:opR E (.fieldAddr s x f) e H K d=some r):∃v,K v none=some r∧∃v',(Instr.fieldAt s vx f).run E.P w= .ok v' w∧RV ι Fz w v v':=by
 simp only[opR]at h
 obtain⟨fs,fd,hu,hf,h⟩:=fieldK_of h
 obtain⟨i,hi,h⟩:=sizeK_of h
 cases hz:Nat.beq i.size 0 with
 |true=>rw[hz]at h;cases h
 |false=>
  have hz':i.size≠0:=fun e=>by rw[e]at hz;simp at hz
  rw[hz,cond_false]at h
  have frz:∀(κ:Kd) (y:Den κ),RV ι Fz w (.eref κ y) vx→(prjK κ y f fun κ' y o=>bif Nat.beq o fd.offset then K (.eref κ' y) none else none)=some r→
   ∃v,K v none=some r∧∃v',(Instr.fieldAt s vx f).run E.P w= .ok v' w∧RV ι Fz w v v':=by
   intro κ y hx h
   simp only[RV]at hx
   obtain⟨b,off,es,rfl,hb,hr,hl⟩:=hx
   obtain⟨κ',z,o,hk,hprj⟩:=prjK_of κ y f _ r h
   cases ho:Nat.beq o fd.offset with
   |false=>rw[ho]at hk;cases hk
   |true=>
    rw[ho,cond_true]at hk
    have hoe:=Nat.eq_of_beq_eq_true ho
    obtain⟨e1,e2,e3,rfl,h1,h2⟩:=hprj Fz w es hr
    refine⟨_,hk, .pointer (some ⟨b,off+fd.offset,none⟩), ?_, ?_⟩
    ·simp[Instr.fieldAt,run_underlying hu,hf,Instr.sureAddr,fieldPlace,run_size hi,hz',Addr.add_lit]
    ·simp only[RV]
     exact⟨b,_,e2,rfl,hb,h2,by rw[←hoe,←h1];exact hl.mid⟩
  split at h
  ·rename_i g off he
   rw[he]at hx
   simp only[RV]at hx
   obtain⟨hv,rfl⟩:=hx
   refine⟨_,h, .pointer (some ⟨(ι g).blk,off+fd.offset,none⟩), ?_,by simp only[RV];exact⟨hv,trivial⟩⟩
   simp[Instr.fieldAt,run_underlying hu,hf,Instr.sureAddr,fieldPlace,run_size hi,hz',Addr.add_lit]
  ·rename_i κ y he
   rw[he]at hx
   exact frz κ y hx h
  ·rename_i c he
   rw[he]at hx
   obtain⟨κ,_,h⟩:=kdK_of h
   obtain⟨y,hy,h⟩:=Option.bind_eq_some_iff.1 h
   exact frz κ y (ptrD_of hy hx) h
  ·cases h
theorem field_of{s:TypeId}{f:Nat}{vx:Value}{K:AV→Option AB→Option R}{r:R}{E:Env}{e:Operand→AV}{x:Operand}{d:Nat}(hx:RV ι Fz w (e x) vx)
 (h:opR E (.field s x f) e H K d=some r):∃v,K v none=some r∧∃v',(Instr.field s vx f).run E.P w= .ok v' w∧RV ι Fz w v v':=by
 simp only[opR]at h
 obtain⟨fs,fd,hu,hf,h⟩:=fieldK_of h
 split at h
 ·rename_i cs he
  rw[he]at hx
  simp only[RV]at hx
  obtain⟨vs,rfl,h1,hcs⟩:=hx
  cases ha:aggIs E.P fd.type true with
  |true=>
   rw[ha,cond_true]at h
   obtain⟨i,hi,h⟩:=sizeK_of h
   cases hc:aliveL ((cs.drop fd.offset).take i.size)with
   |false=>rw[hc]at h;cases h
   |true=>
    rw[hc,cond_true]at h
    refine⟨_,h, .agg ((vs.drop fd.offset).take i.size).toArray, ?_, ?_⟩
    ·simp[Instr.field,run_underlying hu,hf,asAgg,run_part w ha hi,List.extract_toArray]
    ·simp only[RV]
     exact⟨_,rfl,fun u hu=>h1 u (List.mem_of_mem_drop (List.mem_of_mem_take hu)),RVs_take _ (RVs_drop _ hcs)⟩
  |false=>
   rw[ha,cond_false]at h
   cases ha':aggIs E.P fd.type false with
   |false=>rw[ha']at h;cases h
   |true=>
    rw[ha',cond_true]at h
    split at h
    ·cases h
    ·rename_i v hnd hv'
     obtain⟨u,hu',hru⟩:=RVs_at hcs hv'
     refine⟨_,h,u, ?_,hru⟩
     simp[Instr.field,run_underlying hu,hf,asAgg,run_part_cell w ha' (show vs.toArray[fd.offset]?=some u by simpa using hu')]
    ·cases h
 ·rename_i κ y he
  rw[he]at hx
  obtain⟨κ',z,o,hk,hprj⟩:=prjK_of κ y f _ r h
  cases hc:(Nat.beq o fd.offset&&aggIs E.P fd.type κ'.isAgg&&sizeB E.P fd.type κ'.size)with
  |false=>rw[hc]at hk;cases hk
  |true=>
   rw[hc,cond_true]at hk
   simp only[Bool.and_eq_true]at hc
   obtain⟨⟨ho,ha⟩,hs⟩:=hc
   have hoe:=Nat.eq_of_beq_eq_true ho
   obtain⟨i,hi,hsz⟩:=sizeB_of hs
   have hagg:κ.isAgg=true:=by
    cases κ<;>first|rfl|(simp[prjK]at h)
   simp only[RV,hagg,if_true]at hx
   obtain⟨vs,rfl,hr⟩:=hx
   obtain⟨e1,e2,e3,hes,h1,h2⟩:=hprj Fz w _ hr
   have hl2:=RP_len κ' z e2 h2
   refine⟨_,hk, ?_⟩
   cases hka:κ'.isAgg with
   |true=>
    rw[hka]at ha
    refine⟨.agg e2.toArray, ?_,by simp only[RV,hka,if_true];exact⟨_,rfl,by simpa using h2⟩⟩
    have hex:vs.extract fd.offset (fd.offset+i.size)=e2.toArray:=by
     apply Array.ext'
     rw[Array.toList_extract,hes,List.extract_eq_take_drop,←hoe,hsz,←hl2,show o+e2.length-o=e2.length by omega,←h1,List.append_assoc,List.drop_left,List.take_left]
    simp[Instr.field,run_underlying hu,hf,asAgg,run_part w ha hi,hex]
   |false=>
    rw[hka]at ha
    have h1':e2.length=1:=by rw[hl2];cases κ'<;>simp_all [Kd.isAgg,Kd.size]
    obtain⟨u,rfl⟩:=List.length_eq_one_iff.1 h1'
    refine⟨u, ?_,by simpa only[RV,hka,Bool.false_eq_true,if_false]using h2⟩
    have hcell:vs[fd.offset]?=some u:=by
     rw[←Array.getElem?_toList,hes,←hoe,←h1];simp
    simp[Instr.field,run_underlying hu,hf,asAgg,run_part_cell w ha hcell]
 ·cases h
theorem asIntOf_int(k:IntKind)(n:Int)(P:Program)(w:World):(asIntOf (.int k n)).run P w= .ok (k,n) w:=rfl
theorem indexAddr_of{t:TypeId}{vx vi:Value}{K:AV→Option AB→Option R}{r:R}{E:Env}{e:Operand→AV}{x i:Operand}{d:Nat}(m:Mem w0 Fz0 ι Fz H w)(hx:RV ι Fz w (e x) vx)(hi:RV ι Fz w (e i) vi)
 (h:opR E (.indexAddr t x i) e H K d=some r):∃v,K v none=some r∧∃v',(Instr.indexAt t vx vi).run E.P w= .ok v' w∧RV ι Fz w v v':=by
 simp only[opR]at h
 split at h
 ·rename_i n el hat
  have hu:=arrT_of hat
  have run (a:Addr) (k:IntKind) (p:Nat) (inf:TypeInfo) (hinf:E.P.info? el=some inf) (hp:p<n) (hn:1≤n):
   (Instr.indexAt t (.pointer (some a)) (.int k (p:Int))).run E.P w= .ok (.pointer (some (a.add (p*inf.size)))) w:=by
   simp[Instr.indexAt,asIntOf_int,run_underlying hu,Instr.sureAddr,run_size hinf,hp]
  split at h
  ·rename_i κ g m0 k j hex hei
   rw[hex]at hx
   rw[hei,RV_int]at hi
   subst hi
   cases hn:(Nat.beq m0 n&&sizeB E.P el κ.size)with
   |false=>rw[hn]at h;cases h
   |true=>
    rw[hn,cond_true]at h
    simp only[Bool.and_eq_true]at hn
    have he:=Nat.eq_of_beq_eq_true hn.1
    subst he
    obtain⟨inf,hinf,hsz⟩:=sizeB_of hn.2
    obtain⟨q,hq,h⟩:=Option.bind_eq_some_iff.1 h
    obtain⟨h0,h1,rfl⟩:=chk_of hq
    simp only[RV]at hx
    obtain⟨hv,hl,_,rfl⟩:=hx
    have hj:((j.toNat:Nat):Int)=j:=Int.toNat_of_nonneg h0
    have hr:=run ⟨(ι g).blk,0,none⟩ k j.toNat inf hinf (by omega) (by omega)
    rw[hj]at hr
    refine⟨_,h,_,hr, ?_⟩
    simp only[RV,Addr.add_lit,Nat.zero_add,hsz]
    exact⟨hv,by omega,trivial⟩
  ·rename_i g off k j hex hei
   rw[hex]at hx
   rw[hei,RV_int]at hi
   subst hi
   cases hn:Nat.ble 1 n with
   |false=>rw[hn]at h;cases h
   |true=>
    rw[hn,cond_true]at h
    obtain⟨inf,hinf,h⟩:=sizeK_of h
    obtain⟨p,_,hp,rfl,h'⟩:=idxK_of _ _ h
    simp only[RV]at hx
    obtain⟨hv,rfl⟩:=hx
    refine⟨_,h',_,run _ k p inf hinf (by omega) (Nat.le_of_ble_eq_true hn), ?_⟩
    simp only[RV,Addr.add_lit]
    exact⟨hv,trivial⟩
  ·rename_i κ y k j hex hei
   rw[hex]at hx
   rw[hei,RV_int]at hi
   subst hi
   cases hn:Nat.ble 1 n with
   |false=>rw[hn]at h;cases h
   |true=>
    rw[hn,cond_true]at h
    obtain⟨inf,hinf,h⟩:=sizeK_of h
    obtain⟨p,_,hp,rfl,h'⟩:=idxK_of _ _ h
    obtain⟨κ',z,o,hk,hprj⟩:=prjK_of κ y p _ r h'
    cases ho:(Nat.beq o (p*inf.size)&&Nat.beq κ'.size inf.size)with
    |false=>rw[ho]at hk;cases hk
    |true=>
     rw[ho,cond_true]at hk
     simp only[Bool.and_eq_true]at ho
     have hoe:=Nat.eq_of_beq_eq_true ho.1
     simp only[RV]at hx
     obtain⟨b,off,es,rfl,hb,hr,hl⟩:=hx
     obtain⟨e1,e2,e3,rfl,h1,h2⟩:=hprj Fz w es hr
     refine⟨_,hk,_,run _ k p inf hinf (by omega) (Nat.le_of_ble_eq_true hn), ?_⟩
     simp only[RV,Addr.add_lit]
     exact⟨b,_,e2,rfl,hb,h2,by rw[←hoe,←h1];exact hl.mid⟩
  ·cases h
 rename_i hnone
 clear hnone
 obtain⟨el,hu,h⟩:=elemK_of h
 have run (a:Addr) (len cap:Nat) (k:IntKind) (n:Int) (inf:TypeInfo) (hinf:E.P.info? el=some inf) (h0:0≤n) (h1:n<len):
  (Instr.indexAt t (.slice (some a) len cap) (.int k n)).run E.P w= .ok (.pointer (some (a.add (n.toNat *inf.size)))) w:=by
  simp[Instr.indexAt,asIntOf_int,run_underlying hu,h0,h1,run_size hinf]
 split at h
 ·rename_i g n k j hex hei
  rw[hex]at hx
  rw[hei,RV_int]at hi
  subst hi
  cases hs:sizeB E.P el 1 with
  |false=>rw[hs]at h;cases h
  |true=>
   rw[hs,cond_true]at h
   obtain⟨inf,hinf,hsz⟩:=sizeB_of hs
   obtain⟨p,_,hp,rfl,h'⟩:=idxK_of _ _ h
   simp only[RV]at hx
   obtain⟨hv,rfl⟩:=hx
   refine⟨_,h',_,run _ n n k (p:Int) inf hinf (by omega) (by omega), ?_⟩
   simp only[RV,Addr.add_lit,hsz]
   exact⟨hv,by simp⟩
 ·rename_i κ xs k n hex hei
  rw[hex]at hx
  rw[hei,RV_int]at hi
  subst hi
  cases hs:sizeB E.P el κ.size with
  |false=>rw[hs]at h;cases h
  |true=>
   rw[hs,cond_true]at h
   obtain⟨inf,hinf,hsz⟩:=sizeB_of hs
   obtain⟨y,hy,h⟩:=Option.bind_eq_some_iff.1 h
   obtain⟨h0,hlt,hy⟩:=nth_of hy
   simp only[RV,Kd.isAgg,Bool.false_eq_true,if_false,RP]at hx
   obtain⟨_,e1,a,c,rfl,hc,hx⟩:=hx
   simp only[List.cons.injEq,and_true]at e1
   subst e1
   rcases hx with rfl|⟨b,off,rfl,hb,hx⟩
   ·simp at hlt
   obtain⟨es,hr,hes,hl⟩:=hx _ y hy
   refine⟨_,h,_,run ⟨b,off,none⟩ xs.length c k n inf hinf h0 (by omega), ?_⟩
   simp only[RV,Addr.add_lit,hsz]
   exact⟨b,_,es,rfl,hb,hr,hl⟩
 ·rename_i κ' g k n hex hei
  rw[hex]at hx
  rw[hei,RV_int]at hi
  subst hi
  have hrb:=m.rb g
  split at h
  ·rename_i el' κ xs hb
   rw[hb]at hrb
   cases hs:sizeB E.P el κ.size with
   |false=>rw[hs]at h;cases h
   |true=>
    rw[hs,cond_true]at h
    obtain⟨inf,hinf,hsz⟩:=sizeB_of hs
    obtain⟨j,hj,h⟩:=Option.bind_eq_some_iff.1 h
    obtain⟨h0,h1,rfl⟩:=chk_of hj
    simp only[RB]at hrb
    simp only[RV]at hx
    rcases hx with⟨hv,_⟩|⟨hv,rfl⟩
    ·rcases hrb.2 with⟨_,e⟩|⟨e,_⟩
     ·rw[e]at h1;simp at h1;omega
     ·rw[hv]at e;cases e
    ·refine⟨_,h,_,run ⟨(ι g).blk,0,none⟩ (ι g).len (ι g).cap k n inf hinf h0 (by rw[hrb.1];exact h1), ?_⟩
     simp only[RV,Addr.add_lit,hsz,Nat.zero_add]
     exact⟨hv,by rw[hrb.1];omega,trivial⟩
  ·cases h
 ·rename_i κ₀ g off len k n hex hei
  rw[hex]at hx
  rw[hei,RV_int]at hi
  subst hi
  have hrb:=m.rb g
  split at h
  ·rename_i el' κ xs hb
   cases hs:(decide (κ₀=κ)&&sizeB E.P el κ.size)with
   |false=>rw[hs]at h;cases h
   |true=>
    rw[hs,cond_true]at h
    simp only[Bool.and_eq_true,decide_eq_true_eq]at hs
    obtain⟨rfl,hs⟩:=hs
    obtain⟨inf,hinf,hsz⟩:=sizeB_of hs
    obtain⟨j,hj,h⟩:=Option.bind_eq_some_iff.1 h
    obtain⟨h0,h1,rfl⟩:=chk_of hj
    simp only[RV]at hx
    obtain⟨hol,hx⟩:=hx
    rcases hx with⟨rfl,_⟩|⟨hv,c,rfl,hc⟩
    ·omega
    ·refine⟨_,h,_,run ⟨(ι g).blk,off*κ₀.size,none⟩ len c k n inf hinf h0 h1, ?_⟩
     simp only[RV,Addr.add_lit,hsz,Nat.add_mul]
     exact⟨hv,by omega,trivial⟩
  ·cases h
 ·cases h
theorem bounds_of2{P:Program}{w:World}{lo hi:Option Value}{b:Bool}{l h:Int}{len cap:Nat}(hl:(lo=none∧l=0)∨∃k,lo=some (.int k l))(hh:(hi=none∧h=len)∨∃k,hi=some (.int k h))
 (h0:0≤l) (h1:l≤h) (h2:h≤cap):(Instr.sliceBounds b len cap lo hi none).run P w= .ok (l.toNat,h.toNat,cap) w:=by
 have e2:(h.toNat:Int)=h:=Int.toNat_of_nonneg (by omega)
 rcases hh with⟨rfl,rfl⟩|⟨k,rfl⟩
 ·rcases hl with⟨rfl,rfl⟩|⟨k',rfl⟩
  ·simp[Instr.sliceBounds]
  ·simp only[Instr.sliceBounds,Sem.run_bind,Sem.run_pure,Result.andThen_ok,run_sliceBound w k' l len _ h0 h1]
   simp
 ·rcases hl with⟨rfl,rfl⟩|⟨k',rfl⟩
  ·simp only[Instr.sliceBounds,Sem.run_bind,Sem.run_pure,Result.andThen_ok,run_sliceBound w k h cap _ (by omega) (by omega)]
   simp
  ·simp only[Instr.sliceBounds,Sem.run_bind,Sem.run_pure,Result.andThen_ok,run_sliceBound w k h cap _ (by omega) (by omega)]
   simp only[Option.isSome_none,Bool.false_eq_true,if_false]
   rw[run_sliceBound w k' l h.toNat _ h0 (by omega)]
   simp
theorem bounds_of{P:Program}{w:World}{lo hi:Option Value}{b:Bool}{l h:Int}{len cap:Nat}(hl:(lo=none∧l=0)∨∃k,lo=some (.int k l))(hh:(hi=none∧h=len)∨∃k,hi=some (.int k h))
 (h0:0≤l) (h1:l≤h) (h2:h≤len) (hc:len≤cap):(Instr.sliceBounds b len cap lo hi none).run P w= .ok (l.toNat,h.toNat,cap) w:=by
 have e2:(h.toNat:Int)=h:=Int.toNat_of_nonneg (by omega)
 rcases hh with⟨rfl,rfl⟩|⟨k,rfl⟩
 ·rcases hl with⟨rfl,rfl⟩|⟨k',rfl⟩
  ·simp[Instr.sliceBounds]
  ·simp only[Instr.sliceBounds,Sem.run_bind,Sem.run_pure,Result.andThen_ok,run_sliceBound w k' l len _ h0 h1]
   simp
 ·rcases hl with⟨rfl,rfl⟩|⟨k',rfl⟩
  ·simp only[Instr.sliceBounds,Sem.run_bind,Sem.run_pure,Result.andThen_ok,run_sliceBound w k h cap _ (by omega) (by omega)]
   simp
  ·simp only[Instr.sliceBounds,Sem.run_bind,Sem.run_pure,Result.andThen_ok,run_sliceBound w k h cap _ (by omega) (by omega)]
   simp only[Option.isSome_none,Bool.false_eq_true,if_false]
   rw[run_sliceBound w k' l h.toNat _ h0 (by omega)]
   rfl
theorem flatD_ment:∀(κ:Kd) (x:Den κ) (h:Nat),mentL h (flatD κ x)=false
 | .int _,_,_=>rfl
 | .float,_,_=>rfl
 | .bool,_,_=>rfl
 | .str,_,_=>rfl
 | .list _,_,_=>rfl
 | .unit,_,_=>rfl
 | .geo,_,_=>rfl
 | .any,_,_=>rfl
 | .nl _,_,_=>rfl
 | .pair a b,x,h=>by
  have app:∀(l m:List AV),mentL h (l++m)=(mentL h l||mentL h m):=by
   intro l m
   induction l with
   |nil=>simp[mentL]
   |cons v l ih=>simp only[List.cons_append,mentL,ih,Bool.or_assoc]
  simp only[flatD,app,flatD_ment a x.1 h,flatD_ment b x.2 h,Bool.or_self]
theorem slice_of{t:TypeId}{K:AV→Option AB→Option R}{r:R}{E:Env}{e:Operand→AV}{x:Operand}{lo hi:Option Operand}{ρ:Operand→Value}{d:Nat}(m:Mem w0 Fz0 ι Fz H w)
 (he:∀x,RV ι Fz w (e x) (ρ x)) (h:opR E (.slice t x lo hi none) e H K d=some r):∃v,K v none=some r∧∃v',(Instr.sliceAt t (ρ x) (lo.map ρ) (hi.map ρ) none).run E.P w= .ok v' w∧RV ι Fz w v v':=by
 have hx:=he x
 simp only[opR]at h
 have bd:∀(len:Nat) (G:Nat×Nat→Option R),(match(lo.map e).getD (.pv (.int .i64) 0),(hi.map e).getD (.pv (.int .i64) (len:Int))with
  | .pv (.int _) l, .pv (.int _) h=>(chk2 l h len).bind G
  |_,_=>none)=some r→∃l h:Int,0≤l∧l≤h∧h≤len∧G (l.toNat,h.toNat)=some r∧
   ((lo.map ρ=none∧l=0)∨∃k,lo.map ρ=some (.int k l))∧((hi.map ρ=none∧h=len)∨∃k,hi.map ρ=some (.int k h)):=by
  intro len G hG
  split at hG
  ·rename_i k l k' hh e1 e2
   obtain⟨p,hp,hG⟩:=Option.bind_eq_some_iff.1 hG
   obtain⟨h0,h1,h2,rfl⟩:=chk2_of hp
   refine⟨l,hh,h0,h1,h2,hG, ?_, ?_⟩
   ·cases lo with
    |none=>left;simp only[Option.map_none,Option.getD_none]at e1;cases e1;exact⟨rfl,rfl⟩
    |some o=>right;simp only[Option.map_some,Option.getD_some]at e1;have:=he o;rw[e1,RV_int]at this;exact⟨k,by simp[this]⟩
   ·cases hi with
    |none=>left;simp only[Option.map_none,Option.getD_none]at e2;cases e2;exact⟨rfl,rfl⟩
    |some o=>right;simp only[Option.map_some,Option.getD_some]at e2;have:=he o;rw[e2,RV_int]at this;exact⟨k',by simp[this]⟩
  ·cases hG
 have bd2:∀(len top:Nat) (G:Nat×Nat→Option R),(match(lo.map e).getD (.pv (.int .i64) 0),(hi.map e).getD (.pv (.int .i64) (len:Int))with
  | .pv (.int _) l, .pv (.int _) h=>(chk2 l h top).bind G
  |_,_=>none)=some r→∃l h:Int,0≤l∧l≤h∧h≤top∧G (l.toNat,h.toNat)=some r∧
   ((lo.map ρ=none∧l=0)∨∃k,lo.map ρ=some (.int k l))∧((hi.map ρ=none∧h=len)∨∃k,hi.map ρ=some (.int k h)):=by
  intro len top G hG
  split at hG
  ·rename_i k l k' hh e1 e2
   obtain⟨p,hp,hG⟩:=Option.bind_eq_some_iff.1 hG
   obtain⟨h0,h1,h2,rfl⟩:=chk2_of hp
   refine⟨l,hh,h0,h1,h2,hG, ?_, ?_⟩
   ·cases lo with
    |none=>left;simp only[Option.map_none,Option.getD_none]at e1;cases e1;exact⟨rfl,rfl⟩
    |some o=>right;simp only[Option.map_some,Option.getD_some]at e1;have:=he o;rw[e1,RV_int]at this;exact⟨k,by simp[this]⟩
   ·cases hi with
    |none=>left;simp only[Option.map_none,Option.getD_none]at e2;cases e2;exact⟨rfl,rfl⟩
    |some o=>right;simp only[Option.map_some,Option.getD_some]at e2;have:=he o;rw[e2,RV_int]at this;exact⟨k',by simp[this]⟩
  ·cases hG
 split at h
 ·rename_i s hex
  rw[hex,RV_str]at hx
  rw[hx]
  split at h
  ·rename_i hu
   obtain⟨l,hh,h0,h1,h2,hG,hl,hr⟩:=bd _ _ h
   refine⟨_,hG,_, ?_,RV_str.2 rfl⟩
   simp[Instr.sliceAt,run_underlying hu,Instr.slice,bounds_of hl hr h0 h1 h2 (Nat.le_refl _)]
  ·cases h
 ·rename_i κ g m0 hex
  rw[hex]at hx
  split at h
  ·rename_i n el hat
   have hu:=arrT_of hat
   cases hs:(Nat.beq m0 n&&sizeB E.P el κ.size&&lo.isNone&&hi.isNone)with
   |false=>rw[hs]at h;cases h
   |true=>
    rw[hs,cond_true]at h
    simp only[Bool.and_eq_true,Option.isNone_iff_eq_none]at hs
    obtain⟨⟨⟨hs1,hs2⟩,rfl⟩,rfl⟩:=hs
    have he:=Nat.eq_of_beq_eq_true hs1
    subst he
    obtain⟨inf,hinf,hsz⟩:=sizeB_of hs2
    simp only[RV]at hx
    obtain⟨hv,hl,hc,hxe⟩:=hx
    rw[hxe]
    refine⟨_,h, .slice (some ⟨(ι g).blk,0,none⟩) m0 m0, ?_, ?_⟩
    ·have hb:=bounds_of (P:=E.P) (w:=w) (lo:=none) (hi:=none) (b:=false) (l:=0) (h:=(m0:Int)) (len:=m0) (cap:=m0) (.inl ⟨rfl,rfl⟩) (.inl ⟨rfl,rfl⟩) (Int.le_refl _) (by omega) (by omega) (Nat.le_refl _)
     simp[Instr.sliceAt,run_underlying hu,Instr.sureAddr,hb,run_size hinf,Addr.add_lit]
    ·simp only[RV]
     exact .inr ⟨hv,by rw[hl,hc]⟩
  ·cases h
 ·rename_i κ y hex
  rw[hex]at hx
  split at h
  ·rename_i n el hat
   have hu:=arrT_of hat
   split at h
   ·rename_i κ' hkd
    cases hs:(sizeB E.P el κ'.size&&Nat.ble 1 κ'.size)with
    |false=>rw[hs]at h;cases h
    |true=>
     rw[hs,cond_true]at h
     simp only[Bool.and_eq_true]at hs
     obtain⟨inf,hinf,hsz⟩:=sizeB_of hs.1
     obtain⟨ys,hys,h⟩:=Option.bind_eq_some_iff.1 h
     obtain⟨l,hh,h0,h1,h2,hG,hl,hr⟩:=bd _ _ h
     simp only[RV]at hx
     obtain⟨b,off,es,hxe,hb,hrp,hlie⟩:=hx
     have hcs:=flatD_of (ι:=ι) κ y es hrp
     have hnm:∀h,mentL h (flatD κ y)=true→(getH H h).isArr→(ι h).virt=false→Fz (ι h).blk:=fun h hm=>by
      rw[flatD_ment]at hm;cases hm
     obtain⟨g1,g2,g3⟩:=chunks_of (H:=H) (Fz':=Fz) m.rb (fun _ h=>h) n _ ys es hys hcs hnm
     rw[hxe]
     refine⟨_,hG, .slice (some (if n=l.toNat then⟨b,off,none⟩else(⟨b,off,none⟩:Addr).add (l.toNat *inf.size))) (hh.toNat-l.toNat) (n-l.toNat), ?_, ?_⟩
     ·simp[Instr.sliceAt,run_underlying hu,Instr.sureAddr,bounds_of hl hr h0 h1 h2 (Nat.le_refl _),run_size hinf]
     ·simp only[RV,Kd.isAgg,Bool.false_eq_true,if_false,RP]
      have hlen:((ys.drop l.toNat).take (hh.toNat-l.toNat)).length=hh.toNat-l.toNat:=by rw[List.length_take,List.length_drop];omega
      refine⟨_,rfl,_,_,by rw[hlen],by rw[hlen];omega, ?_⟩
      by_cases hz:hh.toNat-l.toNat=0
      ·left;rw[hz];simp
      ·right
       rw[if_neg (by omega)]
       refine⟨b,_,by simp only[Addr.add_lit];rfl,hb,fun i z hz'=> ?_⟩
       have hi':i<hh.toNat-l.toNat:=by
        rcases Nat.lt_or_ge i (hh.toNat-l.toNat)with h|h
        ·exact h
        ·rw[List.getElem?_eq_none (by omega)]at hz';cases hz'
       rw[List.getElem?_take,if_pos hi',List.getElem?_drop]at hz'
       have hrp':=g3 _ z hz'
       have hidx:(l.toNat+i)*κ'.size+κ'.size≤es.length:=by
        rw[g2,←Nat.succ_mul];exact Nat.mul_le_mul_right _ (by omega)
       refine⟨_,hrp',by rw[List.length_take,List.length_drop];omega,fun j u hj=> ?_⟩
       rw[List.getElem?_take]at hj
       split at hj
       ·rw[List.getElem?_drop]at hj
        have:=hlie _ u hj
        rw[hsz,show off+l.toNat *κ'.size+i*κ'.size+j=off+((l.toNat+i)*κ'.size+j)by rw[Nat.add_mul];omega]
        exact this
       ·cases hj
   ·cases h
  ·cases h
 ·rename_i hns hns2
  obtain⟨el,hu,h⟩:=elemK_of h
  have run (a:Option Addr) (len cap:Nat) (l hh:Int) (inf:TypeInfo) (hinf:E.P.info? el=some inf) (h0:0≤l) (h1:l≤hh) (h2:hh≤len) (hc:len≤cap)
   (hl:(lo.map ρ=none∧l=0)∨∃k,lo.map ρ=some (.int k l)) (hr:(hi.map ρ=none∧hh=len)∨∃k,hi.map ρ=some (.int k hh)):
   (Instr.sliceAt t (.slice a len cap) (lo.map ρ) (hi.map ρ) none).run E.P w= .ok (.slice (if cap=l.toNat then a else a.map (·.add (l.toNat *inf.size))) (hh.toNat-l.toNat) (cap-l.toNat)) w:=by
   simp[Instr.sliceAt,run_underlying hu,Instr.slice,bounds_of hl hr h0 h1 h2 hc,run_size hinf]
  have run2 (a:Option Addr) (len cap:Nat) (l hh:Int) (inf:TypeInfo) (hinf:E.P.info? el=some inf) (h0:0≤l) (h1:l≤hh) (h2:hh≤cap)
   (hl:(lo.map ρ=none∧l=0)∨∃k,lo.map ρ=some (.int k l)) (hr:(hi.map ρ=none∧hh=len)∨∃k,hi.map ρ=some (.int k hh)):
   (Instr.sliceAt t (.slice a len cap) (lo.map ρ) (hi.map ρ) none).run E.P w= .ok (.slice (if cap=l.toNat then a else a.map (·.add (l.toNat *inf.size))) (hh.toNat-l.toNat) (cap-l.toNat)) w:=by
   simp[Instr.sliceAt,run_underlying hu,Instr.slice,bounds_of2 hl hr h0 h1 h2,run_size hinf]
  split at h
  ·rename_i κ xs hex
   rw[hex]at hx
   cases hs:sizeB E.P el κ.size with
   |false=>rw[hs]at h;cases h
   |true=>
    rw[hs,cond_true]at h
    obtain⟨inf,hinf,hsz⟩:=sizeB_of hs
    obtain⟨l,hh,h0,h1,h2,hG,hl,hr⟩:=bd _ _ h
    simp only[RV,Kd.isAgg,Bool.false_eq_true,if_false,RP]at hx
    obtain⟨_,e1,a,c,hxe,hc,hx⟩:=hx
    simp only[List.cons.injEq,and_true]at e1
    subst e1
    rw[hxe]
    refine⟨_,hG,_,run a xs.length c l hh inf hinf h0 h1 h2 hc hl hr, ?_⟩
    simp only[RV,Kd.isAgg,Bool.false_eq_true,if_false,RP]
    have hlen:((xs.drop l.toNat).take (hh.toNat-l.toNat)).length=hh.toNat-l.toNat:=by rw[List.length_take,List.length_drop];omega
    refine⟨_,rfl,_,_,by rw[hlen],by rw[hlen];omega, ?_⟩
    by_cases hz:hh.toNat-l.toNat=0
    ·left;rw[hz];simp
    ·right
     rcases hx with rfl|⟨b,off,rfl,hb,hx⟩
     ·simp at h2;omega
     ·rw[if_neg (by omega)]
      refine⟨b,_,by simp only[Option.map_some,Addr.add_lit];rfl,hb,fun i y hy=> ?_⟩
      have hi':i<hh.toNat-l.toNat:=by
       rcases Nat.lt_or_ge i (hh.toNat-l.toNat)with h|h
       ·exact h
       ·rw[List.getElem?_eq_none (by omega)]at hy;cases hy
      rw[List.getElem?_take,if_pos hi',List.getElem?_drop]at hy
      obtain⟨es,ha,hb',hcx⟩:=hx _ y hy
      refine⟨es,ha,hb', ?_⟩
      rw[hsz,Nat.add_assoc,←Nat.add_mul]
      exact hcx
  ·rename_i κ' g hex
   rw[hex]at hx
   have hrb:=m.rb g
   split at h
   ·rename_i el' κ xs hb
    rw[hb]at hrb
    cases hs:sizeB E.P el κ.size with
    |false=>rw[hs]at h;cases h
    |true=>
     rw[hs,cond_true]at h
     obtain⟨inf,hinf,hsz⟩:=sizeB_of hs
     cases hfu:(lo.isNone&&hi.isNone)with
     |true=>
      rw[hfu,cond_true]at h
      simp only[Bool.and_eq_true,Option.isNone_iff_eq_none]at hfu
      obtain⟨hlo,hhi⟩:=hfu
      simp only[RB]at hrb
      have hx0:=hx
      simp only[RV]at hx
      rcases hx with⟨hv,hxe⟩|⟨hv,hxe⟩
      ·refine⟨_,h,_, ?_,hx0⟩
       have:=run none 0 0 0 0 inf hinf (by omega) (by omega) (by omega) (by omega) (.inl ⟨by rw[hlo];rfl,rfl⟩) (.inl ⟨by rw[hhi];rfl,rfl⟩)
       rw[hxe]
       simpa using this
      ·have hcap:xs.length≤(ι g).cap:=by
        rcases hrb.2 with⟨e,_⟩|⟨_,_,_,h,_⟩
        ·rw[hv]at e;cases e
        ·exact h
       refine⟨_,h,_, ?_,hx0⟩
       have:=run (some ⟨(ι g).blk,0,none⟩) (ι g).len (ι g).cap 0 (ι g).len inf hinf (by omega) (by omega) (by omega) (by rw[hrb.1];exact hcap) (.inl ⟨by rw[hlo];rfl,rfl⟩) (.inl ⟨by rw[hhi];rfl,rfl⟩)
       rw[hxe]
       simpa[Addr.add_lit]using this
     |false=>
     rw[hfu,cond_false]at h
     obtain⟨l,hh,h0,h1,h2,hG,hl,hr⟩:=bd _ _ h
     simp only[RB]at hrb
     simp only[RV]at hx
     rcases hx with⟨hv,hxe⟩|⟨hv,hxe⟩
     ·rcases hrb.2 with⟨_,e⟩|⟨e,_⟩
      ·rw[e]at h2
       simp only[List.length_nil,Int.natCast_zero]at h2
       have hl0:l=0:=by omega
       have hh0:hh=0:=by omega
       subst hl0 hh0
       rw[hxe]
       refine⟨_,hG,_,run none 0 0 0 0 inf hinf (by omega) (by omega) (by omega) (by omega) hl ?_, ?_⟩
       ·rcases hr with⟨a,b⟩|hr
        ·left;exact⟨a,rfl⟩
        ·right;exact hr
       ·simp only[RV]
        refine⟨by simp, .inl ⟨by simp,_,_,rfl,fun _ hv'=> ?_⟩⟩
        rw[hv]at hv';cases hv'
      ·rw[hv]at e;cases e
     ·have hcap:xs.length≤(ι g).cap:=by
       rcases hrb.2 with⟨e,_⟩|⟨_,_,_,h,_⟩
       ·rw[hv]at e;cases e
       ·exact h
      rw[hxe]
      refine⟨_,hG,_,run (some ⟨(ι g).blk,0,none⟩) (ι g).len (ι g).cap l hh inf hinf h0 h1 (by rw[hrb.1];exact h2) (by rw[hrb.1];exact hcap) hl ?_, ?_⟩
      ·rcases hr with⟨a,b⟩|hr
       ·left;exact⟨a,by rw[b,hrb.1]⟩
       ·right;exact hr
      ·simp only[RV]
       refine⟨by rw[hrb.1];omega, ?_⟩
       by_cases hz:hh.toNat-l.toNat=0
       ·left;rw[hz]
        refine⟨rfl,_,_,rfl,fun ho _=> ?_⟩
        rw[ho]
        simp[Addr.add]
       ·right
        rw[if_neg (by omega)]
        refine⟨hv,(ι g).cap-l.toNat, ?_,by omega,by omega⟩
        simp only[Option.map_some,Addr.add_lit,Nat.zero_add,hsz]
   ·cases h
  ·rename_i κ₀ g off len hex
   rw[hex]at hx
   split at h
   ·rename_i el' κ xs hb
    cases hs:(decide (κ₀=κ)&&sizeB E.P el κ.size)with
    |false=>rw[hs]at h;cases h
    |true=>
     rw[hs,cond_true]at h
     simp only[Bool.and_eq_true,decide_eq_true_eq]at hs
     obtain⟨rfl,hs⟩:=hs
     obtain⟨inf,hinf,hsz⟩:=sizeB_of hs
     obtain⟨l,hh,h0,h1,h2,hG,hl,hr⟩:=bd2 _ _ _ h
     simp only[RV]at hx
     obtain⟨hlen,hx⟩:=hx
     have hrb:=m.rb g
     rw[hb]at hrb
     simp only[RB]at hrb
     have zero_:∀(a:Option Addr) (c:Nat),ρ x= .slice a 0 c→len=0→l=0→hh=0→(off=0→(ι g).virt=false→a=some ⟨(ι g).blk,0,none⟩∧c=(ι g).cap)→∃v,K v none=some r∧∃v',(Instr.sliceAt t (ρ x) (lo.map ρ) (hi.map ρ) none).run E.P w= .ok v' w∧RV ι Fz w v v':=by
      intro a c hxe hz hl0 hh0 hcl
      subst hl0 hh0 hz
      rw[hxe]
      refine⟨_,hG,_,run a 0 c 0 0 inf hinf (by omega) (by omega) (by omega) (by omega) hl hr, ?_⟩
      simp only[RV]
      refine⟨by simp;omega, .inl ⟨by simp,_,_,rfl,fun ho hv=> ?_⟩⟩
      have:=hcl (by simpa using ho) hv
      rw[this.1,this.2]
      simp[Addr.add]
     have full:(ι g).virt=false→(xs.length:Nat)≤(ι g).cap:=fun hv=>by
      rcases hrb.2 with⟨e,_⟩|⟨_,_,_,h,_⟩
      ·rw[hv]at e;cases e
      ·exact h
     have go:∀(c:Nat),(ι g).virt=false→ρ x= .slice (some ⟨(ι g).blk,off*κ₀.size,none⟩) len c→hh≤c→off+c=(ι g).cap→off+hh.toNat≤(ι g).len→∃v,K v none=some r∧∃v',(Instr.sliceAt t (ρ x) (lo.map ρ) (hi.map ρ) none).run E.P w= .ok v' w∧RV ι Fz w v v':=by
      intro c hv hxe hc hce hle
      rw[hxe]
      refine⟨_,hG,_,run2 (some ⟨(ι g).blk,off*κ₀.size,none⟩) len c l hh inf hinf h0 h1 hc hl hr, ?_⟩
      simp only[RV]
      refine⟨by omega, ?_⟩
      by_cases hz:hh.toNat-l.toNat=0
      ·left;rw[hz]
       refine⟨rfl,_,_,rfl,fun ho _=> ?_⟩
       have e1:off=0:=by omega
       have e2:l.toNat=0:=by omega
       rw[e1,e2]
       simp[Addr.add]
       omega
      ·right
       rw[if_neg (by omega)]
       refine⟨hv,c-l.toNat, ?_,by omega,by omega⟩
       simp only[Option.map_some,Addr.add_lit,hsz,Nat.add_mul]
     cases ho:Nat.beq off 0 with
     |false=>
      rw[ho,cond_false]at h2
      rcases hx with⟨hz,a,c,hxe,hcl⟩|⟨hv,c,hxe,hc,hce⟩
      ·exact zero_ a c hxe hz (by omega) (by omega) hcl
      ·exact go c hv hxe (by omega) hce (by omega)
     |true=>
      rw[ho,cond_true]at h2
      have e0:=Nat.eq_of_beq_eq_true ho
      rcases hx with⟨hz,a,c,hxe,hcl⟩|⟨hv,c,hxe,hc,hce⟩
      ·cases hv:(ι g).virt with
       |true=>
        have hx0:xs.length=0:=by
         rcases hrb.2 with⟨_,e⟩|⟨e,_⟩
         ·rw[e];rfl
         ·rw[hv]at e;cases e
        exact zero_ a c hxe hz (by omega) (by omega) hcl
       |false=>
        obtain⟨ea,ec⟩:=hcl e0 hv
        subst e0
        have:=full hv
        exact go c hv (by rw[hxe,ea,hz,Nat.zero_mul]) (by omega) (by omega) (by rw[hrb.1];omega)
      ·have:=full hv
       exact go c hv hxe (by omega) hce (by rw[hrb.1];omega)
   ·cases h
  ·rename_i hex
   rw[hex]at hx
   simp only[RV]at hx
   obtain⟨inf,hinf,h⟩:=Option.bind_eq_some_iff.1 h
   obtain⟨l,hh,h0,h1,h2,hG,hl,hr⟩:=bd _ _ h
   have hl0:l=0:=by omega
   have hh0:hh=0:=by omega
   subst hl0 hh0
   rw[hx]
   refine⟨_,hG,_,run none 0 0 0 0 inf hinf (by omega) (by omega) (by omega) (by omega) hl hr, ?_⟩
   simp only[RV]
   simp
  ·cases h
theorem slice3_of{t:TypeId}{K:AV→Option AB→Option R}{r:R}{E:Env}{e:Operand→AV}{x hi mx:Operand}{lo:Option Operand}{ρ:Operand→Value}{d:Nat}(m:Mem w0 Fz0 ι Fz H w)
 (he:∀x,RV ι Fz w (e x) (ρ x)) (h:opR E (.slice t x lo (some hi) (some mx)) e H K d=some r):∃v,K v none=some r∧∃v',(Instr.sliceAt t (ρ x) (lo.map ρ) (some (ρ hi)) (some (ρ mx))).run E.P w= .ok v' w∧RV ι Fz w v v':=by
 have hx:=he x
 have hhi:=he hi
 have hmx:=he mx
 simp only[opR]at h
 obtain⟨el,hu,h⟩:=elemK_of h
 split at h
 ·rename_i κ xs k l k' hh k'' mm hex hel heh hem
  rw[hex]at hx
  rw[heh,RV_int]at hhi
  rw[hem,RV_int]at hmx
  cases hc:(sizeB E.P el κ.size&&decide (hh=mm))with
  |false=>rw[hc]at h;cases h
  |true=>
   rw[hc,cond_true]at h
   simp only[Bool.and_eq_true,decide_eq_true_eq]at hc
   obtain⟨hs,rfl⟩:=hc
   obtain⟨inf,hinf,hsz⟩:=sizeB_of hs
   obtain⟨p,hp,h⟩:=Option.bind_eq_some_iff.1 h
   obtain⟨h0,h1,h2,rfl⟩:=chk2_of hp
   simp only[RV,Kd.isAgg,Bool.false_eq_true,if_false,RP]at hx
   obtain⟨_,e1,a,c,hxe,hc,hx⟩:=hx
   simp only[List.cons.injEq,and_true]at e1
   subst e1
   rw[hxe,hhi,hmx]
   have e2:(hh.toNat:Int)=hh:=Int.toNat_of_nonneg (by omega)
   have hlo:(lo.map ρ=none∧l=0)∨∃k,lo.map ρ=some (.int k l):=by
    cases lo with
    |none=>left;simp only[Option.map_none,Option.getD_none]at hel;cases hel;exact⟨rfl,rfl⟩
    |some o=>right;simp only[Option.map_some,Option.getD_some]at hel;have:=he o;rw[hel,RV_int]at this;exact⟨k,by simp[this]⟩
   have hb:(Instr.sliceBounds true xs.length c (lo.map ρ) (some (.int k' hh)) (some (.int k'' hh))).run E.P w= .ok (l.toNat,hh.toNat,hh.toNat) w:=by
    rcases hlo with⟨hl,rfl⟩|⟨kl,hl⟩
    ·rw[hl]
     simp only[Instr.sliceBounds,Sem.run_bind,Sem.run_pure,Result.andThen_ok,Option.isSome_some,if_true]
     rw[run_sliceBound w k'' hh c _ (by omega) (by omega)]
     simp only[Result.andThen_ok]
     rw[run_sliceBound w k' hh hh.toNat _ (by omega) (by omega)]
     rfl
    ·rw[hl]
     simp only[Instr.sliceBounds,Sem.run_bind,Sem.run_pure,Result.andThen_ok,Option.isSome_some,if_true]
     rw[run_sliceBound w k'' hh c _ (by omega) (by omega)]
     simp only[Result.andThen_ok]
     rw[run_sliceBound w k' hh hh.toNat _ (by omega) (by omega)]
     simp only[Result.andThen_ok]
     rw[run_sliceBound w kl l hh.toNat _ h0 (by omega)]
     rfl
   have hlen:((xs.drop l.toNat).take (hh.toNat-l.toNat)).length=hh.toNat-l.toNat:=by rw[List.length_take,List.length_drop];omega
   refine⟨_,h, .slice (if hh.toNat=l.toNat then a else a.map (·.add (l.toNat *inf.size))) (hh.toNat-l.toNat) (hh.toNat-l.toNat), ?_, ?_⟩
   ·simp[Instr.sliceAt,run_underlying hu,Instr.slice,hb,run_size hinf]
   ·simp only[RV]
    refine⟨⟨_,_,by rw[hlen],by rw[hlen];exact Nat.le_refl _, ?_⟩,_,by rw[hlen]⟩
    by_cases hz:hh.toNat-l.toNat=0
    ·left;rw[hz];simp
    ·right
     rcases hx with rfl|⟨b,off,rfl,hb',hx⟩
     ·simp at h2;omega
     ·rw[if_neg (by omega)]
      refine⟨b,_,by simp only[Option.map_some,Addr.add_lit];rfl,hb',fun i y hy=> ?_⟩
      have hi':i<hh.toNat-l.toNat:=by
       rcases Nat.lt_or_ge i (hh.toNat-l.toNat)with h|h
       ·exact h
       ·rw[List.getElem?_eq_none (by omega)]at hy;cases hy
      rw[List.getElem?_take,if_pos hi',List.getElem?_drop]at hy
      obtain⟨es,ha,hb'',hcx⟩:=hx _ y hy
      refine⟨es,ha,hb'', ?_⟩
      rw[hsz,Nat.add_assoc,←Nat.add_mul]
      exact hcx
 ·cases h
end
end Go.Av
namespace Go.Av
open Go
section
variable {R:Type} {P:Program} {ι:Nat→HI} {Fz:Nat→Prop} {w:World}
theorem zeroK_of{t:TypeId}{K:AV→Option R}{r:R}(h:zeroK P t K=some r):∃v z,K v=some r∧(zeroValue t).run P w= .ok z w∧RV ι Fz w v z:=by
 unfold zeroK at h
 split at h
 ·rename_i i hi
  split at h
  ·rename_i z hz
   refine⟨avOf z,z, ?_, ?_,avOf_of z⟩
   ·split at h
    ·cases h
    ·rename_i he;exact h
   ·have:=run_typeInfo (P:=P) (w:=w) hi
    simp[zeroValue,this,hz]
  ·cases h
 ·cases h
theorem run_fieldPlace{a:Addr}{f:Field}{i:TypeInfo}(hi:P.info? f.type=some i)(h0:i.size≠0):(fieldPlace a f).run P w= .ok (a.add f.offset) w:=by
 have:=run_typeInfo (P:=P) (w:=w) hi
 simp[fieldPlace,sizeOf,this,h0]
def stepB(P:Program)(s:FieldStep)(first:Bool)(f:Field):Bool:=(s.deref==first)&&aggIs P f.type true&&(match P.info? f.type with|some i=> !Nat.beq i.size 0|none=>false)
theorem pathOff_cons{s:FieldStep}{l:List FieldStep}{first:Bool}{o:Nat}(h:pathOff P (s::l) first=some o):
 ∃fs f i o',P.underlying s.struct=some (.struct fs)∧fs[s.index]?=some f∧s.deref=first∧aggIs P f.type true=true∧P.info? f.type=some i∧i.size≠0∧pathOff P l false=some o'∧o=f.offset+o':=by
 simp only[pathOff]at h
 split at h
 ·rename_i fs hu
  split at h
  ·rename_i f hf
   generalize hcc:((s.deref==first)&&aggIs P f.type true&&(match P.info? f.type with|some i=> !Nat.beq i.size 0|none=>false))=c at h
   cases c with
   |false=>cases h
   |true=>
    rw[cond_true]at h
    obtain⟨o',ho,h⟩:=Option.bind_eq_some_iff.1 h
    simp only[Option.some.injEq]at h
    simp only[Bool.and_eq_true]at hcc
    obtain⟨⟨c1,c2⟩,c3⟩:=hcc
    cases hi:P.info? f.type with
    |none=>rw[hi]at c3;cases c3
    |some i=>
     rw[hi]at c3
     refine⟨fs,f,i,o',hu,hf,by simpa using c1,c2,hi,fun e=> ?_,ho,h.symm⟩
     simp only[e]at c3
     cases c3
  ·cases h
 ·cases h
theorem follow_var:∀(l:List FieldStep) (o:Nat) (t:TypeId) (b off:Nat),pathOff P l false=some o→
 ∃t',(follow l t (.var ⟨b,off,none⟩)).run P w= .ok (t', .var ⟨b,off+o,none⟩) w∧(t'=t∨aggIs P t' true=true)
 |[],o,t,b,off,h=>by
  simp only[pathOff,Option.some.injEq]at h
  subst h
  exact⟨t,by simp[follow], .inl rfl⟩
 |s::r,o,t,b,off,h=>by
  obtain⟨fs,f,i,o',hu,hf,hd,ha,hi,h0,ho,rfl⟩:=pathOff_cons h
  obtain⟨t',h1,h2⟩:=follow_var r o' f.type b (off+f.offset) ho
  have hp:=run_fieldPlace (P:=P) (w:=w) (a:=⟨b,off,none⟩) hi h0
  rw[Addr.add_lit]at hp
  have hun:=run_underlying hu w
  refine⟨t', ?_, .inr ?_⟩
  ·rw[show off+(f.offset+o')=off+f.offset+o' by omega,←h1]
   simp[follow,hun,hf,hd,hp]
  ·rcases h2 with rfl|h2
   ·exact ha
   ·exact h2
theorem agg_notPtr{t:TypeId}(h:aggIs P t true=true):∃d,P.underlying t=some d∧∀e,d≠ .pointer e:=by
 unfold aggIs at h
 split at h
 ·rename_i fs hu;exact⟨_,hu,fun e he=>by cases he⟩
 ·rename_i a b hu;exact⟨_,hu,fun e he=>by cases he⟩
 ·cases h
 ·cases h
theorem pathE_cons{s:FieldStep}{l:List FieldStep}{first:Bool}{κ:Kd}{y:Den κ}{u:AV}{es:List Value}{b off:Nat}(h:pathE P (s::l) first κ y=some u)(hr:RP Fz w κ y es)(hl:Lie w es b off):
 ∃fs f i,P.underlying s.struct=some (.struct fs)∧fs[s.index]?=some f∧s.deref=first∧aggIs P f.type true=true∧P.info? f.type=some i∧i.size≠0∧
  ∃(κ':Kd) (z:Den κ') (o:Nat) (e2:List Value),RP Fz w κ' z e2∧Lie w e2 b (off+f.offset)∧pathE P l false κ' z=some u:=by
 simp only[pathE]at h
 split at h
 ·rename_i fs hu
  split at h
  ·rename_i f hf
   generalize hcc:((s.deref==first)&&aggIs P f.type true&&(match P.info? f.type with|some i=> !Nat.beq i.size 0|none=>false))=c at h
   cases c with
   |false=>cases h
   |true=>
    rw[cond_true]at h
    simp only[Bool.and_eq_true]at hcc
    obtain⟨⟨c1,c2⟩,c3⟩:=hcc
    cases hi:P.info? f.type with
    |none=>rw[hi]at c3;cases c3
    |some i=>
     rw[hi]at c3
     obtain⟨κ',z,o,hk,hprj⟩:=prjK_of κ y s.index _ u h
     cases ho:Nat.beq o f.offset with
     |false=>rw[ho]at hk;cases hk
     |true=>
      rw[ho,cond_true]at hk
      have hoe:=Nat.eq_of_beq_eq_true ho
      obtain⟨e1,e2,e3,rfl,h1,h2⟩:=hprj Fz w es hr
      refine⟨fs,f,i,hu,hf,by simpa using c1,c2,hi,fun e=> ?_,κ',z,o,e2,h2,by rw[←hoe,←h1];exact hl.mid,hk⟩
      simp only[e]at c3
      cases c3
  ·cases h
 ·cases h
theorem followE_var:∀(l:List FieldStep) (t:TypeId) (b off:Nat) (κ:Kd) (y:Den κ) (es:List Value),Fz b→RP Fz w κ y es→Lie w es b off→∀{u:AV},pathE P l false κ y=some u→
 ∃t' o,(follow l t (.var ⟨b,off,none⟩)).run P w= .ok (t', .var ⟨b,off+o,none⟩) w∧(t'=t∨aggIs P t' true=true)∧RV ι Fz w u (.pointer (some ⟨b,off+o,none⟩))
 |[],t,b,off,κ,y,es,hb,hr,hl,u,h=>by
  simp only[pathE,Option.some.injEq]at h
  subst h
  exact⟨t,0,by simp[follow], .inl rfl,by simp only[RV];exact⟨b,_,es,rfl,hb,hr,by simpa using hl⟩⟩
 |s::r,t,b,off,κ,y,es,hb,hr,hl,u,h=>by
  obtain⟨fs,f,i,hu,hf,hd,ha,hi,h0,κ',z,o,e2,h2,hl2,hk⟩:=pathE_cons h hr hl
  obtain⟨t',o',h3,h4,h5⟩:=followE_var r f.type b (off+f.offset) κ' z e2 hb h2 hl2 hk
  have hp:=run_fieldPlace (P:=P) (w:=w) (a:=⟨b,off,none⟩) hi h0
  rw[Addr.add_lit]at hp
  have hun:=run_underlying hu w
  refine⟨t',f.offset+o', ?_, .inr ?_,by rw[show off+(f.offset+o')=off+f.offset+o' by omega];exact h5⟩
  ·rw[show off+(f.offset+o')=off+f.offset+o' by omega,←h3]
   simp[follow,hun,hf,hd,hp]
  ·rcases h4 with rfl|h4
   ·exact ha
   ·exact h4
theorem method_of{t:TypeId}{name:String}{v:AV}{v':Value}{g:FuncId}{x:AV}(h:methAV P t name v=some (g,x))(hv:RV ι Fz w v v'):
 ∃x',(method (P.types.size+Made.depth) t v' name).run P w= .ok (g,x') w∧RV ι Fz w x x':=by
 unfold methAV at h
 split at h
 rotate_left
 ·cases h
 rename_i i hi
 split at h
 rotate_left
 ·cases h
 rename_i m hm
 have hti:=run_typeInfo (P:=P) (w:=w) hi
 obtain⟨n,hfu⟩:∃n,P.types.size+Made.depth=n+1:=⟨P.types.size+99,rfl⟩
 split at h
 ·rename_i f hf
  split at h
  rotate_left
  ·--frozen memory
   rename_i κ y el hu
   obtain⟨u,ho,h⟩:=Option.bind_eq_some_iff.1 h
   simp only[Option.some.injEq,Prod.mk.injEq]at h
   obtain⟨rfl,rfl⟩:=h
   simp only[RV]at hv
   obtain⟨b,off,es,rfl,hb,hr,hl⟩:=hv
   cases hp:m.path.toList with
   |nil=>
    rw[hp]at ho
    simp only[pathE,Option.some.injEq]at ho
    subst ho
    refine⟨.pointer (some ⟨b,off,none⟩), ?_,by simp only[RV];exact⟨b,off,es,rfl,hb,hr,hl⟩⟩
    have hun:=run_underlying hu w
    rw[hfu]
    simp[method,hti,hm,hp,follow,hf,receiverAt,hun,Place.get]
   |cons s l=>
    rw[hp]at ho
    obtain⟨fs,fd,j,hus,hfs,hd,ha,hj,h0,κ',z,o,e2,e3,hlz,hpz⟩:=pathE_cons (w:=w) ho hr hl
    obtain⟨t',o',h1,h2,h3⟩:=followE_var (ι:=ι) (w:=w) (Fz:=Fz) l fd.type b (off+fd.offset) κ' z e2 hb e3 hlz hpz
    have hpl:=run_fieldPlace (P:=P) (w:=w) (a:=⟨b,off,none⟩) hj h0
    rw[Addr.add_lit]at hpl
    have hun:=run_underlying hus w
    have ht':aggIs P t' true=true:=by
     rcases h2 with rfl|h2
     ·exact ha
     ·exact h2
    obtain⟨d,hd',hnp⟩:=agg_notPtr ht'
    have hun':=run_underlying hd' w
    have hfl:(follow (s::l) t (.val (.pointer (some ⟨b,off,none⟩)))).run P w= .ok (t', .var ⟨b,off+(fd.offset+o'),none⟩) w:=by
     rw[show off+(fd.offset+o')=off+fd.offset+o' by omega,←h1]
     simp[follow,hun,hfs,hd,Place.get,asAddr,hpl]
    refine⟨.pointer (some ⟨b,off+(fd.offset+o'),none⟩), ?_,by rw[show off+(fd.offset+o')=off+fd.offset+o' by omega];exact h3⟩
    rw[hfu]
    have hrc : (receiverAt t' (.var ⟨b, off + (fd.offset + o'), none⟩) true (if m.path.isEmpty then some ((name.splitOn ".").getLastD name) else none)).run P w = .ok (.pointer (some ⟨b, off + (fd.offset + o'), none⟩)) w := by
     unfold receiverAt
     simp only[Sem.run_bind,hun',Result.andThen_ok]
     cases d<;>first|(exact absurd rfl (hnp _);done)|rfl
    simp only[method,Sem.run_bind,hti,Result.andThen_ok,hm,hp,hfl,hf,hrc,Sem.run_pure]
  ·cases h
  rename_i hh off e hu
  obtain⟨o,ho,h⟩:=Option.bind_eq_some_iff.1 h
  simp only[Option.some.injEq,Prod.mk.injEq]at h
  obtain⟨rfl,rfl⟩:=h
  simp only[RV]at hv
  obtain⟨hvi,rfl⟩:=hv
  refine⟨.pointer (some ⟨(ι hh).blk,off+o,none⟩), ?_,by simp only[RV];exact⟨hvi,trivial⟩⟩
  cases hp:m.path.toList with
  |nil=>
   rw[hp]at ho
   simp only[pathOff,Option.some.injEq]at ho
   subst ho
   have hun:=run_underlying hu w
   rw[hfu]
   simp[method,hti,hm,hp,follow,hf,receiverAt,hun,Place.get]
  |cons s l=>
   rw[hp]at ho
   obtain⟨fs,fd,j,o',hus,hfs,hd,ha,hj,h0,ho',rfl⟩:=pathOff_cons ho
   obtain⟨t',h1,h2⟩:=follow_var (w:=w) l o' fd.type (ι hh).blk (off+fd.offset) ho'
   have hpl:=run_fieldPlace (P:=P) (w:=w) (a:=⟨(ι hh).blk,off,none⟩) hj h0
   rw[Addr.add_lit]at hpl
   have hun:=run_underlying hus w
   have ht':aggIs P t' true=true:=by
    rcases h2 with rfl|h2
    ·exact ha
    ·exact h2
   obtain⟨d,hd',hnp⟩:=agg_notPtr ht'
   have hun':=run_underlying hd' w
   have hfl:(follow (s::l) t (.val (.pointer (some ⟨(ι hh).blk,off,none⟩)))).run P w= .ok (t', .var ⟨(ι hh).blk,off+(fd.offset+o'),none⟩) w:=by
    rw[show off+(fd.offset+o')=off+fd.offset+o' by omega,←h1]
    simp[follow,hun,hfs,hd,Place.get,asAddr,hpl]
   rw[hfu]
   have hrc : (receiverAt t' (.var ⟨(ι hh).blk, off + (fd.offset + o'), none⟩) true (if m.path.isEmpty then some ((name.splitOn ".").getLastD name) else none)).run P w = .ok (.pointer (some ⟨(ι hh).blk, off + (fd.offset + o'), none⟩)) w := by
    unfold receiverAt
    simp only[Sem.run_bind,hun',Result.andThen_ok]
    cases d<;>first|(exact absurd rfl (hnp _);done)|rfl
   simp only[method,Sem.run_bind,hti,Result.andThen_ok,hm,hp,hfl,hf,hrc,Sem.run_pure]
 ·rename_i f hf
  have hrc:∀d,P.underlying t=some d→(∀e,d≠ .pointer e)→∀wr,(receiverAt t (.val v') false wr).run P w= .ok v' w:=by
   intro d hu hnp wr
   have hun:=run_underlying hu w
   unfold receiverAt
   simp only[Sem.run_bind,hun,Result.andThen_ok]
   cases d<;>first|(exact absurd rfl (hnp _);done)|rfl
  have key:∀d,P.underlying t=some d→(∀e,d≠ .pointer e)→m.path.toList=[]→some (f,v)=some (g,x)→∃x',(method (P.types.size+Made.depth) t v' name).run P w= .ok (g,x') w∧RV ι Fz w x x':=by
   intro d hu hnp hp he
   simp only[Option.some.injEq,Prod.mk.injEq]at he
   obtain⟨rfl,rfl⟩:=he
   refine⟨v', ?_,hv⟩
   rw[hfu]
   simp only[method,Sem.run_bind,hti,Result.andThen_ok,hm,hp,follow,hf,hrc d hu hnp,Sem.run_pure]
  split at h
  ·rename_i hp hu
   exact key _ hu (fun e he=>by cases he) hp h
  ·rename_i hp hu
   exact key _ hu (fun e he=>by cases he) hp h
  ·rename_i hp hu
   exact key _ hu (fun e he=>by cases he) hp h
  ·cases h
 ·cases h
theorem methK_of{E:Env}{t:TypeId}{name:String}{v:AV}{v':Value}{K:FuncId×AV→Option R}{r:R}(h:methK E t name v K=some r)(hv:RV ι Fz w v v'):
 ∃g x,K (g,x)=some r∧∃x',(method (E.P.types.size+Made.depth) t v' name).run E.P w= .ok (g,x') w∧RV ι Fz w x x':=by
 have key:∀v,RV ι Fz w v v'→(methAV E.P t name v).bind K=some r→∃g x,K (g,x)=some r∧∃x',(method (E.P.types.size+Made.depth) t v' name).run E.P w= .ok (g,x') w∧RV ι Fz w x x':=by
  intro v hv h
  obtain⟨⟨g,x⟩,hg,h⟩:=Option.bind_eq_some_iff.1 h
  obtain⟨x',hm,hx⟩:=method_of (w:=w) hg hv
  exact⟨g,x,h,x',hm,hx⟩
 unfold methK at h
 split at h
 ·split at h
  ·obtain⟨κ,_,h⟩:=kdK_of h
   obtain⟨y,hy,h⟩:=Option.bind_eq_some_iff.1 h
   exact key _ (ptrD_of hy hv) h
  ·cases h
 ·exact key _ hv h
theorem dynK_of{E:Env}{c:Ce}{K:TypeId→AV→Option R}{r:R}{v':Value}(hv:RV ι Fz w (.pv .any c) v'):∀(l:List TypeId),dynK E c K l=some r→
 ∃t u,K t u=some r∧∃u',v'= .iface t u'∧RV ι Fz w u u'
 |[],h=>by simp[dynK]at h
 |t::l,h=>by
  simp only[dynK]at h
  obtain⟨b,hb,h⟩:=Option.bind_eq_some_iff.1 h
  cases b with
  |false=>rw[cond_false]at h;exact dynK_of hv l h
  |true=>
   rw[cond_true]at h
   obtain⟨κ,_,h⟩:=kdK_of h
   cases ha:aggIs E.P t κ.isAgg with
   |false=>rw[ha]at h;cases h
   |true=>
    rw[ha,cond_true]at h
    obtain⟨x,hx,h⟩:=Option.bind_eq_some_iff.1 h
    obtain⟨u',e,hu⟩:=asT_of (ι:=ι) hx (RV_any.1 hv)
    exact⟨t,_,h,u',e,hu⟩
theorem lacks_false{want:Array (String×TypeId)}{got:Array Method}(h:lacks want got=false):Instr.missingMethod want got=none:=by
 unfold lacks at h
 unfold Instr.missingMethod
 have e:(want.toList.filter fun(p:String×TypeId)=> !got.any fun m=>m.name==p.1&&m.sig==p.2)=[]:=by
  rw[List.filter_eq_nil_iff]
  intro a ha hb
  have:=List.any_eq_false.1 h a ha
  exact this hb
 have e2:(want.toList.filter fun(name,sig)=> !got.any fun m=>m.name==name&&m.sig==sig)=[]:=e
 simp only[e2]
 rfl
theorem least_cons(s:String)(l:List String):∃q,Instr.least (s::l)=some q:=⟨_,rfl⟩
theorem lacks_true{want:Array (String×TypeId)}{got:Array Method}(h:lacks want got=true):∃q,Instr.missingMethod want got=some q:=by
 unfold lacks at h
 unfold Instr.missingMethod
 obtain⟨a,ha,hb⟩:=List.any_eq_true.1 h
 have hm:a∈(want.toList.filter fun(name,sig)=> !got.any fun m=>m.name==name&&m.sig==sig):=List.mem_filter.2 ⟨ha,hb⟩
 generalize(want.toList.filter fun(name,sig)=> !got.any fun m=>m.name==name&&m.sig==sig)=l at hm
 have hm2:a.1∈l.map (·.1):=List.mem_map.2 ⟨a,hm,rfl⟩
 generalize l.map (·.1)=ms at hm2
 simp only[List.partition_eq_filter_filter]
 cases he:List.filter (not∘fun x:String=>x.contains '.') ms with
 |cons s r=>obtain⟨q,hq⟩:=least_cons s r;exact⟨q,by simp only[hq];rfl⟩
 |nil=>
  cases hu:List.filter (fun x:String=>x.contains '.') ms with
  |cons s r=>
   simp only[List.map_cons]
   obtain ⟨q, hq⟩ := least_cons ((s.splitOn ".").getLastD s) (r.map fun id => (id.splitOn ".").getLastD id)
   exact⟨q,by rw[hq];rfl⟩
  |nil=>
   exfalso
   cases hc:a.1.contains '.' with
   |true=>
    have:a.1∈List.filter (fun x:String=>x.contains '.') ms:=List.mem_filter.2 ⟨hm2,hc⟩
    rw[hu]at this;cases this
   |false=>
    have:a.1∈List.filter (not∘fun x:String=>x.contains '.') ms:=List.mem_filter.2 ⟨hm2,by show(!(a.1.contains '.'))=true;rw[hc];rfl⟩
    rw[he]at this;cases this
theorem assertOk_of{E:Env}{e:Operand→AV}{H:List (Nat×AB)}{x:Operand}{xt asserted:TypeId}{K:AV→Option AB→Option R}{r:R}{d:Nat}{x':Value}(hx:RV ι Fz w (e x) x')
 (h:opR E (.typeAssert x xt asserted true) e H K d=some r):∃v,K v none=some r∧∃v',(Instr.typeAssert x' xt asserted true).run E.P w= .ok v' w∧RV ι Fz w v v':=by
 have two:∀{v:AV} {u:Value} {b:Bool},RV ι Fz w v u→RV ι Fz w (.tuple [v, .pv .bool b]) (.tuple #[u, .bool b]):=by
  intro v u b hv
  simp only[RV]
  refine⟨[u, .bool b],rfl, ?_⟩
  simp only[RVs]
  exact⟨u,_,rfl,hv, .bool b,[],rfl,by simp[RV,Kd.isAgg,RP],rfl⟩
 simp only[opR]at h
 split at h
 ·rename_i want t v hu hex
  rw[hex]at hx
  have hx0:=hx
  simp only[RV]at hx
  obtain⟨u,rfl,hv⟩:=hx
  have hun:=run_underlying hu w
  split at h
  rotate_left
  ·cases h
  rename_i i hi
  have hti:=run_typeInfo (P:=E.P) (w:=w) hi
  cases hlk:lacks want i.methods with
  |false=>
   rw[hlk,cond_false]at h
   have hms:=lacks_false hlk
   refine⟨_,h,_, ?_,two hx0⟩
   simp[Instr.typeAssert,hun,hti,hms]
  |true=>
   rw[hlk,cond_true]at h
   obtain⟨q,hms⟩:=lacks_true hlk
   obtain⟨v,z,hk,hz,hzv⟩:=zeroK_of (w:=w) (ι:=ι) (Fz:=Fz) h
   refine⟨_,hk,_, ?_,two hzv⟩
   simp[Instr.typeAssert,hun,hti,hms,hz]
 ·rename_i dsc t v hni hu hex
  rw[hex]at hx
  simp only[RV]at hx
  obtain⟨u,rfl,hv⟩:=hx
  have hun:=run_underlying hu w
  cases hb:Nat.beq t asserted with
  |true=>
   rw[hb,cond_true]at h
   have e1:=Nat.eq_of_beq_eq_true hb
   subst e1
   split at h
   ·cases h
   ·refine⟨_,h,_, ?_,two hv⟩
    cases dsc<;>first|(exact absurd rfl (hni _);done)|simp[Instr.typeAssert,hun]
  |false=>
   rw[hb,cond_false]at h
   obtain⟨v,z,hk,hz,hzv⟩:=zeroK_of (w:=w) (ι:=ι) (Fz:=Fz) h
   have hne:t≠asserted:=fun e=>by rw[e]at hb;simp at hb
   refine⟨_,hk,_, ?_,two hzv⟩
   cases dsc<;>first|(exact absurd rfl (hni _);done)|simp[Instr.typeAssert,hun,hne,hz]
 ·rename_i dsc hu hex
  rw[hex]at hx
  simp only[RV]at hx
  subst hx
  have hun:=run_underlying hu w
  obtain⟨v,z,hk,hz,hzv⟩:=zeroK_of (w:=w) (ι:=ι) (Fz:=Fz) h
  refine⟨_,hk,_, ?_,two hzv⟩
  cases dsc<;>simp[Instr.typeAssert,hun,hz]
 ·cases h
 ·rename_i dsc c hni hu hex
  rw[hex]at hx
  have hun:=run_underlying hu w
  obtain⟨b,hb,h⟩:=Option.bind_eq_some_iff.1 h
  cases b with
  |true=>
   rw[cond_true]at h
   obtain⟨κ,_,h⟩:=kdK_of h
   cases ha:aggIs E.P asserted κ.isAgg with
   |false=>rw[ha]at h;cases h
   |true=>
    rw[ha,cond_true]at h
    obtain⟨y,hy,h⟩:=Option.bind_eq_some_iff.1 h
    obtain⟨u',rfl,hu'⟩:=asT_of (ι:=ι) hy (RV_any.1 hx)
    refine⟨_,h,_, ?_,two hu'⟩
    cases dsc<;>first|(exact absurd rfl (hni _);done)|simp[Instr.typeAssert,hun]
  |false=>
   rw[cond_false]at h
   obtain⟨v,z,hk,hz,hzv⟩:=zeroK_of (w:=w) (ι:=ι) (Fz:=Fz) h
   refine⟨_,hk,_, ?_,two hzv⟩
   rcases isT_of hb (RV_any.1 hx)with⟨rfl,_⟩|⟨u,y,rfl,hbe⟩
   ·cases dsc<;>simp[Instr.typeAssert,hun,hz]
   ·have hne:u≠asserted:=fun e=>by rw[e]at hbe;simp at hbe
    cases dsc<;>first|(exact absurd rfl (hni _);done)|simp[Instr.typeAssert,hun,hne,hz]
 ·cases h
end
end Go.Av
