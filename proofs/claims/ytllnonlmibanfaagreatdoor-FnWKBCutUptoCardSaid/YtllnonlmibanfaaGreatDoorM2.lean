/- Texts of the proof, merged: Av8 Av22 Av9 Av10 Av11 Av23 Av29 Av24. -/
import Derived.Test.YtllnonlmibanfaaGreatDoorM1
import Derived.Laws.MakeOwn
import Derived.Lib.AppendZeros
import Derived.Laws.IdiomCopy
set_option linter.unusedVariables false
set_option linter.unusedSimpArgs false
namespace Go.Av
open Go Go.RowKit
theorem run_mapM{α β:Type}{P:Program}{w:World}(g:α→Sem β)(h:α→β):∀(l:List α),(∀x∈l,(g x).run P w= .ok (h x) w)→(l.mapM g).run P w= .ok (l.map h) w
 |[],_=>by simp
 |x::l,hl=>by
  rw[List.mapM_cons]
  simp only[Sem.run_bind,hl x (by simp),Result.andThen_ok,run_mapM g h l (fun y hy=>hl y (by simp[hy])),Sem.run_pure,List.map_cons]
theorem run_mapM_array{α β:Type}{P:Program}{w:World}(g:α→Sem β)(h:α→β)(xs:Array α)(hl:∀x∈xs.toList,(g x).run P w= .ok (h x) w):(xs.mapM g).run P w= .ok (xs.map h) w:=by
 have h1:=run_mapM g h xs.toList hl
 rw[←Array.toList_mapM]at h1
 simp only[Sem.run_map]at h1
 cases hr:(xs.mapM g).run P w with
 |halt x y=>rw[hr]at h1;simp at h1
 |ok a w'=>
  rw[hr]at h1
  simp only[Result.andThen_ok,Result.ok.injEq]at h1
  obtain⟨e,rfl⟩:=h1
  congr 1
  apply Array.ext'
  rw[e];simp
theorem zip_set(off:Nat):∀(l:List Value) (k:Nat) (vs:List Value),(l.zipIdx k).foldl (fun(cs:Array Value) p=>cs.setIfInBounds (off+p.2) p.1) vs.toArray=(setV vs (off+k) l).toArray
 |[],_,_=>rfl
 |v::l,k,vs=>by
  simp only[List.zipIdx_cons,List.foldl_cons,setV,List.setIfInBounds_toArray]
  rw[zip_set off l (k+1)]
  rfl
theorem fill_step(place:Nat→Option (Nat×Nat))(vs:List Value)(i:Nat)(v:Value)(rest:List (Nat×Value))(off size:Nat)(hp:place i=some (off,size))(hs:v.cells.size=size)(hl:off+v.cells.size≤vs.length):
 Instr.fill place vs.toArray ((i,v)::rest)=Instr.fill place (setV vs off v.cells.toList).toArray rest:=by
 have h1:(v.cells.size !=size)=false:=by simp[hs]
 rw[Instr.fill,hp]
 simp only[List.size_toArray]
 rw[if_neg (by simp only[Bool.or_eq_true,decide_eq_true_eq];omega)]
 congr 1
 rw[←Array.foldl_toList,Array.toList_zipIdx]
 exact zip_set off v.cells.toList 0 vs
section
variable {R:Type} {P:Program} {w0:Root} {Fz0:Nat→Prop} {ι:Nat→HI} {Fz:Nat→Prop} {H:List (Nat×AB)} {w:World}
theorem fillV_of{fs:Array Field}{ρ:Operand→Value}{e:Operand→AV}(he:∀x,RV ι Fz w (e x) (ρ x)):∀(ps:List (Nat×Operand)) (cs cs':List AV) (vs:List Value),
 fillV fs P cs (ps.map fun p=>(p.1,e p.2))=some cs'→RVs ι Fz w cs vs→(∀u∈vs,u.oneCell'=true)→
 ∃vs',Instr.fill (fun i=>(fs.map fun f=>(f.offset,((P.info? f.type).map (·.size)).getD 0))[i]?) vs.toArray (ps.map fun p=>(p.1,ρ p.2))=some vs'.toArray∧RVs ι Fz w cs' vs'∧∀u∈vs',u.oneCell'=true
 |[],cs,cs',vs,h,hr,h1=>by
  simp only[List.map_nil,fillV,Option.some.injEq]at h
  subst h
  exact⟨vs,rfl,hr,h1⟩
 |(i,x)::ps,cs,cs',vs,h,hr,h1=>by
  simp only[List.map_cons,fillV]at h
  split at h
  ·rename_i f hf
   cases hc:(sizeB P f.type (e x).flat.length&&Nat.ble (f.offset+(e x).flat.length) cs.length&&aliveL (e x).flat)with
   |false=>rw[hc]at h;cases h
   |true=>
    rw[hc,cond_true]at h
    simp only[Bool.and_eq_true]at hc
    obtain⟨⟨hs,hle⟩,hal⟩:=hc
    obtain⟨inf,hinf,hsz⟩:=sizeB_of hs
    have hle:=Nat.le_of_ble_eq_true hle
    obtain⟨hfl,hone⟩:=flat_of (he x) hal
    have hlen:=RVs_len hfl
    have hlen':=RVs_len hr
    simp only[Array.length_toList]at hlen
    rw[List.map_cons,fill_step _ vs i (ρ x) _ f.offset inf.size (by simp[hf,hinf]) (by omega) (by omega)]
    exact fillV_of he ps _ cs' _ h (setCells_of _ _ _ _ _ hfl hr) (setV_one _ _ _ hone h1)
  ·cases h
theorem fillA_of{sz:Nat}{ρ:Operand→Value}{e:Operand→AV}(he:∀x,RV ι Fz w (e x) (ρ x)):∀(ps:List (Nat×Operand)) (cs cs':List AV) (vs:List Value),
 fillA sz cs (ps.map fun p=>(p.1,e p.2))=some cs'→RVs ι Fz w cs vs→(∀u∈vs,u.oneCell'=true)→
 ∃vs',Instr.fill (fun i=>some (i*sz,sz)) vs.toArray (ps.map fun p=>(p.1,ρ p.2))=some vs'.toArray∧RVs ι Fz w cs' vs'∧∀u∈vs',u.oneCell'=true
 |[],cs,cs',vs,h,hr,h1=>by
  simp only[List.map_nil,fillA,Option.some.injEq]at h
  subst h
  exact⟨vs,rfl,hr,h1⟩
 |(i,x)::ps,cs,cs',vs,h,hr,h1=>by
  simp only[List.map_cons,fillA]at h
  cases hc:(Nat.beq (e x).flat.length sz&&Nat.ble (i*sz+sz) cs.length&&aliveL (e x).flat)with
  |false=>rw[hc]at h;cases h
  |true=>
   rw[hc,cond_true]at h
   simp only[Bool.and_eq_true]at hc
   obtain⟨⟨hs,hle⟩,hal⟩:=hc
   have hs:=Nat.eq_of_beq_eq_true hs
   have hle:=Nat.le_of_ble_eq_true hle
   obtain⟨hfl,hone⟩:=flat_of (he x) hal
   have hlen:=RVs_len hfl
   have hlen':=RVs_len hr
   simp only[Array.length_toList]at hlen
   rw[List.map_cons,fill_step _ vs i (ρ x) _ (i*sz) sz rfl (by omega) (by omega)]
   exact fillA_of he ps _ cs' _ h (setCells_of _ _ _ _ _ hfl hr) (setV_one _ _ _ hone h1)
theorem build_of{t:TypeId}{parts:Array (Nat×Operand)}{ρ:Operand→Value}{K:AV→Option AB→Option R}{r:R}{E:Env}{e:Operand→AV}{d:Nat}
 (he:∀x,RV ι Fz w (e x) (ρ x)) (h:opR E (.build t parts) e H K d=some r):∃v,K v none=some r∧∃v',(Instr.build t (parts.map fun(i,x)=>(i,ρ x))).run E.P w= .ok v' w∧RV ι Fz w v v':=by
 simp only[opR]at h
 split at h
 ·rename_i i n el hi hu
  split at h
  ·rename_i z hz
   cases hal:aliveL (z.cells.toList.map avOf1)with
   |false=>rw[hal]at h;cases h
   |true=>
    rw[hal,cond_true]at h
    obtain⟨inf,hinf,h⟩:=sizeK_of h
    obtain⟨cs,hcs,h⟩:=Option.bind_eq_some_iff.1 h
    obtain⟨vs',hf,hr,h1⟩:=fillA_of he parts.toList _ _ z.cells.toList hcs (avOf1s _) (avOf1s_one _ hal)
    refine⟨_,h, .agg vs'.toArray, ?_,by simp only[RV];exact⟨vs',rfl,h1,hr⟩⟩
    have hpl:(parts.map fun(i,x)=>(i,ρ x)).toList=parts.toList.map fun p=>(p.1,ρ p.2):=by simp
    simp only[Instr.build,zeroValue,typeInfo,Sem.run_bind,run_program,Result.andThen_ok,hi,Sem.run_pure,hz,run_underlying hu,run_size hinf,hpl]
    simp only[Array.toArray_toList]at hf
    rw[hf]
    rfl
  ·cases h
 ·rename_i i fs hi hu
  split at h
  ·rename_i z hz
   cases hc:(aliveL (z.cells.toList.map avOf1)&&fs.all fun f=>(E.P.info? f.type).isSome)with
   |false=>rw[hc]at h;cases h
   |true=>
    rw[hc,cond_true]at h
    simp only[Bool.and_eq_true]at hc
    obtain⟨hal,hfs⟩:=hc
    obtain⟨cs,hcs,h⟩:=Option.bind_eq_some_iff.1 h
    obtain⟨vs',hf,hr,h1⟩:=fillV_of (P:=E.P) he parts.toList _ _ z.cells.toList hcs (avOf1s _) (avOf1s_one _ hal)
    refine⟨_,h, .agg vs'.toArray, ?_,by simp only[RV];exact⟨vs',rfl,h1,hr⟩⟩
    have hm:=run_mapM_array (P:=E.P) (w:=w) (fun(f:Field)=>do pure (f.offset,←sizeOf f.type)) (fun f=>(f.offset,((E.P.info? f.type).map (·.size)).getD 0)) fs (by
     intro f hf
     have:=Array.all_eq_true'.1 hfs f (Array.mem_def.2 hf)
     obtain⟨inf,hinf⟩:=Option.isSome_iff_exists.1 this
     simp[run_size hinf,hinf])
    have hpl:(parts.map fun(i,x)=>(i,ρ x)).toList=parts.toList.map fun p=>(p.1,ρ p.2):=by simp
    simp only[Instr.build,zeroValue,typeInfo,Sem.run_bind,run_program,Result.andThen_ok,hi,Sem.run_pure,hz,run_underlying hu,hm,hpl]
    simp only[Array.toArray_toList]at hf
    rw[hf]
    rfl
  ·cases h
 ·cases h
theorem heap_new(w:World)(o:Obj):(w.alloc o).heap[w.heap.size]?=some o:=by
 show(w.heap.push o)[w.heap.size]?=some o
 simp
def AB.okN(d:Nat)(b:AB):Prop:=b.ment d=false∧d<1000000
theorem box_new{d:Nat}{cs:List AV}{vs:List Value}{T:TypeId}(m:Mem w0 Fz0 ι Fz H w)(hm:mentL d cs=false)(hd:d<1000000)(hr:RVs ι Fz w cs vs)(h1:∀u∈vs,u.oneCell'=true):
 After w0 Fz0 ι Fz H w d (.ref d 0) (some (.box cs)) (.pointer (some ⟨w.heap.size,0,none⟩)) (w.alloc (.cells vs.toArray T)):=by
 have hbel:Below w.heap.size w (w.alloc (.cells vs.toArray T)):=(Below.refl _ _).alloc (Nat.le_refl _) _
 have hw:∀b,Fz b→(w.alloc (.cells vs.toArray T)).heap[b]?=w.heap[b]?:=fun b hb=>hbel.block b (m.fz b hb)
 refine⟨upd ι d ⟨w.heap.size,0,0,false⟩,Fz,hw,fun _ h=>h,fun h hh=>upd_ne _ _ _ (hh.resolve_left (by simp)), ?_, ?_⟩
 ·refine m.new hbel (fun _=>⟨rfl,by simp⟩) ?_ hd ⟨rfl,rfl⟩
  simp only[RB,upd_at]
  refine⟨trivial,vs,T,⟨[],by rw[List.append_nil];exact heap_new w _⟩, ?_,h1⟩
  exact RVs_mono hw (fun _ h=>h) cs vs (fun h hh=>upd_ne _ _ _ (fun e=>by rw[e,hm]at hh;cases hh)) hr
 ·simp only[RV,upd_at]
  exact⟨trivial,trivial⟩
theorem pa_new{d:Nat}{T:TypeId}{κ:Kd}{xs:List (Den κ)}{vs:List Value}(m:Mem w0 Fz0 ι Fz H w)(hr:∀i x,xs[i]?=some x→RP Fz w κ x ((vs.drop (i*κ.size)).take κ.size))(hc:xs.length≤1000)(hs:vs.length=xs.length*κ.size)(hd:d<1000000):
 After w0 Fz0 ι Fz H w d (.pa κ d xs.length) (some (.arr T κ xs)) (.pointer (some ⟨w.heap.size,0,none⟩)) (w.alloc (.cells vs.toArray T)):=by
 have hbel:Below w.heap.size w (w.alloc (.cells vs.toArray T)):=(Below.refl _ _).alloc (Nat.le_refl _) _
 have hw:∀b,Fz b→(w.alloc (.cells vs.toArray T)).heap[b]?=w.heap[b]?:=fun b hb=>hbel.block b (m.fz b hb)
 refine⟨upd ι d ⟨w.heap.size,xs.length,xs.length,false⟩,Fz,hw,fun _ h=>h,fun h hh=>upd_ne _ _ _ (hh.resolve_left (by simp)), ?_, ?_⟩
 ·refine m.new hbel (fun _=>⟨rfl,by simp⟩) ?_ hd (fun h=>by cases h)
  simp only[RB,upd_at]
  refine⟨trivial, .inr ⟨trivial,vs.toArray,heap_new w _,Nat.le_refl _,by unfold maxLen;omega,by simpa using hs,fun i x hx=> ?_⟩⟩
  have hi:i<xs.length:=by
   rcases Nat.lt_or_ge i xs.length with h|h
   ·exact h
   ·rw[List.getElem?_eq_none h]at hx;cases hx
  have hle:i*κ.size+κ.size≤vs.length:=by rw[hs,←Nat.succ_mul];exact Nat.mul_le_mul_right _ hi
  refine⟨_,RP_mono hw (fun _ h=>h) _ _ _ (hr i x hx),by rw[List.length_take,List.length_drop];omega,fun j u hj=> ?_⟩
  rw[List.getElem?_take]at hj
  split at hj
  ·rw[List.getElem?_drop]at hj;simpa using hj
  ·cases hj
 ·simp only[RV,upd_at]
  exact⟨trivial,trivial,trivial,trivial⟩
theorem alloc_of{t:TypeId}{K:AV→Option AB→Option R}{r:R}{E:Env}{e:Operand→AV}{d:Nat}(m:Mem w0 Fz0 ι Fz H w)
 (h:opR E (.alloc t) e H K d=some r):∃v b,K v (some b)=some r∧(AB.okN d b→∃v' w',(Instr.alloc t true (.tuple #[])).run E.P w= .ok v' w'∧After w0 Fz0 ι Fz H w d v (some b) v' w'):=by
 simp only[opR]at h
 split at h
 ·rename_i i hi
  split at h
  ·rename_i z hz
   cases hmk:memN E.cut (d+2000000)with
   |true=>
    rw[hmk,cond_true]at h
    split at h
    ·rename_i n el hat
     split at h
     ·rename_i κ hkd
      cases hs:(sizeB E.P el κ.size&&Nat.ble n 1000)with
      |false=>rw[hs]at h;cases h
      |true=>
       rw[hs,cond_true]at h
       simp only[Bool.and_eq_true]at hs
       obtain⟨ys,hys,h⟩:=Option.bind_eq_some_iff.1 h
       obtain⟨g1,g2,g3⟩:=chunks_of (ι:=ι) (w:=w) (H:=[]) (Fz:=Fz) (Fz':=Fz) (fun h=>by simp[getH,RB]) (fun _ h=>h) n _ ys z.cells.toList hys (avOf1s z.cells.toList) (fun h hm hl=>by simp[getH,AB.isArr]at hl)
       have hn:=Nat.le_of_ble_eq_true hs.2
       subst g1
       refine⟨_,_,h,fun hm=>⟨_,_, ?_,pa_new (T:=t) m g3 hn g2 hm.2⟩⟩
       simp[Instr.alloc,zeroValue,typeInfo,hi,hz,newVar,newRow]
     ·cases h
    ·cases h
   |false=>
   rw[hmk,cond_false]at h
   cases hal:aliveL (z.cells.toList.map avOf1)with
   |false=>rw[hal]at h;cases h
   |true=>
    rw[hal,cond_true]at h
    refine⟨_,_,h,fun hm=>⟨_,_, ?_,box_new (T:=t) m hm.1 hm.2 (avOf1s z.cells.toList) (avOf1s_one _ hal)⟩⟩
    simp[Instr.alloc,zeroValue,typeInfo,hi,hz,newVar,newRow]
  ·cases h
 ·cases h
theorem boxOp_of{t:TypeId}{K:AV→Option AB→Option R}{r:R}{E:Env}{e:Operand→AV}{x:Operand}{vx:Value}{d:Nat}(m:Mem w0 Fz0 ι Fz H w)(hx:RV ι Fz w (e x) vx)
 (h:opR E (.box t x) e H K d=some r):∃v b,K v (some b)=some r∧(AB.okN d b→∃v' w',(Instr.box t vx).run E.P w= .ok v' w'∧After w0 Fz0 ι Fz H w d v (some b) v' w'):=by
 simp only[opR]at h
 cases hal:aliveL (e x).flat with
 |false=>rw[hal]at h;cases h
 |true=>
  rw[hal,cond_true]at h
  obtain⟨hr,h1⟩:=flat_of hx hal
  refine⟨_,_,h,fun hm=>⟨_,_, ?_,box_new (T:=t) m hm.1 hm.2 hr h1⟩⟩
  simp[Instr.box,newVar,newRow]
def Row(Fz:Nat→Prop)(w:World)(κ:Kd)(xs:List (Den κ))(vs:List Value):Prop:=
 ∀i x,xs[i]?=some x→∃es,RP Fz w κ x es∧es.length=κ.size∧∀j u,es[j]?=some u→vs[i*κ.size+j]?=some u
theorem Row.nil{κ:Kd}{vs:List Value}:Row Fz w κ [] vs:=fun i x h=>by simp at h
theorem arr_new{d:Nat}{el:TypeId}{κ:Kd}{xs:List (Den κ)}{vs:List Value}{cap:Nat}(m:Mem w0 Fz0 ι Fz H w)(hr:Row Fz w κ xs vs)(hl:xs.length≤cap)(hc:cap≤maxLen)(hs:vs.length=cap*κ.size)(hd:d<1000000):
 After w0 Fz0 ι Fz H w d (.own κ d) (some (.arr el κ xs)) (.slice (some ⟨w.heap.size,0,none⟩) xs.length cap) (w.alloc (.cells vs.toArray el)):=by
 have hbel:Below w.heap.size w (w.alloc (.cells vs.toArray el)):=(Below.refl _ _).alloc (Nat.le_refl _) _
 have hw:∀b,Fz b→(w.alloc (.cells vs.toArray el)).heap[b]?=w.heap[b]?:=fun b hb=>hbel.block b (m.fz b hb)
 refine⟨upd ι d ⟨w.heap.size,cap,xs.length,false⟩,Fz,hw,fun _ h=>h,fun h hh=>upd_ne _ _ _ (hh.resolve_left (by simp)), ?_, ?_⟩
 ·refine m.new hbel (fun _=>⟨rfl,by simp⟩) ?_ hd (fun h=>by cases h)
  simp only[RB,upd_at]
  refine⟨trivial, .inr ⟨trivial,vs.toArray,heap_new w _,hl,hc,by simpa using hs,fun i x hx=> ?_⟩⟩
  obtain⟨es,h1,h2,h3⟩:=hr i x hx
  exact⟨es,RP_mono hw (fun _ h=>h) _ _ _ h1,h2,fun j u hj=>by simpa using h3 j u hj⟩
 ·simp only[RV,upd_at]
  exact .inr ⟨trivial,trivial⟩
theorem setV_mid:∀(us pre mid post:List Value),mid.length=us.length→setV (pre++(mid++post)) pre.length us=pre++(us++post)
 |[],pre,mid,post,h=>by
  have:mid=[]:=List.eq_nil_of_length_eq_zero (by simpa using h)
  subst this;rfl
 |u::us,pre,mid,post,h=>by
  cases mid with
  |nil=>simp at h
  |cons x mid=>
   simp only[setV]
   have:(pre++(x::mid++post)).set pre.length u=(pre++[u])++(mid++post):=by simp
   rw[this]
   have:=setV_mid us (pre++[u]) mid post (by simpa using h)
   rw[List.length_append,List.length_singleton]at this
   rw[this];simp
theorem pvL_ment(g:Nat):∀{l:List AV},l.all AV.isPv=true→mentL g l=false
 |[],_=>rfl
 |v::r,h=>by
  simp only[List.all_cons,Bool.and_eq_true]at h
  simp only[mentL,pvL_ment g h.2,Bool.or_false]
  have hv:=h.1
  cases v<;>simp[AV.isPv]at hv<;>first|rfl|skip
  rename_i t v
  cases v<;>simp at hv<;>rfl
theorem noH_ment{cs:List AV}(h:cs.all (fun v=> !v.handled)=true)(g:Nat):mentL g cs=false:=by
 induction cs with
 |nil=>rfl
 |cons c cs ih=>
  simp only[List.all_cons,Bool.and_eq_true]at h
  simp only[mentL,ih h.2,Bool.or_false]
  cases c with
  |func f l=>cases l<;>simp_all [AV.handled,AV.ment,mentL]
  |agg l=>
   have hl:l.all AV.isPv=true:=by simpa[AV.handled]using h.1
   simpa[AV.ment]using pvL_ment g hl
  |iface t v=>cases v<;>simp_all [AV.handled,AV.ment]
  |_=>simp_all [AV.handled,AV.ment]
theorem frH_ment{c:AV}(h:(c.free|| !c.handled)=true)(g:Nat):c.ment g=false:=by
 rcases Bool.or_eq_true _ _▸h with h|h
 ·exact free_ment c h g
 ·have:=noH_ment (cs:=[c]) (by simp[h]) g
  simpa[mentL]using this
theorem partsD_of{κ:Kd}{ρ:Operand→Value}{e:Operand→AV}(hk:1≤κ.size)(hrb:∀h,RB ι Fz w h (getH H h))(he:∀x,RV ι Fz w (e x) (ρ x)):
 ∀(ps:List (Nat×Operand)) (i:Nat) (xs ys:List (Den κ)) (pre post:List Value),partsD H κ i (ps.map fun p=>(p.1,e p.2))=some ys→
  (ps.all fun p=>(e p.2).free|| !(e p.2).handled)=true→pre.length=i*κ.size→i=xs.length→Row Fz w κ xs pre→post.length=ps.length*κ.size→
  ∃vs,Instr.fill (fun i=>some (i*κ.size,κ.size)) (pre++post).toArray (ps.map fun p=>(p.1,ρ p.2))=some vs.toArray∧vs.length=(pre++post).length∧Row Fz w κ (xs++ys) vs
 |[],i,xs,ys,pre,post,h,_,hpre,hi,hr,hp=>by
  simp only[List.map_nil,partsD,Option.some.injEq]at h
  subst h
  have:post=[]:=List.eq_nil_of_length_eq_zero (by simpa using hp)
  subst this
  exact⟨pre,by simp[Instr.fill],by simp,by simpa using hr⟩
 |(j,x)::ps,i,xs,ys,pre,post,h,hall,hpre,hi,hr,hp=>by
  simp only[List.map_cons,partsD]at h
  simp only[List.all_cons,Bool.and_eq_true]at hall
  cases hj:Nat.beq i j with
  |false=>rw[hj]at h;cases h
  |true=>
   rw[hj,cond_true]at h
   have e1:=Nat.eq_of_beq_eq_true hj
   subst e1
   obtain⟨y,hy,h⟩:=Option.bind_eq_some_iff.1 h
   obtain⟨zs,hz,h⟩:=Option.bind_eq_some_iff.1 h
   simp only[Option.some.injEq]at h
   subst h
   have hv:RV ι Fz w (.pv κ y) (ρ x):=argD_of hrb (fun _ h=>h) hy (he x) (fun h hm=>by
    rw[frH_ment hall.1 h]at hm;cases hm)
   have hcells:RP Fz w κ y (ρ x).cells.toList:=by
    simp only[RV]at hv
    cases hka:κ.isAgg with
    |true=>simp only[hka,if_true]at hv;obtain⟨vs,e,hv⟩:=hv;rw[e];exact hv
    |false=>
     simp only[hka,Bool.false_eq_true,if_false]at hv
     have h1:=RP_one κ y _ hv (ρ x) (by simp)
     have:(ρ x).cells.toList=[ρ x]:=by generalize ρ x=v at h1;cases v<;>simp_all [Value.cells,Value.oneCell']
     rw[this];exact hv
   have hlen:=RP_len κ y _ hcells
   have hlen':(ρ x).cells.size=κ.size:=by simpa using hlen
   have hpl:(ps.length+1)*κ.size=ps.length*κ.size+κ.size:=by rw[Nat.add_mul,Nat.one_mul]
   simp only[List.length_cons]at hp
   have hsplit:pre++post=pre++(post.take κ.size++post.drop κ.size):=by rw[List.take_append_drop]
   have hset:setV (pre++post) (i*κ.size) (ρ x).cells.toList=(pre++(ρ x).cells.toList)++post.drop κ.size:=by
    rw[hsplit,←hpre,setV_mid _ _ _ _ (by rw[List.length_take];omega)];simp
   have hrow:Row Fz w κ (xs++[y]) (pre++(ρ x).cells.toList):=by
    intro k z hz
    rcases Nat.lt_or_ge k xs.length with hk'|hk'
    ·rw[List.getElem?_append_left hk']at hz
     obtain⟨es,a,b,c⟩:=hr k z hz
     refine⟨es,a,b,fun j u hju=> ?_⟩
     have:=c j u hju
     rw[List.getElem?_append_left ((List.getElem?_eq_some_iff.1 this).1)]
     exact this
    ·rw[List.getElem?_append_right hk']at hz
     have hk0:k-xs.length=0:=by
      rcases Nat.eq_zero_or_pos (k-xs.length)with h|h
      ·exact h
      ·rw[List.getElem?_eq_none (by simp;omega)]at hz;cases hz
     rw[hk0]at hz
     simp only[List.getElem?_cons_zero,Option.some.injEq]at hz
     subst hz
     refine⟨_,hcells,hlen,fun j u hju=> ?_⟩
     have hki:k=i:=by omega
     rw[hki,←hpre,List.getElem?_append_right (by omega)]
     rw[show pre.length+j-pre.length=j by omega]
     exact hju
   obtain⟨vs,h1,h2,h3⟩:=partsD_of hk hrb he ps (i+1) (xs++[y]) zs (pre++(ρ x).cells.toList) (post.drop κ.size) hz hall.2
    (by rw[List.length_append,hpre,hlen,Nat.add_mul,Nat.one_mul]) (by simp[hi]) hrow (by rw[List.length_drop];omega)
   refine⟨vs, ?_, ?_,by simpa using h3⟩
   ·rw[List.map_cons,fill_step _ (pre++post) i (ρ x) _ (i*κ.size) κ.size rfl hlen' (by rw[List.length_append,hpre];omega),hset]
    exact h1
   ·rw[h2];simp only[List.length_append,List.length_drop,hlen];omega
theorem buildSlice_core{t:TypeId}{len:Nat}{parts:Array (Nat×Operand)}{ρ:Operand→Value}{K:AV→Option AB→Option R}{r:R}{E:Env}{e:Operand→AV}{d:Nat}(m:Mem w0 Fz0 ι Fz H w)
 (he:∀x,RV ι Fz w (e x) (ρ x)) (h:opR E (.buildSlice t len parts) e H K d=some r) (hpl0:plainSl E t=true):
 ∃(el:TypeId) (κ:Kd) (xs:List (Den κ)) (vs:List Value),K (.own κ d) (some (.arr el κ xs))=some r∧
  (Instr.buildSlice t len (parts.map fun(i,x)=>(i,ρ x))).run E.P w= .ok (.slice (some ⟨w.heap.size,0,none⟩) xs.length len) (w.alloc (.cells vs.toArray el))∧
  Row Fz w κ xs vs∧xs.length=len∧len≤maxLen∧vs.length=len*κ.size:=by
 simp only[opR]at h
 obtain⟨el,hu,h⟩:=elemK_of h
 split at h
 ·rename_i κ hkd
  cases hc:(sizeB E.P el κ.size&&zeroSome E.P el&&Nat.ble 1 κ.size&&Nat.beq parts.size len&&Nat.ble (len*κ.size) 1000)with
  |false=>rw[hc]at h;cases h
  |true=>
   rw[hc,cond_true]at h
   simp only[Bool.and_eq_true]at hc
   obtain⟨⟨⟨⟨hs,hzs⟩,h1⟩,hpl⟩,hle⟩:=hc
   obtain⟨inf,hinf,hsz⟩:=sizeB_of hs
   have h1:=Nat.le_of_ble_eq_true h1
   have hpl:=Nat.eq_of_beq_eq_true hpl
   have hle:=Nat.le_of_ble_eq_true hle
   unfold zeroSome at hzs
   rw[hinf]at hzs
   obtain⟨z,hz⟩:=Option.isSome_iff_exists.1 hzs
   obtain⟨xs,hxs,h⟩:=Option.bind_eq_some_iff.1 h
   cases hall:(parts.toList.all fun p=>(e p.2).free|| !(e p.2).handled)with
   |false=>rw[hall]at h;cases h
   |true=>
    rw[hall,cond_true]at h
    have hpart:∀(l:List Value),l.length=len*κ.size→∃vs,Instr.fill (fun i=>some (i*κ.size,κ.size)) l.toArray (parts.toList.map fun p=>(p.1,ρ p.2))=some vs.toArray∧vs.length=l.length∧Row Fz w κ xs vs:=by
     intro l hl
     have:=partsD_of h1 m.rb he parts.toList 0 [] xs [] l hxs hall (by simp) rfl Row.nil (by rw[hl,←hpl];simp)
     simpa using this
    have hxl:xs.length=len:=by
     have:∀(ps:List (Nat×AV)) (i:Nat) (ys:List (Den κ)),partsD H κ i ps=some ys→ys.length=ps.length:=by
      intro ps
      induction ps with
      |nil=>intro i ys h;simp only[partsD,Option.some.injEq]at h;subst h;rfl
      |cons p ps ih=>
       intro i ys h
       simp only[partsD]at h
       cases hj:Nat.beq i p.1 with
       |false=>rw[hj]at h;cases h
       |true=>
        rw[hj,cond_true]at h
        obtain⟨y,_,h⟩:=Option.bind_eq_some_iff.1 h
        obtain⟨zs,hz,h⟩:=Option.bind_eq_some_iff.1 h
        simp only[Option.some.injEq]at h
        subst h
        simp[ih _ _ hz]
     rw[this _ _ _ hxs];simp[hpl]
    have hpl2:(parts.map fun(i,x)=>(i,ρ x)).toList=parts.toList.map fun p=>(p.1,ρ p.2):=by simp
    have hml:len≤maxLen:=by
     have:len*1≤len*κ.size:=Nat.mul_le_mul_left _ h1
     simp only[maxLen];omega
    obtain⟨vs,hf,hvl,hrow⟩:=hpart (((Array.range (len*κ.size)).map (fun i=>(if len*κ.size=0 then(#[]:Array Value)else z.cells)[i%(if len*κ.size=0 then(#[]:Array Value)else z.cells).size]!)).toList) (by simp)
    refine⟨el,κ,xs,vs,h, ?_,hrow,hxl,hml,by rw[hvl];simp⟩
    simp only[Array.toArray_toList]at hf
    rw[hxl]
    by_cases h0:len*κ.size=0
    ·have hlen0:len=0:=by
      rcases Nat.mul_eq_zero.1 h0 with h|h
      ·exact h
      ·omega
     subst hlen0
     have hp0:parts= #[]:=Array.eq_empty_of_size_eq_zero hpl
     subst hp0
     have hv0:vs=[]:=List.eq_nil_of_length_eq_zero (by rw[hvl];simp)
     subst hv0
     simp[Instr.buildSlice,run_underlying hu,run_size hinf,Instr.fill,newRow,Array.range_zero']
    ·simp only[h0,if_false]at hf
     simp only[Instr.buildSlice,Sem.run_bind,run_underlying hu,Result.andThen_ok,run_size hinf,hsz]
     rw[if_neg (by omega)]
     simp only[h0,if_false,zeroValue,typeInfo,Sem.run_bind,run_program,Result.andThen_ok,hinf,Sem.run_pure,hz,hpl2]
     simp only[hf]
     simp[newRow]
 ·rename_i hkd
  simp[plainSl,hu,hkd]at hpl0
theorem single_cell{a:AV}{v:Value}(h:RV ι Fz w a v)(hs:a.single=true):v.cells.toList=[v]∧v.oneCell'=true:=by
 cases a with
 |pv κ x=>
  have hk:κ.isAgg=false:=by simpa[AV.single]using hs
  simp only[RV,hk,Bool.false_eq_true,if_false]at h
  have h1:=RP_one κ x _ h v (by simp)
  exact⟨by cases v<;>simp_all [Value.cells,Value.oneCell'],h1⟩
 |nils=>simp only[RV]at h;subst h;exact⟨rfl,rfl⟩
 |agg cs=>simp[AV.single]at hs
 |own κ g=>simp only[RV]at h;rcases h with⟨_,rfl⟩|⟨_,rfl⟩<;>exact⟨rfl,rfl⟩
 |sub κ g o l=>simp only[RV]at h;obtain⟨_,h⟩:=h;rcases h with⟨_,a,c,rfl,_⟩|⟨_,c,rfl,_⟩<;>exact⟨rfl,rfl⟩
 |ref g o=>simp only[RV]at h;obtain⟨_,rfl⟩:=h;exact⟨rfl,rfl⟩
 |eref κ x=>simp only[RV]at h;obtain⟨_,_,_,rfl,_⟩:=h;exact⟨rfl,rfl⟩
 |aref κ g o=>simp only[RV]at h;obtain⟨_,_,rfl⟩:=h;exact⟨rfl,rfl⟩
 |gi _ _=>simp only[RV]at h;obtain⟨rfl,_⟩:=h;exact⟨rfl,rfl⟩
 |mf _ _=>simp only[RV]at h;obtain⟨_,_,rfl⟩:=h;exact⟨rfl,rfl⟩
 |mfa _ _=>simp only[RV]at h;obtain⟨_,_,_,rfl⟩:=h;exact⟨rfl,rfl⟩
 |ep _=>simp only[RV]at h;obtain⟨_,_,rfl,_⟩:=h;exact⟨rfl,rfl⟩
 |nilp=>simp only[RV]at h;subst h;exact⟨rfl,rfl⟩
 |niliface=>simp only[RV]at h;subst h;exact⟨rfl,rfl⟩
 |iface t x=>simp only[RV]at h;obtain⟨_,rfl,_⟩:=h;exact⟨rfl,rfl⟩
 |func f cs=>simp only[RV]at h;obtain⟨_,rfl,_⟩:=h;exact⟨rfl,rfl⟩
 |nanv=>simp only[RV]at h;obtain⟨_,rfl,_⟩:=h;exact⟨rfl,rfl⟩
 |nilf=>simp only[RV]at h;subst h;exact⟨rfl,rfl⟩
 |bsl g n=>simp only[RV]at h;obtain⟨_,rfl⟩:=h;exact⟨rfl,rfl⟩
 |pa κ g n=>simp only[RV]at h;obtain⟨_,_,_,rfl⟩:=h;exact⟨rfl,rfl⟩
 |capd κ xs=>simp only[RV]at h;obtain⟨_,a,rfl⟩:=h;exact⟨rfl,rfl⟩
 |tuple cs=>simp[AV.single]at hs
 |dead=>simp[AV.single]at hs
theorem fill_singles{ρ:Operand→Value}{e:Operand→AV}(he:∀x,RV ι Fz w (e x) (ρ x)):
 ∀(ps:List (Nat×Operand)) (i:Nat) (pre post:List Value),inOrder i (ps.map Prod.fst)=true→(ps.map fun p=>e p.2).all AV.single=true→pre.length=i→post.length=ps.length→
  Instr.fill (fun i=>some (i*1,1)) (pre++post).toArray (ps.map fun p=>(p.1,ρ p.2))=some (pre++ps.map fun p=>ρ p.2).toArray
 |[],i,pre,post,_,_,_,hp=>by
  have:post=[]:=List.eq_nil_of_length_eq_zero (by simpa using hp)
  subst this
  simp[Instr.fill]
 |(j,x)::ps,i,pre,post,ho,hs,hpre,hp=>by
  simp only[List.map_cons,inOrder,Bool.and_eq_true]at ho
  simp only[List.map_cons,List.all_cons,Bool.and_eq_true]at hs
  have e1:=Nat.eq_of_beq_eq_true ho.1
  subst e1
  obtain⟨hc,_⟩:=single_cell (he x) hs.1
  cases post with
  |nil=>simp at hp
  |cons p0 post=>
   have hsz:(ρ x).cells.size=1:=by rw[←Array.length_toList,hc];rfl
   rw[List.map_cons,fill_step _ (pre++p0::post) i (ρ x) _ (i*1) 1 rfl hsz (by rw[hsz,List.length_append,List.length_cons];omega),hc]
   have hset:setV (pre++p0::post) (i*1) [ρ x]=(pre++[ρ x])++post:=by
    simp only[setV,Nat.mul_one]
    rw[←hpre];simp
   rw[hset,fill_singles he ps (i+1) (pre++[ρ x]) post ho.2 hs.2 (by simp[hpre]) (by simpa using hp)]
   simp
theorem buildBsl_of{t:TypeId}{len:Nat}{parts:Array (Nat×Operand)}{ρ:Operand→Value}{K:AV→Option AB→Option R}{r:R}{E:Env}{e:Operand→AV}{d:Nat}(m:Mem w0 Fz0 ι Fz H w)
 (he:∀x,RV ι Fz w (e x) (ρ x)) (h:opR E (.buildSlice t len parts) e H K d=some r) (hpl0:plainSl E t=false):
 ∃v b,K v (some b)=some r∧(AB.okN d b→∃v' w',(Instr.buildSlice t len (parts.map fun(i,x)=>(i,ρ x))).run E.P w= .ok v' w'∧After w0 Fz0 ι Fz H w d v (some b) v' w'):=by
 simp only[opR]at h
 obtain⟨el,hu,h⟩:=elemK_of h
 split at h
 ·rename_i κ hkd
  simp[plainSl,hu,hkd]at hpl0
 ·rename_i hkd
  cases hc:(sizeB E.P el 1&&zeroSome E.P el&&Nat.ble 1 len&&Nat.beq parts.size len&&Nat.ble len 1000&&inOrder 0 (parts.toList.map Prod.fst)&&(parts.toList.map fun p=>e p.2).all AV.single)with
  |false=>rw[hc]at h;cases h
  |true=>
   rw[hc,cond_true]at h
   simp only[Bool.and_eq_true]at hc
   obtain⟨⟨⟨⟨⟨⟨hs,hzs⟩,h1⟩,hpl⟩,hle⟩,hio⟩,hsg⟩:=hc
   obtain⟨inf,hinf,hsz⟩:=sizeB_of hs
   have h1:=Nat.le_of_ble_eq_true h1
   have hpl:=Nat.eq_of_beq_eq_true hpl
   have hle:=Nat.le_of_ble_eq_true hle
   unfold zeroSome at hzs
   rw[hinf]at hzs
   obtain⟨z,hz⟩:=Option.isSome_iff_exists.1 hzs
   have hlen:(parts.toList.map fun p=>ρ p.2).length=len:=by simp[hpl]
   have hvs:RVs ι Fz w (parts.toList.map fun p=>e p.2) (parts.toList.map fun p=>ρ p.2):=by
    have main:∀l:List (Nat×Operand),RVs ι Fz w (l.map fun p=>e p.2) (l.map fun p=>ρ p.2):=by
     intro l
     induction l with
     |nil=>simp[RVs]
     |cons p l ih=>simp only[List.map_cons,RVs];exact⟨_,_,rfl,he p.2,ih⟩
    exact main _
   have h1c:∀u∈(parts.toList.map fun p=>ρ p.2),u.oneCell'=true:=by
    intro u hu'
    obtain⟨p,hp,rfl⟩:=List.mem_map.1 hu'
    exact(single_cell (he p.2) (List.all_eq_true.1 hsg _ (List.mem_map.2 ⟨p,hp,rfl⟩))).2
   refine⟨_,_,h,fun hm=>⟨.slice (some ⟨w.heap.size,0,none⟩) len len,w.alloc (.cells (parts.toList.map fun p=>ρ p.2).toArray el), ?_, ?_⟩⟩
   ·have hpl2:(parts.map fun(i,x)=>(i,ρ x)).toList=parts.toList.map fun p=>(p.1,ρ p.2):=by simp
    have h0:¬(len*1=0):=by omega
    have hf:=fill_singles he parts.toList 0 [] (((Array.range (len*1)).map (fun i=>z.cells[i%z.cells.size]!)).toList) hio hsg rfl (by simp[hpl])
    simp only[List.nil_append,Array.toArray_toList]at hf
    simp only[Instr.buildSlice,Sem.run_bind,run_underlying hu,Result.andThen_ok,run_size hinf,hsz]
    rw[if_neg (by omega)]
    simp only[h0,if_false,zeroValue,typeInfo,Sem.run_bind,run_program,Result.andThen_ok,hinf,Sem.run_pure,hz,hpl2]
    simp only[hf]
    simp[newRow]
   ·obtain⟨ι',Fz',g1,g2,g3,g4,g5⟩:=box_new (T:=el) m hm.1 hm.2 hvs h1c
    refine⟨ι',Fz',g1,g2,g3,g4, ?_⟩
    simp only[RV]at g5⊢
    obtain⟨a1,a2⟩:=g5
    simp only[Value.pointer.injEq,Option.some.injEq,Addr.mk.injEq]at a2
    exact⟨a1,by rw[a2.1]⟩
theorem buildSlice_of{t:TypeId}{len:Nat}{parts:Array (Nat×Operand)}{ρ:Operand→Value}{K:AV→Option AB→Option R}{r:R}{E:Env}{e:Operand→AV}{d:Nat}(m:Mem w0 Fz0 ι Fz H w)
 (he:∀x,RV ι Fz w (e x) (ρ x)) (h:opR E (.buildSlice t len parts) e H K d=some r):
 ∃v b,K v (some b)=some r∧(AB.okN d b→∃v' w',(Instr.buildSlice t len (parts.map fun(i,x)=>(i,ρ x))).run E.P w= .ok v' w'∧After w0 Fz0 ι Fz H w d v (some b) v' w'):=by
 cases hp:plainSl E t with
 |false=>exact buildBsl_of m he h hp
 |true=>
 obtain⟨el,κ,xs,vs,h,hrun,hrow,hxl,hml,hvl⟩:=buildSlice_core m he h hp
 exact⟨_,_,h,fun hm=>⟨.slice (some ⟨w.heap.size,0,none⟩) xs.length len,w.alloc (.cells vs.toArray el),hrun,arr_new m hrow (by omega) hml (by rw[hvl]) hm.2⟩⟩
theorem zeroB_of{Fz:Nat→Prop}{w:World}:∀(κ:Kd) (cs:List Value),zeroB κ cs=true→RP Fz w κ κ.zero cs:=by
 intro κ
 induction κ with
 |pair a b iha ihb=>
  intro cs h
  simp only[zeroB,Bool.and_eq_true]at h
  exact⟨cs.take a.size,cs.drop a.size,(List.take_append_drop _ _).symm,iha _ h.1,ihb _ h.2⟩
 |int k=>
  intro cs h;unfold zeroB at h
  split at h<;>simp_all [RP,Kd.zero]
 |float=>
  intro cs h;unfold zeroB at h
  split at h<;>simp_all [RP,Kd.zero]
 |bool=>
  intro cs h;unfold zeroB at h
  split at h<;>simp_all [RP,Kd.zero]
 |str=>
  intro cs h;unfold zeroB at h
  split at h<;>simp_all [RP,Kd.zero]
  rename_i s
  obtain⟨⟨l⟩⟩:=s
  simp at h
  rw[h]
 |list e ih=>
  intro cs h;unfold zeroB at h
  split at h<;>first|(cases h;done)|skip
  all_goals first|(exact⟨_,rfl,none,0,rfl,Nat.le_refl _, .inl rfl⟩)|simp_all
 |any=>
  intro cs h;unfold zeroB at h
  cases h
 |nl e ih=>
  intro cs h;unfold zeroB at h
  cases h
 |unit=>
  intro cs h;unfold zeroB at h
  split at h<;>simp_all [RP,Kd.zero]
 |geo=>
  intro cs h;unfold zeroB at h
  split at h<;>first|(cases h;done)|skip
  all_goals first
   | (simp only [Bool.and_eq_true, decide_eq_true_eq] at h
      obtain⟨⟨h1,h2⟩,h3⟩:=h
      rw[h1,h2,h3]
      exact⟨_,_,_,_,_,rfl,⟨none,0,rfl,Nat.le_refl _, .inl rfl⟩,⟨none,0,rfl,Nat.le_refl _, .inl rfl⟩,⟨none,0,rfl,Nat.le_refl _, .inl rfl⟩,Nat.le_refl _, .inl rfl⟩)
   |simp_all
theorem makeSlice_core{t:TypeId}{l c:Operand}{ρ:Operand→Value}{K:AV→Option AB→Option R}{r:R}{E:Env}{e:Operand→AV}{d:Nat}
 (he:∀x,RV ι Fz w (e x) (ρ x)) (h:opR E (.makeSlice t l c) e H K d=some r):
 ∃(el:TypeId) (κ:Kd) (xs:List (Den κ)) (vs:List Value) (cap:Nat),K (.own κ d) (some (.arr el κ xs))=some r∧
  (Instr.makeSlice t (ρ l) (ρ c)).run E.P w= .ok (.slice (some ⟨w.heap.size,0,none⟩) xs.length cap) (w.alloc (.cells vs.toArray el))∧
  Row Fz w κ xs vs∧xs.length≤cap∧cap≤maxLen∧vs.length=cap*κ.size:=by
 simp only[opR]at h
 obtain⟨el,hu,h⟩:=elemK_of h
 split at h
 ·rename_i i κ hi hkd
  split at h
  ·rename_i z hz
   cases hc:(Nat.beq i.size κ.size&&Nat.ble 1 κ.size&&zeroB κ z.cells.toList)with
   |false=>rw[hc]at h;cases h
   |true=>
    rw[hc,cond_true]at h
    simp only[Bool.and_eq_true]at hc
    obtain⟨⟨hs,h1⟩,hzb⟩:=hc
    have hs:=Nat.eq_of_beq_eq_true hs
    have h1:=Nat.le_of_ble_eq_true h1
    split at h
    ·rename_i k1 n k2 m hel hec
     obtain⟨k,hk,h⟩:=Option.bind_eq_some_iff.1 h
     unfold mkn at hk
     split at hk
     ·rename_i hg
      simp only[Option.some.injEq]at hk
      subst hk
      have hl:=he l
      have hcv:=he c
      rw[hel,RV_int]at hl
      rw[hec,RV_int]at hcv
      have hrun:=run_make (P:=E.P) w t el i z hu hi hz k1 k2 n m hg.1 hg.2.1 hg.2.2.1 hg.2.2.2
      have hzr:=zeroB_of (Fz:=Fz) (w:=w) κ _ hzb
      have hzl:=RP_len κ _ _ hzr
      refine⟨el,κ,_,(madeCells z.cells (m.toNat *i.size)).toList,m.toNat,h, ?_, ?_, ?_, ?_, ?_⟩
      ·rw[hl,hcv,hrun,List.length_replicate]
      ·intro j x hx
       have hj:j<n.toNat:=by
        have:=List.getElem?_eq_some_iff.1 hx
        obtain⟨hlt,_⟩:=this
        simpa using hlt
       have hx':x=κ.zero:=by
        rw[List.getElem?_replicate,if_pos hj]at hx
        simpa using hx.symm
       subst hx'
       refine⟨_,hzr,hzl,fun q u hq=> ?_⟩
       have hql:q<κ.size:=by
        have:=(List.getElem?_eq_some_iff.1 hq).1
        omega
       have hzs:z.cells.size=κ.size:=by simpa using hzl
       have hidx:j*κ.size+q<m.toNat *i.size:=by
        rw[hs]
        have h2:(j+1)*κ.size≤m.toNat *κ.size:=Nat.mul_le_mul_right _ (by omega)
        rw[Nat.add_mul,Nat.one_mul]at h2
        omega
       rw[Array.getElem?_toList]
       unfold madeCells
       rw[Array.getElem?_map,Array.getElem?_range,if_pos hidx]
       have hmod:(j*κ.size+q)%z.cells.size=q:=by
        rw[hzs,Nat.add_comm,Nat.add_mul_mod_self_right,Nat.mod_eq_of_lt hql]
       simp only[Option.map_some,hmod]
       rw[Array.getElem?_toList]at hq
       rw[getElem!_pos z.cells q (by omega)]
       rw[←hq,Array.getElem?_eq_getElem (by omega)]
      ·rw[List.length_replicate];omega
      ·simp only[maxLen];omega
      ·rw[←hs];simp[madeCells]
     ·cases hk
    ·cases h
  ·cases h
 ·cases h
theorem makeSlice_of{t:TypeId}{l c:Operand}{ρ:Operand→Value}{K:AV→Option AB→Option R}{r:R}{E:Env}{e:Operand→AV}{d:Nat}(m:Mem w0 Fz0 ι Fz H w)
 (he:∀x,RV ι Fz w (e x) (ρ x)) (h:opR E (.makeSlice t l c) e H K d=some r):
 ∃v b,K v (some b)=some r∧(AB.okN d b→∃v' w',(Instr.makeSlice t (ρ l) (ρ c)).run E.P w= .ok v' w'∧After w0 Fz0 ι Fz H w d v (some b) v' w'):=by
 obtain⟨el,κ,xs,vs,cap,h,hrun,hrow,hxl,hml,hvl⟩:=makeSlice_core he h
 exact⟨_,_,h,fun hm=>⟨_,_,hrun,arr_new m hrow hxl hml (by rw[hvl]) hm.2⟩⟩
theorem buildSlice_frz{t:TypeId}{len:Nat}{parts:Array (Nat×Operand)}{ρ:Operand→Value}{K:AV→Option AB→Option R}{r:R}{E:Env}{e:Operand→AV}{d d':Nat}(m:Mem w0 Fz0 ι Fz H w)
 (he:∀x,RV ι Fz w (e x) (ρ x)) (h:opR E (.buildSlice t len parts) e H K d=some r) (hpl0:plainSl E t=true):
 ∃(el:TypeId) (κ:Kd) (xs:List (Den κ)),K (.own κ d) (some (.arr el κ xs))=some r∧∃v' w',(Instr.buildSlice t len (parts.map fun(i,x)=>(i,ρ x))).run E.P w= .ok v' w'∧After w0 Fz0 ι Fz H w d' (.pv (.list κ) xs) none v' w':=by
 obtain⟨el,κ,xs,vs,h,hrun,hrow,hxl,hml,hvl⟩:=buildSlice_core m he h hpl0
 refine⟨el,κ,xs,h,_,_,hrun,ι,fun b=>Fz b∨b=w.heap.size, ?_,fun b hb=> .inl hb,fun _ _=>rfl, ?_, ?_⟩
 ·intro b hb
  exact Below.heap_alloc _ _ _ (m.fz b hb)
 ·refine m.grow ((Below.refl _ _).alloc (Nat.le_refl _) _) (fun b hb=> .inl hb) (fun b hb=> ?_) (fun b hb=> ?_)
  ·rcases hb with hb|hb
   ·exact .inl hb
   ·exact .inr (by omega)
  ·have e:(w.alloc (.cells vs.toArray el)).heap.size=w.heap.size+1:=by show(w.heap.push _).size=_;simp
   rw[e]
   rcases hb with hb|hb
   ·have:=m.fz b hb;omega
   ·omega
 ·simp only[RV,Kd.isAgg,Bool.false_eq_true,if_false,RP]
  refine⟨_,rfl,some ⟨w.heap.size,0,none⟩,len,rfl,by omega, .inr ⟨w.heap.size,0,rfl, .inr rfl,fun i x hx=> ?_⟩⟩
  obtain⟨es,h1,h2,h3⟩:=hrow i x hx
  refine⟨es,RP_mono (fun b hb=>Below.heap_alloc _ _ _ (m.fz b hb)) (fun b hb=> .inl hb) _ _ _ h1,h2,fun j u hj=> ?_⟩
  have e:(w.alloc (.cells vs.toArray el)).heap[w.heap.size]?=some (.cells vs.toArray el (0,0)):=by
   show(w.heap.push _)[w.heap.size]?=_
   simp
  have:=h3 j u hj
  simp only[World.cell?,e,Nat.zero_add]
  simpa using this
theorem mmV_of{mx:Bool}{x y:AV}{vx vy:Value}{K:AV→Option R}{r:R}(hx:RV ι Fz w x vx)(hy:RV ι Fz w y vy)(h:mmV mx x y K=some r):
 ∃v,K v=some r∧∃v',(bif mx then Builtin.max2 vx vy else Builtin.min2 vx vy).run P w= .ok v' w∧RV ι Fz w v v':=by
 unfold mmV at h
 split at h
 ·rename_i a m
  split at h
  ·rename_i b n
   cases hab:decide (a=b)with
   |false=>rw[hab]at h;cases h
   |true=>
    rw[hab,cond_true]at h
    rw[RV_int]at hx hy
    subst hx hy
    refine⟨_,h, .int a (imm mx m n), ?_,RV_int.2 rfl⟩
    cases mx<;>rfl
  ·cases h
 ·rename_i m
  split at h
  ·rename_i n
   obtain⟨z,hz,h⟩:=Option.bind_eq_some_iff.1 h
   rw[RV_float]at hx hy
   subst hx hy
   refine⟨_,h, .float .f64 z, ?_,RV_float.2 rfl⟩
   unfold fmm at hz
   have e:FloatKind.f64.format.order m n=Ieee.double.order m n:=rfl
   cases mx<;>simp only[cond_true,cond_false,Builtin.max2,Builtin.min2,e]<;>(cases ho:Ieee.double.order m n with
    |none=>rw[ho]at hz;cases hz
    |some c=>
     rw[ho]at hz
     cases c<;>simp only[Option.some.injEq,cond_true,cond_false]at hz<;>subst hz<;>rfl)
  ·cases h
 ·cases h
theorem findCon_of{cons:List Con}{f:FuncId}{H:List (Nat×AB)}{vs:List AV}{K:(c:Con)→HL c.ps→Option R}{r:R}(h:findCon cons f H vs K=some r):
 ∃c∈cons,c.fid=f∧∃x,argsD H c.ps vs=some x∧K c x=some r:=by
 induction cons with
 |nil=>simp[findCon]at h
 |cons c cs ih=>
  simp only[findCon]at h
  cases hf:Nat.beq c.fid f with
  |true=>
   rw[hf,cond_true]at h
   split at h
   ·rename_i x hx
    exact⟨c,by simp,Nat.eq_of_beq_eq_true hf,x,hx,h⟩
   ·obtain⟨c',h1,h2⟩:=ih h
    exact⟨c',by simp[h1],h2⟩
  |false=>
   rw[hf,cond_false]at h
   obtain⟨c',h1,h2⟩:=ih h
   exact⟨c',by simp[h1],h2⟩
theorem RVs_map{ρ:Operand→Value}{e:Operand→AV}(he:∀x,RV ι Fz w (e x) (ρ x)):∀(l:List Operand),RVs ι Fz w (l.map e) (l.map ρ)
 |[]=>by simp[RVs]
 |x::l=>by simp only[List.map_cons,RVs];exact⟨_,_,rfl,he x,RVs_map he l⟩
theorem resL_plain{Fz':Nat→Prop}{w':World}:∀(rs:List Kd) (y:HR rs),rs.all Kd.plain=true→∀(vs:List Value),RVs ι0 Fz w (resL rs y) vs→RVs ι Fz' w' (resL rs y) vs
 |[],_,_,vs,h=>by simpa only[resL,RVs]using h
 |[κ],y,hp,vs,h=>by
  simp only[List.all_cons,List.all_nil,Bool.and_true]at hp
  simp only[resL,RVs]at h⊢
  obtain⟨v,r,rfl,h,hr⟩:=h
  refine⟨v,r,rfl, ?_,hr⟩
  simp only[RV]at h⊢
  split
  ·rename_i hk
   simp only[hk,if_true]at h
   obtain⟨us,e,h⟩:=h
   exact⟨us,e,RP_plain _ _ _ hp h⟩
  ·rename_i hk
   simp only[hk]at h
   exact RP_plain _ _ _ hp h
 |κ::κ'::rs,y,hp,vs,h=>by
  simp only[List.all_cons,Bool.and_eq_true]at hp
  simp only[resL,RVs]at h⊢
  obtain⟨v,r,rfl,h,hr⟩:=h
  refine⟨v,r,rfl, ?_,resL_plain (κ'::rs) y.2 (by simp[hp.2]) r hr⟩
  simp only[RV]at h⊢
  split
  ·rename_i hk
   simp only[hk,if_true]at h
   obtain⟨us,e,h⟩:=h
   exact⟨us,e,RP_plain _ _ _ hp.1 h⟩
  ·rename_i hk
   simp only[hk]at h
   exact RP_plain _ _ _ hp.1 h
theorem resV_plain{Fz':Nat→Prop}{w':World}{rs:List Kd}{y:HR rs}(hp:rs.all Kd.plain=true){v:Value}(h:RV ι0 Fz w (resV rs y) v):RV ι Fz' w' (resV rs y) v:=by
 have key:=resL_plain (ι:=ι) (Fz:=Fz) (w:=w) (Fz':=Fz') (w':=w') rs y hp
 unfold resV at h⊢
 generalize resL rs y=l at h key⊢
 match l with
 |[]=>simp only[RV]at h⊢;obtain⟨vs,e,h⟩:=h;exact⟨vs,e,key vs h⟩
 |[a]=>have:=key [v] (by simp only[RVs];exact⟨v,[],rfl,h,rfl⟩);simp only[RVs,List.cons.injEq]at this;obtain⟨u,r,⟨rfl,_⟩,h,_⟩:=this;exact h
 |a::b::l=>simp only[RV]at h⊢;obtain⟨vs,e,h⟩:=h;exact⟨vs,e,key vs h⟩
theorem resL_ment(h:Nat):∀(rs:List Kd) (y:HR rs),mentL h (resL rs y)=false
 |[],_=>rfl
 |[κ],y=>by simp[resL,mentL,AV.ment]
 |κ::κ'::rs,y=>by simp only[resL,mentL,AV.ment,Bool.false_or];exact resL_ment h (κ'::rs) y.2
theorem resV_ment(h:Nat)(rs:List Kd)(y:HR rs):(resV rs y).ment h=false:=by
 have:=resL_ment h rs y
 unfold resV
 generalize resL rs y=l at this⊢
 match l with
 |[]=>rfl
 |[a]=>simpa[mentL]using this
 |a::b::l=>simpa[AV.ment]using this
theorem resV_iota{rs:List Kd}{y:HR rs}{v:Value}(h:RV ι0 Fz w (resV rs y) v):RV ι Fz w (resV rs y) v:=
 RV_mono (fun _ _=>rfl) (fun _ h=>h) _ v (fun g hg=>by rw[resV_ment]at hg;cases hg) h
theorem isArr_live{b:AB}(h:b.isArr):b.live:=by cases b<;>first|exact h.elim|trivial
theorem lent_lt(m:Mem w0 Fz0 ι Fz H w):∀b,lent ι Fz H b→b<w.heap.size:=by
 rintro b (hb|⟨h,hl,hv,rfl⟩)
 ·exact m.fz b hb
 ·exact(m.sep h hl hv).2.1
theorem run_call{P:Program}{o:Oper}{a:Act}{f:Operand}{args:Array Operand}{ts:Array TypeId}{g:FuncId}{caps:List Value}{w:World}(ho:o.op= .call {callee:= .value f,args:=args,argTypes:=ts})
 (hf:a.eval f= .func (.func g) #[] caps.toArray):(execOp a.eval o).run P w=(callFunc g ((args.toList.map a.eval)++caps).toArray).run P w:=by
 have:(args.map a.eval++caps.toArray)=((args.toList.map a.eval)++caps).toArray:=by
  apply Array.ext';simp
 simp only[execOp,ho,resolve,hf,Deferred.ofValue,Sem.run_bind,Sem.run_pure,Result.andThen_ok,invoke,Array.empty_append,this]
theorem OpGives.call{o:Oper}{a:Act}{f:Operand}{args:Array Operand}{ts:Array TypeId}{g:FuncId}{caps:List Value}{G:Value→World→Prop}(ho:o.op= .call {callee:= .value f,args:=args,argTypes:=ts})
 (hf:a.eval f= .func (.func g) #[] caps.toArray) (h:CallGives P g ((args.toList.map a.eval)++caps) w G):OpGives P o a w G:=by
 have hr:=run_call (P:=P) (w:=w) ho hf
 rcases h with⟨v,w',h1,h2⟩|⟨h1,h2⟩
 ·exact .inl ⟨v,w',by rw[hr,h1],h2⟩
 ·exact .inr (.inr ⟨g,_,by rw[hr,h1],h2⟩)
theorem CallGives.mono{f:FuncId}{args:List Value}{G G':Value→World→Prop}(h:CallGives P f args w G)(hg:∀v w',G v w'→G' v w'):CallGives P f args w G':=by
 rcases h with⟨v,w',h1,h2⟩|⟨h1,h2⟩
 ·exact .inl ⟨v,w',h1,hg _ _ h2⟩
 ·exact .inr ⟨h1,h2.mono fun e w' ⟨v,e,h⟩=>⟨v,e,hg _ _ h⟩⟩
theorem callR_core{g:FuncId}{avs:List AV}{vals:List Value}{K:AV→Option AB→Option R}{r:R}{E:Env}{d:Nat}{o:Oper}{a:Act}(hΓ:∀c∈E.cons,c.Sound E.P w0.gl)(m:Mem w0 Fz0 ι Fz H w)
 (hrv:RVs ι Fz w avs vals) (hcall:∀G,CallGives E.P g vals w G→OpGives E.P o a w G)
 (h:(findCon E.cons g H avs fun c' x=>bif c'.rs.all Kd.plain||avs.all (fun v=> !v.handled)then(c'.fn x).bind fun y=>K (resV c'.rs y) none else none)=some r):
 ∃v,K v none=some r∧OpGives E.P o a w (After w0 Fz0 ι Fz H w d v none):=by
 obtain⟨c,hc,rfl,x,hx,h⟩:=findCon_of h
 cases hp:(c.rs.all Kd.plain||avs.all fun v=> !v.handled)with
 |false=>rw[hp]at h;cases h
 |true=>
  rw[hp,cond_true]at h
  obtain⟨y,hy,h⟩:=Option.bind_eq_some_iff.1 h
  refine⟨_,h, ?_⟩
  rw[Bool.or_eq_true]at hp
  rcases hp with hp|hp
  ·have hra:=argsD_of (Fz':=lent ι Fz H) m.rb (fun b hb=> .inl hb) c.ps _ x _ hx hrv (fun h _ hl hv=> .inr ⟨h,isArr_live hl,hv,rfl⟩)
   refine hcall _ ((hΓ c hc w _ x _ y (lent_lt m) (m.gok.mono (fun _ _=>rfl) (fun b hb=> .inl hb)) hra hy).mono ?_)
   rintro v w' ⟨hbel,Fz',h1,h2,h3,hv⟩
   exact⟨ι,Fz,fun b hb=>hbel.block b (m.fz b hb),fun _ h=>h,fun _ _=>rfl,m.grow hbel (fun _ h=>h) (fun _ h=> .inl h) (fun b hb=>Nat.lt_of_lt_of_le (m.fz b hb) hbel.size),resV_plain hp hv⟩
  ·have hra:=argsD_of (Fz':=Fz) m.rb (fun b hb=>hb) c.ps _ x _ hx hrv (fun h hm=>by rw[noH_ment hp]at hm;cases hm)
   refine hcall _ ((hΓ c hc w _ x _ y m.fz m.gok hra hy).mono ?_)
   rintro v w' ⟨hbel,Fz',h1,h2,h3,hv⟩
   exact⟨ι,Fz',fun b hb=>hbel.block b (m.fz b hb),h1,fun _ _=>rfl,m.grow hbel h1 h2 h3,resV_iota hv⟩
theorem call_of{f:Operand}{args:Array Operand}{ts:Array TypeId}{K:AV→Option AB→Option R}{r:R}{E:Env}{e:Operand→AV}{d:Nat}{o:Oper}{a:Act}(hΓ:∀c∈E.cons,c.Sound E.P w0.gl)(m:Mem w0 Fz0 ι Fz H w)
 (he:∀x,RV ι Fz w (e x) (a.eval x)) (ho:o.op= .call {callee:= .value f,args:=args,argTypes:=ts}) (h:opR E (.call {callee:= .value f,args:=args,argTypes:=ts}) e H K d=some r):
 ∃v,K v none=some r∧OpGives E.P o a w (After w0 Fz0 ι Fz H w d v none):=by
 simp only[opR]at h
 split at h
 ·rename_i g caps hf
  have hef:=he f
  rw[hf]at hef
  simp only[RV]at hef
  obtain⟨cv,hfe,hcv⟩:=hef
  exact callR_core hΓ m (RVs_append (RVs_map he _) hcv) (fun G hG=>OpGives.call ho hfe hG) h
 ·cases h
theorem run_invoke{P:Program}{o:Oper}{a:Act}{f:Operand}{nm:String}{args:Array Operand}{ts:Array TypeId}{t:TypeId}{u:Value}{g:FuncId}{x':Value}{w:World}(ho:o.op= .call {callee:= .invoke f nm,args:=args,argTypes:=ts})
 (hf:a.eval f= .iface t u) (hm:(method (P.types.size+Made.depth) t u nm).run P w= .ok (g,x') w):(execOp a.eval o).run P w=(callFunc g (x'::args.toList.map a.eval).toArray).run P w:=by
 have e1:(#[Value.iface t u]++args.map a.eval)[0]?=some (.iface t u):=by rw[Array.getElem?_append_left (Nat.zero_lt_one)];rfl
 have e2:(#[Value.iface t u]++args.map a.eval).extract 1 (#[Value.iface t u]++args.map a.eval).size=args.map a.eval:=by
  apply Array.ext'
  simp
  rw[List.take_of_length_le (by simp)]
 have e3: #[x']++args.map a.eval=(x'::args.toList.map a.eval).toArray:=by apply Array.ext';simp
 simp only[execOp,ho,resolve,hf,Sem.run_bind,Sem.run_pure,Result.andThen_ok,invoke,e1,e2,callMethod,run_program,hm,e3]
theorem OpGives.callI{o:Oper}{a:Act}{f:Operand}{nm:String}{args:Array Operand}{ts:Array TypeId}{t:TypeId}{u:Value}{g:FuncId}{x':Value}{G:Value→World→Prop}(ho:o.op= .call {callee:= .invoke f nm,args:=args,argTypes:=ts})
 (hf:a.eval f= .iface t u) (hm:(method (P.types.size+Made.depth) t u nm).run P w= .ok (g,x') w) (h:CallGives P g (x'::args.toList.map a.eval) w G):OpGives P o a w G:=by
 have hr:=run_invoke (P:=P) (w:=w) ho hf hm
 rcases h with⟨v,w',h1,h2⟩|⟨h1,h2⟩
 ·exact .inl ⟨v,w',by rw[hr,h1],h2⟩
 ·exact .inr (.inr ⟨g,_,by rw[hr,h1],h2⟩)
theorem callI_of{f:Operand}{nm:String}{args:Array Operand}{ts:Array TypeId}{K:AV→Option AB→Option R}{r:R}{E:Env}{e:Operand→AV}{d:Nat}{o:Oper}{a:Act}(hΓ:∀c∈E.cons,c.Sound E.P w0.gl)(m:Mem w0 Fz0 ι Fz H w)
 (he:∀x,RV ι Fz w (e x) (a.eval x)) (ho:o.op= .call {callee:= .invoke f nm,args:=args,argTypes:=ts}) (h:opR E (.call {callee:= .invoke f nm,args:=args,argTypes:=ts}) e H K d=some r):
 ∃v,K v none=some r∧OpGives E.P o a w (After w0 Fz0 ι Fz H w d v none):=by
 simp only[opR]at h
 have key : ∀ t u u', a.eval f = .iface t u' → RV ι Fz w u u' → (methK E t nm u fun g => findCon E.cons g.1 H (g.2 :: args.toList.map e) fun c' x =>
         bif c'.rs.all Kd.plain||(g.2::args.toList.map e).all (fun v=> !v.handled)then(c'.fn x).bind fun y=>K (resV c'.rs y) none else none)=some r→
  ∃v,K v none=some r∧OpGives E.P o a w (After w0 Fz0 ι Fz H w d v none):=by
  intro t u u' hfe hu h
  obtain⟨g,x,h,x',hm,hx⟩:=methK_of (w:=w) h hu
  refine callR_core (vals:=x'::args.toList.map a.eval) hΓ m ?_ (fun G hG=>OpGives.callI ho hfe hm hG) h
  simp only[RVs]
  exact⟨x',_,rfl,hx,RVs_map he _⟩
 split at h
 ·rename_i t u hf
  have hef:=he f
  rw[hf]at hef
  simp only[RV]at hef
  obtain⟨u',hfe,hu⟩:=hef
  exact key t u u' hfe hu h
 ·rename_i c hf
  have hef:=he f
  rw[hf]at hef
  obtain⟨t,u,h,u',hfe,hu⟩:=dynK_of hef _ h
  exact key t u u' hfe hu h
 ·cases h
theorem run_nilAhead{t:TypeId}{nm:String}{u:Value}{P:Program}{w:World}(h:mthOk P t nm=true):(nilAhead (P.types.size+Made.depth) t u nm).run P w= .ok (some false) w:=by
 unfold mthOk at h
 split at h<;>try(cases h;done)
 rename_i i hi
 split at h<;>try(cases h;done)
 rename_i m hm
 simp only[Bool.and_eq_true]at h
 obtain⟨h1,h2⟩:=h
 have hp:m.path.toList=[]:=by cases hq:m.path.toList with
  |nil=>rfl
  |cons _ _=>rw[hq]at h1;cases h1
 obtain⟨n,hn⟩:∃n,P.types.size+Made.depth=n+1:=⟨P.types.size+99,rfl⟩
 rw[hn]
 split at h2<;>try(cases h2;done)
 ·rename_i f hf
  simp[nilAhead,typeInfo,hi,hm,hp,followBlind,hf]
 ·rename_i f hf
  split at h2<;>try(cases h2;done)
  rename_i fs hu
  simp[nilAhead,typeInfo,hi,hm,hp,followBlind,hf,run_underlying hu]
theorem mfD_of{Fz:Nat→Prop}{w:World}{P:Program}{nm:String}{c:Ce}{v:Value}(hr:RC Fz w c v):∀(l:List TypeId),mfD P nm c l=some ()→∃t u,v= .iface t u∧mthOk P t nm=true
 |[],h=>by simp[mfD]at h
 |t::r,h=>by
  simp only[mfD]at h
  obtain⟨b,hb,h⟩:=Option.bind_eq_some_iff.1 h
  cases b with
  |false=>exact mfD_of hr r h
  |true=>
   rw[cond_true]at h
   rcases isT_of hb hr with⟨_,e⟩|⟨u,x,rfl,e⟩
   ·cases e
   ·have e:=Nat.eq_of_beq_eq_true e.symm
    subst e
    cases hm:mthOk P u nm with
    |false=>rw[hm]at h;cases h
    |true=>exact⟨u,x,rfl,hm⟩
theorem u8T_of{P:Program}{t:TypeId}(h:u8T P t=true):P.underlying t=some (.int .u8):=by
 unfold u8T at h;split at h
 ·assumption
 ·cases h
theorem conv_bytes{P:Program}{src dst el:TypeId}{a:AV}{xs:List Int}{v:Value}(m:Mem w0 Fz0 ι Fz H w)(hs:P.underlying src=some (.slice el))(he:P.underlying el=some (.int .u8))(hd:P.underlying dst=some .string)
 (h:leafD H (.list (.int .u8)) a=some xs) (hr:RV ι Fz w a v):(convert src dst v).run P w= .ok (.string (strOfNums xs)) w:=by
 have hpv:RV ι (lent ι Fz H) w (.pv (.list (.int .u8)) xs) v:=leafD_of m.rb (fun _ h=> .inl h) rfl h hr (fun h _ hl hv=> .inr ⟨h,isArr_live hl,hv,rfl⟩)
 simp only[RV,Kd.isAgg,RP,Bool.false_eq_true,if_false]at hpv
 obtain⟨v',hv,sa,sc,rfl,hl,hel⟩:=hpv
 simp only[List.cons.injEq,and_true]at hv
 subst hv
 rcases hel with rfl|⟨b,off,rfl,_,hel⟩
 ·rw[run_convert_bytes_string w src dst el _ _ sc hs he hd]
  cases sa<;>simp[Conv.bytesToString,loadCells]
  all_goals first|rfl|done
 ·refine run_convert_bytes_arg w src el hs he b off xs.length sc xs rfl (fun i hi=> ?_) dst hd
  obtain⟨es,e1,e2,e3⟩:=hel i xs[i] (List.getElem?_eq_getElem hi)
  subst e1
  have:=e3 0 _ rfl
  simpa[Kd.size,List.getD,List.getElem?_eq_getElem hi]using this
theorem opR_of{o:Oper}{a:Act}{K:AV→Option AB→Option R}{r:R}{E:Env}{e:Operand→AV}{d:Nat}(hΓ:∀c∈E.cons,c.Sound E.P w0.gl)(m:Mem w0 Fz0 ι Fz H w)
 (he:∀x,RV ι Fz w (e x) (a.eval x)) (h:opR E o.op e H K d=some r):
 ∃v ob,K v ob=some r∧((∀b,ob=some b→AB.okN d b)→OpGives E.P o a w (After w0 Fz0 ι Fz H w d v ob)):=by
 generalize ho:o.op=op at h
 have val:∀{v:AV} {s:Sem Value},K v none=some r→(execOp a.eval o=(do pure (.value (←s))))→(∃v',s.run E.P w= .ok v' w∧RV ι Fz w v v')→
  ∃v ob,K v ob=some r∧((∀b,ob=some b→AB.okN d b)→OpGives E.P o a w (After w0 Fz0 ι Fz H w d v ob)):=
  fun hk hs ⟨v',h1,h2⟩=>⟨_,none,hk,fun _=>OpGives.val (v:=v') (by rw[hs];simp[h1]) (After.same m h2)⟩
 have mem:∀{v:AV} {b:AB} {s:Sem Value},K v (some b)=some r→(execOp a.eval o=(do pure (.value (←s))))→(AB.okN d b→∃v' w',s.run E.P w= .ok v' w'∧After w0 Fz0 ι Fz H w d v (some b) v' w')→
  ∃v ob,K v ob=some r∧((∀b,ob=some b→AB.okN d b)→OpGives E.P o a w (After w0 Fz0 ι Fz H w d v ob)):=
  fun{v b s} hk hs hm=>⟨v,some b,hk,fun hb=>by
   obtain⟨v',w',h1,h2⟩:=hm (hb b rfl)
   exact .inl ⟨v',w',by rw[hs];simp[h1],h2⟩⟩
 cases op with
 |move x=>
  simp only[opR]at h
  split at h
  ·cases h
  ·exact⟨_,none,h,fun _=>OpGives.val (by simp[execOp,ho]) (After.same m (he x))⟩
 |assign x=>
  simp only[opR]at h
  split at h
  ·cases h
  ·exact⟨_,none,h,fun _=>OpGives.val (by simp[execOp,ho]) (After.same m (he x))⟩
 |pick c x y=>
  simp only[opR]at h
  have hc:=he c
  split at h
  ·rename_i hec
   rw[hec,RV_bool]at hc
   split at h
   ·cases h
   ·exact⟨_,none,h,fun _=>OpGives.val (v:=a.eval x) (by simp[execOp,ho,hc,asBool]) (After.same m (he x))⟩
  ·rename_i hec
   rw[hec,RV_bool]at hc
   split at h
   ·cases h
   ·exact⟨_,none,h,fun _=>OpGives.val (v:=a.eval y) (by simp[execOp,ho,hc,asBool]) (After.same m (he y))⟩
  ·cases h
 |binOp op t x y u=>
  simp only[opR]at h
  split at h
  ·rename_i n hn
   obtain⟨v,hk,v',hr,hv,hg⟩:=nilK_of m.rb hn (he x) (he y) (nilD_of h)
   refine⟨v,none,hk,fun _=>OpGives.val (v:=v') ?_ (After.same m hv)⟩
   simp[execOp,ho,hg x y,hr]
  ·obtain⟨v,hk,v',hr,hv,hg⟩:=binV_of (he x) (he y) h
   refine⟨v,none,hk,fun _=>OpGives.val (v:=v') ?_ (After.same m hv)⟩
   simp[execOp,ho,hg x y rfl,hr]
 |unOp op t x=>
  simp only[opR]at h
  have hx:=he x
  split at h
  ·rename_i b hex
   rw[hex,RV_bool]at hx
   exact val h (by simp only[execOp,ho];rfl) ⟨_,by simp[hx,Op.unary],RV_bool.2 rfl⟩
  ·rename_i k n hex
   rw[hex,RV_int]at hx
   exact val h (by simp only[execOp,ho];rfl) ⟨_,by simp only[hx,Op.unary,Op.intArith,Sem.run_pure],RV_int.2 rfl⟩
  ·rename_i b hex
   rw[hex,RV_float]at hx
   exact val h (by simp only[execOp,ho];rfl) ⟨_,by simp only[hx,Op.unary,Sem.run_pure];rfl,RV_float.2 rfl⟩
  ·cases h
 |convert src dst x=>
  simp only[opR]at h
  have hx:=he x
  split at h
  ·rename_i k0 n _ k hex hs hd
   rw[hex,RV_int]at hx
   refine val h (by simp only[execOp,ho];rfl) ⟨_, ?_,RV_int.2 rfl⟩
   simp[hx,convert,run_underlying hs,run_underlying hd,Conv.intToInt]
  ·rename_i k0 n _ hex hs hd
   rw[hex,RV_int]at hx
   refine val h (by simp only[execOp,ho];rfl) ⟨_, ?_,RV_float.2 rfl⟩
   rw[hx]
   exact run_convert_int_float w src dst k0 .f64 n (by rw[hs];rfl) hd
  ·rename_i b _ k hex hs hd
   rw[hex,RV_float]at hx
   obtain⟨n,hn,h⟩:=Option.bind_eq_some_iff.1 h
   refine val h (by simp only[execOp,ho];rfl) ⟨_, ?_,RV_int.2 rfl⟩
   rw[hx]
   exact run_convert_float_int w src dst .f64 k b n (by rw[hs];rfl) hd hn
  ·rename_i b _ hex hs hd
   rw[hex,RV_float]at hx
   refine val h (by simp only[execOp,ho];rfl) ⟨_, ?_,RV_float.2 rfl⟩
   rw[hx]
   exact run_convert_float_float w src dst .f64 .f64 b b (by rw[hs];rfl) hd (by simp[floatToFloatBits])
  ·rename_i el hs hd
   cases hu:u8T E.P el with
   |false=>rw[hu]at h;cases h
   |true=>
   rw[hu,cond_true]at h
   obtain⟨xs,hxs,h⟩:=Option.bind_eq_some_iff.1 h
   exact val h (by first|(simp only[execOp,ho];done)|(simp only[execOp,ho];rfl)) ⟨_,conv_bytes m hs (u8T_of hu) hd hxs hx,RV_str.2 rfl⟩
  ·cases h
 |alloc t=>
  obtain⟨v,b,hk,hm⟩:=alloc_of m h
  exact mem hk (by simp only[execOp,ho]) hm
 |box t x=>
  obtain⟨v,b,hk,hm⟩:=boxOp_of m (he x) h
  exact mem hk (by simp only[execOp,ho]) hm
 |load t x=>
  obtain⟨v,hk,hr⟩:=load_of rfl m (he x) h
  exact val hk (by simp only[execOp,ho]) hr
 |fieldAddr s x f=>
  obtain⟨v,hk,hr⟩:=fieldAddr_of (he x) h
  exact val hk (by simp only[execOp,ho]) hr
 |field s x f=>
  obtain⟨v,hk,hr⟩:=field_of (he x) h
  exact val hk (by simp only[execOp,ho]) hr
 |indexAddr t x i=>
  obtain⟨v,hk,hr⟩:=indexAddr_of m (he x) (he i) h
  exact val hk (by simp only[execOp,ho]) hr
 |slice t x lo hi mx=>
  cases mx with
  |some mx=>
   cases hi with
   |none=>simp[opR]at h
   |some hi=>
    obtain⟨v,hk,v',hr⟩:=slice3_of m he h
    exact val (s:=Instr.sliceAt t (a.eval x) (lo.map a.eval) (some (a.eval hi)) (some (a.eval mx))) hk (by simp only[execOp,ho];rfl) ⟨v',hr⟩
  |none=>
   obtain⟨v,hk,v',hr⟩:=slice_of m he h
   exact val (s:=Instr.sliceAt t (a.eval x) (lo.map a.eval) (hi.map a.eval) none) hk (by simp only[execOp,ho];rfl) ⟨v',hr⟩
 |build t parts=>
  obtain⟨v,hk,hr⟩:=build_of he h
  exact val hk (by simp only[execOp,ho]) hr
 |buildSlice t len parts=>
  obtain⟨v,b,hk,hm⟩:=buildSlice_of m he h
  exact mem hk (by simp only[execOp,ho]) hm
 |makeSlice t l c=>
  obtain⟨v,b,hk,hm⟩:=makeSlice_of m he h
  exact mem hk (by simp only[execOp,ho]) hm
 |makeInterface t x=>
  simp only[opR]at h
  split at h
  ·cases h
  ·rename_i dsc hni hu
   split at h
   ·cases h
   ·refine val (s:=Instr.makeInterface t (a.eval x)) h (by simp only[execOp,ho]) ⟨.iface t (a.eval x), ?_,by simp only[RV];exact⟨_,rfl,he x⟩⟩
    exact run_makeInterface w t _ (by unfold Program.concrete;rw[hu];cases dsc<;>first|rfl|exact absurd rfl (hni _))
  ·cases h
 |typeAssert x xt asserted ok=>
  cases ok with
  |true=>
   obtain⟨v,hk,hr⟩:=assertOk_of (he x) h
   exact val (s:=Instr.typeAssert (a.eval x) xt asserted true) hk (by simp only[execOp,ho]) hr
  |false=>
   simp only[opR]at h
   have hx:=he x
   split at h
   ·rename_i want t v hu hex
    rw[hex]at hx
    have hx0:=hx
    simp only[RV]at hx
    obtain⟨u,hxe,hv⟩:=hx
    split at h
    rotate_left
    ·cases h
    rename_i i hi
    have hti:=run_typeInfo (P:=E.P) (w:=w) hi
    cases hlk:lacks want i.methods with
    |true=>rw[hlk]at h;cases h
    |false=>
     rw[hlk,cond_false]at h
     have hms:=lacks_false hlk
     refine val (s:=Instr.typeAssert (a.eval x) xt asserted false) h (by simp only[execOp,ho]) ⟨a.eval x, ?_,hx0⟩
     rw[hxe]
     simp[Instr.typeAssert,run_underlying hu,hti,hms]
   ·cases h
   ·rename_i dsc t v hni hu hex
    rw[hex]at hx
    simp only[RV]at hx
    obtain⟨u,hxe,hv⟩:=hx
    cases hb:Nat.beq t asserted with
    |false=>rw[hb]at h;cases h
    |true=>
     rw[hb,cond_true]at h
     have e1:=Nat.eq_of_beq_eq_true hb
     subst e1
     refine val (s:=Instr.typeAssert (a.eval x) xt t false) h (by simp only[execOp,ho]) ⟨u, ?_,hv⟩
     rw[hxe]
     cases dsc<;>first|(exact absurd rfl (hni _);done)|simp[Instr.typeAssert,run_underlying hu]
   ·rename_i dsc c hni hu hex
    rw[hex]at hx
    obtain⟨κ,_,h⟩:=kdK_of h
    cases ha:aggIs E.P asserted κ.isAgg with
    |false=>rw[ha]at h;cases h
    |true=>
     rw[ha,cond_true]at h
     obtain⟨y,hy,h⟩:=Option.bind_eq_some_iff.1 h
     obtain⟨u',hxe,hu'⟩:=asT_of (ι:=ι) hy (RV_any.1 hx)
     refine val (s:=Instr.typeAssert (a.eval x) xt asserted false) h (by simp only[execOp,ho]) ⟨u', ?_,hu'⟩
     rw[hxe]
     cases dsc<;>first|(exact absurd rfl (hni _);done)|simp[Instr.typeAssert,run_underlying hu]
   ·cases h
 |makeFunc fn first caps=>
  cases fn with
  |func f=>
   simp only[opR]at h
   cases hc:(first.isEmpty&&aliveL (caps.toList.map e))with
   |false=>rw[hc]at h;cases h
   |true=>
    rw[hc,cond_true]at h
    simp only[Bool.and_eq_true]at hc
    refine val (s:=Instr.makeFunc (.func f) (first.map a.eval) (caps.map a.eval)) h (by simp only[execOp,ho]) ⟨_,rfl, ?_⟩
    have hfe:first= #[]:=Array.isEmpty_iff.1 hc.1
    simp only[RV]
    refine⟨caps.toList.map a.eval, ?_,RVs_map he _⟩
    have:(caps.toList.map a.eval).toArray=caps.map a.eval:=by apply Array.ext';simp
    rw[this,hfe,Array.map_empty]
  |method nm=>
   simp only[opR]at h
   split at h
   ·rename_i x hf hcp
    split at h
    ·rename_i ty g off hex
     have hx:=he x
     rw[hex]at hx
     simp only[RV]at hx
     obtain⟨u,hxe,_,rfl⟩:=hx
     have e1:first= #[x]:=by apply Array.ext';exact hf
     refine val (s:=Instr.makeFunc (.method nm) (first.map a.eval) (caps.map a.eval)) h (by simp only[execOp,ho]) ⟨_,rfl, ?_⟩
     simp only[RV]
     exact⟨_,_,by rw[e1];simp[hxe];exact⟨rfl,rfl⟩⟩
    ·rename_i ty u0 hex
     have hx:=he x
     rw[hex]at hx
     simp only[RV]at hx
     obtain⟨u,hxe,_⟩:=hx
     have e1:first= #[x]:=by apply Array.ext';exact hf
     refine val (s:=Instr.makeFunc (.method nm) (first.map a.eval) (caps.map a.eval)) h (by simp only[execOp,ho]) ⟨_,rfl, ?_⟩
     simp only[RV]
     exact⟨_,_,by rw[e1];simp[hxe];exact⟨rfl,rfl⟩⟩
    ·rename_i c0 hex
     have hx:=he x
     rw[hex,RV_any]at hx
     have e1:first= #[x]:=by apply Array.ext';exact hf
     refine val (s:=Instr.makeFunc (.method nm) (first.map a.eval) (caps.map a.eval)) h (by simp only[execOp,ho]) ⟨_,rfl, ?_⟩
     simp only[RV]
     exact⟨a.eval x,_,hx,by rw[e1];simp;rfl⟩
    ·cases h
   ·cases h
  |_=>simp[opR]at h
 |extract x i=>
  simp only[opR]at h
  have hx:=he x
  split at h
  ·rename_i vs hex
   rw[hex]at hx
   simp only[RV]at hx
   obtain⟨us,hxe,hvs⟩:=hx
   split at h
   ·cases h
   ·rename_i v hnd hv
    obtain⟨u,hu,hru⟩:=RVs_at hvs hv
    refine val (s:=Instr.extract (a.eval x) i) h (by simp only[execOp,ho]) ⟨u, ?_,hru⟩
    simp[hxe,Instr.extract,hu]
   ·cases h
  ·cases h
 |index t x i=>
  simp only[opR]at h
  have hx:=he x
  have hi:=he i
  split at h
  ·rename_i n el hat
   have hu:=arrT_of hat
   split at h
   ·rename_i κ k j hkd hei
    rw[hei,RV_int]at hi
    cases hc:(sizeB E.P el κ.size&&aggIs E.P el κ.isAgg&&(e x).isAgg&&κ.plain)with
    |false=>rw[hc]at h;cases h
    |true=>
     rw[hc,cond_true]at h
     simp only[Bool.and_eq_true]at hc
     obtain⟨⟨⟨hs,hag⟩,hxa⟩,hpl⟩:=hc
     obtain⟨inf,hinf,hsz⟩:=sizeB_of hs
     obtain⟨ys,hys,h⟩:=Option.bind_eq_some_iff.1 h
     obtain⟨y,hy,h⟩:=Option.bind_eq_some_iff.1 h
     obtain⟨h0,hlt,hy⟩:=nth_of hy
     obtain⟨vs,hxe,hcs⟩:∃vs:List Value,a.eval x= .agg vs.toArray∧RVs ι Fz w (e x).flat vs:=by
      generalize e x=ax at hx hxa
      cases ax<;>simp only[AV.isAgg]at hxa<;>first|(cases hxa;done)|skip
      ·rename_i κ' z
       cases κ'<;>simp only[AV.isAgg]at hxa<;>first|(cases hxa;done)|skip
       simp only[RV,Kd.isAgg,if_true]at hx
       obtain⟨vs,e1,hr⟩:=hx
       exact⟨vs.toList,by simpa using e1,flatD_of _ _ _ hr⟩
      ·simp only[RV]at hx
       obtain⟨vs,e1,_,hr⟩:=hx
       exact⟨vs,e1,hr⟩
     have hnm:∀h,mentL h (e x).flat=true→(getH H h).isArr→(ι h).virt=false→lent ι Fz H (ι h).blk:=fun h _ hl hv=> .inr ⟨h,isArr_live hl,hv,rfl⟩
     obtain⟨g1,g2,g3⟩:=chunks_of (H:=H) (Fz':=lent ι Fz H) m.rb (fun _ h=> .inl h) n _ ys vs hys hcs hnm
     have hp0:RP Fz w κ y _:=RP_plain κ y _ hpl (g3 _ y hy)
     have hjt:j.toNat<n:=g1▸hlt
     have hjn:j<n:=(Int.toNat_lt h0).1 hjt
     have hidx:j.toNat *κ.size+κ.size≤vs.length:=by
      rw[g2,←Nat.succ_mul];exact Nat.mul_le_mul_right _ hjt
     cases hka:κ.isAgg with
     |true=>
      rw[hka]at hag
      refine val (s:=Instr.index t (a.eval x) (a.eval i)) h (by simp only[execOp,ho]) ⟨.agg ((vs.drop (j.toNat *κ.size)).take κ.size).toArray, ?_,by simp only[RV,hka,if_true];exact⟨_,rfl,by simpa using hp0⟩⟩
      rw[hxe,hi]
      simp[Instr.index,asIntOf_int,run_underlying hu,h0,hjn,run_size hinf,run_part w hag hinf,List.extract_toArray,hsz]
     |false=>
      rw[hka]at hag
      have h1':κ.size=1:=by cases κ<;>simp_all [Kd.isAgg,Kd.size]
      rw[h1',Nat.mul_one]at hp0 hidx
      have hlt':j.toNat<vs.length:=by omega
      have hd:(vs.drop j.toNat).take 1=[vs[j.toNat]]:=by rw[List.drop_eq_getElem_cons hlt'];rfl
      rw[hd]at hp0
      refine val (s:=Instr.index t (a.eval x) (a.eval i)) h (by simp only[execOp,ho]) ⟨vs[j.toNat], ?_,by simpa only[RV,hka,Bool.false_eq_true,if_false]using hp0⟩
      rw[hxe,hi]
      have hcell:vs.toArray[j.toNat *inf.size]?=some vs[j.toNat]:=by rw[hsz,h1',Nat.mul_one];simp[hlt']
      simp[Instr.index,asIntOf_int,run_underlying hu,h0,hjn,run_size hinf,run_part_cell w hag hcell]
   ·cases h
  split at h
  ·rename_i bs k n hex hei
   rw[hex,RV_str]at hx
   rw[hei,RV_int]at hi
   split at h
   ·rename_i hu
    obtain⟨j,hj,h⟩:=Option.bind_eq_some_iff.1 h
    unfold chk at hj
    split at hj
    ·rename_i hb
     simp only[Option.some.injEq]at hj
     subst hj
     have hlt:n.toNat<bs.size:=by omega
     refine val h (by simp only[execOp,ho];rfl) ⟨.int .u8 (sbyte bs n.toNat), ?_,RV_int.2 rfl⟩
     rw[hx,hi]
     have hr:=run_index_string (P:=E.P) w t bs k n hu
     rw[hr,dif_pos hb]
     unfold sbyte
     rw[dif_pos hlt]
    ·cases hj
   ·cases h
  ·cases h
 |nilCheck x=>
  simp only[opR]at h
  have hx:=he x
  split at h
  ·rename_i g o' hex
   rw[hex]at hx
   have hx':=hx
   simp only[RV]at hx'
   obtain⟨_,hxe⟩:=hx'
   exact⟨_,none,h,fun _=>OpGives.val (v:=a.eval x) (by simp[execOp,ho,hxe]) (After.same m hx)⟩
  ·rename_i κ y hex
   rw[hex]at hx
   have hx':=hx
   simp only[RV]at hx'
   obtain⟨_,_,_,hxe,_⟩:=hx'
   exact⟨_,none,h,fun _=>OpGives.val (v:=a.eval x) (by simp[execOp,ho,hxe]) (After.same m hx)⟩
  ·rename_i κ g i hex
   rw[hex]at hx
   have hx':=hx
   simp only[RV]at hx'
   obtain⟨_,_,hxe⟩:=hx'
   exact⟨_,none,h,fun _=>OpGives.val (v:=a.eval x) (by simp[execOp,ho,hxe]) (After.same m hx)⟩
  ·rename_i f cs hex
   rw[hex]at hx
   have hx':=hx
   simp only[RV]at hx'
   obtain⟨_,hxe,_⟩:=hx'
   exact⟨_,none,h,fun _=>OpGives.val (v:=a.eval x) (by simp[execOp,ho,hxe]) (After.same m hx)⟩
  ·rename_i ty nm hex
   rw[hex]at hx
   have hx':=hx
   simp only[RV]at hx'
   obtain⟨ad,c,hxe⟩:=hx'
   cases hq:mthOk E.P ty nm with
   |false=>rw[hq]at h;cases h
   |true=>
    rw[hq,cond_true]at h
    refine⟨_,none,h,fun _=>OpGives.val (v:=a.eval x) ?_ (After.same m hx)⟩
    simp[execOp,ho,hxe,run_nilAhead hq]
  ·rename_i c nm hex
   rw[hex]at hx
   have hx':=hx
   simp only[RV]at hx'
   obtain⟨u,k,hu,hxe⟩:=hx'
   obtain⟨_,hq,h⟩:=Option.bind_eq_some_iff.1 h
   obtain⟨ty,u',rfl,hq⟩:=mfD_of hu _ hq
   refine⟨_,none,h,fun _=>OpGives.val (v:=a.eval x) ?_ (After.same m hx)⟩
   simp[execOp,ho,hxe,run_nilAhead hq]
  ·rename_i c hex
   rw[hex]at hx
   obtain⟨b,hb,h⟩:=Option.bind_eq_some_iff.1 h
   rcases isNilp_of hb (RV_any.1 hx)with⟨rfl,_⟩|⟨rfl,ad,hxe⟩
   ·cases h
   ·exact⟨_,none,h,fun _=>OpGives.val (v:=a.eval x) (by simp[execOp,ho,hxe]) (After.same m hx)⟩
  ·cases h
 |call c=>
  obtain⟨callee,args,ts⟩:=c
  cases callee with
  |value f=>
   obtain⟨v,hk,hg⟩:=call_of hΓ m he ho h
   exact⟨v,none,hk,fun _=>hg⟩
  |invoke f nm=>
   obtain⟨v,hk,hg⟩:=callI_of hΓ m he ho h
   exact⟨v,none,hk,fun _=>hg⟩
  |builtin b=>
   cases b<;>first|(simp[opR]at h;done)|skip
   case cap=>
    simp only[opR]at h
    split at h
    ·rename_i x t hax hat
     have hargs:args= #[x]:=by apply Array.ext';simpa using hax
     have hts:ts= #[t]:=by apply Array.ext';simpa using hat
     subst hargs hts
     have hx:=he x
     split at h
     ·rename_i el hex hu
      rw[hex]at hx
      simp only[RV]at hx
      refine⟨_,none,h,fun _=>OpGives.val (v:=goInt 0) ?_ (After.same m (by rw[RV_int];rfl))⟩
      simp[execOp,ho,resolve,invoke,builtin,Builtin.cap_,hx,run_underlying hu]
     ·cases h
    ·cases h
   case max=>
    simp only[opR]at h
    split at h
    ·rename_i x y hax
     have hargs:args= #[x,y]:=by apply Array.ext';simpa using hax
     subst hargs
     obtain⟨v,hk,v',hr,hv⟩:=mmV_of (P:=E.P) (he x) (he y) h
     simp only[cond_true]at hr
     refine⟨v,none,hk,fun _=>OpGives.val (v:=v') ?_ (After.same m hv)⟩
     simp[execOp,ho,resolve,invoke,builtin,Builtin.max_,hr]
    ·rename_i x y z hax
     have hargs:args= #[x,y,z]:=by apply Array.ext';simpa using hax
     subst hargs
     obtain⟨v,hk,v',hr,hv⟩:=mmV_of (P:=E.P) (he x) (he y) h
     obtain⟨u,hk2,u',hr2,hv2⟩:=mmV_of (P:=E.P) hv (he z) hk
     simp only[cond_true]at hr hr2
     refine⟨u,none,hk2,fun _=>OpGives.val (v:=u') ?_ (After.same m hv2)⟩
     simp[execOp,ho,resolve,invoke,builtin,Builtin.max_,hr,hr2]
    ·cases h
   case min=>
    simp only[opR]at h
    split at h
    ·rename_i x y hax
     have hargs:args= #[x,y]:=by apply Array.ext';simpa using hax
     subst hargs
     obtain⟨v,hk,v',hr,hv⟩:=mmV_of (P:=E.P) (he x) (he y) h
     simp only[cond_false]at hr
     refine⟨v,none,hk,fun _=>OpGives.val (v:=v') ?_ (After.same m hv)⟩
     simp[execOp,ho,resolve,invoke,builtin,Builtin.min_,hr]
    ·rename_i x y z hax
     have hargs:args= #[x,y,z]:=by apply Array.ext';simpa using hax
     subst hargs
     obtain⟨v,hk,v',hr,hv⟩:=mmV_of (P:=E.P) (he x) (he y) h
     obtain⟨u,hk2,u',hr2,hv2⟩:=mmV_of (P:=E.P) hv (he z) hk
     simp only[cond_false]at hr hr2
     refine⟨u,none,hk2,fun _=>OpGives.val (v:=u') ?_ (After.same m hv2)⟩
     simp[execOp,ho,resolve,invoke,builtin,Builtin.min_,hr,hr2]
    ·cases h
   simp only[opR]at h
   split at h
   ·rename_i x t hax hat
    have hargs:args= #[x]:=by apply Array.ext';simpa using hax
    have hts:ts= #[t]:=by apply Array.ext';simpa using hat
    subst hargs hts
    have hx:=he x
    have fin:∀{v:AV} {n:Nat},K v none=some r→(Builtin.len_ #[t] o.type #[a.eval x]).run E.P w= .ok (goInt n) w→v= .pv (.int .i64) (n:Int)→
     ∃v ob,K v ob=some r∧((∀b,ob=some b→AB.okN d b)→OpGives E.P o a w (After w0 Fz0 ι Fz H w d v ob)):=by
     intro v n hk hr hv
     refine⟨v,none,hk,fun _=>OpGives.val (v:=goInt n) ?_ (After.same m (by rw[hv,RV_int];rfl))⟩
     simp[execOp,ho,resolve,invoke,builtin,hr]
    split at h
    ·rename_i κ xs el hex hu
     rw[hex]at hx
     simp only[RV,Kd.isAgg,Bool.false_eq_true,if_false,RP]at hx
     obtain⟨_,e1,b,c,hxe,_⟩:=hx
     simp only[List.cons.injEq,and_true]at e1
     subst e1
     exact fin h (by rw[hxe];simp[Builtin.len_,run_underlying hu]) rfl
    ·rename_i κ o' el hex hu
     rw[hex]at hx
     simp only[RV,Kd.isAgg,Bool.false_eq_true,if_false,RP]at hx
     obtain⟨_,e1,hx⟩:=hx
     simp only[List.cons.injEq,and_true]at e1
     subst e1
     rcases hx with⟨rfl,hxe⟩|⟨xs,rfl,⟨b,c,hxe,_⟩,_⟩
     ·exact fin h (by rw[hxe];simp[Builtin.len_,run_underlying hu]) rfl
     ·exact fin h (by rw[hxe];simp[Builtin.len_,run_underlying hu]) rfl
    ·rename_i κ g el hex hu
     rw[hex]at hx
     have hrb:=m.rb g
     split at h
     ·rename_i el' κ' xs hb
      rw[hb]at hrb
      simp only[RB]at hrb
      simp only[RV]at hx
      rcases hx with⟨hv,hxe⟩|⟨hv,hxe⟩
      ·rcases hrb.2 with⟨_,e⟩|⟨e,_⟩
       ·refine fin (n:=0) h (by rw[hxe];simp[Builtin.len_,run_underlying hu]) (by rw[e];rfl)
       ·rw[hv]at e;cases e
      ·exact fin (n:=(ι g).len) h (by rw[hxe];simp[Builtin.len_,run_underlying hu]) (by rw[hrb.1])
     ·cases h
    ·rename_i κ g off len el hex hu
     rw[hex]at hx
     simp only[RV]at hx
     obtain⟨_,hx⟩:=hx
     rcases hx with⟨rfl,b,c,hxe,_⟩|⟨_,c,hxe,_⟩
     ·exact fin (n:=0) h (by rw[hxe];simp[Builtin.len_,run_underlying hu]) rfl
     ·exact fin (n:=len) h (by rw[hxe];simp[Builtin.len_,run_underlying hu]) rfl
    ·rename_i el hex hu
     rw[hex]at hx
     simp only[RV]at hx
     exact fin (n:=0) h (by rw[hx];simp[Builtin.len_,run_underlying hu]) rfl
    ·rename_i g n el hex hu
     rw[hex]at hx
     simp only[RV]at hx
     exact fin (n:=n) h (by rw[hx.2];simp[Builtin.len_,run_underlying hu]) rfl
    ·rename_i s hex hu
     rw[hex,RV_str]at hx
     exact fin (n:=s.size) h (by rw[hx];simp[Builtin.len_,run_underlying hu]) rfl
    ·cases h
   ·cases h
 |_=>simp[opR]at h
end
end Go.Av
namespace Go.Av
open Go Go.RowKit
def RIo(i:HI)(v:Value):Prop:=(i.virt=true∧v= .slice none 0 0)∨(i.virt=false∧v= .slice (some ⟨i.blk,0,none⟩) i.len i.cap)
mutual
def RS(pi:Nat→HI)(Fz:Nat→Prop)(w:World):(s:Sh)→ShD s→Value→List HI→Prop
 | .k κ,x,v,os=>os=[]∧RV ι0 Fz w (.pv κ x) v
 | .tr,x,v,os=>os=[]∧RV ι0 Fz w (.pv .any x) v
 | .row e κ,xs,v,os=>∃i:HI,os=[i]∧RIo i v∧RB (fun _=>i) Fz w 0 (.arr e κ xs)∧(i.virt=true→i.blk=0∧i.cap=0)
 | .krow k e κ,xs,v,os=>∃i:HI,os=[i]∧i=pi k∧RIo i v∧RB (fun _=>i) Fz w 0 (.arr e κ xs)∧(i.virt=true→i.blk=0∧i.cap=0)
 | .parw k κ,_,v,os=>os=[]∧RIo (pi k) v
 | .sub e κ,d,v,os=>∃i:HI,os=[i]∧(d.2.1+d.2.2≤i.len∧((d.2.2=0∧∃a c,v= .slice a 0 c∧(d.2.1=0→i.virt=false→a=some ⟨i.blk,0,none⟩∧c=i.cap))∨(i.virt=false∧∃c,v= .slice (some ⟨i.blk,d.2.1*κ.size,none⟩) d.2.2 c∧d.2.2≤c∧d.2.1+c=i.cap)))∧RB (fun _=>i) Fz w 0 (.arr e κ d.1)∧(i.virt=true→i.blk=0∧i.cap=0)
 | .box cs,d,v,os=>∃(i:HI) (r:List HI) (vs:List Value) (T:TypeId),os=i::r∧i.virt=false∧i.len=0∧i.cap=0∧v= .pointer (some ⟨i.blk,0,none⟩)∧
  (∃rest:List Value,w.heap[i.blk]?=some (.cells (vs++rest).toArray T (0,0)))∧(∀u∈vs,u.oneCell'=true)∧RSs pi Fz w cs d vs r
 | .bsl cs,d,v,os=>∃(i:HI) (r:List HI) (vs:List Value) (T:TypeId),os=i::r∧i.virt=false∧i.len=0∧i.cap=0∧v= .slice (some ⟨i.blk,0,none⟩) cs.length cs.length∧
  (∃rest:List Value,w.heap[i.blk]?=some (.cells (vs++rest).toArray T (0,0)))∧(∀u∈vs,u.oneCell'=true)∧RSs pi Fz w cs d vs r
 | .agg cs,d,v,os=>∃vs:List Value,v= .agg vs.toArray∧(∀u∈vs,u.oneCell'=true)∧RSs pi Fz w cs d vs os
 | .ifc t s,d,v,os=>∃u,v= .iface t u∧RS pi Fz w s d u os
 | .fn f cs,d,v,os=>∃vs:List Value,v= .func (.func f) #[] vs.toArray∧RSs pi Fz w cs d vs os
 | .lref κ,x,v,os=>os=[]∧RV ι0 Fz w (.eref κ x) v
 | .nilp,_,v,os=>os=[]∧v= .pointer none
 | .nili,_,v,os=>os=[]∧v= .nilIface
 | .nilf,_,v,os=>os=[]∧v= .nilFunc
 | .nan,_,v,os=>os=[]∧∃n,v= .float .f64 n∧NanB n
 | .ep g,_,v,os=>os=[]∧RV ι0 Fz w (.ep g) v
 | .snil,_,v,os=>os=[]∧v= .slice none 0 0
 | .par i,_,v,os=>os=[]∧(pi i).virt=false∧v= .pointer (some ⟨(pi i).blk,0,none⟩)
def RSs(pi:Nat→HI)(Fz:Nat→Prop)(w:World):(ss:List Sh)→ShDs ss→List Value→List HI→Prop
 |[],_,vs,os=>vs=[]∧os=[]
 |s::r,d,vs,os=>∃v q o1 o2,vs=v::q∧os=o1++o2∧RS pi Fz w s d.1 v o1∧RSs pi Fz w r d.2 q o2
end
mutual
theorem RS_cnt{pi:Nat→HI}{Fz:Nat→Prop}{w:World}:∀(s:Sh) (x:ShD s) (v:Value) (os:List HI),RS pi Fz w s x v os→os.length=s.cnt
 | .k κ,x,v,os,h=>by simp only[RS]at h;rw[h.1];rfl
 | .tr,x,v,os,h=>by simp only[RS]at h;rw[h.1];rfl
 | .row e κ,xs,v,os,h=>by simp only[RS]at h;obtain⟨i,rfl,_⟩:=h;rfl
 | .sub e κ,xs,v,os,h=>by simp only[RS]at h;obtain⟨i,rfl,_⟩:=h;rfl
 | .krow _ e κ,xs,v,os,h=>by simp only[RS]at h;obtain⟨i,rfl,_⟩:=h;rfl
 | .parw _ _,_,v,os,h=>by simp only[RS]at h;rw[h.1];rfl
 | .box cs,d,v,os,h=>by
  simp only[RS]at h
  obtain⟨i,r,vs,T,rfl,_,_,_,_,_,_,h⟩:=h
  simp only[Sh.cnt,List.length_cons];rw[RSs_cnt cs d vs r h]
 | .bsl cs,d,v,os,h=>by
  simp only[RS]at h
  obtain⟨i,r,vs,T,rfl,_,_,_,_,_,_,h⟩:=h
  simp only[Sh.cnt,List.length_cons];rw[RSs_cnt cs d vs r h]
 | .agg cs,d,v,os,h=>by simp only[RS]at h;obtain⟨vs,_,_,h⟩:=h;simp only[Sh.cnt];exact RSs_cnt cs d vs os h
 | .ifc t s,d,v,os,h=>by simp only[RS]at h;obtain⟨u,_,h⟩:=h;simp only[Sh.cnt];exact RS_cnt s d u os h
 | .fn f cs,d,v,os,h=>by simp only[RS]at h;obtain⟨vs,_,h⟩:=h;simp only[Sh.cnt];exact RSs_cnt cs d vs os h
 | .lref κ,x,v,os,h=>by simp only[RS]at h;rw[h.1];rfl
 | .nilp,_,v,os,h=>by simp only[RS]at h;rw[h.1];rfl
 | .nili,_,v,os,h=>by simp only[RS]at h;rw[h.1];rfl
 | .nilf,_,v,os,h=>by simp only[RS]at h;rw[h.1];rfl
 | .nan,_,v,os,h=>by simp only[RS]at h;rw[h.1];rfl
 | .ep _,_,v,os,h=>by simp only[RS]at h;rw[h.1];rfl
 | .snil,_,v,os,h=>by simp only[RS]at h;rw[h.1];rfl
 | .par i,_,v,os,h=>by simp only[RS]at h;rw[h.1];rfl
theorem RSs_cnt{pi:Nat→HI}{Fz:Nat→Prop}{w:World}:∀(ss:List Sh) (x:ShDs ss) (vs:List Value) (os:List HI),RSs pi Fz w ss x vs os→os.length=cnts ss
 |[],_,vs,os,h=>by simp only[RSs]at h;rw[h.2];rfl
 |s::r,d,vs,os,h=>by
  simp only[RSs]at h
  obtain⟨v,q,o1,o2,rfl,rfl,h1,h2⟩:=h
  simp only[cnts,List.length_append];rw[RS_cnt s _ _ _ h1,RSs_cnt r _ _ _ h2]
end
def hiOf(ι:Nat→HI):Option Nat→HI
 |some h=>ι h
 |none=>⟨0,0,0,true⟩
theorem someN_append:∀(a b:List (Option Nat)),someN (a++b)=someN a++someN b
 |[],b=>rfl
 |some n::a,b=>by simp only[List.cons_append,someN];rw[someN_append a b]
 |none::a,b=>by simp only[List.cons_append,someN];rw[someN_append a b]
theorem mentL_append:∀(a b:List AV) (h:Nat),mentL h (a++b)=(mentL h a||mentL h b)
 |[],b,h=>by simp[mentL]
 |v::a,b,h=>by simp only[List.cons_append,mentL,mentL_append a b h,Bool.or_assoc]
section
variable {ι:Nat→HI} {Fz Fz':Nat→Prop} {w:World} {H:List (Nat×AB)}
theorem RB_at{Fz:Nat→Prop}{h k:Nat}{e:TypeId}{κ:Kd}{xs:List (Den κ)}{i:HI}(hi:ι h=i):RB ι Fz w h (.arr e κ xs)↔RB (fun _=>i) Fz w k (.arr e κ xs):=by
 simp only[RB,hi]
theorem RB_cast{h:Nat}{e:TypeId}{κ κ':Kd}{xs:List (Den κ')}{ys:List (Den κ)}(hc:castD (.list κ') (.list κ) xs=some ys)(hr:RB ι Fz w h (.arr e κ' xs)):RB ι Fz w h (.arr e κ ys):=by
 unfold castD at hc
 split at hc
 ·rename_i e1
  simp only[Kd.list.injEq]at e1
  subst e1
  simp only[Option.some.injEq]at hc
  subst hc
  exact hr
 ·cases hc
theorem matchShs_len{H:List (Nat×AB)}:∀(ss:List Sh) (vs:List AV) (p:ShDs ss×List (Option Nat)×List AV),matchShs H ss vs=some p→ss.length=vs.length
 |[],[],_,_=>rfl
 |[],_::_,_,h=>by simp[matchShs]at h
 |_::_,[],_,h=>by simp[matchShs]at h
 |s::r,v::vs,p,h=>by
  simp only[matchShs,Option.bind_eq_some_iff]at h
  obtain⟨_,_,q,h2,_⟩:=h
  simp only[List.length_cons]
  rw[matchShs_len r vs q h2]
theorem tr_ment1{d k:Nat}{v:AV}(h:v.ment k=true):mentL k (boxL H (d+1) [v])=true:=by
 simp only[boxL]
 exact mentL_left (by simp[mentL,h])
theorem tr_ment2{d k g:Nat}{v:AV}(hv:∃o,v= .ref g o∨∃t,v= .iface t (.ref g o))(h:mentL k (.ref g 0::(match getH H g with| .box cs=>boxL H d cs|_=>[]))=true):mentL k (boxL H (d+1) [v])=true:=by
 simp only[mentL,Bool.or_eq_true]at h
 simp only[boxL]
 rcases h with h|h
 ·refine mentL_left (mentL_mem (a:=v) (by simp) ?_)
  obtain⟨o,rfl|⟨t,rfl⟩⟩:=hv<;>simpa[AV.ment]using h
 ·refine mentL_right (mentL_flat (a:=v) (by simp) ?_)
  obtain⟨o,rfl|⟨t,rfl⟩⟩:=hv
  ·exact h
  ·exact h
theorem boxC_live{d g:Nat}{c:Ce}(h:boxC H d g=some c):(getH H g).live:=by
 cases d with
 |zero=>simp[boxC]at h
 |succ d=>
  simp only[boxC]at h
  split at h
  ·rename_i hq;rw[hq];trivial
  ·cases h
mutual
theorem matchSh_of(hrb:∀h,RB ι Fz w h (getH H h))(hcn:∀h,Cn (ι h) (getH H h))(hf:∀b,Fz b→Fz' b):
 ∀(s:Sh) (v:AV) (x:ShD s) (os:List (Option Nat)) (ls:List AV) (u:Value),matchSh H s v=some (x,os,ls)→RV ι Fz w v u→
 (∀h,mentL h ls=true→(getH H h).live→(ι h).virt=false→Fz' (ι h).blk)→
 RS (fun i=>ι (1000000+i)) Fz' w s x u (os.map (hiOf ι))∧∀h∈someN os,(getH H h).live
 | .k κ,v,x,os,ls,u,h,hr,hl=>by
  simp only[matchSh,Option.bind_eq_some_iff,Option.some.injEq,Prod.mk.injEq]at h
  obtain⟨y,h1,rfl,rfl,rfl⟩:=h
  simp only[RS,List.map_nil]
  exact⟨⟨trivial,argD_of hrb hf h1 hr fun h hm ha=>hl h (by simp[mentL,hm]) (isArr_live ha)⟩,fun h hh=>by simp[someN]at hh⟩
 | .tr,v,x,os,ls,u,h,hr,hl=>by
  simp only[matchSh,Option.bind_eq_some_iff,Option.some.injEq,Prod.mk.injEq]at h
  obtain⟨c,h1,rfl,rfl,rfl⟩:=h
  simp only[RS,List.map_nil]
  refine⟨⟨trivial, ?_⟩,fun h hh=>by simp[someN]at hh⟩
  rw[RV_any]
  exact cev_of hrb hf (boxC H 9) v c u h1 hr (fun k hk ha=>hl k (tr_ment1 hk) (isArr_live ha))
   (fun k c' hk hbc hkv=>boxC_of hrb hf 9 k c' hbc hkv (boxC_live hbc) fun q hq=>hl q (tr_ment2 hk hq))
 | .krow i e κ,v,x,os,ls,u,h,hr,hl=>by
  simp only[matchSh]at h
  split at h
  ·rename_i κ0 g
   split at h
   ·rename_i e' κ' xs hg
    cases he:(Nat.beq g (1000000+i)&&Nat.beq e e')with
    |false=>rw[he]at h;cases h
    |true=>
     rw[he,cond_true]at h
     simp only[Bool.and_eq_true]at he
     have e0:=Nat.eq_of_beq_eq_true he.1
     have e1:=Nat.eq_of_beq_eq_true he.2
     subst e1
     simp only[Option.bind_eq_some_iff,Option.some.injEq,Prod.mk.injEq]at h
     obtain⟨ys,h1,rfl,rfl,rfl⟩:=h
     simp only[RV]at hr
     have hb:=hrb g
     have hc:=hcn g
     rw[hg]at hb hc
     simp only[RS,List.map_cons,List.map_nil,hiOf]
     refine⟨⟨ι g,rfl,by rw[e0],hr, ?_,hc⟩,fun h hh=> ?_⟩
     ·refine(RB_at (ι:=ι) (h:=g) rfl).1 (RB_cast h1 ?_)
      exact RB_mono (ι:=ι) (fun _ _=>rfl) hf (fun _ _=>rfl) hb
     ·simp only[someN,List.mem_singleton]at hh
      subst hh;rw[hg];trivial
   ·cases h
  ·cases h
 | .parw i κ,v,x,os,ls,u,h,hr,hl=>by
  simp only[matchSh]at h
  split at h
  ·rename_i κ0 g
   cases he:(Nat.beq g (1000000+i)&&decide (κ0=κ))with
   |false=>rw[he]at h;cases h
   |true=>
    rw[he,cond_true]at h
    simp only[Bool.and_eq_true]at he
    have e0:=Nat.eq_of_beq_eq_true he.1
    simp only[Option.some.injEq,Prod.mk.injEq]at h
    obtain⟨_,rfl,rfl⟩:=h
    simp only[RV]at hr
    simp only[RS,List.map_nil]
    exact⟨⟨trivial,by rw[←e0];exact hr⟩,fun h hh=>by simp[someN]at hh⟩
  ·cases h
 | .sub e κ,v,x,os,ls,u,h,hr,hl=>by
  simp only[matchSh]at h
  split at h
  ·rename_i κ0 g off len
   split at h
   ·rename_i e' κ' xs hg
    cases he:(Nat.beq e e'&&decide (κ0=κ))with
    |false=>rw[he]at h;cases h
    |true=>
     rw[he,cond_true]at h
     simp only[Bool.and_eq_true,decide_eq_true_eq]at he
     obtain⟨he,rfl⟩:=he
     have e1:=Nat.eq_of_beq_eq_true he
     subst e1
     simp only[Option.bind_eq_some_iff,Option.some.injEq,Prod.mk.injEq]at h
     obtain⟨ys,h1,rfl,rfl,rfl⟩:=h
     simp only[RV]at hr
     have hb:=hrb g
     have hc:=hcn g
     rw[hg]at hb hc
     simp only[RS,List.map_cons,List.map_nil,hiOf]
     refine⟨⟨ι g,rfl,hr, ?_,hc⟩,fun h hh=> ?_⟩
     ·refine(RB_at (ι:=ι) (h:=g) rfl).1 (RB_cast h1 ?_)
      exact RB_mono (ι:=ι) (fun _ _=>rfl) hf (fun _ _=>rfl) hb
     ·simp only[someN,List.mem_singleton]at hh
      subst hh;rw[hg];trivial
   ·cases h
  ·cases h
 | .row e κ,v,x,os,ls,u,h,hr,hl=>by
  simp only[matchSh]at h
  split at h
  ·rename_i κ0 g
   split at h
   ·rename_i e' κ' xs hg
    cases he:Nat.beq e e' with
    |false=>rw[he]at h;cases h
    |true=>
     rw[he,cond_true]at h
     have e1:=Nat.eq_of_beq_eq_true he
     subst e1
     simp only[Option.bind_eq_some_iff,Option.some.injEq,Prod.mk.injEq]at h
     obtain⟨ys,h1,rfl,rfl,rfl⟩:=h
     simp only[RV]at hr
     have hb:=hrb g
     have hc:=hcn g
     rw[hg]at hb hc
     simp only[RS,List.map_cons,List.map_nil,hiOf]
     refine⟨⟨ι g,rfl,hr, ?_,hc⟩,fun h hh=> ?_⟩
     ·refine(RB_at (ι:=ι) (h:=g) rfl).1 (RB_cast h1 ?_)
      exact RB_mono (ι:=ι) (fun _ _=>rfl) hf (fun _ _=>rfl) hb
     ·simp only[someN,List.mem_singleton]at hh
      subst hh;rw[hg];trivial
   ·cases h
  ·simp only[Option.some.injEq,Prod.mk.injEq]at h
   obtain⟨rfl,rfl,rfl⟩:=h
   simp only[RV]at hr
   simp only[RS,List.map_cons,List.map_nil,hiOf]
   exact⟨⟨_,rfl, .inl ⟨rfl,hr⟩,by simp[RB],fun _=>⟨rfl,rfl⟩⟩,fun h hh=>by simp[someN]at hh⟩
  ·cases h
 | .box cs,v,x,os,ls,u,h,hr,hl=>by
  simp only[matchSh]at h
  split at h
  ·rename_i g off
   split at h
   ·rename_i avs hg
    cases ho:Nat.beq off 0 with
    |false=>rw[ho]at h;cases h
    |true=>
     rw[ho,cond_true]at h
     have e1:=Nat.eq_of_beq_eq_true ho
     subst e1
     simp only[Option.bind_eq_some_iff,Option.some.injEq,Prod.mk.injEq]at h
     obtain⟨⟨d,o1,l1⟩,h1,rfl,rfl,rfl⟩:=h
     simp only[RV]at hr
     have hb:=hrb g
     have hc:=hcn g
     rw[hg]at hb hc
     simp only[RB]at hb
     obtain⟨hv,vs,T,hh,hcs,hone⟩:=hb
     obtain⟨q1,q2⟩:=matchShs_of hrb hcn hf cs avs d o1 l1 vs h1 hcs hl
     simp only[RS,List.map_cons,hiOf]
     refine⟨⟨ι g,_,vs,T,rfl,hv,hc.1,hc.2,hr.2,hh,hone,q1⟩,fun h hh=> ?_⟩
     simp only[someN,List.mem_cons]at hh
     rcases hh with rfl|hh
     ·rw[hg];trivial
     ·exact q2 h hh
   ·cases h
  ·cases h
 | .bsl cs,v,x,os,ls,u,h,hr,hl=>by
  simp only[matchSh]at h
  split at h
  ·rename_i g n
   split at h
   ·rename_i avs hg
    cases ho:Nat.beq n avs.length with
    |false=>rw[ho]at h;cases h
    |true=>
     rw[ho,cond_true]at h
     have e1:=Nat.eq_of_beq_eq_true ho
     subst e1
     simp only[Option.bind_eq_some_iff,Option.some.injEq,Prod.mk.injEq]at h
     obtain⟨⟨d,o1,l1⟩,h1,rfl,rfl,rfl⟩:=h
     simp only[RV]at hr
     have hb:=hrb g
     have hc:=hcn g
     rw[hg]at hb hc
     simp only[RB]at hb
     obtain⟨hv,vs,T,hh,hcs,hone⟩:=hb
     have hlen:=matchShs_len cs avs _ h1
     obtain⟨q1,q2⟩:=matchShs_of hrb hcn hf cs avs d o1 l1 vs h1 hcs hl
     simp only[RS,List.map_cons,hiOf]
     refine⟨⟨ι g,_,vs,T,rfl,hv,hc.1,hc.2,by rw[hlen];exact hr.2,hh,hone,q1⟩,fun h hh=> ?_⟩
     simp only[someN,List.mem_cons]at hh
     rcases hh with rfl|hh
     ·rw[hg];trivial
     ·exact q2 h hh
   ·cases h
  ·cases h
 | .agg cs,v,x,os,ls,u,h,hr,hl=>by
  simp only[matchSh]at h
  split at h
  ·simp only[RV]at hr
   obtain⟨vs,e,h1,h2⟩:=hr
   obtain⟨q1,q2⟩:=matchShs_of hrb hcn hf cs _ x os ls vs h h2 hl
   simp only[RS]
   exact⟨⟨vs,e,h1,q1⟩,q2⟩
  ·cases h
 | .ifc t s,v,x,os,ls,u,h,hr,hl=>by
  simp only[matchSh]at h
  split at h
  ·rename_i t' y
   cases ht:Nat.beq t t' with
   |false=>rw[ht]at h;cases h
   |true=>
    rw[ht,cond_true]at h
    have e1:=Nat.eq_of_beq_eq_true ht
    subst e1
    simp only[RV]at hr
    obtain⟨z,e,h2⟩:=hr
    obtain⟨q1,q2⟩:=matchSh_of hrb hcn hf s _ x os ls z h h2 hl
    simp only[RS]
    exact⟨⟨z,e,q1⟩,q2⟩
  ·cases h
 | .fn f cs,v,x,os,ls,u,h,hr,hl=>by
  simp only[matchSh]at h
  split at h
  ·rename_i g caps
   cases ht:Nat.beq f g with
   |false=>rw[ht]at h;cases h
   |true=>
    rw[ht,cond_true]at h
    have e1:=Nat.eq_of_beq_eq_true ht
    subst e1
    simp only[RV]at hr
    obtain⟨vs,e,h2⟩:=hr
    obtain⟨q1,q2⟩:=matchShs_of hrb hcn hf cs _ x os ls vs h h2 hl
    simp only[RS]
    exact⟨⟨vs,e,q1⟩,q2⟩
  ·cases h
 | .lref κ,v,x,os,ls,u,h,hr,hl=>by
  simp only[matchSh]at h
  split at h
  ·simp only[Option.bind_eq_some_iff,Option.some.injEq,Prod.mk.injEq]at h
   obtain⟨y,h1,rfl,rfl,rfl⟩:=h
   simp only[RS,List.map_nil]
   refine⟨⟨trivial, ?_⟩,fun h hh=>by simp[someN]at hh⟩
   simp only[RV]at hr⊢
   obtain⟨b,off,es,e,hb,h2,h3⟩:=hr
   exact⟨b,off,es,e,hf _ hb,RP_mono (fun _ _=>rfl) hf _ _ _ (castD_of h1 h2),h3⟩
  ·rename_i g off
   split at h
   ·rename_i avs hg
    cases ho:Nat.beq off 0 with
    |false=>rw[ho]at h;cases h
    |true=>
     rw[ho,cond_true]at h
     have e1:=Nat.eq_of_beq_eq_true ho
     subst e1
     obtain⟨⟨y,rest⟩,h1,h2⟩:=Option.bind_eq_some_iff.1 h
     cases rest with
     |cons c0 r0=>simp at h2
     |nil=>
      simp only[Option.some.injEq,Prod.mk.injEq]at h2
      obtain⟨rfl,rfl,rfl⟩:=h2
      simp only[RV]at hr
      have hb:=hrb g
      rw[hg]at hb
      simp only[RB]at hb
      obtain⟨hv,vs,T,⟨rest',hh⟩,hcs,hone⟩:=hb
      obtain⟨v1,v2,e2,h3,h4,_⟩:=cellsD_of hrb hf κ avs _ _ vs h1 hcs (fun h hm ha=>hl h (by simp[mentL,hm]) (isArr_live ha))
      simp only[RVs]at h4
      subst h4
      rw[List.append_nil]at e2
      subst e2
      simp only[RS,List.map_nil]
      refine⟨⟨trivial, ?_⟩,fun h hh=>by simp[someN]at hh⟩
      simp only[RV]
      refine⟨_,_,_,hr.2,hl g (by simp[mentL,AV.ment]) (by rw[hg];trivial) hv,h3,fun j u hj=> ?_⟩
      have hjl:=(List.getElem?_eq_some_iff.1 hj).1
      simp only[World.cell?,hh]
      simpa[List.getElem?_append_left hjl]using hj
   ·cases h
  ·cases h
 | .nilp,v,x,os,ls,u,h,hr,hl=>by
  simp only[matchSh]at h
  split at h
  ·simp only[Option.some.injEq,Prod.mk.injEq]at h
   obtain⟨_,rfl,rfl⟩:=h
   simp only[RV]at hr
   simp only[RS,List.map_nil]
   exact⟨⟨trivial,hr⟩,fun h hh=>by simp[someN]at hh⟩
  ·cases h
 | .nili,v,x,os,ls,u,h,hr,hl=>by
  simp only[matchSh]at h
  split at h
  ·simp only[Option.some.injEq,Prod.mk.injEq]at h
   obtain⟨_,rfl,rfl⟩:=h
   simp only[RV]at hr
   simp only[RS,List.map_nil]
   exact⟨⟨trivial,hr⟩,fun h hh=>by simp[someN]at hh⟩
  ·cases h
 | .nilf,v,x,os,ls,u,h,hr,hl=>by
  simp only[matchSh]at h
  split at h
  ·simp only[Option.some.injEq,Prod.mk.injEq]at h
   obtain⟨_,rfl,rfl⟩:=h
   simp only[RV]at hr
   simp only[RS,List.map_nil]
   exact⟨⟨trivial,hr⟩,fun h hh=>by simp[someN]at hh⟩
  ·cases h
 | .nan,v,x,os,ls,u,h,hr,hl=>by
  simp only[matchSh]at h
  split at h
  ·simp only[Option.some.injEq,Prod.mk.injEq]at h
   obtain⟨_,rfl,rfl⟩:=h
   simp only[RV]at hr
   simp only[RS,List.map_nil]
   exact⟨⟨trivial,hr⟩,fun h hh=>by simp[someN]at hh⟩
  ·cases h
 | .ep g,v,x,os,ls,u,h,hr,hl=>by
  simp only[matchSh]at h
  split at h
  ·rename_i g'
   cases hb:Nat.beq g g' with
   |false=>rw[hb]at h;cases h
   |true=>
    rw[hb,cond_true]at h
    have e:=Nat.eq_of_beq_eq_true hb
    subst e
    simp only[Option.some.injEq,Prod.mk.injEq]at h
    obtain⟨_,rfl,rfl⟩:=h
    simp only[RV]at hr
    simp only[RS,List.map_nil,RV]
    obtain⟨ta,aa,q1,q2,q3⟩:=hr
    exact⟨⟨trivial,ta,aa,q1,hf _ q2,q3⟩,fun h hh=>by simp[someN]at hh⟩
  ·cases h
 | .snil,v,x,os,ls,u,h,hr,hl=>by
  simp only[matchSh]at h
  split at h
  ·simp only[Option.some.injEq,Prod.mk.injEq]at h
   obtain⟨_,rfl,rfl⟩:=h
   simp only[RV]at hr
   simp only[RS,List.map_nil]
   exact⟨⟨trivial,hr⟩,fun h hh=>by simp[someN]at hh⟩
  ·cases h
 | .par i,v,x,os,ls,u,h,hr,hl=>by
  simp only[matchSh]at h
  split at h
  ·rename_i g off
   cases ho:(Nat.beq g (1000000+i)&&Nat.beq off 0)with
   |false=>rw[ho]at h;cases h
   |true=>
    rw[ho,cond_true]at h
    simp only[Option.some.injEq,Prod.mk.injEq]at h
    obtain⟨_,rfl,rfl⟩:=h
    simp only[Bool.and_eq_true]at ho
    have e1:=Nat.eq_of_beq_eq_true ho.1
    have e2:=Nat.eq_of_beq_eq_true ho.2
    subst e1 e2
    simp only[RV]at hr
    simp only[RS,List.map_nil]
    exact⟨⟨trivial,hr.1,hr.2⟩,fun h hh=>by simp[someN]at hh⟩
  ·cases h
theorem matchShs_of(hrb:∀h,RB ι Fz w h (getH H h))(hcn:∀h,Cn (ι h) (getH H h))(hf:∀b,Fz b→Fz' b):
 ∀(ss:List Sh) (vs:List AV) (x:ShDs ss) (os:List (Option Nat)) (ls:List AV) (us:List Value),matchShs H ss vs=some (x,os,ls)→RVs ι Fz w vs us→
 (∀h,mentL h ls=true→(getH H h).live→(ι h).virt=false→Fz' (ι h).blk)→
 RSs (fun i=>ι (1000000+i)) Fz' w ss x us (os.map (hiOf ι))∧∀h∈someN os,(getH H h).live
 |[],[],x,os,ls,us,h,hr,hl=>by
  simp only[matchShs,Option.some.injEq,Prod.mk.injEq]at h
  obtain⟨_,rfl,rfl⟩:=h
  simp only[RVs]at hr
  simp only[RSs,List.map_nil]
  exact⟨⟨hr,trivial⟩,fun h hh=>by simp[someN]at hh⟩
 |s::r,v::vs,x,os,ls,us,h,hr,hl=>by
  simp only[matchShs,Option.bind_eq_some_iff,Option.some.injEq,Prod.mk.injEq]at h
  obtain⟨⟨x1,o1,l1⟩,h1,⟨x2,o2,l2⟩,h2,rfl,rfl,rfl⟩:=h
  simp only[RVs]at hr
  obtain⟨u,q,rfl,r1,r2⟩:=hr
  obtain⟨a1,a2⟩:=matchSh_of hrb hcn hf s v x1 o1 l1 u h1 r1 (fun h hm=>hl h (by rw[mentL_append,hm];rfl))
  obtain⟨b1,b2⟩:=matchShs_of hrb hcn hf r vs x2 o2 l2 q h2 r2 (fun h hm=>hl h (by rw[mentL_append,hm,Bool.or_true]))
  simp only[RSs,List.map_append]
  refine⟨⟨u,q,_,_,rfl,rfl,a1,b1⟩,fun h hh=> ?_⟩
  rw[someN_append]at hh
  rcases List.mem_append.1 hh with hh|hh
  ·exact a2 h hh
  ·exact b2 h hh
 |[],_::_,_,_,_,_,h,_,_=>by simp[matchShs]at h
 |_::_,[],_,_,_,_,h,_,_=>by simp[matchShs]at h
end
def Named(ι:Nat→HI)(ns:List Nat)(os:List HI):Prop:=∀(j:Nat) i,os[j]?=some i→∃n,ns[j]?=some n∧ι n=i
theorem Named.left{ns:List Nat}{o1 o2:List HI}(h:Named ι ns (o1++o2)):Named ι ns o1:=fun j i hj=>
 h j i (by rw[List.getElem?_append_left (List.getElem?_eq_some_iff.1 hj).1];exact hj)
theorem Named.right{ns:List Nat}{o1 o2:List HI}(h:Named ι ns (o1++o2)):Named ι (ns.drop o1.length) o2:=fun j i hj=>by
 have:=h (o1.length+j) i (by rw[List.getElem?_append_right (by omega)];simpa using hj)
 simpa[List.getElem?_drop]using this
theorem Named.head{ns:List Nat}{i:HI}{r:List HI}(h:Named ι ns (i::r)):∃n q,ns=n::q∧ι n=i∧Named ι q r:=by
 obtain⟨n,h1,h2⟩:=h 0 i rfl
 cases ns with
 |nil=>simp at h1
 |cons m q=>
  simp only[List.getElem?_cons_zero,Option.some.injEq]at h1
  subst h1
  exact⟨m,q,rfl,h2,fun j i hj=>by simpa using h (j+1) i (by simpa using hj)⟩
def Laid(ι:Nat→HI)(Fz:Nat→Prop)(w:World)(l:List (Nat×AB)):Prop:=∀e∈l,RB ι Fz w e.1 e.2∧Cn (ι e.1) e.2∧e.2.live
theorem Laid.append{l m:List (Nat×AB)}(h:Laid ι Fz w l)(h':Laid ι Fz w m):Laid ι Fz w (l++m):=fun e he=>by
 rcases List.mem_append.1 he with he|he
 ·exact h e he
 ·exact h' e he
theorem eref_iota{ι':Nat→HI}{κ:Kd}{x:Den κ}{v:Value}(h:RV ι Fz w (.eref κ x) v):RV ι' Fz w (.eref κ x) v:=by simp only[RV]at h⊢;exact h
mutual
theorem renderSh_of{pi:Nat→HI}{pn:Nat→Nat}:
 ∀(s:Sh) (hpi:(∀i∈s.pars,(pi i).virt=false→ι (pn i)=pi i)∧(∀i∈s.wpars,ι (pn i)=pi i)) (x:ShD s) (u:Value) (os:List HI) (ns:List Nat),RS pi Fz w s x u os→Named ι ns os→
 RV ι Fz w (renderSh pn s x ns).1 u∧Laid ι Fz w (renderSh pn s x ns).2.1∧(renderSh pn s x ns).2.2=ns.drop os.length∧(renderSh pn s x ns).2.1.map Prod.fst=ns.take os.length
 | .k κ,hpi,x,u,os,ns,h,hn=>by
  simp only[RS]at h
  obtain⟨rfl,h⟩:=h
  simp only[renderSh]
  exact⟨pv_iota h,fun e he=>by simp at he,by simp,by simp⟩
 | .tr,hpi,x,u,os,ns,h,hn=>by
  simp only[RS]at h
  obtain⟨rfl,h⟩:=h
  simp only[renderSh]
  exact⟨pv_iota h,fun e he=>by simp at he,by simp,by simp⟩
 | .krow k e κ,hpi,xs,u,os,ns,h,hn=>by
  simp only[RS]at h
  obtain⟨i,rfl,_,h1,h2,h3⟩:=h
  obtain⟨n,q,rfl,h4,_⟩:=hn.head
  simp only[renderSh,hdN,tlN]
  refine⟨by simp only[RV,h4];exact h1,fun e he=> ?_,by simp,by simp⟩
  simp only[List.mem_singleton]at he
  subst he
  exact⟨(RB_at h4).2 h2,by simp only[Cn,h4];exact h3,trivial⟩
 | .parw k κ,hpi,xs,u,os,ns,h,hn=>by
  simp only[RS]at h
  obtain⟨rfl,h1⟩:=h
  simp only[renderSh]
  refine⟨by simp only[RV,hpi.2 k (by simp[Sh.wpars])];exact h1,fun e he=>by simp at he,by simp,by simp⟩
 | .sub e κ,hpi,xs,u,os,ns,h,hn=>by
  simp only[RS]at h
  obtain⟨i,rfl,h1,h2,h3⟩:=h
  obtain⟨n,q,rfl,h4,_⟩:=hn.head
  simp only[renderSh,hdN,tlN]
  refine⟨by simp only[RV,h4];exact h1,fun e he=> ?_,by simp,by simp⟩
  simp only[List.mem_singleton]at he
  subst he
  exact⟨(RB_at h4).2 h2,by simp only[Cn,h4];exact h3,trivial⟩
 | .row e κ,hpi,xs,u,os,ns,h,hn=>by
  simp only[RS]at h
  obtain⟨i,rfl,h1,h2,h3⟩:=h
  obtain⟨n,q,rfl,h4,_⟩:=hn.head
  simp only[renderSh,hdN,tlN]
  refine⟨by simp only[RV,h4];exact h1,fun e he=> ?_,by simp,by simp⟩
  simp only[List.mem_singleton]at he
  subst he
  exact⟨(RB_at h4).2 h2,by simp only[Cn,h4];exact h3,trivial⟩
 | .box cs,hpi,d,u,os,ns,h,hn=>by
  simp only[RS]at h
  obtain⟨i,r,vs,T,rfl,hv,h1,h2,rfl,hh,hone,h3⟩:=h
  obtain⟨n,q,rfl,h4,hn'⟩:=hn.head
  obtain⟨a1,a2,a3,a4⟩:=renderShs_of cs (by simpa[Sh.pars,Sh.wpars]using hpi) d vs r q h3 hn'
  simp only[renderSh,hdN,tlN]
  refine⟨by simp only[RV,h4];exact⟨hv,trivial⟩,fun e he=> ?_,by simpa using a3,by simpa using a4⟩
  rcases List.mem_cons.1 he with rfl|he
  ·refine⟨?_,by simp only[Cn,h4];exact⟨h1,h2⟩,trivial⟩
   simp only[RB,h4]
   exact⟨hv,vs,T,hh,a1,hone⟩
  ·exact a2 e he
 | .bsl cs,hpi,d,u,os,ns,h,hn=>by
  simp only[RS]at h
  obtain⟨i,r,vs,T,rfl,hv,h1,h2,rfl,hh,hone,h3⟩:=h
  obtain⟨n,q,rfl,h4,hn'⟩:=hn.head
  obtain⟨a1,a2,a3,a4⟩:=renderShs_of cs (by simpa[Sh.pars,Sh.wpars]using hpi) d vs r q h3 hn'
  simp only[renderSh,hdN,tlN]
  refine⟨by simp only[RV,h4];exact⟨hv,trivial⟩,fun e he=> ?_,by simpa using a3,by simpa using a4⟩
  rcases List.mem_cons.1 he with rfl|he
  ·refine⟨?_,by simp only[Cn,h4];exact⟨h1,h2⟩,trivial⟩
   simp only[RB,h4]
   exact⟨hv,vs,T,hh,a1,hone⟩
  ·exact a2 e he
 | .agg cs,hpi,d,u,os,ns,h,hn=>by
  simp only[RS]at h
  obtain⟨vs,rfl,hone,h3⟩:=h
  obtain⟨a1,a2,a3,a4⟩:=renderShs_of cs (by simpa[Sh.pars,Sh.wpars]using hpi) d vs os ns h3 hn
  simp only[renderSh]
  exact⟨by simp only[RV];exact⟨vs,rfl,hone,a1⟩,a2,a3,a4⟩
 | .ifc t s,hpi,d,u,os,ns,h,hn=>by
  simp only[RS]at h
  obtain⟨z,rfl,h3⟩:=h
  obtain⟨a1,a2,a3,a4⟩:=renderSh_of s (by simpa[Sh.pars,Sh.wpars]using hpi) d z os ns h3 hn
  simp only[renderSh]
  exact⟨by simp only[RV];exact⟨z,rfl,a1⟩,a2,a3,a4⟩
 | .fn f cs,hpi,d,u,os,ns,h,hn=>by
  simp only[RS]at h
  obtain⟨vs,rfl,h3⟩:=h
  obtain⟨a1,a2,a3,a4⟩:=renderShs_of cs (by simpa[Sh.pars,Sh.wpars]using hpi) d vs os ns h3 hn
  simp only[renderSh]
  exact⟨by simp only[RV];exact⟨vs,rfl,a1⟩,a2,a3,a4⟩
 | .lref κ,hpi,x,u,os,ns,h,hn=>by
  simp only[RS]at h
  obtain⟨rfl,h⟩:=h
  simp only[renderSh]
  exact⟨eref_iota h,fun e he=>by simp at he,by simp,by simp⟩
 | .nilp,hpi,_,u,os,ns,h,hn=>by
  simp only[RS]at h
  obtain⟨rfl,rfl⟩:=h
  simp only[renderSh]
  exact⟨by simp only[RV],fun e he=>by simp at he,by simp,by simp⟩
 | .nili,hpi,_,u,os,ns,h,hn=>by
  simp only[RS]at h
  obtain⟨rfl,rfl⟩:=h
  simp only[renderSh]
  exact⟨by simp only[RV],fun e he=>by simp at he,by simp,by simp⟩
 | .nilf,hpi,_,u,os,ns,h,hn=>by
  simp only[RS]at h
  obtain⟨rfl,rfl⟩:=h
  simp only[renderSh]
  exact⟨by simp only[RV],fun e he=>by simp at he,by simp,by simp⟩
 | .snil,hpi,_,u,os,ns,h,hn=>by
  simp only[RS]at h
  obtain⟨rfl,rfl⟩:=h
  simp only[renderSh]
  exact⟨by simp only[RV],fun e he=>by simp at he,by simp,by simp⟩
 | .nan,hpi,_,u,os,ns,h,hn=>by
  simp only[RS]at h
  obtain⟨rfl,h⟩:=h
  simp only[renderSh]
  exact⟨by simp only[RV];exact h,fun e he=>by simp at he,by simp,by simp⟩
 | .ep g,hpi,_,u,os,ns,h,hn=>by
  simp only[RS]at h
  obtain⟨rfl,h⟩:=h
  simp only[renderSh]
  exact⟨by simp only[RV]at h⊢;exact h,fun e he=>by simp at he,by simp,by simp⟩
 | .par i,hpi,_,u,os,ns,h,hn=>by
  simp only[RS]at h
  obtain⟨rfl,hv,rfl⟩:=h
  simp only[renderSh]
  exact⟨by simp only[RV,hpi.1 i (by simp[Sh.pars]) hv];exact⟨hv,trivial⟩,fun e he=>by simp at he,by simp,by simp⟩
theorem renderShs_of{pi:Nat→HI}{pn:Nat→Nat}:
 ∀(ss:List Sh) (hpi:(∀i∈parsL ss,(pi i).virt=false→ι (pn i)=pi i)∧(∀i∈wparsL ss,ι (pn i)=pi i)) (x:ShDs ss) (us:List Value) (os:List HI) (ns:List Nat),RSs pi Fz w ss x us os→Named ι ns os→
 RVs ι Fz w (renderShs pn ss x ns).1 us∧Laid ι Fz w (renderShs pn ss x ns).2.1∧(renderShs pn ss x ns).2.2=ns.drop os.length∧(renderShs pn ss x ns).2.1.map Prod.fst=ns.take os.length
 |[],hpi,_,us,os,ns,h,hn=>by
  simp only[RSs]at h
  obtain⟨rfl,rfl⟩:=h
  simp only[renderShs]
  exact⟨by simp[RVs],fun e he=>by simp at he,by simp,by simp⟩
 |s::r,hpi,d,us,os,ns,h,hn=>by
  simp only[RSs]at h
  obtain⟨v,q,o1,o2,rfl,rfl,h1,h2⟩:=h
  obtain⟨a1,a2,a3,a4⟩:=renderSh_of s ⟨fun i hi=>hpi.1 i (by simp[parsL,hi]),fun i hi=>hpi.2 i (by simp[wparsL,hi])⟩ d.1 v o1 ns h1 hn.left
  have hn2:=hn.right
  rw[←a3]at hn2
  obtain⟨b1,b2,b3,b4⟩:=renderShs_of r ⟨fun i hi=>hpi.1 i (by simp[parsL,hi]),fun i hi=>hpi.2 i (by simp[wparsL,hi])⟩ d.2 q o2 _ h2 hn2
  simp only[renderShs]
  refine⟨by simp only[RVs];exact⟨v,q,rfl,a1,b1⟩,a2.append b2,by rw[b3,a3,List.drop_drop,List.length_append], ?_⟩
  rw[List.map_append,a4,b4,a3,List.length_append,List.take_add]
end
end
theorem getH_entries:∀(l H:List (Nat×AB)) (h:Nat),(∃b,(h,b)∈l∧getH (l++H) h=b)∨(h∉l.map Prod.fst∧getH (l++H) h=getH H h)
 |[],H,h=> .inr ⟨by simp,rfl⟩
 |(n,b)::l,H,h=>by
  rw[List.cons_append,getH_cons]
  by_cases e:n=h
  ·subst e;rw[if_pos rfl];exact .inl ⟨b,by simp,rfl⟩
  ·rw[if_neg e]
   rcases getH_entries l H h with⟨b',h1,h2⟩|⟨h1,h2⟩
   ·exact .inl ⟨b',by simp[h1],h2⟩
   ·exact .inr ⟨by simp only[List.map_cons,List.mem_cons,not_or];exact⟨Ne.symm e,h1⟩,h2⟩
def topH:List Bool→List HI→List HI
 |true::t,o::os=>o::topH t os
 |false::t,_::os=>topH t os
 |_,_=>[]
theorem topH_append:∀(a:List Bool) (x:List HI) (b:List Bool) (y:List HI),a.length=x.length→topH (a++b) (x++y)=topH a x++topH b y
 |[],[],b,y,_=>by simp[topH]
 |true::a,o::x,b,y,h=>by simp only[List.cons_append,topH];rw[topH_append a x b y (by simpa using h)]
 |false::a,o::x,b,y,h=>by simp only[List.cons_append,topH];exact topH_append a x b y (by simpa using h)
 |[],_::_,_,_,h=>by simp at h
 |_::_,[],_,_,h=>by simp at h
theorem topH_none:∀(n:Nat) (x:List HI),topH (List.replicate n false) x=[]
 |0,x=>by simp[topH]
 |n+1,[]=>by simp[List.replicate,topH]
 |n+1,o::x=>by simp only[List.replicate,topH];exact topH_none n x
mutual
theorem tops_len:∀(s:Sh),s.tops.length=s.cnt
 | .k _=>rfl
 | .tr=>rfl
 | .row _ _=>rfl
 | .sub _ _=>rfl
 | .krow _ _ _=>rfl
 | .parw _ _=>rfl
 | .box cs=>by simp[Sh.tops,Sh.cnt]
 | .bsl cs=>by simp[Sh.tops,Sh.cnt]
 | .agg cs=>by simp only[Sh.tops,Sh.cnt];exact topsL_len cs
 | .ifc _ s=>by simp only[Sh.tops,Sh.cnt];exact tops_len s
 | .fn _ cs=>by simp only[Sh.tops,Sh.cnt];exact topsL_len cs
 | .lref _=>rfl
 | .nilp=>rfl
 | .nili=>rfl
 | .nilf=>rfl
 | .nan=>rfl
 | .ep _=>rfl
 | .snil=>rfl
 | .par _=>rfl
theorem topsL_len:∀(l:List Sh),(topsL l).length=cnts l
 |[]=>rfl
 |s::r=>by simp only[topsL,cnts,List.length_append];rw[tops_len s,topsL_len r]
end
section
variable {pi pi':Nat→HI} {Fz Fz':Nat→Prop} {w w':World}
theorem virt_row{i:HI}{e:TypeId}{κ:Kd}{xs:List (Den κ)}(hv:i.virt=true)(h2:RB (fun _=>i) Fz w 0 (.arr e κ xs))(h3:i.virt=true→i.blk=0∧i.cap=0):i=⟨0,0,0,true⟩:=by
 simp only[RB]at h2
 obtain⟨hl,h2⟩:=h2
 rcases h2 with⟨_,rfl⟩|⟨h,_⟩
 ·obtain⟨a,b⟩:=h3 hv
  cases i
  simp_all
 ·rw[hv]at h;cases h
mutual
theorem tops_eq:∀(s s':Sh) (x:ShD s) (x':ShD s') (v:Value) (os os':List HI),s.sim s'=true→RS pi Fz w s x v os→RS pi' Fz' w' s' x' v os'→topH s.tops os=topH s'.tops os'
 | .k _, .k _,x,x',v,os,os',_,h,h'=>by simp only[RS]at h h';rw[h.1,h'.1];rfl
 | .row _ _, .row _ _,x,x',v,os,os',_,h,h'=>by
  simp only[RS]at h h'
  obtain⟨i,rfl,h1,h2,h3⟩:=h
  obtain⟨j,rfl,g1,g2,g3⟩:=h'
  simp only[Sh.tops,topH,List.cons.injEq,and_true]
  rcases h1 with⟨hv,rfl⟩|⟨hv,rfl⟩
  ·rcases g1 with⟨gv,_⟩|⟨gv,e⟩
   ·rw[virt_row hv h2 h3,virt_row gv g2 g3]
   ·cases e
  ·rcases g1 with⟨gv,e⟩|⟨gv,e⟩
   ·cases e
   ·cases i;cases j
    simp_all
 | .box cs, .box ds,x,x',v,os,os',_,h,h'=>by
  simp only[RS]at h h'
  obtain⟨i,r,vs,T,rfl,h1,h2,h3,h4,_⟩:=h
  obtain⟨j,q,us,U,rfl,g1,g2,g3,g4,_⟩:=h'
  simp only[Sh.tops,topH,topH_none,List.cons.injEq,and_true]
  rw[h4]at g4
  cases i;cases j
  simp_all
 | .bsl cs, .bsl ds,x,x',v,os,os',_,h,h'=>by
  simp only[RS]at h h'
  obtain⟨i,r,vs,T,rfl,h1,h2,h3,h4,_⟩:=h
  obtain⟨j,q,us,U,rfl,g1,g2,g3,g4,_⟩:=h'
  simp only[Sh.tops,topH,topH_none,List.cons.injEq,and_true]
  rw[h4]at g4
  cases i;cases j
  simp_all
 | .agg cs, .agg ds,x,x',v,os,os',hs,h,h'=>by
  simp only[RS]at h h'
  obtain⟨vs,rfl,_,h⟩:=h
  obtain⟨us,e,_,h'⟩:=h'
  have:vs=us:=by simpa using e
  subst this
  exact topsL_eq cs ds x x' vs os os' (by simpa[Sh.sim]using hs) h h'
 | .ifc _ s, .ifc _ t,x,x',v,os,os',hs,h,h'=>by
  simp only[RS]at h h'
  obtain⟨u,rfl,h⟩:=h
  obtain⟨u',e,h'⟩:=h'
  simp only[Value.iface.injEq]at e
  obtain⟨_,rfl⟩:=e
  exact tops_eq s t x x' u os os' (by simpa[Sh.sim]using hs) h h'
 | .fn _ cs, .fn _ ds,x,x',v,os,os',hs,h,h'=>by
  simp only[RS]at h h'
  obtain⟨vs,rfl,h⟩:=h
  obtain⟨us,e,h'⟩:=h'
  have:vs=us:=by simp at e;exact e.2
  subst this
  exact topsL_eq cs ds x x' vs os os' (by simpa[Sh.sim]using hs) h h'
 | .lref _, .lref _,x,x',v,os,os',_,h,h'=>by simp only[RS]at h h';rw[h.1,h'.1];rfl
 | .nilp, .nilp,x,x',v,os,os',_,h,h'=>by simp only[RS]at h h';rw[h.1,h'.1]
 | .nili, .nili,x,x',v,os,os',_,h,h'=>by simp only[RS]at h h';rw[h.1,h'.1]
 | .nilf, .nilf,x,x',v,os,os',_,h,h'=>by simp only[RS]at h h';rw[h.1,h'.1]
 | .nan, .nan,x,x',v,os,os',_,h,h'=>by simp only[RS]at h h';rw[h.1,h'.1]
 | .ep _, .ep _,x,x',v,os,os',_,h,h'=>by simp only[RS]at h h';rw[h.1,h'.1];rfl
 | .snil, .snil,x,x',v,os,os',_,h,h'=>by simp only[RS]at h h';rw[h.1,h'.1]
 | .k _, .row _ _,_,_,_,_,_,hs,_,_| .k _, .box _,_,_,_,_,_,hs,_,_| .k _, .agg _,_,_,_,_,_,hs,_,_| .k _, .ifc _ _,_,_,_,_,_,hs,_,_| .k _, .fn _ _,_,_,_,_,_,hs,_,_
 | .k _, .lref _,_,_,_,_,_,hs,_,_| .k _, .nilp,_,_,_,_,_,hs,_,_| .k _, .nili,_,_,_,_,_,hs,_,_| .k _, .nilf,_,_,_,_,_,hs,_,_| .k _, .nan,_,_,_,_,_,hs,_,_| .k _, .ep _,_,_,_,_,_,hs,_,_| .k _, .bsl _,_,_,_,_,_,hs,_,_| .k _, .snil,_,_,_,_,_,hs,_,_| .k _, .par _,_,_,_,_,_,hs,_,_| .k _, .tr,_,_,_,_,_,hs,_,_| .k _, .sub _ _,_,_,_,_,_,hs,_,_| .k _, .krow _ _ _,_,_,_,_,_,hs,_,_| .k _, .parw _ _,_,_,_,_,_,hs,_,_=>by simp[Sh.sim]at hs
 | .row _ _, .k _,_,_,_,_,_,hs,_,_| .row _ _, .box _,_,_,_,_,_,hs,_,_| .row _ _, .agg _,_,_,_,_,_,hs,_,_| .row _ _, .ifc _ _,_,_,_,_,_,hs,_,_| .row _ _, .fn _ _,_,_,_,_,_,hs,_,_
 | .row _ _, .lref _,_,_,_,_,_,hs,_,_| .row _ _, .nilp,_,_,_,_,_,hs,_,_| .row _ _, .nili,_,_,_,_,_,hs,_,_| .row _ _, .nilf,_,_,_,_,_,hs,_,_| .row _ _, .nan,_,_,_,_,_,hs,_,_| .row _ _, .ep _,_,_,_,_,_,hs,_,_| .row _ _, .bsl _,_,_,_,_,_,hs,_,_| .row _ _, .snil,_,_,_,_,_,hs,_,_| .row _ _, .par _,_,_,_,_,_,hs,_,_| .row _ _, .tr,_,_,_,_,_,hs,_,_| .row _ _, .sub _ _,_,_,_,_,_,hs,_,_| .row _ _, .krow _ _ _,_,_,_,_,_,hs,_,_| .row _ _, .parw _ _,_,_,_,_,_,hs,_,_=>by simp[Sh.sim]at hs
 | .box _, .k _,_,_,_,_,_,hs,_,_| .box _, .row _ _,_,_,_,_,_,hs,_,_| .box _, .agg _,_,_,_,_,_,hs,_,_| .box _, .ifc _ _,_,_,_,_,_,hs,_,_| .box _, .fn _ _,_,_,_,_,_,hs,_,_
 | .box _, .lref _,_,_,_,_,_,hs,_,_| .box _, .nilp,_,_,_,_,_,hs,_,_| .box _, .nili,_,_,_,_,_,hs,_,_| .box _, .nilf,_,_,_,_,_,hs,_,_| .box _, .nan,_,_,_,_,_,hs,_,_| .box _, .ep _,_,_,_,_,_,hs,_,_| .box _, .bsl _,_,_,_,_,_,hs,_,_| .box _, .snil,_,_,_,_,_,hs,_,_| .box _, .par _,_,_,_,_,_,hs,_,_| .box _, .tr,_,_,_,_,_,hs,_,_| .box _, .sub _ _,_,_,_,_,_,hs,_,_| .box _, .krow _ _ _,_,_,_,_,_,hs,_,_| .box _, .parw _ _,_,_,_,_,_,hs,_,_=>by simp[Sh.sim]at hs
 | .agg _, .k _,_,_,_,_,_,hs,_,_| .agg _, .row _ _,_,_,_,_,_,hs,_,_| .agg _, .box _,_,_,_,_,_,hs,_,_| .agg _, .ifc _ _,_,_,_,_,_,hs,_,_| .agg _, .fn _ _,_,_,_,_,_,hs,_,_
 | .agg _, .lref _,_,_,_,_,_,hs,_,_| .agg _, .nilp,_,_,_,_,_,hs,_,_| .agg _, .nili,_,_,_,_,_,hs,_,_| .agg _, .nilf,_,_,_,_,_,hs,_,_| .agg _, .nan,_,_,_,_,_,hs,_,_| .agg _, .ep _,_,_,_,_,_,hs,_,_| .agg _, .bsl _,_,_,_,_,_,hs,_,_| .agg _, .snil,_,_,_,_,_,hs,_,_| .agg _, .par _,_,_,_,_,_,hs,_,_| .agg _, .tr,_,_,_,_,_,hs,_,_| .agg _, .sub _ _,_,_,_,_,_,hs,_,_| .agg _, .krow _ _ _,_,_,_,_,_,hs,_,_| .agg _, .parw _ _,_,_,_,_,_,hs,_,_=>by simp[Sh.sim]at hs
 | .ifc _ _, .k _,_,_,_,_,_,hs,_,_| .ifc _ _, .row _ _,_,_,_,_,_,hs,_,_| .ifc _ _, .box _,_,_,_,_,_,hs,_,_| .ifc _ _, .agg _,_,_,_,_,_,hs,_,_| .ifc _ _, .fn _ _,_,_,_,_,_,hs,_,_
 | .ifc _ _, .lref _,_,_,_,_,_,hs,_,_| .ifc _ _, .nilp,_,_,_,_,_,hs,_,_| .ifc _ _, .nili,_,_,_,_,_,hs,_,_| .ifc _ _, .nilf,_,_,_,_,_,hs,_,_| .ifc _ _, .nan,_,_,_,_,_,hs,_,_| .ifc _ _, .ep _,_,_,_,_,_,hs,_,_| .ifc _ _, .bsl _,_,_,_,_,_,hs,_,_| .ifc _ _, .snil,_,_,_,_,_,hs,_,_| .ifc _ _, .par _,_,_,_,_,_,hs,_,_| .ifc _ _, .tr,_,_,_,_,_,hs,_,_| .ifc _ _, .sub _ _,_,_,_,_,_,hs,_,_| .ifc _ _, .krow _ _ _,_,_,_,_,_,hs,_,_| .ifc _ _, .parw _ _,_,_,_,_,_,hs,_,_=>by simp[Sh.sim]at hs
 | .fn _ _, .k _,_,_,_,_,_,hs,_,_| .fn _ _, .row _ _,_,_,_,_,_,hs,_,_| .fn _ _, .box _,_,_,_,_,_,hs,_,_| .fn _ _, .agg _,_,_,_,_,_,hs,_,_| .fn _ _, .ifc _ _,_,_,_,_,_,hs,_,_
 | .fn _ _, .lref _,_,_,_,_,_,hs,_,_| .fn _ _, .nilp,_,_,_,_,_,hs,_,_| .fn _ _, .nili,_,_,_,_,_,hs,_,_| .fn _ _, .nilf,_,_,_,_,_,hs,_,_| .fn _ _, .nan,_,_,_,_,_,hs,_,_| .fn _ _, .ep _,_,_,_,_,_,hs,_,_| .fn _ _, .bsl _,_,_,_,_,_,hs,_,_| .fn _ _, .snil,_,_,_,_,_,hs,_,_| .fn _ _, .par _,_,_,_,_,_,hs,_,_| .fn _ _, .tr,_,_,_,_,_,hs,_,_| .fn _ _, .sub _ _,_,_,_,_,_,hs,_,_| .fn _ _, .krow _ _ _,_,_,_,_,_,hs,_,_| .fn _ _, .parw _ _,_,_,_,_,_,hs,_,_=>by simp[Sh.sim]at hs
 | .lref _, .k _,_,_,_,_,_,hs,_,_| .lref _, .row _ _,_,_,_,_,_,hs,_,_| .lref _, .box _,_,_,_,_,_,hs,_,_| .lref _, .agg _,_,_,_,_,_,hs,_,_| .lref _, .ifc _ _,_,_,_,_,_,hs,_,_
 | .lref _, .fn _ _,_,_,_,_,_,hs,_,_| .lref _, .nilp,_,_,_,_,_,hs,_,_| .lref _, .nili,_,_,_,_,_,hs,_,_| .lref _, .nilf,_,_,_,_,_,hs,_,_| .lref _, .nan,_,_,_,_,_,hs,_,_| .lref _, .ep _,_,_,_,_,_,hs,_,_| .lref _, .bsl _,_,_,_,_,_,hs,_,_| .lref _, .snil,_,_,_,_,_,hs,_,_| .lref _, .par _,_,_,_,_,_,hs,_,_| .lref _, .tr,_,_,_,_,_,hs,_,_| .lref _, .sub _ _,_,_,_,_,_,hs,_,_| .lref _, .krow _ _ _,_,_,_,_,_,hs,_,_| .lref _, .parw _ _,_,_,_,_,_,hs,_,_=>by simp[Sh.sim]at hs
 | .nilp,s',_,_,_,_,_,hs,h,h'=>by cases s'<;>first|(simp[Sh.sim]at hs;done)|(simp only[RS]at h h';rw[h.1,h'.1])
 | .nili,s',_,_,_,_,_,hs,h,h'=>by cases s'<;>first|(simp[Sh.sim]at hs;done)|(simp only[RS]at h h';rw[h.1,h'.1])
 | .nilf,s',_,_,_,_,_,hs,h,h'=>by cases s'<;>first|(simp[Sh.sim]at hs;done)|(simp only[RS]at h h';rw[h.1,h'.1])
 | .nan,s',_,_,_,_,_,hs,h,h'=>by cases s'<;>first|(simp[Sh.sim]at hs;done)|(simp only[RS]at h h';rw[h.1,h'.1])
 | .ep _,s',_,_,_,_,_,hs,h,h'=>by cases s'<;>first|(simp[Sh.sim]at hs;done)|(simp only[RS]at h h';rw[h.1,h'.1];rfl)
 | .snil,s',_,_,_,_,_,hs,h,h'=>by cases s'<;>first|(simp[Sh.sim]at hs;done)|(simp only[RS]at h h';rw[h.1,h'.1])
 | .bsl _, .k _,_,_,_,_,_,hs,_,_| .bsl _, .row _ _,_,_,_,_,_,hs,_,_| .bsl _, .box _,_,_,_,_,_,hs,_,_| .bsl _, .agg _,_,_,_,_,_,hs,_,_| .bsl _, .ifc _ _,_,_,_,_,_,hs,_,_| .bsl _, .fn _ _,_,_,_,_,_,hs,_,_
 | .bsl _, .lref _,_,_,_,_,_,hs,_,_| .bsl _, .nilp,_,_,_,_,_,hs,_,_| .bsl _, .nili,_,_,_,_,_,hs,_,_| .bsl _, .nilf,_,_,_,_,_,hs,_,_| .bsl _, .nan,_,_,_,_,_,hs,_,_| .bsl _, .ep _,_,_,_,_,_,hs,_,_| .bsl _, .snil,_,_,_,_,_,hs,_,_| .bsl _, .par _,_,_,_,_,_,hs,_,_| .bsl _, .tr,_,_,_,_,_,hs,_,_| .bsl _, .sub _ _,_,_,_,_,_,hs,_,_| .bsl _, .krow _ _ _,_,_,_,_,_,hs,_,_| .bsl _, .parw _ _,_,_,_,_,_,hs,_,_=>by simp[Sh.sim]at hs
 | .par _,s',_,_,_,_,_,hs,h,h'=>by cases s'<;>simp[Sh.sim]at hs
 | .tr,s',_,_,_,_,_,hs,h,h'=>by cases s'<;>simp[Sh.sim]at hs
 | .sub _ _,s',_,_,_,_,_,hs,h,h'=>by cases s'<;>simp[Sh.sim]at hs
 | .krow _ _ _,s',_,_,_,_,_,hs,h,h'=>by cases s'<;>simp[Sh.sim]at hs
 | .parw _ _,s',_,_,_,_,_,hs,h,h'=>by cases s'<;>simp[Sh.sim]at hs
theorem topsL_eq:∀(ss ss':List Sh) (x:ShDs ss) (x':ShDs ss') (vs:List Value) (os os':List HI),simL ss ss'=true→RSs pi Fz w ss x vs os→RSs pi' Fz' w' ss' x' vs os'→topH (topsL ss) os=topH (topsL ss') os'
 |[],[],x,x',vs,os,os',_,h,h'=>by simp only[RSs]at h h';rw[h.2,h'.2]
 |s::r,t::q,x,x',vs,os,os',hs,h,h'=>by
  simp only[RSs]at h h'
  obtain⟨v,us,o1,o2,rfl,rfl,h1,h2⟩:=h
  obtain⟨v',us',p1,p2,e,rfl,g1,g2⟩:=h'
  simp only[List.cons.injEq]at e
  obtain⟨rfl,rfl⟩:=e
  simp only[simL,Bool.and_eq_true]at hs
  simp only[topsL]
  rw[topH_append _ _ _ _ (by rw[tops_len,RS_cnt _ _ _ _ h1]),topH_append _ _ _ _ (by rw[tops_len,RS_cnt _ _ _ _ g1]),tops_eq s t _ _ _ _ _ hs.1 h1 g1,topsL_eq r q _ _ _ _ _ hs.2 h2 g2]
 |[],_::_,_,_,_,_,_,hs,_,_=>by simp[simL]at hs
 |_::_,[],_,_,_,_,_,hs,_,_=>by simp[simL]at hs
end
end
end Go.Av
namespace Go.Av
open Go Go.RowKit
section
variable {R:Type} {P:Program} {w0:Root} {Fz0:Nat→Prop} {ι:Nat→HI} {Fz:Nat→Prop} {H:List (Nat×AB)} {w:World}
theorem Mem.strike(m:Mem w0 Fz0 ι Fz H w)(h:Nat):Mem w0 Fz0 ι Fz ((h, .gone)::strikeH h H) w:=by
 have e:∀k,getH ((h, .gone)::strikeH h H) k=if h=k then .gone else(getH H k).strike h:=fun k=>by rw[getH_cons,getH_strike]
 have live:∀k,(getH ((h, .gone)::strikeH h H) k).live→(getH H k).live:=fun k hk=>by
  rw[e]at hk
  split at hk
  ·exact hk.elim
  ·exact(live_strike h _).1 hk
 refine⟨m.below,m.fz,m.fz0,m.fzn,fun k=> ?_,fun k hk=>m.sep k (live k hk),fun k k' hk hk'=>m.inj k k' (live k hk) (live k' hk'),m.iot,fun k=>(by rw[e];split;trivial;exact Cn_strike.2 (m.cn k)),m.gz⟩
 rw[e]
 split
 ·trivial
 ·rename_i hne
  exact RB_strike (fun _ _=>rfl) (fun _ h=>h) (fun _ _=>rfl) (Ne.symm hne) (fun _ _=>rfl) (m.rb k)
theorem Mem.put{w':World}{d:Nat}{i:HI}{b:AB}(m:Mem w0 Fz0 ι Fz H w)(hbel:Bel w0.own w w')(hsz:w.heap.size≤w'.heap.size)(hw:∀b,Fz b→w'.heap[b]?=w.heap[b]?)
 (hl:∀h,(getH H h).live→(ι h).virt=false→w'.heap[(ι h).blk]?=w.heap[(ι h).blk]?)
 (hi:i.virt=false→w0.own i.blk∧i.blk<w'.heap.size∧¬Fz i.blk∧∀h,h≠d→(getH H h).live→(ι h).virt=false→(ι h).blk≠i.blk) (hb:RB (Av.upd ι d i) Fz w' d b) (hd:d<1000000) (hcn:Cn i b):
 Mem w0 Fz0 (Av.upd ι d i) Fz ((d,b)::strikeH d H) w':=by
 refine⟨m.below.trans hbel,fun b hb=>Nat.lt_of_lt_of_le (m.fz b hb) hsz,m.fz0,m.fzn,fun h=> ?_,fun h hl' hv=> ?_,fun h h' hl1 hl2 hv hv' he=> ?_,fun k hk=>(upd_ne _ _ _ (by omega)).trans (m.iot k hk),Cn_new m.cn hcn,m.gz⟩
 ·rw[getH_new]
  by_cases e:d=h
  ·subst e;simpa using hb
  ·rw[if_neg e]
   exact RB_strike hw (fun _ h=>h) (fun _ h=>upd_ne _ _ _ h) (Ne.symm e) (hl h) (m.rb h)
 ·rw[getH_new]at hl'
  by_cases e:d=h
  ·subst e
   rw[upd_at]at hv⊢
   exact⟨(hi hv).1,(hi hv).2.1,(hi hv).2.2.1⟩
  ·rw[if_neg e,live_strike]at hl'
   rw[upd_ne _ _ _ (Ne.symm e)]at hv⊢
   obtain⟨h1,h2,h3⟩:=m.sep h hl' hv
   exact⟨h1,Nat.lt_of_lt_of_le h2 hsz,h3⟩
 ·rw[getH_new]at hl1 hl2
  by_cases e:d=h
  ·by_cases e':d=h'
   ·omega
   ·subst e
    rw[if_neg e',live_strike]at hl2
    rw[upd_at]at hv he
    rw[upd_ne _ _ _ (Ne.symm e')]at hv' he
    exact absurd he.symm ((hi hv).2.2.2 h' (Ne.symm e') hl2 hv')
  ·rw[if_neg e,live_strike]at hl1
   rw[upd_ne _ _ _ (Ne.symm e)]at hv he
   by_cases e':d=h'
   ·subst e'
    rw[upd_at]at hv' he
    exact absurd he ((hi hv').2.2.2 h (Ne.symm e) hl1 hv)
   ·rw[if_neg e',live_strike]at hl2
    rw[upd_ne _ _ _ (Ne.symm e')]at hv' he
    exact m.inj h h' hl1 hl2 hv hv' he
theorem flatten_cells{κ:Kd}:∀(ys:List (Den κ)) (b off:Nat),(∀i x,ys[i]?=some x→∃es,RP Fz w κ x es∧es.length=κ.size∧Lie w es b (off+i*κ.size))→
 ∃news:List Value,news.length=ys.length*κ.size∧Lie w news b off∧(∀u∈news,u.oneCell'=true)∧Row Fz w κ ys news
 |[],b,off,_=>⟨[],by simp,fun j u h=>by simp at h,fun u h=>by simp at h,Row.nil⟩
 |y::ys,b,off,h=>by
  obtain⟨es,h1,h2,h3⟩:=h 0 y rfl
  obtain⟨news,a1,a2,a3,a4⟩:=flatten_cells ys b (off+κ.size) (fun i x hx=>by
   obtain⟨es,h1,h2,h3⟩:=h (i+1) x (by simpa using hx)
   refine⟨es,h1,h2, ?_⟩
   rwa[show off+κ.size+i*κ.size=off+(i+1)*κ.size by rw[Nat.add_mul];omega])
  simp only[Nat.zero_mul,Nat.add_zero]at h3
  refine⟨es++news,by simp[h2,a1,Nat.add_mul];omega,fun j u hj=> ?_,fun u hu=> ?_,fun i x hx=> ?_⟩
  ·rcases Nat.lt_or_ge j es.length with hlt|hge
   ·rw[List.getElem?_append_left hlt]at hj;exact h3 j u hj
   ·rw[List.getElem?_append_right hge]at hj
    have:=a2 _ u hj
    rwa[show off+κ.size+(j-es.length)=off+j by omega]at this
  ·rcases List.mem_append.1 hu with hu|hu
   ·exact RP_one κ y es h1 u hu
   ·exact a3 u hu
  ·cases i with
   |zero=>
    simp only[List.getElem?_cons_zero,Option.some.injEq]at hx
    subst hx
    exact⟨es,h1,h2,fun j u hj=>by rw[Nat.zero_mul,Nat.zero_add,List.getElem?_append_left ((List.getElem?_eq_some_iff.1 hj).1)];exact hj⟩
   |succ i=>
    obtain⟨es',b1,b2,b3⟩:=a4 i x (by simpa using hx)
    refine⟨es',b1,b2,fun j u hj=> ?_⟩
    rw[List.getElem?_append_right (by rw[Nat.add_mul];omega),show(i+1)*κ.size+j-es.length=i*κ.size+j by rw[Nat.add_mul];omega]
    exact b3 j u hj
theorem cast_elim{κ:Kd}{κ':Kd}{xs:Den κ'}{ys:Den κ}(h:castD κ' κ xs=some ys):∃e:κ'=κ,e▸xs=ys:=by
 unfold castD at h
 split at h
 ·rename_i e;exact⟨e,by simpa using h⟩
 ·cases h
theorem src_of{κ:Kd}{x:AV}{ys:List (Den κ)}{vx:Value}(m:Mem w0 Fz0 ι Fz H w)(h:argD H (.list κ) x=some ys)(hr:RV ι Fz w x vx):
 ∃a c,vx= .slice a ys.length c∧(ys=[]∨∃b off,a=some ⟨b,off,none⟩∧∀i x,ys[i]?=some x→∃es,RP Fz w κ x es∧es.length=κ.size∧Lie w es b (off+i*κ.size)):=by
 have own:∀(g:Nat) (e:TypeId) (xs:List (Den κ)) (off len:Nat),getH H g= .arr e κ xs→off+len≤xs.length→(ι g).virt=false→
  ∀i x,((xs.drop off).take len)[i]?=some x→∃es,RP Fz w κ x es∧es.length=κ.size∧Lie w es (ι g).blk (off*κ.size+i*κ.size):=by
  intro g e xs off len hg hl hv i y hy
  have hrb:=m.rb g
  rw[hg]at hrb
  simp only[RB]at hrb
  rcases hrb.2 with⟨e,_⟩|⟨_,vs,h1,h2,h3,h4,h5⟩
  ·rw[hv]at e;cases e
  have hi:i<len:=by
   rcases Nat.lt_or_ge i len with h|h
   ·exact h
   ·rw[List.getElem?_eq_none (by rw[List.length_take,List.length_drop];omega)]at hy;cases hy
  rw[List.getElem?_take,if_pos hi,List.getElem?_drop]at hy
  obtain⟨es,a,b,c⟩:=h5 _ y hy
  refine⟨es,a,b,fun j u hj=> ?_⟩
  have:=c j u hj
  rw[Nat.add_mul]at this
  simp[World.cell?,h1,this]
 cases x with
 |pv κ' zs=>
  simp only[argD,Kd.isAgg,cond_false,leafD,leaf0]at h
  cases hcd:castD κ' (.list κ) zs with
  |some z=>
   rw[hcd]at h
   simp only[Option.some.injEq]at h
   subst h
   obtain⟨e,h⟩:=cast_elim hcd
   subst e;subst h
   simp only[RV,Kd.isAgg,Bool.false_eq_true,if_false,RP]at hr
   obtain⟨_,e1,a,c,hv,hc,hr⟩:=hr
   simp only[List.cons.injEq,and_true]at e1
   subst e1
   refine⟨a,c,hv, ?_⟩
   rcases hr with hr|⟨b,off,ha,_,hr⟩
   ·exact .inl hr
   ·exact .inr ⟨b,off,ha,hr⟩
  |none=>
   rw[hcd]at h
   cases κ' with
   |nl e'=>
    simp only[unopt]at h
    obtain⟨e1,h⟩:=cast_elim h
    simp only[Kd.list.injEq]at e1
    subst e1;subst h
    simp only[RV,Kd.isAgg,Bool.false_eq_true,if_false,RP]at hr
    obtain⟨u,e1,hr⟩:=hr
    simp only[List.cons.injEq,and_true]at e1
    subst e1
    rcases hr with⟨rfl,hv⟩|⟨xs,rfl,⟨a,c,hv,hc,hr⟩,_⟩
    ·exact⟨none,0,hv, .inl rfl⟩
    ·refine⟨a,c,hv, ?_⟩
     rcases hr with hr|⟨b,off,ha,_,hr⟩
     ·exact .inl hr
     ·exact .inr ⟨b,off,ha,hr⟩
   |_=>simp[unopt]at h
 |nils=>
  simp only[argD,Kd.isAgg,cond_false,leafD,leaf0,Option.some.injEq]at h
  simp only[RV]at hr
  subst h
  exact⟨none,0,hr, .inl rfl⟩
 |own κ' g=>
  simp only[argD,Kd.isAgg,cond_false,leafD,leaf0]at h
  have hrb:=m.rb g
  split at h
  ·rename_i e κ'' xs hg
   rw[hg]at hrb
   obtain⟨e1,h⟩:=cast_elim h
   simp only[Kd.list.injEq]at e1
   subst e1;subst h
   simp only[RB]at hrb
   simp only[RV]at hr
   rcases hr with⟨hv,hr⟩|⟨hv,hr⟩
   ·rcases hrb.2 with⟨_,e⟩|⟨e,_⟩
    ·subst e;exact⟨none,0,hr, .inl rfl⟩
    ·rw[hv]at e;cases e
   ·rw[hrb.1]at hr
    refine⟨_,_,hr, .inr ⟨_,_,rfl,fun i x hx=> ?_⟩⟩
    have:=own g e xs 0 xs.length hg (by omega) hv i x (by simpa using hx)
    simpa using this
  ·cases h
 |sub κ' g off len=>
  simp only[argD,Kd.isAgg,cond_false,leafD,leaf0]at h
  have hrb:=m.rb g
  split at h
  ·rename_i e κ'' xs hg
   rw[hg]at hrb
   cases hd:decide (κ'=κ'')with
   |false=>rw[hd]at h;cases h
   |true=>
    rw[hd,cond_true]at h
    have e0:=of_decide_eq_true hd
    subst e0
    obtain⟨e1,h⟩:=cast_elim h
    simp only[Kd.list.injEq]at e1
    subst e1;subst h
    simp only[RB]at hrb
    simp only[RV]at hr
    obtain⟨hl,hr⟩:=hr
    rw[hrb.1]at hl
    have hlen:((xs.drop off).take len).length=len:=by rw[List.length_take,List.length_drop];omega
    rcases hr with⟨hz,a,c,hr,_⟩|⟨hv,c,hr,_⟩
    ·subst hz
     exact⟨a,c,by simpa using hr, .inl (by simp)⟩
    ·refine⟨_,c,by rw[hr];simp only[hlen], .inr ⟨_,_,rfl,fun i x hx=>own g e xs off len hg hl hv i x hx⟩⟩
  ·cases h
 |agg cs=>
  simp only[argD,Kd.isAgg,Option.bind_eq_some_iff,cond_false]at h
  obtain⟨p,_,h⟩:=h
  split at h<;>cases h
 |_=>simp[argD,Kd.isAgg,leafD,leaf0]at h
theorem run_append_zero{t ty e:TypeId}{i:TypeInfo}(ht:P.underlying t=some (.slice e))(hi:P.info? e=some i)(a b:Option Addr)(n cap c:Nat)(hn:n≤cap):
 (Builtin.append_ #[t,t] ty #[.slice a n cap, .slice b 0 c]).run P w= .ok (.slice a n cap) w:=by
 cases a<;>cases b<;>simp[Builtin.append_,run_underlying ht,sizeOf,typeInfo,hi,Builtin.lenOf,Builtin.firstCells,hn,loadCells,loadCellsFrom,storeCells]
theorem Row.append{κ:Kd}{xs ys:List (Den κ)}{vs us:List Value}(h:Row Fz w κ xs vs)(hl:vs.length=xs.length*κ.size)(h':Row Fz w κ ys us):Row Fz w κ (xs++ys) (vs++us):=by
 intro i x hx
 rcases Nat.lt_or_ge i xs.length with hlt|hge
 ·rw[List.getElem?_append_left hlt]at hx
  obtain⟨es,a,b,c⟩:=h i x hx
  refine⟨es,a,b,fun j u hj=> ?_⟩
  have:=c j u hj
  rw[List.getElem?_append_left ((List.getElem?_eq_some_iff.1 this).1)];exact this
 ·rw[List.getElem?_append_right hge]at hx
  obtain⟨es,a,b,c⟩:=h' _ x hx
  refine⟨es,a,b,fun j u hj=> ?_⟩
  have e:i*κ.size=xs.length*κ.size+(i-xs.length)*κ.size:=by rw[←Nat.add_mul];congr 1;omega
  rw[List.getElem?_append_right (by omega),show i*κ.size+j-vs.length=(i-xs.length)*κ.size+j by omega]
  exact c j u hj
theorem Row.more{κ:Kd}{xs:List (Den κ)}{vs:List Value}(h:Row Fz w κ xs vs)(us:List Value):Row Fz w κ xs (vs++us):=by
 intro i x hx
 obtain⟨es,a,b,c⟩:=h i x hx
 refine⟨es,a,b,fun j u hj=> ?_⟩
 have:=c j u hj
 rw[List.getElem?_append_left ((List.getElem?_eq_some_iff.1 this).1)];exact this
theorem Row.mono{κ:Kd}{xs:List (Den κ)}{vs:List Value}{w':World}(h:Row Fz w κ xs vs)(hw:∀b,Fz b→w'.heap[b]?=w.heap[b]?):Row Fz w' κ xs vs:=by
 intro i x hx
 obtain⟨es,a,b,c⟩:=h i x hx
 exact⟨es,RP_mono hw (fun _ h=>h) _ _ _ a,b,c⟩
def Behind(w0:Root)(Fz0:Nat→Prop)(ι:Nat→HI)(Fz:Nat→Prop)(st:St)(a:Act)(w:World):Prop:=
 (∀t,RV ι Fz w (getF st.fr t) (a.tmps.getD t undef))∧RD ι Fz w st.df a.defers∧Mem w0 Fz0 ι Fz st.H w
theorem RD_mono{ι':Nat→HI}{Fz':Nat→Prop}{w':World}(hw:∀b,Fz b→w'.heap[b]?=w.heap[b]?)(hf:∀b,Fz b→Fz' b):∀(l:List AV) (ds:List Deferred),(∀h,mentL h l=true→ι' h=ι h)→RD ι Fz w l ds→RD ι' Fz' w' l ds
 |[],ds,_,h=>by simpa only[RD]using h
 |v::l,ds,hm,h=>by
  simp only[RD]at h⊢
  obtain⟨f,caps,vs,s,e,e2,h1,h2⟩:=h
  subst e
  exact⟨f,caps,vs,s,rfl,e2,RVs_mono hw hf _ _ (fun h hh=>hm h (by simp[mentL,AV.ment,hh])) h1,RD_mono hw hf l s (fun h hh=>hm h (by simp[mentL,hh])) h2⟩
theorem Behind.strike{st:St}{a:Act}{d:Nat}{ι':Nat→HI}{Fz':Nat→Prop}{w':World}{H':List (Nat×AB)}(h:Behind w0 Fz0 ι Fz st a w)(hw:∀b,Fz b→w'.heap[b]?=w.heap[b]?)(hf:∀b,Fz b→Fz' b)
 (hd:∀h,h≠d→ι' h=ι h) (hdf:okDf st.df d=true) (m:Mem w0 Fz0 ι' Fz' H' w'):Behind w0 Fz0 ι' Fz' ⟨strikeF d st.fr,H',st.df⟩ a w':=by
 refine⟨fun t=> ?_,RD_mono hw hf _ _ (fun h hh=>hd h (fun e=> ?_)) h.2.1,m⟩
 ·rw[getF_strike]
  exact RV_strike hw hf hd (h.1 t)
 ·subst e
  simp[okDf,hh]at hdf
theorem Behind.mono{st:St}{a:Act}{Fz':Nat→Prop}{w':World}{H':List (Nat×AB)}(h:Behind w0 Fz0 ι Fz st a w)(hw:∀b,Fz b→w'.heap[b]?=w.heap[b]?)(hf:∀b,Fz b→Fz' b)
 (m:Mem w0 Fz0 ι Fz' H' w'):Behind w0 Fz0 ι Fz' ⟨st.fr,H',st.df⟩ a w':=
 ⟨fun t=>RV_mono hw hf _ _ (fun _ _=>rfl) (h.1 t),RD_mono hw hf _ _ (fun _ _=>rfl) h.2.1,m⟩
end
end Go.Av
namespace Go.Av
open Go Go.RowKit
section
variable {R:Type} {P:Program} {w0:Root} {Fz0:Nat→Prop} {ι:Nat→HI} {Fz:Nat→Prop} {H:List (Nat×AB)} {w:World}
theorem okNew_df{df:List AV}{d:Nat}(h:okNew df d=true):okDf df d=true∧d<1000000:=by
 unfold okNew at h
 simp only[Bool.and_eq_true]at h
 exact⟨h.2,Nat.le_of_ble_eq_true h.1⟩
theorem Behind.arr{st:St}{a:Act}{d:Nat}{el:TypeId}{κ:Kd}{xs:List (Den κ)}{vs:Array Value}{blk cap:Nat}{w':World}(b:Behind w0 Fz0 ι Fz st a w)(hdf:okNew st.df d=true)
 (hbel:Bel w0.own w w') (hsz:w.heap.size≤w'.heap.size) (hw:∀b,Fz b→w'.heap[b]?=w.heap[b]?)
 (hl:∀h,(getH st.H h).live→(ι h).virt=false→w'.heap[(ι h).blk]?=w.heap[(ι h).blk]?)
 (hi:w0.own blk∧blk<w'.heap.size∧¬Fz blk∧∀h,h≠d→(getH st.H h).live→(ι h).virt=false→(ι h).blk≠blk)
 (hh:w'.heap[blk]?=some (.cells vs el (0,0))) (hr:Row Fz w κ xs vs.toList) (hlen:xs.length≤cap) (hc:cap≤maxLen) (hs:vs.size=cap*κ.size):
 Behind w0 Fz0 (upd ι d ⟨blk,cap,xs.length,false⟩) Fz ⟨strikeF d st.fr,(d, .arr el κ xs)::strikeH d st.H,st.df⟩ a w'∧RV (upd ι d ⟨blk,cap,xs.length,false⟩) Fz w' (.own κ d) (.slice (some ⟨blk,0,none⟩) xs.length cap):=by
 refine⟨b.strike hw (fun _ h=>h) (fun h hh=>upd_ne _ _ _ hh) (okNew_df hdf).1 (b.2.2.put hbel hsz hw hl (fun _=>hi) ?_ (okNew_df hdf).2 (fun h=>by cases h)), ?_⟩
 ·simp only[RB,upd_at]
  refine⟨trivial, .inr ⟨trivial,vs,hh,hlen,hc,hs,fun i x hx=> ?_⟩⟩
  obtain⟨es,h1,h2,h3⟩:=hr.mono hw i x hx
  exact⟨es,h1,h2,fun j u hj=>by simpa using h3 j u hj⟩
 ·simp only[RV,upd_at]
  exact .inr ⟨trivial,trivial⟩
theorem Behind.virt{st:St}{a:Act}{d:Nat}{el:TypeId}{κ:Kd}(b:Behind w0 Fz0 ι Fz st a w)(hdf:okNew st.df d=true):
 Behind w0 Fz0 (upd ι d ⟨0,0,0,true⟩) Fz ⟨strikeF d st.fr,(d, .arr el κ [])::strikeH d st.H,st.df⟩ a w∧RV (upd ι d ⟨0,0,0,true⟩) Fz w (.own κ d) (.slice none 0 0):=by
 refine⟨b.strike (fun _ _=>rfl) (fun _ h=>h) (fun h hh=>upd_ne _ _ _ hh) (okNew_df hdf).1 (b.2.2.put (Bel.refl _ _) (Nat.le_refl _) (fun _ _=>rfl) (fun _ _ _=>rfl) (fun h=>by cases h) ?_ (okNew_df hdf).2 (fun _=>⟨rfl,rfl⟩)), ?_⟩
 ·simp only[RB,upd_at]
  exact⟨rfl, .inl ⟨trivial,trivial⟩⟩
 ·simp only[RV,upd_at]
  exact .inl ⟨trivial,trivial⟩
theorem below_drew_alloc(w:World)(o:Obj):Below w.heap.size w (w.drew.alloc o):=
 ((Below.refl _ _).drew).alloc (Nat.le_refl _) _
theorem Behind.fresh{st:St}{a:Act}{d:Nat}{el:TypeId}{κ:Kd}{xs:List (Den κ)}{vs:Array Value}{cap:Nat}(b:Behind w0 Fz0 ι Fz st a w)(hdf:okNew st.df d=true)
 (hr:Row Fz w κ xs vs.toList) (hlen:xs.length≤cap) (hc:cap≤maxLen) (hs:vs.size=cap*κ.size):
 Behind w0 Fz0 (upd ι d ⟨w.heap.size,cap,xs.length,false⟩) Fz ⟨strikeF d st.fr,(d, .arr el κ xs)::strikeH d st.H,st.df⟩ a (w.drew.alloc (.cells vs el))∧
  RV (upd ι d ⟨w.heap.size,cap,xs.length,false⟩) Fz (w.drew.alloc (.cells vs el)) (.own κ d) (.slice (some ⟨w.heap.size,0,none⟩) xs.length cap):=by
 have m:=b.2.2
 have hbel:=below_drew_alloc w (.cells vs el)
 refine b.arr hdf (Bel.of hbel fun k hk=>w0.big k (Nat.le_trans m.below.size hk)) hbel.size (fun k hk=>hbel.block k (m.fz k hk)) (fun h hl hv=>hbel.block _ (m.sep h hl hv).2.1) ?_ (heap_new w.drew _) hr hlen hc hs
 refine⟨w0.big _ m.below.size,by simp,fun hf=> ?_,fun h _ hl hv e=> ?_⟩
 ·have:=m.fz _ hf;omega
 ·have:=(m.sep h hl hv).2.1;omega
theorem zeroSz_of{t:TypeId}{n:Nat}(h:zeroSz P t n=true):∃i z,P.info? t=some i∧i.zero=some z∧z.cells.size=n:=by
 unfold zeroSz at h
 split at h
 ·rename_i i hi
  split at h
  ·rename_i z hz;exact⟨i,z,hi,hz,Nat.eq_of_beq_eq_true h⟩
  ·cases h
 ·cases h
theorem Lie.news{news:List Value}{b off:Nat}(h:Lie w news b off):∀j u,news[j]?=some u→w.cell? ((⟨b,off,none⟩:Addr).add j)=some u:=fun j u hj=>by rw[Addr.add_lit];exact h j u hj
theorem live_not_gone(h:Nat){H:List (Nat×AB)}{k:Nat}(hk:(getH ((h, .gone)::H) k).live):k≠h∧(getH H k).live:=by
 rw[getH_cons]at hk
 split at hk
 ·exact hk.elim
 ·rename_i hne;exact⟨Ne.symm hne,hk⟩
theorem appX0_same{t ty:TypeId}{st:St}{s x:AV}{d:Nat}{K:AV→List (Nat×AB)→List Nat→Option R}{r:R}{E:Env}{a:Act}{vs vx:Value}(b:Behind w0 Fz0 ι Fz st a w)(hs:RV ι Fz w s vs)(hx:RV ι Fz w x vx)
 (h:appX0 E t st.H st.df s x d K=some r):∃v ks,K v ks [d]=some r∧okNew st.df d=true∧d∈ks.map Prod.fst∧∃v' w',(Builtin.append_ #[t,t] ty #[vs,vx]).run E.P w= .ok v' w'∧∃(ι':Nat→HI) (Fz':Nat→Prop),Behind w0 Fz0 ι' Fz' ⟨strikeF d st.fr,ks++strikeH d st.H,st.df⟩ a w'∧RV ι' Fz' w' v v'∧(∀n,n≠d→ι' n=ι n):=by
 unfold appX0 at h
 obtain⟨el,hu,h⟩:=elemK_of h
 split at h
 ·rename_i i κ hi hkd
  cases hc:(Nat.beq i.size κ.size&&Nat.ble 1 κ.size&&zeroSz E.P el κ.size&&Nat.ble 1 i.bytes)with
  |false=>rw[hc]at h;cases h
  |true=>
   rw[hc,cond_true]at h
   simp only[Bool.and_eq_true]at hc
   obtain⟨⟨⟨hsz,h1⟩,hzs⟩,hby⟩:=hc
   have hby:=Nat.le_of_ble_eq_true hby
   have hbig':∀n:Nat,n*i.bytes≤140737488355328→n≤maxLen:=fun n hn=>by
    have:=Nat.mul_le_mul_left n hby
    simp only[maxLen];omega
   have hsz:=Nat.eq_of_beq_eq_true hsz
   have h1:=Nat.le_of_ble_eq_true h1
   obtain⟨i',z,hi',hz,hzsz⟩:=zeroSz_of hzs
   rw[hi]at hi'
   simp only[Option.some.injEq]at hi'
   subst hi'
   obtain⟨ys,hys,h⟩:=Option.bind_eq_some_iff.1 h
   cases hdf:okNew st.df d with
   |false=>rw[hdf]at h;cases h
   |true=>
    rw[hdf,Bool.not_true,cond_false]at h
    obtain⟨xa,xc,hxe,hsrc⟩:=src_of b.2.2 hys hx
    have news:ys≠[]→∃ad news,xa=some ad∧news.length=ys.length*i.size∧(∀j u,news[j]?=some u→w.cell? (ad.add j)=some u)∧(∀u∈news,u.oneCell'=true)∧Row Fz w κ ys news:=by
     intro hne
     rcases hsrc with e|⟨bb,off,ha,hsrc⟩
     ·exact absurd e hne
     ·obtain⟨news,a1,a2,a3,a4⟩:=flatten_cells ys bb off hsrc
      exact⟨_,news,ha,by rw[hsz];exact a1,a2.news,a3,a4⟩
    have nil (st1:St) (b1:Behind w0 Fz0 ι Fz st1 a w) (hdf1:okNew st1.df d=true) (hlim:ys.length*i.bytes≤140737488355328):
     ∃v' w',(Builtin.append_ #[t,t] ty #[.slice none 0 0,vx]).run E.P w= .ok v' w'∧∃(ι':Nat→HI) (Fz':Nat→Prop),Behind w0 Fz0 ι' Fz' ⟨strikeF d st1.fr,(d, .arr el κ ys)::strikeH d st1.H,st1.df⟩ a w'∧RV ι' Fz' w' (.own κ d) v'∧(∀n,n≠d→ι' n=ι n):=by
     by_cases hy:ys=[]
     ·subst hy
      rw[hxe]
      obtain⟨p,q⟩:=b1.virt (el:=el) (κ:=κ) hdf1
      exact⟨_,w,run_append_zero hu hi none xa 0 0 xc (Nat.le_refl _),_,_,p,q,fun n hn=>upd_ne _ _ _ hn⟩
     ·obtain⟨ad,nw,rfl,a1,a2,a3,a4⟩:=news hy
      have hpos:0<ys.length:=List.length_pos_iff.2 hy
      by_cases hbig:ys.length≤maxLen
      ·have hsm:ys.length≤9223372036854775807:=by simp only[maxLen]at hbig;omega
       have hr:=run_append_nil (P:=E.P) w t ty el i z hu hi hz ad ys.length xc nw a1 a2 hpos (by omega) (by omega)
       have hge:=grownCap_ge w ys.length 0 el
       obtain⟨p,q⟩:=b1.fresh (el:=el) (κ:=κ) (xs:=ys) (vs:=nw.toArray++Builtin.zeroCells z.cells (grownCap w ys.length 0 el-ys.length)) (cap:=grownCap w ys.length 0 el) hdf1
        (by simpa using a4.more _) hge (grownCap_le_maxLen w _ _ _ hbig) (by
         rw[Array.size_append,List.size_toArray,size_zeroCells,a1,hsz,hzsz,←Nat.add_mul];congr 1;omega)
       rw[hxe]
       exact⟨_,_,hr,_,_,p,q,fun n hn=>upd_ne _ _ _ hn⟩
      ·exact absurd (hbig' _ hlim) hbig
    split at h
    ·--onto nil
     simp only[RV]at hs
     subst hs
     cases hm:(memN E.cut d&& !Nat.ble 1 ys.length)with
     |false=>
      rw[hm,cond_false]at h
      obtain⟨_,hlim,h⟩:=Option.bind_eq_some_iff.1 h
      obtain⟨v',w',e1,ι',Fz',e2,e3⟩:=nil st b hdf (lim_of hlim)
      exact⟨_,_,h,rfl,by simp,v',w',e1,ι',Fz',e2,e3⟩
     |true=>
      rw[hm,cond_true]at h
      simp only[Bool.and_eq_true,Bool.not_eq_true']at hm
      have hy:ys=[]:=by
       have:¬1≤ys.length:=fun q=>by have:=Nat.ble_eq_true_of_le q;rw[this]at hm;simp at hm
       exact List.length_eq_zero_iff.1 (by omega)
      subst hy
      rw[hxe]
      exact⟨_,_,h,rfl,by simp,_,w,run_append_zero hu hi none xa 0 0 xc (Nat.le_refl _),ι,Fz,b.strike (fun _ _=>rfl) (fun _ h=>h) (fun _ _=>rfl) (okNew_df hdf).1 (b.2.2.strike d),by simp[RV],fun _ _=>rfl⟩
    ·--onto a row that has no room
     rename_i κ' zs0 hold0 hold1
     obtain⟨zs,hzs',h⟩:=Option.bind_eq_some_iff.1 h
     obtain⟨e2,hcast⟩:=cast_elim hzs'
     simp only[Kd.list.injEq]at e2
     subst e2
     simp only at hcast
     subst hcast
     cases hy1:Nat.ble 1 ys.length with
     |false=>rw[hy1]at h;cases h
     |true=>
      rw[hy1,cond_true]at h
      have hpos:=Nat.le_of_ble_eq_true hy1
      have hyne:ys≠[]:=fun e=>by rw[e]at hpos;simp at hpos
      obtain⟨_,hlim,h⟩:=Option.bind_eq_some_iff.1 h
      have hlim:=lim_of hlim
      simp only[RV]at hs
      obtain⟨⟨a0,c0,e0,hc0,hcells⟩,a1',e1'⟩:=hs
      rw[e0]at e1'
      simp only[Value.slice.injEq,true_and]at e1'
      obtain⟨rfl,rfl⟩:=e1'
      subst e0
      refine⟨_,_,h,rfl,by simp, ?_⟩
      have old:∃olds:List Value,olds.length=zs0.length*i.size∧(∀ad,a0=some ad→∀j u,olds[j]?=some u→w.cell? (ad.add j)=some u)∧Row Fz w κ' zs0 olds:=by
       rcases hcells with rfl|⟨bb,off,rfl,_,hcells⟩
       ·exact⟨[],by simp,fun _ _ j u hj=>by simp at hj,Row.nil⟩
       ·obtain⟨olds,b1,b2,b3,b4⟩:=flatten_cells zs0 bb off hcells
        refine⟨olds,by rw[hsz];exact b1,fun ad e j u hj=> ?_,b4⟩
        simp only[Option.some.injEq]at e
        subst e
        exact b2.news j u hj
      obtain⟨olds,o1,o2,o3⟩:=old
      by_cases ha0:a0=none
      ·have hz0:zs0=[]:=by
        rcases hcells with e|⟨_,_,e,_⟩
        ·exact e
        ·rw[ha0]at e;cases e
       subst hz0
       subst ha0
       obtain⟨v',w',e1,ι',Fz',e2,e3⟩:=nil st b hdf (by simpa using hlim)
       exact⟨v',w',e1,ι',Fz',by rw[List.nil_append];exact e2,e3⟩
      ·obtain⟨ad0,rfl⟩:=Option.ne_none_iff_exists'.1 ha0
       obtain⟨ad,nw,rfl,a1,a2,a3,a4⟩:=news hyne
       by_cases hbig:zs0.length+ys.length≤maxLen
       ·have hsm:zs0.length+ys.length≤9223372036854775807:=by simp only[maxLen]at hbig;omega
        have hr:=run_append_grow (P:=E.P) w t ty el i z hu hi hz ad0 zs0.length zs0.length olds o1 (o2 ad0 rfl) ad ys.length xc nw a1 a2 (by omega) (by omega) (growslice_fits (by omega) hlim)
        have hge:=grownCap_ge w (zs0.length+ys.length) zs0.length el
        obtain⟨p,q⟩:=b.fresh (el:=el) (κ:=κ') (xs:=zs0++ys) (vs:=olds.toArray++nw.toArray++Builtin.zeroCells z.cells (grownCap w (zs0.length+ys.length) zs0.length el-(zs0.length+ys.length))) (cap:=grownCap w (zs0.length+ys.length) zs0.length el) hdf
         (by
          have:=(Row.append o3 (by rw[o1,hsz]) a4).more (Builtin.zeroCells z.cells (grownCap w (zs0.length+ys.length) zs0.length el-(zs0.length+ys.length))).toList
          simpa using this) (by rw[List.length_append];exact hge) (grownCap_le_maxLen w _ _ _ hbig) (by
          rw[Array.size_append,Array.size_append,List.size_toArray,List.size_toArray,size_zeroCells,a1,o1,hsz,hzsz,←Nat.add_mul,←Nat.add_mul];congr 1;omega)
        rw[List.length_append]at p q
        rw[hxe]
        exact⟨_,_,hr,_,_,p,q,fun n hn=>upd_ne _ _ _ hn⟩
       ·exact absurd (hbig' _ hlim) hbig
    ·rename_i κ' g hold0 hold1
     split at h
     ·rename_i el' κ'' xs hg
      cases hc2:(Nat.beq el el')with
      |false=>rw[hc2]at h;cases h
      |true=>
       rw[hc2,cond_true]at h
       have e1:=Nat.eq_of_beq_eq_true hc2
       subst e1
       obtain⟨zs,hzs',h⟩:=Option.bind_eq_some_iff.1 h
       obtain⟨e2,hcast⟩:=cast_elim hzs'
       simp only[Kd.list.injEq]at e2
       subst e2
       simp only at hcast
       subst hcast
       obtain⟨_,hlim,h⟩:=Option.bind_eq_some_iff.1 h
       have hlim:=lim_of hlim
       refine⟨_,_,h, ?_⟩
       have b1:Behind w0 Fz0 ι Fz ⟨st.fr,(g, .gone)::st.H,st.df⟩ a w:=⟨b.1,b.2.1,b.2.2.drop fun k=>by rw[getH_cons];by_cases e:g=k;(·rw[if_pos e];exact .inr rfl);(·rw[if_neg e];exact .inl rfl)⟩
       have hrb:=b.2.2.rb g
       rw[hg]at hrb
       simp only[RB]at hrb
       simp only[RV]at hs
       rcases hs with⟨hv,rfl⟩|⟨hv,rfl⟩
       ·rcases hrb.2 with⟨_,e⟩|⟨e,_⟩
        ·subst e
         obtain⟨v',w',e1,ι',Fz',e2,e3⟩:=nil _ b1 hdf (by simpa using hlim)
         exact⟨rfl,by simp,v',w',e1,ι',Fz',by rw[List.nil_append];exact e2,by simpa using e3.1,e3.2⟩
        ·rw[hv]at e;cases e
       ·rcases hrb.2 with⟨e,_⟩|⟨_,cur,hh,hlen,hcm,hcs,hrow⟩
        ·rw[hv]at e;cases e
        have hll:=hrb.1
        have hlive:(getH st.H g).live:=by rw[hg];trivial
        obtain⟨s1,s2,s3⟩:=b.2.2.sep g hlive hv
        have hrow':Row Fz w κ'' xs (cur.toList.take (xs.length*κ''.size)):=by
         intro k y hy
         obtain⟨es,a1,a2,a3⟩:=hrow k y hy
         refine⟨es,a1,a2,fun j u hj=> ?_⟩
         have hk:=(List.getElem?_eq_some_iff.1 hy).1
         have hjl:=(List.getElem?_eq_some_iff.1 hj).1
         have:k*κ''.size+κ''.size≤xs.length*κ''.size:=by
          rw[←Nat.succ_mul];exact Nat.mul_le_mul_right _ hk
         rw[List.getElem?_take,if_pos (by omega)]
         simpa using a3 j u hj
        have htl:(cur.toList.take (xs.length*κ''.size)).length=xs.length*κ''.size:=by
         have e9:cur.toList.length=(ι g).cap*κ''.size:=by simpa using hcs
         rw[List.length_take,e9]
         have:=Nat.mul_le_mul_right κ''.size hlen
         omega
        have hothers:∀h,h≠d→(getH ((g, .gone)::st.H) h).live→(ι h).virt=false→(ι h).blk≠(ι g).blk:=fun h hd hl hv' e=>by
         obtain⟨n1,n2⟩:=live_not_gone g hl
         exact n1 (b.2.2.inj h g n2 hlive hv' hv e)
        rw[hll]
        by_cases hy:ys=[]
        ·subst hy
         rw[hxe]
         obtain⟨p,q⟩:=b1.arr (d:=d) (el:=el) (κ:=κ'') (xs:=xs) (vs:=cur) (blk:=(ι g).blk) (cap:=(ι g).cap) (w':=w) hdf (Bel.refl _ _) (Nat.le_refl _) (fun _ _=>rfl) (fun _ _ _=>rfl)
          ⟨s1,s2,s3,hothers⟩ hh (fun k y hy=>by
           obtain⟨es,a1,a2,a3⟩:=hrow k y hy
           exact⟨es,a1,a2,fun j u hj=>by simpa using a3 j u hj⟩) hlen hcm hcs
         refine⟨rfl,by simp,_,w,run_append_zero hu hi _ xa _ _ xc hlen,_,_, ?_,q,fun n hn=>upd_ne _ _ _ hn⟩
         rw[List.append_nil]
         exact p
        ·obtain⟨ad,nw,rfl,a1,a2,a3,a4⟩:=news hy
         rw[hxe]
         by_cases hroom:xs.length+ys.length≤(ι g).cap
         ·have hfit:xs.length*i.size+nw.length≤cur.size:=by rw[a1,hcs,hsz,←Nat.add_mul];exact Nat.mul_le_mul_right _ hroom
          have hr:=run_append_room (P:=E.P) w t ty el i hu hi (ι g).blk xs.length (ι g).cap cur hh ad ys.length xc nw a1 a2 a3 hroom hfit
          have hset:=setRow_heap w (ι g).blk cur (cur.toList.take (xs.length*i.size)++nw++cur.toList.drop (xs.length*i.size+nw.length)).toArray el (0,0) hh
          obtain⟨p,q⟩:=b1.arr (d:=d) (el:=el) (κ:=κ'') (xs:=xs++ys) (vs:=(cur.toList.take (xs.length*i.size)++nw++cur.toList.drop (xs.length*i.size+nw.length)).toArray) (blk:=(ι g).blk) (cap:=(ι g).cap)
           (w':=w.setRow (ι g).blk (cur.toList.take (xs.length*i.size)++nw++cur.toList.drop (xs.length*i.size+nw.length)).toArray) hdf
           ⟨rfl,rfl,rfl,by simp[World.setRow],fun k hk=>setRow_other w _ k _ (fun e=>hk (e▸s1))⟩ (by simp[World.setRow])
           (fun k hk=>setRow_other w _ k _ (fun e=>s3 (e▸hk)))
           (fun h hl hv'=>setRow_other w _ _ _ (fun e=>by
            obtain⟨n1,n2⟩:=live_not_gone g hl
            exact n1 (b.2.2.inj h g n2 hlive hv' hv e)))
           ⟨s1,by simpa[World.setRow]using s2,s3,hothers⟩ hset (by
            have:=(Row.append hrow' htl a4).more (cur.toList.drop (xs.length*i.size+nw.length))
            rw[hsz]
            rw[hsz]at this
            simpa using this) (by simpa using hroom) hcm (by
            have hf:=hfit
            simp only[List.size_toArray,List.length_append,List.length_take,List.length_drop,Array.length_toList,←hcs]
            omega)
          rw[List.length_append]at p q
          exact⟨rfl,by simp,_,_,hr,_,_,p,q,fun n hn=>upd_ne _ _ _ hn⟩
         ·by_cases hbig:xs.length+ys.length≤maxLen
          ·have hold:∀j v,(cur.toList.take (xs.length*κ''.size))[j]?=some v→w.cell? ((⟨(ι g).blk,0,none⟩:Addr).add j)=some v:=fun j v hj=>by
            rw[Addr.add_lit,Nat.zero_add]
            rw[List.getElem?_take]at hj
            split at hj
            ·simp only[World.cell?,hh];simpa using hj
            ·cases hj
           have hsm:xs.length+ys.length≤9223372036854775807:=by simp only[maxLen]at hbig;omega
           have hr:=run_append_grow (P:=E.P) w t ty el i z hu hi hz ⟨(ι g).blk,0,none⟩ xs.length (ι g).cap (cur.toList.take (xs.length*κ''.size)) (by rw[htl,hsz]) hold ad ys.length xc nw a1 a2 (by omega) (by omega) (growslice_fits (by omega) hlim)
           have hge:=grownCap_ge w (xs.length+ys.length) (ι g).cap el
           obtain⟨p,q⟩:=b1.fresh (el:=el) (κ:=κ'') (xs:=xs++ys) (vs:=(cur.toList.take (xs.length*κ''.size)).toArray++nw.toArray++Builtin.zeroCells z.cells (grownCap w (xs.length+ys.length) (ι g).cap el-(xs.length+ys.length))) (cap:=grownCap w (xs.length+ys.length) (ι g).cap el) hdf
            (by
             have:=(Row.append hrow' htl a4).more (Builtin.zeroCells z.cells (grownCap w (xs.length+ys.length) (ι g).cap el-(xs.length+ys.length))).toList
             simpa using this) (by rw[List.length_append];exact hge) (grownCap_le_maxLen w _ _ _ hbig) (by
             rw[Array.size_append,Array.size_append,List.size_toArray,List.size_toArray,size_zeroCells,a1,htl,hsz,hzsz,←Nat.add_mul,←Nat.add_mul];congr 1;omega)
           rw[List.length_append]at p q
           exact⟨rfl,by simp,_,_,hr,_,_,p,q,fun n hn=>upd_ne _ _ _ hn⟩
          ·exact absurd (hbig' _ hlim) hbig
     ·cases h
    ·cases h
 ·cases h
theorem strike_strike(d:Nat)(v:AV):(v.strike d).strike d=v.strike d:=by
 unfold AV.strike
 cases h:v.ment d with
 |true=>rfl
 |false=>simp only[cond_false];rw[h];rfl
theorem AB_strike_strike(d:Nat)(b:AB):(b.strike d).strike d=b.strike d:=by
 cases b with
 |box cs=>simp only[AB.strike,List.map_map];congr 1;exact List.map_congr_left fun v _=>strike_strike d v
 |_=>rfl
theorem appX_elem{t:TypeId}{H:List (Nat×AB)}{df:List AV}{s x:AV}{d:Nat}{K:AV→List (Nat×AB)→List Nat→Option R}{r:R}{E:Env}(h:appX E t H df s x d K=some r):∃el,E.P.underlying t=some (.slice el)∧True:=by
 have go:∀{H:List (Nat×AB)} {s:AV} {K:AV→List (Nat×AB)→List Nat→Option R},appX0 E t H df s x d K=some r→∃el,E.P.underlying t=some (.slice el)∧True:=by
  intro H s K h
  unfold appX0 at h
  obtain⟨el,hu,_⟩:=elemK_of h
  exact⟨el,hu,trivial⟩
 unfold appX at h
 split at h
 ·rename_i κ₀ g off len
  split at h
  ·rename_i e κ xs hg
   cases hc:(decide (κ₀=κ)&&okNew df d&&x.isPv&&Nat.beq off 0&&Nat.ble 1 len)with
   |false=>rw[hc]at h;cases h
   |true=>rw[hc,cond_true]at h;exact go h
  ·cases h
 ·exact go h
theorem appX_same{t ty:TypeId}{st:St}{s x:AV}{d:Nat}{K:AV→List (Nat×AB)→List Nat→Option R}{r:R}{E:Env}{a:Act}{vs vx:Value}(b:Behind w0 Fz0 ι Fz st a w)(hs:RV ι Fz w s vs)(hx:RV ι Fz w x vx)
 (h:appX E t st.H st.df s x d K=some r):∃v ks,K v ks [d]=some r∧okNew st.df d=true∧d∈ks.map Prod.fst∧∃v' w',(Builtin.append_ #[t,t] ty #[vs,vx]).run E.P w= .ok v' w'∧∃(ι':Nat→HI) (Fz':Nat→Prop),Behind w0 Fz0 ι' Fz' ⟨strikeF d st.fr,ks++strikeH d st.H,st.df⟩ a w'∧RV ι' Fz' w' v v'∧(∀n,n≠d→ι' n=ι n):=by
 unfold appX at h
 split at h
 ·rename_i κ₀ g off len
  split at h
  ·rename_i e κ xs hg
   cases hc:(decide (κ₀=κ)&&okNew st.df d&&x.isPv&&Nat.beq off 0&&Nat.ble 1 len)with
   |false=>rw[hc]at h;cases h
   |true=>
    rw[hc,cond_true]at h
    simp only[Bool.and_eq_true,decide_eq_true_eq]at hc
    obtain⟨⟨⟨⟨rfl,hdf⟩,hpv⟩,ho⟩,hl⟩:=hc
    have ho:=Nat.eq_of_beq_eq_true ho
    have hl:=Nat.le_of_ble_eq_true hl
    subst ho
    have m:=b.2.2
    have hrb:=m.rb g
    rw[hg]at hrb
    simp only[RB]at hrb
    simp only[RV]at hs
    obtain⟨hle,hs⟩:=hs
    rcases hs with⟨e0,_⟩|⟨hv,c,rfl,hc1,hc2⟩
    ·omega
    have hcc:c=(ι g).cap:=by omega
    subst hcc
    rcases hrb.2 with⟨e0,_⟩|⟨_,cur,hh,hlen,hcm,hcs,hrow⟩
    ·rw[hv]at e0;cases e0
    have b1:Behind w0 Fz0 ι Fz ⟨st.fr,(g, .gone)::st.H,st.df⟩ a w:=⟨b.1,b.2.1,m.drop fun k=>by rw[getH_cons];by_cases e:g=k;(·rw[if_pos e];exact .inr rfl);(·rw[if_neg e];exact .inl rfl)⟩
    have hlive:(getH st.H g).live:=by rw[hg];trivial
    obtain⟨s1,s2,s3⟩:=m.sep g hlive hv
    have hothers:∀h,h≠d→(getH ((g, .gone)::st.H) h).live→(ι h).virt=false→(ι h).blk≠(ι g).blk:=fun h hd hl hv' e=>by
     obtain⟨n1,n2⟩:=live_not_gone g hl
     exact n1 (m.inj h g n2 hlive hv' hv e)
    have htl:(xs.take len).length=len:=by rw[List.length_take];omega
    obtain⟨p,q⟩:=b1.arr (d:=d) (el:=e) (κ:=κ₀) (xs:=xs.take len) (vs:=cur) (blk:=(ι g).blk) (cap:=(ι g).cap) (w':=w) hdf (Bel.refl _ _) (Nat.le_refl _) (fun _ _=>rfl) (fun _ _ _=>rfl)
     ⟨s1,s2,s3,hothers⟩ hh (fun k y hy=>by
      have hy':xs[k]?=some y:=by
       rw[List.getElem?_take]at hy
       split at hy
       ·exact hy
       ·cases hy
      obtain⟨es,a1,a2,a3⟩:=hrow k y hy'
      exact⟨es,a1,a2,fun j u hj=>by simpa using a3 j u hj⟩) (by rw[htl];omega) hcm hcs
    rw[htl]at q
    have hx1:RV (upd ι d ⟨(ι g).blk,(ι g).cap,(xs.take len).length,false⟩) Fz w x vx:=by
     exact RV_mono (fun _ _=>rfl) (fun _ h=>h) _ _ (fun k hk=>by
      have:=pvL_ment k (l:=[x]) (by simp[hpv])
      simp only[mentL,Bool.or_false]at this
      rw[this]at hk;cases hk) hx
    rw[Nat.zero_mul]
    have hst1:strikeH d ((g,AB.gone)::st.H)=(g, .gone)::strikeH d st.H:=rfl
    rw[hst1]at p
    rw[htl]at p hx1
    obtain⟨v,ks,hk,_,hdk,v',w',hr,ι',Fz',hb',hv',hι⟩:=appX0_same (ty:=ty) (st:=⟨strikeF d st.fr,(d, .arr e κ₀ (xs.take len))::(g, .gone)::strikeH d st.H,st.df⟩) p q hx1 h
    refine⟨v,_,hk,hdf,by rw[List.map_append];exact List.mem_append_left _ hdk,v',w',hr,ι',Fz',⟨fun t=> ?_,hb'.2.1,hb'.2.2.drop fun k=> .inl ?_⟩,hv',fun n hn=>(hι n hn).trans (upd_ne _ _ _ hn)⟩
    ·have:=hb'.1 t
     rwa[getF_strike,getF_strike,strike_strike,←getF_strike]at this
    ·show getH ((ks++[(g, .gone)])++strikeH d st.H) k=getH (ks++strikeH d ((d, .arr e κ₀ (xs.take len))::(g, .gone)::strikeH d st.H)) k
     rw[List.append_assoc]
     have key:∀(l:List (Nat×AB)) (A B:List (Nat×AB)),(k∉l.map Prod.fst→getH A k=getH B k)→getH (l++A) k=getH (l++B) k:=by
      intro l A B
      induction l with
      |nil=>intro h;exact h (by simp)
      |cons p l ih=>
       obtain⟨n,bb⟩:=p
       intro h
       rw[List.cons_append,List.cons_append,getH_cons,getH_cons]
       by_cases e1:n=k
       ·rw[if_pos e1,if_pos e1]
       ·rw[if_neg e1,if_neg e1]
        exact ih fun hn=>h (by simp only[List.map_cons,List.mem_cons,not_or];exact⟨fun e=>e1 e.symm,hn⟩)
     refine key ks _ _ fun hn=> ?_
     have hkd:d≠k:=fun e=>hn (e▸hdk)
     show getH ((g, .gone)::strikeH d st.H) k=getH (strikeH d ((d, .arr e κ₀ (xs.take len))::(g, .gone)::strikeH d st.H)) k
     rw[getH_strike,getH_cons (s:=d),if_neg hkd,getH_cons]
     by_cases e1:g=k
     ·simp only[if_pos e1];rfl
     ·simp only[if_neg e1];rw[getH_strike,AB_strike_strike]
  ·cases h
 ·exact appX0_same b hs hx h
theorem appX_of{t t' ty:TypeId}{st:St}{s x:AV}{d:Nat}{K:AV→List (Nat×AB)→List Nat→Option R}{r:R}{E:Env}{a:Act}{vs vx:Value}(b:Behind w0 Fz0 ι Fz st a w)(hs:RV ι Fz w s vs)(hx:RV ι Fz w x vx)
 (htt:sameSl E.P t t'=true) (h:appX E t st.H st.df s x d K=some r):∃v ks,K v ks [d]=some r∧okNew st.df d=true∧d∈ks.map Prod.fst∧∃v' w',(Builtin.append_ #[t,t'] ty #[vs,vx]).run E.P w= .ok v' w'∧∃(ι':Nat→HI) (Fz':Nat→Prop),Behind w0 Fz0 ι' Fz' ⟨strikeF d st.fr,ks++strikeH d st.H,st.df⟩ a w'∧RV ι' Fz' w' v v'∧(∀n,n≠d→ι' n=ι n):=by
 have hrun:∀args w,(Builtin.append_ #[t,t'] ty args).run E.P w=(Builtin.append_ #[t,t] ty args).run E.P w:=by
  unfold sameSl at htt
  rw[Bool.or_eq_true]at htt
  rcases htt with htt|htt
  ·have:=Nat.eq_of_beq_eq_true htt
   subst this;intro args w;rfl
  ·split at htt
   ·rename_i e' hu'
    obtain⟨el,hu,_⟩:=appX_elem h
    intro args w
    simp only[Builtin.append_]
    cases args[0]?<;>cases args[1]?<;>try rfl
    rename_i sv xv
    have hz:∀{α:Type} (f:Bool→Sem α) (w1:World),(do let u←underlying t';f (u matches .int _):Sem α).run E.P w1=(f false).run E.P w1:=by
     intro α f w1;simp only[Sem.run_bind,run_underlying hu',Result.andThen_ok]
    have hz2:∀{α:Type} (f:Bool→Sem α) (w1:World),(do let u←underlying t;f (u matches .int _):Sem α).run E.P w1=(f false).run E.P w1:=by
     intro α f w1;simp only[Sem.run_bind,run_underlying hu,Result.andThen_ok]
    cases sv<;>simp only[Sem.run_bind,run_underlying hu,run_underlying hu',Result.andThen_ok,List.getElem?_toArray,List.getElem?_cons_zero,List.getElem?_cons_succ]<;>try rfl
    all_goals
     congr 1
     funext size w1
     simp[run_underlying hu,run_underlying hu']
   ·cases htt
 simp only[hrun]
 exact appX_same b hs hx h
theorem appZ_of{t t' ty:TypeId}{st:St}{s x:AV}{d:Nat}{K:AV→List (Nat×AB)→List Nat→Option R}{r:R}{E:Env}{a:Act}{vs vx:Value}(b:Behind w0 Fz0 ι Fz st a w)(hs:RV ι Fz w s vs)(hx:RV ι Fz w x vx)
 (h:appZ E t t' st.df s x d K=some r):∃v ks,K v ks [d]=some r∧okNew st.df d=true∧d∈ks.map Prod.fst∧∃v' w',(Builtin.append_ #[t,t'] ty #[vs,vx]).run E.P w= .ok v' w'∧∃(ι':Nat→HI) (Fz':Nat→Prop),Behind w0 Fz0 ι' Fz' ⟨strikeF d st.fr,ks++strikeH d st.H,st.df⟩ a w'∧RV ι' Fz' w' v v'∧(∀n,n≠d→ι' n=ι n):=by
 unfold appZ at h
 obtain⟨el,hu,h⟩:=elemK_of h
 split at h
 ·rename_i i κ hi hkd
  split at h
  ·rename_i z hz
   cases hc:(Nat.beq i.size κ.size&&Nat.ble 1 κ.size&&zeroB κ z.cells.toList&&Nat.ble 1 i.bytes&&okNew st.df d&&isIntT E.P t')with
   |false=>rw[hc]at h;cases h
   |true=>
    rw[hc,cond_true]at h
    simp only[Bool.and_eq_true]at hc
    obtain⟨⟨⟨⟨⟨hsz,h1⟩,hzb⟩,hby⟩,hdf⟩,htn⟩:=hc
    have hsz:=Nat.eq_of_beq_eq_true hsz
    have h1:=Nat.le_of_ble_eq_true h1
    have hby:=Nat.le_of_ble_eq_true hby
    unfold isIntT at htn
    split at htn<;>try(cases htn;done)
    rename_i kn hkn
    split at h
    ·rename_i k n _
     cases hn:decide (1≤n)with
     |false=>rw[hn]at h;cases h
     |true=>
      rw[hn,cond_true]at h
      have hn:=of_decide_eq_true hn
      obtain⟨_,hlim,h⟩:=Option.bind_eq_some_iff.1 h
      have hlim:=lim_of hlim
      simp only[RV]at hs
      rw[RV_int]at hx
      subst hs hx
      obtain⟨m,rfl⟩:=Int.eq_ofNat_of_zero_le (show(0:Int)≤n from Int.le_trans (show(0:Int)≤1 from Int.zero_le_ofNat 1) hn)
      have hmn:((m:Nat):Int).toNat=m:=Int.toNat_natCast m
      rw[hmn]at h hlim
      have hm0:0<m:=by
       have:(1:Int)≤(m:Int):=hn
       omega
      have hmm:m≤maxLen:=by
       have h2:m*1≤m*i.bytes:=Nat.mul_le_mul_left m hby
       have h3:m≤140737488355328:=by rw[Nat.mul_one]at h2;exact Nat.le_trans h2 hlim
       simp only[maxLen];omega
      have hzr:=zeroB_of (Fz:=Fz) (w:=w) κ _ hzb
      have hzl:=RP_len κ _ _ hzr
      have hzs:z.cells.size=κ.size:=by simpa using hzl
      have hrow:Row Fz w κ (List.replicate m κ.zero) (Builtin.zeroCells z.cells m).toList:=by
       intro j x hx
       have hj:j<m:=by
        have:=List.getElem?_eq_some_iff.1 hx
        obtain⟨hlt,_⟩:=this
        simpa using hlt
       have hx':x=κ.zero:=by
        rw[List.getElem?_replicate,if_pos hj]at hx
        simpa using hx.symm
       subst hx'
       refine⟨_,hzr,hzl,fun q u hq=> ?_⟩
       have hql:q<κ.size:=by
        have:=(List.getElem?_eq_some_iff.1 hq).1
        omega
       have hidx:j*κ.size+q<m*z.cells.size:=by
        rw[hzs]
        have h2:(j+1)*κ.size≤m*κ.size:=Nat.mul_le_mul_right _ (by omega)
        rw[Nat.add_mul,Nat.one_mul]at h2
        omega
       rw[Array.getElem?_toList]
       unfold Builtin.zeroCells
       rw[Array.getElem?_map,Array.getElem?_range,if_pos hidx]
       have hmod:(j*κ.size+q)%z.cells.size=q:=by
        rw[hzs,Nat.add_comm,Nat.add_mul_mod_self_right,Nat.mod_eq_of_lt hql]
       simp only[Option.map_some,hmod]
       rw[Array.getElem?_toList]at hq
       rw[getElem!_pos z.cells q (by omega)]
       rw[←hq,Array.getElem?_eq_getElem (by omega)]
      have hr:=Lib.run_append_nil_zeros (P:=E.P) w t t' ty el i z k kn hu hkn hi hz m hm0 (by omega) (by simp only[maxLen]at hmm;omega) (by omega)
      have hge:=grownCap_ge w m 0 el
      obtain⟨p,q⟩:=b.fresh (el:=el) (κ:=κ) (xs:=List.replicate m κ.zero) (vs:=Builtin.zeroCells z.cells m++Builtin.zeroCells z.cells (grownCap w m 0 el-m)) (cap:=grownCap w m 0 el) hdf
       (by simpa using hrow.more _) (by simpa using hge) (grownCap_le_maxLen w _ _ _ hmm) (by
        rw[Array.size_append,size_zeroCells,size_zeroCells,hzs,←Nat.add_mul];congr 1;omega)
      rw[List.length_replicate]at p q
      exact⟨_,_,h,hdf,by simp,_,_,hr,_,_,p,q,fun n hn=>upd_ne _ _ _ hn⟩
    ·cases h
  ·cases h
 ·cases h
end
end Go.Av
namespace Go.Av
open Go Go.RowKit
section
variable {R:Type} {P:Program} {w0:Root} {Fz0:Nat→Prop} {ι:Nat→HI} {Fz:Nat→Prop} {H:List (Nat×AB)} {w:World}
theorem RV_frz{Fz':Nat→Prop}{h:Nat}{e:TypeId}{κ:Kd}{xs:List (Den κ)}{a:AV}{v:Value}(hrb:RB ι Fz w h (.arr e κ xs))(hf:∀b,Fz b→Fz' b)(hb:(ι h).virt=false→Fz' (ι h).blk)
 (hr:RV ι Fz w a v):RV ι Fz' w (a.frz h κ xs) v:=by
 have strike:RV ι Fz' w (a.strike h) v:=RV_strike (fun _ _=>rfl) hf (fun _ _=>rfl) hr
 cases a with
 |own κ' g=>
  simp only[AV.frz]
  cases hg:Nat.beq g h with
  |false=>exact RV_mono (fun _ _=>rfl) hf _ _ (fun _ _=>rfl) hr
  |true=>
   have e1:=Nat.eq_of_beq_eq_true hg
   subst e1
   have hlen:=hrb.1
   have key:=arr_RLf hrb hf hb 0 xs.length (by omega) (v:=v) (by
    simp only[RV]at hr
    simp only[RB]at hrb
    rcases hr with⟨hv,rfl⟩|⟨hv,rfl⟩
    ·left
     rcases hrb.2 with⟨_,e⟩|⟨e,_⟩
     ·rw[e];exact⟨rfl,none,0,rfl⟩
     ·rw[hv]at e;cases e
    ·right
     refine⟨hv,(ι g).cap,by rw[hlen];simp, ?_⟩
     rcases hrb.2 with⟨e,_⟩|⟨_,vs,_,e,_⟩
     ·rw[hv]at e;cases e
     ·exact e)
   simp only[cond_true,RV,Kd.isAgg,Bool.false_eq_true,if_false,RP]
   exact⟨v,rfl,by simpa using key⟩
 |sub κ' g off len=>
  simp only[AV.frz]
  cases hg:Nat.beq g h with
  |false=>exact RV_mono (fun _ _=>rfl) hf _ _ (fun _ _=>rfl) hr
  |true=>
   have e1:=Nat.eq_of_beq_eq_true hg
   subst e1
   cases hd:decide (κ'=κ)with
   |false=>simp[RV]
   |true=>
    have e2:=of_decide_eq_true hd
    subst e2
    simp only[RV]at hr
    have hlen:=hrb.1
    simp only[cond_true,RV,Kd.isAgg,Bool.false_eq_true,if_false,RP]
    exact⟨v,rfl,arr_RLf hrb hf hb off len (by omega) (v:=v) (sub_old (f:=fun c=> .slice (some ⟨_,_,none⟩) len c) hr.2)⟩
 |_=>exact strike
theorem RVs_frz{Fz':Nat→Prop}{h:Nat}{e:TypeId}{κ:Kd}{xs:List (Den κ)}(hrb:RB ι Fz w h (.arr e κ xs))(hf:∀b,Fz b→Fz' b)(hb:(ι h).virt=false→Fz' (ι h).blk):
 ∀{cs:List AV} {vs:List Value},RVs ι Fz w cs vs→RVs ι Fz' w (cs.map (AV.frz h κ xs)) vs
 |[],vs,h=>by simp only[RVs,List.map_nil]at h⊢;exact h
 |c::cs,vs,h=>by
  simp only[RVs,List.map_cons]at h⊢
  obtain⟨v,r,e,h1,h2⟩:=h
  exact⟨v,r,e,RV_frz hrb hf hb h1,RVs_frz hrb hf hb h2⟩
theorem frz_of{st:St}{a:Act}{h:Nat}(b:Behind w0 Fz0 ι Fz st a w)(hdf:okDf st.df h=true):∃Fz':Nat→Prop,(∀b,Fz b→Fz' b)∧Behind w0 Fz0 ι Fz' (st.frz h) a w∧
 ((getH st.H h).isArr→(ι h).virt=false→Fz' (ι h).blk)∧(∀k,(getH (st.frz h).H k).isArr→(getH st.H k).isArr):=by
 unfold St.frz
 split
 ·rename_i e κ xs hg
  have m:=b.2.2
  have hrb:=m.rb h
  rw[hg]at hrb
  have hlive:(getH st.H h).live:=by rw[hg];trivial
  refine⟨fun k=>Fz k∨((ι h).virt=false∧k=(ι h).blk),fun _ h=> .inl h,⟨fun t=> ?_, ?_, ?_⟩,fun _ hv=> .inr ⟨hv,rfl⟩,fun k hk=> ?_⟩
  ·show RV _ _ _ (getF (st.fr.map fun(t,v)=>(t,v.frz h κ xs)) t) _
   rw[getF_map (AV.frz h κ xs) rfl]
   exact RV_frz hrb (fun _ h=> .inl h) (fun hv=> .inr ⟨hv,rfl⟩) (b.1 t)
  ·exact RD_mono (fun _ _=>rfl) (fun _ h=> .inl h) _ _ (fun _ _=>rfl) b.2.1
  ·have e:∀k,getH ((h, .gone)::st.H.map fun(t,b)=>(t,b.frz h κ xs)) k=if h=k then .gone else(getH st.H k).frz h κ xs:=fun k=>by
    rw[getH_cons,getH_map (AB.frz h κ xs) rfl]
   have live:∀k,(getH ((h, .gone)::st.H.map fun(t,b)=>(t,b.frz h κ xs)) k).live→k≠h∧(getH st.H k).live:=fun k hk=>by
    rw[e]at hk
    split at hk
    ·exact hk.elim
    ·rename_i hne
     refine⟨Ne.symm hne, ?_⟩
     revert hk
     cases getH st.H k<;>simp[AB.frz,AB.live]
   refine⟨m.below,fun k hk=> ?_,fun k hk=> .inl (m.fz0 k hk),fun k hk=> ?_,fun k=> ?_,fun k hk hv=> ?_,fun k k' hk hk'=>m.inj k k' (live k hk).2 (live k' hk').2,m.iot,fun k=>(by rw[e];split;trivial;(·have:=m.cn k;revert this;cases getH st.H k<;>exact id)),m.gz⟩
   ·rcases hk with hk|⟨hv,rfl⟩
    ·exact m.fz k hk
    ·exact(m.sep h hlive hv).2.1
   ·rcases hk with hk|⟨hv,rfl⟩
    ·exact m.fzn k hk
    ·exact .inr (m.sep h hlive hv).1
   ·rw[e]
    split
    ·trivial
    ·have hk:=m.rb k
     generalize getH st.H k=bk at hk
     cases bk with
     |gone=>trivial
     |box cs=>
      simp only[RB,AB.frz]at hk⊢
      obtain⟨hv,vs,T,h1,h2,h3⟩:=hk
      exact⟨hv,vs,T,h1,RVs_frz hrb (fun _ h=> .inl h) (fun hv=> .inr ⟨hv,rfl⟩) h2,h3⟩
     |arr e' κ' ys=>exact RB_mono (fun _ _=>rfl) (fun _ h=> .inl h) (fun _ _=>rfl) hk
   ·obtain⟨hne,hl⟩:=live k hk
    obtain⟨a1,a2,a3⟩:=m.sep k hl hv
    refine⟨a1,a2,fun hf=> ?_⟩
    rcases hf with hf|⟨hv',e⟩
    ·exact a3 hf
    ·exact hne (m.inj k h hl hlive hv hv' e)
  ·rw[getH_cons,getH_map (AB.frz h κ xs) rfl]at hk
   split at hk
   ·exact hk.elim
   ·revert hk
    cases getH st.H k<;>simp[AB.frz,AB.isArr]
 ·rename_i hng
  refine⟨Fz,fun _ h=>h,b,fun ha=> ?_,fun _ h=>h⟩
  cases hk:getH st.H h with
  |arr e κ xs=>exact absurd hk (hng e κ xs)
  |gone=>rw[hk]at ha;exact ha.elim
  |box cs=>rw[hk]at ha;exact ha.elim
theorem frzArgs_of:∀(avs:List AV) {Fz:Nat→Prop} {st st':St} {a:Act},frzArgs st avs=some st'→Behind w0 Fz0 ι Fz st a w→
 ∃Fz':Nat→Prop,(∀b,Fz b→Fz' b)∧Behind w0 Fz0 ι Fz' st' a w∧(∀h,mentL h avs=true→(getH st.H h).live→(ι h).virt=false→Fz' (ι h).blk)∧
  (∀h,mentL h avs=false→(getH st.H h).live→(getH st'.H h).live)∧(∀h,(getH st'.H h).live→(getH st.H h).live)
 |[],Fz,st,st',a,h,b=>by
  simp only[frzArgs,Option.some.injEq]at h
  subst h
  exact⟨Fz,fun _ h=>h,b,fun h hm=>by simp[mentL]at hm,fun _ _ h=>h,fun _ h=>h⟩
 |c::cs,Fz,st,st',a,h,b=>by
  have step:∀(g:Nat),(bif okDf st.df g&&(getH st.H g).notBox then frzArgs (st.frz g) cs else none)=some st'→(∀h,c.ment h=true→h=g)→c.ment g=true→
   ∃Fz':Nat→Prop,(∀b,Fz b→Fz' b)∧Behind w0 Fz0 ι Fz' st' a w∧(∀h,mentL h (c::cs)=true→(getH st.H h).live→(ι h).virt=false→Fz' (ι h).blk)∧
    (∀h,mentL h (c::cs)=false→(getH st.H h).live→(getH st'.H h).live)∧(∀h,(getH st'.H h).live→(getH st.H h).live):=by
   intro g h hm hm'
   cases hdf:(okDf st.df g&&(getH st.H g).notBox)with
   |false=>rw[hdf]at h;cases h
   |true=>
    rw[hdf,cond_true]at h
    simp only[Bool.and_eq_true]at hdf
    obtain⟨F1,f1,b1,f2,f3⟩:=frz_of b hdf.1
    obtain⟨F2,g1,b2,g2,g3,g4⟩:=frzArgs_of cs h b1
    have still:∀k,k≠g→((getH (st.frz g).H k).live↔(getH st.H k).live):=by
     intro k e
     unfold St.frz
     split
     ·rename_i e' κ xs hg
      rw[getH_cons,getH_map (AB.frz g κ xs) rfl,if_neg (Ne.symm e)]
      cases getH st.H k<;>simp[AB.frz,AB.live]
     ·exact Iff.rfl
    refine⟨F2,fun _ h=>g1 _ (f1 _ h),b2,fun k hk ha hv=> ?_,fun k hk ha=> ?_,fun k hk=> ?_⟩
    ·by_cases e:k=g
     ·subst e
      refine g1 _ (f2 ?_ hv)
      have:=hdf.2
      revert this ha
      cases getH st.H k<;>simp[AB.live,AB.notBox,AB.isArr]
     ·simp only[mentL,Bool.or_eq_true]at hk
      rcases hk with hk|hk
      ·exact absurd (hm k hk) e
      ·exact g2 k hk ((still k e).2 ha) hv
    ·have e:k≠g:=fun e=>by subst e;simp[mentL,hm']at hk
     simp only[mentL,Bool.or_eq_false_iff]at hk
     exact g3 k hk.2 ((still k e).2 ha)
    ·have hk2:=g4 k hk
     by_cases e:k=g
     ·subst e
      revert hk2
      unfold St.frz
      split
      ·rename_i e' κ xs hg;rw[hg];intro _;trivial
      ·exact id
     ·exact(still k e).1 hk2
  have skip:frzArgs st cs=some st'→(∀h,c.ment h=false)→
   ∃Fz':Nat→Prop,(∀b,Fz b→Fz' b)∧Behind w0 Fz0 ι Fz' st' a w∧(∀h,mentL h (c::cs)=true→(getH st.H h).live→(ι h).virt=false→Fz' (ι h).blk)∧
    (∀h,mentL h (c::cs)=false→(getH st.H h).live→(getH st'.H h).live)∧(∀h,(getH st'.H h).live→(getH st.H h).live):=by
   intro h hm
   obtain⟨F2,g1,b2,g2,g3,g4⟩:=frzArgs_of cs h b
   exact⟨F2,g1,b2,fun k hk ha hv=>g2 k (by simpa[mentL,hm k]using hk) ha hv,fun k hk=>g3 k (by simpa[mentL,hm k]using hk),g4⟩
  simp only[frzArgs]at h
  split at h
  ·exact step _ h (fun k hk=>by simp only[AV.ment]at hk;exact(Nat.eq_of_beq_eq_true hk).symm) (by simp[AV.ment])
  ·exact step _ h (fun k hk=>by simp only[AV.ment]at hk;exact(Nat.eq_of_beq_eq_true hk).symm) (by simp[AV.ment])
  ·cases hfr:(c.free|| !c.handled)with
   |false=>rw[hfr]at h;cases h
   |true=>
    rw[hfr,cond_true]at h
    refine skip h fun k=> ?_
    simp only[Bool.or_eq_true]at hfr
    rcases hfr with hfr|hfr
    ·exact free_ment c hfr k
    ·have:=noH_ment (cs:=[c]) (by simpa using hfr) k
     simpa[mentL]using this
theorem pv_cells{κ:Kd}{x:Den κ}{v:Value}(h:RV ι Fz w (.pv κ x) v):RP Fz w κ x v.cells.toList:=by
 simp only[RV]at h
 cases hka:κ.isAgg with
 |true=>simp only[hka,if_true]at h;obtain⟨vs,e,h⟩:=h;rw[e];exact h
 |false=>
  simp only[hka,Bool.false_eq_true,if_false]at h
  have h1:=RP_one κ x _ h v (by simp)
  have:v.cells.toList=[v]:=by cases v<;>simp_all [Value.cells,Value.oneCell']
  rw[this];exact h
theorem setV_lt:∀(us vs:List Value) (off k:Nat),k<off→(setV vs off us)[k]?=vs[k]?
 |[],_,_,_,_=>rfl
 |u::us,vs,off,k,h=>by
  simp only[setV]
  rw[setV_lt us _ _ _ (by omega),List.getElem?_set_ne (by omega)]
theorem setV_ge:∀(us vs:List Value) (off k:Nat),off+us.length≤k→(setV vs off us)[k]?=vs[k]?
 |[],_,_,_,_=>rfl
 |u::us,vs,off,k,h=>by
  simp only[List.length_cons]at h
  simp only[setV]
  rw[setV_ge us _ _ _ (by omega),List.getElem?_set_ne (by omega)]
theorem setV_in:∀(us vs:List Value) (off j:Nat),j<us.length→off+us.length≤vs.length→(setV vs off us)[off+j]?=us[j]?
 |[],_,_,_,h,_=>by simp at h
 |u::us,vs,off,0,h,h2=>by
  simp only[List.length_cons]at h2
  simp only[setV]
  rw[setV_lt us _ _ _ (by omega),Nat.add_zero,List.getElem?_set_self (by omega)]
  rfl
 |u::us,vs,off,j+1,h,h2=>by
  simp only[List.length_cons]at h h2
  simp only[setV]
  rw[show off+(j+1)=off+1+j by omega,setV_in us _ (off+1) j (by omega) (by simp;omega)]
  simp
theorem setV_app:∀(us vs rest:List Value) (off:Nat),off+us.length≤vs.length→setV (vs++rest) off us=setV vs off us++rest
 |[],_,_,_,_=>rfl
 |u::us,vs,rest,off,h=>by
  simp only[List.length_cons]at h
  simp only[setV]
  rw[List.set_append_left _ _ (by omega),setV_app us _ _ _ (by simp;omega)]
def Wp(P:Program)(w0:Root)(Fz0:Nat→Prop)(o:Oper)(a:Act)(w:World)(v:AV)(st':St):Prop:=
 ∀(K:Act→World→Prop) (Q:Exit→Act→World→Prop),(∀v' a' w' ι' Fz',a'.tmps=a.tmps→Behind w0 Fz0 ι' Fz' st' a' w'→RV ι' Fz' w' v v'→K (a'.put o.dst v') w')→o.wp P a w K Q
theorem stX_of{t:TypeId}{st:St}{av xv:AV}{vx vy:Value}{K:AV→List (Nat×AB)→List Nat→Option R}{r:R}{E:Env}{a:Act}(b:Behind w0 Fz0 ι Fz st a w)(hx:RV ι Fz w av vx)(hy:RV ι Fz w xv vy)
 (h:stX E t av xv st.H K=some r):∃ks,K .dead ks []=some r∧∃w',(Instr.storeAt t vx vy).run E.P w= .ok () w'∧Behind w0 Fz0 ι Fz ⟨st.fr,ks++st.H,st.df⟩ a w':=by
 have m:=b.2.2
 unfold stX at h
 have fin:∀{ks:List (Nat×AB)} {w':World},K .dead ks []=some r→(Instr.storeAt t vx vy).run E.P w= .ok () w'→Behind w0 Fz0 ι Fz ⟨st.fr,ks++st.H,st.df⟩ a w'→(AV.dead= .dead)→
  ∃ks,K .dead ks []=some r∧∃w',(Instr.storeAt t vx vy).run E.P w= .ok () w'∧Behind w0 Fz0 ι Fz ⟨st.fr,ks++st.H,st.df⟩ a w':=
  fun hk hr hb _=>⟨_,hk,_,hr,hb⟩
 split at h
 ·rename_i g off
  simp only[RV]at hx
  obtain⟨hv,hxe⟩:=hx
  have hrb:=m.rb g
  split at h
  ·rename_i cs hg
   rw[hg]at hrb
   simp only[RB]at hrb
   obtain⟨_,vs,T,⟨rest,hh⟩,hcs,h1⟩:=hrb
   cases hc:(sizeB E.P t xv.flat.length&&Nat.ble (off+xv.flat.length) cs.length&&aliveL xv.flat)with
   |false=>rw[hc]at h;cases h
   |true=>
    rw[hc,cond_true]at h
    simp only[Bool.and_eq_true]at hc
    obtain⟨⟨hs,hle⟩,hal⟩:=hc
    obtain⟨inf,hinf,hsz⟩:=sizeB_of hs
    have hle:=Nat.le_of_ble_eq_true hle
    obtain⟨hfl,hone⟩:=flat_of hy hal
    have hl1:=RVs_len hfl
    have hl2:=RVs_len hcs
    have hl3:vy.cells.toList.length=vy.cells.size:=by simp
    obtain⟨w',hr,hu⟩:=run_storeCells (P:=E.P) vy.cells.toList (vs++rest) w off 0 hh (by rw[List.length_append];omega) hone
    simp only[Nat.add_zero]at hu
    rw[setV_app _ _ _ _ (by omega)]at hu
    have hlive:(getH st.H g).live:=by rw[hg];trivial
    obtain⟨s1,s2,s3⟩:=m.sep g hlive hv
    have hw:∀b,Fz b→w'.heap[b]?=w.heap[b]?:=fun k hk=>hu.ne k (fun e=>s3 (e▸hk))
    refine fin h (w':=w') ?_ (b.mono hw (fun _ h=>h) (m.upd hlive hv hu ?_ trivial (by have:=m.cn g;rw[hg]at this;exact this))) rfl
    ·have hne:¬vy.cells.size≠inf.size:=by omega
     simp[Instr.storeAt,hxe,Instr.sureAddr,storeVar,run_size hinf,hne,hr]
    ·simp only[RB]
     exact⟨hv,_,T,⟨rest,hu.at'⟩,RVs_mono hw (fun _ h=>h) _ _ (fun _ _=>rfl) (setCells_of _ _ _ _ _ hfl hcs),setV_one _ _ _ hone h1⟩
  ·cases h
 ·rename_i κ₀ g idx
  simp only[RV]at hx
  obtain⟨hv,hidx,hxe⟩:=hx
  have hrb:=m.rb g
  split at h
  ·rename_i el κ xs hg
   rw[hg]at hrb
   cases hc:(decide (κ₀=κ)&&sizeB E.P t κ.size&&xv.free)with
   |false=>rw[hc]at h;cases h
   |true=>
    rw[hc,cond_true]at h
    simp only[Bool.and_eq_true,decide_eq_true_eq]at hc
    obtain⟨⟨rfl,hs⟩,hfree⟩:=hc
    obtain⟨inf,hinf,hsz⟩:=sizeB_of hs
    obtain⟨z,hz,h⟩:=Option.bind_eq_some_iff.1 h
    have hpv:RV ι Fz w (.pv κ₀ z) vy:=argD_of m.rb (fun _ h=>h) hz hy (fun k hk=>by rw[free_ment _ hfree k]at hk;cases hk)
    have hcells:=pv_cells hpv
    have hlen:=RP_len κ₀ z _ hcells
    have hone:=RP_one κ₀ z _ hcells
    simp only[RB]at hrb
    rcases hrb.2 with⟨e,_⟩|⟨_,vs,hh,h2,h3,h4,h5⟩
    ·rw[hv]at e;cases e
    have hh':w.heap[(ι g).blk]?=some (.cells vs.toList.toArray el (0,0)):=by simpa using hh
    have hfit:idx*κ₀.size+κ₀.size≤vs.toList.length:=by
     have:(idx+1)*κ₀.size≤(ι g).cap*κ₀.size:=Nat.mul_le_mul_right _ (by rw[hrb.1]at hidx;omega)
     rw[Nat.add_mul,Nat.one_mul]at this
     simpa[h4]using this
    obtain⟨w',hr,hu⟩:=run_storeCells (P:=E.P) vy.cells.toList vs.toList w (idx*κ₀.size) 0 hh' (by omega) hone
    simp only[Nat.add_zero]at hu
    have hlive:(getH st.H g).live:=by rw[hg];trivial
    obtain⟨s1,s2,s3⟩:=m.sep g hlive hv
    have hw:∀b,Fz b→w'.heap[b]?=w.heap[b]?:=fun k hk=>hu.ne k (fun e=>s3 (e▸hk))
    refine fin h (w':=w') ?_ (b.mono hw (fun _ h=>h) (m.upd hlive hv hu ?_ trivial (by have:=m.cn g;rw[hg]at this;exact this))) rfl
    ·have hl3:vy.cells.toList.length=vy.cells.size:=by simp
     have hne:¬vy.cells.size≠inf.size:=by omega
     simp[Instr.storeAt,hxe,Instr.sureAddr,storeVar,run_size hinf,hne,hr]
    ·simp only[RB]
     refine⟨by rw[List.length_set];exact hrb.1, .inr ⟨hv,_,hu.at',by rw[List.length_set];exact h2,h3, ?_,fun k u hk=> ?_⟩⟩
     ·rw[List.size_toArray,setV_len];simpa using h4
     ·rcases Nat.lt_trichotomy k idx with hlt|heq|hgt
      ·rw[List.getElem?_set_ne (by omega)]at hk
       obtain⟨es,a1,a2,a3⟩:=h5 k u hk
       refine⟨es,RP_mono hw (fun _ h=>h) _ _ _ a1,a2,fun j q hj=> ?_⟩
       have hjl:=(List.getElem?_eq_some_iff.1 hj).1
       have:k*κ₀.size+κ₀.size≤idx*κ₀.size:=by rw[←Nat.succ_mul];exact Nat.mul_le_mul_right _ hlt
       rw[List.getElem?_toArray,setV_lt _ _ _ _ (by omega)]
       simpa using a3 j q hj
      ·subst heq
       rw[List.getElem?_set_self (by rw[hrb.1]at hidx;exact hidx)]at hk
       simp only[Option.some.injEq]at hk
       subst hk
       refine⟨_,RP_mono hw (fun _ h=>h) _ _ _ hcells,hlen,fun j q hj=> ?_⟩
       have hjl:=(List.getElem?_eq_some_iff.1 hj).1
       rw[List.getElem?_toArray,setV_in _ _ _ _ hjl (by omega)]
       exact hj
      ·rw[List.getElem?_set_ne (by omega)]at hk
       obtain⟨es,a1,a2,a3⟩:=h5 k u hk
       refine⟨es,RP_mono hw (fun _ h=>h) _ _ _ a1,a2,fun j q hj=> ?_⟩
       have:idx*κ₀.size+κ₀.size≤k*κ₀.size:=by rw[←Nat.succ_mul];exact Nat.mul_le_mul_right _ hgt
       rw[List.getElem?_toArray,setV_ge _ _ _ _ (by omega)]
       simpa using a3 j q hj
  ·cases h
 ·cases h
theorem store_of{t:TypeId}{x y:Operand}{st:St}{K:AV→St→Option R}{r:R}{E:Env}{a:Act}{o:Oper}(b:Behind w0 Fz0 ι Fz st a w)(hgl:GOK E.gl Fz w)(ho:o.op= .store t x y)
 (h:opW E o st K=some r):∃v st',K v st'=some r∧Wp E.P w0 Fz0 o a w v st':=by
 simp only[opW,ho]at h
 obtain⟨ks,hk,w',hr,hb⟩:=stX_of b (opnd_of hgl b.1 x) (opnd_of hgl b.1 y) h
 refine⟨_,_,hk,fun Kc Q hK=> ?_⟩
 have:OpGives E.P o a w (fun v'' w''=>v''=undef∧w''=w'):= .inr (.inl ⟨w',by simp[execOp,ho,hr],rfl,rfl⟩)
 refine this.wp ?_
 rintro v'' w'' ⟨e1,e2⟩
 exact hK _ a w'' ι Fz rfl (e2▸hb) (by simp[RV])
theorem pvL_noment{cs:List AV}(hp:cs.all AV.isPv=true)(h:Nat):mentL h cs=false:=pvL_ment h hp
theorem RV_frzB{Fz':Nat→Prop}{h:Nat}{κ:Kd}{x:Den κ}{es:List Value}{a:AV}{v:Value}(hf:∀b,Fz b→Fz' b)(hb:Fz' (ι h).blk)(hrp:RP Fz' w κ x es)(hl:Lie w es (ι h).blk 0)
 (hr:RV ι Fz w a v):RV ι Fz' w (a.frzB h κ x) v:=by
 have strike:RV ι Fz' w (a.strike h) v:=RV_strike (fun _ _=>rfl) hf (fun _ _=>rfl) hr
 cases a with
 |ref g off=>
  simp only[AV.frzB]
  cases hg:Nat.beq g h with
  |false=>exact RV_mono (fun _ _=>rfl) hf _ _ (fun _ _=>rfl) hr
  |true=>
   have e1:=Nat.eq_of_beq_eq_true hg
   subst e1
   cases ho:Nat.beq off 0 with
   |false=>simp[RV]
   |true=>
    have e2:=Nat.eq_of_beq_eq_true ho
    subst e2
    simp only[RV]at hr
    simp only[cond_true,RV]
    exact⟨_,0,es,hr.2,hb,hrp,hl⟩
 |_=>exact strike
theorem RVs_frzB{Fz':Nat→Prop}{h:Nat}{κ:Kd}{x:Den κ}{es:List Value}(hf:∀b,Fz b→Fz' b)(hb:Fz' (ι h).blk)(hrp:RP Fz' w κ x es)(hl:Lie w es (ι h).blk 0):
 ∀{cs:List AV} {vs:List Value},RVs ι Fz w cs vs→RVs ι Fz' w (cs.map (AV.frzB h κ x)) vs
 |[],vs,h=>by simp only[RVs,List.map_nil]at h⊢;exact h
 |c::cs,vs,h=>by
  simp only[RVs,List.map_cons]at h⊢
  obtain⟨v,r,e,h1,h2⟩:=h
  exact⟨v,r,e,RV_frzB hf hb hrp hl h1,RVs_frzB hf hb hrp hl h2⟩
theorem Mem.freezeB{h:Nat}{f:AB→AB}(m:Mem w0 Fz0 ι Fz H w)(hlive:(getH H h).live)(hv:(ι h).virt=false)(hf:f .gone= .gone)(hfl:∀b,(f b).live→b.live)(hcn:∀i b,Cn i b→Cn i (f b))
 (hrb:∀k b,k≠h→RB ι Fz w k b→RB ι (fun k=>Fz k∨k=(ι h).blk) w k (f b)):
 Mem w0 Fz0 ι (fun k=>Fz k∨k=(ι h).blk) ((h, .gone)::H.map fun(t,b)=>(t,f b)) w:=by
 have e:∀k,getH ((h, .gone)::H.map fun(t,b)=>(t,f b)) k=if h=k then .gone else f (getH H k):=fun k=>by
  rw[getH_cons,getH_map f hf]
 have live:∀k,(getH ((h, .gone)::H.map fun(t,b)=>(t,f b)) k).live→k≠h∧(getH H k).live:=fun k hk=>by
  rw[e]at hk
  split at hk
  ·exact hk.elim
  ·rename_i hne
   exact⟨Ne.symm hne,hfl _ hk⟩
 refine⟨m.below,fun k hk=> ?_,fun k hk=> .inl (m.fz0 k hk),fun k hk=> ?_,fun k=> ?_,fun k hk hv'=> ?_,fun k k' hk hk'=>m.inj k k' (live k hk).2 (live k' hk').2,m.iot,fun k=>(by rw[e];split;trivial;exact hcn _ _ (m.cn k)),m.gz⟩
 ·rcases hk with hk|rfl
  ·exact m.fz k hk
  ·exact(m.sep h hlive hv).2.1
 ·rcases hk with hk|rfl
  ·exact m.fzn k hk
  ·exact .inr (m.sep h hlive hv).1
 ·rw[e]
  split
  ·trivial
  ·rename_i hne
   exact hrb k _ (Ne.symm hne) (m.rb k)
 ·obtain⟨hne,hl⟩:=live k hk
  obtain⟨a1,a2,a3⟩:=m.sep k hl hv'
  refine⟨a1,a2,fun hf'=> ?_⟩
  rcases hf' with hf'|e'
  ·exact a3 hf'
  ·exact hne (m.inj k h hl hlive hv' hv e')
theorem frzB_of{st st':St}{a:Act}{h:Nat}{κ:Kd}(b:Behind w0 Fz0 ι Fz st a w)(hdf:okDf st.df h=true)(hs:st.frzB h κ=some st'):∃Fz':Nat→Prop,Behind w0 Fz0 ι Fz' st' a w:=by
 unfold St.frzB at hs
 split at hs
 ·rename_i cs hg
  cases hp:cs.all AV.isPv with
  |false=>rw[hp]at hs;cases hs
  |true=>
   rw[hp,cond_true]at hs
   obtain⟨p,hcd,hs⟩:=Option.bind_eq_some_iff.1 hs
   split at hs
   ·rename_i hp2
    simp only[Option.some.injEq]at hs
    subst hs
    have m:=b.2.2
    have hrb:=m.rb h
    rw[hg]at hrb
    simp only[RB]at hrb
    obtain⟨hv,vs,T,⟨rest,hh⟩,hcs,h1⟩:=hrb
    have hlive:(getH st.H h).live:=by rw[hg];trivial
    have nm:=pvL_noment hp
    obtain⟨v1,v2,rfl,r1,r2,_⟩:=cellsD_of (Fz':=Fz) m.rb (fun _ h=>h) κ cs p.1 p.2 vs (by rw[hcd]) hcs (fun h hm=>by rw[nm h]at hm;cases hm)
    rw[hp2]at r2
    simp only[RVs]at r2
    subst r2
    rw[List.append_nil]at hh hcs
    have hf:∀b,Fz b→(fun k=>Fz k∨k=(ι h).blk) b:=fun _ h=> .inl h
    have hrp:RP (fun k=>Fz k∨k=(ι h).blk) w κ p.1 v1:=RP_mono (fun _ _=>rfl) hf _ _ _ r1
    have hl:Lie w v1 (ι h).blk 0:=fun j u hj=>by
     simp only[World.cell?,hh,Nat.zero_add]
     have:=(List.getElem?_eq_some_iff.1 hj).1
     simpa[List.getElem?_append_left this]using hj
    refine⟨fun k=>Fz k∨k=(ι h).blk,fun t=> ?_,RD_mono (fun _ _=>rfl) hf _ _ (fun _ _=>rfl) b.2.1, ?_⟩
    ·show RV _ _ _ (getF (st.fr.map fun(t,v)=>(t,v.frzB h κ p.1)) t) _
     rw[getF_map (AV.frzB h κ p.1) rfl]
     exact RV_frzB hf (.inr rfl) hrp hl (b.1 t)
    ·refine m.freezeB hlive hv rfl (fun b=>by cases b<;>simp[AB.frzB,AB.live]) (fun i b=>by cases b<;>exact id) fun k bk hne hk=> ?_
     cases bk with
     |gone=>trivial
     |box ds=>
      simp only[RB,AB.frzB]at hk⊢
      obtain⟨hv',us,T',h1',h2',h3'⟩:=hk
      exact⟨hv',us,T',h1',RVs_frzB hf (.inr rfl) hrp hl h2',h3'⟩
     |arr e' κ' ys=>exact RB_mono (fun _ _=>rfl) hf (fun _ _=>rfl) hk
   ·cases hs
 ·cases hs
theorem slX_of{t:TypeId}{st:St}{sv:AV}{vs0:Value}{K:AV→List (Nat×AB)→List Nat→Option R}{r:R}{E:Env}(m:Mem w0 Fz0 ι Fz st.H w)(hs:RV ι Fz w sv vs0)
 (h:slX E t st.H st.df sv K=some r):∃v ks,K v ks []=some r∧∃v',(Instr.sliceAt t vs0 none none none).run E.P w= .ok v' w∧∃Fz':Nat→Prop,(∀b,Fz b→Fz' b)∧Mem w0 Fz0 ι Fz' (ks++st.H) w∧RV ι Fz' w v v':=by
 unfold slX at h
 split at h
 ·rename_i g off n el hat
  have hu:=arrT_of hat
  split at h
  ·rename_i κ cs hkd hg
   cases hc:(Nat.beq off 0&&cs.all AV.isPv&&sizeB E.P el κ.size&&Nat.ble 1 κ.size)with
   |false=>rw[hc]at h;cases h
   |true=>
    rw[hc,cond_true]at h
    simp only[Bool.and_eq_true]at hc
    obtain⟨⟨⟨ho,hp⟩,hsz⟩,h1k⟩:=hc
    have e0:=Nat.eq_of_beq_eq_true ho
    subst e0
    obtain⟨inf,hinf,hisz⟩:=sizeB_of hsz
    obtain⟨ys,hys,h⟩:=Option.bind_eq_some_iff.1 h
    simp only[RV]at hs
    obtain⟨hv,rfl⟩:=hs
    have hrb:=m.rb g
    rw[hg]at hrb
    simp only[RB]at hrb
    obtain⟨_,vs,T,⟨rest,hh⟩,hcs,h1⟩:=hrb
    have hlive:(getH st.H g).live:=by rw[hg];trivial
    have nm:=pvL_noment hp
    obtain⟨g1,g2,g3⟩:=chunks_of (H:=st.H) (Fz':=Fz) m.rb (fun _ h=>h) n _ ys vs hys hcs (fun h hm=>by rw[nm h]at hm;cases hm)
    have hf:∀b,Fz b→(fun k=>Fz k∨k=(ι g).blk) b:=fun _ h=> .inl h
    refine⟨_,_,h, .slice (some ⟨(ι g).blk,0,none⟩) n n, ?_,fun k=>Fz k∨k=(ι g).blk,hf, ?_, ?_⟩
    ·simp[Instr.sliceAt,run_underlying hu,Instr.sureAddr,Instr.sliceBounds,run_size hinf,Addr.add_lit]
    ·have:=m.freezeB (f:=id) hlive hv rfl (fun _ h=>h) (fun _ _ h=>h) (fun k bk _ hk=>RB_mono (fun _ _=>rfl) hf (fun _ _=>rfl) hk)
     simpa using this
    ·simp only[RV,Kd.isAgg,Bool.false_eq_true,if_false,RP]
     refine⟨_,rfl,some ⟨(ι g).blk,0,none⟩,n,by rw[g1],by omega, .inr ⟨_,0,rfl, .inr rfl,fun i x hx=> ?_⟩⟩
     have hi:i<n:=by have:=(List.getElem?_eq_some_iff.1 hx).1;omega
     have hidx:i*κ.size+κ.size≤vs.length:=by rw[g2,←Nat.succ_mul];exact Nat.mul_le_mul_right _ (by omega)
     refine⟨_,RP_mono (fun _ _=>rfl) hf _ _ _ (g3 i x hx),by rw[List.length_take,List.length_drop];omega,fun j u hj=> ?_⟩
     rw[List.getElem?_take]at hj
     split at hj
     ·rw[List.getElem?_drop]at hj
      have:=(List.getElem?_eq_some_iff.1 hj).1
      simp only[World.cell?,hh,Nat.zero_add]
      simpa[List.getElem?_append_left this]using hj
     ·cases hj
  ·cases h
 ·cases h
theorem apX_box{d blk cap n:Nat}{e:TypeId}{κ:Kd}{xs:List (Den κ)}{cur:Array Value}(hk1:κ.size=1)(hka:κ.isAgg=false)(hxl:xs.length=n)(hh:w.heap[blk]?=some (.cells cur e (0,0)))
 (hcs:cur.size=cap*κ.size) (hlen:xs.length≤cap) (hrow:∀i x,xs[i]?=some x→∃es,RP Fz w κ x es∧es.length=κ.size∧∀j u,es[j]?=some u→cur[i*κ.size+j]?=some u):
 RB (upd ι d ⟨blk,0,0,false⟩) Fz w d (.box ((List.range n).map fun i=> .pv κ (xs.getD i κ.zero))):=by
 simp only[RB,upd_at]
 rw[hk1,Nat.mul_one]at hcs
 have hcell:∀i x,xs[i]?=some x→∃u,cur[i]?=some u∧RP Fz w κ x [u]:=fun i x hx=>by
  obtain⟨es,a1,a2,a3⟩:=hrow i x hx
  rw[hk1]at a2 a3
  obtain⟨u,rfl⟩:=List.length_eq_one_iff.1 a2
  have:=a3 0 u rfl
  rw[Nat.mul_one,Nat.add_zero]at this
  exact⟨u,this,a1⟩
 refine⟨trivial,cur.toList.take n,e,⟨cur.toList.drop n,by rw[List.take_append_drop];simpa using hh⟩, ?_,fun v hv=> ?_⟩
 ·have main:∀(k:Nat),k≤n→RVs (upd ι d ⟨blk,0,0,false⟩) Fz w ((List.range k).map fun i=> .pv κ (xs.getD i κ.zero)) (cur.toList.take k):=by
   intro k
   induction k with
   |zero=>intro _;simp[RVs]
   |succ k ih=>
    intro hk
    have hkx:k<xs.length:=by omega
    obtain⟨u,hu1,hu2⟩:=hcell k xs[k] (List.getElem?_eq_getElem hkx)
    have hku:k<cur.toList.length:=by rw[Array.length_toList];omega
    have e2:cur.toList.take (k+1)=cur.toList.take k++[u]:=by
     rw[List.take_add_one]
     have:cur.toList[k]?=some u:=by simpa using hu1
     rw[this];rfl
    rw[List.range_succ,List.map_append,e2]
    refine RVs_append (ih (by omega)) ?_
    simp only[List.map_cons,List.map_nil,RVs]
    refine⟨u,[],rfl, ?_,rfl⟩
    simp only[RV,hka,Bool.false_eq_true,if_false]
    rw[List.getD_eq_getElem?_getD,List.getElem?_eq_getElem hkx]
    exact hu2
  exact main n (Nat.le_refl _)
 ·obtain⟨i,hi⟩:=List.mem_iff_getElem?.1 hv
  have hi':=(List.getElem?_eq_some_iff.1 hi).1
  rw[List.length_take]at hi'
  have hix:i<xs.length:=by omega
  obtain⟨u,hu1,hu2⟩:=hcell i xs[i] (List.getElem?_eq_getElem hix)
  rw[List.getElem?_take,if_pos (by omega)]at hi
  have:cur.toList[i]?=some u:=by simpa using hu1
  rw[this]at hi
  cases hi
  exact RP_one κ _ _ hu2 v (by simp)
theorem apX_of{t:TypeId}{st:St}{s:AV}{d:Nat}{K:AV→List (Nat×AB)→List Nat→Option R}{r:R}{E:Env}{a:Act}{vs0:Value}(b:Behind w0 Fz0 ι Fz st a w)(hs:RV ι Fz w s vs0)
 (h:apX E t st.H st.df s d K=some r):∃v ks,K v ks [d]=some r∧okNew st.df d=true∧d∈ks.map Prod.fst∧∃v',(Instr.arrayAt t vs0).run E.P w= .ok v' w∧∃(ι':Nat→HI),Behind w0 Fz0 ι' Fz ⟨strikeF d st.fr,ks++strikeH d st.H,st.df⟩ a w∧RV ι' Fz w v v'∧(∀n,n≠d→ι' n=ι n):=by
 unfold apX at h
 split at h
 ·rename_i n el hat
  have hu:=arrT_of hat
  split at h
  ·rename_i κ0 g
   split at h
   ·rename_i e κ xs hg
    cases hc:(Nat.beq κ.size 1&& !κ.isAgg&&Nat.ble 1 n&&okNew st.df d)with
    |false=>rw[hc]at h;cases h
    |true=>
     rw[hc,cond_true]at h
     simp only[Bool.and_eq_true,Bool.not_eq_true']at hc
     obtain⟨⟨⟨hk1,hka⟩,hn1⟩,hdf⟩:=hc
     have hk1:=Nat.eq_of_beq_eq_true hk1
     have hn1:=Nat.le_of_ble_eq_true hn1
     split at h
     ·rename_i hxl
      have m:=b.2.2
      have hrb:=m.rb g
      rw[hg]at hrb
      simp only[RB]at hrb
      simp only[RV]at hs
      rcases hrb.2 with⟨_,e⟩|⟨hv,cur,hh,hlen,hcm,hcs,hrow⟩
      ·rw[e]at hxl;simp at hxl;omega
      rcases hs with⟨hv2,_⟩|⟨_,rfl⟩
      ·rw[hv]at hv2;cases hv2
      have hlive:(getH st.H g).live:=by rw[hg];trivial
      obtain⟨s1,s2,s3⟩:=m.sep g hlive hv
      have b1:Behind w0 Fz0 ι Fz ⟨st.fr,(g, .gone)::st.H,st.df⟩ a w:=⟨b.1,b.2.1,m.drop fun k=>by rw[getH_cons];by_cases e:g=k;(·rw[if_pos e];exact .inr rfl);(·rw[if_neg e];exact .inl rfl)⟩
      have hothers:∀h,h≠d→(getH ((g, .gone)::st.H) h).live→(ι h).virt=false→(ι h).blk≠(ι g).blk:=fun h hd hl hv' e=>by
       obtain⟨n1,n2⟩:=live_not_gone g hl
       exact n1 (m.inj h g n2 hlive hv' hv e)
      refine⟨_,_,h,hdf,by simp, .pointer (some ⟨(ι g).blk,0,none⟩), ?_,upd ι d ⟨(ι g).blk,0,0,false⟩,⟨fun t=> ?_, ?_, ?_⟩, ?_,fun n hn=>upd_ne _ _ _ hn⟩
      ·have:¬((ι g).len<n):=by rw[hrb.1];omega
       simp[Instr.arrayAt,run_underlying hu,this]
      ·exact(b1.strike (fun _ _=>rfl) (fun _ h=>h) (fun h hh=>upd_ne ι d ⟨(ι g).blk,0,0,false⟩ hh) (okNew_df hdf).1 (b1.2.2.put (i:=⟨(ι g).blk,0,0,false⟩) (b:= .box ((List.range n).map fun i=> .pv κ (xs.getD i κ.zero))) (Bel.refl _ _) (Nat.le_refl _) (fun _ _=>rfl) (fun _ _ _=>rfl) (fun _=>⟨s1,s2,s3,hothers⟩) (apX_box hk1 hka hxl hh hcs hlen hrow) (okNew_df hdf).2 ⟨rfl,rfl⟩)).1 t
      ·exact(b1.strike (fun _ _=>rfl) (fun _ h=>h) (fun h hh=>upd_ne ι d ⟨(ι g).blk,0,0,false⟩ hh) (okNew_df hdf).1 (b1.2.2.put (i:=⟨(ι g).blk,0,0,false⟩) (b:= .box ((List.range n).map fun i=> .pv κ (xs.getD i κ.zero))) (Bel.refl _ _) (Nat.le_refl _) (fun _ _=>rfl) (fun _ _ _=>rfl) (fun _=>⟨s1,s2,s3,hothers⟩) (apX_box hk1 hka hxl hh hcs hlen hrow) (okNew_df hdf).2 ⟨rfl,rfl⟩)).2.1
      ·exact b1.2.2.put (i:=⟨(ι g).blk,0,0,false⟩) (b:= .box ((List.range n).map fun i=> .pv κ (xs.getD i κ.zero))) (Bel.refl _ _) (Nat.le_refl _) (fun _ _=>rfl) (fun _ _ _=>rfl) (fun _=>⟨s1,s2,s3,hothers⟩) (apX_box hk1 hka hxl hh hcs hlen hrow) (okNew_df hdf).2 ⟨rfl,rfl⟩
      ·simp only[RV,upd_at]
       exact⟨trivial,trivial⟩
     ·cases h
   ·cases h
  ·cases h
 ·cases h
theorem cutX_of{t:TypeId}{st:St}{s hi:AV}{d:Nat}{K:AV→List (Nat×AB)→List Nat→Option R}{r:R}{E:Env}{a:Act}{vs0 vh:Value}(b:Behind w0 Fz0 ι Fz st a w)(hs:RV ι Fz w s vs0)(hh0:RV ι Fz w hi vh)
 (h:cutX E t st.H st.df s hi d K=some r):∃v ks,K v ks [d]=some r∧okNew st.df d=true∧d∈ks.map Prod.fst∧∃v',(Instr.sliceAt t vs0 none (some vh) none).run E.P w= .ok v' w∧∃(ι':Nat→HI),Behind w0 Fz0 ι' Fz ⟨strikeF d st.fr,ks++strikeH d st.H,st.df⟩ a w∧RV ι' Fz w v v'∧(∀n,n≠d→ι' n=ι n):=by
 unfold cutX at h
 obtain⟨el,hu,h⟩:=elemK_of h
 split at h
 ·rename_i κ0 g k j hold
  rw[RV_int]at hh0
  subst hh0
  split at h
  ·rename_i e κ xs hg
   cases hc:(sizeB E.P el κ.size&&okNew st.df d)with
   |false=>rw[hc]at h;cases h
   |true=>
    rw[hc,cond_true]at h
    simp only[Bool.and_eq_true]at hc
    obtain⟨hsz,hdf⟩:=hc
    obtain⟨inf,hinf,hisz⟩:=sizeB_of hsz
    obtain⟨p,hp,h⟩:=Option.bind_eq_some_iff.1 h
    obtain⟨_,h0,h1,rfl⟩:=chk2_of hp
    have m:=b.2.2
    have hrb:=m.rb g
    rw[hg]at hrb
    simp only[RB]at hrb
    simp only[RV]at hs
    have b1:Behind w0 Fz0 ι Fz ⟨st.fr,(g, .gone)::st.H,st.df⟩ a w:=⟨b.1,b.2.1,m.drop fun k=>by rw[getH_cons];by_cases e:g=k;(·rw[if_pos e];exact .inr rfl);(·rw[if_neg e];exact .inl rfl)⟩
    refine⟨_,_,h,hdf,by simp, ?_⟩
    rcases hs with⟨hv,rfl⟩|⟨hv,rfl⟩
    ·rcases hrb.2 with⟨_,e⟩|⟨e,_⟩
     ·subst e
      have h1':(j:Int)≤0:=by simpa using h1
      have hj:j=0:=Int.le_antisymm h1' h0
      subst hj
      obtain⟨p,q⟩:=b1.virt (d:=d) (el:=e) (κ:=κ) hdf
      refine⟨.slice none 0 0, ?_,_,p,q,fun n hn=>upd_ne _ _ _ hn⟩
      simp[Instr.sliceAt,run_underlying hu,Instr.slice,bounds_of (lo:=none) (hi:=some (.int k 0)) (l:=0) (h:=0) (len:=0) (cap:=0) (.inl ⟨rfl,rfl⟩) (.inr ⟨k,rfl⟩) (by omega) (by omega) (by omega) (by omega),run_size hinf]
     ·rw[hv]at e;cases e
    ·rcases hrb.2 with⟨e,_⟩|⟨_,cur,hh,hlen,hcm,hcs,hrow⟩
     ·rw[hv]at e;cases e
     have hlive:(getH st.H g).live:=by rw[hg];trivial
     obtain⟨s1,s2,s3⟩:=m.sep g hlive hv
     have hothers:∀h,h≠d→(getH ((g, .gone)::st.H) h).live→(ι h).virt=false→(ι h).blk≠(ι g).blk:=fun h hd hl hv' e=>by
      obtain⟨n1,n2⟩:=live_not_gone g hl
      exact n1 (m.inj h g n2 hlive hv' hv e)
     have htl:(xs.take j.toNat).length=j.toNat:=by rw[List.length_take];omega
     obtain⟨p,q⟩:=b1.arr (d:=d) (el:=e) (κ:=κ) (xs:=xs.take j.toNat) (vs:=cur) (blk:=(ι g).blk) (cap:=(ι g).cap) (w':=w) hdf (Bel.refl _ _) (Nat.le_refl _) (fun _ _=>rfl) (fun _ _ _=>rfl)
      ⟨s1,s2,s3,hothers⟩ hh (fun k y hy=>by
       have hy':xs[k]?=some y:=by
        rw[List.getElem?_take]at hy
        split at hy
        ·exact hy
        ·cases hy
       obtain⟨es,a1,a2,a3⟩:=hrow k y hy'
       exact⟨es,a1,a2,fun j u hj=>by simpa using a3 j u hj⟩) (by rw[htl];omega) hcm hcs
     refine⟨.slice (some ⟨(ι g).blk,0,none⟩) (xs.take j.toNat).length (ι g).cap, ?_,_,p,q,fun n hn=>upd_ne _ _ _ hn⟩
     have:=bounds_of (P:=E.P) (w:=w) (b:=true) (lo:=none) (hi:=some (.int k j)) (l:=0) (h:=j) (len:=(ι g).len) (cap:=(ι g).cap) (.inl ⟨rfl,rfl⟩) (.inr ⟨k,rfl⟩) (by omega) (by omega) (by rw[hrb.1];exact h1) (by rw[hrb.1];exact hlen)
     simp[Instr.sliceAt,run_underlying hu,Instr.slice,this,run_size hinf,htl,Addr.add_lit]
  ·cases h
 ·cases h
end
end Go.Av
namespace Go.Av
open Go Go.RowKit
def ownW(w:World)(os:List HI):Nat→Prop:=fun b=>w.heap.size≤b∨∃i∈os,i.virt=false∧i.blk=b
structure OsOk(Fz:Nat→Prop)(w:World)(os:List HI):Prop where
 lt:∀i∈os,i.virt=false→i.blk<w.heap.size∧¬Fz i.blk
 ne:∀(j k:Nat) a b,os[j]?=some a→os[k]?=some b→a.virt=false→b.virt=false→a.blk=b.blk→j=k
def altOne(pi:Nat→HI)(Fz:Nat→Prop)(w:World)(vals:List Value)(a:Alt)(d:ShDs a.all)(v:Value)(os:List HI):Prop:=
 ∃vs:List Value,vs.length=a.ress.length∧v=(if h:vs.length=1 then vs[0]else .tuple vs.toArray)∧RSs pi Fz w a.all d (vs++keepV a.fins vals) os
def AltR(pi:Nat→HI)(Fz:Nat→Prop)(w:World)(vals:List Value):(alts:List Alt)→AltD alts→Value→List HI→Prop
 |[],_,_,_=>False
 |[a],d,v,os=>altOne pi Fz w vals a d v os
 |a::b::r,y,v,os=>Sum.elim (fun d=>altOne pi Fz w vals a d v os) (fun y'=>AltR pi Fz w vals (b::r) y' v os) y
def Con2.Sound(P:Program)(gl:List Gl)(c:Con2):Prop:=
 ∀(w:World) (Fz:Nat→Prop) (pi:Nat→HI) (x:ShDs c.ins) (vals:List Value) (os:List HI) (y:AltD c.alts),(∀b,Fz b→b<w.heap.size)→GOK gl Fz w→RSs pi Fz w c.ins x vals os→OsOk Fz w os→c.fn x=some y→
  CallGives P c.fid vals w fun v w'=>Bel (ownW w os) w w'∧∃(Fz':Nat→Prop) (os':List HI),(∀b,Fz b→Fz' b)∧(∀b,Fz' b→Fz b∨ownW w os b)∧(∀b,Fz' b→b<w'.heap.size)∧
   AltR (fun i=>os.getD i ⟨0,0,0,true⟩) Fz' w' vals c.alts y v os'∧OsOk Fz' w' os'∧∀i∈os',i.virt=false→ownW w os i.blk
structure EnvOk(E:Env)(gl:List Gl):Prop where
 c1:∀c∈E.cons,c.Sound E.P gl
 c2:∀c∈E.con2,c.Sound E.P gl
 gl:E.gl=gl
theorem altK_of{R:Type}:∀(alts:List Alt) (y:AltD alts) (f:(a:Alt)→ShDs a.all→Option R) (r:R),altK alts y f=some r→
 ∃a dd,a∈alts∧f a dd=some r∧∀pi Fz w vals v os,AltR pi Fz w vals alts y v os→altOne pi Fz w vals a dd v os
 |[],y,f,r,h=>by simp[altK]at h
 |[a],y,f,r,h=>⟨a,y,by simp,h,fun _ _ _ _ _ _ h=>h⟩
 |a::b::l,y,f,r,h=>by
  cases y with
  |inl d=>exact⟨a,d,by simp,h,fun _ _ _ _ _ _ h=>h⟩
  |inr y=>
   obtain⟨a',dd,h1,h2,h3⟩:=altK_of (b::l) y f r h
   exact⟨a',dd,List.mem_cons_of_mem _ h1,h2,fun pi Fz w vals v os h=>h3 pi Fz w vals v os h⟩
section
variable {pi pi':Nat→HI} {Fz Fz':Nat→Prop} {w:World}
theorem pv_plain{ι ι':Nat→HI}{κ:Kd}{x:Den κ}{v:Value}(hp:κ.plain=true)(h:RV ι Fz w (.pv κ x) v):RV ι' Fz' w (.pv κ x) v:=by
 simp only[RV]at h⊢
 split
 ·rename_i hk
  simp only[hk,if_true]at h
  obtain⟨vs,e,h⟩:=h
  exact⟨vs,e,RP_plain κ x _ hp h⟩
 ·rename_i hk
  simp only[hk]at h
  exact RP_plain κ x _ hp h
theorem RB_plain{i:HI}{e:TypeId}{κ:Kd}{xs:List (Den κ)}(hp:κ.plain=true)(h:RB (fun _=>i) Fz w 0 (.arr e κ xs)):RB (fun _=>i) Fz' w 0 (.arr e κ xs):=by
 simp only[RB]at h⊢
 refine⟨h.1, ?_⟩
 rcases h.2 with h2|⟨hv,vs,h1,h2,h3,h4,h5⟩
 ·exact .inl h2
 ·refine .inr ⟨hv,vs,h1,h2,h3,h4,fun i x hx=> ?_⟩
  obtain⟨es,a,b,c⟩:=h5 i x hx
  exact⟨es,RP_plain κ x _ hp a,b,c⟩
mutual
theorem RS_safe:∀(s:Sh) (x:ShD s) (v:Value) (os:List HI),s.safe=true→RS pi Fz w s x v os→RS pi Fz' w s x v os
 | .k κ,x,v,os,hs,h=>by simp only[RS]at h⊢;exact⟨h.1,pv_plain (by simpa[Sh.safe]using hs) h.2⟩
 | .row e κ,xs,v,os,hs,h=>by
  simp only[RS]at h⊢
  obtain⟨i,e1,h1,h2,h3⟩:=h
  exact⟨i,e1,h1,RB_plain (by simpa[Sh.safe]using hs) h2,h3⟩
 | .sub e κ,xs,v,os,hs,h=>by
  simp only[RS]at h⊢
  obtain⟨i,e1,h1,h2,h3⟩:=h
  exact⟨i,e1,h1,RB_plain (by simpa[Sh.safe]using hs) h2,h3⟩
 | .krow k e κ,xs,v,os,hs,h=>by
  simp only[RS]at h⊢
  obtain⟨i,e1,e2,h1,h2,h3⟩:=h
  exact⟨i,e1,e2,h1,RB_plain (by simpa[Sh.safe]using hs) h2,h3⟩
 | .parw k κ,xs,v,os,hs,h=>by simp only[RS]at h⊢;exact h
 | .box cs,d,v,os,hs,h=>by
  simp only[RS]at h⊢
  obtain⟨i,r,vs,T,e,h1,h2,h3,h4,h5,h6,h7⟩:=h
  exact⟨i,r,vs,T,e,h1,h2,h3,h4,h5,h6,RSs_safe cs d vs r (by simpa[Sh.safe]using hs) h7⟩
 | .bsl cs,d,v,os,hs,h=>by
  simp only[RS]at h⊢
  obtain⟨i,r,vs,T,e,h1,h2,h3,h4,h5,h6,h7⟩:=h
  exact⟨i,r,vs,T,e,h1,h2,h3,h4,h5,h6,RSs_safe cs d vs r (by simpa[Sh.safe]using hs) h7⟩
 | .agg cs,d,v,os,hs,h=>by
  simp only[RS]at h⊢
  obtain⟨vs,e,h1,h2⟩:=h
  exact⟨vs,e,h1,RSs_safe cs d vs os (by simpa[Sh.safe]using hs) h2⟩
 | .ifc t s,d,v,os,hs,h=>by
  simp only[RS]at h⊢
  obtain⟨u,e,h1⟩:=h
  exact⟨u,e,RS_safe s d u os (by simpa[Sh.safe]using hs) h1⟩
 | .fn f cs,d,v,os,hs,h=>by
  simp only[RS]at h⊢
  obtain⟨vs,e,h2⟩:=h
  exact⟨vs,e,RSs_safe cs d vs os (by simpa[Sh.safe]using hs) h2⟩
 | .lref κ,x,v,os,hs,h=>by simp[Sh.safe]at hs
 | .nilp,_,v,os,hs,h=>by simp only[RS]at h⊢;exact h
 | .nili,_,v,os,hs,h=>by simp only[RS]at h⊢;exact h
 | .nilf,_,v,os,hs,h=>by simp only[RS]at h⊢;exact h
 | .nan,_,v,os,hs,h=>by simp only[RS]at h⊢;exact h
 | .ep _,_,v,os,hs,h=>by simp[Sh.safe]at hs
 | .snil,_,v,os,hs,h=>by simp only[RS]at h⊢;exact h
 | .par i,_,v,os,hs,h=>by simp only[RS]at h⊢;exact h
theorem RSs_safe:∀(ss:List Sh) (x:ShDs ss) (vs:List Value) (os:List HI),safeL ss=true→RSs pi Fz w ss x vs os→RSs pi Fz' w ss x vs os
 |[],x,vs,os,hs,h=>by simp only[RSs]at h⊢;exact h
 |s::r,x,vs,os,hs,h=>by
  simp only[RSs]at h⊢
  simp only[safeL,Bool.and_eq_true]at hs
  obtain⟨v,q,o1,o2,e1,e2,h1,h2⟩:=h
  exact⟨v,q,o1,o2,e1,e2,RS_safe s _ _ _ hs.1 h1,RSs_safe r _ _ _ hs.2 h2⟩
end
end
theorem memN_iff:∀{l:List Nat} {n:Nat},memN l n=true↔n∈l
 |[],n=>by simp[memN]
 |m::r,n=>by
  simp only[memN,Bool.or_eq_true,List.mem_cons,memN_iff (l:=r)]
  constructor
  ·rintro (h|h)
   ·exact .inl (Nat.eq_of_beq_eq_true h).symm
   ·exact .inr h
  ·rintro (h|h)
   ·subst h;exact .inl (Nat.beq_refl n)
   ·exact .inr h
theorem nodupN_iff:∀{l:List Nat},nodupN l=true→l.Nodup
 |[],_=>List.nodup_nil
 |n::r,h=>by
  simp only[nodupN,Bool.and_eq_true,Bool.not_eq_true']at h
  refine List.nodup_cons.2 ⟨fun hm=> ?_,nodupN_iff h.2⟩
  rw[memN_iff.2 hm]at h;cases h.1
theorem mem_notIn{l:List Nat}:∀{m:List Nat} {n:Nat},n∈notIn l m↔n∈m∧n∉l
 |[],n=>by simp[notIn]
 |k::r,n=>by
  unfold notIn
  cases hk:memN l k with
  |true=>
   have:=memN_iff.1 hk
   rw[cond_true,mem_notIn (m:=r)]
   simp only[List.mem_cons]
   constructor
   ·rintro ⟨h1,h2⟩;exact⟨.inr h1,h2⟩
   ·rintro ⟨rfl|h1,h2⟩
    ·exact absurd this h2
    ·exact⟨h1,h2⟩
  |false=>
   have:k∉l:=fun h=>by rw[memN_iff.2 h]at hk;cases hk
   rw[cond_false,List.mem_cons,mem_notIn (m:=r),List.mem_cons]
   constructor
   ·rintro (rfl|⟨h1,h2⟩)
    ·exact⟨.inl rfl,this⟩
    ·exact⟨.inr h1,h2⟩
   ·rintro ⟨rfl|h1,h2⟩
    ·exact .inl rfl
    ·exact .inr ⟨h1,h2⟩
def assignN:List Nat→List HI→(Nat→HI)→Nat→HI
 |n::ns,i::is,ι=>fun k=>if n=k then i else assignN ns is ι k
 |_,_,ι=>ι
theorem assignN_not{ι:Nat→HI}:∀{ns:List Nat} {is:List HI} {n:Nat},n∉ns→assignN ns is ι n=ι n
 |[],_,_,_=>rfl
 |_::_,[],_,_=>rfl
 |m::ns,i::is,n,h=>by
  simp only[List.mem_cons,not_or]at h
  simp only[assignN]
  rw[if_neg (Ne.symm h.1)]
  exact assignN_not h.2
theorem assignN_at{ι:Nat→HI}:∀{ns:List Nat} {is:List HI} {j n:Nat} {i:HI},ns.Nodup→ns[j]?=some n→is[j]?=some i→assignN ns is ι n=i
 |[],_,_,_,_,_,h,_=>by simp at h
 |_::_,[],_,_,_,_,_,h=>by simp at h
 |m::ns,i'::is,0,n,i,_,h,h'=>by
  simp only[List.getElem?_cons_zero,Option.some.injEq]at h h'
  subst h h'
  simp[assignN]
 |m::ns,i'::is,j+1,n,i,hd,h,h'=>by
  simp only[List.getElem?_cons_succ]at h h'
  obtain⟨h1,h2⟩:=List.nodup_cons.1 hd
  simp only[assignN]
  have hne:¬m=n:=fun e=>h1 (by rw[e];exact List.mem_of_getElem? h)
  rw[if_neg hne]
  exact assignN_at h2 h h'
theorem assignN_named{ι:Nat→HI}{ns:List Nat}{is:List HI}(hd:ns.Nodup)(hl:is.length≤ns.length):Named (assignN ns is ι) ns is:=by
 intro j i hj
 have hlt:=(List.getElem?_eq_some_iff.1 hj).1
 refine⟨ns[j],List.getElem?_eq_getElem (by omega),assignN_at hd (List.getElem?_eq_getElem (by omega)) hj⟩
def strikeLs:List Nat→AV→AV
 |[],v=>v
 |n::r,v=>strikeLs r (v.strike n)
def AB.strikeLs:List Nat→AB→AB
 |[],b=>b
 |n::r,b=>AB.strikeLs r (b.strike n)
theorem strikeLs_dead:∀(l:List Nat),strikeLs l .dead= .dead
 |[]=>rfl
 |n::r=>by simp only[strikeLs];rw[show AV.strike n .dead= .dead from rfl];exact strikeLs_dead r
theorem strikeLs_cases:∀(l:List Nat) (v:AV),strikeLs l v= .dead∨(strikeLs l v=v∧∀n∈l,v.ment n=false)
 |[],v=> .inr ⟨rfl,fun n h=>by simp at h⟩
 |n::r,v=>by
  simp only[strikeLs]
  cases hm:v.ment n with
  |true=>
   have:v.strike n= .dead:=by simp[AV.strike,hm]
   rw[this];exact .inl (strikeLs_dead r)
  |false=>
   have:v.strike n=v:=by simp[AV.strike,hm]
   rw[this]
   rcases strikeLs_cases r v with h|⟨h1,h2⟩
   ·exact .inl h
   ·refine .inr ⟨h1,fun k hk=> ?_⟩
    rcases List.mem_cons.1 hk with rfl|hk
    ·exact hm
    ·exact h2 k hk
theorem freshL_spec:∀(l:List Nat) (st:St),(∀t,getF (freshL l st).fr t=strikeLs l (getF st.fr t))∧(∀t,getH (freshL l st).H t=AB.strikeLs l (getH st.H t))∧(freshL l st).df=st.df
 |[],st=>⟨fun _=>rfl,fun _=>rfl,rfl⟩
 |n::r,st=>by
  obtain⟨h1,h2,h3⟩:=freshL_spec r (st.fresh n)
  refine⟨fun t=> ?_,fun t=> ?_,h3⟩
  ·simp only[freshL,strikeLs];rw[h1]
   show strikeLs r (getF (strikeF n st.fr) t)=_
   rw[getF_strike]
  ·simp only[freshL,AB.strikeLs];rw[h2]
   show AB.strikeLs r (getH (strikeH n st.H) t)=_
   rw[getH_strike]
section
variable {ι ι':Nat→HI} {Fz Fz':Nat→Prop} {w w':World}
theorem RV_strikeLs(hw:∀b,Fz b→w'.heap[b]?=w.heap[b]?)(hf:∀b,Fz b→Fz' b){l:List Nat}(hd:∀h,h∉l→ι' h=ι h){a:AV}{v:Value}(h:RV ι Fz w a v):RV ι' Fz' w' (strikeLs l a) v:=by
 rcases strikeLs_cases l a with e|⟨e,hm⟩
 ·rw[e];simp[RV]
 ·rw[e]
  refine RV_mono hw hf a v (fun k hk=>hd k fun hin=> ?_) h
  rw[hm k hin]at hk;cases hk
theorem strikeLs_box:∀(l:List Nat) (cs:List AV),AB.strikeLs l (.box cs)= .box (cs.map (strikeLs l))
 |[],cs=>by
  have:cs.map (strikeLs [])=cs:=by
   show cs.map (fun v=>v)=cs
   simp
  rw[this];rfl
 |n::r,cs=>by
  simp only[AB.strikeLs,AB.strike]
  rw[strikeLs_box r,List.map_map]
  rfl
theorem strikeLs_arr:∀(l:List Nat) (e:TypeId) (κ:Kd) (xs:List (Den κ)),AB.strikeLs l (.arr e κ xs)= .arr e κ xs
 |[],_,_,_=>rfl
 |n::r,e,κ,xs=>by simp only[AB.strikeLs,AB.strike];exact strikeLs_arr r e κ xs
theorem strikeLs_gone:∀(l:List Nat),AB.strikeLs l .gone= .gone
 |[]=>rfl
 |n::r=>by simp only[AB.strikeLs,AB.strike];exact strikeLs_gone r
theorem RVs_strikeLs(hw:∀b,Fz b→w'.heap[b]?=w.heap[b]?)(hf:∀b,Fz b→Fz' b){l:List Nat}(hd:∀h,h∉l→ι' h=ι h):
 ∀{cs:List AV} {vs:List Value},RVs ι Fz w cs vs→RVs ι' Fz' w' (cs.map (strikeLs l)) vs
 |[],vs,h=>by simp only[RVs,List.map_nil]at h⊢;exact h
 |c::cs,vs,h=>by
  simp only[RVs,List.map_cons]at h⊢
  obtain⟨v,r,e,h1,h2⟩:=h
  exact⟨v,r,e,RV_strikeLs hw hf hd h1,RVs_strikeLs hw hf hd h2⟩
theorem RB_strikeLs(hw:∀b,Fz b→w'.heap[b]?=w.heap[b]?)(hf:∀b,Fz b→Fz' b){l:List Nat}(hd:∀h,h∉l→ι' h=ι h){h:Nat}{b:AB}(hi:ι' h=ι h)
 (hb:b.live→(ι h).virt=false→w'.heap[(ι h).blk]?=w.heap[(ι h).blk]?) (hr:RB ι Fz w h b):RB ι' Fz' w' h (AB.strikeLs l b):=by
 cases b with
 |gone=>rw[strikeLs_gone];simp[RB]
 |box cs=>
  rw[strikeLs_box]
  simp only[RB]at hr⊢
  obtain⟨hv,vs,T,h1,h2,h3⟩:=hr
  rw[hi]
  exact⟨hv,vs,T,by rw[hb trivial hv];exact h1,RVs_strikeLs hw hf hd h2,h3⟩
 |arr e κ xs=>
  rw[strikeLs_arr]
  simp only[RB]at hr⊢
  rw[hi]
  refine⟨hr.1, ?_⟩
  rcases hr.2 with h2|⟨hv,vs,h1,h2,h3,h4,h5⟩
  ·exact .inl h2
  ·refine .inr ⟨hv,vs,by rw[hb trivial hv];exact h1,h2,h3,h4,fun i x hx=> ?_⟩
   obtain⟨es,a,b,c⟩:=h5 i x hx
   exact⟨es,RP_mono hw hf _ _ _ a,b,c⟩
theorem live_strikeLs{l:List Nat}{b:AB}:(AB.strikeLs l b).live↔b.live:=by
 cases b with
 |gone=>rw[strikeLs_gone]
 |box cs=>rw[strikeLs_box];simp[AB.live]
 |arr e κ xs=>rw[strikeLs_arr]
theorem Cn_strikeLs{l:List Nat}{i:HI}{b:AB}:Cn i (AB.strikeLs l b)↔Cn i b:=by
 cases b with
 |gone=>rw[strikeLs_gone]
 |box cs=>rw[strikeLs_box];simp[Cn]
 |arr e κ xs=>rw[strikeLs_arr]
end
theorem topN_map(ι:Nat→HI):∀(t:List Bool) (os:List (Option Nat)),topH t (os.map (hiOf ι))=(topN t os).map (hiOf ι)
 |[],os=>by simp[topH,topN]
 |true::t,[]=>by simp[topH,topN]
 |false::t,[]=>by simp[topH,topN]
 |true::t,o::os=>by simp only[List.map_cons,topH,topN];rw[topN_map ι t os]
 |false::t,o::os=>by simp only[List.map_cons,topH,topN];exact topN_map ι t os
theorem fillN_len(d:Nat):∀(t:List Bool) (ns is:List (Option Nat)) (c:Nat),(fillN d t ns is c).length=t.length
 |[],_,_,_=>rfl
 |true::t,ns,is,c=>by simp only[fillN,List.length_cons];rw[fillN_len d t]
 |false::t,ns,is,c=>by simp only[fillN,List.length_cons];rw[fillN_len d t]
theorem fillN_of(ι:Nat→HI)(d:Nat):∀(t:List Bool) (ns is:List (Option Nat)) (c:Nat) (os':List HI),t.length=os'.length→topH t os'=ns.map (hiOf ι)→
 ∀n∈someN ns,∃j:Nat,(fillN d t ns is c)[j]?=some n∧os'[j]?=some (ι n)
 |[],ns,is,c,os',_,h,n,hn=>by
  simp only[topH]at h
  cases ns with
  |nil=>simp[someN]at hn
  |cons _ _=>simp at h
 |true::t,ns,is,c,[],hl,h,n,hn=>by simp at hl
 |false::t,ns,is,c,[],hl,h,n,hn=>by simp at hl
 |true::t,[],is,c,o::os',hl,h,n,hn=>by simp[someN]at hn
 |true::t,m::ns,is,c,o::os',hl,h,n,hn=>by
  simp only[topH,List.map_cons,List.cons.injEq]at h
  simp only[fillN]
  have again:n∈someN ns→∃j:Nat,(headO (d+c) true (m::ns)::fillN d t (tailO (m::ns)) is (c+1))[j]?=some n∧(o::os')[j]?=some (ι n):=fun hn=>by
   obtain⟨j,h1,h2⟩:=fillN_of ι d t ns is (c+1) os' (by simpa using hl) h.2 n hn
   exact⟨j+1,by simpa[tailO]using h1,by simpa using h2⟩
  cases m with
  |none=>exact again (by simpa[someN]using hn)
  |some k=>
   simp only[someN,List.mem_cons]at hn
   rcases hn with rfl|hn
   ·exact⟨0,by simp[headO],by simpa[hiOf]using h.1⟩
   ·exact again hn
 |false::t,ns,is,c,o::os',hl,h,n,hn=>by
  simp only[topH]at h
  simp only[fillN]
  obtain⟨j,h1,h2⟩:=fillN_of ι d t ns (tailO is) (c+1) os' (by simpa using hl) h n hn
  exact⟨j+1,by simpa using h1,by simpa using h2⟩
theorem sub_tops{pi pi':Nat→HI}{Fz Fz':Nat→Prop}{w w':World}:∀{i s:Sh} {x:ShD i} {y:ShD s} {v:Value} {o1 p1:List HI},i.isSub=true→s.isSub=true→subOk1 i s x y=true→RS pi Fz w i x v o1→RS pi' Fz' w' s y v p1→topH i.tops o1=topH s.tops p1
 | .sub e κ, .sub e' κ',x,y,v,o1,p1,_,_,h,h1,g1=>by
  simp only[subOk1,Bool.and_eq_true,decide_eq_true_eq]at h
  obtain⟨⟨⟨⟨rfl,q1⟩,q2⟩,q3⟩,q4⟩:=h
  have q1:=Nat.le_of_ble_eq_true q1
  have q2:=Nat.eq_of_beq_eq_true q2
  have q3:=Nat.eq_of_beq_eq_true q3
  have q4:=Nat.eq_of_beq_eq_true q4
  simp only[RS]at h1 g1
  obtain⟨I,rfl,⟨a1,a2⟩,a3,_⟩:=h1
  obtain⟨J,rfl,⟨b1,b2⟩,b3,_⟩:=g1
  simp only[RB]at a3 b3
  simp only[Sh.tops,topH,List.cons.injEq,and_true]
  rcases a2 with⟨e0,_⟩|⟨av,c,ae,_,ac⟩
  ·omega
  rcases b2 with⟨e0,_⟩|⟨bv,c',be,_,bc⟩
  ·omega
  rw[ae]at be
  simp only[Value.slice.injEq,Option.some.injEq,Addr.mk.injEq]at be
  obtain⟨⟨e1,_,_⟩,_,e2⟩:=be
  have l1:=a3.1
  have l2:=b3.1
  cases I;cases J
  simp only at e1 e2 av bv ac bc l1 l2
  simp only[HI.mk.injEq]
  exact⟨e1,by omega,by omega,by rw[av,bv]⟩
 | .k _,_,_,_,_,_,_,h,_,_,_,_| .row _ _,_,_,_,_,_,_,h,_,_,_,_| .box _,_,_,_,_,_,_,h,_,_,_,_| .agg _,_,_,_,_,_,_,h,_,_,_,_| .ifc _ _,_,_,_,_,_,_,h,_,_,_,_| .fn _ _,_,_,_,_,_,_,h,_,_,_,_| .lref _,_,_,_,_,_,_,h,_,_,_,_
 | .nilp,_,_,_,_,_,_,h,_,_,_,_| .nili,_,_,_,_,_,_,h,_,_,_,_| .nilf,_,_,_,_,_,_,h,_,_,_,_| .par _,_,_,_,_,_,_,h,_,_,_,_| .nan,_,_,_,_,_,_,h,_,_,_,_| .ep _,_,_,_,_,_,_,h,_,_,_,_| .snil,_,_,_,_,_,_,h,_,_,_,_| .bsl _,_,_,_,_,_,_,h,_,_,_,_| .krow _ _ _,_,_,_,_,_,_,h,_,_,_,_| .parw _ _,_,_,_,_,_,_,h,_,_,_,_=>by cases h
 | .sub _ _, .k _,_,_,_,_,_,_,h,_,_,_| .sub _ _, .row _ _,_,_,_,_,_,_,h,_,_,_| .sub _ _, .box _,_,_,_,_,_,_,h,_,_,_| .sub _ _, .agg _,_,_,_,_,_,_,h,_,_,_| .sub _ _, .ifc _ _,_,_,_,_,_,_,h,_,_,_| .sub _ _, .fn _ _,_,_,_,_,_,_,h,_,_,_| .sub _ _, .lref _,_,_,_,_,_,_,h,_,_,_
 | .sub _ _, .nilp,_,_,_,_,_,_,h,_,_,_| .sub _ _, .nili,_,_,_,_,_,_,h,_,_,_| .sub _ _, .nilf,_,_,_,_,_,_,h,_,_,_| .sub _ _, .par _,_,_,_,_,_,_,h,_,_,_| .sub _ _, .nan,_,_,_,_,_,_,h,_,_,_| .sub _ _, .ep _,_,_,_,_,_,_,h,_,_,_| .sub _ _, .snil,_,_,_,_,_,_,h,_,_,_| .sub _ _, .bsl _,_,_,_,_,_,_,h,_,_,_| .sub _ _, .krow _ _ _,_,_,_,_,_,_,h,_,_,_| .sub _ _, .parw _ _,_,_,_,_,_,_,h,_,_,_=>by cases h
theorem keep_of{pi pi':Nat→HI}{Fz Fz':Nat→Prop}{w w':World}(ι:Nat→HI)(fr:Bool)(d:Nat):∀(ins:List Sh) (fins:List (Option Sh)) (vals:List Value) (x:ShDs ins) (os:List (Option Nat)) (y:ShDs (keepS fins)) (os':List HI) (c:Nat),
 finsOk ins fins=true→subOk ins fins x y=true→RSs pi Fz w ins x vals (os.map (hiOf ι))→RSs pi' Fz' w' (keepS fins) y (keepV fins vals) os'→
 (∀n∈keepTops ins fins os,∃j:Nat,(keepNames fr d ins fins os c)[j]?=some n∧os'[j]?=some (ι n))∧(keepNames fr d ins fins os c).length=os'.length
 |[],[],vals,x,os,y,os',c,_,_,_,h=>by
  simp only[keepS,keepV,RSs]at h
  rw[h.2]
  exact⟨fun n hn=>by simp[keepTops]at hn,rfl⟩
 |[],_::_,_,_,_,_,_,_,h,_,_,_=>by simp[finsOk]at h
 |_::_,[],_,_,_,_,_,_,h,_,_,_=>by simp[finsOk]at h
 |i::ins,none::fins,vals,x,os,y,os',c,hok,hsub,h,h'=>by
  have hsub:subOk ins fins x.2 y=true:=by cases i<;>exact hsub
  simp only[RSs]at h
  obtain⟨v,q,o1,o2,rfl,ho,h1,h2⟩:=h
  have hc:=RS_cnt _ _ _ _ h1
  have e2:(os.drop i.cnt).map (hiOf ι)=o2:=by rw[List.map_drop,ho,←hc];simp
  simp only[finsOk]at hok
  simp only[keepS,keepV]at h'
  rw[←e2]at h2
  simpa only[keepTops,keepNames]using keep_of ι fr d ins fins q x.2 (os.drop i.cnt) y os' c hok hsub h2 h'
 |i::ins,some s::fins,vals,x,os,y,os',c,hok,hsub,h,h'=>by
  have hsub:(subOk1 i s x.1 y.1&&subOk ins fins x.2 y.2)=true:=hsub
  rw[Bool.and_eq_true]at hsub
  simp only[RSs]at h
  obtain⟨v,q,o1,o2,rfl,ho,h1,h2⟩:=h
  have hc:=RS_cnt _ _ _ _ h1
  have e2:(os.drop i.cnt).map (hiOf ι)=o2:=by rw[List.map_drop,ho,←hc];simp
  simp only[finsOk,Bool.and_eq_true]at hok
  simp only[keepS,keepV,RSs]at h'
  obtain⟨v',q',p1,p2,e,rfl,g1,g2⟩:=h'
  simp only[List.cons.injEq]at e
  obtain⟨rfl,rfl⟩:=e
  rw[←e2]at h2
  obtain⟨r1,r2⟩:=keep_of ι fr d ins fins q x.2 (os.drop i.cnt) y.2 p2 (c+s.cnt) hok.2 hsub.2 h2 g2
  have ht:topH i.tops o1=topH s.tops p1:=by
   rcases Bool.or_eq_true _ _▸hok.1 with hsim|hsb
   ·exact tops_eq i s _ _ _ _ _ hsim h1 g1
   ·rw[Bool.and_eq_true]at hsb
    exact sub_tops hsb.1 hsb.2 hsub.1 h1 g1
  have ht':topH i.tops (os.map (hiOf ι))=topH i.tops o1:=by
   rw[ho]
   have:=topH_append i.tops o1 [] o2 (by rw[tops_len,hc])
   simpa[topH]using this
  have hp1:=RS_cnt _ _ _ _ g1
  have hf:=fillN_of ι d s.tops (topN i.tops os) (bif fr then []else botN i.tops os) c p1 (by rw[tops_len,hp1]) (by rw[←ht,←ht',topN_map])
  simp only[keepTops,keepNames]
  have hfl:(fillN d s.tops (topN i.tops os) (bif fr then []else botN i.tops os) c).length=p1.length:=by rw[fillN_len,tops_len,hp1]
  refine⟨fun n hn=> ?_,by rw[List.length_append,List.length_append,hfl,r2]⟩
  rcases List.mem_append.1 hn with hn|hn
  ·obtain⟨j,a,b⟩:=hf n hn
   exact⟨j,by rw[List.getElem?_append_left (List.getElem?_eq_some_iff.1 a).1];exact a,by rw[List.getElem?_append_left (List.getElem?_eq_some_iff.1 b).1];exact b⟩
  ·obtain⟨j,a,b⟩:=r1 n hn
   exact⟨p1.length+j,by rw[List.getElem?_append_right (by omega),hfl];simpa using a,by rw[List.getElem?_append_right (by omega)];simpa using b⟩
theorem nameL_len:∀(n b:Nat),(nameL b n).length=n
 |0,_=>rfl
 |n+1,b=>by simp only[nameL,List.length_cons];rw[nameL_len n]
theorem cnts_append:∀(a b:List Sh),cnts (a++b)=cnts a+cnts b
 |[],b=>by simp[cnts]
 |s::a,b=>by simp only[List.cons_append,cnts];rw[cnts_append a b];omega
theorem RSs_split{pi:Nat→HI}{Fz:Nat→Prop}{w:World}:∀(a b:List Sh) (d:ShDs (a++b)) (us vs:List Value) (os:List HI),us.length=a.length→RSs pi Fz w (a++b) d (us++vs) os→
 ∃o1 o2,os=o1++o2∧o1.length=cnts a∧RSs pi Fz w b (dropSh a b d) vs o2
 |[],b,d,[],vs,os,_,h=>⟨[],os,rfl,rfl,h⟩
 |[],b,d,_::_,vs,os,hl,_=>by simp at hl
 |s::a,b,d,[],vs,os,hl,_=>by simp at hl
 |s::a,b,d,u::us,vs,os,hl,h=>by
  simp only[List.cons_append,RSs]at h
  obtain⟨v,q,o1,o2,e,rfl,h1,h2⟩:=h
  simp only[List.cons.injEq]at e
  obtain⟨rfl,rfl⟩:=e
  obtain⟨p1,p2,rfl,hp,h3⟩:=RSs_split a b d.2 us vs o2 (by simpa using hl) h2
  exact⟨o1++p1,p2,by rw[List.append_assoc],by simp only[List.length_append,cnts,hp,RS_cnt _ _ _ _ h1],h3⟩
theorem renderShs_len(pn:Nat→Nat):∀(ss:List Sh) (d:ShDs ss) (ns:List Nat),(renderShs pn ss d ns).1.length=ss.length
 |[],_,_=>rfl
 |s::r,d,ns=>by simp only[renderShs,List.length_cons];rw[renderShs_len pn r]
theorem goneL_spec:∀(l:List Nat) (H:List (Nat×AB)) (h:Nat),(h∈l∧getH (goneL l++H) h= .gone)∨(h∉l∧getH (goneL l++H) h=getH H h)
 |[],H,h=> .inr ⟨by simp,rfl⟩
 |n::l,H,h=>by
  simp only[goneL,List.cons_append]
  rw[getH_cons]
  by_cases e:n=h
  ·subst e;exact .inl ⟨by simp,by simp⟩
  ·rw[if_neg e]
   rcases goneL_spec l H h with⟨h1,h2⟩|⟨h1,h2⟩
   ·exact .inl ⟨by simp[h1],h2⟩
   ·exact .inr ⟨by simp only[List.mem_cons,not_or];exact⟨Ne.symm e,h1⟩,h2⟩
theorem mem_someN:∀{os:List (Option Nat)} {h:Nat},h∈someN os↔some h∈os
 |[],h=>by simp[someN]
 |some n::r,h=>by simp only[someN,List.mem_cons,Option.some.injEq,mem_someN (os:=r)]
 |none::r,h=>by simp only[someN,List.mem_cons,mem_someN (os:=r)];simp
theorem someN_nodup:∀{os:List (Option Nat)} {j k:Nat} {h:Nat},(someN os).Nodup→os[j]?=some (some h)→os[k]?=some (some h)→j=k
 |[],_,_,_,_,h,_=>by simp at h
 |o::r,0,0,_,_,_,_=>rfl
 |o::r,0,k+1,h,hd,h1,h2=>by
  simp only[List.getElem?_cons_zero,Option.some.injEq]at h1
  subst h1
  simp only[someN]at hd
  exact absurd (mem_someN.2 (List.mem_of_getElem? (by simpa using h2))) (List.nodup_cons.1 hd).1
 |o::r,j+1,0,h,hd,h1,h2=>by
  simp only[List.getElem?_cons_zero,Option.some.injEq]at h2
  subst h2
  simp only[someN]at hd
  exact absurd (mem_someN.2 (List.mem_of_getElem? (by simpa using h1))) (List.nodup_cons.1 hd).1
 |o::r,j+1,k+1,h,hd,h1,h2=>by
  have:(someN r).Nodup:=by
   cases o with
   |none=>exact hd
   |some n=>exact(List.nodup_cons.1 hd).2
  exact congrArg (·+1) (someN_nodup this (by simpa using h1) (by simpa using h2))
theorem ownSome_of(ι:Nat→HI):∀(os:List (Option Nat)) (i:Nat),ownSome os i=true→ι (ownAt os i)=(os.map (hiOf ι)).getD i ⟨0,0,0,true⟩
 |[],i,h=>by cases i<;>cases h
 |some n::r,0,h=>by simp[ownAt,hiOf]
 |none::r,0,h=>by cases h
 |o::r,i+1,h=>by
  have:=ownSome_of ι r i (by cases o<;>exact h)
  cases o<;>simpa[ownAt]using this
mutual
theorem fixs_len:∀(s:Sh),s.fixs.length=s.cnt
 | .k _=>rfl
 | .tr=>rfl
 | .row _ _=>rfl
 | .sub _ _=>rfl
 | .krow _ _ _=>rfl
 | .parw _ _=>rfl
 | .box cs=>by simp only[Sh.fixs,Sh.cnt,List.length_cons];rw[fixL_len cs]
 | .bsl cs=>by simp only[Sh.fixs,Sh.cnt,List.length_cons];rw[fixL_len cs]
 | .agg cs=>by simp only[Sh.fixs,Sh.cnt];exact fixL_len cs
 | .ifc _ s=>by simp only[Sh.fixs,Sh.cnt];exact fixs_len s
 | .fn _ cs=>by simp only[Sh.fixs,Sh.cnt];exact fixL_len cs
 | .lref _=>rfl
 | .nilp=>rfl
 | .nili=>rfl
 | .nilf=>rfl
 | .nan=>rfl
 | .ep _=>rfl
 | .snil=>rfl
 | .par _=>rfl
theorem fixL_len:∀(l:List Sh),(fixL l).length=cnts l
 |[]=>rfl
 |s::r=>by simp only[fixL,cnts,List.length_append];rw[fixs_len s,fixL_len r]
end
mutual
theorem fixs_of{pi:Nat→HI}{Fz:Nat→Prop}{w:World}:∀(s:Sh) (x:ShD s) (v:Value) (os:List HI),RS pi Fz w s x v os→∀(j i:Nat),s.fixs[j]?=some (some i)→os[j]?=some (pi i)
 | .k _,x,v,os,h,j,i,hj=>by simp[Sh.fixs]at hj
 | .row _ _,x,v,os,h,j,i,hj=>by cases j<;>simp[Sh.fixs]at hj
 | .sub _ _,x,v,os,h,j,i,hj=>by cases j<;>simp[Sh.fixs]at hj
 | .krow k e κ,x,v,os,h,j,i,hj=>by
  simp only[RS]at h
  obtain⟨I,rfl,e1,_⟩:=h
  cases j with
  |zero=>simp only[Sh.fixs,List.getElem?_cons_zero,Option.some.injEq]at hj;subst hj;rw[e1];rfl
  |succ j=>simp[Sh.fixs]at hj
 | .parw _ _,x,v,os,h,j,i,hj=>by simp[Sh.fixs]at hj
 | .box cs,d,v,os,h,j,i,hj=>by
  simp only[RS]at h
  obtain⟨I,r,vs,T,rfl,_,_,_,_,_,_,h⟩:=h
  cases j with
  |zero=>simp[Sh.fixs]at hj
  |succ j=>simpa using fixL_of cs d vs r h j i (by simpa[Sh.fixs]using hj)
 | .bsl cs,d,v,os,h,j,i,hj=>by
  simp only[RS]at h
  obtain⟨I,r,vs,T,rfl,_,_,_,_,_,_,h⟩:=h
  cases j with
  |zero=>simp[Sh.fixs]at hj
  |succ j=>simpa using fixL_of cs d vs r h j i (by simpa[Sh.fixs]using hj)
 | .agg cs,d,v,os,h,j,i,hj=>by
  simp only[RS]at h
  obtain⟨vs,_,_,h⟩:=h
  exact fixL_of cs d vs os h j i (by simpa[Sh.fixs]using hj)
 | .ifc _ s,d,v,os,h,j,i,hj=>by
  simp only[RS]at h
  obtain⟨u,_,h⟩:=h
  exact fixs_of s d u os h j i (by simpa[Sh.fixs]using hj)
 | .fn _ cs,d,v,os,h,j,i,hj=>by
  simp only[RS]at h
  obtain⟨vs,_,h⟩:=h
  exact fixL_of cs d vs os h j i (by simpa[Sh.fixs]using hj)
 | .lref _,x,v,os,h,j,i,hj=>by simp[Sh.fixs]at hj
 | .nilp,x,v,os,h,j,i,hj=>by simp[Sh.fixs]at hj
 | .nili,x,v,os,h,j,i,hj=>by simp[Sh.fixs]at hj
 | .nilf,x,v,os,h,j,i,hj=>by simp[Sh.fixs]at hj
 | .nan,x,v,os,h,j,i,hj=>by simp[Sh.fixs]at hj
 | .ep _,x,v,os,h,j,i,hj=>by simp[Sh.fixs]at hj
 | .snil,x,v,os,h,j,i,hj=>by simp[Sh.fixs]at hj
 | .par _,x,v,os,h,j,i,hj=>by simp[Sh.fixs]at hj
theorem fixL_of{pi:Nat→HI}{Fz:Nat→Prop}{w:World}:∀(ss:List Sh) (x:ShDs ss) (vs:List Value) (os:List HI),RSs pi Fz w ss x vs os→∀(j i:Nat),(fixL ss)[j]?=some (some i)→os[j]?=some (pi i)
 |[],x,vs,os,h,j,i,hj=>by simp[fixL]at hj
 |s::r,d,vs,os,h,j,i,hj=>by
  simp only[RSs]at h
  obtain⟨v,q,o1,o2,rfl,rfl,h1,h2⟩:=h
  have hl:=RS_cnt _ _ _ _ h1
  simp only[fixL]at hj
  rcases Nat.lt_or_ge j s.fixs.length with hlt|hge
  ·rw[List.getElem?_append_left hlt]at hj
   rw[List.getElem?_append_left (by rw[hl,←fixs_len];exact hlt)]
   exact fixs_of s d.1 v o1 h1 j i hj
  ·rw[List.getElem?_append_right hge]at hj
   rw[List.getElem?_append_right (by rw[hl,←fixs_len];exact hge),hl,←fixs_len]
   exact fixL_of r d.2 q o2 h2 _ i hj
end
theorem ovr_len(os:List (Option Nat)):∀(f:List (Option Nat)) (ns:List Nat),(ovr os f ns).length=ns.length
 |[],ns=>rfl
 |_::_,[]=>rfl
 |some i::f,n::ns=>by simp only[ovr,List.length_cons];rw[ovr_len os f ns]
 |none::f,n::ns=>by simp only[ovr,List.length_cons];rw[ovr_len os f ns]
theorem ovr_fix(os:List (Option Nat)):∀(f:List (Option Nat)) (ns:List Nat) (j i:Nat),f[j]?=some (some i)→j<ns.length→(ovr os f ns)[j]?=some (ownAt os i)
 |[],ns,j,i,h,_=>by simp at h
 |_::_,[],j,i,h,hl=>by simp at hl
 |some k::f,n::ns,0,i,h,hl=>by simp only[List.getElem?_cons_zero,Option.some.injEq]at h;subst h;rfl
 |none::f,n::ns,0,i,h,hl=>by simp at h
 |some k::f,n::ns,j+1,i,h,hl=>by simp only[ovr,List.getElem?_cons_succ]at h⊢;exact ovr_fix os f ns j i h (by simpa using hl)
 |none::f,n::ns,j+1,i,h,hl=>by simp only[ovr,List.getElem?_cons_succ]at h⊢;exact ovr_fix os f ns j i h (by simpa using hl)
theorem mem_fixN(os:List (Option Nat)):∀(f:List (Option Nat)) (n:Nat),n∈fixN os f→∃(j i:Nat),f[j]?=some (some i)∧n=ownAt os i∧i∈fixI f
 |[],n,h=>by simp[fixN]at h
 |some i::f,n,h=>by
  simp only[fixN,List.mem_cons]at h
  rcases h with rfl|h
  ·exact⟨0,i,rfl,rfl,by simp[fixI]⟩
  ·obtain⟨j,k,a,b,c⟩:=mem_fixN os f n h
   exact⟨j+1,k,by simpa using a,b,by simp[fixI,c]⟩
 |none::f,n,h=>by
  obtain⟨j,k,a,b,c⟩:=mem_fixN os f n h
  exact⟨j+1,k,by simpa using a,b,by simpa[fixI]using c⟩
theorem tOk_at{kt:List Nat}:∀{as bs:List Nat} {j n:Nat},tOk kt as bs=true→as.length=bs.length→as[j]?=some n→n∈kt→bs[j]?=some n
 |[],_,_,_,_,_,h,_=>by simp at h
 |a::as,[],_,_,_,hl,_,_=>by simp at hl
 |a::as,b::bs,0,n,h,hl,hj,hn=>by
  simp only[tOk,Bool.and_eq_true,Bool.or_eq_true,Bool.not_eq_true']at h
  simp only[List.getElem?_cons_zero,Option.some.injEq]at hj⊢
  subst hj
  rcases h.1 with h1|h1
  ·rw[memN_iff.2 hn]at h1;cases h1
  ·exact(Nat.eq_of_beq_eq_true h1).symm
 |a::as,b::bs,j+1,n,h,hl,hj,hn=>by
  simp only[tOk,Bool.and_eq_true]at h
  simp only[List.getElem?_cons_succ]at hj⊢
  exact tOk_at h.2 (by simpa using hl) hj hn
theorem ownAt_of(ι:Nat→HI):∀(os:List (Option Nat)) (i:Nat),((os.map (hiOf ι)).getD i ⟨0,0,0,true⟩).virt=false→ι (ownAt os i)=(os.map (hiOf ι)).getD i ⟨0,0,0,true⟩
 |[],i,h=>by simp at h
 |some n::r,0,h=>by simp[ownAt,hiOf]
 |none::r,0,h=>by simp[hiOf]at h
 |o::r,i+1,h=>by
  have:=ownAt_of ι r i (by simpa using h)
  cases o<;>simpa[ownAt]using this
theorem tlN_drop(ns:List Nat):tlN ns=ns.drop 1:=by cases ns<;>rfl
mutual
theorem render_rest(pn:Nat→Nat):∀(s:Sh) (x:ShD s) (ns:List Nat),(renderSh pn s x ns).2.2=ns.drop s.cnt
 | .k _,_,ns=>by simp[renderSh,Sh.cnt]
 | .tr,_,ns=>by simp[renderSh,Sh.cnt]
 | .row _ _,_,ns=>by simp[renderSh,Sh.cnt,tlN_drop]
 | .sub _ _,_,ns=>by simp[renderSh,Sh.cnt,tlN_drop]
 | .krow _ _ _,_,ns=>by simp[renderSh,Sh.cnt,tlN_drop]
 | .parw _ _,_,ns=>by simp[renderSh,Sh.cnt]
 | .box cs,d,ns=>by simp only[renderSh,Sh.cnt];rw[renders_rest pn cs d,tlN_drop,List.drop_drop,Nat.add_comm]
 | .bsl cs,d,ns=>by simp only[renderSh,Sh.cnt];rw[renders_rest pn cs d,tlN_drop,List.drop_drop,Nat.add_comm]
 | .agg cs,d,ns=>by simp only[renderSh,Sh.cnt];exact renders_rest pn cs d ns
 | .ifc _ s,d,ns=>by simp only[renderSh,Sh.cnt];exact render_rest pn s d ns
 | .fn _ cs,d,ns=>by simp only[renderSh,Sh.cnt];exact renders_rest pn cs d ns
 | .lref _,_,ns=>by simp[renderSh,Sh.cnt]
 | .nilp,_,ns=>by simp[renderSh,Sh.cnt]
 | .nili,_,ns=>by simp[renderSh,Sh.cnt]
 | .nilf,_,ns=>by simp[renderSh,Sh.cnt]
 | .nan,_,ns=>by simp[renderSh,Sh.cnt]
 | .ep _,_,ns=>by simp[renderSh,Sh.cnt]
 | .snil,_,ns=>by simp[renderSh,Sh.cnt]
 | .par _,_,ns=>by simp[renderSh,Sh.cnt]
theorem renders_rest(pn:Nat→Nat):∀(ss:List Sh) (x:ShDs ss) (ns:List Nat),(renderShs pn ss x ns).2.2=ns.drop (cnts ss)
 |[],_,ns=>by simp[renderShs,cnts]
 |s::r,d,ns=>by simp only[renderShs,cnts];rw[renders_rest pn r,render_rest pn s,List.drop_drop]
end
theorem take_hd{ns:List Nat}(h:1≤ns.length):ns.take 1=[hdN ns]:=by
 cases ns with
 |nil=>simp at h
 |cons n r=>simp[hdN]
mutual
theorem render_fst(pn:Nat→Nat):∀(s:Sh) (x:ShD s) (ns:List Nat),s.cnt≤ns.length→(renderSh pn s x ns).2.1.map Prod.fst=ns.take s.cnt
 | .k _,_,ns,_=>by simp[renderSh,Sh.cnt]
 | .tr,_,ns,_=>by simp[renderSh,Sh.cnt]
 | .row _ _,_,ns,h=>by simp only[renderSh,Sh.cnt,List.map_cons,List.map_nil]at h⊢;rw[take_hd h]
 | .sub _ _,_,ns,h=>by simp only[renderSh,Sh.cnt,List.map_cons,List.map_nil]at h⊢;rw[take_hd h]
 | .krow _ _ _,_,ns,h=>by simp only[renderSh,Sh.cnt,List.map_cons,List.map_nil]at h⊢;rw[take_hd h]
 | .parw _ _,_,ns,_=>by simp[renderSh,Sh.cnt]
 | .box cs,d,ns,h=>by
  simp only[renderSh,Sh.cnt,List.map_cons]at h⊢
  rw[renders_fst pn cs d (tlN ns) (by rw[tlN_drop,List.length_drop];omega)]
  cases ns with
  |nil=>simp at h
  |cons n r=>simp[hdN,tlN]
 | .bsl cs,d,ns,h=>by
  simp only[renderSh,Sh.cnt,List.map_cons]at h⊢
  rw[renders_fst pn cs d (tlN ns) (by rw[tlN_drop,List.length_drop];omega)]
  cases ns with
  |nil=>simp at h
  |cons n r=>simp[hdN,tlN]
 | .agg cs,d,ns,h=>by simp only[renderSh,Sh.cnt]at h⊢;exact renders_fst pn cs d ns h
 | .ifc _ s,d,ns,h=>by simp only[renderSh,Sh.cnt]at h⊢;exact render_fst pn s d ns h
 | .fn _ cs,d,ns,h=>by simp only[renderSh,Sh.cnt]at h⊢;exact renders_fst pn cs d ns h
 | .lref _,_,ns,_=>by simp[renderSh,Sh.cnt]
 | .nilp,_,ns,_=>by simp[renderSh,Sh.cnt]
 | .nili,_,ns,_=>by simp[renderSh,Sh.cnt]
 | .nilf,_,ns,_=>by simp[renderSh,Sh.cnt]
 | .nan,_,ns,_=>by simp[renderSh,Sh.cnt]
 | .ep _,_,ns,_=>by simp[renderSh,Sh.cnt]
 | .snil,_,ns,_=>by simp[renderSh,Sh.cnt]
 | .par _,_,ns,_=>by simp[renderSh,Sh.cnt]
theorem renders_fst(pn:Nat→Nat):∀(ss:List Sh) (x:ShDs ss) (ns:List Nat),cnts ss≤ns.length→(renderShs pn ss x ns).2.1.map Prod.fst=ns.take (cnts ss)
 |[],_,ns,_=>by simp[renderShs,cnts]
 |s::r,d,ns,h=>by
  simp only[renderShs,cnts,List.map_append]at h⊢
  rw[render_fst pn s d.1 ns (by omega),renders_fst pn r d.2 _ (by rw[render_rest,List.length_drop];omega),render_rest,List.take_add]
end
theorem keepNames_len(fr:Bool)(d:Nat):∀(ins:List Sh) (fins:List (Option Sh)) (os:List (Option Nat)) (c:Nat),finsOk ins fins=true→(keepNames fr d ins fins os c).length=cnts (keepS fins)
 |[],[],_,_,_=>rfl
 |[],_::_,_,_,h=>by simp[finsOk]at h
 |_::_,[],_,_,h=>by simp[finsOk]at h
 |i::ins,none::fins,os,c,h=>by simp only[finsOk]at h;simp only[keepNames,keepS];exact keepNames_len fr d ins fins _ c h
 |i::ins,some s::fins,os,c,h=>by
  simp only[finsOk,Bool.and_eq_true]at h
  simp only[keepNames,keepS,cnts,List.length_append]
  rw[fillN_len,tops_len,keepNames_len fr d ins fins _ _ h.2]
end Go.Av
namespace Go.Av
open Go
section
variable {R:Type} {P:Program} {ι:Nat→HI} {Fz:Nat→Prop} {w:World} {w0:Root} {Fz0:Nat→Prop}
theorem run_copy_gen{dT sT ty elem:TypeId}{i:TypeInfo}(hu:P.underlying dT=some (.slice elem))(hi:P.info? elem=some i)(h1:i.size=1){b dLen dCap:Nat}{src:Option Addr}{sLen sCap:Nat}{cs:List Value}
 (hn:cs.length=Nat.min sLen dLen) (hsrc:cs=[]∨∃a,src=some a∧∀j v,cs[j]?=some v→w.cell? (a.add j)=some v) {vs:List Value} {T:TypeId} (hb:w.heap[b]?=some (.cells vs.toArray T (0,0))) (hfit:cs.length≤vs.length) (hone:∀v∈cs,v.oneCell'=true):
 ∃w',(Builtin.copy_ #[dT,sT] ty #[.slice (some ⟨b,0,none⟩) dLen dCap, .slice src sLen sCap]).run P w= .ok (goInt cs.length) w'∧Upd w w' b (.cells (setV vs 0 cs).toArray T (0,0)):=by
 have hti:=run_typeInfo (P:=P) (w:=w) hi
 rcases hsrc with rfl|⟨a,rfl,hsrc⟩
 ·refine⟨w, ?_,Upd.refl hb⟩
  have hn':Nat.min sLen dLen=0:=hn.symm
  exact run_copy_none (P:=P) w dT sT ty elem (some ⟨b,0,none⟩) src dLen dCap sLen sCap hu (by rw[hi];simp[h1]) hn'
 ·have hl:=run_loadCells_list (P:=P) w a cs hsrc
  obtain⟨w',hr,hup⟩:=run_storeCells (P:=P) cs vs w 0 0 hb (by omega) hone
  refine⟨w', ?_,by simpa using hup⟩
  simp[Builtin.copy_,run_underlying hu,Builtin.lenOf,Builtin.firstCells,sizeOf,hti,h1,←hn,hl,hr]
theorem run_copy_at{dT sT ty elem:TypeId}{i:TypeInfo}(hu:P.underlying dT=some (.slice elem))(hi:P.info? elem=some i)(h1:i.size=1){b o dLen dCap:Nat}{src:Option Addr}{sLen sCap:Nat}{cs:List Value}
 (hn:cs.length=Nat.min sLen dLen) (hsrc:cs=[]∨∃a,src=some a∧∀j v,cs[j]?=some v→w.cell? (a.add j)=some v) {vs:List Value} {T:TypeId} (hb:w.heap[b]?=some (.cells vs.toArray T (0,0))) (hfit:o+cs.length≤vs.length) (hone:∀v∈cs,v.oneCell'=true):
 ∃w',(Builtin.copy_ #[dT,sT] ty #[.slice (some ⟨b,o,none⟩) dLen dCap, .slice src sLen sCap]).run P w= .ok (goInt cs.length) w'∧Upd w w' b (.cells (setV vs o cs).toArray T (0,0)):=by
 have hti:=run_typeInfo (P:=P) (w:=w) hi
 rcases hsrc with rfl|⟨a,rfl,hsrc⟩
 ·refine⟨w, ?_,Upd.refl hb⟩
  have hn':Nat.min sLen dLen=0:=hn.symm
  exact run_copy_none (P:=P) w dT sT ty elem (some ⟨b,o,none⟩) src dLen dCap sLen sCap hu (by rw[hi];simp[h1]) hn'
 ·have hl:=run_loadCells_list (P:=P) w a cs hsrc
  obtain⟨w',hr,hup⟩:=run_storeCells (P:=P) cs vs w o 0 hb (by omega) hone
  refine⟨w', ?_,by simpa using hup⟩
  simp[Builtin.copy_,run_underlying hu,Builtin.lenOf,Builtin.firstCells,sizeOf,hti,h1,←hn,hl,hr]
theorem Mem.same{H H':List (Nat×AB)}(m:Mem w0 Fz0 ι Fz H w)(h:∀k,getH H' k=getH H k):Mem w0 Fz0 ι Fz H' w:=
 ⟨m.below,m.fz,m.fz0,m.fzn,fun k=>by rw[h];exact m.rb k,fun k hk hv=>m.sep k (by rw[←h];exact hk) hv,fun k k' hk hk'=>m.inj k k' (by rw[←h];exact hk) (by rw[←h];exact hk'),m.iot,fun k=>by rw[h];exact m.cn k,m.gz⟩
theorem list_pick{α:Type}{p:Nat→α→Prop}:∀(n:Nat),(∀i<n,∃x,p i x)→∃xs:List α,xs.length=n∧∀i x,xs[i]?=some x→p i x
 |0,_=>⟨[],rfl,fun i x h=>by simp at h⟩
 |n+1,h=>by
  obtain⟨xs,hl,hx⟩:=list_pick n (fun i hi=>h i (by omega))
  obtain⟨y,hy⟩:=h n (by omega)
  refine⟨xs++[y],by simp[hl],fun i x hi=> ?_⟩
  rcases Nat.lt_or_ge i n with hlt|hge
  ·rw[List.getElem?_append_left (by omega)]at hi;exact hx i x hi
  ·rw[List.getElem?_append_right (by omega)]at hi
   have h0:i-xs.length=0:=by
    rcases Nat.eq_zero_or_pos (i-xs.length)with h|h
    ·exact h
    ·rw[List.getElem?_eq_none (by simp;omega)]at hi;cases hi
   rw[h0]at hi
   simp only[List.getElem?_cons_zero,Option.some.injEq]at hi
   subst hi
   have:i=n:=by omega
   rw[this];exact hy
theorem cpS_of{t el:TypeId}{st:St}{κ₀:Kd}{g off len:Nat}{xv:AV}{vs vx:Value}{K:AV→List (Nat×AB)→List Nat→Option R}{r:R}{E:Env}{a:Act}(b:Behind w0 Fz0 ι Fz st a w)(hu:E.P.underlying t=some (.slice el))(hs:RV ι Fz w (.sub κ₀ g off len) vs)(hx:RV ι Fz w xv vx)
 (h:(match getH st.H g with
  | .arr e κ xs=>bif decide (κ₀=κ)&&Nat.beq κ.size 1&&sizeB E.P el 1&&κ.plain then(argD st.H (.list κ) xv).bind fun ys=>K (.pv (.int .i64) ((min ys.length len:Nat):Int)) [(g, .arr e κ (xs.take off++(ys.take len++xs.drop (off+min ys.length len))))] []else none
  |_=>none)=some r):∃(n:Int) (ks:List (Nat×AB)),K (.pv (.int .i64) n) ks []=some r∧∃w',(∀sT ty,(Builtin.copy_ #[t,sT] ty #[vs,vx]).run E.P w= .ok (.int .i64 n) w')∧Behind w0 Fz0 ι Fz ⟨st.fr,ks++st.H,st.df⟩ a w':=by
 have m:=b.2.2
 split at h
 rotate_left
 ·cases h
 rename_i e κ xs hg
 cases hc:(decide (κ₀=κ)&&Nat.beq κ.size 1&&sizeB E.P el 1&&κ.plain)with
 |false=>rw[hc]at h;cases h
 |true=>
  rw[hc,cond_true]at h
  simp only[Bool.and_eq_true,decide_eq_true_eq]at hc
  obtain⟨⟨⟨rfl,hc1⟩,hc2⟩,hpl⟩:=hc
  have hsz:=Nat.eq_of_beq_eq_true hc1
  obtain⟨inf,hinf,hi1⟩:=sizeB_of hc2
  obtain⟨ys,hy,h⟩:=Option.bind_eq_some_iff.1 h
  have hpv:RV ι (lent ι Fz st.H) w (.pv (.list κ₀) ys) vx:=argD_of m.rb (fun _ h=> .inl h) hy hx (fun h _ hl hv=> .inr ⟨h,isArr_live hl,hv,rfl⟩)
  simp only[RV,Kd.isAgg,RP,Bool.false_eq_true,if_false]at hpv
  obtain⟨vx',hvx,ha⟩:=hpv
  simp only[List.cons.injEq,and_true]at hvx
  subst hvx
  obtain⟨sa,sc,rfl,hlc,hel⟩:=ha
  have hrb:=m.rb g
  rw[hg]at hrb
  simp only[RB]at hrb
  simp only[RV]at hs
  obtain⟨hol,hs⟩:=hs
  refine⟨_,_,h, ?_⟩
  have none_:len=0→∀(d:Option Addr) (c:Nat),∃w',(∀sT ty,(Builtin.copy_ #[t,sT] ty #[.slice d len c, .slice sa ys.length sc]).run E.P w= .ok (.int .i64 ((min ys.length len:Nat):Int)) w')∧Behind w0 Fz0 ι Fz ⟨st.fr,[(g,AB.arr e κ₀ (xs.take off++(ys.take len++xs.drop (off+min ys.length len))))]++st.H,st.df⟩ a w':=by
   intro hl0 d c
   subst hl0
   refine⟨w,fun sT ty=> ?_,b.1,b.2.1,m.same fun k=> ?_⟩
   ·have:=run_copy_none (P:=E.P) w t sT ty el d sa 0 c ys.length sc hu (by rw[hinf];simp[hi1]) (by simp)
    rw[this]
    simp[goInt]
   ·show getH ((g,AB.arr e κ₀ (xs.take off++(ys.take 0++xs.drop (off+min ys.length 0))))::st.H) k=getH st.H k
    rw[getH_cons]
    split
    ·rename_i e'
     subst e'
     rw[hg];simp
    ·rfl
  rcases hs with⟨hl0,aa,c,rfl,_⟩|⟨hv,c,rfl,hlc',hoc⟩
  ·subst hl0
   exact none_ rfl aa c
  ·rcases hrb.2 with⟨hvi,_⟩|⟨_,cells,hh,h2,h3,h4,h5⟩
   ·rw[hvi]at hv;cases hv
   have hox:off+len≤xs.length:=by rw[←hrb.1];exact hol
   have hpick:∀i<min ys.length len,∃u:Value,u.oneCell'=true∧(∃q,ys[i]?=some q∧RP (lent ι Fz st.H) w κ₀ q [u])∧(∀bb off,sa=some ⟨bb,off,none⟩→ys≠[]→w.cell? ⟨bb,off+i,none⟩=some u):=by
    intro i hi
    have hiy:i<ys.length:=by omega
    rcases hel with rfl|⟨bb,off,rfl,hbb,hel⟩
    ·simp at hiy
    ·obtain⟨es,e1,e2,e3⟩:=hel i ys[i] (List.getElem?_eq_getElem hiy)
     rw[hsz]at e2 e3
     match es,e2,e1,e3 with
     |[u],_,e1,e3=>
      refine⟨u,RP_one κ₀ _ _ e1 u (by simp),⟨_,List.getElem?_eq_getElem hiy,e1⟩,fun b' off' he _=> ?_⟩
      simp only[Option.some.injEq,Addr.mk.injEq,and_true]at he
      obtain⟨rfl,rfl⟩:=he
      have:=e3 0 u rfl
      simpa using this
   obtain⟨cs,hcl,hcs⟩:=list_pick (min ys.length len) hpick
   have hh':w.heap[(ι g).blk]?=some (.cells cells.toList.toArray e (0,0)):=by simpa using hh
   have hcap:cells.toList.length=(ι g).cap:=by rw[Array.length_toList,h4,hsz,Nat.mul_one]
   have hom:off*κ₀.size=off:=by rw[hsz,Nat.mul_one]
   rw[hom]
   obtain⟨w',hrun,hup⟩:∃w',(∀sT ty,(Builtin.copy_ #[t,sT] ty #[.slice (some ⟨(ι g).blk,off,none⟩) len c, .slice sa ys.length sc]).run E.P w= .ok (goInt cs.length) w')∧Upd w w' (ι g).blk (.cells (setV cells.toList off cs).toArray e (0,0)):=by
    have hsrc:cs=[]∨∃a,sa=some a∧∀j v,cs[j]?=some v→w.cell? (a.add j)=some v:=by
     rcases hel with rfl|⟨bb,off,rfl,hbb,_⟩
     ·left;exact List.eq_nil_of_length_eq_zero (by simp[hcl])
     ·right
      refine⟨_,rfl,fun j v hj=> ?_⟩
      rw[Addr.add_lit]
      have hjl:=(List.getElem?_eq_some_iff.1 hj).1
      refine(hcs j v hj).2.2 bb off rfl (fun e=> ?_)
      have:cs.length=0:=by rw[hcl,e];simp
      omega
    obtain⟨w',h1,h2'⟩:=run_copy_at (P:=E.P) (sT:=t) (ty:=t) (o:=off) (dCap:=c) (sCap:=sc) hu hinf hi1 (dLen:=len) (sLen:=ys.length) (cs:=cs) (by rw[hcl]) hsrc hh' (by rw[hcl,hcap];omega) (fun v hv=>by
     obtain⟨j,hj⟩:=List.mem_iff_getElem?.1 hv
     exact(hcs j v hj).1)
    refine⟨w',fun sT ty=> ?_,h2'⟩
    have e1:∀s1 y1 s2 y2,Builtin.copy_ #[t,s1] y1 #[.slice (some ⟨(ι g).blk,off,none⟩) len c, .slice sa ys.length sc]=Builtin.copy_ #[t,s2] y2 #[.slice (some ⟨(ι g).blk,off,none⟩) len c, .slice sa ys.length sc]:=fun _ _ _ _=>rfl
    rw[e1 sT ty t t];exact h1
   have hlive:(getH st.H g).live:=by rw[hg];trivial
   obtain⟨s1,s2,s3⟩:=m.sep g hlive hv
   have hw:∀b,Fz b→w'.heap[b]?=w.heap[b]?:=fun k hk=>hup.ne k (fun e=>s3 (e▸hk))
   have hnew:(xs.take off++(ys.take len++xs.drop (off+min ys.length len))).length=xs.length:=by simp;omega
   refine⟨w',fun sT ty=>by rw[hrun sT ty,hcl];rfl,b.mono hw (fun _ h=>h) (m.upd hlive hv hup ?_ trivial (by have:=m.cn g;rw[hg]at this;exact this))⟩
   simp only[RB]
   refine⟨by rw[hnew];exact hrb.1, .inr ⟨hv,_,hup.at',by rw[hnew];exact h2,h3,by rw[List.size_toArray,setV_len];simpa using h4,fun k u hk=> ?_⟩⟩
   have old:∀(k:Nat) (u:Den κ₀),xs[k]?=some u→(k<off∨off+cs.length≤k)→∃es,RP Fz w' κ₀ u es∧es.length=κ₀.size∧∀j q,es[j]?=some q→(setV cells.toList off cs).toArray[k*κ₀.size+j]?=some q:=by
    intro k u hk ho
    obtain⟨es,a1,a2,a3⟩:=h5 k u hk
    refine⟨es,RP_mono hw (fun _ h=>h) _ _ _ a1,a2,fun j q hj=> ?_⟩
    have hjl:=(List.getElem?_eq_some_iff.1 hj).1
    have:=a3 j q hj
    rw[hsz]at a2 this⊢
    have hj0:j=0:=by omega
    subst hj0
    rw[Nat.mul_one,Nat.add_zero]at this⊢
    rw[List.getElem?_toArray]
    rcases ho with ho|ho
    ·rw[setV_lt _ _ _ _ ho];simpa using this
    ·rw[setV_ge _ _ _ _ ho];simpa using this
   rcases Nat.lt_or_ge k off with hlt|hge
   ·rw[List.getElem?_append_left (by simp;omega),List.getElem?_take,if_pos hlt]at hk
    exact old k u hk (.inl hlt)
   ·rw[List.getElem?_append_right (by simp;omega)]at hk
    have hto:(xs.take off).length=off:=by simp;omega
    rw[hto]at hk
    rcases Nat.lt_or_ge (k-off) (min ys.length len)with hlt|hge'
    ·rw[List.getElem?_append_left (by simp;omega),List.getElem?_take,if_pos (by omega)]at hk
     obtain⟨c',hc'⟩:∃c,cs[k-off]?=some c:=⟨cs[k-off]'(by omega),List.getElem?_eq_getElem (by omega)⟩
     obtain⟨o1,⟨q,hq,hrp⟩,_⟩:=hcs (k-off) c' hc'
     rw[hk]at hq
     cases hq
     refine⟨[c'],RP_plain _ _ _ hpl hrp,by simp[hsz],fun j u' hj=> ?_⟩
     cases j with
     |zero=>
      simp only[List.getElem?_cons_zero,Option.some.injEq]at hj
      subst hj
      rw[List.getElem?_toArray,hsz,Nat.mul_one,Nat.add_zero]
      have:=setV_in cs cells.toList off (k-off) (by omega) (by omega)
      rw[show off+(k-off)=k by omega]at this
      rw[this,hc']
     |succ j=>simp at hj
    ·rw[List.getElem?_append_right (by simp;omega),List.getElem?_drop]at hk
     have hyl:(ys.take len).length=min ys.length len:=by simp;omega
     rw[hyl,show off+min ys.length len+(k-off-min ys.length len)=k by omega]at hk
     exact old k u hk (.inr (by omega))
theorem cpX_of{t:TypeId}{st:St}{sv xv:AV}{vs vx:Value}{K:AV→List (Nat×AB)→List Nat→Option R}{r:R}{E:Env}{a:Act}(b:Behind w0 Fz0 ι Fz st a w)(hs:RV ι Fz w sv vs)(hx:RV ι Fz w xv vx)
 (h:cpX E t st.H sv xv K=some r):∃(n:Int) (ks:List (Nat×AB)),K (.pv (.int .i64) n) ks []=some r∧∃w',(∀sT ty,(Builtin.copy_ #[t,sT] ty #[vs,vx]).run E.P w= .ok (.int .i64 n) w')∧Behind w0 Fz0 ι Fz ⟨st.fr,ks++st.H,st.df⟩ a w':=by
 have m:=b.2.2
 unfold cpX elemK at h
 split at h
 rotate_left
 ·cases h
 rename_i el hu
 split at h
 rotate_left
 ·exact cpS_of b hu hs hx h
 ·simp only[RV]at hs
  subst hs
  obtain⟨κ,hkd,h⟩:=Option.bind_eq_some_iff.1 h
  cases hc:sizeB E.P el 1 with
  |false=>rw[hc]at h;cases h
  |true=>
   rw[hc,cond_true]at h
   obtain⟨inf,hinf,hi1⟩:=sizeB_of hc
   obtain⟨ys,hy,h⟩:=Option.bind_eq_some_iff.1 h
   have hpv:RV ι (lent ι Fz st.H) w (.pv (.list κ) ys) vx:=argD_of m.rb (fun _ h=> .inl h) hy hx (fun h _ hl hv=> .inr ⟨h,isArr_live hl,hv,rfl⟩)
   simp only[RV,Kd.isAgg,RP,Bool.false_eq_true,if_false]at hpv
   obtain⟨vx',hvx,ha⟩:=hpv
   simp only[List.cons.injEq,and_true]at hvx
   subst hvx
   obtain⟨sa,sc,rfl,_⟩:=ha
   refine⟨0,[],h,w,fun sT ty=> ?_,b⟩
   have:=run_copy_none (P:=E.P) w t sT ty el none sa 0 0 ys.length sc hu (by rw[hinf];simp[hi1]) (by simp)
   rw[this]
   simp[goInt]
 ·cases h
 rename_i κ0 g
 split at h
 rotate_left
 ·cases h
 rename_i e κ xs hg
 dsimp only at h
 cases hc:(Nat.beq κ.size 1&&sizeB E.P el 1&&κ.plain)with
 |false=>rw[hc]at h;cases h
 |true=>
  rw[hc,cond_true]at h
  simp only[Bool.and_eq_true]at hc
  have hsz:=Nat.eq_of_beq_eq_true hc.1.1
  obtain⟨inf,hinf,hi1⟩:=sizeB_of hc.1.2
  have hpl:=hc.2
  obtain⟨ys,hy,h⟩:=Option.bind_eq_some_iff.1 h
  have hpv:RV ι (lent ι Fz st.H) w (.pv (.list κ) ys) vx:=argD_of m.rb (fun _ h=> .inl h) hy hx (fun h _ hl hv=> .inr ⟨h,isArr_live hl,hv,rfl⟩)
  simp only[RV,Kd.isAgg,RP,Bool.false_eq_true,if_false]at hpv
  obtain⟨vx',hvx,ha⟩:=hpv
  simp only[List.cons.injEq,and_true]at hvx
  subst hvx
  obtain⟨sa,sc,rfl,hlc,hel⟩:=ha
  have hrb:=m.rb g
  rw[hg]at hrb
  simp only[RB]at hrb
  simp only[RV]at hs
  refine⟨_,_,h, ?_⟩
  rcases hrb.2 with⟨hvi,rfl⟩|⟨hv,cells,hh,h2,h3,h4,h5⟩
  ·rcases hs with⟨_,rfl⟩|⟨hv',_⟩
   rotate_left
   ·rw[hvi]at hv';cases hv'
   refine⟨w,fun sT ty=> ?_,b.1,b.2.1,m.same fun k=> ?_⟩
   ·have:=run_copy_none (P:=E.P) w t sT ty el none sa 0 0 ys.length sc hu (by rw[hinf];simp[hi1]) (by simp)
    rw[this]
    simp[goInt]
   ·show getH ((g,AB.arr e κ (ys.take ([]:List (Den κ)).length++([]:List (Den κ)).drop ys.length))::st.H) k=getH st.H k
    rw[getH_cons]
    split
    ·rename_i e'
     subst e'
     rw[hg];simp
    ·rfl
  ·rcases hs with⟨hv',_⟩|⟨_,rfl⟩
   ·rw[hv]at hv';cases hv'
   have hpick:∀i<min ys.length xs.length,∃u:Value,u.oneCell'=true∧(∃q,ys[i]?=some q∧RP (lent ι Fz st.H) w κ q [u])∧(∀bb off,sa=some ⟨bb,off,none⟩→ys≠[]→w.cell? ⟨bb,off+i,none⟩=some u):=by
    intro i hi
    have hiy:i<ys.length:=by omega
    rcases hel with rfl|⟨bb,off,rfl,hbb,hel⟩
    ·simp at hiy
    ·obtain⟨es,e1,e2,e3⟩:=hel i ys[i] (List.getElem?_eq_getElem hiy)
     rw[hsz]at e2 e3
     match es,e2,e1,e3 with
     |[u],_,e1,e3=>
      refine⟨u,RP_one κ _ _ e1 u (by simp),⟨_,List.getElem?_eq_getElem hiy,e1⟩,fun b' off' he _=> ?_⟩
      simp only[Option.some.injEq,Addr.mk.injEq,and_true]at he
      obtain⟨rfl,rfl⟩:=he
      have:=e3 0 u rfl
      simpa using this
   obtain⟨cs,hcl,hcs⟩:=list_pick (min ys.length xs.length) hpick
   have hh':w.heap[(ι g).blk]?=some (.cells cells.toList.toArray e (0,0)):=by simpa using hh
   have hcap:cells.toList.length=(ι g).cap:=by rw[Array.length_toList,h4,hsz,Nat.mul_one]
   obtain⟨w',hrun,hup⟩:∃w',(∀sT ty,(Builtin.copy_ #[t,sT] ty #[.slice (some ⟨(ι g).blk,0,none⟩) (ι g).len (ι g).cap, .slice sa ys.length sc]).run E.P w= .ok (goInt cs.length) w')∧Upd w w' (ι g).blk (.cells (setV cells.toList 0 cs).toArray e (0,0)):=by
    have hsrc:cs=[]∨∃a,sa=some a∧∀j v,cs[j]?=some v→w.cell? (a.add j)=some v:=by
     rcases hel with rfl|⟨bb,off,rfl,hbb,_⟩
     ·left;exact List.eq_nil_of_length_eq_zero (by simp[hcl])
     ·right
      refine⟨_,rfl,fun j v hj=> ?_⟩
      rw[Addr.add_lit]
      have hjl:=(List.getElem?_eq_some_iff.1 hj).1
      refine(hcs j v hj).2.2 bb off rfl (fun e=> ?_)
      have:cs.length=0:=by rw[hcl,e];simp
      omega
    obtain⟨w',h1,h2'⟩:=run_copy_gen (P:=E.P) (sT:=t) (ty:=t) (dCap:=(ι g).cap) (sCap:=sc) hu hinf hi1 (dLen:=(ι g).len) (sLen:=ys.length) (cs:=cs) (by rw[hcl,hrb.1]) hsrc hh' (by rw[hcl,hcap];omega) (fun v hv=>by
     obtain⟨j,hj⟩:=List.mem_iff_getElem?.1 hv
     exact(hcs j v hj).1)
    refine⟨w',fun sT ty=> ?_,h2'⟩
    have e1:∀s1 y1 s2 y2,Builtin.copy_ #[t,s1] y1 #[.slice (some ⟨(ι g).blk,0,none⟩) (ι g).len (ι g).cap, .slice sa ys.length sc]=Builtin.copy_ #[t,s2] y2 #[.slice (some ⟨(ι g).blk,0,none⟩) (ι g).len (ι g).cap, .slice sa ys.length sc]:=fun _ _ _ _=>rfl
    rw[e1 sT ty t t];exact h1
   have hlive:(getH st.H g).live:=by rw[hg];trivial
   obtain⟨s1,s2,s3⟩:=m.sep g hlive hv
   have hw:∀b,Fz b→w'.heap[b]?=w.heap[b]?:=fun k hk=>hup.ne k (fun e=>s3 (e▸hk))
   have hnew:(ys.take xs.length++xs.drop ys.length).length=xs.length:=by simp;omega
   refine⟨w',fun sT ty=>by rw[hrun sT ty,hcl];rfl,b.mono hw (fun _ h=>h) (m.upd hlive hv hup ?_ trivial (by have:=m.cn g;rw[hg]at this;exact this))⟩
   simp only[RB]
   refine⟨by rw[hnew];exact hrb.1, .inr ⟨hv,_,hup.at',by rw[hnew];exact h2,h3,by rw[List.size_toArray,setV_len];simpa using h4,fun k u hk=> ?_⟩⟩
   have hkl:k<xs.length:=by have:=(List.getElem?_eq_some_iff.1 hk).1;omega
   rcases Nat.lt_or_ge k ys.length with hlt|hge
   ·rw[List.getElem?_append_left (by simp;omega),List.getElem?_take,if_pos hkl]at hk
    obtain⟨c,hc'⟩:∃c,cs[k]?=some c:=⟨cs[k]'(by omega),List.getElem?_eq_getElem (by omega)⟩
    obtain⟨o1,⟨q,hq,hrp⟩,_⟩:=hcs k c hc'
    rw[hk]at hq
    cases hq
    refine⟨[c],RP_plain _ _ _ hpl hrp,by simp[hsz],fun j u' hj=> ?_⟩
    cases j with
    |zero=>
     simp only[List.getElem?_cons_zero,Option.some.injEq]at hj
     subst hj
     rw[List.getElem?_toArray,hsz,Nat.mul_one,Nat.add_zero]
     have:=setV_in cs cells.toList 0 k (by omega) (by omega)
     rw[Nat.zero_add]at this
     rw[this,hc']
    |succ j=>simp at hj
   ·rw[List.getElem?_append_right (by simp;omega),List.getElem?_drop]at hk
    have hkk:ys.length+(k-(ys.take xs.length).length)=k:=by simp;omega
    rw[hkk]at hk
    obtain⟨es,a1,a2,a3⟩:=h5 k u hk
    refine⟨es,RP_mono hw (fun _ h=>h) _ _ _ a1,a2,fun j q hj=> ?_⟩
    have hjl:=(List.getElem?_eq_some_iff.1 hj).1
    rw[List.getElem?_toArray,setV_ge _ _ _ _ (by rw[hsz];omega)]
    simpa using a3 j q hj
end
end Go.Av
namespace Go.Av
open Go Go.RowKit
section
variable {R:Type} {P:Program} {w0:Root} {Fz0:Nat→Prop} {ι:Nat→HI} {Fz:Nat→Prop} {w:World}
theorem resT_val{l:List AV}{vs:List Value}(h:RVs ι Fz w l vs):RV ι Fz w (resT l) (if hh:vs.length=1 then vs[0]else .tuple vs.toArray):=by
 have hlen:=RVs_len h
 match l with
 |[]=>
  simp only[List.length_nil]at hlen
  rw[dif_neg (by omega)]
  simp only[resT,RV]
  exact⟨vs,rfl,h⟩
 |[a]=>
  simp only[RVs]at h
  obtain⟨v,r,rfl,h1,rfl⟩:=h
  simpa[resT]using h1
 |a::b::l=>
  simp only[List.length_cons]at hlen
  rw[dif_neg (by omega)]
  simp only[resT,RV]
  exact⟨vs,rfl,h⟩
theorem findC2_of{f:FuncId}{H:List (Nat×AB)}{vs:List AV}{K:(c:Con2)→ShDs c.ins→List (Option Nat)→List AV→Option R}{K0:Option R}{r:R}:
 ∀{c2:List Con2},findC2 c2 f H vs K K0=some r→(K0=some r)∨∃c∈c2,c.fid=f∧∃x os ls,matchShs H c.ins vs=some (x,os,ls)∧K c x os ls=some r
 |[],h=> .inl h
 |c::l,h=>by
  unfold findC2 at h
  cases hf:Nat.beq c.fid f with
  |false=>
   rw[hf,cond_false]at h
   rcases findC2_of (c2:=l) h with h|⟨c',hc,h⟩
   ·exact .inl h
   ·exact .inr ⟨c',List.mem_cons_of_mem _ hc,h⟩
  |true=>
   rw[hf,cond_true]at h
   split at h
   ·rename_i p hp
    obtain⟨x,os,ls⟩:=p
    exact .inr ⟨c,by simp,Nat.eq_of_beq_eq_true hf,x,os,ls,hp,h⟩
   ·rcases findC2_of (c2:=l) h with h|⟨c',hc,h⟩
    ·exact .inl h
    ·exact .inr ⟨c',List.mem_cons_of_mem _ hc,h⟩
theorem callX_core{fr:Bool}{st st1:St}{a:Act}{c:Con2}{avs:List AV}{x:ShDs c.ins}{os:List (Option Nat)}{ls:List AV}{vals:List Value}{d:Nat}{K:AV→List (Nat×AB)→List Nat→Option R}{r:R}
 (hs:c.Sound P w0.gl) (b:Behind w0 Fz0 ι Fz st a w) (hm:matchShs st.H c.ins avs=some (x,os,ls)) (hv:RVs ι Fz w avs vals) (hok:ownOk os ls=true) (hready:(∀k∈someN os,(getH st.H k).live)→(∀k∈someN os,mentL k ls=false)→∃(F1 Fa:Nat→Prop),Behind w0 Fz0 ι Fa st1 a w∧(∀b,Fz b→F1 b)∧(∀b,Fa b→F1 b)∧(∀b,F1 b→b<w.heap.size)∧
  (∀k,mentL k ls=true→(getH st.H k).live→(ι k).virt=false→F1 (ι k).blk)∧(∀k∈someN os,(ι k).virt=false→¬F1 (ι k).blk)∧(∀k,(getH st1.H k).live→(getH st.H k).live)∧
  (allSafe c.alts=true∨F1=Fa)) (h:callX fr c x os st1.df d K=some r):
 ∃v ks nf,K v ks nf=some r∧nf.all (okNew st1.df)=true∧(∀n∈nf,n∈ks.map Prod.fst)∧CallGives P c.fid vals w fun v' w'=>∃(ι':Nat→HI) (Fz':Nat→Prop),Behind w0 Fz0 ι' Fz' ⟨(freshL nf st1).fr,ks++(freshL nf st1).H,(freshL nf st1).df⟩ a w'∧RV ι' Fz' w' v v'∧(∀n,n∉nf→ι' n=ι n):=by
 unfold callX at h
 obtain⟨y,hy,h⟩:=Option.bind_eq_some_iff.1 h
 obtain⟨al,dd,hal,h,halt⟩:=altK_of _ _ _ _ h
 simp only at h
 generalize hns0:al.names fr c.ins os d=ns0 at h
 generalize hns:ovr os (fixL al.all) ns0=ns at h
 generalize hkt:keepTops c.ins al.fins os++fixN os (fixL al.all)=kt at h
 generalize hnf:notIn kt ns=nf at h
 cases hc:(finsOk c.ins al.fins&&nodupN ns&&nf.all (okNew st1.df)&&(parsL al.all).all (fun i=> !memN nf (ownAt os i))&&(wparsL al.all).all (fun i=> !memN nf (ownAt os i)&&ownSome os i)&&(fixI (fixL al.all)).all (ownSome os)&&tOk (keepTops c.ins al.fins os) ns0 ns)with
 |false=>rw[hc]at h;cases h
 |true=>
 rw[hc,cond_true]at h
 simp only[Bool.and_eq_true]at hc
 obtain⟨⟨⟨⟨⟨⟨hfins,hnd⟩,hnew⟩,hpars⟩,hwpars⟩,hfixo⟩,htok⟩:=hc
 have hns0l:ns0.length=cnts al.all:=by
  rw[←hns0,Alt.names,List.length_append,nameL_len,keepNames_len _ _ _ _ _ _ hfins,Alt.all,cnts_append]
 have hnsl:ns.length=cnts al.all:=by rw[←hns,ovr_len,hns0l]
 cases hsub:subOk c.ins al.fins x (dropSh al.ress (keepS al.fins) dd)with
 |false=>rw[hsub]at h;cases h
 |true=>
 rw[hsub,cond_true]at h
 have hnd:=nodupN_iff hnd
 simp only[ownOk,Bool.and_eq_true]at hok
 have hod:=nodupN_iff hok.1
 have hlent:∀k∈someN os,mentL k ls=false:=fun k hk=>by
  have:=List.all_eq_true.1 hok.2 k hk
  simpa using this
 have m:=b.2.2
 have hms:=matchShs_of m.rb m.cn (Fz':=fun _=>True) (fun _ _=>trivial) c.ins avs x os ls vals hm hv (fun _ _ _ _=>trivial)
 have hlive:=hms.2
 obtain⟨F1,Fa,b1,f1,f2,f3,f4,f5,f6,f7⟩:=hready hlive hlent
 have m1:=b1.2.2
 obtain⟨hrs,_⟩:=matchShs_of m.rb m.cn f1 c.ins avs x os ls vals hm hv f4
 have hos1:∀i∈os.map (hiOf ι),i.virt=false→∃k∈someN os,ι k=i:=by
  intro i hi hvi
  obtain⟨o,ho,rfl⟩:=List.mem_map.1 hi
  cases o with
  |none=>simp[hiOf]at hvi
  |some k=>exact⟨k,mem_someN.2 ho,rfl⟩
 have hos:OsOk F1 w (os.map (hiOf ι)):=by
  refine⟨fun i hi hvi=> ?_,fun j k p q hj hk hp hq he=> ?_⟩
  ·obtain⟨g,hg,rfl⟩:=hos1 i hi hvi
   exact⟨(m.sep g (hlive g hg) hvi).2.1,f5 g hg hvi⟩
  ·rw[List.getElem?_map,Option.map_eq_some_iff]at hj hk
   obtain⟨oj,hj,rfl⟩:=hj
   obtain⟨ok,hk,rfl⟩:=hk
   cases oj with
   |none=>simp[hiOf]at hp
   |some gj=>
    cases ok with
    |none=>simp[hiOf]at hq
    |some gk=>
     have e:=m.inj gj gk (hlive _ (mem_someN.2 (List.mem_of_getElem? hj))) (hlive _ (mem_someN.2 (List.mem_of_getElem? hk))) hp hq he
     subst e
     exact someN_nodup hod hj hk
 have hownW:∀k,ownW w (os.map (hiOf ι)) k→w0.own k:=by
  rintro k (hk|⟨i,hi,hvi,rfl⟩)
  ·exact w0.big k (Nat.le_trans m.below.size hk)
  ·obtain⟨g,hg,rfl⟩:=hos1 i hi hvi
   exact(m.sep g (hlive g hg) hvi).1
 have other:∀k,(getH st1.H k).live→k∉someN os→(ι k).virt=false→¬ownW w (os.map (hiOf ι)) (ι k).blk:=by
  rintro k hl hk hvk (hlt|⟨i,hi,hvi,he⟩)
  ·have:=(m1.sep k hl hvk).2.1;omega
  ·obtain⟨g,hg,rfl⟩:=hos1 i hi hvi
   exact hk (m.inj g k (hlive g hg) (f6 k hl) hvi hvk he▸hg)
 have hksn:∀(rr:List AV×List (Nat×AB)×List Nat),rr.2.1.map Prod.fst=ns→∀n∈nf,n∈(rr.2.1++goneL (someN os)).map Prod.fst:=by
  intro rr h4 n hn
  rw[List.map_append,List.mem_append,h4]
  left
  rw[←hnf]at hn
  exact(mem_notIn.1 hn).1
 refine⟨_,_,_,h,hnew,hksn _ ?_,(hs w F1 _ x vals _ y f3 (m.gok.mono (fun _ _=>rfl) f1) hrs hos hy).mono ?_⟩
 ·rw[renders_fst _ _ _ _ (by omega)]
  rw[List.take_of_length_le (by omega)]
 rintro v' w' ⟨hbel,Fz',os',g1,g2,g3,hA,hok',hown⟩
 obtain⟨vs,hvl,hv',hR⟩:=halt _ _ _ _ _ _ hA
 obtain⟨o1,o2,ho12,ho1,hR2⟩:=RSs_split al.ress (keepS al.fins) dd vs (keepV al.fins vals) os' hvl hR
 obtain⟨k1,k2⟩:=keep_of ι fr d c.ins al.fins vals x os _ o2 (cnts al.ress) hfins hsub hrs hR2
 have hnl:ns.length=os'.length:=by rw[hnsl,RSs_cnt _ _ _ _ hR]
 have hkeep:∀n∈kt,∃j:Nat,ns[j]?=some n∧os'[j]?=some (ι n):=by
  intro n hn
  rw[←hkt]at hn
  rcases List.mem_append.1 hn with hn|hn
  ·obtain⟨j,a1,a2⟩:=k1 n hn
   refine⟨cnts al.ress+j, ?_, ?_⟩
   ·refine tOk_at htok (by omega) ?_ hn
    rw[←hns0,Alt.names,List.getElem?_append_right (by rw[nameL_len];omega),nameL_len];simpa using a1
   ·rw[ho12,List.getElem?_append_right (by omega),ho1];simpa using a2
  ·obtain⟨j,i,a1,rfl,a3⟩:=mem_fixN os _ n hn
   have hjl:j<cnts al.all:=by rw[←fixL_len];exact(List.getElem?_eq_some_iff.1 a1).1
   refine⟨j,by rw[←hns];exact ovr_fix os _ _ j i a1 (by omega), ?_⟩
   rw[fixL_of _ _ _ _ hR j i a1,ownSome_of ι os i (List.all_eq_true.1 hfixo i a3)]
 have hι:∀n,n∉nf→assignN ns os' ι n=ι n:=by
  intro n hn
  by_cases hin:n∈ns
  ·have:n∈kt:=by
    apply Classical.byContradiction
    intro hno
    exact hn (by rw[←hnf];exact mem_notIn.2 ⟨hin,hno⟩)
   obtain⟨j,a1,a2⟩:=hkeep n this
   exact assignN_at hnd a1 a2
  ·exact assignN_not hin
 have hnfns:∀n,n∉ns→n∉nf:=fun n hn hin=>hn (by rw[←hnf]at hin;exact(mem_notIn.1 hin).1)
 have hnamed:Named (assignN ns os' ι) ns os':=assignN_named hnd (by omega)
 obtain⟨Fb,p1,p2,p3,hRb,p4⟩:∃Fb:Nat→Prop,(∀b,Fa b→Fb b)∧(∀b,Fb b→b<w'.heap.size)∧(∀b,Fb b→Fa b∨ownW w (os.map (hiOf ι)) b)∧
  RSs (fun i=>(os.map (hiOf ι)).getD i ⟨0,0,0,true⟩) Fb w' al.all dd (vs++keepV al.fins vals) os'∧(∀b,Fb b→Fz' b):=by
  rcases f7 with hsafe|rfl
  ·have hsf:safeL al.all=true:=List.all_eq_true.1 hsafe al hal
   exact⟨Fa,fun _ h=>h,fun k hk=>Nat.lt_of_lt_of_le (m1.fz k hk) hbel.size,fun _ h=> .inl h,RSs_safe _ _ _ _ hsf hR,fun k hk=>g1 _ (f2 k hk)⟩
  ·exact⟨Fz',g1,g3,g2,hR,fun _ h=>h⟩
 have hpi:∀i∈parsL al.all,((os.map (hiOf ι)).getD i ⟨0,0,0,true⟩).virt=false→assignN ns os' ι (ownAt os i)=(os.map (hiOf ι)).getD i ⟨0,0,0,true⟩:=by
  intro i hi hvi
  have h1:=List.all_eq_true.1 hpars i hi
  rw[hι (ownAt os i) (fun hin=>by rw[memN_iff.2 hin]at h1;cases h1)]
  exact ownAt_of ι os i hvi
 have hpw:∀i∈wparsL al.all,assignN ns os' ι (ownAt os i)=(os.map (hiOf ι)).getD i ⟨0,0,0,true⟩:=by
  intro i hi
  have h1:=List.all_eq_true.1 hwpars i hi
  rw[Bool.and_eq_true]at h1
  rw[hι (ownAt os i) (fun hin=>by rw[memN_iff.2 hin]at h1;cases h1.1)]
  exact ownSome_of ι os i h1.2
 obtain⟨q1,q2,q3,q4⟩:=renderShs_of (ι:=assignN ns os' ι) al.all ⟨hpi,hpw⟩ dd _ os' ns hRb hnamed
 rw[←hnl,List.take_length]at q4
 generalize renderShs (ownAt os) al.all dd ns=rr at q1 q2 q3 q4⊢
 have hw:∀k,Fa k→w'.heap[k]?=w.heap[k]?:=fun k hk=>hbel.block k (by
  rintro (hlt|⟨i,hi,hvi,rfl⟩)
  ·have:=m1.fz k hk;omega
  ·exact(hos.lt i hi hvi).2 (f2 _ hk))
 obtain⟨s1,s2,s3⟩:=freshL_spec nf st1
 have eH:∀k,(∃(bb:AB) (j:Nat) (i:HI),(k,bb)∈rr.2.1∧getH ((rr.2.1++goneL (someN os))++(freshL nf st1).H) k=bb∧ns[j]?=some k∧os'[j]?=some i∧assignN ns os' ι k=i)∨
  (getH ((rr.2.1++goneL (someN os))++(freshL nf st1).H) k= .gone)∨
  (k∉ns∧k∉someN os∧getH ((rr.2.1++goneL (someN os))++(freshL nf st1).H) k=AB.strikeLs nf (getH st1.H k)):=by
  intro k
  rw[List.append_assoc]
  rcases getH_entries rr.2.1 (goneL (someN os)++(freshL nf st1).H) k with⟨bb,a1,a2⟩|⟨a1,a2⟩
  ·left
   have hk:k∈ns:=by rw[←q4];exact List.mem_map_of_mem (f:=Prod.fst) a1
   obtain⟨j,hj⟩:=List.mem_iff_getElem?.1 hk
   have hjl:=(List.getElem?_eq_some_iff.1 hj).1
   have hi:os'[j]?=some os'[j]:=List.getElem?_eq_getElem (by omega)
   exact⟨bb,j,_,a1,a2,hj,hi,assignN_at hnd hj hi⟩
  ·right
   rw[q4]at a1
   rcases goneL_spec (someN os) (freshL nf st1).H k with⟨c1,c2⟩|⟨c1,c2⟩
   ·left;rw[a2,c2]
   ·right;exact⟨a1,c1,by rw[a2,c2,s2]⟩
 refine⟨assignN ns os' ι,Fb,⟨fun t=> ?_, ?_,⟨?_,p2,fun k hk=>p1 _ (m1.fz0 k hk),fun k hk=> ?_,fun k=> ?_,fun k hl hvk=> ?_,fun k k' hl hl' hvk hvk' he=> ?_,fun k hk=> ?_,fun k=> ?_,m.gz⟩⟩, ?_⟩
 ·show RV _ _ _ (getF (freshL nf st1).fr t) _
  rw[s1]
  exact RV_strikeLs hw p1 hι (b1.1 t)
 ·show RD _ _ _ (freshL nf st1).df _
  rw[s3]
  refine RD_mono hw p1 _ _ (fun k hk=>hι k fun hin=> ?_) b1.2.1
  have:=(okNew_df (List.all_eq_true.1 hnew k hin)).1
  simp[okDf,hk]at this
 ·exact m.below.trans ⟨hbel.os,hbel.tape,hbel.output,hbel.size,fun k hk=>hbel.block k fun ho=>hk (hownW k ho)⟩
 ·rcases p3 k hk with hk|hk
  ·exact m1.fzn k hk
  ·exact .inr (hownW k hk)
 ·rcases eH k with⟨bb,j,i,a1,a2,_⟩|a2|⟨a1,c1,a2⟩
  ·show RB _ _ _ k (getH _ k);rw[a2];exact(q2 _ a1).1
  ·show RB _ _ _ k (getH _ k);rw[a2];trivial
  ·show RB _ _ _ k (getH _ k);rw[a2]
   exact RB_strikeLs hw p1 hι (hι k (hnfns k a1)) (fun hl hvk=>hbel.block _ (other k hl c1 hvk)) (m1.rb k)
 ·rcases eH k with⟨bb,j,i,a1,a2,a3,a4,a5⟩|a2|⟨a1,c1,a2⟩
  ·have hi:i∈os':=List.mem_of_getElem? a4
   rw[a5]at hvk⊢
   exact⟨hownW _ (hown i hi hvk),(hok'.lt i hi hvk).1,fun hF=>(hok'.lt i hi hvk).2 (p4 _ hF)⟩
  ·have hl:(getH ((rr.2.1++goneL (someN os))++(freshL nf st1).H) k).live:=hl
   rw[a2]at hl;exact hl.elim
  ·have hl:(getH ((rr.2.1++goneL (someN os))++(freshL nf st1).H) k).live:=hl
   rw[a2,live_strikeLs]at hl
   rw[hι k (hnfns k a1)]at hvk⊢
   obtain⟨x1,x2,x3⟩:=m1.sep k hl hvk
   refine⟨x1,Nat.lt_of_lt_of_le x2 hbel.size,fun hF=> ?_⟩
   rcases p3 _ hF with hF|hF
   ·exact x3 hF
   ·exact other k hl c1 hvk hF
 ·have hl:(getH ((rr.2.1++goneL (someN os))++(freshL nf st1).H) k).live:=hl
  have hl':(getH ((rr.2.1++goneL (someN os))++(freshL nf st1).H) k').live:=hl'
  rcases eH k with⟨bb,j,i,a1,a2,a3,a4,a5⟩|a2|⟨a1,c1,a2⟩
  ·rw[a5]at hvk he
   rcases eH k' with⟨bb',j',i',b1',b2',b3',b4',b5'⟩|b2'|⟨b1',d1,b2'⟩
   ·rw[b5']at hvk' he
    have:=hok'.ne j j' i i' a4 b4' hvk hvk' he
    subst this
    exact Option.some.inj (a3.symm.trans b3')
   ·rw[b2']at hl';exact hl'.elim
   ·rw[b2',live_strikeLs]at hl'
    rw[hι k' (hnfns k' b1')]at hvk' he
    exact absurd (he▸hown i (List.mem_of_getElem? a4) hvk) (other k' hl' d1 hvk')
  ·rw[a2]at hl;exact hl.elim
  ·rw[a2,live_strikeLs]at hl
   rw[hι k (hnfns k a1)]at hvk he
   rcases eH k' with⟨bb',j',i',b1',b2',b3',b4',b5'⟩|b2'|⟨b1',d1,b2'⟩
   ·rw[b5']at hvk' he
    exact absurd (he▸hown i' (List.mem_of_getElem? b4') hvk') (other k hl c1 hvk)
   ·rw[b2']at hl';exact hl'.elim
   ·rw[b2',live_strikeLs]at hl'
    rw[hι k' (hnfns k' b1')]at hvk' he
    exact m1.inj k k' hl hl' hvk hvk' he
 ·have:k∉nf:=fun hin=>by
   have:=(okNew_df (List.all_eq_true.1 hnew k hin)).2
   omega
  rw[hι k this]
  exact m1.iot k hk
 ·show Cn _ (getH ((rr.2.1++goneL (someN os))++(freshL nf st1).H) k)
  rcases eH k with⟨bb,j,i,a1,a2,_⟩|a2|⟨a1,c1,a2⟩
  ·rw[a2];exact(q2 _ a1).2.1
  ·rw[a2];trivial
  ·rw[a2,Cn_strikeLs,hι k (hnfns k a1)];exact m1.cn k
 ·have q5:=RVs_take al.ress.length q1
  rw[←hvl,List.take_left,hvl]at q5
  rw[hv']
  exact⟨resT_val q5,hι⟩
theorem ready_frz{st st1:St}{a:Act}{c:Con2}{os:List (Option Nat)}{ls:List AV}(b:Behind w0 Fz0 ι Fz st a w)(hst1:(bif allSafe c.alts then some st else frzArgs st ls)=some st1)
 (hlive:∀k∈someN os,(getH st.H k).live) (hlent:∀k∈someN os,mentL k ls=false):∃(F1 Fa:Nat→Prop),Behind w0 Fz0 ι Fa st1 a w∧(∀b,Fz b→F1 b)∧(∀b,Fa b→F1 b)∧(∀b,F1 b→b<w.heap.size)∧
  (∀k,mentL k ls=true→(getH st.H k).live→(ι k).virt=false→F1 (ι k).blk)∧(∀k∈someN os,(ι k).virt=false→¬F1 (ι k).blk)∧(∀k,(getH st1.H k).live→(getH st.H k).live)∧
  (allSafe c.alts=true∨F1=Fa):=by
 have m:=b.2.2
 cases hsafe:allSafe c.alts with
 |true=>
  rw[hsafe,cond_true]at hst1
  simp only[Option.some.injEq]at hst1
  subst hst1
  refine⟨fun k=>Fz k∨∃g,(getH st.H g).live∧g∉someN os∧(ι g).virt=false∧(ι g).blk=k,Fz,b,fun _ h=> .inl h,fun _ h=> .inl h, ?_, ?_, ?_,fun _ h=>h, .inl rfl⟩
  ·rintro k (hk|⟨g,h1,_,h2,rfl⟩)
   ·exact m.fz k hk
   ·exact(m.sep g h1 h2).2.1
  ·intro k hk hl hvk
   exact .inr ⟨k,hl,(fun hin=>by rw[hlent k hin]at hk;cases hk),hvk,rfl⟩
  ·rintro k hk hvk (hF|⟨g,h1,h2,h3,h4⟩)
   ·exact(m.sep k (hlive k hk) hvk).2.2 hF
   ·exact h2 (m.inj g k h1 (hlive k hk) h3 hvk h4▸hk)
 |false=>
  rw[hsafe,cond_false]at hst1
  obtain⟨F1,g1,b1,g2,g3,g4⟩:=frzArgs_of _ hst1 b
  exact⟨F1,F1,b1,g1,fun _ h=>h,b1.2.2.fz,g2,fun k hk hvk=>(b1.2.2.sep k (g3 k (hlent k hk) (hlive k hk)) hvk).2.2,g4, .inr rfl⟩
theorem gone1_of{st:St}{a:Act}{h:Nat}{e:TypeId}{κ:Kd}{xs:List (Den κ)}(b:Behind w0 Fz0 ι Fz st a w)(hg:getH st.H h= .arr e κ xs):
 ∃Fz':Nat→Prop,(∀b,Fz b→Fz' b)∧Behind w0 Fz0 ι Fz' ⟨st.fr,(h, .gone)::st.H,st.df⟩ a w∧((ι h).virt=false→Fz' (ι h).blk):=by
 have m:=b.2.2
 have hlive:(getH st.H h).live:=by rw[hg];trivial
 refine⟨fun k=>Fz k∨((ι h).virt=false∧k=(ι h).blk),fun _ h=> .inl h,⟨fun t=> ?_, ?_, ?_⟩,fun hv=> .inr ⟨hv,rfl⟩⟩
 ·exact RV_mono (fun _ _=>rfl) (fun _ h=> .inl h) _ _ (fun _ _=>rfl) (b.1 t)
 ·exact RD_mono (fun _ _=>rfl) (fun _ h=> .inl h) _ _ (fun _ _=>rfl) b.2.1
 ·have e:∀k,getH ((h, .gone)::st.H) k=if h=k then .gone else getH st.H k:=fun k=>by rw[getH_cons]
  have live:∀k,(getH ((h, .gone)::st.H) k).live→k≠h∧(getH st.H k).live:=fun k hk=>by
   rw[e]at hk
   split at hk
   ·exact hk.elim
   ·rename_i hne;exact⟨Ne.symm hne,hk⟩
  refine⟨m.below,fun k hk=> ?_,fun k hk=> .inl (m.fz0 k hk),fun k hk=> ?_,fun k=> ?_,fun k hk hv=> ?_,fun k k' hk hk'=>m.inj k k' (live k hk).2 (live k' hk').2,m.iot,fun k=> ?_,m.gz⟩
  ·rcases hk with hk|⟨hv,rfl⟩
   ·exact m.fz k hk
   ·exact(m.sep h hlive hv).2.1
  ·rcases hk with hk|⟨hv,rfl⟩
   ·exact m.fzn k hk
   ·exact .inr (m.sep h hlive hv).1
  ·show RB _ _ _ k (getH ((h, .gone)::st.H) k)
   rw[e];split
   ·trivial
   ·exact RB_mono (fun _ _=>rfl) (fun _ h=> .inl h) (fun _ _=>rfl) (m.rb k)
  ·obtain⟨hne,hl⟩:=live k hk
   obtain⟨a1,a2,a3⟩:=m.sep k hl hv
   refine⟨a1,a2,fun hf=> ?_⟩
   rcases hf with hf|⟨hv',e⟩
   ·exact a3 hf
   ·exact hne (m.inj k h hl hlive hv hv' e)
  ·rw[e];split
   ·trivial
   ·exact m.cn k
theorem gonesOf_of:∀(avs:List AV) {Fz:Nat→Prop} {st:St} {gs:List (Nat×AB)} {a:Act},gonesOf avs st.H=some gs→Behind w0 Fz0 ι Fz st a w→
 (∀e∈gs,e.2= .gone)∧∃Fz':Nat→Prop,(∀b,Fz b→Fz' b)∧Behind w0 Fz0 ι Fz' ⟨st.fr,gs++st.H,st.df⟩ a w∧(∀h,mentL h avs=true→(getH st.H h).live→(ι h).virt=false→Fz' (ι h).blk)∧
  (∀h,mentL h avs=false→(getH st.H h).live→(getH (gs++st.H) h).live)∧(∀h,(getH (gs++st.H) h).live→(getH st.H h).live)
 |[],Fz,st,gs,a,h,b=>by
  simp only[gonesOf,Option.some.injEq]at h
  subst h
  exact⟨fun e he=>by simp at he,Fz,fun _ h=>h,b,fun h hm=>by simp[mentL]at hm,fun _ _ h=>h,fun _ h=>h⟩
 |c::cs,Fz,st,gs,a,h,b=>by
  have step:∀(g:Nat),(match getH st.H g with| .arr _ _ _=>(gonesOf cs ((g, .gone)::st.H)).bind fun gs=>some (gs++[(g, .gone)])|_=>none)=some gs→(∀h,c.ment h=true→h=g)→c.ment g=true→
   (∀e∈gs,e.2= .gone)∧∃Fz':Nat→Prop,(∀b,Fz b→Fz' b)∧Behind w0 Fz0 ι Fz' ⟨st.fr,gs++st.H,st.df⟩ a w∧(∀h,mentL h (c::cs)=true→(getH st.H h).live→(ι h).virt=false→Fz' (ι h).blk)∧
    (∀h,mentL h (c::cs)=false→(getH st.H h).live→(getH (gs++st.H) h).live)∧(∀h,(getH (gs++st.H) h).live→(getH st.H h).live):=by
   intro g h hm hm'
   split at h<;>try(cases h;done)
   rename_i e κ xs hg
   obtain⟨gs',hgs,h⟩:=Option.bind_eq_some_iff.1 h
   simp only[Option.some.injEq]at h
   subst h
   obtain⟨F1,f1,b1,f2⟩:=gone1_of b hg
   obtain⟨e0,F2,g1,b2,g2,g3,g4⟩:=gonesOf_of cs (st:=⟨st.fr,(g, .gone)::st.H,st.df⟩) hgs b1
   have eH:(gs'++[(g,AB.gone)])++st.H=gs'++((g, .gone)::st.H):=by simp
   have still:∀k,k≠g→getH ((g, .gone)::st.H) k=getH st.H k:=fun k hk=>by rw[getH_cons,if_neg (Ne.symm hk)]
   rw[eH]
   refine⟨fun e he=> ?_,F2,fun _ h=>g1 _ (f1 _ h),b2,fun k hk ha hv=> ?_,fun k hk ha=> ?_,fun k hk=> ?_⟩
   ·rcases List.mem_append.1 he with he|he
    ·exact e0 e he
    ·simp only[List.mem_singleton]at he;rw[he]
   ·by_cases e:k=g
    ·subst e;exact g1 _ (f2 hv)
    ·simp only[mentL,Bool.or_eq_true]at hk
     rcases hk with hk|hk
     ·exact absurd (hm k hk) e
     ·exact g2 k hk (by show(getH ((g, .gone)::st.H) k).live;rw[still k e];exact ha) hv
   ·have e:k≠g:=fun e=>by subst e;simp[mentL,hm']at hk
    simp only[mentL,Bool.or_eq_false_iff]at hk
    exact g3 k hk.2 (by show(getH ((g, .gone)::st.H) k).live;rw[still k e];exact ha)
   ·have hk2:(getH ((g, .gone)::st.H) k).live:=g4 k hk
    by_cases e:k=g
    ·subst e;rw[getH_cons,if_pos rfl]at hk2;exact hk2.elim
    ·rwa[still k e]at hk2
  have skip:gonesOf cs st.H=some gs→(∀h,c.ment h=false)→
   (∀e∈gs,e.2= .gone)∧∃Fz':Nat→Prop,(∀b,Fz b→Fz' b)∧Behind w0 Fz0 ι Fz' ⟨st.fr,gs++st.H,st.df⟩ a w∧(∀h,mentL h (c::cs)=true→(getH st.H h).live→(ι h).virt=false→Fz' (ι h).blk)∧
    (∀h,mentL h (c::cs)=false→(getH st.H h).live→(getH (gs++st.H) h).live)∧(∀h,(getH (gs++st.H) h).live→(getH st.H h).live):=by
   intro h hm
   obtain⟨e0,F2,g1,b2,g2,g3,g4⟩:=gonesOf_of cs h b
   exact⟨e0,F2,g1,b2,fun k hk ha hv=>g2 k (by simpa[mentL,hm k]using hk) ha hv,fun k hk=>g3 k (by simpa[mentL,hm k]using hk),g4⟩
  simp only[gonesOf]at h
  split at h
  ·exact step _ h (fun k hk=>by simp only[AV.ment]at hk;exact(Nat.eq_of_beq_eq_true hk).symm) (by simp[AV.ment])
  ·exact step _ h (fun k hk=>by simp only[AV.ment]at hk;exact(Nat.eq_of_beq_eq_true hk).symm) (by simp[AV.ment])
  ·cases hfr:(c.free|| !c.handled)with
   |false=>rw[hfr]at h;cases h
   |true=>
    rw[hfr,cond_true]at h
    refine skip h fun k=> ?_
    simp only[Bool.or_eq_true]at hfr
    rcases hfr with hfr|hfr
    ·exact free_ment c hfr k
    ·have:=noH_ment (cs:=[c]) (by simpa using hfr) k
     simpa[mentL]using this
theorem ready_gone{st:St}{gs:List (Nat×AB)}{a:Act}{c:Con2}{os:List (Option Nat)}{ls:List AV}(b:Behind w0 Fz0 ι Fz st a w)(hgs:gonesOf ls st.H=some gs)
 (hlive:∀k∈someN os,(getH st.H k).live) (hlent:∀k∈someN os,mentL k ls=false):∃(F1 Fa:Nat→Prop),Behind w0 Fz0 ι Fa (St.mk st.fr (gs++st.H) st.df) a w∧(∀b,Fz b→F1 b)∧(∀b,Fa b→F1 b)∧(∀b,F1 b→b<w.heap.size)∧
  (∀k,mentL k ls=true→(getH st.H k).live→(ι k).virt=false→F1 (ι k).blk)∧(∀k∈someN os,(ι k).virt=false→¬F1 (ι k).blk)∧(∀k,(getH (St.mk st.fr (gs++st.H) st.df).H k).live→(getH st.H k).live)∧
  (allSafe c.alts=true∨F1=Fa):=by
 obtain⟨_,F1,g1,b1,g2,g3,g4⟩:=gonesOf_of _ hgs b
 exact⟨F1,F1,b1,g1,fun _ h=>h,b1.2.2.fz,g2,fun k hk hvk=>(b1.2.2.sep k (g3 k (hlent k hk) (hlive k hk)) hvk).2.2,g4, .inr rfl⟩
theorem callX_of{fr:Bool}{st st1:St}{a:Act}{c:Con2}{avs:List AV}{x:ShDs c.ins}{os:List (Option Nat)}{ls:List AV}{vals:List Value}{d:Nat}{K:AV→List (Nat×AB)→List Nat→Option R}{r:R}
 (hs:c.Sound P w0.gl) (b:Behind w0 Fz0 ι Fz st a w) (hm:matchShs st.H c.ins avs=some (x,os,ls)) (hv:RVs ι Fz w avs vals) (hok:ownOk os ls=true) (hst1:(bif allSafe c.alts then some st else frzArgs st ls)=some st1) (h:callX fr c x os st1.df d K=some r):
 ∃v ks nf,K v ks nf=some r∧nf.all (okNew st1.df)=true∧(∀n∈nf,n∈ks.map Prod.fst)∧CallGives P c.fid vals w fun v' w'=>∃(ι':Nat→HI) (Fz':Nat→Prop),Behind w0 Fz0 ι' Fz' ⟨(freshL nf st1).fr,ks++(freshL nf st1).H,(freshL nf st1).df⟩ a w'∧RV ι' Fz' w' v v'∧(∀n,n∉nf→ι' n=ι n):=
 callX_core hs b hm hv hok (ready_frz b hst1) h
theorem call2_of{st:St}{a:Act}{c:Con2}{avs:List AV}{x:ShDs c.ins}{os:List (Option Nat)}{ls:List AV}{vals:List Value}{d:Nat}{K:AV→St→Option R}{r:R}
 (hs:c.Sound P w0.gl) (b:Behind w0 Fz0 ι Fz st a w) (hm:matchShs st.H c.ins avs=some (x,os,ls)) (hv:RVs ι Fz w avs vals) (h:call2 c x os ls st d K=some r):
 ∃v st',K v st'=some r∧CallGives P c.fid vals w fun v' w'=>∃(ι':Nat→HI) (Fz':Nat→Prop),Behind w0 Fz0 ι' Fz' st' a w'∧RV ι' Fz' w' v v':=by
 unfold call2 at h
 cases hok:ownOk os ls with
 |false=>rw[hok]at h;cases h
 |true=>
 rw[hok,cond_true]at h
 obtain⟨st1,hst1,h⟩:=Option.bind_eq_some_iff.1 h
 obtain⟨v,ks,nf,hk,_,_,hg⟩:=callX_of hs b hm hv hok hst1 h
 exact⟨v,_,hk,hg.mono fun v' w' ⟨ι',Fz',h1,h2,_⟩=>⟨ι',Fz',h1,h2⟩⟩
end
end Go.Av
