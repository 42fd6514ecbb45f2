/- What a geometry is in memory,as a tree of frozen cells; good data with collections. -/
import Derived.Test.YtmjcojdafeaiaaaGreatPvGeoPA
set_option linter.unusedVariables false
set_option linter.unusedSectionVars false
set_option linter.unusedSimpArgs false
namespace Go.Proofs.YtmjcojdafeaiaaaGreat.PvObjPA
open Go.Av Go
open Go.Proofs.YtmjcojdafeaiaaaGreat.PA
open Go.Proofs.YtmjcojdafeaiaaaGreat.PvGeoPA
theorem stride_geom (N:Nat) (l:Int) (h:1 ≤ l):gogeom_Layout_Stride N l = some (strd l):=by
  simp only [gogeom_Layout_Stride,gogeom_Layout_Stride_g,strd,beq_iff_eq,Bool.cond_eq_ite,apply_ite some]
  repeat' split
  all_goals first | rfl | omega | (subst_vars; rfl) | skip
mutual
/-- A geometry in memory. -/
def obj:Geo→Ce
  | .mk kd ly sr flat ends endss kids =>
    if kd = 1 then .ifc 50 (.ptr [.int .i64 ly,.int .i64 (strd ly),.fl flat,.int .i64 sr])
    else if kd = 2 then .ifc 52 (.ptr [.int .i64 ly,.int .i64 (strd ly),.fl flat,.int .i64 sr])
    else if kd = 8 then .ifc 48 (.ptr [.int .i64 ly,.int .i64 (strd ly),.fl flat,.int .i64 sr])
    else if kd = 3 then .ifc 42 (.ptr [.int .i64 ly,.int .i64 (strd ly),.fl flat,.int .i64 sr,.il ends])
    else if kd = 4 then .ifc 44 (.ptr [.int .i64 ly,.int .i64 (strd ly),.fl flat,.int .i64 sr,.il ends])
    else if kd = 5 then .ifc 45 (.ptr [.int .i64 ly,.int .i64 (strd ly),.fl flat,.int .i64 sr,.il ends])
    else if kd = 6 then .ifc 46 (.ptr [.int .i64 ly,.int .i64 (strd ly),.fl flat,.int .i64 sr,.ill endss])
    else .ifc 47 (.ptr [.int .i64 ly,.sl (objs kids),.int .i64 sr])
def objs:List Geo→List Ce
  | []=>[]
  | g :: r=>obj g :: objs r
end
theorem objs_len:∀ l:List Geo,(objs l).length = l.length
  | []=>rfl
  | g :: r=>by simp only [objs,List.length_cons,objs_len r]
theorem objs_at:∀ (l:List Geo) (i:Nat) (h:i < l.length),(objs l)[i]'(by rw [objs_len]; exact h) = obj l[i]
  | [],_,h=>by simp at h
  | g :: r,0,h=>by simp [objs]
  | g :: r,i + 1,h=>by simp only [objs,List.getElem_cons_succ]; exact objs_at r i (by simpa using h)
theorem objs_app:∀ (l m:List Geo),objs (l ++ m) = objs l ++ objs m
  | [],m=>rfl
  | g :: r,m=>by simp only [List.cons_append,objs,objs_app r m]
theorem obj1 {g:Geo} (h:g.kind = 1):obj g = .ifc 50 (.ptr [.int .i64 g.layout,.int .i64 (strd g.layout),.fl g.flat,.int .i64 g.srid]):=by
  cases g; simp only [Geo.kind] at h; subst h; simp [obj,Geo.layout,Geo.flat,Geo.srid]
theorem obj2 {g:Geo} (h:g.kind = 2):obj g = .ifc 52 (.ptr [.int .i64 g.layout,.int .i64 (strd g.layout),.fl g.flat,.int .i64 g.srid]):=by
  cases g; simp only [Geo.kind] at h; subst h; simp [obj,Geo.layout,Geo.flat,Geo.srid]
theorem obj8 {g:Geo} (h:g.kind = 8):obj g = .ifc 48 (.ptr [.int .i64 g.layout,.int .i64 (strd g.layout),.fl g.flat,.int .i64 g.srid]):=by
  cases g; simp only [Geo.kind] at h; subst h; simp [obj,Geo.layout,Geo.flat,Geo.srid]
theorem obj3 {g:Geo} (h:g.kind = 3):obj g = .ifc 42 (.ptr [.int .i64 g.layout,.int .i64 (strd g.layout),.fl g.flat,.int .i64 g.srid,.il g.ends]):=by
  cases g; simp only [Geo.kind] at h; subst h; simp [obj,Geo.layout,Geo.flat,Geo.srid,Geo.ends]
theorem obj4 {g:Geo} (h:g.kind = 4):obj g = .ifc 44 (.ptr [.int .i64 g.layout,.int .i64 (strd g.layout),.fl g.flat,.int .i64 g.srid,.il g.ends]):=by
  cases g; simp only [Geo.kind] at h; subst h; simp [obj,Geo.layout,Geo.flat,Geo.srid,Geo.ends]
theorem obj5 {g:Geo} (h:g.kind = 5):obj g = .ifc 45 (.ptr [.int .i64 g.layout,.int .i64 (strd g.layout),.fl g.flat,.int .i64 g.srid,.il g.ends]):=by
  cases g; simp only [Geo.kind] at h; subst h; simp [obj,Geo.layout,Geo.flat,Geo.srid,Geo.ends]
theorem obj6 {g:Geo} (h:g.kind = 6):obj g = .ifc 46 (.ptr [.int .i64 g.layout,.int .i64 (strd g.layout),.fl g.flat,.int .i64 g.srid,.ill g.endss]):=by
  cases g; simp only [Geo.kind] at h; subst h; simp [obj,Geo.layout,Geo.flat,Geo.srid,Geo.endss]
theorem obj7 {g:Geo} (h:g.kind = 7):obj g = .ifc 47 (.ptr [.int .i64 g.layout,.sl (objs g.kids),.int .i64 g.srid]):=by
  cases g; simp only [Geo.kind] at h; subst h; simp [obj,Geo.layout,Geo.kids,Geo.srid]
/-! ### layouts -/
def cov (a b:Int):Int:=if (a = 2 ∧ b = 3) ∨ (a = 3 ∧ b = 2) then 4 else max a b
mutual
def lay:Geo→Int
  | .mk kd ly sr flat ends endss kids=>if kd = 7 ∧ ly = 0 then lays 0 kids else ly
def lays:Int→List Geo→Int
  | a,[]=>a
  | a,g :: r=>lays (cov a (lay g)) r
end
theorem lay_ne {g:Geo} (h:g.kind ≠ 7):lay g = g.layout:=by
  cases g; simp only [Geo.kind] at h; simp only [lay,Geo.layout]; rw [if_neg (by simp [h])]
theorem lay_set {g:Geo} (h:g.layout ≠ 0):lay g = g.layout:=by
  cases g; simp only [Geo.layout] at h; simp only [lay,Geo.layout]; rw [if_neg (by simp [h])]
theorem lay_un {g:Geo} (h:g.kind = 7) (h0:g.layout = 0):lay g = lays 0 g.kids:=by
  cases g; simp only [Geo.layout,Geo.kind] at h h0; simp only [lay,Geo.kids]; rw [if_pos ⟨h,h0⟩]
theorem lays_foldl:∀ (l:List Geo) (a:Int),lays a l = l.foldl (fun a g=>cov a (lay g)) a
  | [],a=>rfl
  | g :: r,a=>by simp only [lays,List.foldl_cons,lays_foldl r]
mutual
/-- Good data,collections too. -/
def GC:Geo→Prop
  | .mk kd ly sr flat ends endss kids =>
    (kd ≠ 7→GoodF (.mk kd ly sr flat ends endss kids) ∧ 1 ≤ ly) ∧ (kd = 7→0 ≤ ly ∧ flat = [] ∧ ends = [] ∧ endss = []) ∧ ly ≤ 9 ∧ GCs kd ly kids
def GCs:Int→Int→List Geo→Prop
  | _,_,[]=>True
  | kd,ly,g :: r=>(kd = 7→GC g ∧ (ly ≠ 0→lay g = ly)) ∧ GCs kd ly r
end
theorem GCs_of {kd ly:Int}:∀ {l:List Geo},GCs kd ly l→∀ g ∈ l,kd = 7→GC g ∧ (ly ≠ 0→lay g = ly)
  | [],_,g,hg,_=>by simp at hg
  | x :: r,h,g,hg,hk=>by
    simp only [GCs] at h
    rcases List.mem_cons.1 hg with rfl | hg
    · exact h.1 hk
    · exact GCs_of h.2 g hg hk
theorem GCs_mk {kd ly:Int}:∀ {l:List Geo},(∀ g ∈ l,kd = 7→GC g ∧ (ly ≠ 0→lay g = ly))→GCs kd ly l
  | [],_=>by simp only [GCs]
  | x :: r,h=>by simp only [GCs]; exact ⟨h x (by simp),GCs_mk fun g hg=>h g (by simp [hg])⟩
structure GCq (g:Geo):Prop where
  plain:g.kind ≠ 7→GoodF g ∧ 1 ≤ g.layout
  coll:g.kind = 7→0 ≤ g.layout ∧ g.flat = [] ∧ g.ends = [] ∧ g.endss = []
  top:g.layout ≤ 9
  kid:g.kind = 7→∀ k ∈ g.kids,GC k ∧ (g.layout ≠ 0→lay k = g.layout)
theorem GC_iff {g:Geo}:GC g ↔ GCq g:=by
  cases g with
  | mk kd ly sr flat ends endss kids =>
  simp only [GC]
  constructor
  · rintro ⟨h1,h2,h3,h4⟩
    exact ⟨h1,h2,h3,fun hk k hm=>GCs_of h4 k hm hk⟩
  · rintro ⟨h1,h2,h3,h4⟩
    exact ⟨h1,h2,h3,GCs_mk fun k hm hk=>h4 hk k hm⟩
theorem GC_kinds {g:Geo} (h:GC g):g.kind = 1 ∨ g.kind = 2 ∨ g.kind = 8 ∨ g.kind = 3 ∨ g.kind = 4 ∨ g.kind = 5 ∨ g.kind = 6 ∨ g.kind = 7:=by
  have q:=GC_iff.1 h
  by_cases h7:g.kind = 7
  · simp [h7]
  · rcases (q.plain h7).1.kind with e | e | e | e | e | e | e <;> simp [e]
section
variable {N:Nat} (hN:0 < N) (hNl:9223372036854775808 ≤ N)
include hN hNl
omit hNl in
theorem cover_eq (a b:Int):spec_Cover N a b = some (cov a b):=by
  unfold spec_Cover spec_Cover_g
  simp only [spec_Cover_j0,spec_Cover_g0,spec_Cover_j1,spec_Cover_g1,spec_Cover_j2,spec_Cover_g2,gate_pos hN]
  have him:imm true a b = max a b:=by
    unfold imm
    simp only [cond_true]
    split <;> omega
  rw [him]
  unfold cov
  simp only [Bool.cond_eq_ite,beq_iff_eq]
  by_cases a2:a = 2 <;> by_cases b3:b = 3 <;> by_cases a3:a = 3 <;> by_cases b2:b = 2 <;> simp [a2,b3,a3,b2]
theorem layoutOf_eq:∀ (d:Nat) (g:Geo),dep g ≤ d→wfG g→spec_LayoutOf N d g = some (lay g)
  | 0,g,h,_=>by have:=dep_pos g; omega
  | d + 1,g,h,hw=>by
    obtain ⟨sz,hk⟩:=sz_of hw
    have s2:=sz.kids
    simp only [spec_LayoutOf,spec_LayoutOf_g]
    cases k7:g.kind != 7 with
    | true=>simp only [cond_true]; rw [lay_ne (by simpa using k7)]
    | false =>
      have e7:g.kind = 7:=by simpa using k7
      cases l0:g.layout != 0 with
      | true=>simp only [cond_true,cond_false]; rw [lay_set (by simpa using l0)]
      | false =>
        have e0:g.layout = 0:=by simpa using l0
        simp only [cond_false]
        rw [lay_un e7 e0,lays_foldl,e0]
        exact (foldLoop0 (xs:=g.kids) (L:=fun n i st=>spec_LayoutOf_l0 N (spec_LayoutOf N d) n g st i) (f:=fun a k=>cov a (lay k)) (fin:=fun st=>some st) (fun _ _=>True)
          (fun n st _=>by
            simp only [spec_LayoutOf_l0,spec_LayoutOf_g0,Bool.cond_decide]
            rw [if_neg (by omega)])
          (fun n i st hi _=>by
            refine ⟨?_,trivial⟩
            simp only [spec_LayoutOf_l0,spec_LayoutOf_g0,Bool.cond_decide,eta]
            rw [if_pos (by omega),nth_get hi,succ_in hi (by omega)]
            have hm:=List.getElem_mem hi
            simp only [Option.bind_some,layoutOf_eq d g.kids[i] (by have:=dep_kid hm; omega) (hk _ hm),cover_eq hN]) N 0 (by omega) trivial).1
/-- What 'Good' and 'gLayouts' tell,of collections too. -/
theorem good_all:∀ (d:Nat) (g:Geo),dep g ≤ d→dep g ≤ N→wfG g→spec_Good N d g = some true→laws_gLayouts N d g 9 = some true→GC g
  | 0,g,h,_,_,_,_=>by have:=dep_pos g; omega
  | d + 1,g,h,hdN,hw,hg,hl=>by
    obtain ⟨sz,hk⟩:=sz_of hw
    have s1:=sz.flat
    have s2:=sz.kids
    have s3:=sz.ends
    have s4:=sz.endss
    obtain ⟨b,hb,hbt⟩:=layouts_tot hN hNl (d + 1) g 9 h hw
    rw [hl] at hb
    obtain ⟨t1,t2⟩:=hbt (by simpa using hb.symm)
    obtain ⟨b',hb',hbt'⟩:=good_tot hN hNl (d + 1) g h hdN hw
    rw [hg] at hb'
    have gf:=hbt' (by simpa using hb'.symm)
    rw [GC_iff]
    by_cases h7:g.kind = 7
    · -- a collection
      have lk:∀ k ∈ g.kids,laws_gLayouts N d k 9 = some true:=by
        simp only [laws_gLayouts,laws_gLayouts_g] at hl
        rcases checkLoop0 (xs:=g.kids) (L:=fun n i=>laws_gLayouts_l0 N (laws_gLayouts N d) n 9 g i) (e:=fun o=>o = some false) (fin:=(if g.layout ≤ 9 then (if g.layout ≥ 1 then some true else (bif g.kind == 7 then some (decide (g.layout ≥ 0)) else some false)) else some false)) (fun k=>laws_gLayouts N d k 9 = some true)
          (fun n=>by
            simp only [laws_gLayouts_l0,laws_gLayouts_g0,Bool.cond_decide]
            rw [if_neg (Int.lt_irrefl _)])
          (fun n i hi=>by
            simp only [laws_gLayouts_l0,laws_gLayouts_g0,Bool.cond_decide,eta]
            rw [if_pos (by omega),nth_get hi,succ_in hi (by omega)]
            simp only [Option.bind_some]
            have hm:=List.getElem_mem hi
            obtain ⟨r,hr,_⟩:=layouts_tot hN hNl d g.kids[i] 9 (by have:=dep_kid hm; omega) (hk _ hm)
            rw [hr]
            cases r with
            | false=>exact .inl rfl
            | true=>exact .inr ⟨rfl,rfl⟩) N (by omega) with h2 | ⟨_,h2⟩
        · rw [h2] at hl; cases hl
        · exact h2
      simp only [spec_Good,spec_Good_g,stride_spec,Option.bind_some] at hg
      rw [show (g.kind == 7) = true by simpa using h7] at hg
      simp only [cond_true] at hg
      rcases checkLoop0 (xs:=g.kids) (L:=fun n i=>spec_Good_l0 N (spec_Good N d) n g i) (e:=fun o=>o = some false)
        (fin:=(if g.layout ≥ 0 then some ((IntKind.i64.wrap ((IntKind.i64.wrap ((g.flat.length:Int) + (g.ends.length:Int))) + (g.endss.length:Int))) == 0) else some false)) (fun k=>spec_Good N d k = some true ∧ (g.layout ≠ 0→lay k = g.layout))
        (fun n=>by
          simp only [spec_Good_l0,spec_Good_g0,Bool.cond_decide]
          rw [if_neg (by omega)])
        (fun n i hi=>by
          simp only [spec_Good_l0,spec_Good_g0,spec_Good_j1,spec_Good_g1,gate_pos hN,Bool.cond_decide,eta]
          rw [if_pos (by omega),nth_get hi,succ_in hi (by omega)]
          have hm:=List.getElem_mem hi
          have hd:=dep_kid hm
          obtain ⟨r,hr,_⟩:=good_tot hN hNl d g.kids[i] (by omega) (by omega) (hk _ hm)
          simp only [Option.bind_some,hr]
          cases r with
          | false=>exact .inl rfl
          | true =>
            simp only [Bool.not_true,cond_false]
            cases l0:g.layout != 0 with
            | false=>exact .inr ⟨rfl,trivial,fun hn=>absurd (by simpa using l0) hn⟩
            | true =>
              simp only [cond_true,layoutOf_eq hN hNl N g.kids[i] (by omega) (hk _ hm),Option.bind_some]
              cases l1:lay g.kids[i] != g.layout with
              | true=>exact .inl rfl
              | false=>exact .inr ⟨rfl,trivial,fun _=>by simpa using l1⟩) N (by omega) with h2 | ⟨h2,h3⟩
      · rw [h2] at hg; cases hg
      · have hfin:=h2.symm.trans hg
        by_cases hge:g.layout ≥ 0
        · rw [if_pos hge] at hfin
          simp only [Option.some.injEq,beq_iff_eq] at hfin
          rw [wrap_in (n:=(g.flat.length:Int) + (g.ends.length:Int)) (by omega),wrap_in (by omega)] at hfin
          refine ⟨fun hn=>absurd h7 hn,fun _=>⟨hge,List.eq_nil_of_length_eq_zero (by omega),List.eq_nil_of_length_eq_zero (by omega),List.eq_nil_of_length_eq_zero (by omega)⟩,t1,fun _ k hm=>?_⟩
          obtain ⟨q1,q2⟩:=h3 k hm
          have:=dep_kid hm
          exact ⟨good_all d k (by omega) (by omega) (hk k hm) q1 (lk k hm),q2⟩
        · rw [if_neg hge] at hfin; cases hfin
    · refine ⟨fun _=>⟨gf h7,?_⟩,fun e=>absurd e h7,t1,fun e=>absurd e h7⟩
      rcases t2 with h | h
      · exact h
      · exact absurd h h7
/-- 'gGood' of one geometry,collections too. -/
theorem gGood_all (g:Geo) (hd:dep g ≤ N) (hw:wfG g) (h:laws_gGood N [g] = some true):GC g:=by
  obtain ⟨m,hm⟩:∃ m,N = m + 2:=⟨N - 2,by omega⟩
  obtain ⟨w,hwt⟩:=weight_tot hN hNl N g 2000 hd hw
  obtain ⟨lb,hl,hlf⟩:=layouts_tot hN hNl N g 9 hd hw
  obtain ⟨gb,hg,hgf⟩:=good_tot hN hNl N g hd hd hw
  unfold laws_gGood laws_gGood_g laws_gSmall laws_gSmall_g at h
  have small:∃ b,laws_gSmall_l0 N N [g] 2000 0 = some b ∧ (b = true→lb = true):=by
    rw [show laws_gSmall_l0 N N = laws_gSmall_l0 N (m + 2) by rw [← hm]]
    show ∃ b,laws_gSmall_g0 N [g] (laws_gSmall_l0 N (m + 1) [g]) 2000 0 = some b ∧ _
    simp only [laws_gSmall_g0,Bool.cond_decide,eta]
    rw [if_pos (by simp),show nth [g] 0 = some g from rfl]
    simp only [Option.bind_some,hwt]
    by_cases h1:IntKind.i64.wrap (2000 - w) < 0
    · rw [if_pos h1]; exact ⟨false,rfl,fun h=>by cases h⟩
    · rw [if_neg h1,hl]
      simp only [Option.bind_some]
      cases lb with
      | false=>exact ⟨false,rfl,fun h=>by cases h⟩
      | true =>
        refine ⟨true,?_,fun _=>rfl⟩
        show laws_gSmall_g0 N [g] (laws_gSmall_l0 N m [g]) (IntKind.i64.wrap (2000 - w)) (IntKind.i64.wrap (0 + 1)) = some true
        simp only [laws_gSmall_g0,Bool.cond_decide]
        rw [show IntKind.i64.wrap (0 + 1) = 1 by decide,if_neg (by simp)]
  obtain ⟨sb,hs,hst⟩:=small
  rw [hs] at h
  simp only [Option.bind_some] at h
  cases sb with
  | false=>cases h
  | true =>
    simp only [Bool.not_true,cond_false] at h
    rw [show laws_gGood_l0 N N = laws_gGood_l0 N (m + 2) by rw [← hm]] at h
    have h':laws_gGood_g0 N [g] (laws_gGood_l0 N (m + 1) [g]) 0 = some true:=h
    simp only [laws_gGood_g0,Bool.cond_decide,eta] at h'
    rw [if_pos (by simp),show nth [g] 0 = some g from rfl] at h'
    simp only [Option.bind_some,hg] at h'
    cases gb with
    | false=>cases h'
    | true=>exact good_all hN hNl N g hd hd hw hg (by rw [hl,hst rfl])
end
end Go.Proofs.YtmjcojdafeaiaaaGreat.PvObjPA
