/- Plain data out of the program's geometries,and the program's geometries that can be written. -/
import Derived.Test.YtmjcojdafeaiaaaGreatPvMkPA
set_option linter.unusedVariables false
set_option linter.unusedSectionVars false
set_option linter.unusedSimpArgs false
namespace Go.Proofs.YtmjcojdafeaiaaaGreat.PvPlPA
open Go.Av Go
open Go.Proofs.YtmjcojdafeaiaaaGreat.PA
open Go.Proofs.YtmjcojdafeaiaaaGreat.PvGeoPA
open Go.Proofs.YtmjcojdafeaiaaaGreat.PvObjPA
open Go.Proofs.YtmjcojdafeaiaaaGreat.PvMkPA
/-- No longer than memory bears. -/
structure Bd (g:Geo):Prop where
  flat:g.flat.length * 8 ≤ 140737488355328
  ends:g.ends.length * 8 ≤ 140737488355328
  endss:g.endss.length * 24 ≤ 140737488355328
  each:∀ x ∈ g.endss,x.length * 8 ≤ 140737488355328
  kids:g.kids.length * 120 ≤ 140737488351232
theorem bd_of {g:Geo} (hw:wfG g):Bd g:=by
  cases g with
  | mk kd ly sr flat ends endss kids =>
    simp only [wfG] at hw
    unfold fits at hw
    refine ⟨?_,?_,?_,fun x hx=>?_,?_⟩ <;> try simp only [Geo.ends,Geo.endss,Geo.flat,Geo.kids]
    · omega
    · omega
    · omega
    · have:=(hw.2.2.2.2.2.1.2 x hx).1
      omega
    · omega
section
variable {N:Nat} (hN:0 < N) (hNl:9223372036854775808 ≤ N)
include hN hNl
omit hN hNl in
theorem floats_eq {l:List Nat} (h:l.length * 8 ≤ 140737488355328):impl_floats N l = some (l,()):=by
  unfold impl_floats impl_floats_g; rw [lim_le h]; rfl
omit hN hNl in
theorem ints_eq {l:List Int} (h:l.length * 8 ≤ 140737488355328):impl_ints N l = some (l,()):=by
  unfold impl_ints impl_ints_g; rw [lim_le h]; rfl
theorem intss_nil:impl_intss N [] = some ([],()):=intss hN hNl [] (by decide) (fun x hx=>by cases hx)
/-- A geometry that is no collection. -/
theorem geo_flat (d:Nat) {g:Geo} (hends:Bd g) (l1:1 ≤ g.layout) (hc:g.kind = 4→0 < strd g.layout ∧ Chain (strd g.layout) 0 g.ends g.flat.length)
    (hk:g.kind = 1 ∨ g.kind = 2 ∨ g.kind = 8 ∨ g.kind = 3 ∨ g.kind = 4 ∨ g.kind = 5 ∨ g.kind = 6):impl_geometry N (d + 1) g = some (obj g,()):=by
  simp only [impl_geometry]
  unfold impl_geometry_g
  rw [floats_eq hends.flat]
  generalize hS:strd g.layout = s at hc
  have mp:=fun h0 h=>mp_flat hN hNl (sr:=g.srid) (ends:=g.ends) (flat:=g.flat) l1 hS h0 h
  rcases hk with e | e | e | e | e | e | e
  all_goals
    rw [e]
    simp only [Option.bind_some,show ((1:Int) == 1) = true from rfl,show ((2:Int) == 1) = false from rfl,show ((2:Int) == 2) = true from rfl,show ((8:Int) == 1) = false from rfl,show ((8:Int) == 2) = false from rfl,show ((8:Int) == 8) = true from rfl,
      show ((3:Int) == 1) = false from rfl,show ((3:Int) == 2) = false from rfl,show ((3:Int) == 8) = false from rfl,show ((3:Int) == 3) = true from rfl,
      show ((4:Int) == 1) = false from rfl,show ((4:Int) == 2) = false from rfl,show ((4:Int) == 8) = false from rfl,show ((4:Int) == 3) = false from rfl,show ((4:Int) == 4) = true from rfl,
      show ((5:Int) == 1) = false from rfl,show ((5:Int) == 2) = false from rfl,show ((5:Int) == 8) = false from rfl,show ((5:Int) == 3) = false from rfl,show ((5:Int) == 4) = false from rfl,show ((5:Int) == 5) = true from rfl,
      show ((6:Int) == 1) = false from rfl,show ((6:Int) == 2) = false from rfl,show ((6:Int) == 8) = false from rfl,show ((6:Int) == 3) = false from rfl,show ((6:Int) == 4) = false from rfl,show ((6:Int) == 5) = false from rfl,show ((6:Int) == 6) = true from rfl,
      cond_true,cond_false,gogeom_NewPointFlat,gogeom_NewPointFlat_g,gogeom_Point_SetSRID,gogeom_Point_SetSRID_g,gogeom_NewLineStringFlat,gogeom_NewLineStringFlat_g,gogeom_NewLinearRingFlat,gogeom_NewLinearRingFlat_g,gogeom_NewPolygonFlat,gogeom_NewPolygonFlat_g,
      gogeom_NewMultiLineStringFlat,gogeom_NewMultiLineStringFlat_g,gogeom_NewMultiPolygonFlat,gogeom_NewMultiPolygonFlat_g,gogeom_LineString_SetSRID,gogeom_LineString_SetSRID_g,gogeom_LinearRing_SetSRID,gogeom_LinearRing_SetSRID_g,
      gogeom_Polygon_SetSRID,gogeom_Polygon_SetSRID_g,gogeom_MultiLineString_SetSRID,gogeom_MultiLineString_SetSRID_g,gogeom_MultiPolygon_SetSRID,gogeom_MultiPolygon_SetSRID_g,gogeom_MultiPoint_SetSRID,gogeom_MultiPoint_SetSRID_g,
      gogeom_NewMultiPointFlatOptionWithEnds,gogeom_NewMultiPointFlatOptionWithEnds_g,
      stride_geom N g.layout l1,ints_eq hends.ends,intss hN hNl _ hends.endss hends.each,Sum.elim_inl,Sum.elim_inr,hS]
  · rw [obj1 e,hS]
  · rw [obj2 e,hS]
  · rw [obj8 e,hS]
  · rw [obj3 e,hS]
  · simp only [mp (hc e).1 (hc e).2,Option.bind_some]
    rw [obj4 e,hS]
  · rw [obj5 e,hS]
  · rw [obj6 e,hS]
theorem gb3 {ly:Int} {fl:List Nat} {en:List Int} (h1:fl.length * 8 ≤ 140737488355328) (h2:en.length * 8 ≤ 140737488355328) (l1:1 ≤ ly) :
    impl_geometry_b N (Geo.mk 3 ly 0 fl en [] []) = some (.inr (.inr (.inr (.inl ((ly,strd ly,fl,0,en,()),()))))):=by
  unfold impl_geometry_b impl_geometry_b_g
  rw [floats_eq (l:=(Geo.mk 3 ly 0 fl en [] []).flat) h1]
  simp only [Option.bind_some,Geo.kind,show ((3:Int) == 1) = false from rfl,show ((3:Int) == 2) = false from rfl,show ((3:Int) == 8) = false from rfl,show ((3:Int) == 3) = true from rfl,cond_true,cond_false,Geo.ends,ints_eq h2,
    gogeom_NewPolygonFlat,gogeom_NewPolygonFlat_g,gogeom_Polygon_SetSRID,gogeom_Polygon_SetSRID_g,Geo.layout,Geo.srid,Geo.flat,stride_geom N ly l1]
theorem gb4 {ly:Int} {fl:List Nat} {en:List Int} (h1:fl.length * 8 ≤ 140737488355328) (h2:en.length * 8 ≤ 140737488355328) (l1:1 ≤ ly) (h0:0 < strd ly) (hc:Chain (strd ly) 0 en fl.length) :
    impl_geometry_b N (Geo.mk 4 ly 0 fl en [] []) = some (.inr (.inr (.inr (.inr (.inl ((ly,strd ly,fl,0,en,()),())))))):=by
  unfold impl_geometry_b impl_geometry_b_g
  rw [floats_eq (l:=(Geo.mk 4 ly 0 fl en [] []).flat) h1]
  simp only [Option.bind_some,Geo.kind,show ((4:Int) == 1) = false from rfl,show ((4:Int) == 2) = false from rfl,show ((4:Int) == 8) = false from rfl,show ((4:Int) == 3) = false from rfl,show ((4:Int) == 4) = true from rfl,cond_true,cond_false,Geo.ends,ints_eq h2,
    gogeom_NewMultiPointFlatOptionWithEnds,gogeom_NewMultiPointFlatOptionWithEnds_g,Geo.layout,Geo.srid,Geo.flat]
  rw [mp_flat hN hNl (sr:=0) l1 rfl h0 hc]
  rfl
theorem gb5 {ly:Int} {fl:List Nat} {en:List Int} (h1:fl.length * 8 ≤ 140737488355328) (h2:en.length * 8 ≤ 140737488355328) (l1:1 ≤ ly) :
    impl_geometry_b N (Geo.mk 5 ly 0 fl en [] []) = some (.inr (.inr (.inr (.inr (.inr (.inl ((ly,strd ly,fl,0,en,()),()))))))):=by
  unfold impl_geometry_b impl_geometry_b_g
  rw [floats_eq (l:=(Geo.mk 5 ly 0 fl en [] []).flat) h1]
  simp only [Option.bind_some,Geo.kind,show ((5:Int) == 1) = false from rfl,show ((5:Int) == 2) = false from rfl,show ((5:Int) == 8) = false from rfl,show ((5:Int) == 3) = false from rfl,show ((5:Int) == 4) = false from rfl,show ((5:Int) == 5) = true from rfl,cond_true,cond_false,Geo.ends,ints_eq h2,
    gogeom_NewMultiLineStringFlat,gogeom_NewMultiLineStringFlat_g,gogeom_MultiLineString_SetSRID,gogeom_MultiLineString_SetSRID_g,Geo.layout,Geo.srid,Geo.flat,stride_geom N ly l1]
theorem gb6 {ly:Int} {fl:List Nat} {es:List (List Int)} (h1:fl.length * 8 ≤ 140737488355328) (h2:es.length * 24 ≤ 140737488355328) (h3:∀ x ∈ es,x.length * 8 ≤ 140737488355328) (l1:1 ≤ ly) :
    impl_geometry_b N (Geo.mk 6 ly 0 fl [] es []) = some (.inr (.inr (.inr (.inr (.inr (.inr (.inl ((ly,strd ly,fl,0,es,()),())))))))):=by
  unfold impl_geometry_b impl_geometry_b_g
  rw [floats_eq (l:=(Geo.mk 6 ly 0 fl [] es []).flat) h1]
  simp only [Option.bind_some,Geo.kind,show ((6:Int) == 1) = false from rfl,show ((6:Int) == 2) = false from rfl,show ((6:Int) == 8) = false from rfl,show ((6:Int) == 3) = false from rfl,show ((6:Int) == 4) = false from rfl,show ((6:Int) == 5) = false from rfl,show ((6:Int) == 6) = true from rfl,cond_true,cond_false,Geo.endss,intss hN hNl _ h2 h3,
    gogeom_NewMultiPolygonFlat,gogeom_NewMultiPolygonFlat_g,gogeom_MultiPolygon_SetSRID,gogeom_MultiPolygon_SetSRID_g,Geo.layout,Geo.srid,Geo.flat,stride_geom N ly l1]
/-- Plain data of a geometry that is no collection. -/
theorem plain_flat (d:Nat) {g:Geo} (bd:Bd g) (hk:g.kids = []) (h6:g.kind ≠ 6→g.endss = []) (h1:g.kind = 1 ∨ g.kind = 2 ∨ g.kind = 8 ∨ g.kind = 6→g.ends = [])
    (hkd:g.kind = 1 ∨ g.kind = 2 ∨ g.kind = 8 ∨ g.kind = 3 ∨ g.kind = 4 ∨ g.kind = 5 ∨ g.kind = 6):impl_plain N (d + 1) (obj g) = some g:=by
  have fin:∀ kd,g.kind = kd→some (Geo.mk kd g.layout g.srid g.flat g.ends g.endss []) = some g:=fun kd e=>by
    have:=eta g
    rw [e,hk] at this
    rw [this]
  have i0:=ints_eq (N:=N) (l:=[]) (by decide)
  have ii0:=intss_nil hN hNl
  simp only [impl_plain]
  rcases hkd with e | e | e | e | e | e | e
  · rw [obj1 e,← fin _ e,h6 (by omega),h1 (by omega)]
    show impl_plain_j1 N _ _ g.srid 1 = _
    unfold impl_plain_j1
    rw [gate_pos hN]
    show ((impl_floats N g.flat).bind fun a=>(impl_ints N []).bind fun b=>(impl_intss N []).bind fun c=>some (Geo.mk 1 g.layout g.srid a.1 b.1 c.1 [])) = _
    rw [floats_eq bd.flat,i0,ii0]; rfl
  · rw [obj2 e,← fin _ e,h6 (by omega),h1 (by omega)]
    show impl_plain_j1 N _ _ g.srid 2 = _
    unfold impl_plain_j1
    rw [gate_pos hN]
    show ((impl_floats N g.flat).bind fun a=>(impl_ints N []).bind fun b=>(impl_intss N []).bind fun c=>some (Geo.mk 2 g.layout g.srid a.1 b.1 c.1 [])) = _
    rw [floats_eq bd.flat,i0,ii0]; rfl
  · rw [obj8 e,← fin _ e,h6 (by omega),h1 (by omega)]
    show impl_plain_j1 N _ _ g.srid 8 = _
    unfold impl_plain_j1
    rw [gate_pos hN]
    show ((impl_floats N g.flat).bind fun a=>(impl_ints N []).bind fun b=>(impl_intss N []).bind fun c=>some (Geo.mk 8 g.layout g.srid a.1 b.1 c.1 [])) = _
    rw [floats_eq bd.flat,i0,ii0]; rfl
  · rw [obj3 e,← fin _ e,h6 (by omega)]
    show impl_plain_j1 N _ _ g.srid 3 = _
    unfold impl_plain_j1
    rw [gate_pos hN]
    show ((impl_floats N g.flat).bind fun a=>(impl_ints N g.ends).bind fun b=>(impl_intss N []).bind fun c=>some (Geo.mk 3 g.layout g.srid a.1 b.1 c.1 [])) = _
    rw [floats_eq bd.flat,ints_eq bd.ends,ii0]; rfl
  · rw [obj4 e,← fin _ e,h6 (by omega)]
    show impl_plain_j1 N _ _ g.srid 4 = _
    unfold impl_plain_j1
    rw [gate_pos hN]
    show ((impl_floats N g.flat).bind fun a=>(impl_ints N g.ends).bind fun b=>(impl_intss N []).bind fun c=>some (Geo.mk 4 g.layout g.srid a.1 b.1 c.1 [])) = _
    rw [floats_eq bd.flat,ints_eq bd.ends,ii0]; rfl
  · rw [obj5 e,← fin _ e,h6 (by omega)]
    show impl_plain_j1 N _ _ g.srid 5 = _
    unfold impl_plain_j1
    rw [gate_pos hN]
    show ((impl_floats N g.flat).bind fun a=>(impl_ints N g.ends).bind fun b=>(impl_intss N []).bind fun c=>some (Geo.mk 5 g.layout g.srid a.1 b.1 c.1 [])) = _
    rw [floats_eq bd.flat,ints_eq bd.ends,ii0]; rfl
  · rw [obj6 e,← fin _ e,h1 (by omega)]
    show impl_plain_j1 N _ _ g.srid 6 = _
    unfold impl_plain_j1
    rw [gate_pos hN]
    show ((impl_floats N g.flat).bind fun a=>(impl_ints N []).bind fun b=>(impl_intss N g.endss).bind fun c=>some (Geo.mk 6 g.layout g.srid a.1 b.1 c.1 [])) = _
    rw [floats_eq bd.flat,i0,intss hN hNl _ bd.endss bd.each]; rfl
/-- .. of whatever geometry of good data. -/
theorem plain_ok:∀ (d:Nat) (g:Geo),dep g ≤ d→wfG g→GC g→impl_plain N d (obj g) = some g
  | 0,g,h,_,_=>by have:=dep_pos g; omega
  | d + 1,g,h,hw,hg=>by
    obtain ⟨hsz,hk⟩:=sz_of hw
    have bd:=bd_of hw
    have q:=GC_iff.1 hg
    by_cases h7:g.kind = 7
    · simp only [impl_plain]
      rw [obj7 h7]
      show impl_plain_l0 N (impl_plain N d) N (objs g.kids) g.layout g.srid 0 [] = some g
      have bk:=bd.kids
      rcases stateLoop0 (xs:=g.kids) (L:=fun n i st=>impl_plain_l0 N (impl_plain N d) n (objs g.kids) g.layout g.srid i st) (e:=fun _=>False) (fin:=fun st=>some (Geo.mk 7 g.layout g.srid [] [] [] st)) (fun i st=>st = g.kids.take i)
        (fun n st hp=>by
          simp only [impl_plain_l0,impl_plain_g0,Bool.cond_decide,objs_len]
          rw [if_neg (Int.lt_irrefl _)])
        (fun n i st hi hp=>by
          right
          subst hp
          have hm:=List.getElem_mem hi
          have hdk:=dep_kid hm
          refine ⟨g.kids.take (i + 1),?_,rfl⟩
          simp only [impl_plain_l0,impl_plain_g0,Bool.cond_decide,objs_len]
          rw [if_pos (by omega),nth_objs hi]
          simp only [Option.bind_some]
          rw [plain_ok d g.kids[i] (by omega) (hk _ hm) (q.kid h7 _ hm).1]
          simp only [Option.bind_some]
          rw [lim_le (by simp only [List.length_take,List.length_cons,List.length_nil]; omega),succ_in hi (by omega),List.take_add_one,List.getElem?_eq_getElem hi]
          rfl) N [] (by omega) rfl with h2 | ⟨st,h2,hp⟩
      · exact h2.elim
      · refine h2.trans ?_
        subst hp
        rw [List.take_length]
        have:=eta g
        obtain ⟨_,c1,c2,c3⟩:=q.coll h7
        rw [h7,c1,c2,c3] at this
        rw [this]
    · obtain ⟨gf,l1⟩:=q.plain h7
      exact plain_flat hN hNl d bd gf.kids gf.noss (fun h=>by
        rcases h with e | e | e | e
        · exact (gf.point e).1
        · exact gf.line (.inl e)
        · exact gf.line (.inr e)
        · exact (gf.multi e).1) gf.kind
/-- Plain data of what can be written. -/
theorem pl3 {ly s sr:Int} {fl:List Nat} {en:List Int} (h1:fl.length * 8 ≤ 140737488355328) (h2:en.length * 8 ≤ 140737488355328):impl_plain_m N (ly,s,fl,sr,en,()) = some (Geo.mk 3 ly sr fl en [] [],(ly,s,fl,sr,en,()),()):=by
  unfold impl_plain_m impl_plain_m_g
  show ((impl_floats N fl).bind fun a=>(impl_ints N en).bind fun b=>(impl_intss N []).bind fun c=>some (Geo.mk 3 ly sr a.1 b.1 c.1 [],(ly,s,fl,sr,en,()),())) = _
  rw [floats_eq h1,ints_eq h2,intss_nil hN hNl]; rfl
theorem pl4 {ly s sr:Int} {fl:List Nat} {en:List Int} (h1:fl.length * 8 ≤ 140737488355328) (h2:en.length * 8 ≤ 140737488355328):impl_plain_p N (ly,s,fl,sr,en,()) = some (Geo.mk 4 ly sr fl en [] [],(ly,s,fl,sr,en,()),()):=by
  unfold impl_plain_p impl_plain_p_g
  show ((impl_floats N fl).bind fun a=>(impl_ints N en).bind fun b=>(impl_intss N []).bind fun c=>some (Geo.mk 4 ly sr a.1 b.1 c.1 [],(ly,s,fl,sr,en,()),())) = _
  rw [floats_eq h1,ints_eq h2,intss_nil hN hNl]; rfl
theorem pl5 {ly s sr:Int} {fl:List Nat} {en:List Int} (h1:fl.length * 8 ≤ 140737488355328) (h2:en.length * 8 ≤ 140737488355328):impl_plain_r N (ly,s,fl,sr,en,()) = some (Geo.mk 5 ly sr fl en [] [],(ly,s,fl,sr,en,()),()):=by
  unfold impl_plain_r impl_plain_r_g
  show ((impl_floats N fl).bind fun a=>(impl_ints N en).bind fun b=>(impl_intss N []).bind fun c=>some (Geo.mk 5 ly sr a.1 b.1 c.1 [],(ly,s,fl,sr,en,()),())) = _
  rw [floats_eq h1,ints_eq h2,intss_nil hN hNl]; rfl
theorem pl6 {ly s sr:Int} {fl:List Nat} {es:List (List Int)} (h1:fl.length * 8 ≤ 140737488355328) (h2:es.length * 24 ≤ 140737488355328) (h3:∀ x ∈ es,x.length * 8 ≤ 140737488355328):impl_plain_v N (ly,s,fl,sr,es,()) = some (Geo.mk 6 ly sr fl [] es [],(ly,s,fl,sr,es,()),()):=by
  unfold impl_plain_v impl_plain_v_g
  show ((impl_floats N fl).bind fun a=>(impl_ints N []).bind fun b=>(impl_intss N es).bind fun c=>some (Geo.mk 6 ly sr a.1 b.1 c.1 [],(ly,s,fl,sr,es,()),())) = _
  rw [floats_eq h1,ints_eq (by decide),intss hN hNl _ h2 h3]; rfl
/-- .. of parts. -/
theorem plc {ly s:Int} {fl:List Nat} (h1:fl.length * 8 ≤ 140737488355328):∃ z,impl_plain_c N (ly,s,fl,0,()) = some (Geo.mk 8 ly 0 fl [] [] [],z,()):=by
  refine ⟨(ly,s,fl,0,()),?_⟩
  unfold impl_plain_c impl_plain_c_g
  show ((impl_floats N fl).bind fun a=>(impl_ints N []).bind fun b=>(impl_intss N []).bind fun c=>some (Geo.mk 8 ly 0 a.1 b.1 c.1 [],(ly,s,fl,0,()),())) = _
  rw [floats_eq h1,ints_eq (by decide),intss_nil hN hNl]; rfl
theorem ple {ly s:Int} {fl:List Nat} (h1:fl.length * 8 ≤ 140737488355328):∃ z,impl_plain_e N (ly,s,fl,0,()) = some (Geo.mk 1 ly 0 fl [] [] [],z,()):=by
  refine ⟨(ly,s,fl,0,()),?_⟩
  unfold impl_plain_e impl_plain_e_g
  show ((impl_floats N fl).bind fun a=>(impl_ints N []).bind fun b=>(impl_intss N []).bind fun c=>some (Geo.mk 1 ly 0 a.1 b.1 c.1 [],(ly,s,fl,0,()),())) = _
  rw [floats_eq h1,ints_eq (by decide),intss_nil hN hNl]; rfl
theorem plh {ly s:Int} {fl:List Nat} (h1:fl.length * 8 ≤ 140737488355328):∃ z,impl_plain_h N (ly,s,fl,0,()) = some (Geo.mk 2 ly 0 fl [] [] [],z,()):=by
  refine ⟨(ly,s,fl,0,()),?_⟩
  unfold impl_plain_h impl_plain_h_g
  show ((impl_floats N fl).bind fun a=>(impl_ints N []).bind fun b=>(impl_intss N []).bind fun c=>some (Geo.mk 2 ly 0 a.1 b.1 c.1 [],(ly,s,fl,0,()),())) = _
  rw [floats_eq h1,ints_eq (by decide),intss_nil hN hNl]; rfl
theorem plk {ly s:Int} {fl:List Nat} {en:List Int} (h1:fl.length * 8 ≤ 140737488355328) (h2:en.length * 8 ≤ 140737488355328):∃ z,impl_plain_k N (ly,s,fl,0,en,()) = some (Geo.mk 3 ly 0 fl en [] [],z,()):=by
  refine ⟨(ly,s,fl,0,en,()),?_⟩
  unfold impl_plain_k impl_plain_k_g
  show ((impl_floats N fl).bind fun a=>(impl_ints N en).bind fun b=>(impl_intss N []).bind fun c=>some (Geo.mk 3 ly 0 a.1 b.1 c.1 [],(ly,s,fl,0,en,()),())) = _
  rw [floats_eq h1,ints_eq h2,intss_nil hN hNl]; rfl
end
end Go.Proofs.YtmjcojdafeaiaaaGreat.PvPlPA
