/- The program's geometries out of plain data,collections too. -/
import Derived.Test.YtmjcojdafeaiaaaGreatPvObjPA
set_option linter.unusedVariables false
set_option linter.unusedSectionVars false
set_option linter.unusedSimpArgs false
namespace Go.Proofs.YtmjcojdafeaiaaaGreat.PvMkPA
open Go.Av Go
open Go.Proofs.YtmjcojdafeaiaaaGreat.PA
open Go.Proofs.YtmjcojdafeaiaaaGreat.PvGeoPA
open Go.Proofs.YtmjcojdafeaiaaaGreat.PvObjPA
section
variable {N:Nat} (hN:0 < N) (hNl:9223372036854775808 ≤ N)
include hN hNl
theorem intss_loop (l:List (List Int)) (hl:l.length * 24 ≤ 140737488355328) (hin:∀ x ∈ l,x.length * 8 ≤ 140737488355328):∀ (c i n:Nat),i + c = l.length→c + 1 ≤ n →
    impl_intss_l0 N n l (i:Int) (l.take i) = some (l,())
  | 0,i,n,hi,hn=>by
    obtain ⟨n,rfl⟩:∃ m,n = m + 1:=⟨n - 1,by omega⟩
    simp only [impl_intss_l0,impl_intss_g0]
    have:decide ((i:Int) < (l.length:Int)) = false:=by simp only [decide_eq_false_iff_not]; omega
    rw [this,cond_false,List.take_of_length_le (by omega)]
  | c + 1,i,n,hi,hn=>by
    obtain ⟨n,rfl⟩:∃ m,n = m + 1:=⟨n - 1,by omega⟩
    have hlt:i < l.length:=by omega
    have ih:=intss_loop l hl hin c (i + 1) n (by omega) (by omega)
    simp only [impl_intss_l0,impl_intss_g0]
    have:decide ((i:Int) < (l.length:Int)) = true:=by simp only [decide_eq_true_eq]; omega
    rw [this,cond_true,nth_get hlt]
    simp only [Option.bind_some,impl_ints,impl_ints_g]
    rw [lim_le (hin _ (List.getElem_mem hlt))]
    simp only [Option.bind_some]
    rw [lim_le (by simp only [List.length_take,List.length_cons,List.length_nil]; omega),succ_in hlt (by omega)]
    simp only [Option.bind_some]
    rw [← ih,take_snoc hlt]
theorem intss (l:List (List Int)) (hl:l.length * 24 ≤ 140737488355328) (hin:∀ x ∈ l,x.length * 8 ≤ 140737488355328):impl_intss N l = some (l,()):=by
  unfold impl_intss impl_intss_g
  exact intss_loop hN hNl l hl hin l.length 0 N (by omega) (by omega)
omit hN hNl in
theorem agree_same {R:Type} {x:Option R} {z:Option R} (h:z = x):agree z x = x:=by unfold agree; rw [if_pos h]; exact h
/-- The ends of a multi point stay. -/
theorem mp_flat {ly s sr:Int} {flat:List Nat} {ends:List Int} (h1:1 ≤ ly) (hs:strd ly = s) (h0:0 < s) (hc:Chain s 0 ends flat.length) :
    gogeom_NewMultiPointFlat N ly flat (((ends,()),()),()) = some ((ly,s,flat,0,ends,()),()):=by
  obtain ⟨M,hM⟩:∃ M,N = M + 1:=⟨N - 1,by omega⟩
  unfold gogeom_NewMultiPointFlat gogeom_NewMultiPointFlat_g
  rw [stride_geom N ly h1,hs]
  simp only [Option.bind_some]
  rw [show gogeom_NewMultiPointFlatOptionWithEnds_1 N (ly,s,flat,0,([]:List Int),()) (ends,()) = some ((ly,s,flat,0,(),()),(ends,()),()) from rfl]
  simp only [Option.bind_some]
  have j4:gogeom_NewMultiPointFlat_j4 N ((ly,s,flat,0,(),()),(ends,()),()) = some ((ly,s,flat,0,ends,()),()):=by
    unfold gogeom_NewMultiPointFlat_j4 gogeom_NewMultiPointFlat_g4
    rw [gate_pos hN]
  have j1:gogeom_NewMultiPointFlat_j1 N ((ly,s,flat,0,(),()),(ends,()),()) = some ((ly,s,flat,0,ends,()),()):=by
    unfold gogeom_NewMultiPointFlat_j1 gogeom_NewMultiPointFlat_g1
    rw [gate_pos hN,j4]
  have go:∀ r0,gogeom_NewMultiPointFlat_g0 N ((ly,s,flat,0,(),()),(ends,()),()) (gogeom_NewMultiPointFlat_j1 N) (gogeom_NewMultiPointFlat_j2 N) (gogeom_NewMultiPointFlat_j4 N) r0 = some ((ly,s,flat,0,ends,()),()):=by
    intro r0
    unfold gogeom_NewMultiPointFlat_g0
    cases hb:Nat.ble 1 ends.length with
    | true=>rw [cond_true,j1]
    | false =>
      have he:ends = []:=by
        have:¬ 1 ≤ ends.length:=fun h=>by rw [Nat.ble_eq_true_of_le h] at hb; cases hb
        exact List.length_eq_zero_iff.1 (by omega)
      subst he
      simp only [Chain] at hc
      rw [cond_false,j1]
      refine agree_same ?_
      rw [gate_pos hN,Bool.cond_decide,if_neg (by show ¬ ((flat.length:Int) > 0); omega),j4]
  conv=>lhs; arg 2; rw [hM]
  exact go _
/-! ### the layout of what lies in memory -/
omit hN hNl in
theorem nth_objs {l:List Geo} {i:Nat} (h:i < l.length):nth (objs l) (i:Int) = some (obj l[i]):=by
  rw [nth_get (by rw [objs_len]; exact h),objs_at]
omit hN hNl in
theorem lay_step {self:(Int×((List Ce)×(Int×Unit)))→Option ((Int×Unit))} {ly sr v:Int} {l:List Geo} {c1:Int→Int→Int→Option ((Int×Unit))} {r0:Int→Int→Option ((Int×Unit))} {i:Nat} (h:i < l.length) (hg:GC l[i])
    (hs:l[i].kind = 7→self (l[i].layout,objs l[i].kids,l[i].srid,()) = some (lay l[i],())) :
    gogeom_GeometryCollection_Layout_g0 N self (ly,objs l,sr,()) c1 r0 v (i:Int) = c1 v (i:Int) (lay l[i]):=by
  unfold gogeom_GeometryCollection_Layout_g0
  simp only [Bool.cond_decide,objs_len]
  rw [if_pos (by omega),nth_objs h]
  generalize l[i] = k at hg hs ⊢
  rcases GC_kinds hg with e | e | e | e | e | e | e | e
  · rw [obj1 e,lay_ne (by omega)]; rfl
  · rw [obj2 e,lay_ne (by omega)]; rfl
  · rw [obj8 e,lay_ne (by omega)]; rfl
  · rw [obj3 e,lay_ne (by omega)]; rfl
  · rw [obj4 e,lay_ne (by omega)]; rfl
  · rw [obj5 e,lay_ne (by omega)]; rfl
  · rw [obj6 e,lay_ne (by omega)]; rfl
  · rw [obj7 e]
    have:=hs e
    show (self (k.layout,objs k.kids,k.srid,())).bind (fun v71=>c1 v (i:Int) v71.1) = _
    rw [this]; rfl
theorem lay_join {self:(Int×((List Ce)×(Int×Unit)))→Option ((Int×Unit))} {r0:Int→Int→Option ((Int×Unit))} {v1:(Int×((List Ce)×(Int×Unit)))} {v x:Int} {i n:Nat} (h:i < n) (hn:n ≤ 9223372036854775807) :
    gogeom_GeometryCollection_Layout_j1 N self r0 v1 v (i:Int) x = r0 (cov v x) ((i + 1:Nat):Int):=by
  unfold gogeom_GeometryCollection_Layout_j1 gogeom_GeometryCollection_Layout_g1
  simp only [gogeom_GeometryCollection_Layout_j2,gogeom_GeometryCollection_Layout_g2,gate_pos hN,succ_in h hn,Bool.cond_decide,Bool.cond_eq_ite,beq_iff_eq,decide_eq_true_eq,gt_iff_lt]
  unfold cov
  by_cases x2:x = 2
  · subst x2
    rw [if_pos rfl]
    by_cases v3:v = 3
    · subst v3; rfl
    · rw [if_neg v3]
      rw [if_neg (show ¬(v = 2 ∧ (2:Int) = 3 ∨ v = 3 ∧ (2:Int) = 2) by omega)]
      by_cases hlt:v < 2
      · rw [if_pos hlt,show max v 2 = 2 by omega]
      · rw [if_neg hlt,show max v 2 = v by omega]
  · rw [if_neg x2]
    by_cases x3:x = 3
    · subst x3
      rw [if_pos rfl]
      by_cases v2:v = 2
      · subst v2; rfl
      · rw [if_neg v2,if_neg (show ¬(v = 2 ∧ (3:Int) = 3 ∨ v = 3 ∧ (3:Int) = 2) by omega)]
        by_cases hlt:v < 3
        · rw [if_pos hlt,show max v 3 = 3 by omega]
        · rw [if_neg hlt,show max v 3 = v by omega]
    · rw [if_neg x3,if_neg (show ¬(v = 2 ∧ x = 3 ∨ v = 3 ∧ x = 2) by omega)]
      by_cases hlt:v < x
      · rw [if_pos hlt,show max v x = x by omega]
      · rw [if_neg hlt,show max v x = v by omega]
theorem layC:∀ (d:Nat) (g:Geo),dep g ≤ d→wfG g→GC g→g.kind = 7→gogeom_GeometryCollection_Layout N d (g.layout,objs g.kids,g.srid,()) = some (lay g,())
  | 0,g,h,_,_,_=>by have:=dep_pos g; omega
  | d + 1,g,h,hw,hg,h7=>by
    obtain ⟨sz,hk⟩:=sz_of hw
    have s2:=sz.kids
    have q:=GC_iff.1 hg
    simp only [gogeom_GeometryCollection_Layout,gogeom_GeometryCollection_Layout_g]
    cases l0:g.layout != 0 with
    | true=>simp only [cond_true]; rw [lay_set (by simpa using l0)]
    | false =>
      have e0:g.layout = 0:=by simpa using l0
      simp only [cond_false]
      rw [lay_un h7 e0,lays_foldl]
      exact (foldLoop0 (xs:=g.kids) (L:=fun n i st=>gogeom_GeometryCollection_Layout_l0 N (gogeom_GeometryCollection_Layout N d) n (g.layout,objs g.kids,g.srid,()) st i) (f:=fun a k=>cov a (lay k)) (fin:=fun st=>some (st,())) (fun _ _=>True)
        (fun n st _=>by
          simp only [gogeom_GeometryCollection_Layout_l0,gogeom_GeometryCollection_Layout_g0,Bool.cond_decide,objs_len]
          rw [if_neg (Int.lt_irrefl _)])
        (fun n i st hi _=>by
          refine ⟨?_,trivial⟩
          simp only [gogeom_GeometryCollection_Layout_l0]
          have hm:=List.getElem_mem hi
          have hd:=dep_kid hm
          rw [lay_step hi (q.kid h7 _ hm).1 (fun e=>layC d g.kids[i] (by omega) (hk _ hm) (q.kid h7 _ hm).1 e),lay_join hN hNl hi (by omega)]) N 0 (by omega) trivial).1
/-- The check of a collection's layout. -/
theorem check {l:List Geo} {ly0 sr ly:Int} (hd:∀ k ∈ l,dep k ≤ N) (hw:∀ k ∈ l,wfG k) (hl:l.length ≤ 140737488351232) (hg:∀ k ∈ l,GC k ∧ (ly ≠ 0→lay k = ly)) :
    gogeom_GeometryCollection_CheckLayout N (ly0,objs l,sr,()) ly = some (Sum.inr ((),())):=by
  unfold gogeom_GeometryCollection_CheckLayout gogeom_GeometryCollection_CheckLayout_g
  have fin:gogeom_GeometryCollection_CheckLayout_j2 N = some (Sum.inr ((),())):=by
    unfold gogeom_GeometryCollection_CheckLayout_j2 gogeom_GeometryCollection_CheckLayout_g2
    rw [gate_pos hN]
  cases l0:ly != 0 with
  | false=>simp only [cond_false]; exact fin
  | true =>
    have e0:ly ≠ 0:=by simpa using l0
    simp only [cond_true]
    rcases checkLoop0 (xs:=l) (L:=fun n i=>gogeom_GeometryCollection_CheckLayout_l0 N n ly (ly0,objs l,sr,()) i) (e:=fun _=>False) (fin:=some (Sum.inr ((),()))) (fun _=>True)
      (fun n=>by
        simp only [gogeom_GeometryCollection_CheckLayout_l0,gogeom_GeometryCollection_CheckLayout_g0,Bool.cond_decide,objs_len]
        rw [if_neg (Int.lt_irrefl _)]
        exact fin)
      (fun n i hi=>by
        refine .inr ⟨?_,trivial⟩
        have hm:=List.getElem_mem hi
        obtain ⟨hgk,hlk⟩:=hg _ hm
        have hlk:=hlk e0
        have j1:∀ r0:Int→Option _,gogeom_GeometryCollection_CheckLayout_j1 N r0 ly (ly0,objs l,sr,()) (i:Int) (lay l[i]) = r0 ((i + 1:Nat):Int):=by
          intro r0
          unfold gogeom_GeometryCollection_CheckLayout_j1 gogeom_GeometryCollection_CheckLayout_g1
          rw [gate_pos hN,hlk,bne_self_eq_false,cond_false,succ_in hi (by omega)]
        simp only [gogeom_GeometryCollection_CheckLayout_l0]
        rw [← j1 (gogeom_GeometryCollection_CheckLayout_l0 N n ly (ly0,objs l,sr,()))]
        unfold gogeom_GeometryCollection_CheckLayout_g0
        simp only [Bool.cond_decide,objs_len]
        rw [if_pos (by omega),nth_objs hi]
        have hdk:=hd _ hm
        have hwk:=hw _ hm
        generalize l[i] = k at hgk hdk hwk ⊢
        rcases GC_kinds hgk with e | e | e | e | e | e | e | e
        · rw [obj1 e,lay_ne (by omega)]; rfl
        · rw [obj2 e,lay_ne (by omega)]; rfl
        · rw [obj8 e,lay_ne (by omega)]; rfl
        · rw [obj3 e,lay_ne (by omega)]; rfl
        · rw [obj4 e,lay_ne (by omega)]; rfl
        · rw [obj5 e,lay_ne (by omega)]; rfl
        · rw [obj6 e,lay_ne (by omega)]; rfl
        · rw [obj7 e]
          have:=layC hN hNl N k hdk hwk hgk e
          show (gogeom_GeometryCollection_Layout N N (k.layout,objs k.kids,k.srid,())).bind (fun v71=>gogeom_GeometryCollection_CheckLayout_j1 N _ ly (ly0,objs l,sr,()) (i:Int) v71.1) = _
          rw [this]; rfl) N (by omega) with h2 | ⟨h2,_⟩
    · exact h2.elim
    · exact h2
/-- A geometry of good data. -/
theorem geometry:∀ (d:Nat) (g:Geo),dep g ≤ d→dep g ≤ N→wfG g→GC g→impl_geometry N d g = some (obj g,())
  | 0,g,h,_,_,_=>by have:=dep_pos g; omega
  | d + 1,g,h,hdN,hw,hg=>by
    obtain ⟨hsz,hk⟩:=sz_of hw
    have q:=GC_iff.1 hg
    have hends:g.flat.length * 8 ≤ 140737488355328 ∧ g.ends.length * 8 ≤ 140737488355328 ∧ g.endss.length * 24 ≤ 140737488355328 ∧ (∀ x ∈ g.endss,x.length * 8 ≤ 140737488355328) ∧ g.kids.length * 120 ≤ 140737488355328:=by
      cases g with
      | mk kd ly sr flat ends endss kids =>
        simp only [wfG] at hw
        unfold fits at hw
        simp only [Geo.ends,Geo.endss,Geo.flat,Geo.kids]
        refine ⟨by omega,by omega,by omega,fun x hx=>?_,by omega⟩
        have:=(hw.2.2.2.2.2.1.2 x hx).1
        omega
    simp only [impl_geometry]
    unfold impl_geometry_g
    unfold impl_floats impl_floats_g
    rw [lim_le (n:=g.flat.length * 8) (by omega)]
    by_cases h7:g.kind = 7
    · rw [h7]
      simp only [Option.bind_some,show ((7:Int) == 1) = false from rfl,show ((7:Int) == 2) = false from rfl,show ((7:Int) == 8) = false from rfl,show ((7:Int) == 3) = false from rfl,show ((7:Int) == 4) = false from rfl,show ((7:Int) == 5) = false from rfl,show ((7:Int) == 6) = false from rfl,show ((7:Int) == 7) = true from rfl,
        cond_true,cond_false,gogeom_NewGeometryCollection,gogeom_NewGeometryCollection_g,gogeom_GeometryCollection_SetSRID,gogeom_GeometryCollection_SetSRID_g]
      have hkid:=q.kid h7
      rcases stateLoop0 (xs:=g.kids) (L:=fun n i st=>impl_geometry_l0 N (impl_geometry N d) n g i 0 g.srid st) (e:=fun _=>False) (fin:=fun _=>some (obj g,())) (fun i st=>st = objs (g.kids.take i))
        (fun n st hp=>by
          subst hp
          simp only [impl_geometry_l0,impl_geometry_g0,Bool.cond_decide]
          rw [if_neg (Int.lt_irrefl _),List.take_length]
          unfold gogeom_GeometryCollection_MustSetLayout gogeom_GeometryCollection_MustSetLayout_g gogeom_GeometryCollection_SetLayout gogeom_GeometryCollection_SetLayout_g
          rw [check hN hNl (fun k hm=>by have:=dep_kid hm; omega) hk (by omega) hkid]
          simp only [Option.bind_some,Sum.elim_inr]
          rw [obj7 h7])
        (fun n i st hi hp=>by
          right
          subst hp
          have hm:=List.getElem_mem hi
          have hdk:=dep_kid hm
          refine ⟨objs (g.kids.take (i + 1)),?_,rfl⟩
          simp only [impl_geometry_l0,impl_geometry_g0,Bool.cond_decide,eta]
          rw [if_pos (by omega),nth_get hi]
          simp only [Option.bind_some]
          rw [geometry d g.kids[i] (by omega) (by omega) (hk _ hm) (hkid _ hm).1]
          unfold gogeom_GeometryCollection_MustPush gogeom_GeometryCollection_MustPush_g gogeom_GeometryCollection_Push gogeom_GeometryCollection_Push_g gogeom_GeometryCollection_Push_j2 gogeom_GeometryCollection_Push_g2
          have hlen:(objs (g.kids.take i)).length = i:=by rw [objs_len,List.length_take]; omega
          simp only [Option.bind_some,bne_self_eq_false,cond_false,gate_pos hN]
          rw [lim_le (by rw [hlen,List.length_cons,List.length_nil]; omega)]
          simp only [Option.bind_some,Sum.elim_inr]
          rw [succ_in hi (by omega),List.take_add_one,List.getElem?_eq_getElem hi,objs_app]
          rfl) N [] (by omega) (by simp [objs]) with h2 | ⟨st,h2,_⟩
      · exact h2.elim
      · exact h2
    · obtain ⟨gf,l1⟩:=q.plain h7
      generalize hS:strd g.layout = s
      have h0:0 < s:=hS ▸ gf.pos
      have mp:=fun h=>mp_flat hN hNl (sr:=g.srid) (ends:=g.ends) (flat:=g.flat) l1 hS h0 h
      rcases gf.kind with e | e | e | e | e | e | e
      all_goals
        rw [e]
        simp only [Option.bind_some,show ((1:Int) == 1) = true from rfl,show ((2:Int) == 1) = false from rfl,show ((2:Int) == 2) = true from rfl,show ((8:Int) == 1) = false from rfl,show ((8:Int) == 2) = false from rfl,show ((8:Int) == 8) = true from rfl,
          show ((3:Int) == 1) = false from rfl,show ((3:Int) == 2) = false from rfl,show ((3:Int) == 8) = false from rfl,show ((3:Int) == 3) = true from rfl,
          show ((4:Int) == 1) = false from rfl,show ((4:Int) == 2) = false from rfl,show ((4:Int) == 8) = false from rfl,show ((4:Int) == 3) = false from rfl,show ((4:Int) == 4) = true from rfl,
          show ((5:Int) == 1) = false from rfl,show ((5:Int) == 2) = false from rfl,show ((5:Int) == 8) = false from rfl,show ((5:Int) == 3) = false from rfl,show ((5:Int) == 4) = false from rfl,show ((5:Int) == 5) = true from rfl,
          show ((6:Int) == 1) = false from rfl,show ((6:Int) == 2) = false from rfl,show ((6:Int) == 8) = false from rfl,show ((6:Int) == 3) = false from rfl,show ((6:Int) == 4) = false from rfl,show ((6:Int) == 5) = false from rfl,show ((6:Int) == 6) = true from rfl,
          cond_true,cond_false,gogeom_NewPointFlat,gogeom_NewPointFlat_g,gogeom_Point_SetSRID,gogeom_Point_SetSRID_g,gogeom_NewLineStringFlat,gogeom_NewLineStringFlat_g,gogeom_NewLinearRingFlat,gogeom_NewLinearRingFlat_g,gogeom_NewPolygonFlat,gogeom_NewPolygonFlat_g,
          gogeom_NewMultiLineStringFlat,gogeom_NewMultiLineStringFlat_g,gogeom_NewMultiPolygonFlat,gogeom_NewMultiPolygonFlat_g,gogeom_LineString_SetSRID,gogeom_LineString_SetSRID_g,gogeom_LinearRing_SetSRID,gogeom_LinearRing_SetSRID_g,
          gogeom_Polygon_SetSRID,gogeom_Polygon_SetSRID_g,gogeom_MultiLineString_SetSRID,gogeom_MultiLineString_SetSRID_g,gogeom_MultiPolygon_SetSRID,gogeom_MultiPolygon_SetSRID_g,gogeom_MultiPoint_SetSRID,gogeom_MultiPoint_SetSRID_g,
          gogeom_NewMultiPointFlatOptionWithEnds,gogeom_NewMultiPointFlatOptionWithEnds_g,
          stride_geom N g.layout l1,impl_ints,impl_ints_g,lim_le hends.2.1,intss hN hNl _ hends.2.2.1 hends.2.2.2.1,Sum.elim_inl,Sum.elim_inr,hS]
      · rw [obj1 e,hS]
      · rw [obj2 e,hS]
      · rw [obj8 e,hS]
      · rw [obj3 e,hS]
      · have hc:=gf.parts (.inr (.inl e))
        rw [hS] at hc
        simp only [mp hc,Option.bind_some]
        rw [obj4 e,hS]
      · rw [obj5 e,hS]
      · rw [obj6 e,hS]
end
end Go.Proofs.YtmjcojdafeaiaaaGreat.PvMkPA
