/- The plain law of FnPushAll. -/
import Derived.Test.YtmjcojdafeaiaaaGreatPvPwPA
set_option linter.unusedVariables false
set_option linter.unusedSectionVars false
set_option linter.unusedSimpArgs false
namespace Go.Proofs.YtmjcojdafeaiaaaGreat.PvPA
open Go.Av Go
open Go.Proofs.YtmjcojdafeaiaaaGreat.PA
open Go.Proofs.YtmjcojdafeaiaaaGreat.PvGeoPA
open Go.Proofs.YtmjcojdafeaiaaaGreat.PvObjPA
open Go.Proofs.YtmjcojdafeaiaaaGreat.PvMkPA
open Go.Proofs.YtmjcojdafeaiaaaGreat.PvPlPA
open Go.Proofs.YtmjcojdafeaiaaaGreat.PvPuPA
open Go.Proofs.YtmjcojdafeaiaaaGreat.PvPwPA
theorem chain_mem {s:Int}:∀ {l:List Int} {a b:Int},Chain s a l b→∀ x ∈ l,a ≤ x ∧ x ≤ b
  | [],a,b,h,x,hx=>by simp at hx
  | e :: r,a,b,h,x,hx=>by
    simp only [Chain] at h
    have:=h.2.2.le
    rcases List.mem_cons.1 hx with rfl | hx
    · exact ⟨h.1,this⟩
    · have:=chain_mem h.2.2 x hx
      omega
theorem gd {α:Type} {l:List α} {i:Nat} {d:α} (h:i < l.length):l.getD i d = l[i]:=by rw [List.getD_eq_getElem?_getD,List.getElem?_eq_getElem h]; rfl
theorem take_succ' {α:Type} {l:List α} {i:Nat} (h:i < l.length):l.take i ++ [l[i]] = l.take (i + 1):=by
  rw [List.take_add_one,List.getElem?_eq_getElem h]; rfl
section
variable {N:Nat} (hN:0 < N) (hNl:9223372036854775808 ≤ N)
include hN hNl
/-! ### a geometry is the same as itself -/
theorem sameF (l:List Nat) (hl:l.length ≤ 140737488351232):spec_SameFloats N l l = some true:=by
  unfold spec_SameFloats spec_SameFloats_g
  rw [bne_self_eq_false,cond_false]
  rcases checkLoop0 (xs:=l) (L:=fun n i=>spec_SameFloats_l0 N n l l i) (e:=fun _=>False) (fin:=some true) (fun _=>True)
    (fun n=>by
      simp only [spec_SameFloats_l0,spec_SameFloats_g0,Bool.cond_decide]
      rw [if_neg (Int.lt_irrefl _)])
    (fun n i hi=>by
      refine .inr ⟨?_,trivial⟩
      simp only [spec_SameFloats_l0,spec_SameFloats_g0,Bool.cond_decide,math_Float64bits]
      rw [if_pos (by omega),nth_get hi]
      simp only [Option.bind_some,bne_self_eq_false,cond_false]
      rw [succ_in hi (by omega)]) N (by omega) with h | ⟨h,_⟩
  · exact h.elim
  · exact h
theorem sameI (l:List Int) (hl:l.length ≤ 140737488351232):spec_sameInts N l l = some true:=by
  unfold spec_sameInts spec_sameInts_g
  rw [bne_self_eq_false,cond_false]
  rcases checkLoop0 (xs:=l) (L:=fun n i=>spec_sameInts_l0 N n l l i) (e:=fun _=>False) (fin:=some true) (fun _=>True)
    (fun n=>by
      simp only [spec_sameInts_l0,spec_sameInts_g0,Bool.cond_decide]
      rw [if_neg (Int.lt_irrefl _)])
    (fun n i hi=>by
      refine .inr ⟨?_,trivial⟩
      simp only [spec_sameInts_l0,spec_sameInts_g0,Bool.cond_decide]
      rw [if_pos (by omega),nth_get hi]
      simp only [Option.bind_some,bne_self_eq_false,cond_false]
      rw [succ_in hi (by omega)]) N (by omega) with h | ⟨h,_⟩
  · exact h.elim
  · exact h
theorem same:∀ (d:Nat) (g:Geo),dep g ≤ d→wfG g→spec_SameGeom N d g g = some true
  | 0,g,h,_=>by have:=dep_pos g; omega
  | d + 1,g,h,hw=>by
    obtain ⟨sz,hk⟩:=sz_of hw
    have s1:=sz.endss
    have s2:=sz.kids
    have s3:=sz.each
    simp only [spec_SameGeom,spec_SameGeom_g]
    rw [sameF hN hNl _ sz.flat,sameI hN hNl _ sz.ends]
    simp only [bne_self_eq_false,cond_false,Option.bind_some,Bool.not_true,gate_pos hN]
    have k2:spec_SameGeom_l2 N (spec_SameGeom N d) N g g 0 = some true:=by
      rcases checkLoop0 (xs:=g.kids) (L:=fun n i=>spec_SameGeom_l2 N (spec_SameGeom N d) n g g i) (e:=fun _=>False) (fin:=some true) (fun _=>True)
        (fun n=>by
          simp only [spec_SameGeom_l2,spec_SameGeom_g2,Bool.cond_decide]
          rw [if_neg (Int.lt_irrefl _)])
        (fun n i hi=>by
          refine .inr ⟨?_,trivial⟩
          have hm:=List.getElem_mem hi
          have hdk:=dep_kid hm
          simp only [spec_SameGeom_l2,spec_SameGeom_g2,Bool.cond_decide,eta]
          rw [if_pos (by omega),nth_get hi]
          simp only [Option.bind_some]
          rw [same d g.kids[i] (by omega) (hk _ hm)]
          simp only [Option.bind_some,Bool.not_true,cond_false]
          rw [succ_in hi (by omega)]) N (by omega) with h | ⟨h,_⟩
      · exact h.elim
      · exact h
    rcases checkLoop0 (xs:=g.endss) (L:=fun n i=>spec_SameGeom_l1 N (spec_SameGeom N d) n g g i) (e:=fun _=>False) (fin:=some true) (fun _=>True)
      (fun n=>by
        simp only [spec_SameGeom_l1,spec_SameGeom_g1,Bool.cond_decide]
        rw [if_neg (Int.lt_irrefl _)]
        exact k2)
      (fun n i hi=>by
        refine .inr ⟨?_,trivial⟩
        simp only [spec_SameGeom_l1,spec_SameGeom_g1,Bool.cond_decide]
        rw [if_pos (by omega),nth_get hi]
        simp only [Option.bind_some]
        rw [sameI hN hNl _ (s3 _ (List.getElem_mem hi)).1]
        simp only [Option.bind_some,Bool.not_true,cond_false]
        rw [succ_in hi (by omega)]) N (by omega) with h | ⟨h,_⟩
    · exact h.elim
    · exact h
/-! ### all parts,one after another -/
theorem core {g:Geo} {n:Nat} (H P:Nat→Geo) (hb:impl_New N (Geo.mk g.kind g.layout 0 [] [] [] []) = some (H 0,true)) (hn:impl_NumParts N g = some ((n:Int),true))
    (hP:∀ i,i < n→impl_Part N g (i:Int) = some (P i,true)) (hU:∀ i,i < n→impl_Push N (H i) (P i) = some (H (i + 1),true)) (hH:H n = g) (hs:spec_SameGeom N N g g = some true) (hnl:n ≤ 140737488351232) :
    laws_FnPushAll_j1 N g = some true:=by
  unfold laws_FnPushAll_j1 laws_FnPushAll_g1
  rw [gate_pos hN]
  simp only [eta]
  rw [hb]
  simp only [Option.bind_some]
  rw [hn]
  simp only [Option.bind_some]
  rcases stateLoop0 (xs:=List.range n) (L:=fun k i (st:Geo)=>laws_FnPushAll_l2 N k ((n:Int),true) g true i st.kind st.layout st.srid st.flat st.ends st.endss st.kids) (e:=fun _=>False) (fin:=fun _=>some true) (fun i st=>st = H i)
    (fun k st hp=>by
      subst hp
      simp only [laws_FnPushAll_l2,laws_FnPushAll_g2,Bool.cond_decide,List.length_range]
      rw [if_neg (Int.lt_irrefl _)]
      simp only [laws_FnPushAll_j4,laws_FnPushAll_g4,gate_pos hN,cond_true,eta]
      rw [hH,hs]
      rfl)
    (fun k i st hi hp=>by
      right
      subst hp
      rw [List.length_range] at hi
      refine ⟨H (i + 1),?_,rfl⟩
      simp only [laws_FnPushAll_l2,laws_FnPushAll_g2,Bool.cond_decide]
      rw [if_pos (by omega)]
      simp only [cond_true,eta]
      rw [hP i hi]
      simp only [Option.bind_some,eta]
      rw [hU i hi]
      simp only [Option.bind_some,cond_true,laws_FnPushAll_j3,laws_FnPushAll_g3,gate_pos hN]
      rw [succ_in hi (by omega)]) N (H 0) (by rw [List.length_range]; omega) rfl with h | ⟨st,h,_⟩
  · exact h.elim
  · exact h
theorem new_flat {kd ly:Int} (l1:1 ≤ ly) (h0:0 < strd ly) (hkd:kd = 3 ∨ kd = 4 ∨ kd = 5 ∨ kd = 6):impl_New N (Geo.mk kd ly 0 [] [] [] []) = some (Geo.mk kd ly 0 [] [] [] [],true):=by
  obtain ⟨M,hM⟩:∃ M,N = M + 1:=⟨N - 1,by omega⟩
  have bd:Bd (Geo.mk kd ly 0 [] [] [] []):=bd_one (Nat.le_of_lt (show 0 < 140737488355328 by decide))
  have geo:impl_geometry N N (Geo.mk kd ly 0 [] [] [] []) = some (obj (Geo.mk kd ly 0 [] [] [] []),()):=by
    conv=>lhs; arg 2; rw [hM]
    refine geo_flat hN hNl M bd l1 (fun _=>⟨h0,rfl⟩) ?_
    show kd = 1 ∨ kd = 2 ∨ kd = 8 ∨ kd = 3 ∨ kd = 4 ∨ kd = 5 ∨ kd = 6
    omega
  have pl:impl_plain N N (obj (Geo.mk kd ly 0 [] [] [] [])) = some (Geo.mk kd ly 0 [] [] [] []):=by
    conv=>lhs; arg 2; rw [hM]
    refine plain_flat hN hNl M bd rfl (fun _=>rfl) (fun _=>rfl) ?_
    show kd = 1 ∨ kd = 2 ∨ kd = 8 ∨ kd = 3 ∨ kd = 4 ∨ kd = 5 ∨ kd = 6
    omega
  unfold impl_New impl_New_g
  simp only [eta]
  rw [geo]
  simp only [Option.bind_some]
  rw [pl]
  rfl
/-- What all kinds share. -/
structure Got (g:Geo):Prop where
  w:wfG g
  d:dep g ≤ N
  c:GC g
  s:g.srid = 0
omit hN hNl in
theorem Got.geo (hN:0 < N) (hNl:9223372036854775808 ≤ N) {g:Geo} (h:Got (N:=N) g):impl_geometry N N g = some (obj g,()):=PvMkPA.geometry hN hNl N g h.d h.d h.w h.c
theorem law3 {g:Geo} (h:Got (N:=N) g) (e:g.kind = 3):laws_FnPushAll_j1 N g = some true:=by
  obtain ⟨gf,l1⟩:=(GC_iff.1 h.c).plain (by omega)
  have bd:=bd_of h.w
  obtain ⟨sz,_⟩:=sz_of h.w
  have z1:=sz.ends
  have z2:=sz.flat
  have b1:=bd.flat
  have b2:=bd.ends
  have hc:=gf.parts (.inl e)
  have fe:(g.flat.length:Int) = atd 0 g.ends g.ends.length:=(chain_end hc).symm
  have st:∀ i,(hi:i < g.ends.length)→0 ≤ atd 0 g.ends i ∧ atd 0 g.ends i ≤ atd 0 g.ends (i + 1) ∧ atd 0 g.ends (i + 1) ≤ g.flat.length ∧ atd 0 g.ends (i + 1) = g.ends[i]:=fun i hi=>by
    have p1:=chain_at i hc (by omega)
    have p2:=chain_step i hi hc
    have p3:=chain_at (i + 1) hc (by omega)
    have p4:=atd_succ g.ends 0 i hi
    exact ⟨p1.1,by rw [p4]; exact p2,p3.2.1,p4⟩
  refine core hN hNl (n:=g.ends.length) (fun i=>Geo.mk 3 g.layout 0 (g.flat.take (atd 0 g.ends i).toNat) (g.ends.take i) [] []) (fun i=>Geo.mk 8 g.layout 0 (piece g.flat (atd 0 g.ends i) (atd 0 g.ends (i + 1))) [] [] [])
    ?_ ?_ (fun i hi=>?_) (fun i hi=>?_) ?_ (same hN hNl N g h.d h.w) z1
  · rw [e,new_flat hN hNl l1 gf.pos (.inl rfl)]
    simp [atd_zero]
  · unfold impl_NumParts impl_NumParts_g
    simp only [eta]
    rw [h.geo hN hNl,obj3 e]
    rfl
  · obtain ⟨q1,q2,q3,q4⟩:=st i hi
    unfold impl_Part impl_Part_g
    simp only [eta]
    rw [h.geo hN hNl,obj3 e]
    show ((gogeom_Polygon_LinearRing N (.ptr [.int .i64 g.layout,.int .i64 (strd g.layout),.fl g.flat,.int .i64 g.srid,.il g.ends]) (i:Int)).bind fun v6=>(impl_plain_c N (v6.1.1,v6.1.2.1,v6.1.2.2.1,v6.1.2.2.2.1,())).bind fun v7=>some (v7.1,true)) = _
    rw [ring_part hN hNl hi (by omega) q1 (by rw [← q4]; exact q2) (by rw [← q4]; exact q3) l1,← q4]
    simp only [Option.bind_some]
    obtain ⟨z,hz⟩:=plc hN hNl (ly:=g.layout) (s:=strd g.layout) (fl:=piece g.flat (atd 0 g.ends i) (atd 0 g.ends (i + 1))) (by have:=piece_len g.flat (atd 0 g.ends i) (atd 0 g.ends (i + 1)); omega)
    rw [hz]
    rfl
  · obtain ⟨q1,q2,q3,q4⟩:=st i hi
    have cl:=cat_len (fl:=g.flat) q1 q2 q3
    show impl_Push N (Geo.mk 3 g.layout 0 _ _ [] []) (Geo.mk 8 g.layout 0 _ [] [] []) = _
    rw [push3 hN hNl (by rw [← List.length_append]; omega) (by rw [List.length_take]; omega) l1,cl,piece_app q2,q4,take_succ' hi]
  · show Geo.mk 3 g.layout 0 _ _ [] [] = g
    rw [← fe,show (g.flat.length:Int).toNat = g.flat.length by omega,List.take_length,List.take_length]
    have:=eta g
    rw [e,h.s,gf.noss (by omega),gf.kids] at this
    exact this
theorem law4 {g:Geo} (h:Got (N:=N) g) (e:g.kind = 4):laws_FnPushAll_j1 N g = some true:=by
  obtain ⟨gf,l1⟩:=(GC_iff.1 h.c).plain (by omega)
  have bd:=bd_of h.w
  obtain ⟨sz,_⟩:=sz_of h.w
  have z1:=sz.ends
  have z2:=sz.flat
  have b1:=bd.flat
  have b2:=bd.ends
  have hc:=gf.parts (.inr (.inl e))
  have fe:(g.flat.length:Int) = atd 0 g.ends g.ends.length:=(chain_end hc).symm
  have st:∀ i,(hi:i < g.ends.length)→0 ≤ atd 0 g.ends i ∧ atd 0 g.ends i ≤ atd 0 g.ends (i + 1) ∧ atd 0 g.ends (i + 1) ≤ g.flat.length ∧ atd 0 g.ends (i + 1) = g.ends[i]:=fun i hi=>by
    have p1:=chain_at i hc (by omega)
    have p2:=chain_step i hi hc
    have p3:=chain_at (i + 1) hc (by omega)
    have p4:=atd_succ g.ends 0 i hi
    exact ⟨p1.1,by rw [p4]; exact p2,p3.2.1,p4⟩
  refine core hN hNl (n:=g.ends.length) (fun i=>Geo.mk 4 g.layout 0 (g.flat.take (atd 0 g.ends i).toNat) (g.ends.take i) [] []) (fun i=>Geo.mk 1 g.layout 0 (piece g.flat (atd 0 g.ends i) (atd 0 g.ends (i + 1))) [] [] [])
    ?_ ?_ (fun i hi=>?_) (fun i hi=>?_) ?_ (same hN hNl N g h.d h.w) z1
  · rw [e,new_flat hN hNl l1 gf.pos (.inr (.inl rfl))]
    simp [atd_zero]
  · unfold impl_NumParts impl_NumParts_g
    simp only [eta]
    rw [h.geo hN hNl,obj4 e]
    rfl
  · obtain ⟨q1,q2,q3,q4⟩:=st i hi
    unfold impl_Part impl_Part_g
    simp only [eta]
    rw [h.geo hN hNl,obj4 e]
    show ((gogeom_MultiPoint_Point N (.ptr [.int .i64 g.layout,.int .i64 (strd g.layout),.fl g.flat,.int .i64 g.srid,.il g.ends]) (i:Int)).bind fun v6=>(impl_plain_e N (v6.1.1,v6.1.2.1,v6.1.2.2.1,v6.1.2.2.2.1,())).bind fun v7=>some (v7.1,true)) = _
    rw [point_part hN hNl hi (by omega) q1 (by rw [← q4]; exact q2) (by rw [← q4]; exact q3) l1,← q4]
    simp only [Option.bind_some]
    obtain ⟨z,hz⟩:=ple hN hNl (ly:=g.layout) (s:=strd g.layout) (fl:=piece g.flat (atd 0 g.ends i) (atd 0 g.ends (i + 1))) (by have:=piece_len g.flat (atd 0 g.ends i) (atd 0 g.ends (i + 1)); omega)
    rw [hz]
    rfl
  · obtain ⟨q1,q2,q3,q4⟩:=st i hi
    have cl:=cat_len (fl:=g.flat) q1 q2 q3
    have ci:=chain_at i hc (by omega)
    show impl_Push N (Geo.mk 4 g.layout 0 _ _ [] []) (Geo.mk 1 g.layout 0 _ [] [] []) = _
    rw [push4 hN hNl (by rw [← List.length_append]; omega) (by rw [List.length_take]; omega) l1 gf.pos (by rw [List.length_take,show ((min (atd 0 g.ends i).toNat g.flat.length:Nat):Int) = atd 0 g.ends i by omega]; exact ci.2.2),cl,piece_app q2,q4,take_succ' hi]
  · show Geo.mk 4 g.layout 0 _ _ [] [] = g
    rw [← fe,show (g.flat.length:Int).toNat = g.flat.length by omega,List.take_length,List.take_length]
    have:=eta g
    rw [e,h.s,gf.noss (by omega),gf.kids] at this
    exact this
theorem law5 {g:Geo} (h:Got (N:=N) g) (e:g.kind = 5):laws_FnPushAll_j1 N g = some true:=by
  obtain ⟨gf,l1⟩:=(GC_iff.1 h.c).plain (by omega)
  have bd:=bd_of h.w
  obtain ⟨sz,_⟩:=sz_of h.w
  have z1:=sz.ends
  have z2:=sz.flat
  have b1:=bd.flat
  have b2:=bd.ends
  have hc:=gf.parts (.inr (.inr e))
  have fe:(g.flat.length:Int) = atd 0 g.ends g.ends.length:=(chain_end hc).symm
  have st:∀ i,(hi:i < g.ends.length)→0 ≤ atd 0 g.ends i ∧ atd 0 g.ends i ≤ atd 0 g.ends (i + 1) ∧ atd 0 g.ends (i + 1) ≤ g.flat.length ∧ atd 0 g.ends (i + 1) = g.ends[i]:=fun i hi=>by
    have p1:=chain_at i hc (by omega)
    have p2:=chain_step i hi hc
    have p3:=chain_at (i + 1) hc (by omega)
    have p4:=atd_succ g.ends 0 i hi
    exact ⟨p1.1,by rw [p4]; exact p2,p3.2.1,p4⟩
  refine core hN hNl (n:=g.ends.length) (fun i=>Geo.mk 5 g.layout 0 (g.flat.take (atd 0 g.ends i).toNat) (g.ends.take i) [] []) (fun i=>Geo.mk 2 g.layout 0 (piece g.flat (atd 0 g.ends i) (atd 0 g.ends (i + 1))) [] [] [])
    ?_ ?_ (fun i hi=>?_) (fun i hi=>?_) ?_ (same hN hNl N g h.d h.w) z1
  · rw [e,new_flat hN hNl l1 gf.pos (.inr (.inr (.inl rfl)))]
    simp [atd_zero]
  · unfold impl_NumParts impl_NumParts_g
    simp only [eta]
    rw [h.geo hN hNl,obj5 e]
    rfl
  · obtain ⟨q1,q2,q3,q4⟩:=st i hi
    unfold impl_Part impl_Part_g
    simp only [eta]
    rw [h.geo hN hNl,obj5 e]
    show ((gogeom_MultiLineString_LineString N (.ptr [.int .i64 g.layout,.int .i64 (strd g.layout),.fl g.flat,.int .i64 g.srid,.il g.ends]) (i:Int)).bind fun v6=>(impl_plain_h N (v6.1.1,v6.1.2.1,v6.1.2.2.1,v6.1.2.2.2.1,())).bind fun v7=>some (v7.1,true)) = _
    rw [line_part hN hNl hi (by omega) q1 (by rw [← q4]; exact q2) (by rw [← q4]; exact q3) l1,← q4]
    simp only [Option.bind_some]
    obtain ⟨z,hz⟩:=plh hN hNl (ly:=g.layout) (s:=strd g.layout) (fl:=piece g.flat (atd 0 g.ends i) (atd 0 g.ends (i + 1))) (by have:=piece_len g.flat (atd 0 g.ends i) (atd 0 g.ends (i + 1)); omega)
    rw [hz]
    rfl
  · obtain ⟨q1,q2,q3,q4⟩:=st i hi
    have cl:=cat_len (fl:=g.flat) q1 q2 q3
    show impl_Push N (Geo.mk 5 g.layout 0 _ _ [] []) (Geo.mk 2 g.layout 0 _ [] [] []) = _
    rw [push5 hN hNl (by rw [← List.length_append]; omega) (by rw [List.length_take]; omega) l1,cl,piece_app q2,q4,take_succ' hi]
  · show Geo.mk 5 g.layout 0 _ _ [] [] = g
    rw [← fe,show (g.flat.length:Int).toNat = g.flat.length by omega,List.take_length,List.take_length]
    have:=eta g
    rw [e,h.s,gf.noss (by omega),gf.kids] at this
    exact this
theorem law6 {g:Geo} (h:Got (N:=N) g) (e:g.kind = 6):laws_FnPushAll_j1 N g = some true:=by
  obtain ⟨gf,l1⟩:=(GC_iff.1 h.c).plain (by omega)
  have bd:=bd_of h.w
  obtain ⟨sz,_⟩:=sz_of h.w
  have z1:=sz.endss
  have z2:=sz.flat
  have b1:=bd.flat
  have b2:=bd.endss
  have b3:=bd.each
  obtain ⟨en0,hc⟩:=gf.multi e
  have fe:(g.flat.length:Int) = at2 0 g.endss g.endss.length:=(chain2_end hc).symm
  have st:∀ i,(hi:i < g.endss.length)→0 ≤ at2 0 g.endss i ∧ at2 0 g.endss i ≤ at2 0 g.endss (i + 1) ∧ at2 0 g.endss (i + 1) ≤ g.flat.length ∧ Chain (strd g.layout) (at2 0 g.endss i) g.endss[i] (at2 0 g.endss (i + 1)):=fun i hi=>by
    obtain ⟨p1,p2,p3⟩:=chain2_part i hi hc
    exact ⟨p2,p1.le,p3,p1⟩
  refine core hN hNl (n:=g.endss.length) (fun i=>Geo.mk 6 g.layout 0 (g.flat.take (at2 0 g.endss i).toNat) [] (g.endss.take i) []) (fun i=>Geo.mk 3 g.layout 0 (piece g.flat (at2 0 g.endss i) (at2 0 g.endss (i + 1))) ((g.endss.getD i []).map fun x=>x - at2 0 g.endss i) [] [])
    ?_ ?_ (fun i hi=>?_) (fun i hi=>?_) ?_ (same hN hNl N g h.d h.w) z1
  · rw [e,new_flat hN hNl l1 gf.pos (.inr (.inr (.inr rfl)))]
    simp [at2_zero]
  · unfold impl_NumParts impl_NumParts_g
    simp only [eta]
    rw [h.geo hN hNl,obj6 e]
    rfl
  · obtain ⟨q1,q2,q3,q4⟩:=st i hi
    unfold impl_Part impl_Part_g
    simp only [eta]
    rw [h.geo hN hNl,obj6 e]
    show ((gogeom_MultiPolygon_Polygon N (.ptr [.int .i64 g.layout,.int .i64 (strd g.layout),.fl g.flat,.int .i64 g.srid,.ill g.endss]) (i:Int)).bind fun v18=>(impl_plain_k N (v18.1.1,v18.1.2.1,v18.1.2.2.1,v18.1.2.2.2.1,v18.1.2.2.2.2.1,())).bind fun v19=>some (v19.1,true)) = _
    rw [poly_part hN hNl hi (by omega) (fun x hx=>by have:=b3 x hx; omega) (by omega) hc l1]
    simp only [Option.bind_some]
    obtain ⟨z,hz⟩:=plk hN hNl (ly:=g.layout) (s:=strd g.layout) (fl:=piece g.flat (at2 0 g.endss i) (at2 0 g.endss (i + 1))) (en:=g.endss[i].map fun x=>x - at2 0 g.endss i) (by have:=piece_len g.flat (at2 0 g.endss i) (at2 0 g.endss (i + 1)); omega) (by rw [List.length_map]; exact b3 _ (List.getElem_mem hi))
    rw [hz,gd hi]
    rfl
  · obtain ⟨q1,q2,q3,q4⟩:=st i hi
    have cl:=cat_len (fl:=g.flat) q1 q2 q3
    have fl:((g.flat.take (at2 0 g.endss i).toNat).length:Int) = at2 0 g.endss i:=by rw [List.length_take]; omega
    show impl_Push N (Geo.mk 6 g.layout 0 _ [] _ []) (Geo.mk 3 g.layout 0 _ _ [] []) = _
    rw [gd hi,push6 hN hNl (by rw [← List.length_append]; omega) (by rw [List.length_take]; omega) (fun x hx=>b3 x (List.mem_of_mem_take hx)) (by rw [List.length_map]; exact b3 _ (List.getElem_mem hi)) l1
      (fun x hx=>by
        obtain ⟨y,hy,rfl⟩:=List.mem_map.1 hx
        have:=chain_mem q4 y hy
        omega)
      (fun hx=>by
        have h0:g.endss[i] = []:=List.map_eq_nil_iff.1 hx
        rw [h0] at q4
        simp only [Chain] at q4
        rw [← q4,piece_nil]),piece_app q2,fl,List.map_map]
    have:(g.endss[i].map ((fun x=>x + at2 0 g.endss i) ∘ fun x=>x - at2 0 g.endss i)) = g.endss[i]:=by
      conv=>rhs; rw [← List.map_id g.endss[i]]
      apply List.map_congr_left
      intro x _
      simp
    rw [this,take_succ' hi]
  · show Geo.mk 6 g.layout 0 _ [] _ [] = g
    rw [← fe,show (g.flat.length:Int).toNat = g.flat.length by omega,List.take_length,List.take_length]
    have:=eta g
    rw [e,h.s,en0,gf.kids] at this
    exact this
theorem law7 {g:Geo} (h:Got (N:=N) g) (e:g.kind = 7) (hly:g.layout = 0):laws_FnPushAll_j1 N g = some true:=by
  have q:=GC_iff.1 h.c
  obtain ⟨_,f0,en0,es0⟩:=q.coll e
  have bd:=bd_of h.w
  obtain ⟨sz,hk⟩:=sz_of h.w
  have z1:=sz.kids
  have b1:=bd.kids
  have kg:=q.kid e
  have hdk:∀ k ∈ g.kids,dep k ≤ N:=fun k hm=>by have:=dep_kid hm; have:=h.d; omega
  have nil1:wfG (Geo.mk 7 0 0 [] [] [] []):=by
    have imin:IntKind.i64.min = -9223372036854775808:=by decide
    have imax:IntKind.i64.max = 9223372036854775807:=by decide
    simp [wfG,wfGs,fits,imin,imax]
  have nil2:GC (Geo.mk 7 0 0 [] [] [] []):=by simp [GC,GCs]
  have nil3:dep (Geo.mk 7 0 0 [] [] [] []) ≤ N:=by simp only [dep,deps]; omega
  refine core hN hNl (n:=g.kids.length) (fun i=>Geo.mk 7 0 0 [] [] [] (g.kids.take i)) (fun i=>g.kids.getD i g)
    ?_ ?_ (fun i hi=>?_) (fun i hi=>?_) ?_ (same hN hNl N g h.d h.w) z1
  · rw [e,hly]
    unfold impl_New impl_New_g
    simp only [eta]
    rw [PvMkPA.geometry hN hNl N _ nil3 nil3 nil1 nil2]
    simp only [Option.bind_some]
    rw [plain_ok hN hNl N _ nil3 nil1 nil2]
    rfl
  · unfold impl_NumParts impl_NumParts_g
    simp only [eta]
    rw [h.geo hN hNl,obj7 e]
    show some (((objs g.kids).length:Int),true) = _
    rw [objs_len]
  · unfold impl_Part impl_Part_g
    simp only [eta]
    rw [h.geo hN hNl,obj7 e]
    show (((nth (objs g.kids) (i:Int)).bind fun v5=>some v5).bind fun v22=>(impl_plain N N v22).bind fun v23=>some (v23,true)) = _
    rw [nth_objs hi]
    simp only [Option.bind_some]
    have hm:=List.getElem_mem hi
    rw [plain_ok hN hNl N g.kids[i] (hdk _ hm) (hk _ hm) (kg _ hm).1,gd hi]
    rfl
  · rw [gd hi]
    have sub:∀ k ∈ g.kids.take i ++ [g.kids[i]],k ∈ g.kids:=fun k hm=>by
      rw [take_succ' hi] at hm
      exact List.mem_of_mem_take hm
    show impl_Push N (Geo.mk 7 0 0 [] [] [] _) _ = _
    rw [push7 hN hNl (by rw [List.length_take]; omega) (fun k hm=>hdk k (sub k hm)) (fun k hm=>hk k (sub k hm)) (fun k hm=>(kg k (sub k hm)).1),take_succ' hi]
  · show Geo.mk 7 0 0 [] [] [] _ = g
    rw [List.take_length]
    have:=eta g
    rw [e,h.s,hly,f0,en0,es0] at this
    exact this
/-- The law. -/
theorem law (g:Geo) (hd:dep g ≤ N) (hw:wfG g):laws_FnPushAll N g = some true:=by
  have j0:laws_FnPushAll_j0 N g = some true:=by unfold laws_FnPushAll_j0 laws_FnPushAll_g0; rw [gate_pos hN]
  unfold laws_FnPushAll laws_FnPushAll_g
  rw [eta]
  obtain ⟨b,hb,_⟩:=fits2 hN hNl g hw
  rw [hb]
  simp only [Option.bind_some]
  cases b with
  | false=>rfl
  | true =>
    simp only [Bool.not_true,cond_false]
    obtain ⟨b2,hb2,_⟩:=gGood_one hN hNl g hd hw
    unfold laws_gHasParts laws_gHasParts_g
    rw [eta,hb2]
    simp only [Option.bind_some]
    cases b2 with
    | false=>simp only [cond_false,Option.bind_some,Bool.not_false,cond_true]; exact j0
    | true =>
      have hg:=gGood_all hN hNl g hd hw hb2
      simp only [cond_true]
      cases k3:decide ((g.kind:Int) ≥ 3) with
      | false=>simp only [cond_false,Option.bind_some,Bool.not_false,cond_true]; exact j0
      | true =>
        simp only [cond_true,Option.bind_some]
        cases k7:decide ((g.kind:Int) ≤ 7) with
        | false=>simp only [Bool.not_false,cond_true]; exact j0
        | true =>
          simp only [Bool.not_true,cond_false]
          simp only [decide_eq_true_eq] at k3 k7
          cases s0:g.srid != 0 with
          | true=>simp only [cond_true]; exact j0
          | false =>
            have hs:g.srid = 0:=by simpa using s0
            simp only [cond_false,gate_pos hN]
            have got:Got (N:=N) g:=⟨hw,hd,hg,hs⟩
            cases e7:g.kind == 7 with
            | true =>
              have e:g.kind = 7:=by simpa using e7
              simp only [cond_true]
              cases l0:g.layout != 0 with
              | true=>rfl
              | false =>
                simp only [cond_false]
                exact law7 hN hNl got e (by simpa using l0)
            | false =>
              have e:g.kind ≠ 7:=by simpa using e7
              simp only [cond_false]
              have:g.kind = 3 ∨ g.kind = 4 ∨ g.kind = 5 ∨ g.kind = 6:=by omega
              rcases this with e | e | e | e
              · exact law3 hN hNl got e
              · exact law4 hN hNl got e
              · exact law5 hN hNl got e
              · exact law6 hN hNl got e
end
end Go.Proofs.YtmjcojdafeaiaaaGreat.PvPA
