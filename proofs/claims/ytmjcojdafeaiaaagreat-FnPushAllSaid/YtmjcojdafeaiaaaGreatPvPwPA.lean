/- Parts of a geometry,and a geometry with one part more: polygons,geometries. -/
import Derived.Test.YtmjcojdafeaiaaaGreatPvPuPA
set_option linter.unusedVariables false
set_option linter.unusedSectionVars false
set_option linter.unusedSimpArgs false
namespace Go.Proofs.YtmjcojdafeaiaaaGreat.PvPwPA
open Go.Av Go
open Go.Proofs.YtmjcojdafeaiaaaGreat.PA
open Go.Proofs.YtmjcojdafeaiaaaGreat.PvGeoPA
open Go.Proofs.YtmjcojdafeaiaaaGreat.PvObjPA
open Go.Proofs.YtmjcojdafeaiaaaGreat.PvMkPA
open Go.Proofs.YtmjcojdafeaiaaaGreat.PvPlPA
open Go.Proofs.YtmjcojdafeaiaaaGreat.PvPuPA
/-- The end of all that lies ahead of the i-th list. -/
def at2:Int→List (List Int)→Nat→Int
  | a,_,0=>a
  | a,[],_ + 1=>a
  | a,l :: r,i + 1=>at2 (atd a l l.length) r i
theorem at2_zero (a:Int) (l:List (List Int)):at2 a l 0 = a:=by cases l <;> rfl
theorem at2_succ:∀ (L:List (List Int)) (a:Int) (i:Nat) (h:i < L.length),at2 a L (i + 1) = atd (at2 a L i) L[i] L[i].length
  | [],_,_,h=>by simp at h
  | l :: r,a,0,h=>by simp only [at2,at2_zero,List.getElem_cons_zero]
  | l :: r,a,i + 1,h=>by simp only [at2,List.getElem_cons_succ]; exact at2_succ r _ i (by simpa using h)
theorem chain2_part {s:Int}:∀ {L:List (List Int)} {a b:Int} (i:Nat) (h:i < L.length),Chain2 s a L b→Chain s (at2 a L i) L[i] (at2 a L (i + 1)) ∧ a ≤ at2 a L i ∧ at2 a L (i + 1) ≤ b
  | [],a,b,i,h,_=>by simp at h
  | l :: r,a,b,0,h,hc=>by
    simp only [Chain2] at hc
    obtain ⟨c,h1,h2⟩:=hc
    have e:=chain_end h1
    simp only [at2,at2_zero,List.getElem_cons_zero,e]
    refine ⟨h1,Int.le_refl _,?_⟩
    clear h1 e
    induction r generalizing c with
    | nil=>simp only [Chain2] at h2; omega
    | cons x r ih =>
      simp only [Chain2] at h2
      obtain ⟨d,h3,h4⟩:=h2
      have:=ih (by simp) d h4
      have:=h3.le
      omega
  | l :: r,a,b,i + 1,h,hc=>by
    simp only [Chain2] at hc
    obtain ⟨c,h1,h2⟩:=hc
    have e:=chain_end h1
    obtain ⟨p1,p2,p3⟩:=chain2_part i (by simpa using h) h2
    simp only [at2,List.getElem_cons_succ,e]
    have:=h1.le
    exact ⟨p1,by omega,p3⟩
theorem chain2_end {s:Int}:∀ {L:List (List Int)} {a b:Int},Chain2 s a L b→at2 a L L.length = b
  | [],a,b,h=>by simpa [Chain2,at2] using h
  | l :: r,a,b,h=>by
    simp only [Chain2] at h
    obtain ⟨c,h1,h2⟩:=h
    simp only [at2,List.length_cons,chain_end h1]
    exact chain2_end h2
theorem set_step {l:List Int} {F:Int→Int} {k:Nat} (h:k < l.length):((l.take k).map F ++ List.replicate (l.length - k) 0).set k (F l[k]) = (l.take (k + 1)).map F ++ List.replicate (l.length - (k + 1)) 0:=by
  have hl:((l.take k).map F).length = k:=by rw [List.length_map,List.length_take]; omega
  rw [List.set_append_right _ _ (by omega),hl,Nat.sub_self,show l.length - k = (l.length - (k + 1)) + 1 by omega,List.replicate_succ,List.set_cons_zero,List.take_add_one,List.getElem?_eq_getElem h,List.map_append]
  simp
/-- A row that is filled. -/
theorem fill {R:Type} {l:List Int} {F:Int→Int} {L:Nat→Int→List Int→Option R} {fin:List Int→Option R} (hend:∀ n st,L (n + 1) (l.length:Int) st = fin st)
    (hstep:∀ n i st (h:i < l.length),st.length = l.length→L (n + 1) (i:Int) st = L n ((i + 1:Nat):Int) (st.set i (F l[i]))) (N:Nat) (hn:l.length + 1 ≤ N):L N 0 (List.replicate l.length 0) = fin (l.map F):=by
  rcases stateLoop0 (xs:=l) (L:=L) (e:=fun _=>False) (fin:=fin) (fun i st=>st = (l.take i).map F ++ List.replicate (l.length - i) 0)
    (fun n st _=>hend n st)
    (fun n i st hi hp=>by
      right
      refine ⟨_,hstep n i st hi (by subst hp; rw [List.length_append,List.length_map,List.length_take,List.length_replicate]; omega),?_⟩
      subst hp
      exact set_step hi) N (List.replicate l.length 0) hn (by simp) with h | ⟨st,h,hp⟩
  · exact h.elim
  · rw [h,hp,List.take_length,Nat.sub_self]
    simp
section
variable {N:Nat} (hN:0 < N) (hNl:9223372036854775808 ≤ N)
include hN hNl
theorem poly_off {ly s sr:Int} {fl:List Nat} {L:List (List Int)} {i:Nat} (hL:L.length ≤ 140737488351232) (hx:∀ x ∈ L,x.length ≤ 140737488351232):∀ (k n:Nat),k ≤ L.length→k + 1 ≤ n →
    gogeom_MultiPolygon_Polygon_l0 N n (.ptr [.int .i64 ly,.int .i64 s,.fl fl,.int .i64 sr,.ill L]) (i:Int) ((k:Int) - 1) = gogeom_MultiPolygon_Polygon_j1 N (.ptr [.int .i64 ly,.int .i64 s,.fl fl,.int .i64 sr,.ill L]) (i:Int) (at2 0 L k)
  | 0,n,hk,hn=>by
    obtain ⟨n,rfl⟩:∃ m,n = m + 1:=⟨n - 1,by omega⟩
    rw [at2_zero]
    rfl
  | k + 1,n,hk,hn=>by
    obtain ⟨n,rfl⟩:∃ m,n = m + 1:=⟨n - 1,by omega⟩
    have hi:k < L.length:=by omega
    have ih:=poly_off (ly:=ly) (s:=s) (sr:=sr) (fl:=fl) (i:=i) hL hx k n (by omega) (by omega)
    have hlk:=hx _ (List.getElem_mem hi)
    rw [show ((k + 1:Nat):Int) - 1 = (k:Int) by omega]
    show (bif decide ((k:Int) ≥ 0) then (nth L (k:Int)).bind fun v16=>bif decide ((v16.length:Int) > 0) then (nth v16 (IntKind.i64.wrap ((v16.length:Int) - 1))).bind fun v17=>gogeom_MultiPolygon_Polygon_j1 N (.ptr [.int .i64 ly,.int .i64 s,.fl fl,.int .i64 sr,.ill L]) (i:Int) v17 else gogeom_MultiPolygon_Polygon_l0 N n (.ptr [.int .i64 ly,.int .i64 s,.fl fl,.int .i64 sr,.ill L]) (i:Int) (IntKind.i64.wrap ((k:Int) - 1)) else gogeom_MultiPolygon_Polygon_j1 N (.ptr [.int .i64 ly,.int .i64 s,.fl fl,.int .i64 sr,.ill L]) (i:Int) 0) = _
    rw [show decide ((k:Int) ≥ 0) = true by simp only [decide_eq_true_eq]; omega,cond_true,nth_get hi]
    simp only [Option.bind_some]
    rw [at2_succ L 0 k hi]
    cases hb:decide ((L[k].length:Int) > 0) with
    | true =>
      simp only [decide_eq_true_eq] at hb
      rw [cond_true,wrap_in (by omega),show (L[k].length:Int) - 1 = ((L[k].length - 1:Nat):Int) by omega,nth_get (by omega)]
      simp only [Option.bind_some]
      have:=atd_succ L[k] (at2 0 L k) (L[k].length - 1) (by omega)
      rw [show L[k].length - 1 + 1 = L[k].length by omega] at this
      rw [this]
    | false =>
      simp only [decide_eq_false_iff_not] at hb
      have h0:L[k] = []:=List.length_eq_zero_iff.1 (by omega)
      rw [cond_false,wrap_in (by omega),ih,h0]
      simp only [List.length_nil,atd_zero]
theorem poly_part {ly s sr s0:Int} {fl:List Nat} {L:List (List Int)} {i:Nat} (hi:i < L.length) (hL:L.length ≤ 140737488351232) (hx:∀ x ∈ L,x.length ≤ 17592186044416) (hf:fl.length ≤ 140737488351232) (hc:Chain2 s0 0 L fl.length) (l1:1 ≤ ly) :
    gogeom_MultiPolygon_Polygon N (.ptr [.int .i64 ly,.int .i64 s,.fl fl,.int .i64 sr,.ill L]) (i:Int) = some ((ly,strd ly,piece fl (at2 0 L i) (at2 0 L (i + 1)),0,L[i].map (fun e=>e - at2 0 L i),()),()):=by
  have hlk:=hx _ (List.getElem_mem hi)
  obtain ⟨c1,c2,c3⟩:=chain2_part i hi hc
  have c4:=c1.le
  unfold gogeom_MultiPolygon_Polygon
  show ((nth L (i:Int)).bind fun v5=>bif ((v5.length:Int) == 0) then (gogeom_NewPolygon N ly).bind fun v8=>some ((v8.1.1,v8.1.2.1,v8.1.2.2.1,v8.1.2.2.2.1,v8.1.2.2.2.2.1,()),()) else gogeom_MultiPolygon_Polygon_l0 N N _ (i:Int) (IntKind.i64.wrap ((i:Int) - 1))) = _
  rw [nth_get hi]
  simp only [Option.bind_some]
  cases hb:((L[i].length:Int) == 0) with
  | true =>
    have h0:L[i] = []:=List.length_eq_zero_iff.1 (by have:(L[i].length:Int) = 0:=(by simpa using hb); omega)
    rw [cond_true,at2_succ L 0 i hi,h0]
    simp only [List.length_nil,atd_zero,piece_nil,List.map_nil]
    unfold gogeom_NewPolygon gogeom_NewPolygon_g gogeom_NewPolygonFlat gogeom_NewPolygonFlat_g
    rw [stride_geom N ly l1]
    rfl
  | false =>
    have hne:0 < L[i].length:=by
      have:¬ (L[i].length:Int) = 0:=by simpa using hb
      omega
    rw [cond_false,wrap_in (by omega),poly_off hN hNl hL (fun x hm=>by have:=hx x hm; omega) i N (by omega) (by omega)]
    have last:L[i][L[i].length - 1]'(by omega) = at2 0 L (i + 1):=by
      have:=atd_succ L[i] (at2 0 L i) (L[i].length - 1) (by omega)
      rw [show L[i].length - 1 + 1 = L[i].length by omega] at this
      rw [← this,at2_succ L 0 i hi]
    have j3:∀ en,gogeom_MultiPolygon_Polygon_j3 N (.ptr [.int .i64 ly,.int .i64 s,.fl fl,.int .i64 sr,.ill L]) (i:Int) (at2 0 L i) en = some ((ly,strd ly,piece fl (at2 0 L i) (at2 0 L (i + 1)),0,en,()),()):=by
      intro en
      unfold gogeom_MultiPolygon_Polygon_j3
      rw [gate_pos hN]
      show ((nth L (i:Int)).bind fun v42=>(nth L (i:Int)).bind fun v45=>(nth v42 (IntKind.i64.wrap ((v45.length:Int) - 1))).bind fun v46=>(chk2 (at2 0 L i) v46 fl.length).bind fun v47=>(gogeom_NewPolygonFlat_b N ly ((fl.drop v47.1).take (v47.2 - v47.1)) en).bind fun v48=>some ((v48.1.1,v48.1.2.1,v48.1.2.2.1,v48.1.2.2.2.1,v48.1.2.2.2.2.1,()),())) = _
      rw [nth_get hi]
      simp only [Option.bind_some]
      rw [wrap_in (by omega),show (L[i].length:Int) - 1 = ((L[i].length - 1:Nat):Int) by omega,nth_get (by omega),last]
      simp only [Option.bind_some]
      rw [chk2_int ⟨c2,c4,c3⟩]
      unfold gogeom_NewPolygonFlat_b gogeom_NewPolygonFlat_b_g
      rw [stride_geom N ly l1]
      rfl
    unfold gogeom_MultiPolygon_Polygon_j1
    rw [gate_pos hN]
    show ((nth L (i:Int)).bind fun v21=>(mkn (v21.length:Int) (v21.length:Int) 8).bind fun v22=>bif (at2 0 L i == 0) then (nth L (i:Int)).bind fun v25=>gogeom_MultiPolygon_Polygon_j3 N _ (i:Int) (at2 0 L i) (v25.take (List.replicate v22 (0:Int)).length ++ (List.replicate v22 (0:Int)).drop v25.length) else (nth L (i:Int)).bind fun v28=>gogeom_MultiPolygon_Polygon_l2 N N _ (i:Int) (at2 0 L i) v28 0 (List.replicate v22 (0:Int))) = _
    rw [nth_get hi]
    simp only [Option.bind_some]
    rw [mkn_ok (by omega) (by omega) (by omega) (by omega)]
    simp only [Option.bind_some]
    rw [show (L[i].length:Int).toNat = L[i].length by omega]
    cases hz:at2 0 L i == 0 with
    | true =>
      have z:at2 0 L i = 0:=by simpa using hz
      rw [cond_true,j3,List.length_replicate,List.take_length,List.drop_of_length_le (by rw [List.length_replicate]; omega),List.append_nil,z]
      simp
    | false =>
      rw [cond_false]
      rw [fill (l:=L[i]) (F:=fun e=>e - at2 0 L i) (L:=fun n k st=>gogeom_MultiPolygon_Polygon_l2 N n (.ptr [.int .i64 ly,.int .i64 s,.fl fl,.int .i64 sr,.ill L]) (i:Int) (at2 0 L i) L[i] k st) (fin:=fun st=>gogeom_MultiPolygon_Polygon_j3 N (.ptr [.int .i64 ly,.int .i64 s,.fl fl,.int .i64 sr,.ill L]) (i:Int) (at2 0 L i) st)
        (fun n st=>by
          simp only [gogeom_MultiPolygon_Polygon_l2,gogeom_MultiPolygon_Polygon_g2,Bool.cond_decide]
          rw [if_neg (Int.lt_irrefl _)])
        (fun n k st hk hst=>by
          have p1:=chain_step k hk c1
          have p2:=chain_at k c1 (by omega)
          have p3:=chain_at (k + 1) c1 (by omega)
          rw [atd_succ _ _ _ hk] at p3
          simp only [gogeom_MultiPolygon_Polygon_l2,gogeom_MultiPolygon_Polygon_g2,Bool.cond_decide]
          rw [if_pos (by omega),nth_get hk]
          simp only [Option.bind_some]
          rw [chk_nat (by omega)]
          simp only [Option.bind_some]
          rw [succ_in hk (by omega),wrap_in (by omega)]) N (by omega)]
      exact j3 _
theorem push6 {ly:Int} {fl pf:List Nat} {es:List (List Int)} {en:List Int} (h1:(fl.length + pf.length) * 8 ≤ 140737488355328) (h2:(es.length + 1) * 24 ≤ 140737488355328) (h3:∀ x ∈ es,x.length * 8 ≤ 140737488355328) (h4:en.length * 8 ≤ 140737488355328) (l1:1 ≤ ly)
    (hr:∀ e ∈ en,-140737488355328 ≤ e ∧ e ≤ 140737488355328) (hp:en = []→pf = []) :
    impl_Push N (Geo.mk 6 ly 0 fl [] es []) (Geo.mk 3 ly 0 pf en [] []) = some (Geo.mk 6 ly 0 (fl ++ pf) [] (es ++ [en.map fun e=>e + (fl.length:Int)]) [],true):=by
  obtain ⟨M,hM⟩:∃ M,N = M + 1:=⟨N - 1,by omega⟩
  unfold impl_Push impl_Push_g
  simp only [eta]
  rw [gb6 hN hNl (by omega) (by omega) h3 l1]
  simp only [Option.bind_some,Sum.elim_inr,Sum.elim_inl]
  have geo:impl_geometry N N (Geo.mk 3 ly 0 pf en [] []) = some (obj (Geo.mk 3 ly 0 pf en [] []),()):=by
    conv=>lhs; arg 2; rw [hM]
    exact geo_flat hN hNl M ⟨by show pf.length * 8 ≤ _; omega,h4,Nat.le_of_lt (show 0 < 140737488355328 by decide),(fun x hx=>by cases hx),Nat.le_of_lt (show 0 < 140737488351232 by decide)⟩ l1 (fun h=>by cases h) (.inr (.inr (.inr (.inl rfl))))
  rw [geo,obj3 rfl]
  show ((gogeom_MultiPolygon_Push N (ly,strd ly,fl,0,es,()) (.ptr [.int .i64 ly,.int .i64 (strd ly),.fl pf,.int .i64 0,.il en])).bind _) = _
  have j1:∀ x,gogeom_MultiPolygon_Push_j1 N (.ptr [.int .i64 ly,.int .i64 (strd ly),.fl pf,.int .i64 0,.il en]) (ly,strd ly,fl,0,es,()) x = some (Sum.inr ((),(ly,strd ly,fl ++ pf,0,es ++ [x],()),())):=by
    intro x
    unfold gogeom_MultiPolygon_Push_j1
    rw [gate_pos hN]
    show ((lim ((fl.length + pf.length) * 8)).bind fun _=>(lim ((es.length + 1) * 24)).bind fun _=>some (Sum.inr ((),(ly,strd ly,fl ++ pf,0,es ++ [x],()),()))) = _
    rw [lim_le h1,lim_le h2]
    rfl
  have pu:gogeom_MultiPolygon_Push N (ly,strd ly,fl,0,es,()) (.ptr [.int .i64 ly,.int .i64 (strd ly),.fl pf,.int .i64 0,.il en]) = some (Sum.inr ((),(ly,strd ly,fl ++ pf,0,es ++ [en.map fun e=>e + (fl.length:Int)],()),())):=by
    unfold gogeom_MultiPolygon_Push
    show (bif (ly != ly) then _ else (bif decide (((en.length:Int):Int) > 0) then (mkn (en.length:Int) (en.length:Int) 8).bind fun v11=>bif ((fl.length:Int) == 0) then gogeom_MultiPolygon_Push_j1 N _ (ly,strd ly,fl,0,es,()) (en.take (List.replicate v11 (0:Int)).length ++ (List.replicate v11 (0:Int)).drop en.length) else
      gogeom_MultiPolygon_Push_l0 N N _ (ly,strd ly,fl,0,es,()) ((((ly,(strd ly,(pf,(0,())))),()),(en,())),()) 0 (List.replicate v11 (0:Int)) else gate N ((lim ((fl.length + pf.length) * 8)).bind fun _=>(lim ((es.length + 1) * 24)).bind fun _=>some (Sum.inr ((),(ly,strd ly,fl ++ pf,0,es ++ [[]],()),()))))) = _
    rw [bne_self_eq_false,cond_false]
    cases hb:decide (((en.length:Int):Int) > 0) with
    | false =>
      simp only [decide_eq_false_iff_not] at hb
      have h0:en = []:=List.length_eq_zero_iff.1 (by omega)
      rw [cond_false,gate_pos hN,lim_le h1,lim_le h2,h0]
      rfl
    | true =>
      simp only [decide_eq_true_eq] at hb
      rw [cond_true,mkn_ok (by omega) (by omega) (by omega) (by omega)]
      simp only [Option.bind_some]
      rw [show (en.length:Int).toNat = en.length by omega]
      cases hz:((fl.length:Int) == 0) with
      | true =>
        have z:(fl.length:Int) = 0:=by simpa using hz
        rw [cond_true,j1,List.length_replicate,List.take_length,List.drop_of_length_le (by rw [List.length_replicate]; omega),List.append_nil,z]
        simp
      | false =>
        rw [cond_false]
        rw [fill (l:=en) (F:=fun e=>e + (fl.length:Int)) (L:=fun n k st=>gogeom_MultiPolygon_Push_l0 N n (.ptr [.int .i64 ly,.int .i64 (strd ly),.fl pf,.int .i64 0,.il en]) (ly,strd ly,fl,0,es,()) ((((ly,(strd ly,(pf,(0,())))),()),(en,())),()) k st)
          (fin:=fun st=>gogeom_MultiPolygon_Push_j1 N (.ptr [.int .i64 ly,.int .i64 (strd ly),.fl pf,.int .i64 0,.il en]) (ly,strd ly,fl,0,es,()) st)
          (fun n st=>by
            simp only [gogeom_MultiPolygon_Push_l0,gogeom_MultiPolygon_Push_g0,Bool.cond_decide]
            rw [if_neg (Int.lt_irrefl _)])
          (fun n k st hk hst=>by
            have hr:=hr _ (List.getElem_mem hk)
            simp only [gogeom_MultiPolygon_Push_l0,gogeom_MultiPolygon_Push_g0,Bool.cond_decide]
            rw [if_pos (by omega),nth_get hk]
            simp only [Option.bind_some]
            rw [chk_nat (by omega)]
            simp only [Option.bind_some]
            rw [succ_in hk (by omega),wrap_in (by omega)]) N (by omega)]
        exact j1 _
  rw [pu]
  simp only [Option.bind_some,Sum.elim_inr]
  rw [pl6 hN hNl (by rw [List.length_append]; exact h1) (by rw [List.length_append]; exact h2) (fun x hx=>by
    rcases List.mem_append.1 hx with h | h
    · exact h3 x h
    · simp only [List.mem_singleton] at h; subst h; rw [List.length_map]; exact h4)]
  rfl
/-! ### collections -/
theorem gb7 {ks:List Geo} (hl:ks.length * 120 ≤ 140737488351232) (hd:∀ k ∈ ks,dep k ≤ N) (hw:∀ k ∈ ks,wfG k) (hg:∀ k ∈ ks,GC k) :
    impl_geometry_b N (Geo.mk 7 0 0 [] [] [] ks) = some (.inr (.inr (.inr (.inr (.inr (.inr (.inr ((0,objs ks,0,()),())))))))):=by
  unfold impl_geometry_b impl_geometry_b_g
  rw [floats_eq (l:=(Geo.mk 7 0 0 [] [] [] ks).flat) (Nat.le_of_lt (show 0 < 140737488355328 by decide))]
  show impl_geometry_b_l0 N N (Geo.mk 7 0 0 [] [] [] ks) 0 0 0 [] = _
  rcases stateLoop0 (xs:=ks) (L:=fun n i st=>impl_geometry_b_l0 N n (Geo.mk 7 0 0 [] [] [] ks) i 0 0 st) (e:=fun _=>False) (fin:=fun _=>some (.inr (.inr (.inr (.inr (.inr (.inr (.inr ((0,objs ks,0,()),()))))))))) (fun i st=>st = objs (ks.take i))
    (fun n st hp=>by
      subst hp
      simp only [impl_geometry_b_l0,impl_geometry_b_g0,Bool.cond_decide]
      rw [if_neg (show ¬ ((ks.length:Int) < ((Geo.mk 7 0 0 [] [] [] ks).kids.length:Int)) from Int.lt_irrefl _),List.take_length]
      unfold gogeom_GeometryCollection_MustSetLayout gogeom_GeometryCollection_MustSetLayout_g gogeom_GeometryCollection_SetLayout gogeom_GeometryCollection_SetLayout_g
      rw [check hN hNl (ly:=(Geo.mk 7 0 0 [] [] [] ks).layout) hd hw (by omega) (fun k hm=>⟨hg k hm,fun h=>absurd rfl h⟩)]
      simp only [Option.bind_some,Sum.elim_inr]
      rfl)
    (fun n i st hi hp=>by
      right
      subst hp
      have hm:=List.getElem_mem hi
      refine ⟨objs (ks.take (i + 1)),?_,rfl⟩
      simp only [impl_geometry_b_l0,impl_geometry_b_g0,Bool.cond_decide,eta]
      rw [if_pos (show (i:Int) < ((Geo.mk 7 0 0 [] [] [] ks).kids.length:Int) by show (i:Int) < (ks.length:Int); omega),show nth (Geo.mk 7 0 0 [] [] [] ks).kids (i:Int) = some ks[i] from nth_get hi]
      simp only [Option.bind_some]
      rw [PvMkPA.geometry hN hNl N ks[i] (hd _ hm) (hd _ hm) (hw _ hm) (hg _ hm)]
      unfold gogeom_GeometryCollection_MustPush gogeom_GeometryCollection_MustPush_g gogeom_GeometryCollection_Push gogeom_GeometryCollection_Push_g gogeom_GeometryCollection_Push_j2 gogeom_GeometryCollection_Push_g2
      have hlen:(objs (ks.take i)).length = i:=by rw [objs_len,List.length_take]; omega
      simp only [Option.bind_some,bne_self_eq_false,cond_false,gate_pos hN]
      rw [lim_le (by rw [hlen,List.length_cons,List.length_nil]; omega)]
      simp only [Option.bind_some,Sum.elim_inr]
      rw [succ_in hi (by omega),List.take_add_one,List.getElem?_eq_getElem hi,objs_app]
      rfl) N [] (by omega) (by simp [objs]) with h2 | ⟨st,h2,_⟩
  · exact h2.elim
  · exact h2
theorem pl7 {ks:List Geo} (hl:ks.length * 120 ≤ 140737488351232) (hd:∀ k ∈ ks,dep k ≤ N) (hw:∀ k ∈ ks,wfG k) (hg:∀ k ∈ ks,GC k):impl_plain_x N (0,objs ks,0,()) = some (Geo.mk 7 0 0 [] [] [] ks,(0,objs ks,0,()),()):=by
  unfold impl_plain_x
  show impl_plain_x_l0 N N (objs ks,(0,objs ks,0,()),()) (0,()) (0,()) 0 [] = _
  rcases stateLoop0 (xs:=ks) (L:=fun n i st=>impl_plain_x_l0 N n (objs ks,(0,objs ks,0,()),()) (0,()) (0,()) i st) (e:=fun _=>False) (fin:=fun st=>some (Geo.mk 7 0 0 [] [] [] st,(0,objs ks,0,()),())) (fun i st=>st = ks.take i)
    (fun n st hp=>by
      simp only [impl_plain_x_l0,impl_plain_x_g0,Bool.cond_decide,objs_len]
      rw [if_neg (Int.lt_irrefl _)])
    (fun n i st hi hp=>by
      right
      subst hp
      have hm:=List.getElem_mem hi
      refine ⟨ks.take (i + 1),?_,rfl⟩
      simp only [impl_plain_x_l0,impl_plain_x_g0,Bool.cond_decide,objs_len]
      rw [if_pos (by omega),nth_objs hi]
      simp only [Option.bind_some]
      rw [plain_ok hN hNl N ks[i] (hd _ hm) (hw _ hm) (hg _ hm)]
      simp only [Option.bind_some]
      rw [lim_le (by simp only [List.length_take,List.length_cons,List.length_nil]; omega),succ_in hi (by omega),List.take_add_one,List.getElem?_eq_getElem hi]
      rfl) N [] (by omega) rfl with h2 | ⟨st,h2,hp⟩
  · exact h2.elim
  · refine h2.trans ?_
    subst hp
    rw [List.take_length]
theorem push7 {ks:List Geo} {p:Geo} (hl:(ks.length + 1) * 120 ≤ 140737488351232) (hd:∀ k ∈ ks ++ [p],dep k ≤ N) (hw:∀ k ∈ ks ++ [p],wfG k) (hg:∀ k ∈ ks ++ [p],GC k) :
    impl_Push N (Geo.mk 7 0 0 [] [] [] ks) p = some (Geo.mk 7 0 0 [] [] [] (ks ++ [p]),true):=by
  have hp:p ∈ ks ++ [p]:=by simp
  have hk:∀ k ∈ ks,k ∈ ks ++ [p]:=fun k hm=>by simp [hm]
  unfold impl_Push impl_Push_g
  simp only [eta]
  rw [gb7 hN hNl (by omega) (fun k hm=>hd k (hk k hm)) (fun k hm=>hw k (hk k hm)) (fun k hm=>hg k (hk k hm))]
  simp only [Option.bind_some,Sum.elim_inr,Sum.elim_inl]
  rw [PvMkPA.geometry hN hNl N p (hd p hp) (hd p hp) (hw p hp) (hg p hp)]
  simp only [Option.bind_some]
  unfold gogeom_GeometryCollection_Push gogeom_GeometryCollection_Push_g gogeom_GeometryCollection_Push_j2 gogeom_GeometryCollection_Push_g2
  simp only [bne_self_eq_false,cond_false,gate_pos hN]
  rw [lim_le (by rw [objs_len,List.length_cons,List.length_nil]; omega)]
  simp only [Option.bind_some,Sum.elim_inr]
  rw [show objs ks ++ [obj p] = objs (ks ++ [p]) by rw [objs_app]; rfl,pl7 hN hNl (by rw [List.length_append]; simpa using hl) hd hw hg]
  rfl
end
end Go.Proofs.YtmjcojdafeaiaaaGreat.PvPwPA
