/- Parts of a geometry,and a geometry with one part more: rings,points,line strings. -/
import Derived.Test.YtmjcojdafeaiaaaGreatPvPlPA
set_option linter.unusedVariables false
set_option linter.unusedSectionVars false
set_option linter.unusedSimpArgs false
namespace Go.Proofs.YtmjcojdafeaiaaaGreat.PvPuPA
open Go.Av Go
open Go.Proofs.YtmjcojdafeaiaaaGreat.PA
open Go.Proofs.YtmjcojdafeaiaaaGreat.PvGeoPA
open Go.Proofs.YtmjcojdafeaiaaaGreat.PvObjPA
open Go.Proofs.YtmjcojdafeaiaaaGreat.PvMkPA
open Go.Proofs.YtmjcojdafeaiaaaGreat.PvPlPA
/-- The end ahead of the i-th. -/
def atd:Int→List Int→Nat→Int
  | a,_,0=>a
  | a,[],_ + 1=>a
  | _,e :: r,i + 1=>atd e r i
theorem atd_zero (a:Int) (l:List Int):atd a l 0 = a:=by cases l <;> rfl
theorem atd_succ:∀ (l:List Int) (a:Int) (i:Nat) (h:i < l.length),atd a l (i + 1) = l[i]
  | [],_,_,h=>by simp at h
  | e :: r,a,0,h=>by simp only [atd,List.getElem_cons_zero]
  | e :: r,a,i + 1,h=>by simp only [atd,List.getElem_cons_succ]; exact atd_succ r e i (by simpa using h)
theorem chain_at {s:Int}:∀ {l:List Int} {a b:Int} (i:Nat),Chain s a l b→i ≤ l.length→a ≤ atd a l i ∧ atd a l i ≤ b ∧ Chain s a (l.take i) (atd a l i)
  | l,a,b,0,h,_=>⟨by simp only [atd]; omega,by simp only [atd]; exact h.le,by simp [Chain,atd]⟩
  | [],a,b,i + 1,h,hi=>by simp at hi
  | e :: r,a,b,i + 1,h,hi=>by
    simp only [Chain] at h
    obtain ⟨p1,p2,p3⟩:=chain_at i h.2.2 (by simpa using hi)
    simp only [atd,List.take_succ_cons,Chain]
    exact ⟨by omega,p2,h.1,h.2.1,p3⟩
theorem chain_step {s:Int}:∀ {l:List Int} {a b:Int} (i:Nat) (hi:i < l.length),Chain s a l b→atd a l i ≤ l[i]
  | [],a,b,i,hi,h=>by simp at hi
  | e :: r,a,b,0,hi,h=>by simp only [Chain] at h; simp only [atd,List.getElem_cons_zero]; exact h.1
  | e :: r,a,b,i + 1,hi,h=>by
    simp only [Chain] at h
    simp only [atd,List.getElem_cons_succ]
    exact chain_step i (by simpa using hi) h.2.2
theorem chain_end {s:Int}:∀ {l:List Int} {a b:Int},Chain s a l b→atd a l l.length = b
  | [],a,b,h=>by simpa [Chain,atd] using h
  | e :: r,a,b,h=>by simp only [Chain] at h; simp only [atd,List.length_cons]; exact chain_end h.2.2
/-- A piece of a row. -/
def piece (fl:List Nat) (o e:Int):List Nat:=(fl.drop o.toNat).take (e.toNat - o.toNat)
theorem piece_app {fl:List Nat} {o e:Int} (h:o ≤ e):fl.take o.toNat ++ piece fl o e = fl.take e.toNat:=by
  unfold piece
  rw [← List.take_add]
  congr 1
  omega
theorem piece_len (fl:List Nat) (o e:Int):(piece fl o e).length ≤ fl.length:=by
  unfold piece; rw [List.length_take,List.length_drop]; omega
theorem piece_nil {fl:List Nat} {o:Int}:piece fl o o = []:=by unfold piece; rw [Nat.sub_self,List.take_zero]
theorem cat_len {fl:List Nat} {o e:Int} (h0:0 ≤ o) (h:o ≤ e) (h2:e ≤ fl.length):((fl.take o.toNat ++ piece fl o e).length:Int) = e:=by
  rw [piece_app h,List.length_take]; omega
theorem bd_one {kd ly:Int} {pf:List Nat} (h:pf.length * 8 ≤ 140737488355328):Bd (Geo.mk kd ly 0 pf [] [] []) :=
  ⟨h,Nat.le_of_lt (show 0 < 140737488355328 by decide),Nat.le_of_lt (show 0 < 140737488355328 by decide),(fun x hx=>by cases hx),Nat.le_of_lt (show 0 < 140737488351232 by decide)⟩
section
variable {N:Nat} (hN:0 < N) (hNl:9223372036854775808 ≤ N)
include hN hNl
/-! ### parts -/
theorem ring_part {ly s sr:Int} {fl:List Nat} {en:List Int} {i:Nat} (hi:i < en.length) (hl:en.length ≤ 140737488351232) (h0:0 ≤ atd 0 en i) (h1:atd 0 en i ≤ en[i]) (h2:en[i] ≤ fl.length) (l1:1 ≤ ly) :
    gogeom_Polygon_LinearRing N (.ptr [.int .i64 ly,.int .i64 s,.fl fl,.int .i64 sr,.il en]) (i:Int) = some ((ly,strd ly,piece fl (atd 0 en i) en[i],0,()),()):=by
  have j:gogeom_Polygon_LinearRing_j0 N (.ptr [.int .i64 ly,.int .i64 s,.fl fl,.int .i64 sr,.il en]) (i:Int) (atd 0 en i) = some ((ly,strd ly,piece fl (atd 0 en i) en[i],0,()),()):=by
    unfold gogeom_Polygon_LinearRing_j0
    rw [gate_pos hN]
    show ((nth en (i:Int)).bind fun e=>(chk2 (atd 0 en i) e fl.length).bind fun p=>(gogeom_NewLinearRingFlat_b N ly ((fl.drop p.1).take (p.2 - p.1))).bind fun v15=>some ((v15.1.1,v15.1.2.1,v15.1.2.2.1,v15.1.2.2.2.1,()),())) = _
    rw [nth_get hi]
    simp only [Option.bind_some]
    rw [chk2_int ⟨h0,h1,h2⟩]
    unfold gogeom_NewLinearRingFlat_b gogeom_NewLinearRingFlat_b_g
    rw [stride_geom N ly l1]
    rfl
  unfold gogeom_Polygon_LinearRing gogeom_Polygon_LinearRing_g
  cases i with
  | zero=>rw [atd_zero] at j ⊢; exact j
  | succ k =>
    rw [show decide (((k + 1:Nat):Int) > 0) = true by simp only [decide_eq_true_eq]; omega,cond_true]
    show ((nth en (IntKind.i64.wrap (((k + 1:Nat):Int) - 1))).bind fun v5=>gogeom_Polygon_LinearRing_j0 N _ ((k + 1:Nat):Int) v5) = _
    rw [wrap_in (by omega),show ((k + 1:Nat):Int) - 1 = (k:Int) by omega,nth_get (by omega),← atd_succ en 0 k (by omega)]
    exact j
theorem point_part {ly s sr:Int} {fl:List Nat} {en:List Int} {i:Nat} (hi:i < en.length) (hl:en.length ≤ 140737488351232) (h0:0 ≤ atd 0 en i) (h1:atd 0 en i ≤ en[i]) (h2:en[i] ≤ fl.length) (l1:1 ≤ ly) :
    gogeom_MultiPoint_Point N (.ptr [.int .i64 ly,.int .i64 s,.fl fl,.int .i64 sr,.il en]) (i:Int) = some ((ly,strd ly,piece fl (atd 0 en i) en[i],0,()),()):=by
  have j:gogeom_MultiPoint_Coord_j0 N (.ptr [.int .i64 ly,.int .i64 s,.fl fl,.int .i64 sr,.il en]) (i:Int) (atd 0 en i) = some (piece fl (atd 0 en i) en[i]):=by
    unfold gogeom_MultiPoint_Coord_j0
    rw [gate_pos hN]
    show ((nth en (i:Int)).bind fun v9=>bif v9 == atd 0 en i then some [] else (nth en (i:Int)).bind fun e=>(chk2 (atd 0 en i) e fl.length).bind fun p=>some ((fl.drop p.1).take (p.2 - p.1))) = _
    rw [nth_get hi]
    simp only [Option.bind_some]
    cases hq:en[i] == atd 0 en i with
    | true =>
      have:en[i] = atd 0 en i:=by simpa using hq
      rw [cond_true,this,piece_nil]
    | false =>
      rw [cond_false,chk2_int ⟨h0,h1,h2⟩]
      rfl
  have c:gogeom_MultiPoint_Coord N (.ptr [.int .i64 ly,.int .i64 s,.fl fl,.int .i64 sr,.il en]) (i:Int) = some (piece fl (atd 0 en i) en[i]):=by
    unfold gogeom_MultiPoint_Coord gogeom_MultiPoint_Coord_g
    cases i with
    | zero=>rw [atd_zero] at j ⊢; exact j
    | succ k =>
      rw [show decide (((k + 1:Nat):Int) > 0) = true by simp only [decide_eq_true_eq]; omega,cond_true]
      show ((nth en (IntKind.i64.wrap (((k + 1:Nat):Int) - 1))).bind fun v5=>gogeom_MultiPoint_Coord_j0 N _ ((k + 1:Nat):Int) v5) = _
      rw [wrap_in (by omega),show ((k + 1:Nat):Int) - 1 = (k:Int) by omega,nth_get (by omega),← atd_succ en 0 k (by omega)]
      exact j
  generalize piece fl (atd 0 en i) en[i] = x at c
  have p0:gogeom_MultiPoint_Point_j0 N (.ptr [.int .i64 ly,.int .i64 s,.fl fl,.int .i64 sr,.il en]) x = some ((ly,strd ly,x,0,()),()):=by
    unfold gogeom_MultiPoint_Point_j0
    rw [gate_pos hN]
    show ((gogeom_NewPointFlat_b N ly x).bind fun v9=>some ((v9.1.1,v9.1.2.1,v9.1.2.2.1,v9.1.2.2.2.1,()),())) = _
    unfold gogeom_NewPointFlat_b gogeom_NewPointFlat_b_g
    rw [stride_geom N ly l1]
    rfl
  unfold gogeom_MultiPoint_Point gogeom_MultiPoint_Point_g
  rw [c]
  simp only [Option.bind_some]
  cases hb:Nat.ble 1 x.length with
  | true=>rw [cond_true,p0]
  | false =>
    have hx:x = []:=by
      have:¬ 1 ≤ x.length:=fun h=>by rw [Nat.ble_eq_true_of_le h] at hb; cases hb
      exact List.length_eq_zero_iff.1 (by omega)
    subst hx
    rw [cond_false,p0]
    refine agree_same ?_
    rw [gate_pos hN]
    show ((gogeom_NewPointEmpty N ly).bind fun v6=>some ((v6.1.1,v6.1.2.1,v6.1.2.2.1,v6.1.2.2.2.1,()),())) = _
    unfold gogeom_NewPointEmpty gogeom_NewPointEmpty_g gogeom_NewPointFlat gogeom_NewPointFlat_g
    rw [stride_geom N ly l1]
    rfl
theorem line_part {ly s sr:Int} {fl:List Nat} {en:List Int} {i:Nat} (hi:i < en.length) (hl:en.length ≤ 140737488351232) (h0:0 ≤ atd 0 en i) (h1:atd 0 en i ≤ en[i]) (h2:en[i] ≤ fl.length) (l1:1 ≤ ly) :
    gogeom_MultiLineString_LineString N (.ptr [.int .i64 ly,.int .i64 s,.fl fl,.int .i64 sr,.il en]) (i:Int) = some ((ly,strd ly,piece fl (atd 0 en i) en[i],0,()),()):=by
  have j:gogeom_MultiLineString_LineString_j0 N (.ptr [.int .i64 ly,.int .i64 s,.fl fl,.int .i64 sr,.il en]) (i:Int) (atd 0 en i) = some ((ly,strd ly,piece fl (atd 0 en i) en[i],0,()),()):=by
    unfold gogeom_MultiLineString_LineString_j0
    rw [gate_pos hN]
    show ((nth en (i:Int)).bind fun v9=>bif atd 0 en i == v9 then (gogeom_NewLineString N ly).bind fun v12=>some ((v12.1.1,v12.1.2.1,v12.1.2.2.1,v12.1.2.2.2.1,()),()) else (nth en (i:Int)).bind fun e=>(chk2 (atd 0 en i) e fl.length).bind fun p=>(gogeom_NewLineStringFlat_b N ly ((fl.drop p.1).take (p.2 - p.1))).bind fun v15=>some ((v15.1.1,v15.1.2.1,v15.1.2.2.1,v15.1.2.2.2.1,()),())) = _
    rw [nth_get hi]
    simp only [Option.bind_some]
    cases hq:atd 0 en i == en[i] with
    | true =>
      have:atd 0 en i = en[i]:=by simpa using hq
      rw [cond_true,← this,piece_nil]
      unfold gogeom_NewLineString gogeom_NewLineString_g gogeom_NewLineStringFlat gogeom_NewLineStringFlat_g
      rw [stride_geom N ly l1]
      rfl
    | false =>
      rw [cond_false,chk2_int ⟨h0,h1,h2⟩]
      unfold gogeom_NewLineStringFlat_b gogeom_NewLineStringFlat_b_g
      rw [stride_geom N ly l1]
      rfl
  unfold gogeom_MultiLineString_LineString gogeom_MultiLineString_LineString_g
  cases i with
  | zero=>rw [atd_zero] at j ⊢; exact j
  | succ k =>
    rw [show decide (((k + 1:Nat):Int) > 0) = true by simp only [decide_eq_true_eq]; omega,cond_true]
    show ((nth en (IntKind.i64.wrap (((k + 1:Nat):Int) - 1))).bind fun v5=>gogeom_MultiLineString_LineString_j0 N _ ((k + 1:Nat):Int) v5) = _
    rw [wrap_in (by omega),show ((k + 1:Nat):Int) - 1 = (k:Int) by omega,nth_get (by omega),← atd_succ en 0 k (by omega)]
    exact j
/-! ### a part more -/
theorem push3 {ly:Int} {fl pf:List Nat} {en:List Int} (h1:(fl.length + pf.length) * 8 ≤ 140737488355328) (h2:(en.length + 1) * 8 ≤ 140737488355328) (l1:1 ≤ ly) :
    impl_Push N (Geo.mk 3 ly 0 fl en [] []) (Geo.mk 8 ly 0 pf [] [] []) = some (Geo.mk 3 ly 0 (fl ++ pf) (en ++ [((fl ++ pf).length:Int)]) [] [],true):=by
  obtain ⟨M,hM⟩:∃ M,N = M + 1:=⟨N - 1,by omega⟩
  unfold impl_Push impl_Push_g
  simp only [eta]
  rw [gb3 hN hNl (by omega) (by omega) l1]
  simp only [Option.bind_some,Sum.elim_inr,Sum.elim_inl]
  have geo:impl_geometry N N (Geo.mk 8 ly 0 pf [] [] []) = some (obj (Geo.mk 8 ly 0 pf [] [] []),()):=by
    conv=>lhs; arg 2; rw [hM]
    exact geo_flat hN hNl M (bd_one (by omega)) l1 (fun h=>by cases h) (.inr (.inr (.inl rfl)))
  rw [geo,obj8 rfl]
  show ((gogeom_Polygon_Push N (ly,strd ly,fl,0,en,()) (.ptr [.int .i64 ly,.int .i64 (strd ly),.fl pf,.int .i64 0])).bind _) = _
  have pu:gogeom_Polygon_Push N (ly,strd ly,fl,0,en,()) (.ptr [.int .i64 ly,.int .i64 (strd ly),.fl pf,.int .i64 0]) = some (Sum.inr ((),(ly,strd ly,fl ++ pf,0,en ++ [((fl ++ pf).length:Int)],()),())):=by
    show (bif (ly != ly) then _ else ((lim ((fl.length + pf.length) * 8)).bind fun _=>((lim ((en.length + 1) * 8)).bind fun _=>some (Sum.inr ((),(ly,strd ly,fl ++ pf,0,en ++ [((fl ++ pf).length:Int)],()),()))))) = _
    rw [bne_self_eq_false,cond_false,lim_le h1,lim_le h2]
    rfl
  rw [pu]
  simp only [Option.bind_some,Sum.elim_inr]
  rw [pl3 hN hNl (by rw [List.length_append]; exact h1) (by rw [List.length_append]; exact h2)]
  rfl
theorem push4 {ly:Int} {fl pf:List Nat} {en:List Int} (h1:(fl.length + pf.length) * 8 ≤ 140737488355328) (h2:(en.length + 1) * 8 ≤ 140737488355328) (l1:1 ≤ ly) (h0:0 < strd ly) (hc:Chain (strd ly) 0 en fl.length) :
    impl_Push N (Geo.mk 4 ly 0 fl en [] []) (Geo.mk 1 ly 0 pf [] [] []) = some (Geo.mk 4 ly 0 (fl ++ pf) (en ++ [((fl ++ pf).length:Int)]) [] [],true):=by
  obtain ⟨M,hM⟩:∃ M,N = M + 1:=⟨N - 1,by omega⟩
  unfold impl_Push impl_Push_g
  simp only [eta]
  rw [gb4 hN hNl (by omega) (by omega) l1 h0 hc]
  simp only [Option.bind_some,Sum.elim_inr,Sum.elim_inl]
  have geo:impl_geometry N N (Geo.mk 1 ly 0 pf [] [] []) = some (obj (Geo.mk 1 ly 0 pf [] [] []),()):=by
    conv=>lhs; arg 2; rw [hM]
    exact geo_flat hN hNl M (bd_one (by omega)) l1 (fun h=>by cases h) (.inl rfl)
  rw [geo,obj1 rfl]
  show ((gogeom_MultiPoint_Push N (ly,strd ly,fl,0,en,()) (.ptr [.int .i64 ly,.int .i64 (strd ly),.fl pf,.int .i64 0])).bind _) = _
  have pu:gogeom_MultiPoint_Push N (ly,strd ly,fl,0,en,()) (.ptr [.int .i64 ly,.int .i64 (strd ly),.fl pf,.int .i64 0]) = some (Sum.inr ((),(ly,strd ly,fl ++ pf,0,en ++ [((fl ++ pf).length:Int)],()),())):=by
    show (bif (ly != ly) then _ else ((gogeom_geom0_Empty N (ly,(strd ly,(pf,(0,()))))).bind fun v9=>bif !v9.1 then ((lim ((fl.length + pf.length) * 8)).bind fun _=>((lim ((en.length + 1) * 8)).bind fun _=>some (Sum.inr ((),(ly,strd ly,fl ++ pf,0,en ++ [((fl ++ pf).length:Int)],()),())))) else ((lim ((en.length + 1) * 8)).bind fun _=>some (Sum.inr ((),(ly,strd ly,fl,0,en ++ [(fl.length:Int)],()),()))))) = _
    rw [bne_self_eq_false,cond_false,show gogeom_geom0_Empty N (ly,(strd ly,(pf,(0,())))) = some ((pf.length:Int) == 0,()) from rfl]
    simp only [Option.bind_some]
    rw [lim_le h1,lim_le h2]
    cases pf with
    | nil=>rw [List.append_nil]; rfl
    | cons x r=>rfl
  rw [pu]
  simp only [Option.bind_some,Sum.elim_inr]
  rw [pl4 hN hNl (by rw [List.length_append]; exact h1) (by rw [List.length_append]; exact h2)]
  rfl
theorem push5 {ly:Int} {fl pf:List Nat} {en:List Int} (h1:(fl.length + pf.length) * 8 ≤ 140737488355328) (h2:(en.length + 1) * 8 ≤ 140737488355328) (l1:1 ≤ ly) :
    impl_Push N (Geo.mk 5 ly 0 fl en [] []) (Geo.mk 2 ly 0 pf [] [] []) = some (Geo.mk 5 ly 0 (fl ++ pf) (en ++ [((fl ++ pf).length:Int)]) [] [],true):=by
  obtain ⟨M,hM⟩:∃ M,N = M + 1:=⟨N - 1,by omega⟩
  unfold impl_Push impl_Push_g
  simp only [eta]
  rw [gb5 hN hNl (by omega) (by omega) l1]
  simp only [Option.bind_some,Sum.elim_inr,Sum.elim_inl]
  have geo:impl_geometry N N (Geo.mk 2 ly 0 pf [] [] []) = some (obj (Geo.mk 2 ly 0 pf [] [] []),()):=by
    conv=>lhs; arg 2; rw [hM]
    exact geo_flat hN hNl M (bd_one (by omega)) l1 (fun h=>by cases h) (.inr (.inl rfl))
  rw [geo,obj2 rfl]
  show ((gogeom_MultiLineString_Push N (ly,strd ly,fl,0,en,()) (.ptr [.int .i64 ly,.int .i64 (strd ly),.fl pf,.int .i64 0])).bind _) = _
  have pu:gogeom_MultiLineString_Push N (ly,strd ly,fl,0,en,()) (.ptr [.int .i64 ly,.int .i64 (strd ly),.fl pf,.int .i64 0]) = some (Sum.inr ((),(ly,strd ly,fl ++ pf,0,en ++ [((fl ++ pf).length:Int)],()),())):=by
    show (bif (ly != ly) then _ else ((lim ((fl.length + pf.length) * 8)).bind fun _=>((lim ((en.length + 1) * 8)).bind fun _=>some (Sum.inr ((),(ly,strd ly,fl ++ pf,0,en ++ [((fl ++ pf).length:Int)],()),()))))) = _
    rw [bne_self_eq_false,cond_false,lim_le h1,lim_le h2]
    rfl
  rw [pu]
  simp only [Option.bind_some,Sum.elim_inr]
  rw [pl5 hN hNl (by rw [List.length_append]; exact h1) (by rw [List.length_append]; exact h2)]
  rfl
end
end Go.Proofs.YtmjcojdafeaiaaaGreat.PvPuPA
