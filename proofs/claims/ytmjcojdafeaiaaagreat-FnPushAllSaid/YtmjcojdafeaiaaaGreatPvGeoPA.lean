/- What 'gGood' tells of a geometry,of whatever kind and however deep. -/
import Derived.Test.YtmjcojdafeaiaaaGreatPA
import Derived.Test.YtmjcojdafeaiaaaGreatPv3
import Derived.Test.YtmjcojdafeaiaaaGreatAv15
set_option linter.unusedVariables false
set_option linter.unusedSectionVars false
set_option linter.unusedSimpArgs false
namespace Go.Proofs.YtmjcojdafeaiaaaGreat.PvGeoPA
open Go.Av Go
open Go.Proofs.YtmjcojdafeaiaaaGreat.PA
def strd (l:Int):Int:=if l < 1 then 0 else if l = 1 then 2 else if l = 2 then 3 else if l = 3 then 3 else l
theorem stride_spec (N:Nat) (l:Int):spec_Stride N l = some (strd l):=by
  simp only [spec_Stride,spec_Stride_g,strd,beq_iff_eq,decide_eq_true_eq,Bool.cond_eq_ite,apply_ite some]
theorem strd_le {l:Int} (h:1 ≤ l ∧ l ≤ 9):2 ≤ strd l ∧ strd l ≤ 9:=by
  unfold strd
  repeat' split
  all_goals omega
theorem strd_nn (l:Int):0 ≤ strd l:=by
  unfold strd
  repeat' split
  all_goals omega
theorem eta (g:Geo):Geo.mk g.kind g.layout g.srid g.flat g.ends g.endss g.kids = g:=by cases g; rfl
mutual
def dep:Geo→Nat
  | .mk _ _ _ _ _ _ ks=>deps ks + 1
def deps:List Geo→Nat
  | []=>0
  | g :: r=>max (dep g) (deps r)
end
theorem dep_mem {g:Geo}:∀ {l:List Geo},g ∈ l→dep g ≤ deps l
  | x :: r,h=>by
    simp only [deps]
    rcases List.mem_cons.1 h with rfl | h
    · omega
    · have:=dep_mem h; omega
theorem dep_kid {g k:Geo} (h:k ∈ g.kids):dep k < dep g:=by
  cases g with
  | mk a b c d e f ks =>
    have:=dep_mem (show k ∈ ks from h)
    simp only [dep]; omega
theorem dep_pos (g:Geo):1 ≤ dep g:=by cases g; simp only [dep]; omega
/-- Lists as long as memory bears. -/
structure Sz (g:Geo):Prop where
  flat:g.flat.length ≤ 140737488351232
  ends:g.ends.length ≤ 140737488351232
  endss:g.endss.length ≤ 140737488351232
  each:∀ l ∈ g.endss,l.length ≤ 140737488351232 ∧ ∀ x ∈ l,-9223372036854775808 ≤ x ∧ x ≤ 9223372036854775807
  endx:∀ x ∈ g.ends,-9223372036854775808 ≤ x ∧ x ≤ 9223372036854775807
  kids:g.kids.length ≤ 140737488351232
  lay:-9223372036854775808 ≤ g.layout ∧ g.layout ≤ 9223372036854775807
theorem sz_of {g:Geo} (h:wfG g):Sz g ∧ ∀ k ∈ g.kids,wfG k:=by
  cases g with
  | mk a b c d e f ks =>
    simp only [wfG,fits] at h
    obtain ⟨h0,h1,h2,⟨⟨h3,h3'⟩,_⟩,⟨⟨h4,h4'⟩,h5⟩,⟨⟨h6,h6'⟩,h7⟩,⟨h8,h8'⟩,h9⟩:=h
    have imin:IntKind.i64.min = -9223372036854775808:=by decide
    have imax:IntKind.i64.max = 9223372036854775807:=by decide
    rw [imin,imax] at h1 h5 h7
    refine ⟨⟨?_,?_,?_,fun l hl=>?_,h5,?_,h1⟩,fun k hk=>wfGs_of h9 k hk⟩
    · show d.length ≤ _; omega
    · show e.length ≤ _; omega
    · show f.length ≤ _; omega
    · obtain ⟨⟨q1,q2⟩,q3⟩:=h7 l hl
      exact ⟨by omega,q3⟩
    · show ks.length ≤ _; omega
/-- Ends that ascend by whole places. -/
def Chain (s:Int):Int→List Int→Int→Prop
  | a,[],b=>a = b
  | a,e :: r,b=>a ≤ e ∧ s ∣ e - a ∧ Chain s e r b
theorem Chain.le {s:Int}:∀ {l:List Int} {a b:Int},Chain s a l b→a ≤ b
  | [],a,b,h=>by simp only [Chain] at h; omega
  | e :: r,a,b,h=>by simp only [Chain] at h; have:=Chain.le h.2.2; omega
theorem Chain.snoc {s:Int}:∀ {l:List Int} {a b e:Int},Chain s a l b→b ≤ e→s ∣ e - b→Chain s a (l ++ [e]) e
  | [],a,b,e,h,h1,h2=>by
    simp only [Chain] at h; subst h
    exact ⟨h1,h2,rfl⟩
  | x :: r,a,b,e,h,h1,h2=>by
    simp only [Chain] at h
    exact ⟨h.1,h.2.1,Chain.snoc h.2.2 h1 h2⟩
def Chain2 (s:Int):Int→List (List Int)→Int→Prop
  | a,[],b=>a = b
  | a,l :: r,b=>∃ c,Chain s a l c ∧ Chain2 s c r b
theorem Chain2.snoc {s:Int}:∀ {ls:List (List Int)} {a b c:Int} {l:List Int},Chain2 s a ls b→Chain s b l c→Chain2 s a (ls ++ [l]) c
  | [],a,b,c,l,h,h1=>by
    simp only [Chain2] at h; subst h
    exact ⟨c,h1,rfl⟩
  | x :: r,a,b,c,l,h,h1=>by
    obtain ⟨d,h2,h3⟩:=h
    exact ⟨d,h2,Chain2.snoc h3 h1⟩
/-- No part longer than one place. -/
def ChainLe (s:Int):Int→List Int→Prop
  | _,[]=>True
  | a,e :: r=>e - a ≤ s ∧ ChainLe s e r
theorem ChainLe.snoc {s:Int}:∀ {l:List Int} {a b e:Int},Chain s a l b→ChainLe s a l→e - b ≤ s→ChainLe s a (l ++ [e])
  | [],a,b,e,h,h1,h2=>by
    simp only [Chain] at h; subst h
    exact ⟨h2,trivial⟩
  | x :: r,a,b,e,h,h1,h2=>by
    simp only [Chain] at h
    exact ⟨h1.1,ChainLe.snoc h.2.2 h1.2 h2⟩
/-- What is known of a good geometry that is no collection. -/
structure GoodF (g:Geo):Prop where
  pos:0 < strd g.layout
  whole:strd g.layout ∣ (g.flat.length:Int)
  kids:g.kids = []
  noss:g.kind ≠ 6→g.endss = []
  point:g.kind = 1→g.ends = [] ∧ (g.flat.length:Int) ≤ strd g.layout
  line:g.kind = 2 ∨ g.kind = 8→g.ends = []
  parts:g.kind = 3 ∨ g.kind = 4 ∨ g.kind = 5→Chain (strd g.layout) 0 g.ends g.flat.length
  single:g.kind = 4→ChainLe (strd g.layout) 0 g.ends
  multi:g.kind = 6→g.ends = [] ∧ Chain2 (strd g.layout) 0 g.endss g.flat.length
  kind:g.kind = 1 ∨ g.kind = 2 ∨ g.kind = 8 ∨ g.kind = 3 ∨ g.kind = 4 ∨ g.kind = 5 ∨ g.kind = 6
section
variable {N:Nat} (hN:0 < N) (hNl:9223372036854775808 ≤ N)
include hN hNl
theorem weight_tot:∀ (d:Nat) (g:Geo) (v:Int),dep g ≤ d→wfG g→∃ r,spec_Weight N d g v = some r
  | 0,g,v,h,_=>by have:=dep_pos g; omega
  | d + 1,g,v,h,hw=>by
    obtain ⟨sz,hk⟩:=sz_of hw
    have s1:=sz.endss
    have s2:=sz.kids
    simp only [spec_Weight,spec_Weight_g]
    rcases stateLoop0 (xs:=g.endss) (L:=fun n i st=>spec_Weight_l0 N (spec_Weight N d) n v g st i) (e:=fun _=>False) (fin:=fun st=>spec_Weight_l1 N (spec_Weight N d) N v g st 0) (fun _ _=>True)
      (fun n st _=>by
        simp only [spec_Weight_l0,spec_Weight_g0,Bool.cond_decide]
        rw [if_neg (by omega)])
      (fun n i st hi _=>by
        right
        simp only [spec_Weight_l0,spec_Weight_g0,Bool.cond_decide]
        rw [if_pos (by omega),nth_get hi,succ_in hi (by omega)]
        exact ⟨_,rfl,trivial⟩) N _ (by omega) trivial with h1 | ⟨st,h1,_⟩
    · exact h1.elim
    · rw [h1]
      rcases stateLoop0 (xs:=g.kids) (L:=fun n i st=>spec_Weight_l1 N (spec_Weight N d) n v g st i) (e:=fun o=>∃ r,o = some r) (fin:=fun st=>some st) (fun _ _=>True)
        (fun n st _=>by
          simp only [spec_Weight_l1,spec_Weight_g1,Bool.cond_decide]
          rw [if_neg (by omega)])
        (fun n i st hi _=>by
          simp only [spec_Weight_l1,spec_Weight_g1,Bool.cond_decide,eta]
          rw [if_pos (by omega),nth_get hi,succ_in hi (by omega)]
          simp only [Option.bind_some]
          by_cases hst:st > v
          · rw [if_pos hst]; exact .inl ⟨_,rfl⟩
          · rw [if_neg hst]
            have hm:=List.getElem_mem hi
            obtain ⟨r,hr⟩:=weight_tot d g.kids[i] (IntKind.i64.wrap (v - st)) (by have:=dep_kid hm; omega) (hk _ hm)
            rw [hr]
            exact .inr ⟨_,rfl,trivial⟩) N st (by omega) trivial with h2 | ⟨st2,h2,_⟩
      · exact h2
      · exact ⟨_,h2⟩
theorem layouts_tot:∀ (d:Nat) (g:Geo) (v:Int),dep g ≤ d→wfG g→∃ b,laws_gLayouts N d g v = some b ∧ (b = true→g.layout ≤ v ∧ (1 ≤ g.layout ∨ g.kind = 7))
  | 0,g,v,h,_=>by have:=dep_pos g; omega
  | d + 1,g,v,h,hw=>by
    obtain ⟨sz,hk⟩:=sz_of hw
    have s2:=sz.kids
    simp only [laws_gLayouts,laws_gLayouts_g]
    have fin:∃ b,(if g.layout ≤ v then (if g.layout ≥ 1 then some true else (bif g.kind == 7 then some (decide (g.layout ≥ 0)) else some false)) else some false) = some b ∧ (b = true→g.layout ≤ v ∧ (1 ≤ g.layout ∨ g.kind = 7)):=by
      by_cases h1:g.layout ≤ v
      · rw [if_pos h1]
        by_cases h2:g.layout ≥ 1
        · rw [if_pos h2]; exact ⟨true,rfl,fun _=>⟨h1,.inl h2⟩⟩
        · rw [if_neg h2]
          cases h3:g.kind == 7 with
          | true=>exact ⟨_,rfl,fun _=>⟨h1,.inr (by simpa using h3)⟩⟩
          | false=>exact ⟨_,rfl,fun h=>by cases h⟩
      · rw [if_neg h1]; exact ⟨_,rfl,fun h=>by cases h⟩
    obtain ⟨b,hb,hbt⟩:=fin
    rcases checkLoop0 (xs:=g.kids) (L:=fun n i=>laws_gLayouts_l0 N (laws_gLayouts N d) n v g i) (e:=fun o=>o = some false) (fin:=some b) (fun _=>True)
      (fun n=>by
        simp only [laws_gLayouts_l0,laws_gLayouts_g0,Bool.cond_decide]
        rw [if_neg (by omega)]
        exact hb)
      (fun n i hi=>by
        simp only [laws_gLayouts_l0,laws_gLayouts_g0,Bool.cond_decide,eta]
        rw [if_pos (by omega),nth_get hi,succ_in hi (by omega)]
        simp only [Option.bind_some]
        have hm:=List.getElem_mem hi
        obtain ⟨r,hr,_⟩:=layouts_tot d g.kids[i] v (by have:=dep_kid hm; omega) (hk _ hm)
        rw [hr]
        cases r with
        | false=>exact .inl rfl
        | true=>exact .inr ⟨rfl,trivial⟩) N (by omega) with h2 | ⟨h2,_⟩
    · exact ⟨false,h2,fun h=>by cases h⟩
    · exact ⟨b,h2,hbt⟩
theorem cover_tot (a b:Int):∃ r,spec_Cover N a b = some r:=by
  unfold spec_Cover spec_Cover_g
  simp only [spec_Cover_j0,spec_Cover_g0,spec_Cover_j1,spec_Cover_g1,spec_Cover_j2,spec_Cover_g2,gate_pos hN]
  cases (a == 2) <;> cases (b == 3) <;> cases (a == 3) <;> cases (b == 2) <;> exact ⟨_,rfl⟩
theorem layoutOf_tot:∀ (d:Nat) (g:Geo),dep g ≤ d→wfG g→∃ r,spec_LayoutOf N d g = some r
  | 0,g,h,_=>by have:=dep_pos g; omega
  | d + 1,g,h,hw=>by
    obtain ⟨sz,hk⟩:=sz_of hw
    have s2:=sz.kids
    simp only [spec_LayoutOf,spec_LayoutOf_g]
    cases g.kind != 7 with
    | true=>exact ⟨_,rfl⟩
    | false =>
      cases g.layout != 0 with
      | true=>exact ⟨_,rfl⟩
      | false =>
        simp only [cond_false]
        rcases stateLoop0 (xs:=g.kids) (L:=fun n i st=>spec_LayoutOf_l0 N (spec_LayoutOf N d) n g st i) (e:=fun _=>False) (fin:=fun st=>some st) (fun _ _=>True)
          (fun n st _=>by
            simp only [spec_LayoutOf_l0,spec_LayoutOf_g0,Bool.cond_decide]
            rw [if_neg (by omega)])
          (fun n i st hi _=>by
            right
            simp only [spec_LayoutOf_l0,spec_LayoutOf_g0,Bool.cond_decide,eta]
            rw [if_pos (by omega),nth_get hi,succ_in hi (by omega)]
            have hm:=List.getElem_mem hi
            obtain ⟨r,hr⟩:=layoutOf_tot d g.kids[i] (by have:=dep_kid hm; omega) (hk _ hm)
            obtain ⟨c,hc⟩:=cover_tot hN hNl st r
            simp only [Option.bind_some,hr,hc]
            exact ⟨_,rfl,trivial⟩) N g.layout (by omega) trivial with h2 | ⟨st2,h2,_⟩
        · exact h2.elim
        · exact ⟨_,h2⟩
theorem goodEnds (v4:Bool) {s:Int} (hs:0 < s) (l:List Int) (hl:l.length ≤ 140737488351232) (hw:∀ x ∈ l,x ≤ 9223372036854775807) (a:Int) (ha:0 ≤ a) :
    ∃ b t,spec_goodEnds N l a s v4 = some (b,t) ∧ (t = true→Chain s a l b ∧ (v4 = true→ChainLe s a l)) ∧ 0 ≤ b:=by
  unfold spec_goodEnds spec_goodEnds_g
  have:=stateLoop0 (xs:=l) (L:=fun n i st=>spec_goodEnds_l0 N n s v4 l st i) (e:=fun o=>∃ b,o = some (b,false) ∧ 0 ≤ b) (fin:=fun st=>some (st,true))
    (fun i st=>(Chain s a (l.take i) st ∧ (v4 = true→ChainLe s a (l.take i))) ∧ 0 ≤ st) (fun n st h=>by
      simp only [spec_goodEnds_l0,spec_goodEnds_g0,Bool.cond_decide]
      rw [if_neg (by omega)]) (fun n i st h hp=>by
      obtain ⟨⟨c1,c2⟩,c3⟩:=hp
      simp only [spec_goodEnds_l0,spec_goodEnds_g0,spec_goodEnds_j1,spec_goodEnds_j2,spec_goodEnds_g1,spec_goodEnds_g2,Bool.cond_decide,gate_pos hN]
      rw [if_pos (by omega),nth_get h]
      simp only [Option.bind_some]
      have hx:=hw _ (List.getElem_mem h)
      by_cases h1:l[i] < st
      · rw [if_pos h1]; exact .inl ⟨st,rfl,c3⟩
      · rw [if_neg h1,if_neg (by omega),wrap_in (n:=l[i] - st) (by omega),succ_in h (by omega)]
        cases h2:(Int.tmod (l[i] - st) s != 0) with
        | true=>exact .inl ⟨st,rfl,c3⟩
        | false =>
          have h3:Int.tmod (l[i] - st) s = 0:=by simpa using h2
          have hd:=Int.dvd_of_tmod_eq_zero h3
          simp only [cond_false]
          cases v4 with
          | false =>
            refine .inr ⟨l[i],rfl,⟨?_,fun h=>by cases h⟩,by omega⟩
            rw [take_snoc h]
            exact Chain.snoc c1 (by omega) hd
          | true =>
            simp only [cond_true]
            by_cases h4:l[i] - st > s
            · rw [if_pos h4]; exact .inl ⟨st,rfl,c3⟩
            · rw [if_neg h4]
              refine .inr ⟨l[i],rfl,⟨?_,fun _=>?_⟩,by omega⟩
              · rw [take_snoc h]
                exact Chain.snoc c1 (by omega) hd
              · rw [take_snoc h]
                exact ChainLe.snoc c1 (c2 rfl) (by omega)) N a (by omega) ⟨⟨rfl,fun _=>trivial⟩,ha⟩
  rcases this with ⟨b,h,h0⟩ | ⟨b,h,hc⟩
  · exact ⟨b,false,h,(fun h=>by cases h),h0⟩
  · rw [List.take_length] at hc
    exact ⟨b,true,h,fun _=>hc.1,hc.2⟩
theorem good_tot:∀ (d:Nat) (g:Geo),dep g ≤ d→dep g ≤ N→wfG g→∃ b,spec_Good N d g = some b ∧ (b = true→g.kind ≠ 7→GoodF g)
  | 0,g,h,_,_=>by have:=dep_pos g; omega
  | d + 1,g,h,hdN,hw=>by
    obtain ⟨sz,hk⟩:=sz_of hw
    have s1:=sz.flat
    have s2:=sz.kids
    have s3:=sz.ends
    have s4:=sz.endss
    simp only [spec_Good,spec_Good_g,stride_spec,Option.bind_some]
    cases k7:(g.kind == 7) with
    | true =>
      have e7:g.kind = 7:=by simpa using k7
      simp only [cond_true]
      obtain ⟨bf,hbf⟩:∃ bf,(if g.layout ≥ 0 then some ((IntKind.i64.wrap ((IntKind.i64.wrap ((g.flat.length:Int) + (g.ends.length:Int))) + (g.endss.length:Int))) == 0) else some false) = some bf:=by
        by_cases hl:g.layout ≥ 0
        · rw [if_pos hl]; exact ⟨_,rfl⟩
        · rw [if_neg hl]; exact ⟨_,rfl⟩
      rcases checkLoop0 (xs:=g.kids) (L:=fun n i=>spec_Good_l0 N (spec_Good N d) n g i) (e:=fun o=>o = some false) (fin:=some bf) (fun _=>True)
        (fun n=>by
          simp only [spec_Good_l0,spec_Good_g0,Bool.cond_decide]
          rw [if_neg (by omega)]
          exact hbf)
        (fun n i hi=>by
          simp only [spec_Good_l0,spec_Good_g0,spec_Good_j1,spec_Good_g1,gate_pos hN,Bool.cond_decide,eta]
          rw [if_pos (by omega),nth_get hi,succ_in hi (by omega)]
          have hm:=List.getElem_mem hi
          have hd:=dep_kid hm
          obtain ⟨r,hr,_⟩:=good_tot d g.kids[i] (by omega) (by omega) (hk _ hm)
          simp only [Option.bind_some,hr]
          cases r with
          | false=>exact .inl rfl
          | true =>
            simp only [Bool.not_true,cond_false]
            cases g.layout != 0 with
            | false=>exact .inr ⟨rfl,trivial⟩
            | true =>
              obtain ⟨lo,hlo⟩:=layoutOf_tot hN hNl N g.kids[i] (by omega) (hk _ hm)
              simp only [cond_true,hlo,Option.bind_some]
              cases lo != g.layout with
              | true=>exact .inl rfl
              | false=>exact .inr ⟨rfl,trivial⟩) N (by omega) with h2 | ⟨h2,_⟩
      · exact ⟨false,h2,fun h=>by cases h⟩
      · exact ⟨bf,h2,fun _ hn=>absurd e7 hn⟩
    | false =>
      have n7:g.kind ≠ 7:=by simpa using k7
      have bad:∃ b,spec_Good_j2 N (spec_Good N d) (strd g.layout) g = some b ∧ (b = true→g.kind ≠ 7→GoodF g):=⟨false,by simp only [spec_Good_j2,spec_Good_g2,gate_pos hN],fun h=>by cases h⟩
      simp only [cond_false]
      cases z0:(strd g.layout == 0) with
      | true=>exact bad
      | false =>
        have z0':strd g.layout ≠ 0:=by simpa using z0
        have zp:0 < strd g.layout:=by have:=strd_nn g.layout; omega
        simp only [cond_false]
        rw [if_neg z0']
        cases z1:(Int.tmod (g.flat.length:Int) (strd g.layout) != 0) with
        | true=>exact bad
        | false =>
          have hdvd:=Int.dvd_of_tmod_eq_zero (show Int.tmod (g.flat.length:Int) (strd g.layout) = 0 by simpa using z1)
          simp only [cond_false,Bool.cond_decide]
          by_cases z2:(g.kids.length:Int) > 0
          · rw [if_pos z2]; exact bad
          · rw [if_neg z2]
            have hkids:g.kids = []:=List.eq_nil_of_length_eq_zero (by omega)
            have rest:(g.kind ≠ 6→g.endss = [])→∃ b,spec_Good_j3 N (spec_Good N d) (strd g.layout) g = some b ∧ (b = true→g.kind ≠ 7→GoodF g):=by
              intro hss
              simp only [spec_Good_j3,spec_Good_g3,spec_Good_j4,spec_Good_g4,gate_pos hN]
              cases k1:(g.kind == 1) with
              | true =>
                have e1:g.kind = 1:=by simpa using k1
                simp only [cond_true]
                cases k1e:((g.ends.length:Int) == 0) with
                | false=>exact ⟨false,rfl,fun h=>by cases h⟩
                | true =>
                  have he:g.ends = []:=List.eq_nil_of_length_eq_zero (by simpa using k1e)
                  refine ⟨_,rfl,fun hb _=>⟨zp,hdvd,hkids,hss,fun _=>⟨he,by simpa using hb⟩,fun h=>by omega,fun h=>by omega,fun h=>by omega,fun h=>by omega,.inl e1⟩⟩
              | false =>
                have n1:g.kind ≠ 1:=by simpa using k1
                simp only [cond_false]
                have line:(g.kind = 2 ∨ g.kind = 8)→∃ b,(some ((g.ends.length:Int) == 0):Option Bool) = some b ∧ (b = true→g.kind ≠ 7→GoodF g):=by
                  intro hl
                  refine ⟨_,rfl,fun hb _=>⟨zp,hdvd,hkids,hss,fun h=>absurd h n1,fun _=>List.eq_nil_of_length_eq_zero (by simpa using hb),fun h=>by omega,fun h=>by omega,fun h=>by omega,by omega⟩⟩
                have five:∀ v11:Bool,(v11 = true→g.kind = 3 ∨ g.kind = 4 ∨ g.kind = 5)→(v11 = false→g.kind ≠ 3 ∧ g.kind ≠ 4 ∧ g.kind ≠ 5)→g.kind ≠ 2→g.kind ≠ 8 →
                    ∃ b,spec_Good_j5 N (spec_Good N d) (strd g.layout) g v11 = some b ∧ (b = true→g.kind ≠ 7→GoodF g):=by
                  intro v11 t11 f11 n2 n8
                  simp only [spec_Good_j5,spec_Good_g5,gate_pos hN]
                  cases v11 with
                  | true =>
                    have t:=t11 rfl
                    obtain ⟨b,tt,e1,e2,e3⟩:=goodEnds hN hNl (g.kind == 4) zp g.ends s3 (fun x hx=>(sz.endx x hx).2) 0 (by omega)
                    simp only [cond_true,e1,Option.bind_some]
                    cases tt with
                    | false=>exact ⟨false,rfl,fun h=>by cases h⟩
                    | true =>
                      simp only [cond_true]
                      obtain ⟨e4,e5⟩:=e2 rfl
                      refine ⟨_,rfl,fun hb _=>⟨zp,hdvd,hkids,hss,fun h=>absurd h n1,fun h=>by omega,fun _=>?_,fun h=>e5 (by simp [h]),fun h=>by omega,by omega⟩⟩
                      have:b = (g.flat.length:Int):=by simpa using hb
                      rw [← this]; exact e4
                  | false =>
                    have t:=f11 rfl
                    simp only [cond_false]
                    cases k6:(g.kind == 6) with
                    | false=>exact ⟨false,rfl,fun h=>by cases h⟩
                    | true =>
                      have e6:g.kind = 6:=by simpa using k6
                      simp only [cond_true]
                      have loop:=stateLoop0 (xs:=g.endss) (L:=fun n i (st:Int×Bool)=>spec_Good_l6 N (spec_Good N d) n (strd g.layout) g st.1 st.2 i) (e:=fun _=>False)
                        (fin:=fun st=>bif st.2 then (bif (st.1 == (g.flat.length:Int)) then some ((g.ends.length:Int) == 0) else some false) else some false)
                        (fun i (st:Int×Bool)=>(st.2 = true→Chain2 (strd g.layout) 0 (g.endss.take i) st.1) ∧ 0 ≤ st.1) (fun n st h=>by
                          simp only [spec_Good_l6,spec_Good_g6,Bool.cond_decide]
                          rw [if_neg (by omega)]) (fun n i st h hp=>by
                          have hl:=sz.each _ (List.getElem_mem h)
                          obtain ⟨b,t,g1,g2,g3⟩:=goodEnds hN hNl false zp g.endss[i] hl.1 (fun x hx=>(hl.2 x hx).2) st.1 hp.2
                          simp only [spec_Good_l6,spec_Good_g6,spec_Good_j7,spec_Good_g7,Bool.cond_decide,gate_pos hN]
                          rw [if_pos (by omega),nth_get h,succ_in h (by omega)]
                          simp only [Option.bind_some,g1]
                          right
                          obtain ⟨a,v⟩:=st
                          cases v with
                          | true =>
                            refine ⟨(b,t),rfl,fun ht=>?_,g3⟩
                            rw [take_snoc h]
                            exact Chain2.snoc (hp.1 rfl) (g2 ht).1
                          | false=>exact ⟨(b,false),rfl,(fun ht=>by cases ht),g3⟩) N (0,true) (by omega) ⟨fun _=>rfl,by decide⟩
                      rcases loop with h | ⟨st,h,hp,_⟩
                      · exact h.elim
                      · have h':spec_Good_l6 N (spec_Good N d) N (strd g.layout) g 0 true 0 = _:=h
                        rw [h']
                        obtain ⟨a,v⟩:=st
                        cases v with
                        | false=>exact ⟨false,rfl,fun h=>by cases h⟩
                        | true =>
                          simp only [cond_true]
                          cases hq:(a == (g.flat.length:Int)) with
                          | false=>exact ⟨false,rfl,fun h=>by cases h⟩
                          | true =>
                            refine ⟨_,rfl,fun hb _=>⟨zp,hdvd,hkids,hss,fun h=>absurd h n1,fun h=>by omega,fun h=>by omega,fun h=>by omega,fun _=>⟨List.eq_nil_of_length_eq_zero (by simpa using hb),?_⟩,by omega⟩⟩
                            have e:a = (g.flat.length:Int):=by simpa using hq
                            have:=hp rfl
                            rw [List.take_length] at this
                            rw [← e]; exact this
                cases k2:(g.kind == 2) with
                | true =>
                  simp only [cond_true]
                  exact line (.inl (by simpa using k2))
                | false =>
                  have n2:g.kind ≠ 2:=by simpa using k2
                  simp only [cond_false]
                  cases k8:(g.kind == 8) with
                  | true =>
                    simp only [cond_true]
                    exact line (.inr (by simpa using k8))
                  | false =>
                    have n8:g.kind ≠ 8:=by simpa using k8
                    simp only [cond_false]
                    cases k3:(g.kind == 3) with
                    | true=>exact five true (fun _=>.inl (by simpa using k3)) (fun h=>by cases h) n2 n8
                    | false =>
                      have n3:g.kind ≠ 3:=by simpa using k3
                      simp only [cond_false]
                      cases k4:(g.kind == 4) with
                      | true=>exact five true (fun _=>.inr (.inl (by simpa using k4))) (fun h=>by cases h) n2 n8
                      | false =>
                        have n4:g.kind ≠ 4:=by simpa using k4
                        simp only [cond_false]
                        exact five (g.kind == 5) (fun h=>.inr (.inr (by simpa using h))) (fun h=>⟨n3,n4,by simpa using h⟩) n2 n8
            by_cases z3:(g.endss.length:Int) > 0
            · rw [if_pos z3]
              simp only [gate_pos hN]
              cases z4:(g.kind != 6) with
              | true=>exact ⟨false,rfl,fun h=>by cases h⟩
              | false =>
                simp only [cond_false]
                exact rest (fun h=>absurd (by simpa using z4) h)
            · rw [if_neg z3]
              simp only [gate_pos hN]
              exact rest (fun _=>List.eq_nil_of_length_eq_zero (by omega))
/-- 'gGood' of one geometry. -/
theorem gGood_one (g:Geo) (hd:dep g ≤ N) (hw:wfG g):∃ b,laws_gGood N [g] = some b ∧ (b = true→g.kind ≠ 7→GoodF g ∧ 1 ≤ g.layout ∧ g.layout ≤ 9):=by
  obtain ⟨m,hm⟩:∃ m,N = m + 2:=⟨N - 2,by omega⟩
  obtain ⟨w,hwt⟩:=weight_tot hN hNl N g 2000 hd hw
  obtain ⟨lb,hl,hlf⟩:=layouts_tot hN hNl N g 9 hd hw
  obtain ⟨gb,hg,hgf⟩:=good_tot hN hNl N g hd hd hw
  unfold laws_gGood laws_gGood_g laws_gSmall laws_gSmall_g
  have small:∃ b,laws_gSmall_l0 N N [g] 2000 0 = some b ∧ (b = true→lb = true):=by
    rw [show laws_gSmall_l0 N N = laws_gSmall_l0 N (m + 2) by rw [← hm]]
    show ∃ b,laws_gSmall_g0 N [g] (laws_gSmall_l0 N (m + 1) [g]) 2000 0 = some b ∧ _
    simp only [laws_gSmall_g0,Bool.cond_decide,eta]
    rw [if_pos (by simp),show nth [g] 0 = some g from rfl]
    simp only [Option.bind_some,hwt]
    by_cases h1:IntKind.i64.wrap (2000 - w) < 0
    · rw [if_pos h1]; exact ⟨false,rfl,fun h=>by cases h⟩
    · rw [if_neg h1,hl]
      simp only [Option.bind_some]
      cases lb with
      | false=>exact ⟨false,rfl,fun h=>by cases h⟩
      | true =>
        refine ⟨true,?_,fun _=>rfl⟩
        show laws_gSmall_g0 N [g] (laws_gSmall_l0 N m [g]) (IntKind.i64.wrap (2000 - w)) (IntKind.i64.wrap (0 + 1)) = some true
        simp only [laws_gSmall_g0,Bool.cond_decide]
        rw [show IntKind.i64.wrap (0 + 1) = 1 by decide,if_neg (by simp)]
  obtain ⟨sb,hs,hst⟩:=small
  rw [hs]
  simp only [Option.bind_some]
  cases sb with
  | false=>exact ⟨false,rfl,fun h=>by cases h⟩
  | true =>
    simp only [Bool.not_true,cond_false]
    rw [show laws_gGood_l0 N N = laws_gGood_l0 N (m + 2) by rw [← hm]]
    show ∃ b,laws_gGood_g0 N [g] (laws_gGood_l0 N (m + 1) [g]) 0 = some b ∧ _
    simp only [laws_gGood_g0,Bool.cond_decide,eta]
    rw [if_pos (by simp),show nth [g] 0 = some g from rfl]
    simp only [Option.bind_some,hg]
    cases gb with
    | false=>exact ⟨false,rfl,fun h=>by cases h⟩
    | true =>
      refine ⟨true,?_,fun _ hk=>⟨hgf rfl hk,?_⟩⟩
      · show laws_gGood_g0 N [g] (laws_gGood_l0 N m [g]) (IntKind.i64.wrap (0 + 1)) = some true
        simp only [laws_gGood_g0,Bool.cond_decide]
        rw [show IntKind.i64.wrap (0 + 1) = 1 by decide,if_neg (by simp)]
      · have:=hlf (hst rfl)
        refine ⟨?_,this.1⟩
        rcases this.2 with h | h
        · exact h
        · exact absurd h hk
theorem fits3 (l:List (List Int)) (h:l.length ≤ 140737488351232):∃ b,laws_zzFits3 N l = some b:=by
  unfold laws_zzFits3 laws_zzFits3_g
  simp only [Bool.cond_decide]
  by_cases h1:(l.length:Int) > 2147483647
  · rw [if_pos h1]; exact ⟨_,rfl⟩
  · rw [if_neg h1]
    rcases checkLoop0 (xs:=l) (L:=fun n i=>laws_zzFits3_l0 N n l i) (e:=fun o=>o = some false) (fin:=some true) (fun _=>True)
      (fun n=>by
        simp only [laws_zzFits3_l0,laws_zzFits3_g0,Bool.cond_decide]
        rw [if_neg (by omega)])
      (fun n i hi=>by
        simp only [laws_zzFits3_l0,laws_zzFits3_g0,Bool.cond_decide]
        rw [if_pos (by omega),nth_get hi,succ_in hi (by omega)]
        simp only [Option.bind_some]
        by_cases h2:((l[i].length:Int)) > 2147483647
        · rw [if_pos h2]; exact .inl rfl
        · rw [if_neg h2]; exact .inr ⟨rfl,trivial⟩) N (by omega) with h2 | ⟨h2,_⟩
    · exact ⟨_,h2⟩
    · exact ⟨_,h2⟩
theorem fits2 (g:Geo) (hw:wfG g):∃ b,laws_zzFits2 N g = some b ∧ (b = true→g.flat.length ≤ 2147483647 ∧ g.ends.length ≤ 2147483647):=by
  obtain ⟨sz,_⟩:=sz_of hw
  obtain ⟨t,ht⟩:=fits3 hN hNl g.endss sz.endss
  unfold laws_zzFits2 laws_zzFits2_g
  simp only [Bool.cond_decide]
  by_cases h1:(g.flat.length:Int) > 2147483647
  · rw [if_pos h1]; exact ⟨_,rfl,fun h=>by cases h⟩
  rw [if_neg h1]
  by_cases h2:(g.ends.length:Int) > 2147483647
  · rw [if_pos h2]; exact ⟨_,rfl,fun h=>by cases h⟩
  rw [if_neg h2,ht]
  simp only [Option.bind_some]
  cases t with
  | false=>exact ⟨_,rfl,fun h=>by cases h⟩
  | true =>
    simp only [Bool.not_true,cond_false]
    by_cases h3:(g.kids.length:Int) > 2147483647
    · rw [if_pos h3]; exact ⟨_,rfl,fun h=>by cases h⟩
    · rw [if_neg h3]; exact ⟨_,rfl,fun _=>⟨by omega,by omega⟩⟩
end
end Go.Proofs.YtmjcojdafeaiaaaGreat.PvGeoPA
