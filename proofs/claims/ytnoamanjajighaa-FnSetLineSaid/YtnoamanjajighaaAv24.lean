/- A call that has memory of its own lent, or gives some back: what the evaluator says of it holds. -/
import Derived.Test.YtnoamanjajighaaAv23
set_option linter.unusedVariables false
set_option linter.unusedSimpArgs false
namespace Go.Av
open Go Go.RowKit

section
variable {R : Type} {P : Program} {w0 : Root} {Fz0 : Nat → Prop} {ι : Nat → HI} {Fz : Nat → Prop} {w : World}
theorem resT_val {l : List AV} {vs : List Value} (h : RVs ι Fz w l vs) : RV ι Fz w (resT l) (if hh : vs.length = 1 then vs[0] else .tuple vs.toArray) := by
  have hlen := RVs_len h
  match l with
  | [] =>
    simp only [List.length_nil] at hlen
    rw [dif_neg (by omega)]
    simp only [resT, RV]
    exact ⟨vs, rfl, h⟩
  | [a] =>
    simp only [RVs] at h
    obtain ⟨v, r, rfl, h1, rfl⟩ := h
    simpa [resT] using h1
  | a :: b :: l =>
    simp only [List.length_cons] at hlen
    rw [dif_neg (by omega)]
    simp only [resT, RV]
    exact ⟨vs, rfl, h⟩
theorem findC2_of {f : FuncId} {H : List (Nat × AB)} {vs : List AV} {K : (c : Con2) → ShDs c.ins → List (Option Nat) → List AV → Option R} {K0 : Option R} {r : R} :
    ∀ {c2 : List Con2}, findC2 c2 f H vs K K0 = some r → (K0 = some r) ∨ ∃ c ∈ c2, c.fid = f ∧ ∃ x os ls, matchShs H c.ins vs = some (x, os, ls) ∧ K c x os ls = some r
  | [], h => .inl h
  | c :: l, h => by
    unfold findC2 at h
    cases hf : Nat.beq c.fid f with
    | false =>
      rw [hf, cond_false] at h
      rcases findC2_of (c2 := l) h with h | ⟨c', hc, h⟩
      · exact .inl h
      · exact .inr ⟨c', List.mem_cons_of_mem _ hc, h⟩
    | true =>
      rw [hf, cond_true] at h
      split at h
      · rename_i p hp
        obtain ⟨x, os, ls⟩ := p
        exact .inr ⟨c, by simp, Nat.eq_of_beq_eq_true hf, x, os, ls, hp, h⟩
      · rcases findC2_of (c2 := l) h with h | ⟨c', hc, h⟩
        · exact .inl h
        · exact .inr ⟨c', List.mem_cons_of_mem _ hc, h⟩
theorem callX_core {fr : Bool} {st st1 : St} {a : Act} {c : Con2} {avs : List AV} {x : ShDs c.ins} {os : List (Option Nat)} {ls : List AV} {vals : List Value} {d : Nat} {K : AV → List (Nat × AB) → List Nat → Option R} {r : R}
    (hs : c.Sound P w0.gl) (b : Behind w0 Fz0 ι Fz st a w) (hm : matchShs st.H c.ins avs = some (x, os, ls)) (hv : RVs ι Fz w avs vals) (hok : ownOk os ls = true) (hready : (∀ k ∈ someN os, (getH st.H k).live) → (∀ k ∈ someN os, mentL k ls = false) → ∃ (F1 Fa : Nat → Prop), Behind w0 Fz0 ι Fa st1 a w ∧ (∀ b, Fz b → F1 b) ∧ (∀ b, Fa b → F1 b) ∧ (∀ b, F1 b → b < w.heap.size) ∧
      (∀ k, mentL k ls = true → (getH st.H k).live → (ι k).virt = false → F1 (ι k).blk) ∧ (∀ k ∈ someN os, (ι k).virt = false → ¬ F1 (ι k).blk) ∧ (∀ k, (getH st1.H k).live → (getH st.H k).live) ∧
      (allSafe c.alts = true ∨ F1 = Fa)) (h : callX fr c x os st1.df d K = some r) :
    ∃ v ks nf, K v ks nf = some r ∧ nf.all (okNew st1.df) = true ∧ (∀ n ∈ nf, n ∈ ks.map Prod.fst) ∧ CallGives P c.fid vals w fun v' w' => ∃ (ι' : Nat → HI) (Fz' : Nat → Prop), Behind w0 Fz0 ι' Fz' ⟨(freshL nf st1).fr, ks ++ (freshL nf st1).H, (freshL nf st1).df⟩ a w' ∧ RV ι' Fz' w' v v' ∧ (∀ n, n ∉ nf → ι' n = ι n) := by
  unfold callX at h
  obtain ⟨y, hy, h⟩ := Option.bind_eq_some_iff.1 h
  obtain ⟨al, dd, hal, h, halt⟩ := altK_of _ _ _ _ h
  simp only at h
  generalize hns0 : al.names fr c.ins os d = ns0 at h
  generalize hns : ovr os (fixL al.all) ns0 = ns at h
  generalize hkt : keepTops c.ins al.fins os ++ fixN os (fixL al.all) = kt at h
  generalize hnf : notIn kt ns = nf at h
  cases hc : (finsOk c.ins al.fins && nodupN ns && nf.all (okNew st1.df) && (parsL al.all).all (fun i => !memN nf (ownAt os i)) && (wparsL al.all).all (fun i => !memN nf (ownAt os i) && ownSome os i) && (fixI (fixL al.all)).all (ownSome os) && tOk (keepTops c.ins al.fins os) ns0 ns) with
  | false => rw [hc] at h; cases h
  | true =>
  rw [hc, cond_true] at h
  simp only [Bool.and_eq_true] at hc
  obtain ⟨⟨⟨⟨⟨⟨hfins, hnd⟩, hnew⟩, hpars⟩, hwpars⟩, hfixo⟩, htok⟩ := hc
  have hns0l : ns0.length = cnts al.all := by
    rw [← hns0, Alt.names, List.length_append, nameL_len, keepNames_len _ _ _ _ _ _ hfins, Alt.all, cnts_append]
  have hnsl : ns.length = cnts al.all := by rw [← hns, ovr_len, hns0l]
  cases hsub : subOk c.ins al.fins x (dropSh al.ress (keepS al.fins) dd) with
  | false => rw [hsub] at h; cases h
  | true =>
  rw [hsub, cond_true] at h
  have hnd := nodupN_iff hnd
  simp only [ownOk, Bool.and_eq_true] at hok
  have hod := nodupN_iff hok.1
  have hlent : ∀ k ∈ someN os, mentL k ls = false := fun k hk => by
    have := List.all_eq_true.1 hok.2 k hk
    simpa using this
  have m := b.2.2
  have hms := matchShs_of m.rb m.cn (Fz' := fun _ => True) (fun _ _ => trivial) c.ins avs x os ls vals hm hv (fun _ _ _ _ => trivial)
  have hlive := hms.2
  obtain ⟨F1, Fa, b1, f1, f2, f3, f4, f5, f6, f7⟩ := hready hlive hlent
  have m1 := b1.2.2
  obtain ⟨hrs, _⟩ := matchShs_of m.rb m.cn f1 c.ins avs x os ls vals hm hv f4
  -- the own blocks
  have hos1 : ∀ i ∈ os.map (hiOf ι), i.virt = false → ∃ k ∈ someN os, ι k = i := by
    intro i hi hvi
    obtain ⟨o, ho, rfl⟩ := List.mem_map.1 hi
    cases o with
    | none => simp [hiOf] at hvi
    | some k => exact ⟨k, mem_someN.2 ho, rfl⟩
  have hos : OsOk F1 w (os.map (hiOf ι)) := by
    refine ⟨fun i hi hvi => ?_, fun j k p q hj hk hp hq he => ?_⟩
    · obtain ⟨g, hg, rfl⟩ := hos1 i hi hvi
      exact ⟨(m.sep g (hlive g hg) hvi).2.1, f5 g hg hvi⟩
    · rw [List.getElem?_map, Option.map_eq_some_iff] at hj hk
      obtain ⟨oj, hj, rfl⟩ := hj
      obtain ⟨ok, hk, rfl⟩ := hk
      cases oj with
      | none => simp [hiOf] at hp
      | some gj =>
        cases ok with
        | none => simp [hiOf] at hq
        | some gk =>
          have e := m.inj gj gk (hlive _ (mem_someN.2 (List.mem_of_getElem? hj))) (hlive _ (mem_someN.2 (List.mem_of_getElem? hk))) hp hq he
          subst e
          exact someN_nodup hod hj hk
  have hownW : ∀ k, ownW w (os.map (hiOf ι)) k → w0.own k := by
    rintro k (hk | ⟨i, hi, hvi, rfl⟩)
    · exact w0.big k (Nat.le_trans m.below.size hk)
    · obtain ⟨g, hg, rfl⟩ := hos1 i hi hvi
      exact (m.sep g (hlive g hg) hvi).1
  have other : ∀ k, (getH st1.H k).live → k ∉ someN os → (ι k).virt = false → ¬ ownW w (os.map (hiOf ι)) (ι k).blk := by
    rintro k hl hk hvk (hlt | ⟨i, hi, hvi, he⟩)
    · have := (m1.sep k hl hvk).2.1; omega
    · obtain ⟨g, hg, rfl⟩ := hos1 i hi hvi
      exact hk (m.inj g k (hlive g hg) (f6 k hl) hvi hvk he ▸ hg)
  have hksn : ∀ (rr : List AV × List (Nat × AB) × List Nat), rr.2.1.map Prod.fst = ns → ∀ n ∈ nf, n ∈ (rr.2.1 ++ goneL (someN os)).map Prod.fst := by
    intro rr h4 n hn
    rw [List.map_append, List.mem_append, h4]
    left
    rw [← hnf] at hn
    exact (mem_notIn.1 hn).1
  refine ⟨_, _, _, h, hnew, hksn _ ?_, (hs w F1 _ x vals _ y f3 (m.gok.mono (fun _ _ => rfl) f1) hrs hos hy).mono ?_⟩
  · rw [renders_fst _ _ _ _ (by omega)]
    rw [List.take_of_length_le (by omega)]
  rintro v' w' ⟨hbel, Fz', os', g1, g2, g3, hA, hok', hown⟩
  obtain ⟨vs, hvl, hv', hR⟩ := halt _ _ _ _ _ _ hA
  obtain ⟨o1, o2, ho12, ho1, hR2⟩ := RSs_split al.ress (keepS al.fins) dd vs (keepV al.fins vals) os' hvl hR
  obtain ⟨k1, k2⟩ := keep_of ι fr d c.ins al.fins vals x os _ o2 (cnts al.ress) hfins hsub hrs hR2
  have hnl : ns.length = os'.length := by rw [hnsl, RSs_cnt _ _ _ _ hR]
  have hkeep : ∀ n ∈ kt, ∃ j : Nat, ns[j]? = some n ∧ os'[j]? = some (ι n) := by
    intro n hn
    rw [← hkt] at hn
    rcases List.mem_append.1 hn with hn | hn
    · obtain ⟨j, a1, a2⟩ := k1 n hn
      refine ⟨cnts al.ress + j, ?_, ?_⟩
      · refine tOk_at htok (by omega) ?_ hn
        rw [← hns0, Alt.names, List.getElem?_append_right (by rw [nameL_len]; omega), nameL_len]; simpa using a1
      · rw [ho12, List.getElem?_append_right (by omega), ho1]; simpa using a2
    · obtain ⟨j, i, a1, rfl, a3⟩ := mem_fixN os _ n hn
      have hjl : j < cnts al.all := by rw [← fixL_len]; exact (List.getElem?_eq_some_iff.1 a1).1
      refine ⟨j, by rw [← hns]; exact ovr_fix os _ _ j i a1 (by omega), ?_⟩
      rw [fixL_of _ _ _ _ hR j i a1, ownSome_of ι os i (List.all_eq_true.1 hfixo i a3)]
  have hι : ∀ n, n ∉ nf → assignN ns os' ι n = ι n := by
    intro n hn
    by_cases hin : n ∈ ns
    · have : n ∈ kt := by
        apply Classical.byContradiction
        intro hno
        exact hn (by rw [← hnf]; exact mem_notIn.2 ⟨hin, hno⟩)
      obtain ⟨j, a1, a2⟩ := hkeep n this
      exact assignN_at hnd a1 a2
    · exact assignN_not hin
  have hnfns : ∀ n, n ∉ ns → n ∉ nf := fun n hn hin => hn (by rw [← hnf] at hin; exact (mem_notIn.1 hin).1)
  have hnamed : Named (assignN ns os' ι) ns os' := assignN_named hnd (by omega)
  -- what is frozen behind it
  obtain ⟨Fb, p1, p2, p3, hRb, p4⟩ : ∃ Fb : Nat → Prop, (∀ b, Fa b → Fb b) ∧ (∀ b, Fb b → b < w'.heap.size) ∧ (∀ b, Fb b → Fa b ∨ ownW w (os.map (hiOf ι)) b) ∧
      RSs (fun i => (os.map (hiOf ι)).getD i ⟨0, 0, 0, true⟩) Fb w' al.all dd (vs ++ keepV al.fins vals) os' ∧ (∀ b, Fb b → Fz' b) := by
    rcases f7 with hsafe | rfl
    · have hsf : safeL al.all = true := List.all_eq_true.1 hsafe al hal
      exact ⟨Fa, fun _ h => h, fun k hk => Nat.lt_of_lt_of_le (m1.fz k hk) hbel.size, fun _ h => .inl h, RSs_safe _ _ _ _ hsf hR, fun k hk => g1 _ (f2 k hk)⟩
    · exact ⟨Fz', g1, g3, g2, hR, fun _ h => h⟩
  have hpi : ∀ i ∈ parsL al.all, ((os.map (hiOf ι)).getD i ⟨0, 0, 0, true⟩).virt = false → assignN ns os' ι (ownAt os i) = (os.map (hiOf ι)).getD i ⟨0, 0, 0, true⟩ := by
    intro i hi hvi
    have h1 := List.all_eq_true.1 hpars i hi
    rw [hι (ownAt os i) (fun hin => by rw [memN_iff.2 hin] at h1; cases h1)]
    exact ownAt_of ι os i hvi
  have hpw : ∀ i ∈ wparsL al.all, assignN ns os' ι (ownAt os i) = (os.map (hiOf ι)).getD i ⟨0, 0, 0, true⟩ := by
    intro i hi
    have h1 := List.all_eq_true.1 hwpars i hi
    rw [Bool.and_eq_true] at h1
    rw [hι (ownAt os i) (fun hin => by rw [memN_iff.2 hin] at h1; cases h1.1)]
    exact ownSome_of ι os i h1.2
  obtain ⟨q1, q2, q3, q4⟩ := renderShs_of (ι := assignN ns os' ι) al.all ⟨hpi, hpw⟩ dd _ os' ns hRb hnamed
  rw [← hnl, List.take_length] at q4
  generalize renderShs (ownAt os) al.all dd ns = rr at q1 q2 q3 q4 ⊢
  have hw : ∀ k, Fa k → w'.heap[k]? = w.heap[k]? := fun k hk => hbel.block k (by
    rintro (hlt | ⟨i, hi, hvi, rfl⟩)
    · have := m1.fz k hk; omega
    · exact (hos.lt i hi hvi).2 (f2 _ hk))
  obtain ⟨s1, s2, s3⟩ := freshL_spec nf st1
  have eH : ∀ k, (∃ (bb : AB) (j : Nat) (i : HI), (k, bb) ∈ rr.2.1 ∧ getH ((rr.2.1 ++ goneL (someN os)) ++ (freshL nf st1).H) k = bb ∧ ns[j]? = some k ∧ os'[j]? = some i ∧ assignN ns os' ι k = i) ∨
      (getH ((rr.2.1 ++ goneL (someN os)) ++ (freshL nf st1).H) k = .gone) ∨
      (k ∉ ns ∧ k ∉ someN os ∧ getH ((rr.2.1 ++ goneL (someN os)) ++ (freshL nf st1).H) k = AB.strikeLs nf (getH st1.H k)) := by
    intro k
    rw [List.append_assoc]
    rcases getH_entries rr.2.1 (goneL (someN os) ++ (freshL nf st1).H) k with ⟨bb, a1, a2⟩ | ⟨a1, a2⟩
    · left
      have hk : k ∈ ns := by rw [← q4]; exact List.mem_map_of_mem (f := Prod.fst) a1
      obtain ⟨j, hj⟩ := List.mem_iff_getElem?.1 hk
      have hjl := (List.getElem?_eq_some_iff.1 hj).1
      have hi : os'[j]? = some os'[j] := List.getElem?_eq_getElem (by omega)
      exact ⟨bb, j, _, a1, a2, hj, hi, assignN_at hnd hj hi⟩
    · right
      rw [q4] at a1
      rcases goneL_spec (someN os) (freshL nf st1).H k with ⟨c1, c2⟩ | ⟨c1, c2⟩
      · left; rw [a2, c2]
      · right; exact ⟨a1, c1, by rw [a2, c2, s2]⟩
  refine ⟨assignN ns os' ι, Fb, ⟨fun t => ?_, ?_, ⟨?_, p2, fun k hk => p1 _ (m1.fz0 k hk), fun k hk => ?_, fun k => ?_, fun k hl hvk => ?_, fun k k' hl hl' hvk hvk' he => ?_, fun k hk => ?_, fun k => ?_, m.gz⟩⟩, ?_⟩
  · show RV _ _ _ (getF (freshL nf st1).fr t) _
    rw [s1]
    exact RV_strikeLs hw p1 hι (b1.1 t)
  · show RD _ _ _ (freshL nf st1).df _
    rw [s3]
    refine RD_mono hw p1 _ _ (fun k hk => hι k fun hin => ?_) b1.2.1
    have := (okNew_df (List.all_eq_true.1 hnew k hin)).1
    simp [okDf, hk] at this
  · exact m.below.trans ⟨hbel.os, hbel.tape, hbel.output, hbel.size, fun k hk => hbel.block k fun ho => hk (hownW k ho)⟩
  · rcases p3 k hk with hk | hk
    · exact m1.fzn k hk
    · exact .inr (hownW k hk)
  · rcases eH k with ⟨bb, j, i, a1, a2, _⟩ | a2 | ⟨a1, c1, a2⟩
    · show RB _ _ _ k (getH _ k); rw [a2]; exact (q2 _ a1).1
    · show RB _ _ _ k (getH _ k); rw [a2]; trivial
    · show RB _ _ _ k (getH _ k); rw [a2]
      exact RB_strikeLs hw p1 hι (hι k (hnfns k a1)) (fun hl hvk => hbel.block _ (other k hl c1 hvk)) (m1.rb k)
  · rcases eH k with ⟨bb, j, i, a1, a2, a3, a4, a5⟩ | a2 | ⟨a1, c1, a2⟩
    · have hi : i ∈ os' := List.mem_of_getElem? a4
      rw [a5] at hvk ⊢
      exact ⟨hownW _ (hown i hi hvk), (hok'.lt i hi hvk).1, fun hF => (hok'.lt i hi hvk).2 (p4 _ hF)⟩
    · have hl : (getH ((rr.2.1 ++ goneL (someN os)) ++ (freshL nf st1).H) k).live := hl
      rw [a2] at hl; exact hl.elim
    · have hl : (getH ((rr.2.1 ++ goneL (someN os)) ++ (freshL nf st1).H) k).live := hl
      rw [a2, live_strikeLs] at hl
      rw [hι k (hnfns k a1)] at hvk ⊢
      obtain ⟨x1, x2, x3⟩ := m1.sep k hl hvk
      refine ⟨x1, Nat.lt_of_lt_of_le x2 hbel.size, fun hF => ?_⟩
      rcases p3 _ hF with hF | hF
      · exact x3 hF
      · exact other k hl c1 hvk hF
  · have hl : (getH ((rr.2.1 ++ goneL (someN os)) ++ (freshL nf st1).H) k).live := hl
    have hl' : (getH ((rr.2.1 ++ goneL (someN os)) ++ (freshL nf st1).H) k').live := hl'
    rcases eH k with ⟨bb, j, i, a1, a2, a3, a4, a5⟩ | a2 | ⟨a1, c1, a2⟩
    · rw [a5] at hvk he
      rcases eH k' with ⟨bb', j', i', b1', b2', b3', b4', b5'⟩ | b2' | ⟨b1', d1, b2'⟩
      · rw [b5'] at hvk' he
        have := hok'.ne j j' i i' a4 b4' hvk hvk' he
        subst this
        exact Option.some.inj (a3.symm.trans b3')
      · rw [b2'] at hl'; exact hl'.elim
      · rw [b2', live_strikeLs] at hl'
        rw [hι k' (hnfns k' b1')] at hvk' he
        exact absurd (he ▸ hown i (List.mem_of_getElem? a4) hvk) (other k' hl' d1 hvk')
    · rw [a2] at hl; exact hl.elim
    · rw [a2, live_strikeLs] at hl
      rw [hι k (hnfns k a1)] at hvk he
      rcases eH k' with ⟨bb', j', i', b1', b2', b3', b4', b5'⟩ | b2' | ⟨b1', d1, b2'⟩
      · rw [b5'] at hvk' he
        exact absurd (he ▸ hown i' (List.mem_of_getElem? b4') hvk') (other k hl c1 hvk)
      · rw [b2'] at hl'; exact hl'.elim
      · rw [b2', live_strikeLs] at hl'
        rw [hι k' (hnfns k' b1')] at hvk' he
        exact m1.inj k k' hl hl' hvk hvk' he
  · have : k ∉ nf := fun hin => by
      have := (okNew_df (List.all_eq_true.1 hnew k hin)).2
      omega
    rw [hι k this]
    exact m1.iot k hk
  · show Cn _ (getH ((rr.2.1 ++ goneL (someN os)) ++ (freshL nf st1).H) k)
    rcases eH k with ⟨bb, j, i, a1, a2, _⟩ | a2 | ⟨a1, c1, a2⟩
    · rw [a2]; exact (q2 _ a1).2.1
    · rw [a2]; trivial
    · rw [a2, Cn_strikeLs, hι k (hnfns k a1)]; exact m1.cn k
  · have q5 := RVs_take al.ress.length q1
    rw [← hvl, List.take_left, hvl] at q5
    rw [hv']
    exact ⟨resT_val q5, hι⟩
/-- What is frozen ahead of a call, in the text's order. -/
theorem ready_frz {st st1 : St} {a : Act} {c : Con2} {os : List (Option Nat)} {ls : List AV} (b : Behind w0 Fz0 ι Fz st a w) (hst1 : (bif allSafe c.alts then some st else frzArgs st ls) = some st1)
    (hlive : ∀ k ∈ someN os, (getH st.H k).live) (hlent : ∀ k ∈ someN os, mentL k ls = false) : ∃ (F1 Fa : Nat → Prop), Behind w0 Fz0 ι Fa st1 a w ∧ (∀ b, Fz b → F1 b) ∧ (∀ b, Fa b → F1 b) ∧ (∀ b, F1 b → b < w.heap.size) ∧
      (∀ k, mentL k ls = true → (getH st.H k).live → (ι k).virt = false → F1 (ι k).blk) ∧ (∀ k ∈ someN os, (ι k).virt = false → ¬ F1 (ι k).blk) ∧ (∀ k, (getH st1.H k).live → (getH st.H k).live) ∧
      (allSafe c.alts = true ∨ F1 = Fa) := by
    have m := b.2.2
    cases hsafe : allSafe c.alts with
    | true =>
      rw [hsafe, cond_true] at hst1
      simp only [Option.some.injEq] at hst1
      subst hst1
      refine ⟨fun k => Fz k ∨ ∃ g, (getH st.H g).live ∧ g ∉ someN os ∧ (ι g).virt = false ∧ (ι g).blk = k, Fz, b, fun _ h => .inl h, fun _ h => .inl h, ?_, ?_, ?_, fun _ h => h, .inl rfl⟩
      · rintro k (hk | ⟨g, h1, _, h2, rfl⟩)
        · exact m.fz k hk
        · exact (m.sep g h1 h2).2.1
      · intro k hk hl hvk
        exact .inr ⟨k, hl, (fun hin => by rw [hlent k hin] at hk; cases hk), hvk, rfl⟩
      · rintro k hk hvk (hF | ⟨g, h1, h2, h3, h4⟩)
        · exact (m.sep k (hlive k hk) hvk).2.2 hF
        · exact h2 (m.inj g k h1 (hlive k hk) h3 hvk h4 ▸ hk)
    | false =>
      rw [hsafe, cond_false] at hst1
      obtain ⟨F1, g1, b1, g2, g3, g4⟩ := frzArgs_of _ hst1 b
      exact ⟨F1, F1, b1, g1, fun _ h => h, b1.2.2.fz, g2, fun k hk hvk => (b1.2.2.sep k (g3 k (hlent k hk) (hlive k hk)) hvk).2.2, g4, .inr rfl⟩
/-- .. and in a drawn region. -/
theorem gone1_of {st : St} {a : Act} {h : Nat} {e : TypeId} {κ : Kd} {xs : List (Den κ)} (b : Behind w0 Fz0 ι Fz st a w) (hg : getH st.H h = .arr e κ xs) :
    ∃ Fz' : Nat → Prop, (∀ b, Fz b → Fz' b) ∧ Behind w0 Fz0 ι Fz' ⟨st.fr, (h, .gone) :: st.H, st.df⟩ a w ∧ ((ι h).virt = false → Fz' (ι h).blk) := by
  have m := b.2.2
  have hlive : (getH st.H h).live := by rw [hg]; trivial
  refine ⟨fun k => Fz k ∨ ((ι h).virt = false ∧ k = (ι h).blk), fun _ h => .inl h, ⟨fun t => ?_, ?_, ?_⟩, fun hv => .inr ⟨hv, rfl⟩⟩
  · exact RV_mono (fun _ _ => rfl) (fun _ h => .inl h) _ _ (fun _ _ => rfl) (b.1 t)
  · exact RD_mono (fun _ _ => rfl) (fun _ h => .inl h) _ _ (fun _ _ => rfl) b.2.1
  · have e : ∀ k, getH ((h, .gone) :: st.H) k = if h = k then .gone else getH st.H k := fun k => by rw [getH_cons]
    have live : ∀ k, (getH ((h, .gone) :: st.H) k).live → k ≠ h ∧ (getH st.H k).live := fun k hk => by
      rw [e] at hk
      split at hk
      · exact hk.elim
      · rename_i hne; exact ⟨Ne.symm hne, hk⟩
    refine ⟨m.below, fun k hk => ?_, fun k hk => .inl (m.fz0 k hk), fun k hk => ?_, fun k => ?_, fun k hk hv => ?_, fun k k' hk hk' => m.inj k k' (live k hk).2 (live k' hk').2, m.iot, fun k => ?_, m.gz⟩
    · rcases hk with hk | ⟨hv, rfl⟩
      · exact m.fz k hk
      · exact (m.sep h hlive hv).2.1
    · rcases hk with hk | ⟨hv, rfl⟩
      · exact m.fzn k hk
      · exact .inr (m.sep h hlive hv).1
    · show RB _ _ _ k (getH ((h, .gone) :: st.H) k)
      rw [e]; split
      · trivial
      · exact RB_mono (fun _ _ => rfl) (fun _ h => .inl h) (fun _ _ => rfl) (m.rb k)
    · obtain ⟨hne, hl⟩ := live k hk
      obtain ⟨a1, a2, a3⟩ := m.sep k hl hv
      refine ⟨a1, a2, fun hf => ?_⟩
      rcases hf with hf | ⟨hv', e⟩
      · exact a3 hf
      · exact hne (m.inj k h hl hlive hv hv' e)
    · rw [e]; split
      · trivial
      · exact m.cn k
theorem gonesOf_of : ∀ (avs : List AV) {Fz : Nat → Prop} {st : St} {gs : List (Nat × AB)} {a : Act}, gonesOf avs st.H = some gs → Behind w0 Fz0 ι Fz st a w →
    (∀ e ∈ gs, e.2 = .gone) ∧ ∃ Fz' : Nat → Prop, (∀ b, Fz b → Fz' b) ∧ Behind w0 Fz0 ι Fz' ⟨st.fr, gs ++ st.H, st.df⟩ a w ∧ (∀ h, mentL h avs = true → (getH st.H h).live → (ι h).virt = false → Fz' (ι h).blk) ∧
      (∀ h, mentL h avs = false → (getH st.H h).live → (getH (gs ++ st.H) h).live) ∧ (∀ h, (getH (gs ++ st.H) h).live → (getH st.H h).live)
  | [], Fz, st, gs, a, h, b => by
    simp only [gonesOf, Option.some.injEq] at h
    subst h
    exact ⟨fun e he => by simp at he, Fz, fun _ h => h, b, fun h hm => by simp [mentL] at hm, fun _ _ h => h, fun _ h => h⟩
  | c :: cs, Fz, st, gs, a, h, b => by
    have step : ∀ (g : Nat), (match getH st.H g with | .arr _ _ _ => (gonesOf cs ((g, .gone) :: st.H)).bind fun gs => some (gs ++ [(g, .gone)]) | _ => none) = some gs → (∀ h, c.ment h = true → h = g) → c.ment g = true →
        (∀ e ∈ gs, e.2 = .gone) ∧ ∃ Fz' : Nat → Prop, (∀ b, Fz b → Fz' b) ∧ Behind w0 Fz0 ι Fz' ⟨st.fr, gs ++ st.H, st.df⟩ a w ∧ (∀ h, mentL h (c :: cs) = true → (getH st.H h).live → (ι h).virt = false → Fz' (ι h).blk) ∧
          (∀ h, mentL h (c :: cs) = false → (getH st.H h).live → (getH (gs ++ st.H) h).live) ∧ (∀ h, (getH (gs ++ st.H) h).live → (getH st.H h).live) := by
      intro g h hm hm'
      split at h <;> try (cases h; done)
      rename_i e κ xs hg
      obtain ⟨gs', hgs, h⟩ := Option.bind_eq_some_iff.1 h
      simp only [Option.some.injEq] at h
      subst h
      obtain ⟨F1, f1, b1, f2⟩ := gone1_of b hg
      obtain ⟨e0, F2, g1, b2, g2, g3, g4⟩ := gonesOf_of cs (st := ⟨st.fr, (g, .gone) :: st.H, st.df⟩) hgs b1
      have eH : (gs' ++ [(g, AB.gone)]) ++ st.H = gs' ++ ((g, .gone) :: st.H) := by simp
      have still : ∀ k, k ≠ g → getH ((g, .gone) :: st.H) k = getH st.H k := fun k hk => by rw [getH_cons, if_neg (Ne.symm hk)]
      rw [eH]
      refine ⟨fun e he => ?_, F2, fun _ h => g1 _ (f1 _ h), b2, fun k hk ha hv => ?_, fun k hk ha => ?_, fun k hk => ?_⟩
      · rcases List.mem_append.1 he with he | he
        · exact e0 e he
        · simp only [List.mem_singleton] at he; rw [he]
      · by_cases e : k = g
        · subst e; exact g1 _ (f2 hv)
        · simp only [mentL, Bool.or_eq_true] at hk
          rcases hk with hk | hk
          · exact absurd (hm k hk) e
          · exact g2 k hk (by show (getH ((g, .gone) :: st.H) k).live; rw [still k e]; exact ha) hv
      · have e : k ≠ g := fun e => by subst e; simp [mentL, hm'] at hk
        simp only [mentL, Bool.or_eq_false_iff] at hk
        exact g3 k hk.2 (by show (getH ((g, .gone) :: st.H) k).live; rw [still k e]; exact ha)
      · have hk2 : (getH ((g, .gone) :: st.H) k).live := g4 k hk
        by_cases e : k = g
        · subst e; rw [getH_cons, if_pos rfl] at hk2; exact hk2.elim
        · rwa [still k e] at hk2
    have skip : gonesOf cs st.H = some gs → (∀ h, c.ment h = false) →
        (∀ e ∈ gs, e.2 = .gone) ∧ ∃ Fz' : Nat → Prop, (∀ b, Fz b → Fz' b) ∧ Behind w0 Fz0 ι Fz' ⟨st.fr, gs ++ st.H, st.df⟩ a w ∧ (∀ h, mentL h (c :: cs) = true → (getH st.H h).live → (ι h).virt = false → Fz' (ι h).blk) ∧
          (∀ h, mentL h (c :: cs) = false → (getH st.H h).live → (getH (gs ++ st.H) h).live) ∧ (∀ h, (getH (gs ++ st.H) h).live → (getH st.H h).live) := by
      intro h hm
      obtain ⟨e0, F2, g1, b2, g2, g3, g4⟩ := gonesOf_of cs h b
      exact ⟨e0, F2, g1, b2, fun k hk ha hv => g2 k (by simpa [mentL, hm k] using hk) ha hv, fun k hk => g3 k (by simpa [mentL, hm k] using hk), g4⟩
    simp only [gonesOf] at h
    split at h
    · exact step _ h (fun k hk => by simp only [AV.ment] at hk; exact (Nat.eq_of_beq_eq_true hk).symm) (by simp [AV.ment])
    · exact step _ h (fun k hk => by simp only [AV.ment] at hk; exact (Nat.eq_of_beq_eq_true hk).symm) (by simp [AV.ment])
    · cases hfr : (c.free || !c.handled) with
      | false => rw [hfr] at h; cases h
      | true =>
        rw [hfr, cond_true] at h
        refine skip h fun k => ?_
        simp only [Bool.or_eq_true] at hfr
        rcases hfr with hfr | hfr
        · exact free_ment c hfr k
        · have := noH_ment (cs := [c]) (by simpa using hfr) k
          simpa [mentL] using this
theorem ready_gone {st : St} {gs : List (Nat × AB)} {a : Act} {c : Con2} {os : List (Option Nat)} {ls : List AV} (b : Behind w0 Fz0 ι Fz st a w) (hgs : gonesOf ls st.H = some gs)
    (hlive : ∀ k ∈ someN os, (getH st.H k).live) (hlent : ∀ k ∈ someN os, mentL k ls = false) : ∃ (F1 Fa : Nat → Prop), Behind w0 Fz0 ι Fa (St.mk st.fr (gs ++ st.H) st.df) a w ∧ (∀ b, Fz b → F1 b) ∧ (∀ b, Fa b → F1 b) ∧ (∀ b, F1 b → b < w.heap.size) ∧
      (∀ k, mentL k ls = true → (getH st.H k).live → (ι k).virt = false → F1 (ι k).blk) ∧ (∀ k ∈ someN os, (ι k).virt = false → ¬ F1 (ι k).blk) ∧ (∀ k, (getH (St.mk st.fr (gs ++ st.H) st.df).H k).live → (getH st.H k).live) ∧
      (allSafe c.alts = true ∨ F1 = Fa) := by
  obtain ⟨_, F1, g1, b1, g2, g3, g4⟩ := gonesOf_of _ hgs b
  exact ⟨F1, F1, b1, g1, fun _ h => h, b1.2.2.fz, g2, fun k hk hvk => (b1.2.2.sep k (g3 k (hlent k hk) (hlive k hk)) hvk).2.2, g4, .inr rfl⟩
theorem callX_of {fr : Bool} {st st1 : St} {a : Act} {c : Con2} {avs : List AV} {x : ShDs c.ins} {os : List (Option Nat)} {ls : List AV} {vals : List Value} {d : Nat} {K : AV → List (Nat × AB) → List Nat → Option R} {r : R}
    (hs : c.Sound P w0.gl) (b : Behind w0 Fz0 ι Fz st a w) (hm : matchShs st.H c.ins avs = some (x, os, ls)) (hv : RVs ι Fz w avs vals) (hok : ownOk os ls = true) (hst1 : (bif allSafe c.alts then some st else frzArgs st ls) = some st1) (h : callX fr c x os st1.df d K = some r) :
    ∃ v ks nf, K v ks nf = some r ∧ nf.all (okNew st1.df) = true ∧ (∀ n ∈ nf, n ∈ ks.map Prod.fst) ∧ CallGives P c.fid vals w fun v' w' => ∃ (ι' : Nat → HI) (Fz' : Nat → Prop), Behind w0 Fz0 ι' Fz' ⟨(freshL nf st1).fr, ks ++ (freshL nf st1).H, (freshL nf st1).df⟩ a w' ∧ RV ι' Fz' w' v v' ∧ (∀ n, n ∉ nf → ι' n = ι n) :=
  callX_core hs b hm hv hok (ready_frz b hst1) h
theorem call2_of {st : St} {a : Act} {c : Con2} {avs : List AV} {x : ShDs c.ins} {os : List (Option Nat)} {ls : List AV} {vals : List Value} {d : Nat} {K : AV → St → Option R} {r : R}
    (hs : c.Sound P w0.gl) (b : Behind w0 Fz0 ι Fz st a w) (hm : matchShs st.H c.ins avs = some (x, os, ls)) (hv : RVs ι Fz w avs vals) (h : call2 c x os ls st d K = some r) :
    ∃ v st', K v st' = some r ∧ CallGives P c.fid vals w fun v' w' => ∃ (ι' : Nat → HI) (Fz' : Nat → Prop), Behind w0 Fz0 ι' Fz' st' a w' ∧ RV ι' Fz' w' v v' := by
  unfold call2 at h
  cases hok : ownOk os ls with
  | false => rw [hok] at h; cases h
  | true =>
  rw [hok, cond_true] at h
  obtain ⟨st1, hst1, h⟩ := Option.bind_eq_some_iff.1 h
  obtain ⟨v, ks, nf, hk, _, _, hg⟩ := callX_of hs b hm hv hok hst1 h
  exact ⟨v, _, hk, hg.mono fun v' w' ⟨ι', Fz', h1, h2, _⟩ => ⟨ι', Fz', h1, h2⟩⟩
end
end Go.Av
