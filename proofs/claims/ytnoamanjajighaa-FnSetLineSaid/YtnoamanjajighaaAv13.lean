/- What is done at the head of a region; code; functions. -/
import Derived.Test.YtnoamanjajighaaAv18
set_option linter.unusedVariables false
set_option linter.unusedSimpArgs false
namespace Go.Av
open Go Go.RowKit

section
variable {R : Type} {P : Program} {w0 : Root} {Fz0 : Nat → Prop} {ι : Nat → HI} {Fz : Nat → Prop} {H : List (Nat × AB)} {w : World}

/-! ### the head of a region -/
theorem getF_keep (fr : List (Nat × AV)) : ∀ (l : List Nat) (t : Nat), getF (keepFr fr l) t = getF fr t ∨ getF (keepFr fr l) t = .dead
  | [], t => .inr rfl
  | s :: l, t => by
    show getF ((s, getF fr s) :: keepFr fr l) t = _ ∨ getF ((s, getF fr s) :: keepFr fr l) t = _
    rw [getF_cons]
    by_cases e : s = t
    · subst e; left; simp
    · rw [if_neg e]; exact getF_keep fr l t
theorem getH_keep (H : List (Nat × AB)) : ∀ (l : List Nat) (t : Nat), getH (keepHp H l) t = getH H t ∨ getH (keepHp H l) t = .gone
  | [], t => .inr rfl
  | s :: l, t => by
    show getH ((s, getH H s) :: keepHp H l) t = _ ∨ getH ((s, getH H s) :: keepHp H l) t = _
    rw [getH_cons]
    by_cases e : s = t
    · subst e; left; simp
    · rw [if_neg e]; exact getH_keep H l t
theorem Behind.keep {st : St} {a : Act} (b : Behind w0 Fz0 ι Fz st a w) (l l' : List Nat) : Behind w0 Fz0 ι Fz ⟨keepFr st.fr l, keepHp st.H l', st.df⟩ a w := by
  refine ⟨fun t => ?_, b.2.1, b.2.2.drop (getH_keep st.H l')⟩
  rcases getF_keep st.fr l t with e | e
  · rw [e]; exact b.1 t
  · rw [e]; simp [RV]
/-- One name for another. -/
theorem RV_ren {ι' : Nat → HI} {g h : Nat} (hι : ∀ k, k ≠ h → ι' k = ι k) (hh : ι' h = ι g) {a : AV} {v : Value} (hm : a.ment h = false) (hr : RV ι Fz w a v) : RV ι' Fz w (a.ren g h) v := by
  have strike : RV ι' Fz w (a.strike g) v := by
    unfold AV.strike
    cases hg : a.ment g with
    | true => simp [RV]
    | false =>
      simp only [cond_false]
      exact RV_mono (fun _ _ => rfl) (fun _ h => h) a v (fun k hk => hι k (fun e => by rw [e, hm] at hk; cases hk)) hr
  cases a with
  | own κ k =>
    simp only [AV.ren]
    cases hg : Nat.beq k g with
    | true => have e := Nat.eq_of_beq_eq_true hg; subst e; simp only [cond_true, RV] at hr ⊢; rw [hh]; exact hr
    | false => simp only [cond_false]; exact RV_mono (fun _ _ => rfl) (fun _ h => h) _ v (fun k' hk => hι k' (fun e => by rw [e, hm] at hk; cases hk)) hr
  | sub κ k off len =>
    simp only [AV.ren]
    cases hg : Nat.beq k g with
    | true => have e := Nat.eq_of_beq_eq_true hg; subst e; simp only [cond_true, RV] at hr ⊢; rw [hh]; exact hr
    | false => simp only [cond_false]; exact RV_mono (fun _ _ => rfl) (fun _ h => h) _ v (fun k' hk => hι k' (fun e => by rw [e, hm] at hk; cases hk)) hr
  | _ => exact strike
theorem ment_strike (h : Nat) (a : AV) : (a.strike h).ment h = false := by
  unfold AV.strike
  cases hm : a.ment h with
  | true => rfl
  | false => simpa using hm
theorem RVs_ren {ι' : Nat → HI} {g h : Nat} (hι : ∀ k, k ≠ h → ι' k = ι k) (hh : ι' h = ι g) : ∀ {cs : List AV} {vs : List Value}, (∀ c ∈ cs, c.ment h = false) → RVs ι Fz w cs vs → RVs ι' Fz w (cs.map (AV.ren g h)) vs
  | [], vs, _, h => by simp only [RVs, List.map_nil] at h ⊢; exact h
  | c :: cs, vs, hm, h => by
    simp only [RVs, List.map_cons] at h ⊢
    obtain ⟨v, r, e, h1, h2⟩ := h
    exact ⟨v, r, e, RV_ren hι hh (hm c (by simp)) h1, RVs_ren hι hh (fun c hc => hm c (by simp [hc])) h2⟩
theorem ren_of {st : St} {a : Act} {g h : Nat} {e' : TypeId} {κ' : Kd} {xs : List (Den κ')} (b : Behind w0 Fz0 ι Fz st a w) (hgh : g ≠ h) (hdn : okNew st.df h = true) (hd2 : okDf st.df g = true) (hg : getH st.H g = .arr e' κ' xs) :
    Behind w0 Fz0 (upd ι h (ι g)) Fz ⟨(st.fresh h).fr.map fun (t, v) => (t, v.ren g h), (h, .arr e' κ' xs) :: (g, .gone) :: (st.fresh h).H.map fun (t, b) => (t, b.ren g h), (st.fresh h).df⟩ a w := by
  have m := b.2.2
  have hd1 := (okNew_df hdn).1
  have hι : ∀ k, k ≠ h → upd ι h (ι g) k = ι k := fun k hk => upd_ne _ _ _ hk
  have hh : upd ι h (ι g) h = ι g := upd_at _ _ _
  have hrb := m.rb g
  rw [hg] at hrb
  have hlive : (getH st.H g).live := by rw [hg]; trivial
  have eH : ∀ k, getH ((h, AB.arr e' κ' xs) :: (g, .gone) :: (st.fresh h).H.map fun (t, b) => (t, b.ren g h)) k = if h = k then .arr e' κ' xs else if g = k then .gone else ((getH st.H k).strike h).ren g h := fun k => by
    rw [getH_cons, getH_cons, getH_map (AB.ren g h) rfl]
    show (if h = k then _ else if g = k then _ else (getH (strikeH h st.H) k).ren g h) = _
    rw [getH_strike]
  have liveK : ∀ k, h ≠ k → (getH ((h, AB.arr e' κ' xs) :: (g, .gone) :: (st.fresh h).H.map fun (t, b) => (t, b.ren g h)) k).live → k ≠ g ∧ (getH st.H k).live := fun k hk hl => by
    rw [eH, if_neg hk] at hl
    split at hl
    · exact hl.elim
    · rename_i hne
      refine ⟨Ne.symm hne, ?_⟩
      revert hl
      cases getH st.H k <;> simp [AB.strike, AB.ren, AB.live]
  refine ⟨fun t => ?_, ?_, ⟨m.below, m.fz, m.fz0, m.fzn, fun k => ?_, fun k hk hv => ?_, fun k k' hk hk' hv hv' he => ?_, fun k hk => (upd_ne _ _ _ (by have := (okNew_df hdn).2; omega)).trans (m.iot k hk), fun k => ?_, m.gz⟩⟩
  · show RV _ _ _ (getF ((strikeF h st.fr).map fun (t, v) => (t, v.ren g h)) t) _
    rw [getF_map (AV.ren g h) rfl, getF_strike]
    exact RV_ren hι hh (ment_strike h _) (RV_strike (fun _ _ => rfl) (fun _ h => h) (fun _ _ => rfl) (b.1 t))
  · exact RD_mono (fun _ _ => rfl) (fun _ h => h) _ _ (fun k hk => hι k (fun e => by subst e; have hk : mentL k st.df = true := hk; simp [okDf, hk] at hd1)) b.2.1
  · rw [eH]
    by_cases e1 : h = k
    · subst e1
      rw [if_pos rfl]
      simp only [RB] at hrb ⊢
      rw [hh]
      exact hrb
    · rw [if_neg e1]
      by_cases e2 : g = k
      · rw [if_pos e2]; trivial
      · rw [if_neg e2]
        have hk := m.rb k
        generalize getH st.H k = bk at hk
        cases bk with
        | gone => trivial
        | box cs =>
          simp only [RB, AB.strike, AB.ren] at hk ⊢
          rw [hι k (Ne.symm e1)]
          obtain ⟨hv, vs, T, h1, h2, h3⟩ := hk
          refine ⟨hv, vs, T, h1, RVs_ren hι hh (fun c hc => ?_) (RVs_strike (d := h) (fun _ _ => rfl) (fun _ h => h) (fun _ _ => rfl) h2), h3⟩
          obtain ⟨c', _, rfl⟩ := List.mem_map.1 hc
          exact ment_strike h c'
        | arr e'' κ'' ys =>
          simp only [RB, AB.strike, AB.ren] at hk ⊢
          rw [hι k (Ne.symm e1)]
          exact hk
  · by_cases e1 : h = k
    · subst e1
      rw [hh] at hv ⊢
      exact m.sep g hlive hv
    · rw [hι k (Ne.symm e1)] at hv ⊢
      exact m.sep k (liveK k e1 hk).2 hv
  · by_cases e1 : h = k
    · subst e1
      by_cases e2 : h = k'
      · exact e2
      · rw [hh] at hv he
        rw [hι k' (Ne.symm e2)] at hv' he
        obtain ⟨n1, n2⟩ := liveK k' e2 hk'
        exact absurd (m.inj g k' hlive n2 hv hv' he).symm n1
    · by_cases e2 : h = k'
      · subst e2
        rw [hh] at hv' he
        rw [hι k (Ne.symm e1)] at hv he
        obtain ⟨n1, n2⟩ := liveK k e1 hk
        exact absurd (m.inj k g n2 hlive hv hv' he) n1
      · rw [hι k (Ne.symm e1)] at hv he
        rw [hι k' (Ne.symm e2)] at hv' he
        exact m.inj k k' (liveK k e1 hk).2 (liveK k' e2 hk').2 hv hv' he
  · rw [eH]
    by_cases e1 : h = k
    · subst e1
      rw [if_pos rfl, hh]
      have := m.cn g
      rwa [hg] at this
    · rw [if_neg e1, hι k (Ne.symm e1)]
      split
      · trivial
      · have := m.cn k
        revert this
        cases getH st.H k <;> exact id

/-- A slot that must hold a row of one's own. -/
theorem normOwn_of : ∀ (l : List (Nat × TypeId × Kd × Nat)) {ι : Nat → HI} {st st' : St} {a : Act}, normOwn l st = some st' → Behind w0 Fz0 ι Fz st a w → ∃ ι', Behind w0 Fz0 ι' Fz st' a w
  | [], ι, st, st', a, h, b => by
    simp only [normOwn, Option.some.injEq] at h
    subst h
    exact ⟨ι, b⟩
  | (t, e, κ, h') :: l, ι, st, st', a, h, b => by
    simp only [normOwn] at h
    obtain ⟨st1, h1, h⟩ := Option.bind_eq_some_iff.1 h
    have : ∃ ι1, Behind w0 Fz0 ι1 Fz st1 a w := by
      unfold ownV at h1
      cases hd : okNew st.df h' with
      | false => rw [hd] at h1; cases h1
      | true =>
        rw [hd, Bool.not_true, cond_false] at h1
        split at h1
        · rename_i hv
          have hval := b.1 t
          rw [hv] at hval
          simp only [RV] at hval
          obtain ⟨p, q⟩ := b.virt (el := e) (κ := κ) hd
          simp only [Option.some.injEq] at h1
          subst h1
          refine ⟨_, fun s => ?_, p.2.1, p.2.2⟩
          show RV _ _ _ (getF ((t, _) :: strikeF h' st.fr) s) _
          rw [getF_cons]
          by_cases e1 : t = s
          · subst e1; rw [if_pos rfl, hval]; exact q
          · rw [if_neg e1]; exact p.1 s
        · rename_i κ0 g hv
          cases hg : Nat.beq g h' with
          | true => rw [hg, cond_true] at h1; simp only [Option.some.injEq] at h1; subst h1; exact ⟨ι, b⟩
          | false =>
            rw [hg, cond_false] at h1
            cases hd2 : okDf st.df g with
            | false => rw [hd2] at h1; cases h1
            | true =>
              rw [hd2, Bool.not_true, cond_false] at h1
              split at h1
              · rename_i e' κ' xs hgg
                simp only [Option.some.injEq] at h1
                subst h1
                exact ⟨_, ren_of b (fun e => by rw [e] at hg; simp at hg) hd hd2 hgg⟩
              · cases h1
        · cases h1
    obtain ⟨ι1, b1⟩ := this
    exact normOwn_of l h b1
theorem Behind.setCell {st : St} {a : Act} {bx j : Nat} {cs : List AV} {v : AV} (b : Behind w0 Fz0 ι Fz st a w) (hb : getH st.H bx = .box cs)
    (hv : ∀ vs : List Value, RVs ι Fz w cs vs → ∀ u, vs[j]? = some u → RV ι Fz w v u) : Behind w0 Fz0 ι Fz ⟨st.fr, (bx, .box (cs.set j v)) :: st.H, st.df⟩ a w := by
  have m := b.2.2
  have hrb := m.rb bx
  rw [hb] at hrb
  have hlive : (getH st.H bx).live := by rw [hb]; trivial
  simp only [RB] at hrb
  obtain ⟨hvt, vs, T, ⟨rest, hh⟩, hcs, h1⟩ := hrb
  refine ⟨b.1, b.2.1, m.upd hlive hvt (Upd.refl hh) ?_ trivial (by have := m.cn bx; rw [hb] at this; exact this)⟩
  simp only [RB]
  refine ⟨hvt, vs, T, ⟨rest, hh⟩, ?_, h1⟩
  rcases Nat.lt_or_ge j vs.length with hj | hj
  · have := RVs_set j hcs (hv vs hcs vs[j] (List.getElem?_eq_getElem hj))
    rwa [List.set_getElem_self hj] at this
  · rw [List.set_eq_of_length_le (by rw [RVs_len hcs]; exact hj)]; exact hcs
theorem normOwnC_of : ∀ (l : List (Nat × Nat × TypeId × Kd × Nat)) {ι : Nat → HI} {st st' : St} {a : Act}, normOwnC l st = some st' → Behind w0 Fz0 ι Fz st a w → ∃ ι', Behind w0 Fz0 ι' Fz st' a w
  | [], ι, st, st', a, h, b => by
    simp only [normOwnC, Option.some.injEq] at h
    subst h
    exact ⟨ι, b⟩
  | (bx, j, e, κ, h') :: l, ι, st, st', a, h, b => by
    simp only [normOwnC] at h
    split at h
    · rename_i cs hbx
      obtain ⟨st1, h1, h⟩ := Option.bind_eq_some_iff.1 h
      have : ∃ ι1, Behind w0 Fz0 ι1 Fz st1 a w := by
        unfold ownV at h1
        cases hd : okNew st.df h' with
        | false => rw [hd] at h1; cases h1
        | true =>
          rw [hd, Bool.not_true, cond_false] at h1
          split at h1
          · rename_i hv
            obtain ⟨p, q⟩ := b.virt (el := e) (κ := κ) hd
            unfold setC at h1
            dsimp only at h1
            split at h1
            · rename_i cs' hcs'
              simp only [Option.some.injEq] at h1
              subst h1
              refine ⟨_, p.setCell hcs' ?_⟩
              -- the cell held nil: it is the same cell of the struck box
              have hne : h' ≠ bx := fun e' => by
                subst e'
                simp [getH_cons] at hcs'
              have hcs2 : cs' = cs.map (AV.strike h') := by
                have : getH ((h', AB.arr e κ []) :: strikeH h' st.H) bx = .box cs' := hcs'
                rw [getH_cons, if_neg hne, getH_strike, hbx] at this
                simp only [AB.strike, AB.box.injEq] at this
                exact this.symm
              intro vs hvs u hu
              subst hcs2
              have hcj : cs[j]? = some .nils := by
                cases hc : cs[j]? with
                | none => rw [hc] at hv; simp at hv
                | some c => rw [hc] at hv; simp at hv; rw [hv]
              have : (cs.map (AV.strike h'))[j]? = some .nils := by rw [List.getElem?_map, hcj]; rfl
              obtain ⟨u', hu', hru⟩ := RVs_at hvs this
              rw [hu] at hu'
              simp only [Option.some.injEq] at hu'
              subst hu'
              simp only [RV] at hru
              rw [hru]; exact q
            · cases h1
          · rename_i κ0 g hv
            cases hg : Nat.beq g h' with
            | true => rw [hg, cond_true] at h1; simp only [Option.some.injEq] at h1; subst h1; exact ⟨ι, b⟩
            | false =>
              rw [hg, cond_false] at h1
              cases hd2 : okDf st.df g with
              | false => rw [hd2] at h1; cases h1
              | true =>
                rw [hd2, Bool.not_true, cond_false] at h1
                split at h1
                · rename_i e' κ' xs hgg
                  simp only [Option.some.injEq] at h1
                  subst h1
                  exact ⟨_, ren_of b (fun e => by rw [e] at hg; simp at hg) hd hd2 hgg⟩
                · cases h1
          · cases h1
      obtain ⟨ι1, b1⟩ := this
      exact normOwnC_of l h b1
    · cases h
theorem RV_nil_row {ι : Nat → HI} {Fz : Nat → Prop} {κ : Kd} {v : Value} (h : RV ι Fz w .nils v) : RV ι Fz w (.pv (.list κ) []) v := by
  simp only [RV] at h ⊢
  subst h
  exact ⟨.slice none 0 0, rfl, none, 0, rfl, by simp, .inl (by simp)⟩
theorem normPv_of : ∀ (l : List (Nat × Kd)) {Fz : Nat → Prop} {st st' : St} {a : Act}, normPv l st = some st' → Behind w0 Fz0 ι Fz st a w → ∃ Fz', Behind w0 Fz0 ι Fz' st' a w
  | [], Fz, st, st', a, h, b => by
    simp only [normPv, Option.some.injEq] at h
    subst h
    exact ⟨Fz, b⟩
  | (t, κ) :: l, Fz, st, st', a, h, b => by
    simp only [normPv] at h
    obtain ⟨st1, h1, h⟩ := Option.bind_eq_some_iff.1 h
    obtain ⟨F1, _, b1, _⟩ := frzArgs_of _ h1 b
    split at h
    · rename_i hn
      refine normPv_of l h ⟨fun s => ?_, b1.2.1, b1.2.2⟩
      show RV _ _ _ (getF ((t, _) :: st1.fr) s) _
      rw [getF_cons]
      by_cases e : t = s
      · subst e
        rw [if_pos rfl]
        have := b1.1 t
        rw [hn] at this
        exact RV_nil_row this
      · rw [if_neg e]; exact b1.1 s
    · exact normPv_of l h b1
    · cases h
theorem normPvC_of : ∀ (l : List (Nat × Nat × Kd)) {Fz : Nat → Prop} {st st' : St} {a : Act}, normPvC l st = some st' → Behind w0 Fz0 ι Fz st a w → ∃ Fz', Behind w0 Fz0 ι Fz' st' a w
  | [], Fz, st, st', a, h, b => by
    simp only [normPvC, Option.some.injEq] at h
    subst h
    exact ⟨Fz, b⟩
  | (bx, j, κ) :: l, Fz, st, st', a, h, b => by
    simp only [normPvC] at h
    split at h
    · obtain ⟨st1, h1, h⟩ := Option.bind_eq_some_iff.1 h
      obtain ⟨F1, _, b1, _⟩ := frzArgs_of _ h1 b
      split at h
      · rename_i cs1 hb1
        split at h
        · rename_i hn
          obtain ⟨st2, h2, h⟩ := Option.bind_eq_some_iff.1 h
          unfold setC at h2
          rw [hb1] at h2
          simp only [Option.some.injEq] at h2
          subst h2
          refine normPvC_of l h (b1.setCell hb1 ?_)
          intro vs hvs u hu
          have hcj : cs1[j]? = some .nils := by
            cases hc : cs1[j]? with
            | none => rw [hc] at hn; simp at hn
            | some c => rw [hc] at hn; simp at hn; rw [hn]
          obtain ⟨u', hu', hru⟩ := RVs_at hvs hcj
          rw [hu] at hu'
          simp only [Option.some.injEq] at hu'
          subst hu'
          exact RV_nil_row hru
        · exact normPvC_of l h b1
        · cases h
      · cases h
    · cases h
theorem normBx_of : ∀ (l : List (Nat × Kd)) {Fz : Nat → Prop} {st st' : St} {a : Act}, normBx l st = some st' → Behind w0 Fz0 ι Fz st a w → ∃ Fz', Behind w0 Fz0 ι Fz' st' a w
  | [], Fz, st, st', a, h, b => by
    simp only [normBx, Option.some.injEq] at h
    subst h
    exact ⟨Fz, b⟩
  | (k, κ) :: l, Fz, st, st', a, h, b => by
    simp only [normBx] at h
    split at h
    · exact normBx_of l h b
    cases hd : okDf st.df k with
    | false => rw [hd] at h; cases h
    | true =>
      rw [hd, cond_true] at h
      obtain ⟨st1, h1, h⟩ := Option.bind_eq_some_iff.1 h
      obtain ⟨F1, b1⟩ := frzB_of b hd h1
      exact normBx_of l h b1
theorem gate_of {g : Option Nat} {x : Option R} {r : R} (h : gateO g x = some r) : x = some r := by
  cases g with
  | none => exact h
  | some n => cases n with
    | zero => cases h
    | succ n => exact h
theorem norm_of {nm : Option Norm} {st : St} {K : St → Option R} {r : R} {a : Act} (h : normK nm st K = some r) (b : Behind w0 Fz0 ι Fz st a w) : ∃ st' ι' Fz', K st' = some r ∧ Behind w0 Fz0 ι' Fz' st' a w := by
  cases nm with
  | none => exact ⟨st, ι, Fz, h, b⟩
  | some n =>
    simp only [normK, Norm.at] at h
    obtain ⟨st3, h3, h⟩ := Option.bind_eq_some_iff.1 h
    obtain ⟨st1, h1, h3⟩ := Option.bind_eq_some_iff.1 h3
    obtain ⟨st2, h2, h3⟩ := Option.bind_eq_some_iff.1 h3
    obtain ⟨st4, h4, h3⟩ := Option.bind_eq_some_iff.1 h3
    obtain ⟨st5, h5, h3⟩ := Option.bind_eq_some_iff.1 h3
    obtain ⟨st6, h6, h3⟩ := Option.bind_eq_some_iff.1 h3
    simp only [Option.some.injEq] at h3
    subst h3
    obtain ⟨ι1, b1⟩ := normOwn_of _ h1 b
    obtain ⟨ι2, b2⟩ := normOwnC_of _ h2 b1
    obtain ⟨F3, b3⟩ := normPv_of _ h4 b2
    obtain ⟨F4, b4⟩ := normPvC_of _ h5 b3
    obtain ⟨F5, b5⟩ := normBx_of _ h6 b4
    exact ⟨_, ι2, F5, gate_of h, b5.keep _ _⟩

/-! ### code -/
def Ex.out : Ex → Exit
  | .normal => .normal
  | .exit id => .exit id
  | .ret => .ret
/-- What a run of the evaluator leaves. -/
def Left (w0 : Root) (Fz0 : Nat → Prop) (nt : Nat) (K : Ex → St → Option R) (r : R) (Q : Exit → Act → World → Prop) : Prop :=
  ∀ e st a w ι Fz, K e st = some r → a.tmps.size = nt → Behind w0 Fz0 ι Fz st a w → Q e.out a w
theorem dstB_of {nt : Nat} {l : List Oper} (h : l.all (dstB nt) = true) : dstOk l nt := by
  intro o ho d hd
  have := List.all_eq_true.1 h o ho
  unfold dstB at this
  rw [hd] at this
  exact Nat.lt_of_lt_of_le (Nat.lt_of_succ_le (Nat.le_of_ble_eq_true this)) (Nat.le_refl _)
theorem evC_of {E : Env} {nt : Nat} (hΓ : EnvOk E w0.gl) {r : R} : ∀ (c : Code) {ι : Nat → HI} {Fz : Nat → Prop} {st : St} {a : Act} {w : World} {K : Ex → St → Option R} {Q : Exit → Act → World → Prop},
    codeB nt c = true → evC E c st K = some r → a.tmps.size = nt → Behind w0 Fz0 ι Fz st a w → Left w0 Fz0 nt K r Q → c.wp E.P Q a w
  | .skip, ι, Fz, st, a, w, K, Q, _, h, hnt, b, hQ => wp_skip (hQ .normal st a w ι Fz h hnt b)
  | .region id ops draw, ι, Fz, st, a, w, K, Q, hc, h, hnt, b, hQ => by
    simp only [evC] at h
    simp only [codeB] at hc
    cases draw with
    | false =>
      simp only [cond_false] at h
      exact wp_region_list (opsG_of hΓ ops.toList (dstB_of hc) hnt b h fun st' a' w' ι' Fz' hk hnt' b' => hQ .normal st' a' w' ι' Fz' hk hnt' b')
    | true =>
      rw [cond_true] at h
      cases hok : (E.P.follows .mixedOrders && drawM ops (headM ops.toList)) with
      | false => rw [hok] at h; cases h
      | true =>
        rw [hok, cond_true] at h
        simp only [Bool.and_eq_true] at hok
        exact region_draw_of hok.1 hΓ (dstB_of hc) hnt b hok.2 h fun st' a' w' ι' Fz' hk hnt' b' => hQ .normal st' a' w' ι' Fz' hk hnt' b'
  | .seq x y, ι, Fz, st, a, w, K, Q, hc, h, hnt, b, hQ => by
    simp only [evC] at h
    simp only [codeB, Bool.and_eq_true] at hc
    refine wp_seq (evC_of hΓ x hc.1 h hnt b ?_)
    intro e st' a' w' ι' Fz' hk hnt' b'
    cases e with
    | normal =>
      simp only [kSeq] at hk
      obtain ⟨st2, ι2, F2, hk, b2⟩ := norm_of hk b'
      exact evC_of hΓ y hc.2 hk hnt' b2 hQ
    | exit id => exact hQ (.exit id) st' a' w' ι' Fz' hk hnt' b'
    | ret => exact hQ .ret st' a' w' ι' Fz' hk hnt' b'
  | .cond c x y, ι, Fz, st, a, w, K, Q, hc, h, hnt, b, hQ => by
    simp only [evC] at h
    simp only [codeB, Bool.and_eq_true] at hc
    split at h
    · rename_i p hp
      have hv := opnd_of (gl := E.gl) (by rw [hΓ.gl]; exact b.2.2.gok) b.1 c
      rw [hp, RV_bool] at hv
      cases p with
      | true => exact wp_cond_true hv (evC_of hΓ x hc.1 h hnt b hQ)
      | false => exact wp_cond_false hv (evC_of hΓ y hc.2 h hnt b hQ)
    · cases h
  | .block id c, ι, Fz, st, a, w, K, Q, hc, h, hnt, b, hQ => by
    simp only [evC] at h
    simp only [codeB] at hc
    refine wp_block (evC_of hΓ c hc h hnt b ?_)
    intro e st' a' w' ι' Fz' hk hnt' b'
    cases e with
    | normal => exact hQ .normal st' a' w' ι' Fz' hk hnt' b'
    | ret => exact hQ .ret st' a' w' ι' Fz' hk hnt' b'
    | exit i =>
      simp only [kBlock] at hk
      simp only [Ex.out, Exit.inBlock]
      cases hi : Nat.beq i id with
      | true =>
        rw [hi, cond_true] at hk
        rw [if_pos (Nat.eq_of_beq_eq_true hi)]
        exact hQ .normal st' a' w' ι' Fz' hk hnt' b'
      | false =>
        rw [hi, cond_false] at hk
        rw [if_neg (fun e => by rw [e] at hi; simp at hi)]
        exact hQ (.exit i) st' a' w' ι' Fz' hk hnt' b'
  | .loop c, ι, Fz, st, a, w, K, Q, hc, h, hnt, b, hQ => by
    simp only [evC] at h
    simp only [codeB] at hc
    obtain ⟨n0, st1, ι1, F1, h, b1⟩ : ∃ n st1 ι1 F1, loopN (advOf E c) (evC E c) n st1 K = some r ∧ Behind w0 Fz0 ι1 F1 st1 a w := by
      cases hp : peelB E c with
      | true => rw [hp, cond_true] at h; exact ⟨E.n + 1, st, ι, Fz, h, b⟩
      | false =>
        rw [hp, cond_false] at h
        obtain ⟨st1, ι1, F1, h, b1⟩ := norm_of h b
        exact ⟨E.n, st1, ι1, F1, h, b1⟩
    refine wp_loop_ghost (fun n a w => a.tmps.size = nt ∧ ∃ ι Fz st, Behind w0 Fz0 ι Fz st a w ∧ loopN (advOf E c) (evC E c) n st K = some r) n0 ⟨hnt, ι1, F1, st1, b1, h⟩ ?_
    rintro n a w ⟨hnt, ι, Fz, st, b, h⟩
    cases n with
    | zero => simp [loopN] at h
    | succ n =>
      simp only [loopN] at h
      refine evC_of hΓ c hc h hnt b ?_
      intro e st' a' w' ι' Fz' hk hnt' b'
      cases e with
      | normal =>
        simp only [kSeq] at hk
        obtain ⟨st2, ι2, F2, hk, b2⟩ := norm_of hk b'
        exact ⟨n, by omega, hnt', ι2, F2, st2, b2, hk⟩
      | exit id => exact hQ (.exit id) st' a' w' ι' Fz' hk hnt' b'
      | ret => exact hQ .ret st' a' w' ι' Fz' hk hnt' b'
  | .exit id, ι, Fz, st, a, w, K, Q, _, h, hnt, b, hQ => wp_exit (hQ (.exit id) st a w ι Fz h hnt b)
  | .ret, ι, Fz, st, a, w, K, Q, _, h, hnt, b, hQ => wp_ret (hQ .ret st a w ι Fz h hnt b)
  | .rangeFunc _ _ _ _, _, _, _, _, _, _, _, _, h, _, _, _ => by simp [evC] at h
  | .scope _, _, _, _, _, _, _, _, _, h, _, _, _ => by simp [evC] at h
  | .label _, _, _, _, _, _, _, _, _, h, _, _, _ => by simp [evC] at h
  | .goto _, _, _, _, _, _, _, _, _, h, _, _, _ => by simp [evC] at h
  | .refuse _, _, _, _, _, _, _, _, _, h, _, _, _ => by simp [evC] at h
end
end Go.Av
