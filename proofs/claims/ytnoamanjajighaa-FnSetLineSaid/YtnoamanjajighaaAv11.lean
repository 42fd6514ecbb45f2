/- Any one operation; then a list of operations in the text's order. -/
import Derived.Test.YtnoamanjajighaaAv10
set_option linter.unusedVariables false
set_option linter.unusedSimpArgs false
namespace Go.Av
open Go Go.RowKit

section
variable {R : Type} {P : Program} {w0 : Root} {Fz0 : Nat → Prop} {ι : Nat → HI} {Fz : Nat → Prop} {H : List (Nat × AB)} {w : World}

/-! ### what is frozen -/
theorem RV_frz {Fz' : Nat → Prop} {h : Nat} {e : TypeId} {κ : Kd} {xs : List (Den κ)} {a : AV} {v : Value} (hrb : RB ι Fz w h (.arr e κ xs)) (hf : ∀ b, Fz b → Fz' b) (hb : (ι h).virt = false → Fz' (ι h).blk)
    (hr : RV ι Fz w a v) : RV ι Fz' w (a.frz h κ xs) v := by
  have strike : RV ι Fz' w (a.strike h) v := RV_strike (fun _ _ => rfl) hf (fun _ _ => rfl) hr
  cases a with
  | own κ' g =>
    simp only [AV.frz]
    cases hg : Nat.beq g h with
    | false => exact RV_mono (fun _ _ => rfl) hf _ _ (fun _ _ => rfl) hr
    | true =>
      have e1 := Nat.eq_of_beq_eq_true hg
      subst e1
      have hlen := hrb.1
      have key := arr_RLf hrb hf hb 0 xs.length (by omega) (v := v) (by
        simp only [RV] at hr
        simp only [RB] at hrb
        rcases hr with ⟨hv, rfl⟩ | ⟨hv, rfl⟩
        · left
          rcases hrb.2 with ⟨_, e⟩ | ⟨e, _⟩
          · rw [e]; exact ⟨rfl, none, 0, rfl⟩
          · rw [hv] at e; cases e
        · right
          refine ⟨hv, (ι g).cap, by rw [hlen]; simp, ?_⟩
          rcases hrb.2 with ⟨e, _⟩ | ⟨_, vs, _, e, _⟩
          · rw [hv] at e; cases e
          · exact e)
      simp only [cond_true, RV, Kd.isAgg, Bool.false_eq_true, if_false, RP]
      exact ⟨v, rfl, by simpa using key⟩
  | sub κ' g off len =>
    simp only [AV.frz]
    cases hg : Nat.beq g h with
    | false => exact RV_mono (fun _ _ => rfl) hf _ _ (fun _ _ => rfl) hr
    | true =>
      have e1 := Nat.eq_of_beq_eq_true hg
      subst e1
      cases hd : decide (κ' = κ) with
      | false => simp [RV]
      | true =>
        have e2 := of_decide_eq_true hd
        subst e2
        simp only [RV] at hr
        have hlen := hrb.1
        simp only [cond_true, RV, Kd.isAgg, Bool.false_eq_true, if_false, RP]
        exact ⟨v, rfl, arr_RLf hrb hf hb off len (by omega) (v := v) (sub_old (f := fun c => .slice (some ⟨_, _, none⟩) len c) hr.2)⟩
  | _ => exact strike
theorem RVs_frz {Fz' : Nat → Prop} {h : Nat} {e : TypeId} {κ : Kd} {xs : List (Den κ)} (hrb : RB ι Fz w h (.arr e κ xs)) (hf : ∀ b, Fz b → Fz' b) (hb : (ι h).virt = false → Fz' (ι h).blk) :
    ∀ {cs : List AV} {vs : List Value}, RVs ι Fz w cs vs → RVs ι Fz' w (cs.map (AV.frz h κ xs)) vs
  | [], vs, h => by simp only [RVs, List.map_nil] at h ⊢; exact h
  | c :: cs, vs, h => by
    simp only [RVs, List.map_cons] at h ⊢
    obtain ⟨v, r, e, h1, h2⟩ := h
    exact ⟨v, r, e, RV_frz hrb hf hb h1, RVs_frz hrb hf hb h2⟩
theorem frz_of {st : St} {a : Act} {h : Nat} (b : Behind w0 Fz0 ι Fz st a w) (hdf : okDf st.df h = true) : ∃ Fz' : Nat → Prop, (∀ b, Fz b → Fz' b) ∧ Behind w0 Fz0 ι Fz' (st.frz h) a w ∧
    ((getH st.H h).isArr → (ι h).virt = false → Fz' (ι h).blk) ∧ (∀ k, (getH (st.frz h).H k).isArr → (getH st.H k).isArr) := by
  unfold St.frz
  split
  · rename_i e κ xs hg
    have m := b.2.2
    have hrb := m.rb h
    rw [hg] at hrb
    have hlive : (getH st.H h).live := by rw [hg]; trivial
    refine ⟨fun k => Fz k ∨ ((ι h).virt = false ∧ k = (ι h).blk), fun _ h => .inl h, ⟨fun t => ?_, ?_, ?_⟩, fun _ hv => .inr ⟨hv, rfl⟩, fun k hk => ?_⟩
    · show RV _ _ _ (getF (st.fr.map fun (t, v) => (t, v.frz h κ xs)) t) _
      rw [getF_map (AV.frz h κ xs) rfl]
      exact RV_frz hrb (fun _ h => .inl h) (fun hv => .inr ⟨hv, rfl⟩) (b.1 t)
    · exact RD_mono (fun _ _ => rfl) (fun _ h => .inl h) _ _ (fun _ _ => rfl) b.2.1
    · have e : ∀ k, getH ((h, .gone) :: st.H.map fun (t, b) => (t, b.frz h κ xs)) k = if h = k then .gone else (getH st.H k).frz h κ xs := fun k => by
        rw [getH_cons, getH_map (AB.frz h κ xs) rfl]
      have live : ∀ k, (getH ((h, .gone) :: st.H.map fun (t, b) => (t, b.frz h κ xs)) k).live → k ≠ h ∧ (getH st.H k).live := fun k hk => by
        rw [e] at hk
        split at hk
        · exact hk.elim
        · rename_i hne
          refine ⟨Ne.symm hne, ?_⟩
          revert hk
          cases getH st.H k <;> simp [AB.frz, AB.live]
      refine ⟨m.below, fun k hk => ?_, fun k hk => .inl (m.fz0 k hk), fun k hk => ?_, fun k => ?_, fun k hk hv => ?_, fun k k' hk hk' => m.inj k k' (live k hk).2 (live k' hk').2, m.iot, fun k => (by rw [e]; split; trivial; (· have := m.cn k; revert this; cases getH st.H k <;> exact id)), m.gz⟩
      · rcases hk with hk | ⟨hv, rfl⟩
        · exact m.fz k hk
        · exact (m.sep h hlive hv).2.1
      · rcases hk with hk | ⟨hv, rfl⟩
        · exact m.fzn k hk
        · exact .inr (m.sep h hlive hv).1
      · rw [e]
        split
        · trivial
        · have hk := m.rb k
          generalize getH st.H k = bk at hk
          cases bk with
          | gone => trivial
          | box cs =>
            simp only [RB, AB.frz] at hk ⊢
            obtain ⟨hv, vs, T, h1, h2, h3⟩ := hk
            exact ⟨hv, vs, T, h1, RVs_frz hrb (fun _ h => .inl h) (fun hv => .inr ⟨hv, rfl⟩) h2, h3⟩
          | arr e' κ' ys => exact RB_mono (fun _ _ => rfl) (fun _ h => .inl h) (fun _ _ => rfl) hk
      · obtain ⟨hne, hl⟩ := live k hk
        obtain ⟨a1, a2, a3⟩ := m.sep k hl hv
        refine ⟨a1, a2, fun hf => ?_⟩
        rcases hf with hf | ⟨hv', e⟩
        · exact a3 hf
        · exact hne (m.inj k h hl hlive hv hv' e)
    · rw [getH_cons, getH_map (AB.frz h κ xs) rfl] at hk
      split at hk
      · exact hk.elim
      · revert hk
        cases getH st.H k <;> simp [AB.frz, AB.isArr]
  · rename_i hng
    refine ⟨Fz, fun _ h => h, b, fun ha => ?_, fun _ h => h⟩
    cases hk : getH st.H h with
    | arr e κ xs => exact absurd hk (hng e κ xs)
    | gone => rw [hk] at ha; exact ha.elim
    | box cs => rw [hk] at ha; exact ha.elim
theorem frzArgs_of : ∀ (avs : List AV) {Fz : Nat → Prop} {st st' : St} {a : Act}, frzArgs st avs = some st' → Behind w0 Fz0 ι Fz st a w →
    ∃ Fz' : Nat → Prop, (∀ b, Fz b → Fz' b) ∧ Behind w0 Fz0 ι Fz' st' a w ∧ (∀ h, mentL h avs = true → (getH st.H h).live → (ι h).virt = false → Fz' (ι h).blk) ∧
      (∀ h, mentL h avs = false → (getH st.H h).live → (getH st'.H h).live) ∧ (∀ h, (getH st'.H h).live → (getH st.H h).live)
  | [], Fz, st, st', a, h, b => by
    simp only [frzArgs, Option.some.injEq] at h
    subst h
    exact ⟨Fz, fun _ h => h, b, fun h hm => by simp [mentL] at hm, fun _ _ h => h, fun _ h => h⟩
  | c :: cs, Fz, st, st', a, h, b => by
    have step : ∀ (g : Nat), (bif okDf st.df g && (getH st.H g).notBox then frzArgs (st.frz g) cs else none) = some st' → (∀ h, c.ment h = true → h = g) → c.ment g = true →
        ∃ Fz' : Nat → Prop, (∀ b, Fz b → Fz' b) ∧ Behind w0 Fz0 ι Fz' st' a w ∧ (∀ h, mentL h (c :: cs) = true → (getH st.H h).live → (ι h).virt = false → Fz' (ι h).blk) ∧
          (∀ h, mentL h (c :: cs) = false → (getH st.H h).live → (getH st'.H h).live) ∧ (∀ h, (getH st'.H h).live → (getH st.H h).live) := by
      intro g h hm hm'
      cases hdf : (okDf st.df g && (getH st.H g).notBox) with
      | false => rw [hdf] at h; cases h
      | true =>
        rw [hdf, cond_true] at h
        simp only [Bool.and_eq_true] at hdf
        obtain ⟨F1, f1, b1, f2, f3⟩ := frz_of b hdf.1
        obtain ⟨F2, g1, b2, g2, g3, g4⟩ := frzArgs_of cs h b1
        have still : ∀ k, k ≠ g → ((getH (st.frz g).H k).live ↔ (getH st.H k).live) := by
          intro k e
          unfold St.frz
          split
          · rename_i e' κ xs hg
            rw [getH_cons, getH_map (AB.frz g κ xs) rfl, if_neg (Ne.symm e)]
            cases getH st.H k <;> simp [AB.frz, AB.live]
          · exact Iff.rfl
        refine ⟨F2, fun _ h => g1 _ (f1 _ h), b2, fun k hk ha hv => ?_, fun k hk ha => ?_, fun k hk => ?_⟩
        · by_cases e : k = g
          · subst e
            refine g1 _ (f2 ?_ hv)
            have := hdf.2
            revert this ha
            cases getH st.H k <;> simp [AB.live, AB.notBox, AB.isArr]
          · simp only [mentL, Bool.or_eq_true] at hk
            rcases hk with hk | hk
            · exact absurd (hm k hk) e
            · exact g2 k hk ((still k e).2 ha) hv
        · have e : k ≠ g := fun e => by subst e; simp [mentL, hm'] at hk
          simp only [mentL, Bool.or_eq_false_iff] at hk
          exact g3 k hk.2 ((still k e).2 ha)
        · have hk2 := g4 k hk
          by_cases e : k = g
          · subst e
            revert hk2
            unfold St.frz
            split
            · rename_i e' κ xs hg; rw [hg]; intro _; trivial
            · exact id
          · exact (still k e).1 hk2
    have skip : frzArgs st cs = some st' → (∀ h, c.ment h = false) →
        ∃ Fz' : Nat → Prop, (∀ b, Fz b → Fz' b) ∧ Behind w0 Fz0 ι Fz' st' a w ∧ (∀ h, mentL h (c :: cs) = true → (getH st.H h).live → (ι h).virt = false → Fz' (ι h).blk) ∧
          (∀ h, mentL h (c :: cs) = false → (getH st.H h).live → (getH st'.H h).live) ∧ (∀ h, (getH st'.H h).live → (getH st.H h).live) := by
      intro h hm
      obtain ⟨F2, g1, b2, g2, g3, g4⟩ := frzArgs_of cs h b
      exact ⟨F2, g1, b2, fun k hk ha hv => g2 k (by simpa [mentL, hm k] using hk) ha hv, fun k hk => g3 k (by simpa [mentL, hm k] using hk), g4⟩
    simp only [frzArgs] at h
    split at h
    · exact step _ h (fun k hk => by simp only [AV.ment] at hk; exact (Nat.eq_of_beq_eq_true hk).symm) (by simp [AV.ment])
    · exact step _ h (fun k hk => by simp only [AV.ment] at hk; exact (Nat.eq_of_beq_eq_true hk).symm) (by simp [AV.ment])
    · cases hfr : (c.free || !c.handled) with
      | false => rw [hfr] at h; cases h
      | true =>
        rw [hfr, cond_true] at h
        refine skip h fun k => ?_
        simp only [Bool.or_eq_true] at hfr
        rcases hfr with hfr | hfr
        · exact free_ment c hfr k
        · have := noH_ment (cs := [c]) (by simpa using hfr) k
          simpa [mentL] using this

theorem frzArgs_skip {st : St} : ∀ {ls : List AV}, ls.all (fun v => !v.handled) = true → frzArgs st ls = some st
  | [], _ => rfl
  | v :: r, h => by
    simp only [List.all_cons, Bool.and_eq_true] at h
    have ih := frzArgs_skip (st := st) h.2
    have hv := h.1
    have gen : (bif v.free || !v.handled then frzArgs st r else none) = some st := by rw [hv, Bool.or_true, cond_true]; exact ih
    cases v <;> first | (simp [AV.handled] at hv; done) | exact gen
/-! ### one operation -/
theorem pv_cells {κ : Kd} {x : Den κ} {v : Value} (h : RV ι Fz w (.pv κ x) v) : RP Fz w κ x v.cells.toList := by
  simp only [RV] at h
  cases hka : κ.isAgg with
  | true => simp only [hka, if_true] at h; obtain ⟨vs, e, h⟩ := h; rw [e]; exact h
  | false =>
    simp only [hka, Bool.false_eq_true, if_false] at h
    have h1 := RP_one κ x _ h v (by simp)
    have : v.cells.toList = [v] := by cases v <;> simp_all [Value.cells, Value.oneCell']
    rw [this]; exact h
theorem setV_lt : ∀ (us vs : List Value) (off k : Nat), k < off → (setV vs off us)[k]? = vs[k]?
  | [], _, _, _, _ => rfl
  | u :: us, vs, off, k, h => by
    simp only [setV]
    rw [setV_lt us _ _ _ (by omega), List.getElem?_set_ne (by omega)]
theorem setV_ge : ∀ (us vs : List Value) (off k : Nat), off + us.length ≤ k → (setV vs off us)[k]? = vs[k]?
  | [], _, _, _, _ => rfl
  | u :: us, vs, off, k, h => by
    simp only [List.length_cons] at h
    simp only [setV]
    rw [setV_ge us _ _ _ (by omega), List.getElem?_set_ne (by omega)]
theorem setV_in : ∀ (us vs : List Value) (off j : Nat), j < us.length → off + us.length ≤ vs.length → (setV vs off us)[off + j]? = us[j]?
  | [], _, _, _, h, _ => by simp at h
  | u :: us, vs, off, 0, h, h2 => by
    simp only [List.length_cons] at h2
    simp only [setV]
    rw [setV_lt us _ _ _ (by omega), Nat.add_zero, List.getElem?_set_self (by omega)]
    rfl
  | u :: us, vs, off, j + 1, h, h2 => by
    simp only [List.length_cons] at h h2
    simp only [setV]
    rw [show off + (j + 1) = off + 1 + j by omega, setV_in us _ (off + 1) j (by omega) (by simp; omega)]
    simp
theorem setV_app : ∀ (us vs rest : List Value) (off : Nat), off + us.length ≤ vs.length → setV (vs ++ rest) off us = setV vs off us ++ rest
  | [], _, _, _, _ => rfl
  | u :: us, vs, rest, off, h => by
    simp only [List.length_cons] at h
    simp only [setV]
    rw [List.set_append_left _ _ (by omega), setV_app us _ _ _ (by simp; omega)]
/-- What an operation gives, in the state's own words. -/
def Wp (P : Program) (w0 : Root) (Fz0 : Nat → Prop) (o : Oper) (a : Act) (w : World) (v : AV) (st' : St) : Prop :=
  ∀ (K : Act → World → Prop) (Q : Exit → Act → World → Prop), (∀ v' a' w' ι' Fz', a'.tmps = a.tmps → Behind w0 Fz0 ι' Fz' st' a' w' → RV ι' Fz' w' v v' → K (a'.put o.dst v') w') → o.wp P a w K Q
theorem stX_of {t : TypeId} {st : St} {av xv : AV} {vx vy : Value} {K : AV → List (Nat × AB) → List Nat → Option R} {r : R} {E : Env} {a : Act} (b : Behind w0 Fz0 ι Fz st a w) (hx : RV ι Fz w av vx) (hy : RV ι Fz w xv vy)
    (h : stX E t av xv st.H K = some r) : ∃ ks, K .dead ks [] = some r ∧ ∃ w', (Instr.storeAt t vx vy).run E.P w = .ok () w' ∧ Behind w0 Fz0 ι Fz ⟨st.fr, ks ++ st.H, st.df⟩ a w' := by
  have m := b.2.2
  unfold stX at h
  have fin : ∀ {ks : List (Nat × AB)} {w' : World}, K .dead ks [] = some r → (Instr.storeAt t vx vy).run E.P w = .ok () w' → Behind w0 Fz0 ι Fz ⟨st.fr, ks ++ st.H, st.df⟩ a w' → (AV.dead = .dead) →
      ∃ ks, K .dead ks [] = some r ∧ ∃ w', (Instr.storeAt t vx vy).run E.P w = .ok () w' ∧ Behind w0 Fz0 ι Fz ⟨st.fr, ks ++ st.H, st.df⟩ a w' :=
    fun hk hr hb _ => ⟨_, hk, _, hr, hb⟩
  split at h
  · rename_i g off
    simp only [RV] at hx
    obtain ⟨hv, hxe⟩ := hx
    have hrb := m.rb g
    split at h
    · rename_i cs hg
      rw [hg] at hrb
      simp only [RB] at hrb
      obtain ⟨_, vs, T, ⟨rest, hh⟩, hcs, h1⟩ := hrb
      cases hc : (sizeB E.P t xv.flat.length && Nat.ble (off + xv.flat.length) cs.length && aliveL xv.flat) with
      | false => rw [hc] at h; cases h
      | true =>
        rw [hc, cond_true] at h
        simp only [Bool.and_eq_true] at hc
        obtain ⟨⟨hs, hle⟩, hal⟩ := hc
        obtain ⟨inf, hinf, hsz⟩ := sizeB_of hs
        have hle := Nat.le_of_ble_eq_true hle
        obtain ⟨hfl, hone⟩ := flat_of hy hal
        have hl1 := RVs_len hfl
        have hl2 := RVs_len hcs
        have hl3 : vy.cells.toList.length = vy.cells.size := by simp
        obtain ⟨w', hr, hu⟩ := run_storeCells (P := E.P) vy.cells.toList (vs ++ rest) w off 0 hh (by rw [List.length_append]; omega) hone
        simp only [Nat.add_zero] at hu
        rw [setV_app _ _ _ _ (by omega)] at hu
        have hlive : (getH st.H g).live := by rw [hg]; trivial
        obtain ⟨s1, s2, s3⟩ := m.sep g hlive hv
        have hw : ∀ b, Fz b → w'.heap[b]? = w.heap[b]? := fun k hk => hu.ne k (fun e => s3 (e ▸ hk))
        refine fin h (w' := w') ?_ (b.mono hw (fun _ h => h) (m.upd hlive hv hu ?_ trivial (by have := m.cn g; rw [hg] at this; exact this))) rfl
        · have hne : ¬ vy.cells.size ≠ inf.size := by omega
          simp [Instr.storeAt, hxe, Instr.sureAddr, storeVar, run_size hinf, hne, hr]
        · simp only [RB]
          exact ⟨hv, _, T, ⟨rest, hu.at'⟩, RVs_mono hw (fun _ h => h) _ _ (fun _ _ => rfl) (setCells_of _ _ _ _ _ hfl hcs), setV_one _ _ _ hone h1⟩
    · cases h
  · rename_i κ₀ g idx
    simp only [RV] at hx
    obtain ⟨hv, hidx, hxe⟩ := hx
    have hrb := m.rb g
    split at h
    · rename_i el κ xs hg
      rw [hg] at hrb
      cases hc : (decide (κ₀ = κ) && sizeB E.P t κ.size && xv.free) with
      | false => rw [hc] at h; cases h
      | true =>
        rw [hc, cond_true] at h
        simp only [Bool.and_eq_true, decide_eq_true_eq] at hc
        obtain ⟨⟨rfl, hs⟩, hfree⟩ := hc
        obtain ⟨inf, hinf, hsz⟩ := sizeB_of hs
        obtain ⟨z, hz, h⟩ := Option.bind_eq_some_iff.1 h
        have hpv : RV ι Fz w (.pv κ₀ z) vy := argD_of m.rb (fun _ h => h) hz hy (fun k hk => by rw [free_ment _ hfree k] at hk; cases hk)
        have hcells := pv_cells hpv
        have hlen := RP_len κ₀ z _ hcells
        have hone := RP_one κ₀ z _ hcells
        simp only [RB] at hrb
        rcases hrb.2 with ⟨e, _⟩ | ⟨_, vs, hh, h2, h3, h4, h5⟩
        · rw [hv] at e; cases e
        have hh' : w.heap[(ι g).blk]? = some (.cells vs.toList.toArray el (0, 0)) := by simpa using hh
        have hfit : idx * κ₀.size + κ₀.size ≤ vs.toList.length := by
          have : (idx + 1) * κ₀.size ≤ (ι g).cap * κ₀.size := Nat.mul_le_mul_right _ (by rw [hrb.1] at hidx; omega)
          rw [Nat.add_mul, Nat.one_mul] at this
          simpa [h4] using this
        obtain ⟨w', hr, hu⟩ := run_storeCells (P := E.P) vy.cells.toList vs.toList w (idx * κ₀.size) 0 hh' (by omega) hone
        simp only [Nat.add_zero] at hu
        have hlive : (getH st.H g).live := by rw [hg]; trivial
        obtain ⟨s1, s2, s3⟩ := m.sep g hlive hv
        have hw : ∀ b, Fz b → w'.heap[b]? = w.heap[b]? := fun k hk => hu.ne k (fun e => s3 (e ▸ hk))
        refine fin h (w' := w') ?_ (b.mono hw (fun _ h => h) (m.upd hlive hv hu ?_ trivial (by have := m.cn g; rw [hg] at this; exact this))) rfl
        · have hl3 : vy.cells.toList.length = vy.cells.size := by simp
          have hne : ¬ vy.cells.size ≠ inf.size := by omega
          simp [Instr.storeAt, hxe, Instr.sureAddr, storeVar, run_size hinf, hne, hr]
        · simp only [RB]
          refine ⟨by rw [List.length_set]; exact hrb.1, .inr ⟨hv, _, hu.at', by rw [List.length_set]; exact h2, h3, ?_, fun k u hk => ?_⟩⟩
          · rw [List.size_toArray, setV_len]; simpa using h4
          · rcases Nat.lt_trichotomy k idx with hlt | heq | hgt
            · rw [List.getElem?_set_ne (by omega)] at hk
              obtain ⟨es, a1, a2, a3⟩ := h5 k u hk
              refine ⟨es, RP_mono hw (fun _ h => h) _ _ _ a1, a2, fun j q hj => ?_⟩
              have hjl := (List.getElem?_eq_some_iff.1 hj).1
              have : k * κ₀.size + κ₀.size ≤ idx * κ₀.size := by rw [← Nat.succ_mul]; exact Nat.mul_le_mul_right _ hlt
              rw [List.getElem?_toArray, setV_lt _ _ _ _ (by omega)]
              simpa using a3 j q hj
            · subst heq
              rw [List.getElem?_set_self (by rw [hrb.1] at hidx; exact hidx)] at hk
              simp only [Option.some.injEq] at hk
              subst hk
              refine ⟨_, RP_mono hw (fun _ h => h) _ _ _ hcells, hlen, fun j q hj => ?_⟩
              have hjl := (List.getElem?_eq_some_iff.1 hj).1
              rw [List.getElem?_toArray, setV_in _ _ _ _ hjl (by omega)]
              exact hj
            · rw [List.getElem?_set_ne (by omega)] at hk
              obtain ⟨es, a1, a2, a3⟩ := h5 k u hk
              refine ⟨es, RP_mono hw (fun _ h => h) _ _ _ a1, a2, fun j q hj => ?_⟩
              have : idx * κ₀.size + κ₀.size ≤ k * κ₀.size := by rw [← Nat.succ_mul]; exact Nat.mul_le_mul_right _ hgt
              rw [List.getElem?_toArray, setV_ge _ _ _ _ (by omega)]
              simpa using a3 j q hj
    · cases h
  · cases h
theorem store_of {t : TypeId} {x y : Operand} {st : St} {K : AV → St → Option R} {r : R} {E : Env} {a : Act} {o : Oper} (b : Behind w0 Fz0 ι Fz st a w) (hgl : GOK E.gl Fz w) (ho : o.op = .store t x y)
    (h : opW E o st K = some r) : ∃ v st', K v st' = some r ∧ Wp E.P w0 Fz0 o a w v st' := by
  simp only [opW, ho] at h
  obtain ⟨ks, hk, w', hr, hb⟩ := stX_of b (opnd_of hgl b.1 x) (opnd_of hgl b.1 y) h
  refine ⟨_, _, hk, fun Kc Q hK => ?_⟩
  have : OpGives E.P o a w (fun v'' w'' => v'' = undef ∧ w'' = w') := .inr (.inl ⟨w', by simp [execOp, ho, hr], rfl, rfl⟩)
  refine this.wp ?_
  rintro v'' w'' ⟨e1, e2⟩
  exact hK _ a w'' ι Fz rfl (e2 ▸ hb) (by simp [RV])
/-! ### boxes that are written no more -/
theorem pvL_noment {cs : List AV} (hp : cs.all AV.isPv = true) (h : Nat) : mentL h cs = false := pvL_ment h hp
theorem RV_frzB {Fz' : Nat → Prop} {h : Nat} {κ : Kd} {x : Den κ} {es : List Value} {a : AV} {v : Value} (hf : ∀ b, Fz b → Fz' b) (hb : Fz' (ι h).blk) (hrp : RP Fz' w κ x es) (hl : Lie w es (ι h).blk 0)
    (hr : RV ι Fz w a v) : RV ι Fz' w (a.frzB h κ x) v := by
  have strike : RV ι Fz' w (a.strike h) v := RV_strike (fun _ _ => rfl) hf (fun _ _ => rfl) hr
  cases a with
  | ref g off =>
    simp only [AV.frzB]
    cases hg : Nat.beq g h with
    | false => exact RV_mono (fun _ _ => rfl) hf _ _ (fun _ _ => rfl) hr
    | true =>
      have e1 := Nat.eq_of_beq_eq_true hg
      subst e1
      cases ho : Nat.beq off 0 with
      | false => simp [RV]
      | true =>
        have e2 := Nat.eq_of_beq_eq_true ho
        subst e2
        simp only [RV] at hr
        simp only [cond_true, RV]
        exact ⟨_, 0, es, hr.2, hb, hrp, hl⟩
  | _ => exact strike
theorem RVs_frzB {Fz' : Nat → Prop} {h : Nat} {κ : Kd} {x : Den κ} {es : List Value} (hf : ∀ b, Fz b → Fz' b) (hb : Fz' (ι h).blk) (hrp : RP Fz' w κ x es) (hl : Lie w es (ι h).blk 0) :
    ∀ {cs : List AV} {vs : List Value}, RVs ι Fz w cs vs → RVs ι Fz' w (cs.map (AV.frzB h κ x)) vs
  | [], vs, h => by simp only [RVs, List.map_nil] at h ⊢; exact h
  | c :: cs, vs, h => by
    simp only [RVs, List.map_cons] at h ⊢
    obtain ⟨v, r, e, h1, h2⟩ := h
    exact ⟨v, r, e, RV_frzB hf hb hrp hl h1, RVs_frzB hf hb hrp hl h2⟩
theorem Mem.freezeB {h : Nat} {f : AB → AB} (m : Mem w0 Fz0 ι Fz H w) (hlive : (getH H h).live) (hv : (ι h).virt = false) (hf : f .gone = .gone) (hfl : ∀ b, (f b).live → b.live) (hcn : ∀ i b, Cn i b → Cn i (f b))
    (hrb : ∀ k b, k ≠ h → RB ι Fz w k b → RB ι (fun k => Fz k ∨ k = (ι h).blk) w k (f b)) :
    Mem w0 Fz0 ι (fun k => Fz k ∨ k = (ι h).blk) ((h, .gone) :: H.map fun (t, b) => (t, f b)) w := by
  have e : ∀ k, getH ((h, .gone) :: H.map fun (t, b) => (t, f b)) k = if h = k then .gone else f (getH H k) := fun k => by
    rw [getH_cons, getH_map f hf]
  have live : ∀ k, (getH ((h, .gone) :: H.map fun (t, b) => (t, f b)) k).live → k ≠ h ∧ (getH H k).live := fun k hk => by
    rw [e] at hk
    split at hk
    · exact hk.elim
    · rename_i hne
      exact ⟨Ne.symm hne, hfl _ hk⟩
  refine ⟨m.below, fun k hk => ?_, fun k hk => .inl (m.fz0 k hk), fun k hk => ?_, fun k => ?_, fun k hk hv' => ?_, fun k k' hk hk' => m.inj k k' (live k hk).2 (live k' hk').2, m.iot, fun k => (by rw [e]; split; trivial; exact hcn _ _ (m.cn k)), m.gz⟩
  · rcases hk with hk | rfl
    · exact m.fz k hk
    · exact (m.sep h hlive hv).2.1
  · rcases hk with hk | rfl
    · exact m.fzn k hk
    · exact .inr (m.sep h hlive hv).1
  · rw [e]
    split
    · trivial
    · rename_i hne
      exact hrb k _ (Ne.symm hne) (m.rb k)
  · obtain ⟨hne, hl⟩ := live k hk
    obtain ⟨a1, a2, a3⟩ := m.sep k hl hv'
    refine ⟨a1, a2, fun hf' => ?_⟩
    rcases hf' with hf' | e'
    · exact a3 hf'
    · exact hne (m.inj k h hl hlive hv' hv e')
theorem frzB_of {st st' : St} {a : Act} {h : Nat} {κ : Kd} (b : Behind w0 Fz0 ι Fz st a w) (hdf : okDf st.df h = true) (hs : st.frzB h κ = some st') : ∃ Fz' : Nat → Prop, Behind w0 Fz0 ι Fz' st' a w := by
  unfold St.frzB at hs
  split at hs
  · rename_i cs hg
    cases hp : cs.all AV.isPv with
    | false => rw [hp] at hs; cases hs
    | true =>
      rw [hp, cond_true] at hs
      obtain ⟨p, hcd, hs⟩ := Option.bind_eq_some_iff.1 hs
      split at hs
      · rename_i hp2
        simp only [Option.some.injEq] at hs
        subst hs
        have m := b.2.2
        have hrb := m.rb h
        rw [hg] at hrb
        simp only [RB] at hrb
        obtain ⟨hv, vs, T, ⟨rest, hh⟩, hcs, h1⟩ := hrb
        have hlive : (getH st.H h).live := by rw [hg]; trivial
        have nm := pvL_noment hp
        obtain ⟨v1, v2, rfl, r1, r2, _⟩ := cellsD_of (Fz' := Fz) m.rb (fun _ h => h) κ cs p.1 p.2 vs (by rw [hcd]) hcs (fun h hm => by rw [nm h] at hm; cases hm)
        rw [hp2] at r2
        simp only [RVs] at r2
        subst r2
        rw [List.append_nil] at hh hcs
        have hf : ∀ b, Fz b → (fun k => Fz k ∨ k = (ι h).blk) b := fun _ h => .inl h
        have hrp : RP (fun k => Fz k ∨ k = (ι h).blk) w κ p.1 v1 := RP_mono (fun _ _ => rfl) hf _ _ _ r1
        have hl : Lie w v1 (ι h).blk 0 := fun j u hj => by
          simp only [World.cell?, hh, Nat.zero_add]
          have := (List.getElem?_eq_some_iff.1 hj).1
          simpa [List.getElem?_append_left this] using hj
        refine ⟨fun k => Fz k ∨ k = (ι h).blk, fun t => ?_, RD_mono (fun _ _ => rfl) hf _ _ (fun _ _ => rfl) b.2.1, ?_⟩
        · show RV _ _ _ (getF (st.fr.map fun (t, v) => (t, v.frzB h κ p.1)) t) _
          rw [getF_map (AV.frzB h κ p.1) rfl]
          exact RV_frzB hf (.inr rfl) hrp hl (b.1 t)
        · refine m.freezeB hlive hv rfl (fun b => by cases b <;> simp [AB.frzB, AB.live]) (fun i b => by cases b <;> exact id) fun k bk hne hk => ?_
          cases bk with
          | gone => trivial
          | box ds =>
            simp only [RB, AB.frzB] at hk ⊢
            obtain ⟨hv', us, T', h1', h2', h3'⟩ := hk
            exact ⟨hv', us, T', h1', RVs_frzB hf (.inr rfl) hrp hl h2', h3'⟩
          | arr e' κ' ys => exact RB_mono (fun _ _ => rfl) hf (fun _ _ => rfl) hk
      · cases hs
  · cases hs
theorem slX_of {t : TypeId} {st : St} {sv : AV} {vs0 : Value} {K : AV → List (Nat × AB) → List Nat → Option R} {r : R} {E : Env} (m : Mem w0 Fz0 ι Fz st.H w) (hs : RV ι Fz w sv vs0)
    (h : slX E t st.H st.df sv K = some r) : ∃ v ks, K v ks [] = some r ∧ ∃ v', (Instr.sliceAt t vs0 none none none).run E.P w = .ok v' w ∧ ∃ Fz' : Nat → Prop, (∀ b, Fz b → Fz' b) ∧ Mem w0 Fz0 ι Fz' (ks ++ st.H) w ∧ RV ι Fz' w v v' := by
  unfold slX at h
  split at h
  · rename_i g off n el hat
    have hu := arrT_of hat
    split at h
    · rename_i κ cs hkd hg
      cases hc : (Nat.beq off 0 && cs.all AV.isPv && sizeB E.P el κ.size && Nat.ble 1 κ.size) with
      | false => rw [hc] at h; cases h
      | true =>
        rw [hc, cond_true] at h
        simp only [Bool.and_eq_true] at hc
        obtain ⟨⟨⟨ho, hp⟩, hsz⟩, h1k⟩ := hc
        have e0 := Nat.eq_of_beq_eq_true ho
        subst e0
        obtain ⟨inf, hinf, hisz⟩ := sizeB_of hsz
        obtain ⟨ys, hys, h⟩ := Option.bind_eq_some_iff.1 h
        simp only [RV] at hs
        obtain ⟨hv, rfl⟩ := hs
        have hrb := m.rb g
        rw [hg] at hrb
        simp only [RB] at hrb
        obtain ⟨_, vs, T, ⟨rest, hh⟩, hcs, h1⟩ := hrb
        have hlive : (getH st.H g).live := by rw [hg]; trivial
        have nm := pvL_noment hp
        obtain ⟨g1, g2, g3⟩ := chunks_of (H := st.H) (Fz' := Fz) m.rb (fun _ h => h) n _ ys vs hys hcs (fun h hm => by rw [nm h] at hm; cases hm)
        have hf : ∀ b, Fz b → (fun k => Fz k ∨ k = (ι g).blk) b := fun _ h => .inl h
        refine ⟨_, _, h, .slice (some ⟨(ι g).blk, 0, none⟩) n n, ?_, fun k => Fz k ∨ k = (ι g).blk, hf, ?_, ?_⟩
        · simp [Instr.sliceAt, run_underlying hu, Instr.sureAddr, Instr.sliceBounds, run_size hinf, Addr.add_lit]
        · have := m.freezeB (f := id) hlive hv rfl (fun _ h => h) (fun _ _ h => h) (fun k bk _ hk => RB_mono (fun _ _ => rfl) hf (fun _ _ => rfl) hk)
          simpa using this
        · simp only [RV, Kd.isAgg, Bool.false_eq_true, if_false, RP]
          refine ⟨_, rfl, some ⟨(ι g).blk, 0, none⟩, n, by rw [g1], by omega, .inr ⟨_, 0, rfl, .inr rfl, fun i x hx => ?_⟩⟩
          have hi : i < n := by have := (List.getElem?_eq_some_iff.1 hx).1; omega
          have hidx : i * κ.size + κ.size ≤ vs.length := by rw [g2, ← Nat.succ_mul]; exact Nat.mul_le_mul_right _ (by omega)
          refine ⟨_, RP_mono (fun _ _ => rfl) hf _ _ _ (g3 i x hx), by rw [List.length_take, List.length_drop]; omega, fun j u hj => ?_⟩
          rw [List.getElem?_take] at hj
          split at hj
          · rw [List.getElem?_drop] at hj
            have := (List.getElem?_eq_some_iff.1 hj).1
            simp only [World.cell?, hh, Nat.zero_add]
            simpa [List.getElem?_append_left this] using hj
          · cases hj
    · cases h
  · cases h
/-! ### rows that become arrays, rows that are cut back -/
theorem apX_box {d blk cap n : Nat} {e : TypeId} {κ : Kd} {xs : List (Den κ)} {cur : Array Value} (hk1 : κ.size = 1) (hka : κ.isAgg = false) (hxl : xs.length = n) (hh : w.heap[blk]? = some (.cells cur e (0, 0)))
    (hcs : cur.size = cap * κ.size) (hlen : xs.length ≤ cap) (hrow : ∀ i x, xs[i]? = some x → ∃ es, RP Fz w κ x es ∧ es.length = κ.size ∧ ∀ j u, es[j]? = some u → cur[i * κ.size + j]? = some u) :
    RB (upd ι d ⟨blk, 0, 0, false⟩) Fz w d (.box ((List.range n).map fun i => .pv κ (xs.getD i κ.zero))) := by
  simp only [RB, upd_at]
  rw [hk1, Nat.mul_one] at hcs
  have hcell : ∀ i x, xs[i]? = some x → ∃ u, cur[i]? = some u ∧ RP Fz w κ x [u] := fun i x hx => by
    obtain ⟨es, a1, a2, a3⟩ := hrow i x hx
    rw [hk1] at a2 a3
    obtain ⟨u, rfl⟩ := List.length_eq_one_iff.1 a2
    have := a3 0 u rfl
    rw [Nat.mul_one, Nat.add_zero] at this
    exact ⟨u, this, a1⟩
  refine ⟨trivial, cur.toList.take n, e, ⟨cur.toList.drop n, by rw [List.take_append_drop]; simpa using hh⟩, ?_, fun v hv => ?_⟩
  · have main : ∀ (k : Nat), k ≤ n → RVs (upd ι d ⟨blk, 0, 0, false⟩) Fz w ((List.range k).map fun i => .pv κ (xs.getD i κ.zero)) (cur.toList.take k) := by
      intro k
      induction k with
      | zero => intro _; simp [RVs]
      | succ k ih =>
        intro hk
        have hkx : k < xs.length := by omega
        obtain ⟨u, hu1, hu2⟩ := hcell k xs[k] (List.getElem?_eq_getElem hkx)
        have hku : k < cur.toList.length := by rw [Array.length_toList]; omega
        have e2 : cur.toList.take (k + 1) = cur.toList.take k ++ [u] := by
          rw [List.take_add_one]
          have : cur.toList[k]? = some u := by simpa using hu1
          rw [this]; rfl
        rw [List.range_succ, List.map_append, e2]
        refine RVs_append (ih (by omega)) ?_
        simp only [List.map_cons, List.map_nil, RVs]
        refine ⟨u, [], rfl, ?_, rfl⟩
        simp only [RV, hka, Bool.false_eq_true, if_false]
        rw [List.getD_eq_getElem?_getD, List.getElem?_eq_getElem hkx]
        exact hu2
    exact main n (Nat.le_refl _)
  · obtain ⟨i, hi⟩ := List.mem_iff_getElem?.1 hv
    have hi' := (List.getElem?_eq_some_iff.1 hi).1
    rw [List.length_take] at hi'
    have hix : i < xs.length := by omega
    obtain ⟨u, hu1, hu2⟩ := hcell i xs[i] (List.getElem?_eq_getElem hix)
    rw [List.getElem?_take, if_pos (by omega)] at hi
    have : cur.toList[i]? = some u := by simpa using hu1
    rw [this] at hi
    cases hi
    exact RP_one κ _ _ hu2 v (by simp)
theorem apX_of {t : TypeId} {st : St} {s : AV} {d : Nat} {K : AV → List (Nat × AB) → List Nat → Option R} {r : R} {E : Env} {a : Act} {vs0 : Value} (b : Behind w0 Fz0 ι Fz st a w) (hs : RV ι Fz w s vs0)
    (h : apX E t st.H st.df s d K = some r) : ∃ v ks, K v ks [d] = some r ∧ okNew st.df d = true ∧ d ∈ ks.map Prod.fst ∧ ∃ v', (Instr.arrayAt t vs0).run E.P w = .ok v' w ∧ ∃ (ι' : Nat → HI), Behind w0 Fz0 ι' Fz ⟨strikeF d st.fr, ks ++ strikeH d st.H, st.df⟩ a w ∧ RV ι' Fz w v v' ∧ (∀ n, n ≠ d → ι' n = ι n) := by
  unfold apX at h
  split at h
  · rename_i n el hat
    have hu := arrT_of hat
    split at h
    · rename_i κ0 g
      split at h
      · rename_i e κ xs hg
        cases hc : (Nat.beq κ.size 1 && !κ.isAgg && Nat.ble 1 n && okNew st.df d) with
        | false => rw [hc] at h; cases h
        | true =>
          rw [hc, cond_true] at h
          simp only [Bool.and_eq_true, Bool.not_eq_true'] at hc
          obtain ⟨⟨⟨hk1, hka⟩, hn1⟩, hdf⟩ := hc
          have hk1 := Nat.eq_of_beq_eq_true hk1
          have hn1 := Nat.le_of_ble_eq_true hn1
          split at h
          · rename_i hxl
            have m := b.2.2
            have hrb := m.rb g
            rw [hg] at hrb
            simp only [RB] at hrb
            simp only [RV] at hs
            rcases hrb.2 with ⟨_, e⟩ | ⟨hv, cur, hh, hlen, hcm, hcs, hrow⟩
            · rw [e] at hxl; simp at hxl; omega
            rcases hs with ⟨hv2, _⟩ | ⟨_, rfl⟩
            · rw [hv] at hv2; cases hv2
            have hlive : (getH st.H g).live := by rw [hg]; trivial
            obtain ⟨s1, s2, s3⟩ := m.sep g hlive hv
            have b1 : Behind w0 Fz0 ι Fz ⟨st.fr, (g, .gone) :: st.H, st.df⟩ a w := ⟨b.1, b.2.1, m.drop fun k => by rw [getH_cons]; by_cases e : g = k; (· rw [if_pos e]; exact .inr rfl); (· rw [if_neg e]; exact .inl rfl)⟩
            have hothers : ∀ h, h ≠ d → (getH ((g, .gone) :: st.H) h).live → (ι h).virt = false → (ι h).blk ≠ (ι g).blk := fun h hd hl hv' e => by
              obtain ⟨n1, n2⟩ := live_not_gone g hl
              exact n1 (m.inj h g n2 hlive hv' hv e)
            refine ⟨_, _, h, hdf, by simp, .pointer (some ⟨(ι g).blk, 0, none⟩), ?_, upd ι d ⟨(ι g).blk, 0, 0, false⟩, ⟨fun t => ?_, ?_, ?_⟩, ?_, fun n hn => upd_ne _ _ _ hn⟩
            · have : ¬ ((ι g).len < n) := by rw [hrb.1]; omega
              simp [Instr.arrayAt, run_underlying hu, this]
            · exact (b1.strike (fun _ _ => rfl) (fun _ h => h) (fun h hh => upd_ne ι d ⟨(ι g).blk, 0, 0, false⟩ hh) (okNew_df hdf).1 (b1.2.2.put (i := ⟨(ι g).blk, 0, 0, false⟩) (b := .box ((List.range n).map fun i => .pv κ (xs.getD i κ.zero))) (Bel.refl _ _) (Nat.le_refl _) (fun _ _ => rfl) (fun _ _ _ => rfl) (fun _ => ⟨s1, s2, s3, hothers⟩) (apX_box hk1 hka hxl hh hcs hlen hrow) (okNew_df hdf).2 ⟨rfl, rfl⟩)).1 t
            · exact (b1.strike (fun _ _ => rfl) (fun _ h => h) (fun h hh => upd_ne ι d ⟨(ι g).blk, 0, 0, false⟩ hh) (okNew_df hdf).1 (b1.2.2.put (i := ⟨(ι g).blk, 0, 0, false⟩) (b := .box ((List.range n).map fun i => .pv κ (xs.getD i κ.zero))) (Bel.refl _ _) (Nat.le_refl _) (fun _ _ => rfl) (fun _ _ _ => rfl) (fun _ => ⟨s1, s2, s3, hothers⟩) (apX_box hk1 hka hxl hh hcs hlen hrow) (okNew_df hdf).2 ⟨rfl, rfl⟩)).2.1
            · exact b1.2.2.put (i := ⟨(ι g).blk, 0, 0, false⟩) (b := .box ((List.range n).map fun i => .pv κ (xs.getD i κ.zero))) (Bel.refl _ _) (Nat.le_refl _) (fun _ _ => rfl) (fun _ _ _ => rfl) (fun _ => ⟨s1, s2, s3, hothers⟩) (apX_box hk1 hka hxl hh hcs hlen hrow) (okNew_df hdf).2 ⟨rfl, rfl⟩
            · simp only [RV, upd_at]
              exact ⟨trivial, trivial⟩
          · cases h
      · cases h
    · cases h
  · cases h
theorem cutX_of {t : TypeId} {st : St} {s hi : AV} {d : Nat} {K : AV → List (Nat × AB) → List Nat → Option R} {r : R} {E : Env} {a : Act} {vs0 vh : Value} (b : Behind w0 Fz0 ι Fz st a w) (hs : RV ι Fz w s vs0) (hh0 : RV ι Fz w hi vh)
    (h : cutX E t st.H st.df s hi d K = some r) : ∃ v ks, K v ks [d] = some r ∧ okNew st.df d = true ∧ d ∈ ks.map Prod.fst ∧ ∃ v', (Instr.sliceAt t vs0 none (some vh) none).run E.P w = .ok v' w ∧ ∃ (ι' : Nat → HI), Behind w0 Fz0 ι' Fz ⟨strikeF d st.fr, ks ++ strikeH d st.H, st.df⟩ a w ∧ RV ι' Fz w v v' ∧ (∀ n, n ≠ d → ι' n = ι n) := by
  unfold cutX at h
  obtain ⟨el, hu, h⟩ := elemK_of h
  split at h
  · rename_i κ0 g k j hold
    rw [RV_int] at hh0
    subst hh0
    split at h
    · rename_i e κ xs hg
      cases hc : (sizeB E.P el κ.size && okNew st.df d) with
      | false => rw [hc] at h; cases h
      | true =>
        rw [hc, cond_true] at h
        simp only [Bool.and_eq_true] at hc
        obtain ⟨hsz, hdf⟩ := hc
        obtain ⟨inf, hinf, hisz⟩ := sizeB_of hsz
        obtain ⟨p, hp, h⟩ := Option.bind_eq_some_iff.1 h
        obtain ⟨_, h0, h1, rfl⟩ := chk2_of hp
        have m := b.2.2
        have hrb := m.rb g
        rw [hg] at hrb
        simp only [RB] at hrb
        simp only [RV] at hs
        have b1 : Behind w0 Fz0 ι Fz ⟨st.fr, (g, .gone) :: st.H, st.df⟩ a w := ⟨b.1, b.2.1, m.drop fun k => by rw [getH_cons]; by_cases e : g = k; (· rw [if_pos e]; exact .inr rfl); (· rw [if_neg e]; exact .inl rfl)⟩
        refine ⟨_, _, h, hdf, by simp, ?_⟩
        rcases hs with ⟨hv, rfl⟩ | ⟨hv, rfl⟩
        · rcases hrb.2 with ⟨_, e⟩ | ⟨e, _⟩
          · subst e
            have h1' : (j : Int) ≤ 0 := by simpa using h1
            have hj : j = 0 := Int.le_antisymm h1' h0
            subst hj
            obtain ⟨p, q⟩ := b1.virt (d := d) (el := e) (κ := κ) hdf
            refine ⟨.slice none 0 0, ?_, _, p, q, fun n hn => upd_ne _ _ _ hn⟩
            simp [Instr.sliceAt, run_underlying hu, Instr.slice, bounds_of (lo := none) (hi := some (.int k 0)) (l := 0) (h := 0) (len := 0) (cap := 0) (.inl ⟨rfl, rfl⟩) (.inr ⟨k, rfl⟩) (by omega) (by omega) (by omega) (by omega), run_size hinf]
          · rw [hv] at e; cases e
        · rcases hrb.2 with ⟨e, _⟩ | ⟨_, cur, hh, hlen, hcm, hcs, hrow⟩
          · rw [hv] at e; cases e
          have hlive : (getH st.H g).live := by rw [hg]; trivial
          obtain ⟨s1, s2, s3⟩ := m.sep g hlive hv
          have hothers : ∀ h, h ≠ d → (getH ((g, .gone) :: st.H) h).live → (ι h).virt = false → (ι h).blk ≠ (ι g).blk := fun h hd hl hv' e => by
            obtain ⟨n1, n2⟩ := live_not_gone g hl
            exact n1 (m.inj h g n2 hlive hv' hv e)
          have htl : (xs.take j.toNat).length = j.toNat := by rw [List.length_take]; omega
          obtain ⟨p, q⟩ := b1.arr (d := d) (el := e) (κ := κ) (xs := xs.take j.toNat) (vs := cur) (blk := (ι g).blk) (cap := (ι g).cap) (w' := w) hdf (Bel.refl _ _) (Nat.le_refl _) (fun _ _ => rfl) (fun _ _ _ => rfl)
            ⟨s1, s2, s3, hothers⟩ hh (fun k y hy => by
              have hy' : xs[k]? = some y := by
                rw [List.getElem?_take] at hy
                split at hy
                · exact hy
                · cases hy
              obtain ⟨es, a1, a2, a3⟩ := hrow k y hy'
              exact ⟨es, a1, a2, fun j u hj => by simpa using a3 j u hj⟩) (by rw [htl]; omega) hcm hcs
          refine ⟨.slice (some ⟨(ι g).blk, 0, none⟩) (xs.take j.toNat).length (ι g).cap, ?_, _, p, q, fun n hn => upd_ne _ _ _ hn⟩
          have := bounds_of (P := E.P) (w := w) (b := true) (lo := none) (hi := some (.int k j)) (l := 0) (h := j) (len := (ι g).len) (cap := (ι g).cap) (.inl ⟨rfl, rfl⟩) (.inr ⟨k, rfl⟩) (by omega) (by omega) (by rw [hrb.1]; exact h1) (by rw [hrb.1]; exact hlen)
          simp [Instr.sliceAt, run_underlying hu, Instr.slice, this, run_size hinf, htl, Addr.add_lit]
    · cases h
  · cases h
end
end Go.Av
