/- Any one operation; then a list of operations in the text's order. -/
import Derived.Test.YtlbbldhbggfoaaaDoorAv10
set_option linter.unusedVariables false
set_option linter.unusedSimpArgs false
namespace Go.Av
open Go Go.RowKit

section
variable {R : Type} {P : Program} {w0 : Root} {Fz0 : Nat → Prop} {ι : Nat → HI} {Fz : Nat → Prop} {H : List (Nat × AB)} {w : World}

/-! ### what is frozen -/
theorem RV_frz {Fz' : Nat → Prop} {h : Nat} {e : TypeId} {κ : Kd} {xs : List (Den κ)} {a : AV} {v : Value} (hrb : RB ι Fz w h (.arr e κ xs)) (hf : ∀ b, Fz b → Fz' b) (hb : (ι h).virt = false → Fz' (ι h).blk)
    (hr : RV ι Fz w a v) : RV ι Fz' w (a.frz h κ xs) v := by
  have strike : RV ι Fz' w (a.strike h) v := RV_strike (fun _ _ => rfl) hf (fun _ _ => rfl) hr
  cases a with
  | own κ' g =>
    simp only [AV.frz]
    cases hg : Nat.beq g h with
    | false => exact RV_mono (fun _ _ => rfl) hf _ _ (fun _ _ => rfl) hr
    | true =>
      have e1 := Nat.eq_of_beq_eq_true hg
      subst e1
      have hlen := hrb.1
      have key := arr_RLf hrb hf hb 0 xs.length (by omega) (v := v) (by
        simp only [RV] at hr
        simp only [RB] at hrb
        rcases hr with ⟨hv, rfl⟩ | ⟨hv, rfl⟩
        · left
          rcases hrb.2 with ⟨_, e⟩ | ⟨e, _⟩
          · rw [e]; exact ⟨rfl, none, 0, rfl⟩
          · rw [hv] at e; cases e
        · right
          refine ⟨hv, (ι g).cap, by rw [hlen]; simp, ?_⟩
          rcases hrb.2 with ⟨e, _⟩ | ⟨_, vs, _, e, _⟩
          · rw [hv] at e; cases e
          · exact e)
      simp only [cond_true, RV, Kd.isAgg, Bool.false_eq_true, if_false, RP]
      exact ⟨v, rfl, by simpa using key⟩
  | sub κ' g off len =>
    simp only [AV.frz]
    cases hg : Nat.beq g h with
    | false => exact RV_mono (fun _ _ => rfl) hf _ _ (fun _ _ => rfl) hr
    | true =>
      have e1 := Nat.eq_of_beq_eq_true hg
      subst e1
      cases hd : decide (κ' = κ) with
      | false => simp [RV]
      | true =>
        have e2 := of_decide_eq_true hd
        subst e2
        simp only [RV] at hr
        have hlen := hrb.1
        simp only [cond_true, RV, Kd.isAgg, Bool.false_eq_true, if_false, RP]
        exact ⟨v, rfl, arr_RLf hrb hf hb off len (by omega) (v := v) hr.2⟩
  | _ => exact strike
theorem RVs_frz {Fz' : Nat → Prop} {h : Nat} {e : TypeId} {κ : Kd} {xs : List (Den κ)} (hrb : RB ι Fz w h (.arr e κ xs)) (hf : ∀ b, Fz b → Fz' b) (hb : (ι h).virt = false → Fz' (ι h).blk) :
    ∀ {cs : List AV} {vs : List Value}, RVs ι Fz w cs vs → RVs ι Fz' w (cs.map (AV.frz h κ xs)) vs
  | [], vs, h => by simp only [RVs, List.map_nil] at h ⊢; exact h
  | c :: cs, vs, h => by
    simp only [RVs, List.map_cons] at h ⊢
    obtain ⟨v, r, e, h1, h2⟩ := h
    exact ⟨v, r, e, RV_frz hrb hf hb h1, RVs_frz hrb hf hb h2⟩
theorem frz_of {st : St} {a : Act} {h : Nat} (b : Behind w0 Fz0 ι Fz st a w) (hdf : okDf st.df h = true) : ∃ Fz' : Nat → Prop, (∀ b, Fz b → Fz' b) ∧ Behind w0 Fz0 ι Fz' (st.frz h) a w ∧
    ((getH st.H h).isArr → (ι h).virt = false → Fz' (ι h).blk) ∧ (∀ k, (getH (st.frz h).H k).isArr → (getH st.H k).isArr) := by
  unfold St.frz
  split
  · rename_i e κ xs hg
    have m := b.2.2
    have hrb := m.rb h
    rw [hg] at hrb
    have hlive : (getH st.H h).live := by rw [hg]; trivial
    refine ⟨fun k => Fz k ∨ ((ι h).virt = false ∧ k = (ι h).blk), fun _ h => .inl h, ⟨fun t => ?_, ?_, ?_⟩, fun _ hv => .inr ⟨hv, rfl⟩, fun k hk => ?_⟩
    · show RV _ _ _ (getF (st.fr.map fun (t, v) => (t, v.frz h κ xs)) t) _
      rw [getF_map (AV.frz h κ xs) rfl]
      exact RV_frz hrb (fun _ h => .inl h) (fun hv => .inr ⟨hv, rfl⟩) (b.1 t)
    · exact RD_mono (fun _ _ => rfl) (fun _ h => .inl h) _ _ (fun _ _ => rfl) b.2.1
    · have e : ∀ k, getH ((h, .gone) :: st.H.map fun (t, b) => (t, b.frz h κ xs)) k = if h = k then .gone else (getH st.H k).frz h κ xs := fun k => by
        rw [getH_cons, getH_map (AB.frz h κ xs) rfl]
      have live : ∀ k, (getH ((h, .gone) :: st.H.map fun (t, b) => (t, b.frz h κ xs)) k).live → k ≠ h ∧ (getH st.H k).live := fun k hk => by
        rw [e] at hk
        split at hk
        · exact hk.elim
        · rename_i hne
          refine ⟨Ne.symm hne, ?_⟩
          revert hk
          cases getH st.H k <;> simp [AB.frz, AB.live]
      refine ⟨m.below, fun k hk => ?_, fun k hk => .inl (m.fz0 k hk), fun k hk => ?_, fun k => ?_, fun k hk hv => ?_, fun k k' hk hk' => m.inj k k' (live k hk).2 (live k' hk').2, m.iot, fun k => (by rw [e]; split; trivial; (· have := m.cn k; revert this; cases getH st.H k <;> exact id))⟩
      · rcases hk with hk | ⟨hv, rfl⟩
        · exact m.fz k hk
        · exact (m.sep h hlive hv).2.1
      · rcases hk with hk | ⟨hv, rfl⟩
        · exact m.fzn k hk
        · exact .inr (m.sep h hlive hv).1
      · rw [e]
        split
        · trivial
        · have hk := m.rb k
          generalize getH st.H k = bk at hk
          cases bk with
          | gone => trivial
          | box cs =>
            simp only [RB, AB.frz] at hk ⊢
            obtain ⟨hv, vs, T, h1, h2, h3⟩ := hk
            exact ⟨hv, vs, T, h1, RVs_frz hrb (fun _ h => .inl h) (fun hv => .inr ⟨hv, rfl⟩) h2, h3⟩
          | arr e' κ' ys => exact RB_mono (fun _ _ => rfl) (fun _ h => .inl h) (fun _ _ => rfl) hk
      · obtain ⟨hne, hl⟩ := live k hk
        obtain ⟨a1, a2, a3⟩ := m.sep k hl hv
        refine ⟨a1, a2, fun hf => ?_⟩
        rcases hf with hf | ⟨hv', e⟩
        · exact a3 hf
        · exact hne (m.inj k h hl hlive hv hv' e)
    · rw [getH_cons, getH_map (AB.frz h κ xs) rfl] at hk
      split at hk
      · exact hk.elim
      · revert hk
        cases getH st.H k <;> simp [AB.frz, AB.isArr]
  · rename_i hng
    refine ⟨Fz, fun _ h => h, b, fun ha => ?_, fun _ h => h⟩
    cases hk : getH st.H h with
    | arr e κ xs => exact absurd hk (hng e κ xs)
    | gone => rw [hk] at ha; exact ha.elim
    | box cs => rw [hk] at ha; exact ha.elim
theorem frzArgs_of : ∀ (avs : List AV) {Fz : Nat → Prop} {st st' : St} {a : Act}, frzArgs st avs = some st' → Behind w0 Fz0 ι Fz st a w →
    ∃ Fz' : Nat → Prop, (∀ b, Fz b → Fz' b) ∧ Behind w0 Fz0 ι Fz' st' a w ∧ (∀ h, mentL h avs = true → (getH st.H h).live → (ι h).virt = false → Fz' (ι h).blk) ∧
      (∀ h, mentL h avs = false → (getH st.H h).live → (getH st'.H h).live) ∧ (∀ h, (getH st'.H h).live → (getH st.H h).live)
  | [], Fz, st, st', a, h, b => by
    simp only [frzArgs, Option.some.injEq] at h
    subst h
    exact ⟨Fz, fun _ h => h, b, fun h hm => by simp [mentL] at hm, fun _ _ h => h, fun _ h => h⟩
  | c :: cs, Fz, st, st', a, h, b => by
    have step : ∀ (g : Nat), (bif okDf st.df g && (getH st.H g).notBox then frzArgs (st.frz g) cs else none) = some st' → (∀ h, c.ment h = true → h = g) → c.ment g = true →
        ∃ Fz' : Nat → Prop, (∀ b, Fz b → Fz' b) ∧ Behind w0 Fz0 ι Fz' st' a w ∧ (∀ h, mentL h (c :: cs) = true → (getH st.H h).live → (ι h).virt = false → Fz' (ι h).blk) ∧
          (∀ h, mentL h (c :: cs) = false → (getH st.H h).live → (getH st'.H h).live) ∧ (∀ h, (getH st'.H h).live → (getH st.H h).live) := by
      intro g h hm hm'
      cases hdf : (okDf st.df g && (getH st.H g).notBox) with
      | false => rw [hdf] at h; cases h
      | true =>
        rw [hdf, cond_true] at h
        simp only [Bool.and_eq_true] at hdf
        obtain ⟨F1, f1, b1, f2, f3⟩ := frz_of b hdf.1
        obtain ⟨F2, g1, b2, g2, g3, g4⟩ := frzArgs_of cs h b1
        have still : ∀ k, k ≠ g → ((getH (st.frz g).H k).live ↔ (getH st.H k).live) := by
          intro k e
          unfold St.frz
          split
          · rename_i e' κ xs hg
            rw [getH_cons, getH_map (AB.frz g κ xs) rfl, if_neg (Ne.symm e)]
            cases getH st.H k <;> simp [AB.frz, AB.live]
          · exact Iff.rfl
        refine ⟨F2, fun _ h => g1 _ (f1 _ h), b2, fun k hk ha hv => ?_, fun k hk ha => ?_, fun k hk => ?_⟩
        · by_cases e : k = g
          · subst e
            refine g1 _ (f2 ?_ hv)
            have := hdf.2
            revert this ha
            cases getH st.H k <;> simp [AB.live, AB.notBox, AB.isArr]
          · simp only [mentL, Bool.or_eq_true] at hk
            rcases hk with hk | hk
            · exact absurd (hm k hk) e
            · exact g2 k hk ((still k e).2 ha) hv
        · have e : k ≠ g := fun e => by subst e; simp [mentL, hm'] at hk
          simp only [mentL, Bool.or_eq_false_iff] at hk
          exact g3 k hk.2 ((still k e).2 ha)
        · have hk2 := g4 k hk
          by_cases e : k = g
          · subst e
            revert hk2
            unfold St.frz
            split
            · rename_i e' κ xs hg; rw [hg]; intro _; trivial
            · exact id
          · exact (still k e).1 hk2
    have skip : frzArgs st cs = some st' → (∀ h, c.ment h = false) →
        ∃ Fz' : Nat → Prop, (∀ b, Fz b → Fz' b) ∧ Behind w0 Fz0 ι Fz' st' a w ∧ (∀ h, mentL h (c :: cs) = true → (getH st.H h).live → (ι h).virt = false → Fz' (ι h).blk) ∧
          (∀ h, mentL h (c :: cs) = false → (getH st.H h).live → (getH st'.H h).live) ∧ (∀ h, (getH st'.H h).live → (getH st.H h).live) := by
      intro h hm
      obtain ⟨F2, g1, b2, g2, g3, g4⟩ := frzArgs_of cs h b
      exact ⟨F2, g1, b2, fun k hk ha hv => g2 k (by simpa [mentL, hm k] using hk) ha hv, fun k hk => g3 k (by simpa [mentL, hm k] using hk), g4⟩
    simp only [frzArgs] at h
    split at h
    · exact step _ h (fun k hk => by simp only [AV.ment] at hk; exact (Nat.eq_of_beq_eq_true hk).symm) (by simp [AV.ment])
    · exact step _ h (fun k hk => by simp only [AV.ment] at hk; exact (Nat.eq_of_beq_eq_true hk).symm) (by simp [AV.ment])
    · cases hfr : (c.free || !c.handled) with
      | false => rw [hfr] at h; cases h
      | true =>
        rw [hfr, cond_true] at h
        refine skip h fun k => ?_
        simp only [Bool.or_eq_true] at hfr
        rcases hfr with hfr | hfr
        · exact free_ment c hfr k
        · have := noH_ment (cs := [c]) (by simpa using hfr) k
          simpa [mentL] using this

theorem frzArgs_skip {st : St} : ∀ {ls : List AV}, ls.all (fun v => !v.handled) = true → frzArgs st ls = some st
  | [], _ => rfl
  | v :: r, h => by
    simp only [List.all_cons, Bool.and_eq_true] at h
    have ih := frzArgs_skip (st := st) h.2
    have hv := h.1
    have gen : (bif v.free || !v.handled then frzArgs st r else none) = some st := by rw [hv, Bool.or_true, cond_true]; exact ih
    cases v <;> first | (simp [AV.handled] at hv; done) | exact gen
/-! ### one operation -/
theorem pv_cells {κ : Kd} {x : Den κ} {v : Value} (h : RV ι Fz w (.pv κ x) v) : RP Fz w κ x v.cells.toList := by
  simp only [RV] at h
  cases hka : κ.isAgg with
  | true => simp only [hka, if_true] at h; obtain ⟨vs, e, h⟩ := h; rw [e]; exact h
  | false =>
    simp only [hka, Bool.false_eq_true, if_false] at h
    have h1 := RP_one κ x _ h v (by simp)
    have : v.cells.toList = [v] := by cases v <;> simp_all [Value.cells, Value.oneCell']
    rw [this]; exact h
theorem setV_lt : ∀ (us vs : List Value) (off k : Nat), k < off → (setV vs off us)[k]? = vs[k]?
  | [], _, _, _, _ => rfl
  | u :: us, vs, off, k, h => by
    simp only [setV]
    rw [setV_lt us _ _ _ (by omega), List.getElem?_set_ne (by omega)]
theorem setV_ge : ∀ (us vs : List Value) (off k : Nat), off + us.length ≤ k → (setV vs off us)[k]? = vs[k]?
  | [], _, _, _, _ => rfl
  | u :: us, vs, off, k, h => by
    simp only [List.length_cons] at h
    simp only [setV]
    rw [setV_ge us _ _ _ (by omega), List.getElem?_set_ne (by omega)]
theorem setV_in : ∀ (us vs : List Value) (off j : Nat), j < us.length → off + us.length ≤ vs.length → (setV vs off us)[off + j]? = us[j]?
  | [], _, _, _, h, _ => by simp at h
  | u :: us, vs, off, 0, h, h2 => by
    simp only [List.length_cons] at h2
    simp only [setV]
    rw [setV_lt us _ _ _ (by omega), Nat.add_zero, List.getElem?_set_self (by omega)]
    rfl
  | u :: us, vs, off, j + 1, h, h2 => by
    simp only [List.length_cons] at h h2
    simp only [setV]
    rw [show off + (j + 1) = off + 1 + j by omega, setV_in us _ (off + 1) j (by omega) (by simp; omega)]
    simp
/-- What an operation gives, in the state's own words. -/
def Wp (P : Program) (w0 : Root) (Fz0 : Nat → Prop) (o : Oper) (a : Act) (w : World) (v : AV) (st' : St) : Prop :=
  ∀ (K : Act → World → Prop) (Q : Exit → Act → World → Prop), (∀ v' a' w' ι' Fz', a'.tmps = a.tmps → Behind w0 Fz0 ι' Fz' st' a' w' → RV ι' Fz' w' v v' → K (a'.put o.dst v') w') → o.wp P a w K Q
theorem stX_of {t : TypeId} {st : St} {av xv : AV} {vx vy : Value} {K : AV → List (Nat × AB) → List Nat → Option R} {r : R} {E : Env} {a : Act} (b : Behind w0 Fz0 ι Fz st a w) (hx : RV ι Fz w av vx) (hy : RV ι Fz w xv vy)
    (h : stX E t av xv st.H K = some r) : ∃ ks, K .dead ks [] = some r ∧ ∃ w', (Instr.storeAt t vx vy).run E.P w = .ok () w' ∧ Behind w0 Fz0 ι Fz ⟨st.fr, ks ++ st.H, st.df⟩ a w' := by
  have m := b.2.2
  unfold stX at h
  have fin : ∀ {ks : List (Nat × AB)} {w' : World}, K .dead ks [] = some r → (Instr.storeAt t vx vy).run E.P w = .ok () w' → Behind w0 Fz0 ι Fz ⟨st.fr, ks ++ st.H, st.df⟩ a w' → (AV.dead = .dead) →
      ∃ ks, K .dead ks [] = some r ∧ ∃ w', (Instr.storeAt t vx vy).run E.P w = .ok () w' ∧ Behind w0 Fz0 ι Fz ⟨st.fr, ks ++ st.H, st.df⟩ a w' :=
    fun hk hr hb _ => ⟨_, hk, _, hr, hb⟩
  split at h
  · rename_i g off
    simp only [RV] at hx
    obtain ⟨hv, hxe⟩ := hx
    have hrb := m.rb g
    split at h
    · rename_i cs hg
      rw [hg] at hrb
      simp only [RB] at hrb
      obtain ⟨_, vs, T, hh, hcs, h1⟩ := hrb
      cases hc : (sizeB E.P t xv.flat.length && Nat.ble (off + xv.flat.length) cs.length && aliveL xv.flat) with
      | false => rw [hc] at h; cases h
      | true =>
        rw [hc, cond_true] at h
        simp only [Bool.and_eq_true] at hc
        obtain ⟨⟨hs, hle⟩, hal⟩ := hc
        obtain ⟨inf, hinf, hsz⟩ := sizeB_of hs
        have hle := Nat.le_of_ble_eq_true hle
        obtain ⟨hfl, hone⟩ := flat_of hy hal
        have hl1 := RVs_len hfl
        have hl2 := RVs_len hcs
        have hl3 : vy.cells.toList.length = vy.cells.size := by simp
        obtain ⟨w', hr, hu⟩ := run_storeCells (P := E.P) vy.cells.toList vs w off 0 hh (by omega) hone
        simp only [Nat.add_zero] at hu
        have hlive : (getH st.H g).live := by rw [hg]; trivial
        obtain ⟨s1, s2, s3⟩ := m.sep g hlive hv
        have hw : ∀ b, Fz b → w'.heap[b]? = w.heap[b]? := fun k hk => hu.ne k (fun e => s3 (e ▸ hk))
        refine fin h (w' := w') ?_ (b.mono hw (fun _ h => h) (m.upd hlive hv hu ?_ trivial (by have := m.cn g; rw [hg] at this; exact this))) rfl
        · have hne : ¬ vy.cells.size ≠ inf.size := by omega
          simp [Instr.storeAt, hxe, Instr.sureAddr, storeVar, run_size hinf, hne, hr]
        · simp only [RB]
          exact ⟨hv, _, T, hu.at', RVs_mono hw (fun _ h => h) _ _ (fun _ _ => rfl) (setCells_of _ _ _ _ _ hfl hcs), setV_one _ _ _ hone h1⟩
    · cases h
  · rename_i κ₀ g idx
    simp only [RV] at hx
    obtain ⟨hv, hidx, hxe⟩ := hx
    have hrb := m.rb g
    split at h
    · rename_i el κ xs hg
      rw [hg] at hrb
      cases hc : (decide (κ₀ = κ) && sizeB E.P t κ.size && xv.free) with
      | false => rw [hc] at h; cases h
      | true =>
        rw [hc, cond_true] at h
        simp only [Bool.and_eq_true, decide_eq_true_eq] at hc
        obtain ⟨⟨rfl, hs⟩, hfree⟩ := hc
        obtain ⟨inf, hinf, hsz⟩ := sizeB_of hs
        obtain ⟨z, hz, h⟩ := Option.bind_eq_some_iff.1 h
        have hpv : RV ι Fz w (.pv κ₀ z) vy := argD_of m.rb (fun _ h => h) hz hy (fun k hk => by rw [free_ment _ hfree k] at hk; cases hk)
        have hcells := pv_cells hpv
        have hlen := RP_len κ₀ z _ hcells
        have hone := RP_one κ₀ z _ hcells
        simp only [RB] at hrb
        rcases hrb.2 with ⟨e, _⟩ | ⟨_, vs, hh, h2, h3, h4, h5⟩
        · rw [hv] at e; cases e
        have hh' : w.heap[(ι g).blk]? = some (.cells vs.toList.toArray el (0, 0)) := by simpa using hh
        have hfit : idx * κ₀.size + κ₀.size ≤ vs.toList.length := by
          have : (idx + 1) * κ₀.size ≤ (ι g).cap * κ₀.size := Nat.mul_le_mul_right _ (by rw [hrb.1] at hidx; omega)
          rw [Nat.add_mul, Nat.one_mul] at this
          simpa [h4] using this
        obtain ⟨w', hr, hu⟩ := run_storeCells (P := E.P) vy.cells.toList vs.toList w (idx * κ₀.size) 0 hh' (by omega) hone
        simp only [Nat.add_zero] at hu
        have hlive : (getH st.H g).live := by rw [hg]; trivial
        obtain ⟨s1, s2, s3⟩ := m.sep g hlive hv
        have hw : ∀ b, Fz b → w'.heap[b]? = w.heap[b]? := fun k hk => hu.ne k (fun e => s3 (e ▸ hk))
        refine fin h (w' := w') ?_ (b.mono hw (fun _ h => h) (m.upd hlive hv hu ?_ trivial (by have := m.cn g; rw [hg] at this; exact this))) rfl
        · have hl3 : vy.cells.toList.length = vy.cells.size := by simp
          have hne : ¬ vy.cells.size ≠ inf.size := by omega
          simp [Instr.storeAt, hxe, Instr.sureAddr, storeVar, run_size hinf, hne, hr]
        · simp only [RB]
          refine ⟨by rw [List.length_set]; exact hrb.1, .inr ⟨hv, _, hu.at', by rw [List.length_set]; exact h2, h3, ?_, fun k u hk => ?_⟩⟩
          · rw [List.size_toArray, setV_len]; simpa using h4
          · rcases Nat.lt_trichotomy k idx with hlt | heq | hgt
            · rw [List.getElem?_set_ne (by omega)] at hk
              obtain ⟨es, a1, a2, a3⟩ := h5 k u hk
              refine ⟨es, RP_mono hw (fun _ h => h) _ _ _ a1, a2, fun j q hj => ?_⟩
              have hjl := (List.getElem?_eq_some_iff.1 hj).1
              have : k * κ₀.size + κ₀.size ≤ idx * κ₀.size := by rw [← Nat.succ_mul]; exact Nat.mul_le_mul_right _ hlt
              rw [List.getElem?_toArray, setV_lt _ _ _ _ (by omega)]
              simpa using a3 j q hj
            · subst heq
              rw [List.getElem?_set_self (by rw [hrb.1] at hidx; exact hidx)] at hk
              simp only [Option.some.injEq] at hk
              subst hk
              refine ⟨_, RP_mono hw (fun _ h => h) _ _ _ hcells, hlen, fun j q hj => ?_⟩
              have hjl := (List.getElem?_eq_some_iff.1 hj).1
              rw [List.getElem?_toArray, setV_in _ _ _ _ hjl (by omega)]
              exact hj
            · rw [List.getElem?_set_ne (by omega)] at hk
              obtain ⟨es, a1, a2, a3⟩ := h5 k u hk
              refine ⟨es, RP_mono hw (fun _ h => h) _ _ _ a1, a2, fun j q hj => ?_⟩
              have : idx * κ₀.size + κ₀.size ≤ k * κ₀.size := by rw [← Nat.succ_mul]; exact Nat.mul_le_mul_right _ hgt
              rw [List.getElem?_toArray, setV_ge _ _ _ _ (by omega)]
              simpa using a3 j q hj
    · cases h
  · cases h
theorem store_of {t : TypeId} {x y : Operand} {st : St} {K : AV → St → Option R} {r : R} {E : Env} {a : Act} {o : Oper} (b : Behind w0 Fz0 ι Fz st a w) (ho : o.op = .store t x y)
    (h : opW E o st K = some r) : ∃ v st', K v st' = some r ∧ Wp E.P w0 Fz0 o a w v st' := by
  simp only [opW, ho] at h
  obtain ⟨ks, hk, w', hr, hb⟩ := stX_of b (opnd_of b.1 x) (opnd_of b.1 y) h
  refine ⟨_, _, hk, fun Kc Q hK => ?_⟩
  have : OpGives E.P o a w (fun v'' w'' => v'' = undef ∧ w'' = w') := .inr (.inl ⟨w', by simp [execOp, ho, hr], rfl, rfl⟩)
  refine this.wp ?_
  rintro v'' w'' ⟨e1, e2⟩
  exact hK _ a w'' ι Fz rfl (e2 ▸ hb) (by simp [RV])
end
end Go.Av
