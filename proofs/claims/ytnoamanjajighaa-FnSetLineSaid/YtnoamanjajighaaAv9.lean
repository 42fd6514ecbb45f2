/- The operations that write: what the evaluator says of them is what the model does. -/
import Derived.Test.YtnoamanjajighaaAv22
set_option linter.unusedVariables false
set_option linter.unusedSimpArgs false
namespace Go.Av
open Go Go.RowKit

section
variable {R : Type} {P : Program} {w0 : Root} {Fz0 : Nat → Prop} {ι : Nat → HI} {Fz : Nat → Prop} {H : List (Nat × AB)} {w : World}

/-- A handle is struck. -/
theorem Mem.strike (m : Mem w0 Fz0 ι Fz H w) (h : Nat) : Mem w0 Fz0 ι Fz ((h, .gone) :: strikeH h H) w := by
  have e : ∀ k, getH ((h, .gone) :: strikeH h H) k = if h = k then .gone else (getH H k).strike h := fun k => by rw [getH_cons, getH_strike]
  have live : ∀ k, (getH ((h, .gone) :: strikeH h H) k).live → (getH H k).live := fun k hk => by
    rw [e] at hk
    split at hk
    · exact hk.elim
    · exact (live_strike h _).1 hk
  refine ⟨m.below, m.fz, m.fz0, m.fzn, fun k => ?_, fun k hk => m.sep k (live k hk), fun k k' hk hk' => m.inj k k' (live k hk) (live k' hk'), m.iot, fun k => (by rw [e]; split; trivial; exact Cn_strike.2 (m.cn k)), m.gz⟩
  rw [e]
  split
  · trivial
  · rename_i hne
    exact RB_strike (fun _ _ => rfl) (fun _ h => h) (fun _ _ => rfl) (Ne.symm hne) (fun _ _ => rfl) (m.rb k)
theorem live_not_struck (h : Nat) {k : Nat} (hk : (getH ((h, .gone) :: strikeH h H) k).live) : k ≠ h ∧ (getH H k).live := by
  rw [getH_cons, getH_strike] at hk
  split at hk
  · exact hk.elim
  · rename_i hne; exact ⟨Ne.symm hne, (live_strike h _).1 hk⟩
/-- A new handle over a block that nothing else holds. -/
theorem Mem.put {w' : World} {d : Nat} {i : HI} {b : AB} (m : Mem w0 Fz0 ι Fz H w) (hbel : Bel w0.own w w') (hsz : w.heap.size ≤ w'.heap.size) (hw : ∀ b, Fz b → w'.heap[b]? = w.heap[b]?)
    (hl : ∀ h, (getH H h).live → (ι h).virt = false → w'.heap[(ι h).blk]? = w.heap[(ι h).blk]?)
    (hi : i.virt = false → w0.own i.blk ∧ i.blk < w'.heap.size ∧ ¬ Fz i.blk ∧ ∀ h, h ≠ d → (getH H h).live → (ι h).virt = false → (ι h).blk ≠ i.blk) (hb : RB (Av.upd ι d i) Fz w' d b) (hd : d < 1000000) (hcn : Cn i b) :
    Mem w0 Fz0 (Av.upd ι d i) Fz ((d, b) :: strikeH d H) w' := by
  refine ⟨m.below.trans hbel, fun b hb => Nat.lt_of_lt_of_le (m.fz b hb) hsz, m.fz0, m.fzn, fun h => ?_, fun h hl' hv => ?_, fun h h' hl1 hl2 hv hv' he => ?_, fun k hk => (upd_ne _ _ _ (by omega)).trans (m.iot k hk), Cn_new m.cn hcn, m.gz⟩
  · rw [getH_new]
    by_cases e : d = h
    · subst e; simpa using hb
    · rw [if_neg e]
      exact RB_strike hw (fun _ h => h) (fun _ h => upd_ne _ _ _ h) (Ne.symm e) (hl h) (m.rb h)
  · rw [getH_new] at hl'
    by_cases e : d = h
    · subst e
      rw [upd_at] at hv ⊢
      exact ⟨(hi hv).1, (hi hv).2.1, (hi hv).2.2.1⟩
    · rw [if_neg e, live_strike] at hl'
      rw [upd_ne _ _ _ (Ne.symm e)] at hv ⊢
      obtain ⟨h1, h2, h3⟩ := m.sep h hl' hv
      exact ⟨h1, Nat.lt_of_lt_of_le h2 hsz, h3⟩
  · rw [getH_new] at hl1 hl2
    by_cases e : d = h
    · by_cases e' : d = h'
      · omega
      · subst e
        rw [if_neg e', live_strike] at hl2
        rw [upd_at] at hv he
        rw [upd_ne _ _ _ (Ne.symm e')] at hv' he
        exact absurd he.symm ((hi hv).2.2.2 h' (Ne.symm e') hl2 hv')
    · rw [if_neg e, live_strike] at hl1
      rw [upd_ne _ _ _ (Ne.symm e)] at hv he
      by_cases e' : d = h'
      · subst e'
        rw [upd_at] at hv' he
        exact absurd he ((hi hv').2.2.2 h (Ne.symm e) hl1 hv)
      · rw [if_neg e', live_strike] at hl2
        rw [upd_ne _ _ _ (Ne.symm e')] at hv' he
        exact m.inj h h' hl1 hl2 hv hv' he

/-! ### what is appended -/
theorem flatten_cells {κ : Kd} : ∀ (ys : List (Den κ)) (b off : Nat), (∀ i x, ys[i]? = some x → ∃ es, RP Fz w κ x es ∧ es.length = κ.size ∧ Lie w es b (off + i * κ.size)) →
    ∃ news : List Value, news.length = ys.length * κ.size ∧ Lie w news b off ∧ (∀ u ∈ news, u.oneCell' = true) ∧ Row Fz w κ ys news
  | [], b, off, _ => ⟨[], by simp, fun j u h => by simp at h, fun u h => by simp at h, Row.nil⟩
  | y :: ys, b, off, h => by
    obtain ⟨es, h1, h2, h3⟩ := h 0 y rfl
    obtain ⟨news, a1, a2, a3, a4⟩ := flatten_cells ys b (off + κ.size) (fun i x hx => by
      obtain ⟨es, h1, h2, h3⟩ := h (i + 1) x (by simpa using hx)
      refine ⟨es, h1, h2, ?_⟩
      rwa [show off + κ.size + i * κ.size = off + (i + 1) * κ.size by rw [Nat.add_mul]; omega])
    simp only [Nat.zero_mul, Nat.add_zero] at h3
    refine ⟨es ++ news, by simp [h2, a1, Nat.add_mul]; omega, fun j u hj => ?_, fun u hu => ?_, fun i x hx => ?_⟩
    · rcases Nat.lt_or_ge j es.length with hlt | hge
      · rw [List.getElem?_append_left hlt] at hj; exact h3 j u hj
      · rw [List.getElem?_append_right hge] at hj
        have := a2 _ u hj
        rwa [show off + κ.size + (j - es.length) = off + j by omega] at this
    · rcases List.mem_append.1 hu with hu | hu
      · exact RP_one κ y es h1 u hu
      · exact a3 u hu
    · cases i with
      | zero =>
        simp only [List.getElem?_cons_zero, Option.some.injEq] at hx
        subst hx
        exact ⟨es, h1, h2, fun j u hj => by rw [Nat.zero_mul, Nat.zero_add, List.getElem?_append_left ((List.getElem?_eq_some_iff.1 hj).1)]; exact hj⟩
      | succ i =>
        obtain ⟨es', b1, b2, b3⟩ := a4 i x (by simpa using hx)
        refine ⟨es', b1, b2, fun j u hj => ?_⟩
        rw [List.getElem?_append_right (by rw [Nat.add_mul]; omega), show (i + 1) * κ.size + j - es.length = i * κ.size + j by rw [Nat.add_mul]; omega]
        exact b3 j u hj
theorem cast_elim {κ : Kd} {κ' : Kd} {xs : Den κ'} {ys : Den κ} (h : castD κ' κ xs = some ys) : ∃ e : κ' = κ, e ▸ xs = ys := by
  unfold castD at h
  split at h
  · rename_i e; exact ⟨e, by simpa using h⟩
  · cases h
theorem src_of {κ : Kd} {x : AV} {ys : List (Den κ)} {vx : Value} (m : Mem w0 Fz0 ι Fz H w) (h : argD H (.list κ) x = some ys) (hr : RV ι Fz w x vx) :
    ∃ a c, vx = .slice a ys.length c ∧ (ys = [] ∨ ∃ b off, a = some ⟨b, off, none⟩ ∧ ∀ i x, ys[i]? = some x → ∃ es, RP Fz w κ x es ∧ es.length = κ.size ∧ Lie w es b (off + i * κ.size)) := by
  have own : ∀ (g : Nat) (e : TypeId) (xs : List (Den κ)) (off len : Nat), getH H g = .arr e κ xs → off + len ≤ xs.length → (ι g).virt = false →
      ∀ i x, ((xs.drop off).take len)[i]? = some x → ∃ es, RP Fz w κ x es ∧ es.length = κ.size ∧ Lie w es (ι g).blk (off * κ.size + i * κ.size) := by
    intro g e xs off len hg hl hv i y hy
    have hrb := m.rb g
    rw [hg] at hrb
    simp only [RB] at hrb
    rcases hrb.2 with ⟨e, _⟩ | ⟨_, vs, h1, h2, h3, h4, h5⟩
    · rw [hv] at e; cases e
    have hi : i < len := by
      rcases Nat.lt_or_ge i len with h | h
      · exact h
      · rw [List.getElem?_eq_none (by rw [List.length_take, List.length_drop]; omega)] at hy; cases hy
    rw [List.getElem?_take, if_pos hi, List.getElem?_drop] at hy
    obtain ⟨es, a, b, c⟩ := h5 _ y hy
    refine ⟨es, a, b, fun j u hj => ?_⟩
    have := c j u hj
    rw [Nat.add_mul] at this
    simp [World.cell?, h1, this]
  cases x with
  | pv κ' zs =>
    simp only [argD, Kd.isAgg, cond_false, leafD, leaf0] at h
    cases hcd : castD κ' (.list κ) zs with
    | some z =>
      rw [hcd] at h
      simp only [Option.some.injEq] at h
      subst h
      obtain ⟨e, h⟩ := cast_elim hcd
      subst e; subst h
      simp only [RV, Kd.isAgg, Bool.false_eq_true, if_false, RP] at hr
      obtain ⟨_, e1, a, c, hv, hc, hr⟩ := hr
      simp only [List.cons.injEq, and_true] at e1
      subst e1
      refine ⟨a, c, hv, ?_⟩
      rcases hr with hr | ⟨b, off, ha, _, hr⟩
      · exact .inl hr
      · exact .inr ⟨b, off, ha, hr⟩
    | none =>
      rw [hcd] at h
      cases κ' with
      | nl e' =>
        simp only [unopt] at h
        obtain ⟨e1, h⟩ := cast_elim h
        simp only [Kd.list.injEq] at e1
        subst e1; subst h
        simp only [RV, Kd.isAgg, Bool.false_eq_true, if_false, RP] at hr
        obtain ⟨u, e1, hr⟩ := hr
        simp only [List.cons.injEq, and_true] at e1
        subst e1
        rcases hr with ⟨rfl, hv⟩ | ⟨xs, rfl, ⟨a, c, hv, hc, hr⟩, _⟩
        · exact ⟨none, 0, hv, .inl rfl⟩
        · refine ⟨a, c, hv, ?_⟩
          rcases hr with hr | ⟨b, off, ha, _, hr⟩
          · exact .inl hr
          · exact .inr ⟨b, off, ha, hr⟩
      | _ => simp [unopt] at h
  | nils =>
    simp only [argD, Kd.isAgg, cond_false, leafD, leaf0, Option.some.injEq] at h
    simp only [RV] at hr
    subst h
    exact ⟨none, 0, hr, .inl rfl⟩
  | own κ' g =>
    simp only [argD, Kd.isAgg, cond_false, leafD, leaf0] at h
    have hrb := m.rb g
    split at h
    · rename_i e κ'' xs hg
      rw [hg] at hrb
      obtain ⟨e1, h⟩ := cast_elim h
      simp only [Kd.list.injEq] at e1
      subst e1; subst h
      simp only [RB] at hrb
      simp only [RV] at hr
      rcases hr with ⟨hv, hr⟩ | ⟨hv, hr⟩
      · rcases hrb.2 with ⟨_, e⟩ | ⟨e, _⟩
        · subst e; exact ⟨none, 0, hr, .inl rfl⟩
        · rw [hv] at e; cases e
      · rw [hrb.1] at hr
        refine ⟨_, _, hr, .inr ⟨_, _, rfl, fun i x hx => ?_⟩⟩
        have := own g e xs 0 xs.length hg (by omega) hv i x (by simpa using hx)
        simpa using this
    · cases h
  | sub κ' g off len =>
    simp only [argD, Kd.isAgg, cond_false, leafD, leaf0] at h
    have hrb := m.rb g
    split at h
    · rename_i e κ'' xs hg
      rw [hg] at hrb
      cases hd : decide (κ' = κ'') with
      | false => rw [hd] at h; cases h
      | true =>
        rw [hd, cond_true] at h
        have e0 := of_decide_eq_true hd
        subst e0
        obtain ⟨e1, h⟩ := cast_elim h
        simp only [Kd.list.injEq] at e1
        subst e1; subst h
        simp only [RB] at hrb
        simp only [RV] at hr
        obtain ⟨hl, hr⟩ := hr
        rw [hrb.1] at hl
        have hlen : ((xs.drop off).take len).length = len := by rw [List.length_take, List.length_drop]; omega
        rcases hr with ⟨hz, a, c, hr, _⟩ | ⟨hv, c, hr, _⟩
        · subst hz
          exact ⟨a, c, by simpa using hr, .inl (by simp)⟩
        · refine ⟨_, c, by rw [hr]; simp only [hlen], .inr ⟨_, _, rfl, fun i x hx => own g e xs off len hg hl hv i x hx⟩⟩
    · cases h
  | agg cs =>
    simp only [argD, Kd.isAgg, Option.bind_eq_some_iff, cond_false] at h
    obtain ⟨p, _, h⟩ := h
    split at h <;> cases h
  | _ => simp [argD, Kd.isAgg, leafD, leaf0] at h
theorem run_append_zero {t ty e : TypeId} {i : TypeInfo} (ht : P.underlying t = some (.slice e)) (hi : P.info? e = some i) (a b : Option Addr) (n cap c : Nat) (hn : n ≤ cap) :
    (Builtin.append_ #[t, t] ty #[.slice a n cap, .slice b 0 c]).run P w = .ok (.slice a n cap) w := by
  cases a <;> cases b <;> simp [Builtin.append_, run_underlying ht, sizeOf, typeInfo, hi, Builtin.lenOf, Builtin.firstCells, hn, loadCells, loadCellsFrom, storeCells]
theorem Row.append {κ : Kd} {xs ys : List (Den κ)} {vs us : List Value} (h : Row Fz w κ xs vs) (hl : vs.length = xs.length * κ.size) (h' : Row Fz w κ ys us) : Row Fz w κ (xs ++ ys) (vs ++ us) := by
  intro i x hx
  rcases Nat.lt_or_ge i xs.length with hlt | hge
  · rw [List.getElem?_append_left hlt] at hx
    obtain ⟨es, a, b, c⟩ := h i x hx
    refine ⟨es, a, b, fun j u hj => ?_⟩
    have := c j u hj
    rw [List.getElem?_append_left ((List.getElem?_eq_some_iff.1 this).1)]; exact this
  · rw [List.getElem?_append_right hge] at hx
    obtain ⟨es, a, b, c⟩ := h' _ x hx
    refine ⟨es, a, b, fun j u hj => ?_⟩
    have e : i * κ.size = xs.length * κ.size + (i - xs.length) * κ.size := by rw [← Nat.add_mul]; congr 1; omega
    rw [List.getElem?_append_right (by omega), show i * κ.size + j - vs.length = (i - xs.length) * κ.size + j by omega]
    exact c j u hj
theorem Row.more {κ : Kd} {xs : List (Den κ)} {vs : List Value} (h : Row Fz w κ xs vs) (us : List Value) : Row Fz w κ xs (vs ++ us) := by
  intro i x hx
  obtain ⟨es, a, b, c⟩ := h i x hx
  refine ⟨es, a, b, fun j u hj => ?_⟩
  have := c j u hj
  rw [List.getElem?_append_left ((List.getElem?_eq_some_iff.1 this).1)]; exact this
theorem Row.mono {κ : Kd} {xs : List (Den κ)} {vs : List Value} {w' : World} (h : Row Fz w κ xs vs) (hw : ∀ b, Fz b → w'.heap[b]? = w.heap[b]?) : Row Fz w' κ xs vs := by
  intro i x hx
  obtain ⟨es, a, b, c⟩ := h i x hx
  exact ⟨es, RP_mono hw (fun _ h => h) _ _ _ a, b, c⟩

/-- The state behind an operation, but for its own temporary. -/
def Behind (w0 : Root) (Fz0 : Nat → Prop) (ι : Nat → HI) (Fz : Nat → Prop) (st : St) (a : Act) (w : World) : Prop :=
  (∀ t, RV ι Fz w (getF st.fr t) (a.tmps.getD t undef)) ∧ RD ι Fz w st.df a.defers ∧ Mem w0 Fz0 ι Fz st.H w
theorem RD_mono {ι' : Nat → HI} {Fz' : Nat → Prop} {w' : World} (hw : ∀ b, Fz b → w'.heap[b]? = w.heap[b]?) (hf : ∀ b, Fz b → Fz' b) : ∀ (l : List AV) (ds : List Deferred), (∀ h, mentL h l = true → ι' h = ι h) → RD ι Fz w l ds → RD ι' Fz' w' l ds
  | [], ds, _, h => by simpa only [RD] using h
  | v :: l, ds, hm, h => by
    simp only [RD] at h ⊢
    obtain ⟨f, caps, vs, s, e, e2, h1, h2⟩ := h
    subst e
    exact ⟨f, caps, vs, s, rfl, e2, RVs_mono hw hf _ _ (fun h hh => hm h (by simp [mentL, AV.ment, hh])) h1, RD_mono hw hf l s (fun h hh => hm h (by simp [mentL, hh])) h2⟩
theorem Behind.strike {st : St} {a : Act} {d : Nat} {ι' : Nat → HI} {Fz' : Nat → Prop} {w' : World} {H' : List (Nat × AB)} (h : Behind w0 Fz0 ι Fz st a w) (hw : ∀ b, Fz b → w'.heap[b]? = w.heap[b]?) (hf : ∀ b, Fz b → Fz' b)
    (hd : ∀ h, h ≠ d → ι' h = ι h) (hdf : okDf st.df d = true) (m : Mem w0 Fz0 ι' Fz' H' w') : Behind w0 Fz0 ι' Fz' ⟨strikeF d st.fr, H', st.df⟩ a w' := by
  refine ⟨fun t => ?_, RD_mono hw hf _ _ (fun h hh => hd h (fun e => ?_)) h.2.1, m⟩
  · rw [getF_strike]
    exact RV_strike hw hf hd (h.1 t)
  · subst e
    simp [okDf, hh] at hdf
theorem Behind.mono {st : St} {a : Act} {Fz' : Nat → Prop} {w' : World} {H' : List (Nat × AB)} (h : Behind w0 Fz0 ι Fz st a w) (hw : ∀ b, Fz b → w'.heap[b]? = w.heap[b]?) (hf : ∀ b, Fz b → Fz' b)
    (m : Mem w0 Fz0 ι Fz' H' w') : Behind w0 Fz0 ι Fz' ⟨st.fr, H', st.df⟩ a w' :=
  ⟨fun t => RV_mono hw hf _ _ (fun _ _ => rfl) (h.1 t), RD_mono hw hf _ _ (fun _ _ => rfl) h.2.1, m⟩
end
end Go.Av
