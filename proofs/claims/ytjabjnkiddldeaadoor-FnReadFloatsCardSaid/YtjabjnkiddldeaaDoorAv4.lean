/- What the evaluator says of plain data and of contracts holds in a world. -/
import Derived.Test.YtjabjnkiddldeaaDoorAv3
set_option linter.unusedVariables false
set_option linter.unusedSimpArgs false
namespace Go.Av
open Go Go.RowKit

/-! ### constants -/
theorem avOf1_of {ι : Nat → HI} {Fz : Nat → Prop} {w : World} (v : Value) : RV ι Fz w (avOf1 v) v := by
  unfold avOf1
  split <;> simp [RV, Kd.isAgg, RP]
theorem avOf1_one (v : Value) (h : v.oneCell' = false) : avOf1 v = .dead := by
  cases v <;> simp_all [Value.oneCell', avOf1]
theorem avOf1s {ι : Nat → HI} {Fz : Nat → Prop} {w : World} : ∀ (l : List Value), RVs ι Fz w (l.map avOf1) l
  | [] => by simp [RVs]
  | v :: r => by simp only [List.map_cons, RVs]; exact ⟨v, r, rfl, avOf1_of v, avOf1s r⟩
theorem avOf1s_one : ∀ (l : List Value), aliveL (l.map avOf1) = true → ∀ u ∈ l, u.oneCell' = true
  | [], _, u, hu => by simp at hu
  | v :: r, h, u, hu => by
    cases hv : v.oneCell' with
    | false => simp [avOf1_one v hv, aliveL] at h
    | true =>
      rcases List.mem_cons.1 hu with rfl | hu
      · exact hv
      · refine avOf1s_one r ?_ u hu
        simp only [List.map_cons] at h
        revert h
        cases avOf1 v <;> simp [aliveL]
theorem avOf_of {ι : Nat → HI} {Fz : Nat → Prop} {w : World} (v : Value) : RV ι Fz w (avOf v) v := by
  unfold avOf
  split
  · rename_i cs
    cases h : aliveL (cs.toList.map avOf1) with
    | true => simp only [cond_true, RV]; exact ⟨cs.toList, by simp, avOf1s_one _ h, avOf1s _⟩
    | false => simp [RV]
  · simp only [RV]; exact ⟨_, rfl, avOf1_of _⟩
  · exact avOf1_of _
theorem opnd_of {ι : Nat → HI} {Fz : Nat → Prop} {w : World} {fr : List (Nat × AV)} {a : Act} {gl : List Gl} (hg : GOK gl Fz w) (h : ∀ t, RV ι Fz w (getF fr t) (a.tmps.getD t undef)) (x : Operand) : RV ι Fz w (opnd gl fr x) (a.eval x) := by
  cases x with
  | tmp t => exact h t
  | const v => exact avOf_of v
  | global g => exact getG_of gl (fun _ h => h) hg g
  | func f => simp only [opnd, RV, Act.eval]; exact ⟨[], rfl, by simp [RVs]⟩

/-! ### plain data out of abstract values -/
theorem castD_of {Fz : Nat → Prop} {w : World} {κ' κ : Kd} {x : Den κ'} {y : Den κ} {cs : List Value} (h : castD κ' κ x = some y) (hr : RP Fz w κ' x cs) : RP Fz w κ y cs := by
  unfold castD at h
  split at h
  · rename_i e; subst e; simp only [Option.some.injEq] at h; subst h; exact hr
  · cases h
theorem castD_list {κ' κ : Kd} {x : Den κ'} {y : Den κ} (h : castD κ' κ x = some y) : κ' = κ := by
  unfold castD at h
  split at h
  · assumption
  · cases h
/-- Frozen blocks, and the rows of one's own, lent for a call. -/
def lent (ι : Nat → HI) (Fz : Nat → Prop) (H : List (Nat × AB)) : Nat → Prop := fun b => Fz b ∨ ∃ h, (getH H h).live ∧ (ι h).virt = false ∧ (ι h).blk = b
theorem pv_mono {ι ι' : Nat → HI} {Fz Fz' : Nat → Prop} {w w' : World} {κ : Kd} {x : Den κ} {v : Value} (hw : ∀ b, Fz b → w'.heap[b]? = w.heap[b]?) (hf : ∀ b, Fz b → Fz' b) (h : RV ι Fz w (.pv κ x) v) : RV ι' Fz' w' (.pv κ x) v :=
  RV_mono (ι := ι) (ι' := ι') hw hf (.pv κ x) v (fun h hh => by simp [AV.ment] at hh) h
theorem pv_iota {ι ι' : Nat → HI} {Fz : Nat → Prop} {w : World} {κ : Kd} {x : Den κ} {v : Value} (h : RV ι Fz w (.pv κ x) v) : RV ι' Fz w (.pv κ x) v := by
  simp only [RV] at h ⊢; exact h
theorem sub_old {p q c0 : Nat} {A : Prop} {b : Bool} {f : Nat → Value} {v : Value} (h : A ∨ (b = false ∧ ∃ c, v = f c ∧ p ≤ c ∧ q + c = c0)) : A ∨ (b = false ∧ ∃ c, v = f c ∧ p ≤ c) := by
  rcases h with h | ⟨h1, c, h2, h3, _⟩
  · exact .inl h
  · exact .inr ⟨h1, c, h2, h3⟩
theorem arr_RLf {ι : Nat → HI} {Fz : Nat → Prop} {w : World} {h : Nat} {e : TypeId} {κ : Kd} {xs : List (Den κ)} {Fz' : Nat → Prop} (hr : RB ι Fz w h (.arr e κ xs)) (hf : ∀ b, Fz b → Fz' b)
    (hb : (ι h).virt = false → Fz' (ι h).blk) (off len : Nat) (hl : off + len ≤ xs.length) {v : Value}
    (hv : (len = 0 ∧ ∃ a c, v = .slice a 0 c) ∨ ((ι h).virt = false ∧ ∃ c, v = .slice (some ⟨(ι h).blk, off * κ.size, none⟩) len c ∧ len ≤ c)) :
    RLf Fz' w (RP Fz' w κ) κ.size ((xs.drop off).take len) v := by
  have hlen : ((xs.drop off).take len).length = len := by rw [List.length_take, List.length_drop]; omega
  rcases hv with ⟨rfl, a, c, rfl⟩ | ⟨hvt, c, rfl, hc⟩
  · exact ⟨a, c, by simp, by simp, .inl (by simp)⟩
  · refine ⟨_, c, by rw [hlen], by rw [hlen]; exact hc, .inr ⟨_, _, rfl, hb hvt, fun i x hx => ?_⟩⟩
    simp only [RB] at hr
    rcases hr.2 with ⟨hv2, _⟩ | ⟨_, vs, h1, h2, h3, h4, h5⟩
    · rw [hv2] at hvt; cases hvt
    have hi : i < len := by
      rcases Nat.lt_or_ge i len with h | h
      · exact h
      · rw [List.getElem?_eq_none (by omega)] at hx; cases hx
    have hx' : xs[off + i]? = some x := by
      rw [List.getElem?_take, if_pos hi, List.getElem?_drop] at hx; exact hx
    obtain ⟨es, a, b, d⟩ := h5 _ x hx'
    refine ⟨es, RP_mono (fun _ _ => rfl) hf _ _ _ a, b, fun j u hj => ?_⟩
    have := d j u hj
    simp only [World.cell?, h1, Option.isSome_none, Bool.false_eq_true, if_false]
    rw [← this]
    congr 1
    rw [Nat.add_mul]
theorem leafD_of {ι ι' : Nat → HI} {Fz Fz' : Nat → Prop} {w : World} {H : List (Nat × AB)} (hrb : ∀ h, RB ι Fz w h (getH H h)) (hf : ∀ b, Fz b → Fz' b)
    {κ : Kd} (hk : κ.isAgg = false) {a : AV} {x : Den κ} {v : Value} (h : leafD H κ a = some x) (hr : RV ι Fz w a v)
    (hb : ∀ h, a.ment h = true → (getH H h).isArr → (ι h).virt = false → Fz' (ι h).blk) : RV ι' Fz' w (.pv κ x) v := by
  cases a with
  | pv κ' y =>
    simp only [leafD] at h
    have e := castD_list h
    subst e
    simp only [castD, dif_pos, Option.some.injEq] at h
    subst h
    exact pv_mono (fun _ _ => rfl) hf hr
  | nils =>
    simp only [RV] at hr
    subst hr
    simp only [leafD] at h
    split at h
    · simp only [Option.some.injEq] at h
      subst h
      simp only [RV, Kd.isAgg, Bool.false_eq_true, if_false, RP]
      exact ⟨_, rfl, none, 0, rfl, by simp, .inl rfl⟩
    · cases h
  | own κ' g =>
    simp only [leafD] at h
    have hg := hrb g
    split at h
    · rename_i e κ'' xs he
      rw [he] at hg
      have hcast := castD_list h
      have key : RP Fz' w (.list κ'') xs [v] := by
        refine ⟨v, rfl, ?_⟩
        have hlen := hg.1
        have := arr_RLf hg hf (fun hv => hb g (by simp [AV.ment]) (by rw [he]; trivial) hv) 0 xs.length (by omega) (v := v) (by
          simp only [RV] at hr
          rcases hr with ⟨hv, rfl⟩ | ⟨hv, rfl⟩
          · left
            rcases hg.2 with ⟨_, e⟩ | ⟨e, _⟩
            · rw [e]; exact ⟨rfl, none, 0, rfl⟩
            · rw [hv] at e; cases e
          · right
            refine ⟨hv, (ι g).cap, by rw [hlen]; simp, ?_⟩
            rcases hg.2 with ⟨e, _⟩ | ⟨_, vs, _, e, _⟩
            · rw [hv] at e; cases e
            · exact e)
        simpa using this
      have := castD_of h key
      simp only [RV, hk, Bool.false_eq_true, if_false]
      exact this
    · cases h
  | sub κ' g off len =>
    simp only [leafD] at h
    have hg := hrb g
    split at h
    · rename_i e κ'' xs he
      rw [he] at hg
      simp only [RV] at hr
      have hlen := hg.1
      cases hd : decide (κ' = κ'') with
      | false => rw [hd] at h; simp at h
      | true =>
        have e := of_decide_eq_true hd
        subst e
        rw [hd] at h
        simp only [cond_true] at h
        have key : RP Fz' w (.list κ') ((xs.drop off).take len) [v] :=
          ⟨v, rfl, arr_RLf hg hf (fun hv => hb g (by simp [AV.ment]) (by rw [he]; trivial) hv) off len (by omega) (v := v) (sub_old (f := fun c => .slice (some ⟨_, _, none⟩) len c) hr.2)⟩
        have := castD_of h key
        simp only [RV, hk, Bool.false_eq_true, if_false]
        exact this
    · cases h
  | _ => simp [leafD] at h

theorem leaf_RP {ι : Nat → HI} {Fz : Nat → Prop} {w : World} {κ : Kd} (hk : κ.isAgg = false) {x : Den κ} {v : Value} (h : RV ι Fz w (.pv κ x) v) : RP Fz w κ x [v] := by
  simpa only [RV, hk, Bool.false_eq_true, if_false] using h
theorem cellsD_leaf {H : List (Nat × AB)} {κ : Kd} (hk : κ.isAgg = false) {cs : List AV} {x : Den κ} {r : List AV} (h : cellsD H κ cs = some (x, r)) :
    ∃ c, cs = c :: r ∧ leafD H κ c = some x := by
  cases κ <;> first | (simp [Kd.isAgg] at hk; done) | skip
  all_goals
    cases cs with
    | nil => simp [cellsD] at h
    | cons c cs =>
      simp only [cellsD, Option.bind_eq_some_iff, Option.some.injEq, Prod.mk.injEq] at h
      obtain ⟨y, h1, rfl, rfl⟩ := h
      exact ⟨c, rfl, h1⟩
theorem cellsD_of {ι : Nat → HI} {Fz Fz' : Nat → Prop} {w : World} {H : List (Nat × AB)} (hrb : ∀ h, RB ι Fz w h (getH H h)) (hf : ∀ b, Fz b → Fz' b) :
    ∀ (κ : Kd) (cs : List AV) (x : Den κ) (r : List AV) (vs : List Value), cellsD H κ cs = some (x, r) → RVs ι Fz w cs vs →
      (∀ h, mentL h cs = true → (getH H h).isArr → (ι h).virt = false → Fz' (ι h).blk) → ∃ v1 v2, vs = v1 ++ v2 ∧ RP Fz' w κ x v1 ∧ RVs ι Fz w r v2 ∧ (∀ h, mentL h r = true → mentL h cs = true)
  | .unit, cs, x, r, vs, h, hr, hb => by
    simp only [cellsD, Option.some.injEq, Prod.mk.injEq] at h
    obtain ⟨_, rfl⟩ := h
    exact ⟨[], vs, rfl, rfl, hr, fun _ h => h⟩
  | .pair a b, cs, x, r, vs, h, hr, hb => by
    simp only [cellsD, Option.bind_eq_some_iff, Option.some.injEq, Prod.mk.injEq] at h
    obtain ⟨p, h1, q, h2, rfl, rfl⟩ := h
    obtain ⟨v1, v2, rfl, r1, r2, m1⟩ := cellsD_of hrb hf a cs p.1 p.2 vs h1 hr hb
    obtain ⟨v3, v4, rfl, r3, r4, m2⟩ := cellsD_of hrb hf b p.2 q.1 q.2 v2 h2 r2 (fun h hh => hb h (m1 h hh))
    exact ⟨v1 ++ v3, v4, by simp, ⟨v1, v3, rfl, r1, r3⟩, r4, fun h hh => m1 h (m2 h hh)⟩
  | .geo, cs, x, r, vs, h, hr, hb => by
    match cs, h, hr, hb with
    | c0 :: c1 :: c2 :: c3 :: c4 :: c5 :: c6 :: cs, h, hr, hb =>
      simp only [cellsD, Option.bind_eq_some_iff, Option.some.injEq, Prod.mk.injEq] at h
      obtain ⟨x0, h0, x1, h1, x2, h2, x3, h3, x4, h4, x5, h5, x6, h6, rfl, rfl⟩ := h
      simp only [RVs] at hr
      obtain ⟨u0, _, rfl, r0, u1, _, rfl, r1, u2, _, rfl, r2, u3, _, rfl, r3, u4, _, rfl, r4, u5, _, rfl, r5, u6, v2, rfl, r6, r7⟩ := hr
      have hb' : ∀ c ∈ [c0, c1, c2, c3, c4, c5, c6], ∀ h, c.ment h = true → (getH H h).isArr → (ι h).virt = false → Fz' (ι h).blk := by
        intro c hc h hm
        refine hb h ?_
        simp only [List.mem_cons, List.not_mem_nil, or_false] at hc
        simp only [mentL]
        rcases hc with rfl | rfl | rfl | rfl | rfl | rfl | rfl <;> simp [hm]
      have k0 := leaf_RP rfl (leafD_of (ι' := ι) hrb hf rfl h0 r0 (hb' c0 (by simp)))
      have k1 := leaf_RP rfl (leafD_of (ι' := ι) hrb hf rfl h1 r1 (hb' c1 (by simp)))
      have k2 := leaf_RP rfl (leafD_of (ι' := ι) hrb hf rfl h2 r2 (hb' c2 (by simp)))
      have k3 := leaf_RP rfl (leafD_of (ι' := ι) hrb hf rfl h3 r3 (hb' c3 (by simp)))
      have k4 := leaf_RP rfl (leafD_of (ι' := ι) hrb hf rfl h4 r4 (hb' c4 (by simp)))
      have k5 := leaf_RP rfl (leafD_of (ι' := ι) hrb hf rfl h5 r5 (hb' c5 (by simp)))
      have k6 := leaf_RP rfl (leafD_of (ι' := ι) hrb hf rfl h6 r6 (hb' c6 (by simp)))
      simp only [RP, List.cons.injEq, and_true] at k0 k1 k2
      subst k0 k1 k2
      obtain ⟨_, e3, k3⟩ := k3
      obtain ⟨_, e4, k4⟩ := k4
      obtain ⟨_, e5, k5⟩ := k5
      obtain ⟨_, e6, a, c, e6', k6, k7⟩ := k6
      simp only [List.cons.injEq, and_true] at e3 e4 e5 e6
      subst e3 e4 e5 e6
      subst e6'
      refine ⟨[.int .i64 x0, .int .i64 x1, .int .i64 x2, u3, u4, u5, .slice a x6.length c], v2, rfl, ?_, r7, fun h hh => by simp [mentL, hh]⟩
      simp only [RP, RG]
      refine ⟨u3, u4, u5, a, c, rfl, k3, k4, k5, k6, ?_⟩
      rcases k7 with k7 | ⟨b, off, ha, hb, k7⟩
      · exact .inl k7
      · exact .inr ⟨b, off, ha, hb, RGs_of x6 b off fun i x hx => k7 i x hx⟩
    | [], h, _, _ => simp [cellsD] at h
    | [_], h, _, _ => simp [cellsD] at h
    | [_, _], h, _, _ => simp [cellsD] at h
    | [_, _, _], h, _, _ => simp [cellsD] at h
    | [_, _, _, _], h, _, _ => simp [cellsD] at h
    | [_, _, _, _, _], h, _, _ => simp [cellsD] at h
    | [_, _, _, _, _, _], h, _, _ => simp [cellsD] at h
  | .int k, cs, x, r, vs, h, hr, hb => by
    obtain ⟨c, rfl, h1⟩ := cellsD_leaf rfl h
    simp only [RVs] at hr
    obtain ⟨v, r', rfl, hr1, hr2⟩ := hr
    exact ⟨[v], r', rfl, leaf_RP rfl (leafD_of (ι' := ι) hrb hf rfl h1 hr1 (fun h hm => hb h (by simp [mentL, hm]))), hr2, fun h hh => by simp [mentL, hh]⟩
  | .float, cs, x, r, vs, h, hr, hb => by
    obtain ⟨c, rfl, h1⟩ := cellsD_leaf rfl h
    simp only [RVs] at hr
    obtain ⟨v, r', rfl, hr1, hr2⟩ := hr
    exact ⟨[v], r', rfl, leaf_RP rfl (leafD_of (ι' := ι) hrb hf rfl h1 hr1 (fun h hm => hb h (by simp [mentL, hm]))), hr2, fun h hh => by simp [mentL, hh]⟩
  | .bool, cs, x, r, vs, h, hr, hb => by
    obtain ⟨c, rfl, h1⟩ := cellsD_leaf rfl h
    simp only [RVs] at hr
    obtain ⟨v, r', rfl, hr1, hr2⟩ := hr
    exact ⟨[v], r', rfl, leaf_RP rfl (leafD_of (ι' := ι) hrb hf rfl h1 hr1 (fun h hm => hb h (by simp [mentL, hm]))), hr2, fun h hh => by simp [mentL, hh]⟩
  | .str, cs, x, r, vs, h, hr, hb => by
    obtain ⟨c, rfl, h1⟩ := cellsD_leaf rfl h
    simp only [RVs] at hr
    obtain ⟨v, r', rfl, hr1, hr2⟩ := hr
    exact ⟨[v], r', rfl, leaf_RP rfl (leafD_of (ι' := ι) hrb hf rfl h1 hr1 (fun h hm => hb h (by simp [mentL, hm]))), hr2, fun h hh => by simp [mentL, hh]⟩
  | .list e, cs, x, r, vs, h, hr, hb => by
    obtain ⟨c, rfl, h1⟩ := cellsD_leaf rfl h
    simp only [RVs] at hr
    obtain ⟨v, r', rfl, hr1, hr2⟩ := hr
    exact ⟨[v], r', rfl, leaf_RP rfl (leafD_of (ι' := ι) hrb hf rfl h1 hr1 (fun h hm => hb h (by simp [mentL, hm]))), hr2, fun h hh => by simp [mentL, hh]⟩

theorem argD_of {ι ι' : Nat → HI} {Fz Fz' : Nat → Prop} {w : World} {H : List (Nat × AB)} (hrb : ∀ h, RB ι Fz w h (getH H h)) (hf : ∀ b, Fz b → Fz' b)
    {κ : Kd} {a : AV} {x : Den κ} {v : Value} (h : argD H κ a = some x) (hr : RV ι Fz w a v)
    (hb : ∀ h, a.ment h = true → (getH H h).isArr → (ι h).virt = false → Fz' (ι h).blk) : RV ι' Fz' w (.pv κ x) v := by
  cases hk : κ.isAgg with
  | false =>
    have key : leafD H κ a = some x := by
      cases a <;> simp only [argD, hk, cond_false] at h <;> first | exact h | skip
      simp only [Option.bind_eq_some_iff] at h
      obtain ⟨p, _, h⟩ := h
      split at h <;> cases h
    exact leafD_of hrb hf hk key hr hb
  | true =>
    cases a <;> simp only [argD, hk, cond_true] at h <;> first | (cases h; done) | skip
    · rename_i κ' y
      have e := castD_list h
      subst e
      simp only [castD, dif_pos, Option.some.injEq] at h
      subst h
      exact pv_mono (fun _ _ => rfl) hf hr
    · rename_i cs
      simp only [Option.bind_eq_some_iff] at h
      obtain ⟨p, h1, h⟩ := h
      split at h
      · rename_i hp
        simp only [Option.some.injEq] at h
        subst h
        simp only [RV] at hr
        obtain ⟨vs, rfl, _, hr⟩ := hr
        obtain ⟨v1, v2, rfl, r1, r2, _⟩ := cellsD_of hrb hf κ cs p.1 p.2 vs (by rw [h1]) hr (fun h hm => hb h (by simpa [AV.ment] using hm))
        rw [hp] at r2
        simp only [RVs] at r2
        subst r2
        simp only [RV, hk, if_true]
        exact ⟨_, rfl, by simpa using r1⟩
      · cases h

/-! ### contracts -/
def ι0 : Nat → HI := fun _ => ⟨0, 0, 0, true⟩
def RA (Fz : Nat → Prop) (w : World) : (ps : List Par) → HL ps → List Value → Prop
  | [], _, vs => vs = []
  | .k κ :: ps, x, vs => ∃ v r, vs = v :: r ∧ RV ι0 Fz w (.pv κ x.1) v ∧ RA Fz w ps x.2 r
  | .fn f :: ps, x, vs => ∃ r, vs = .func (.func f) #[] #[] :: r ∧ RA Fz w ps x r
  | .ifc t κ :: ps, x, vs => ∃ v r, vs = .iface t v :: r ∧ RV ι0 Fz w (.pv κ x.1) v ∧ RA Fz w ps x.2 r
theorem argsD_of {ι : Nat → HI} {Fz Fz' : Nat → Prop} {w : World} {H : List (Nat × AB)} (hrb : ∀ h, RB ι Fz w h (getH H h)) (hf : ∀ b, Fz b → Fz' b) :
    ∀ (ps : List Par) (avs : List AV) (x : HL ps) (vs : List Value), argsD H ps avs = some x → RVs ι Fz w avs vs →
    (∀ h, mentL h avs = true → (getH H h).isArr → (ι h).virt = false → Fz' (ι h).blk) → RA Fz' w ps x vs
  | [], [], x, vs, _, hr, _ => by simpa only [RVs, RA] using hr
  | [], _ :: _, _, _, h, _, _ => by simp [argsD] at h
  | .k κ :: ps, [], _, _, h, _, _ => by simp [argsD] at h
  | .fn f :: ps, [], _, _, h, _, _ => by simp [argsD] at h
  | .ifc t κ :: ps, [], _, _, h, _, _ => by simp [argsD] at h
  | .k κ :: ps, a :: avs, x, vs, h, hr, hb => by
    simp only [argsD, Option.bind_eq_some_iff, Option.some.injEq] at h
    obtain ⟨y, h1, z, h2, rfl⟩ := h
    simp only [RVs] at hr
    obtain ⟨v, r, rfl, r1, r2⟩ := hr
    simp only [RA]
    exact ⟨v, r, rfl, argD_of hrb hf h1 r1 (fun h hm => hb h (by simp [mentL, hm])), argsD_of hrb hf ps avs z r h2 r2 (fun h hm => hb h (by simp [mentL, hm]))⟩
  | .fn f :: ps, a :: avs, x, vs, h, hr, hb => by
    simp only [RVs] at hr
    obtain ⟨v, r, rfl, r1, r2⟩ := hr
    simp only [argsD] at h
    split at h
    · rename_i g
      cases hg : Nat.beq f g with
      | false => rw [hg] at h; cases h
      | true =>
        rw [hg] at h
        have e := Nat.eq_of_beq_eq_true hg
        subst e
        simp only [RV, RVs] at r1
        obtain ⟨us, rfl, rfl⟩ := r1
        simp only [RA]
        exact ⟨r, rfl, argsD_of hrb hf ps avs x r h r2 (fun h hm => hb h (by simp [mentL, hm]))⟩
    · cases h
  | .ifc t κ :: ps, a :: avs, x, vs, h, hr, hb => by
    simp only [RVs] at hr
    obtain ⟨v, r, rfl, r1, r2⟩ := hr
    simp only [argsD] at h
    split at h
    · rename_i u a
      cases hg : Nat.beq t u with
      | false => rw [hg] at h; cases h
      | true =>
        rw [hg] at h
        have e := Nat.eq_of_beq_eq_true hg
        subst e
        simp only [cond_true, Option.bind_eq_some_iff, Option.some.injEq] at h
        obtain ⟨y, h1, z, h2, rfl⟩ := h
        simp only [RV] at r1
        obtain ⟨v', rfl, r1⟩ := r1
        simp only [RA]
        exact ⟨v', r, rfl, argD_of hrb hf h1 r1 (fun h hm => hb h (by simp [mentL, AV.ment, hm])), argsD_of hrb hf ps avs z r h2 r2 (fun h hm => hb h (by simp [mentL, hm]))⟩
    · cases h

/-- What a call gives. -/
def CallGives (P : Program) (f : FuncId) (args : List Value) (w : World) (G : Value → World → Prop) : Prop :=
  (∃ v w', (callFunc f args.toArray).run P w = .ok (.value v) w' ∧ G v w') ∨
  ((callFunc f args.toArray).run P w = .ok (.enter f args.toArray) w ∧ Calls P f args.toArray w fun e w' => ∃ v, e = .returned v ∧ G v w')
def Con.Sound (P : Program) (gl : List Gl) (c : Con) : Prop :=
  ∀ (w : World) (Fz : Nat → Prop) (x : HL c.ps) (vals : List Value) (y : HR c.rs), (∀ b, Fz b → b < w.heap.size) → GOK gl Fz w → RA Fz w c.ps x vals → c.fn x = some y →
    CallGives P c.fid vals w fun v w' => Below w.heap.size w w' ∧ ∃ Fz' : Nat → Prop, (∀ b, Fz b → Fz' b) ∧ (∀ b, Fz' b → Fz b ∨ w.heap.size ≤ b) ∧ (∀ b, Fz' b → b < w'.heap.size) ∧
      RV ι0 Fz' w' (resV c.rs y) v

/-! ### what an operation gives -/
def OpGives (P : Program) (o : Oper) (a : Act) (w : World) (G : Value → World → Prop) : Prop :=
  (∃ v w', (execOp a.eval o).run P w = .ok (.value v) w' ∧ G v w') ∨ (∃ w', (execOp a.eval o).run P w = .ok .skip w' ∧ G undef w') ∨
  (∃ f args, (execOp a.eval o).run P w = .ok (.enter f args) w ∧ Calls P f args w fun e w' => ∃ v, e = .returned v ∧ G v w')
theorem OpGives.wp {P : Program} {o : Oper} {a : Act} {w : World} {G : Value → World → Prop} {K : Act → World → Prop} {Q : Exit → Act → World → Prop}
    (h : OpGives P o a w G) (hk : ∀ v w', G v w' → K (a.put o.dst v) w') : o.wp P a w K Q := by
  unfold Oper.wp
  rcases h with ⟨v, w', hr, hg⟩ | ⟨w', hr, hg⟩ | ⟨f, args, hr, hc⟩
  · rw [hr]; exact hk v w' hg
  · rw [hr]; exact hk _ w' hg
  · rw [hr]
    refine hc.mono ?_
    rintro e w' ⟨v, rfl, hg⟩
    exact hk v w' hg
theorem OpGives.val {P : Program} {o : Oper} {a : Act} {w : World} {G : Value → World → Prop} {v : Value} (h : (execOp a.eval o).run P w = .ok (.value v) w) (hg : G v w) : OpGives P o a w G := .inl ⟨v, w, h, hg⟩
theorem OpGives.mono {P : Program} {o : Oper} {a : Act} {w : World} {G G' : Value → World → Prop} (h : OpGives P o a w G) (hg : ∀ v w', G v w' → G' v w') : OpGives P o a w G' := by
  rcases h with ⟨v, w', hr, h⟩ | ⟨w', hr, h⟩ | ⟨f, args, hr, hc⟩
  · exact .inl ⟨v, w', hr, hg _ _ h⟩
  · exact .inr (.inl ⟨w', hr, hg _ _ h⟩)
  · exact .inr (.inr ⟨f, args, hr, hc.mono fun e w' ⟨v, e, h⟩ => ⟨v, e, hg _ _ h⟩⟩)
end Go.Av
