/- What the evaluator says of plain data and of contracts holds in a world. -/
import Derived.Test.YtnoamanjajighaaAv3
set_option linter.unusedVariables false
set_option linter.unusedSimpArgs false
namespace Go.Av
open Go Go.RowKit

/-! ### constants -/
theorem avOf1_of {ι : Nat → HI} {Fz : Nat → Prop} {w : World} (v : Value) : RV ι Fz w (avOf1 v) v := by
  unfold avOf1
  split <;> simp [RV, Kd.isAgg, RP]
theorem avOf1_one (v : Value) (h : v.oneCell' = false) : avOf1 v = .dead := by
  cases v <;> simp_all [Value.oneCell', avOf1]
theorem avOf1s {ι : Nat → HI} {Fz : Nat → Prop} {w : World} : ∀ (l : List Value), RVs ι Fz w (l.map avOf1) l
  | [] => by simp [RVs]
  | v :: r => by simp only [List.map_cons, RVs]; exact ⟨v, r, rfl, avOf1_of v, avOf1s r⟩
theorem avOf1s_one : ∀ (l : List Value), aliveL (l.map avOf1) = true → ∀ u ∈ l, u.oneCell' = true
  | [], _, u, hu => by simp at hu
  | v :: r, h, u, hu => by
    cases hv : v.oneCell' with
    | false => simp [avOf1_one v hv, aliveL] at h
    | true =>
      rcases List.mem_cons.1 hu with rfl | hu
      · exact hv
      · refine avOf1s_one r ?_ u hu
        simp only [List.map_cons] at h
        revert h
        cases avOf1 v <;> simp [aliveL]
theorem avOf_of {ι : Nat → HI} {Fz : Nat → Prop} {w : World} (v : Value) : RV ι Fz w (avOf v) v := by
  unfold avOf
  split
  · rename_i cs
    cases h : aliveL (cs.toList.map avOf1) with
    | true => simp only [cond_true, RV]; exact ⟨cs.toList, by simp, avOf1s_one _ h, avOf1s _⟩
    | false => simp [RV]
  · simp only [RV]; exact ⟨_, rfl, avOf1_of _⟩
  · exact avOf1_of _
theorem opnd_of {ι : Nat → HI} {Fz : Nat → Prop} {w : World} {fr : List (Nat × AV)} {a : Act} {gl : List Gl} (hg : GOK gl Fz w) (h : ∀ t, RV ι Fz w (getF fr t) (a.tmps.getD t undef)) (x : Operand) : RV ι Fz w (opnd gl fr x) (a.eval x) := by
  cases x with
  | tmp t => exact h t
  | const v => exact avOf_of v
  | global g => exact getG_of gl (fun _ h => h) hg g
  | func f => simp only [opnd, RV, Act.eval]; exact ⟨[], rfl, by simp [RVs]⟩

/-! ### plain data out of abstract values -/
theorem castD_of {Fz : Nat → Prop} {w : World} {κ' κ : Kd} {x : Den κ'} {y : Den κ} {cs : List Value} (h : castD κ' κ x = some y) (hr : RP Fz w κ' x cs) : RP Fz w κ y cs := by
  unfold castD at h
  split at h
  · rename_i e; subst e; simp only [Option.some.injEq] at h; subst h; exact hr
  · cases h
theorem castD_list {κ' κ : Kd} {x : Den κ'} {y : Den κ} (h : castD κ' κ x = some y) : κ' = κ := by
  unfold castD at h
  split at h
  · assumption
  · cases h
/-- Frozen blocks, and the rows of one's own, lent for a call. -/
def lent (ι : Nat → HI) (Fz : Nat → Prop) (H : List (Nat × AB)) : Nat → Prop := fun b => Fz b ∨ ∃ h, (getH H h).live ∧ (ι h).virt = false ∧ (ι h).blk = b
theorem pv_mono {ι ι' : Nat → HI} {Fz Fz' : Nat → Prop} {w w' : World} {κ : Kd} {x : Den κ} {v : Value} (hw : ∀ b, Fz b → w'.heap[b]? = w.heap[b]?) (hf : ∀ b, Fz b → Fz' b) (h : RV ι Fz w (.pv κ x) v) : RV ι' Fz' w' (.pv κ x) v :=
  RV_mono (ι := ι) (ι' := ι') hw hf (.pv κ x) v (fun h hh => by simp [AV.ment] at hh) h
theorem pv_iota {ι ι' : Nat → HI} {Fz : Nat → Prop} {w : World} {κ : Kd} {x : Den κ} {v : Value} (h : RV ι Fz w (.pv κ x) v) : RV ι' Fz w (.pv κ x) v := by
  simp only [RV] at h ⊢; exact h
theorem sub_old {p q c0 : Nat} {L : Prop} {X : Option Addr → Nat → Prop} {b : Bool} {f : Nat → Value} {v : Value} (h : (L ∧ ∃ a c, v = .slice a 0 c ∧ X a c) ∨ (b = false ∧ ∃ c, v = f c ∧ p ≤ c ∧ q + c = c0)) : (L ∧ ∃ a c, v = .slice a 0 c) ∨ (b = false ∧ ∃ c, v = f c ∧ p ≤ c) := by
  rcases h with ⟨l, a, c, h, _⟩ | ⟨h1, c, h2, h3, _⟩
  · exact .inl ⟨l, a, c, h⟩
  · exact .inr ⟨h1, c, h2, h3⟩
theorem arr_RLf {ι : Nat → HI} {Fz : Nat → Prop} {w : World} {h : Nat} {e : TypeId} {κ : Kd} {xs : List (Den κ)} {Fz' : Nat → Prop} (hr : RB ι Fz w h (.arr e κ xs)) (hf : ∀ b, Fz b → Fz' b)
    (hb : (ι h).virt = false → Fz' (ι h).blk) (off len : Nat) (hl : off + len ≤ xs.length) {v : Value}
    (hv : (len = 0 ∧ ∃ a c, v = .slice a 0 c) ∨ ((ι h).virt = false ∧ ∃ c, v = .slice (some ⟨(ι h).blk, off * κ.size, none⟩) len c ∧ len ≤ c)) :
    RLf Fz' w (RP Fz' w κ) κ.size ((xs.drop off).take len) v := by
  have hlen : ((xs.drop off).take len).length = len := by rw [List.length_take, List.length_drop]; omega
  rcases hv with ⟨rfl, a, c, rfl⟩ | ⟨hvt, c, rfl, hc⟩
  · exact ⟨a, c, by simp, by simp, .inl (by simp)⟩
  · refine ⟨_, c, by rw [hlen], by rw [hlen]; exact hc, .inr ⟨_, _, rfl, hb hvt, fun i x hx => ?_⟩⟩
    simp only [RB] at hr
    rcases hr.2 with ⟨hv2, _⟩ | ⟨_, vs, h1, h2, h3, h4, h5⟩
    · rw [hv2] at hvt; cases hvt
    have hi : i < len := by
      rcases Nat.lt_or_ge i len with h | h
      · exact h
      · rw [List.getElem?_eq_none (by omega)] at hx; cases hx
    have hx' : xs[off + i]? = some x := by
      rw [List.getElem?_take, if_pos hi, List.getElem?_drop] at hx; exact hx
    obtain ⟨es, a, b, d⟩ := h5 _ x hx'
    refine ⟨es, RP_mono (fun _ _ => rfl) hf _ _ _ a, b, fun j u hj => ?_⟩
    have := d j u hj
    simp only [World.cell?, h1, Option.isSome_none, Bool.false_eq_true, if_false]
    rw [← this]
    congr 1
    rw [Nat.add_mul]
/-! ### cells of frozen memory -/
theorem RP_any {Fz : Nat → Prop} {w : World} {c : Ce} {v : Value} : RP Fz w .any c [v] ↔ RC Fz w c v := by
  simp only [RP]
  constructor
  · rintro ⟨u, e, h⟩
    simp only [List.cons.injEq, and_true] at e
    subst e; exact h
  · intro h; exact ⟨v, rfl, h⟩
theorem RP_list {Fz : Nat → Prop} {w : World} {κ : Kd} {xs : List (Den κ)} {v : Value} : RP Fz w (.list κ) xs [v] ↔ RLf Fz w (RP Fz w κ) κ.size xs v := by
  simp only [RP]
  constructor
  · rintro ⟨u, e, h⟩
    simp only [List.cons.injEq, and_true] at e
    subst e; exact h
  · intro h; exact ⟨v, rfl, h⟩
theorem RLf_nil {α : Type} {Fz : Nat → Prop} {w : World} {E : α → List Value → Prop} {sz : Nat} : RLf Fz w E sz [] (.slice none 0 0) := ⟨none, 0, rfl, Nat.le_refl _, .inl rfl⟩
theorem sl_RLf {Fz : Nat → Prop} {w : World} {xs : List Ce} {v : Value} : RC Fz w (.sl xs) v ↔ RLf Fz w (RP Fz w .any) 1 xs v := by
  simp only [RC, RLf]
  constructor
  · rintro ⟨a, c, e, hl, h⟩
    refine ⟨a, c, e, hl, ?_⟩
    rcases h with h | ⟨b, off, ha, hb, h⟩
    · exact .inl h
    · refine .inr ⟨b, off, ha, hb, fun i x hx => ?_⟩
      obtain ⟨u, h1, h2⟩ := RCs_at xs b off i x h hx
      refine ⟨[u], RP_any.2 h1, rfl, fun j v hj => ?_⟩
      cases j with
      | zero => simp only [List.getElem?_cons_zero, Option.some.injEq] at hj; subst hj; simpa using h2
      | succ j => simp at hj
  · rintro ⟨a, c, e, hl, h⟩
    refine ⟨a, c, e, hl, ?_⟩
    rcases h with h | ⟨b, off, ha, hb, h⟩
    · exact .inl h
    · refine .inr ⟨b, off, ha, hb, RCs_of xs b off fun i x hx => ?_⟩
      obtain ⟨es, h1, h2, h3⟩ := h i x hx
      obtain ⟨u, rfl, h1⟩ := h1
      have := h3 0 u rfl
      exact ⟨u, h1, by simpa using this⟩
theorem getC_of {Fz : Nat → Prop} {w : World} {κ : Kd} {c : Ce} {x : Den κ} {v : Value} (h : getC κ c = some x) (hr : RC Fz w c v) : RP Fz w κ x [v] := by
  unfold getC at h
  split at h
  all_goals first | (cases h; done) | skip
  case h_1 => simp only [Option.some.injEq] at h; subst h; exact RP_any.2 hr
  case h_2 k k' n =>
    cases hd : decide (k' = k) with
    | false => rw [hd] at h; cases h
    | true =>
      rw [hd, cond_true, Option.some.injEq] at h
      have e := of_decide_eq_true hd
      subst e; subst h
      simp only [RC] at hr; subst hr; rfl
  case h_3 => simp only [Option.some.injEq] at h; subst h; simp only [RC] at hr; subst hr; rfl
  case h_4 => simp only [Option.some.injEq] at h; subst h; simp only [RC] at hr; subst hr; rfl
  case h_5 => simp only [Option.some.injEq] at h; subst h; simp only [RC] at hr; subst hr; rfl
  case h_6 => simp only [Option.some.injEq] at h; subst h; simp only [RC] at hr; exact RP_list.2 hr
  case h_7 => simp only [Option.some.injEq] at h; subst h; simp only [RC] at hr; exact RP_list.2 hr
  case h_8 => simp only [Option.some.injEq] at h; subst h; simp only [RC] at hr; exact RP_list.2 hr
  case h_9 => simp only [Option.some.injEq] at h; subst h; exact RP_list.2 (sl_RLf.1 hr)
  case h_10 => simp only [Option.some.injEq] at h; subst h; simp only [RC] at hr; subst hr; exact RP_list.2 RLf_nil
theorem putC_of {Fz : Nat → Prop} {w : World} {κ : Kd} {c : Ce} {x : Den κ} {v : Value} (h : putC κ x = some c) (hr : RP Fz w κ x [v]) : RC Fz w c v := by
  unfold putC at h
  split at h
  all_goals first | (cases h; done) | skip
  all_goals (simp only [Option.some.injEq] at h; subst h)
  case h_1 => exact RP_any.1 hr
  case h_2 => simp only [RP, List.cons.injEq, and_true] at hr; subst hr; simp only [RC]
  case h_3 => simp only [RP, List.cons.injEq, and_true] at hr; subst hr; simp only [RC]
  case h_4 => simp only [RP, List.cons.injEq, and_true] at hr; subst hr; simp only [RC]
  case h_5 => simp only [RP, List.cons.injEq, and_true] at hr; subst hr; simp only [RC]
  case h_6 => simp only [RC]; exact RP_list.1 hr
  case h_7 => simp only [RC]; exact RP_list.1 hr
  case h_8 => simp only [RC]; exact RP_list.1 hr
  case h_9 => exact sl_RLf.2 (RP_list.1 hr)
theorem RCv_append {Fz : Nat → Prop} {w : World} : ∀ {c1 c2 : List Ce} {u1 u2 : List Value}, RCv Fz w c1 u1 → RCv Fz w c2 u2 → RCv Fz w (c1 ++ c2) (u1 ++ u2)
  | [], _, u1, _, h, h' => by simp only [RCv] at h; subst h; simpa using h'
  | c :: cs, _, u1, _, h, h' => by
    simp only [RCv] at h
    obtain ⟨u, q, rfl, h1, h2⟩ := h
    simp only [List.cons_append, RCv]
    exact ⟨u, _, rfl, h1, RCv_append h2 h'⟩
theorem RCv_lie {Fz : Nat → Prop} {w : World} : ∀ {cs : List Ce} {es : List Value} {b off : Nat}, RCv Fz w cs es → Lie w es b off → RCs Fz w cs b off
  | [], _, _, _, _, _ => by simp only [RCs]
  | c :: cs, es, b, off, h, hl => by
    simp only [RCv] at h
    obtain ⟨u, q, rfl, h1, h2⟩ := h
    simp only [RCs]
    refine ⟨⟨u, h1, by simpa using hl 0 u rfl⟩, RCv_lie h2 fun j v hj => ?_⟩
    have := hl (j + 1) v (by simpa using hj)
    rwa [show off + (j + 1) = off + 1 + j by omega] at this
theorem RCs_lie {Fz : Nat → Prop} {w : World} : ∀ {cs : List Ce} {b off : Nat}, RCs Fz w cs b off → ∃ es, RCv Fz w cs es ∧ Lie w es b off
  | [], _, _, _ => ⟨[], by simp only [RCv], fun j v hj => by simp at hj⟩
  | c :: cs, b, off, h => by
    simp only [RCs] at h
    obtain ⟨⟨u, h1, h2⟩, h3⟩ := h
    obtain ⟨es, h4, h5⟩ := RCs_lie h3
    refine ⟨u :: es, by simp only [RCv]; exact ⟨u, es, rfl, h1, h4⟩, fun j v hj => ?_⟩
    cases j with
    | zero => simp only [List.getElem?_cons_zero, Option.some.injEq] at hj; subst hj; simpa using h2
    | succ j =>
      have := h5 j v (by simpa using hj)
      rwa [show off + 1 + j = off + (j + 1) by omega] at this
theorem getCs_leaf {κ : Kd} (hk : κ.isAgg = false) {cs : List Ce} {x : Den κ} {r : List Ce} (h : getCs κ cs = some (x, r)) : ∃ c, cs = c :: r ∧ getC κ c = some x := by
  cases κ <;> first | (simp [Kd.isAgg] at hk; done) | skip
  all_goals
    cases cs with
    | nil => simp [getCs] at h
    | cons c cs =>
      simp only [getCs, Option.bind_eq_some_iff, Option.some.injEq, Prod.mk.injEq] at h
      obtain ⟨y, h1, rfl, rfl⟩ := h
      exact ⟨c, rfl, h1⟩
theorem putCs_leaf {κ : Kd} (hk : κ.isAgg = false) {cs : List Ce} {x : Den κ} (h : putCs κ x = some cs) : ∃ c, cs = [c] ∧ putC κ x = some c := by
  cases κ <;> first | (simp [Kd.isAgg] at hk; done) | skip
  all_goals
    simp only [putCs, Option.bind_eq_some_iff, Option.some.injEq] at h
    obtain ⟨y, h1, rfl⟩ := h
    exact ⟨y, rfl, h1⟩
theorem getCs_leaf_of {Fz : Nat → Prop} {w : World} {κ : Kd} (hk : κ.isAgg = false) {cs : List Ce} {x : Den κ} {r : List Ce} {us : List Value} (h : getCs κ cs = some (x, r)) (hr : RCv Fz w cs us) : ∃ u1 u2, us = u1 ++ u2 ∧ RP Fz w κ x u1 ∧ RCv Fz w r u2 := by
  obtain ⟨c, rfl, h1⟩ := getCs_leaf hk h
  simp only [RCv] at hr
  obtain ⟨u, q, rfl, h2, h3⟩ := hr
  exact ⟨[u], q, rfl, getC_of h1 h2, h3⟩
theorem getCs_of {Fz : Nat → Prop} {w : World} : ∀ (κ : Kd) (cs : List Ce) (x : Den κ) (r : List Ce) (us : List Value), getCs κ cs = some (x, r) → RCv Fz w cs us → ∃ u1 u2, us = u1 ++ u2 ∧ RP Fz w κ x u1 ∧ RCv Fz w r u2
  | .unit, cs, x, r, us, h, hr => by
    simp only [getCs, Option.some.injEq, Prod.mk.injEq] at h
    obtain ⟨_, rfl⟩ := h
    exact ⟨[], us, rfl, rfl, hr⟩
  | .pair a b, cs, x, r, us, h, hr => by
    simp only [getCs, Option.bind_eq_some_iff, Option.some.injEq, Prod.mk.injEq] at h
    obtain ⟨p, h1, q, h2, rfl, rfl⟩ := h
    obtain ⟨v1, v2, rfl, r1, r2⟩ := getCs_of a cs p.1 p.2 us h1 hr
    obtain ⟨v3, v4, rfl, r3, r4⟩ := getCs_of b p.2 q.1 q.2 v2 h2 r2
    exact ⟨v1 ++ v3, v4, by simp, ⟨v1, v3, rfl, r1, r3⟩, r4⟩
  | .geo, _, _, _, _, h, _ => by simp [getCs] at h
  | .int k, cs, x, r, us, h, hr => getCs_leaf_of rfl h hr
  | .float, cs, x, r, us, h, hr => getCs_leaf_of rfl h hr
  | .bool, cs, x, r, us, h, hr => getCs_leaf_of rfl h hr
  | .str, cs, x, r, us, h, hr => getCs_leaf_of rfl h hr
  | .list e, cs, x, r, us, h, hr => getCs_leaf_of rfl h hr
  | .any, cs, x, r, us, h, hr => getCs_leaf_of rfl h hr
  | .nl e, cs, x, r, us, h, hr => getCs_leaf_of rfl h hr
theorem putCs_leaf_of {Fz : Nat → Prop} {w : World} {κ : Kd} (hk : κ.isAgg = false) {cs : List Ce} {x : Den κ} {us : List Value} (h : putCs κ x = some cs) (hr : RP Fz w κ x us) : RCv Fz w cs us := by
  obtain ⟨c, rfl, h1⟩ := putCs_leaf hk h
  have hl := RP_len κ x us hr
  have h1' : us.length = 1 := by rw [hl]; cases κ <;> simp_all [Kd.isAgg, Kd.size]
  obtain ⟨u, rfl⟩ := List.length_eq_one_iff.1 h1'
  simp only [RCv]
  exact ⟨u, [], rfl, putC_of h1 hr, rfl⟩
theorem putCs_of {Fz : Nat → Prop} {w : World} : ∀ (κ : Kd) (cs : List Ce) (x : Den κ) (us : List Value), putCs κ x = some cs → RP Fz w κ x us → RCv Fz w cs us
  | .unit, cs, x, us, h, hr => by
    simp only [putCs, Option.some.injEq] at h
    subst h
    simp only [RP] at hr
    subst hr
    simp only [RCv]
  | .pair a b, cs, x, us, h, hr => by
    simp only [putCs, Option.bind_eq_some_iff, Option.some.injEq] at h
    obtain ⟨p, h1, q, h2, rfl⟩ := h
    obtain ⟨c1, c2, rfl, r1, r2⟩ := hr
    exact RCv_append (putCs_of a p x.1 c1 h1 r1) (putCs_of b q x.2 c2 h2 r2)
  | .geo, _, _, _, h, _ => by simp [putCs] at h
  | .int k, cs, x, us, h, hr => putCs_leaf_of rfl h hr
  | .float, cs, x, us, h, hr => putCs_leaf_of rfl h hr
  | .bool, cs, x, us, h, hr => putCs_leaf_of rfl h hr
  | .str, cs, x, us, h, hr => putCs_leaf_of rfl h hr
  | .list e, cs, x, us, h, hr => putCs_leaf_of rfl h hr
  | .any, cs, x, us, h, hr => putCs_leaf_of rfl h hr
  | .nl e, cs, x, us, h, hr => putCs_leaf_of rfl h hr
theorem getCs_all {Fz : Nat → Prop} {w : World} {κ : Kd} {cs : List Ce} {x : Den κ} {us : List Value} (h : ((getCs κ cs).bind fun p => match p.2 with | [] => some p.1 | _ => none) = some x) (hr : RCv Fz w cs us) : RP Fz w κ x us := by
  obtain ⟨p, h1, h2⟩ := Option.bind_eq_some_iff.1 h
  obtain ⟨y, r⟩ := p
  simp only at h2
  split at h2
  · simp only [Option.some.injEq] at h2
    subst h2
    obtain ⟨u1, u2, rfl, h3, h4⟩ := getCs_of κ cs _ _ us h1 hr
    simp only [RCv] at h4
    subst h4
    simpa using h3
  · cases h2
theorem RV_any {ι : Nat → HI} {Fz : Nat → Prop} {w : World} {c : Ce} {v : Value} : RV ι Fz w (.pv .any c) v ↔ RC Fz w c v := by
  simp only [RV, Kd.isAgg, Bool.false_eq_true, if_false]; exact RP_any
/-- A pointer into frozen memory is a pointer to plain data. -/
theorem ptrD_of {ι : Nat → HI} {Fz : Nat → Prop} {w : World} {κ : Kd} {c : Ce} {x : Den κ} {v : Value} (h : ptrD κ c = some x) (hr : RV ι Fz w (.pv .any c) v) : RV ι Fz w (.eref κ x) v := by
  rw [RV_any] at hr
  cases c <;> simp only [ptrD] at h <;> first | (cases h; done) | skip
  simp only [RC] at hr
  obtain ⟨b, off, rfl, hb, hr⟩ := hr
  obtain ⟨es, h1, h2⟩ := RCs_lie hr
  simp only [RV]
  exact ⟨b, off, es, rfl, hb, getCs_all h h1, h2⟩
theorem isNilp_of {Fz : Nat → Prop} {w : World} {c : Ce} {b : Bool} {v : Value} (h : isNilp c = some b) (hr : RC Fz w c v) : (b = true ∧ v = .pointer none) ∨ (b = false ∧ ∃ a, v = .pointer (some a)) := by
  cases c <;> simp only [isNilp, Option.some.injEq] at h <;> first | (cases h; done) | skip
  · simp only [RC] at hr; exact .inl ⟨h.symm, hr⟩
  · simp only [RC] at hr; obtain ⟨b, off, rfl, _⟩ := hr; exact .inr ⟨h.symm, _, rfl⟩
theorem isNili_of {Fz : Nat → Prop} {w : World} {c : Ce} {b : Bool} {v : Value} (h : isNili c = some b) (hr : RC Fz w c v) : (b = true ∧ v = .nilIface) ∨ (b = false ∧ ∃ t u, v = .iface t u) := by
  cases c <;> simp only [isNili, Option.some.injEq] at h <;> first | (cases h; done) | skip
  · simp only [RC] at hr; exact .inl ⟨h.symm, hr⟩
  · simp only [RC] at hr; obtain ⟨u, rfl, _⟩ := hr; exact .inr ⟨h.symm, _, _, rfl⟩
  · simp only [RC] at hr; obtain ⟨u, rfl, _⟩ := hr; exact .inr ⟨h.symm, _, _, rfl⟩
theorem isT_of {Fz : Nat → Prop} {w : World} {t : TypeId} {c : Ce} {b : Bool} {v : Value} (h : isT t c = some b) (hr : RC Fz w c v) : (v = .nilIface ∧ b = false) ∨ ∃ u x, v = .iface u x ∧ b = Nat.beq u t := by
  cases c <;> simp only [isT, Option.some.injEq] at h <;> first | (cases h; done) | skip
  · simp only [RC] at hr; exact .inl ⟨hr, h.symm⟩
  · simp only [RC] at hr; obtain ⟨u, rfl, _⟩ := hr; exact .inr ⟨_, _, rfl, h.symm⟩
  · simp only [RC] at hr; obtain ⟨u, rfl, _⟩ := hr; exact .inr ⟨_, _, rfl, h.symm⟩
theorem asT_of {ι : Nat → HI} {Fz : Nat → Prop} {w : World} {κ : Kd} {t : TypeId} {c : Ce} {x : Den κ} {v : Value} (h : asT κ t c = some x) (hr : RC Fz w c v) : ∃ u, v = .iface t u ∧ RV ι Fz w (.pv κ x) u := by
  cases c <;> simp only [asT] at h <;> first | (cases h; done) | skip
  · rename_i u c
    cases hc : Nat.beq u t && !κ.isAgg with
    | false => rw [hc] at h; cases h
    | true =>
      rw [hc, cond_true] at h
      simp only [Bool.and_eq_true, Bool.not_eq_true'] at hc
      have e := Nat.eq_of_beq_eq_true hc.1
      subst e
      simp only [RC] at hr
      obtain ⟨u', rfl, hr⟩ := hr
      exact ⟨u', rfl, by simp only [RV, hc.2, Bool.false_eq_true, if_false]; exact getC_of h hr⟩
  · rename_i u cs
    cases hc : Nat.beq u t && κ.isAgg with
    | false => rw [hc] at h; cases h
    | true =>
      rw [hc, cond_true] at h
      simp only [Bool.and_eq_true] at hc
      have e := Nat.eq_of_beq_eq_true hc.1
      subst e
      simp only [RC] at hr
      obtain ⟨us, rfl, hr⟩ := hr
      exact ⟨_, rfl, by simp only [RV, hc.2, if_true]; exact ⟨us, rfl, getCs_all h hr⟩⟩
theorem mentL_left {k : Nat} : ∀ {l m : List AV}, mentL k l = true → mentL k (l ++ m) = true
  | [], _, h => by simp [mentL] at h
  | a :: l, m, h => by
    simp only [mentL, List.cons_append, Bool.or_eq_true] at h ⊢
    rcases h with h | h
    · exact .inl h
    · exact .inr (mentL_left h)
theorem mentL_right {k : Nat} : ∀ {l m : List AV}, mentL k m = true → mentL k (l ++ m) = true
  | [], _, h => by simpa using h
  | a :: l, m, h => by
    simp only [mentL, List.cons_append, Bool.or_eq_true]
    exact .inr (mentL_right h)
theorem mentL_mem {k : Nat} {a : AV} : ∀ {l : List AV}, a ∈ l → a.ment k = true → mentL k l = true
  | [], h, _ => by simp at h
  | b :: l, h, hm => by
    simp only [mentL, Bool.or_eq_true]
    rcases List.mem_cons.1 h with rfl | h
    · exact .inl hm
    · exact .inr (mentL_mem h hm)
theorem mentL_flat {k : Nat} {a : AV} {f : AV → List AV} : ∀ {l : List AV}, a ∈ l → mentL k (f a) = true → mentL k (l.flatMap f) = true
  | [], h, _ => by simp at h
  | b :: l, h, hm => by
    simp only [List.flatMap_cons]
    rcases List.mem_cons.1 h with rfl | h
    · exact mentL_left hm
    · exact mentL_right (mentL_flat h hm)
theorem leaf0_of {ι ι' : Nat → HI} {Fz Fz' : Nat → Prop} {w : World} {H : List (Nat × AB)} (hrb : ∀ h, RB ι Fz w h (getH H h)) (hf : ∀ b, Fz b → Fz' b)
    {κ : Kd} (hk : κ.isAgg = false) {a : AV} {x : Den κ} {v : Value} (h : leaf0 H κ a = some x) (hr : RV ι Fz w a v)
    (hb : ∀ h, a.ment h = true → (getH H h).isArr → (ι h).virt = false → Fz' (ι h).blk) : RV ι' Fz' w (.pv κ x) v := by
  cases a with
  | pv κ' y =>
    simp only [leaf0] at h
    split at h
    · rename_i z h'
      simp only [Option.some.injEq] at h
      subst h
      have h := h'
      have e := castD_list h
      subst e
      simp only [castD, dif_pos, Option.some.injEq] at h
      subst h
      exact pv_mono (fun _ _ => rfl) hf hr
    · unfold unopt at h
      split at h
      · rename_i e' e y _
        have e2 := castD_list h
        simp only [Kd.list.injEq] at e2
        subst e2
        simp only [castD, dif_pos, Option.some.injEq] at h
        subst h
        refine pv_mono (ι := ι) (fun _ _ => rfl) hf ?_
        simp only [RV, Kd.isAgg, Bool.false_eq_true, if_false, RP] at hr ⊢
        obtain ⟨u, hu, hr⟩ := hr
        refine ⟨u, hu, ?_⟩
        rcases hr with ⟨rfl, rfl⟩ | ⟨xs, rfl, h1, _⟩
        · exact ⟨none, 0, rfl, by simp, .inl rfl⟩
        · exact h1
      · rename_i e' e y _ _
        cases hb1 : Nat.ble 1 y.length with
        | false => rw [hb1] at h; cases h
        | true =>
          rw [hb1, cond_true] at h
          have e2 := castD_list h
          simp only [Kd.nl.injEq] at e2
          subst e2
          simp only [castD, dif_pos, Option.some.injEq] at h
          subst h
          refine pv_mono (ι := ι) (fun _ _ => rfl) hf ?_
          simp only [RV, Kd.isAgg, Bool.false_eq_true, if_false, RP] at hr ⊢
          obtain ⟨u, hu, hr⟩ := hr
          refine ⟨u, hu, .inr ⟨y, rfl, hr, ?_⟩⟩
          obtain ⟨a, c, rfl, _, hr⟩ := hr
          rcases hr with hr | ⟨b, off, rfl, _⟩
          · rw [hr] at hb1; cases hb1
          · exact ⟨_, _, _, rfl⟩
      · cases h
  | nils =>
    simp only [RV] at hr
    subst hr
    simp only [leaf0] at h
    split at h
    · simp only [Option.some.injEq] at h
      subst h
      simp only [RV, Kd.isAgg, Bool.false_eq_true, if_false, RP]
      exact ⟨_, rfl, none, 0, rfl, by simp, .inl rfl⟩
    · simp only [Option.some.injEq] at h
      subst h
      simp only [RV, Kd.isAgg, Bool.false_eq_true, if_false, RP]
      exact ⟨_, rfl, .inl ⟨trivial, rfl⟩⟩
    · cases h
  | own κ' g =>
    simp only [leaf0] at h
    have hg := hrb g
    split at h
    · rename_i e κ'' xs he
      rw [he] at hg
      have hcast := castD_list h
      have key : RP Fz' w (.list κ'') xs [v] := by
        refine ⟨v, rfl, ?_⟩
        have hlen := hg.1
        have := arr_RLf hg hf (fun hv => hb g (by simp [AV.ment]) (by rw [he]; trivial) hv) 0 xs.length (by omega) (v := v) (by
          simp only [RV] at hr
          rcases hr with ⟨hv, rfl⟩ | ⟨hv, rfl⟩
          · left
            rcases hg.2 with ⟨_, e⟩ | ⟨e, _⟩
            · rw [e]; exact ⟨rfl, none, 0, rfl⟩
            · rw [hv] at e; cases e
          · right
            refine ⟨hv, (ι g).cap, by rw [hlen]; simp, ?_⟩
            rcases hg.2 with ⟨e, _⟩ | ⟨_, vs, _, e, _⟩
            · rw [hv] at e; cases e
            · exact e)
        simpa using this
      have := castD_of h key
      simp only [RV, hk, Bool.false_eq_true, if_false]
      exact this
    · cases h
  | sub κ' g off len =>
    simp only [leaf0] at h
    have hg := hrb g
    split at h
    · rename_i e κ'' xs he
      rw [he] at hg
      simp only [RV] at hr
      have hlen := hg.1
      cases hd : decide (κ' = κ'') with
      | false => rw [hd] at h; simp at h
      | true =>
        have e := of_decide_eq_true hd
        subst e
        rw [hd] at h
        simp only [cond_true] at h
        have key : RP Fz' w (.list κ') ((xs.drop off).take len) [v] :=
          ⟨v, rfl, arr_RLf hg hf (fun hv => hb g (by simp [AV.ment]) (by rw [he]; trivial) hv) off len (by omega) (v := v) (sub_old (f := fun c => .slice (some ⟨_, _, none⟩) len c) hr.2)⟩
        have := castD_of h key
        simp only [RV, hk, Bool.false_eq_true, if_false]
        exact this
    · cases h
  | _ => simp [leaf0] at h

theorem leafD_ne {H : List (Nat × AB)} {κ : Kd} (h : κ ≠ .any) (a : AV) : leafD H κ a = leaf0 H κ a := by
  cases κ <;> first | exact absurd rfl h | rfl
section
variable {ι ι' : Nat → HI} {Fz Fz' : Nat → Prop} {w : World} {H : List (Nat × AB)}
theorem pv_RC {κ : Kd} {x : Den κ} {c : Ce} {v : Value} (hf : ∀ b, Fz b → Fz' b) (hk : κ.isAgg = false) (h : putC κ x = some c) (hr : RV ι Fz w (.pv κ x) v) : RC Fz' w c v := by
  simp only [RV, hk, Bool.false_eq_true, if_false] at hr
  exact putC_of h (RP_mono (fun _ _ => rfl) hf _ _ _ hr)
theorem eref_RC {κ : Kd} {x : Den κ} {cs : List Ce} {v : Value} (hf : ∀ b, Fz b → Fz' b) (h : putCs κ x = some cs) (hr : RV ι Fz w (.eref κ x) v) : RC Fz' w (.ptr cs) v := by
  simp only [RV] at hr
  obtain ⟨b, off, es, rfl, hb, h1, h2⟩ := hr
  simp only [RC]
  exact ⟨b, off, rfl, hf _ hb, RCv_lie (putCs_of κ cs x es h (RP_mono (fun _ _ => rfl) hf _ _ _ h1)) h2⟩
theorem own_RC (hrb : ∀ h, RB ι Fz w h (getH H h)) (hf : ∀ b, Fz b → Fz' b) {κ κ' : Kd} {h : Nat} {e : TypeId} {xs : List (Den κ')} {c : Ce} {v : Value} (hg : getH H h = .arr e κ' xs) (hp : putC (.list κ') xs = some c) (hr : RV ι Fz w (.own κ h) v)
    (hb : (ι h).virt = false → Fz' (ι h).blk) : RC Fz' w c v := by
  have := leaf0_of (ι' := ι) hrb hf (κ := .list κ') rfl (a := .own κ h) (x := xs) (by simp [leaf0, hg, castD]) hr (fun k hk _ hv => by
    simp only [AV.ment] at hk
    have e := Nat.eq_of_beq_eq_true hk
    subst e; exact hb hv)
  exact pv_RC (fun _ h => h) rfl hp this
theorem sub_RC (hrb : ∀ h, RB ι Fz w h (getH H h)) (hf : ∀ b, Fz b → Fz' b) {κ' : Kd} {h off len : Nat} {e : TypeId} {xs : List (Den κ')} {c : Ce} {v : Value} (hg : getH H h = .arr e κ' xs) (hp : putC (.list κ') ((xs.drop off).take len) = some c) (hr : RV ι Fz w (.sub κ' h off len) v)
    (hb : (ι h).virt = false → Fz' (ι h).blk) : RC Fz' w c v := by
  have := leaf0_of (ι' := ι) hrb hf (κ := .list κ') rfl (a := .sub κ' h off len) (x := (xs.drop off).take len) (by simp [leaf0, hg, castD]) hr (fun k hk _ hv => by
    simp only [AV.ment] at hk
    have e := Nat.eq_of_beq_eq_true hk
    subst e; exact hb hv)
  exact pv_RC (fun _ h => h) rfl hp this
mutual
theorem cev_of (hrb : ∀ h, RB ι Fz w h (getH H h)) (hf : ∀ b, Fz b → Fz' b) (r : Nat → Option Ce) : ∀ (a : AV) (c : Ce) (v : Value), cev r H a = some c → RV ι Fz w a v →
    (∀ h, a.ment h = true → (getH H h).isArr → (ι h).virt = false → Fz' (ι h).blk) →
    (∀ h c, (∃ o, a = .ref h o ∨ ∃ t, a = .iface t (.ref h o)) → r h = some c → (ι h).virt = false → RC Fz' w c (.pointer (some ⟨(ι h).blk, 0, none⟩))) → RC Fz' w c v
  | .pv κ x, c, v, h, hr, _, _ => by
    simp only [cev] at h
    cases hk : κ.isAgg with
    | true => rw [hk] at h; cases h
    | false => rw [hk, cond_false] at h; exact pv_RC hf hk h hr
  | .nils, c, v, h, hr, _, _ => by
    simp only [cev, Option.some.injEq] at h; subst h
    simp only [RV] at hr; simpa only [RC] using hr
  | .nilp, c, v, h, hr, _, _ => by
    simp only [cev, Option.some.injEq] at h; subst h
    simp only [RV] at hr; simpa only [RC] using hr
  | .niliface, c, v, h, hr, _, _ => by
    simp only [cev, Option.some.injEq] at h; subst h
    simp only [RV] at hr; simpa only [RC] using hr
  | .eref κ x, c, v, h, hr, _, _ => by
    simp only [cev, Option.bind_eq_some_iff, Option.some.injEq] at h
    obtain ⟨cs, h, rfl⟩ := h
    exact eref_RC hf h hr
  | .ref g off, c, v, h, hr, _, hbx => by
    simp only [cev] at h
    cases ho : Nat.beq off 0 with
    | false => rw [ho] at h; cases h
    | true =>
      rw [ho, cond_true] at h
      have e := Nat.eq_of_beq_eq_true ho
      subst e
      simp only [RV] at hr
      obtain ⟨hv, rfl⟩ := hr
      exact hbx g c ⟨0, .inl rfl⟩ h hv
  | .own κ g, c, v, h, hr, hb, _ => by
    simp only [cev] at h
    split at h
    · rename_i e κ' xs hg
      exact own_RC hrb hf hg h hr (hb g (by simp [AV.ment]) (by rw [hg]; trivial))
    · cases h
  | .sub κ₀ g off len, c, v, h, hr, hb, _ => by
    simp only [cev] at h
    split at h
    · rename_i e κ' xs hg
      cases hd : decide (κ₀ = κ') with
      | false => rw [hd] at h; cases h
      | true =>
        rw [hd, cond_true] at h
        have e := of_decide_eq_true hd
        subst e
        exact sub_RC hrb hf hg h hr (hb g (by simp [AV.ment]) (by rw [hg]; trivial))
    · cases h
  | .iface t a, c, v, h, hr, hb, hbx => by
    simp only [cev, Option.bind_eq_some_iff] at h
    obtain ⟨y, h1, h⟩ := h
    simp only [RV] at hr
    obtain ⟨u, rfl, hr⟩ := hr
    have key := cevI_of hrb hf r a y u h1 hr (fun k hk => hb k (by simpa [AV.ment] using hk)) (fun k c hk => hbx k c (by obtain ⟨o, rfl⟩ := hk; exact ⟨o, .inr ⟨t, rfl⟩⟩))
    cases y with
    | inl c' =>
      simp only [Option.some.injEq] at h; subst h
      simp only [RC]; exact ⟨u, rfl, key⟩
    | inr cs =>
      simp only [Option.some.injEq] at h; subst h
      obtain ⟨us, rfl, key⟩ := key
      simp only [RC]; exact ⟨us, rfl, key⟩
  | .agg _, c, v, h, _, _, _ => by simp [cev] at h
  | .aref _ _ _, c, v, h, _, _, _ => by simp [cev] at h
  | .gi _ _, c, v, h, _, _, _ => by simp [cev] at h
  | .ep _, c, v, h, _, _, _ => by simp [cev] at h
  | .mf _ _, c, v, h, _, _, _ => by simp [cev] at h
  | .func _ _, c, v, h, _, _, _ => by simp [cev] at h
  | .nilf, c, v, h, _, _, _ => by simp [cev] at h
  | .nanv, c, v, h, _, _, _ => by simp [cev] at h
  | .bsl _ _, c, v, h, _, _, _ => by simp [cev] at h
  | .capd _ _, c, v, h, _, _, _ => by simp [cev] at h
  | .tuple _, c, v, h, _, _, _ => by simp [cev] at h
  | .dead, c, v, h, _, _, _ => by simp [cev] at h
theorem cevI_of (hrb : ∀ h, RB ι Fz w h (getH H h)) (hf : ∀ b, Fz b → Fz' b) (r : Nat → Option Ce) : ∀ (a : AV) (y : Ce ⊕ List Ce) (v : Value), cevI r H a = some y → RV ι Fz w a v →
    (∀ h, a.ment h = true → (getH H h).isArr → (ι h).virt = false → Fz' (ι h).blk) →
    (∀ h c, (∃ o, a = .ref h o) → r h = some c → (ι h).virt = false → RC Fz' w c (.pointer (some ⟨(ι h).blk, 0, none⟩))) →
    (match y with | .inl c => RC Fz' w c v | .inr cs => ∃ us : Array Value, v = .agg us ∧ RCv Fz' w cs us.toList)
  | .pv κ x, y, v, h, hr, _, _ => by
    simp only [cevI] at h
    cases hk : κ.isAgg with
    | true =>
      rw [hk, cond_true] at h
      simp only [Option.bind_eq_some_iff, Option.some.injEq] at h
      obtain ⟨cs, h, rfl⟩ := h
      simp only [RV, hk, if_true] at hr
      obtain ⟨vs, rfl, hr⟩ := hr
      exact ⟨vs, rfl, putCs_of κ cs x _ h (RP_mono (fun _ _ => rfl) hf _ _ _ hr)⟩
    | false =>
      rw [hk, cond_false] at h
      simp only [Option.bind_eq_some_iff, Option.some.injEq] at h
      obtain ⟨c, h, rfl⟩ := h
      exact pv_RC hf hk h hr
  | .agg cs, y, v, h, hr, hb, _ => by
    simp only [cevI, Option.bind_eq_some_iff, Option.some.injEq] at h
    obtain ⟨cs', h, rfl⟩ := h
    simp only [RV] at hr
    obtain ⟨vs, rfl, _, hr⟩ := hr
    exact ⟨_, rfl, by simpa using cevs_of hrb hf (fun _ => none) cs cs' vs h hr (fun k hk => hb k (by simpa [AV.ment] using hk)) (fun k c a _ _ hn => by cases hn)⟩
  | .nilp, y, v, h, hr, _, _ => by
    simp only [cevI, Option.some.injEq] at h; subst h
    simp only [RV] at hr; simpa only [RC] using hr
  | .eref κ x, y, v, h, hr, _, _ => by
    simp only [cevI, Option.bind_eq_some_iff, Option.some.injEq] at h
    obtain ⟨cs, h, rfl⟩ := h
    exact eref_RC hf h hr
  | .ref g off, y, v, h, hr, _, hbx => by
    simp only [cevI] at h
    cases ho : Nat.beq off 0 with
    | false => rw [ho] at h; cases h
    | true =>
      rw [ho, cond_true] at h
      simp only [Option.bind_eq_some_iff, Option.some.injEq] at h
      obtain ⟨c, h, rfl⟩ := h
      have e := Nat.eq_of_beq_eq_true ho
      subst e
      simp only [RV] at hr
      obtain ⟨hv, rfl⟩ := hr
      exact hbx g c ⟨0, rfl⟩ h hv
  | .own κ g, y, v, h, hr, hb, _ => by
    simp only [cevI] at h
    split at h
    · rename_i e κ' xs hg
      simp only [Option.bind_eq_some_iff, Option.some.injEq] at h
      obtain ⟨c, h, rfl⟩ := h
      exact own_RC hrb hf hg h hr (hb g (by simp [AV.ment]) (by rw [hg]; trivial))
    · cases h
  | .sub κ₀ g off len, y, v, h, hr, hb, _ => by
    simp only [cevI] at h
    split at h
    · rename_i e κ' xs hg
      cases hd : decide (κ₀ = κ') with
      | false => rw [hd] at h; cases h
      | true =>
        rw [hd, cond_true] at h
        simp only [Option.bind_eq_some_iff, Option.some.injEq] at h
        obtain ⟨c, h, rfl⟩ := h
        have e := of_decide_eq_true hd
        subst e
        exact sub_RC hrb hf hg h hr (hb g (by simp [AV.ment]) (by rw [hg]; trivial))
    · cases h
  | .nils, y, v, h, _, _, _ => by simp [cevI] at h
  | .niliface, y, v, h, _, _, _ => by simp [cevI] at h
  | .iface _ _, y, v, h, _, _, _ => by simp [cevI] at h
  | .aref _ _ _, y, v, h, _, _, _ => by simp [cevI] at h
  | .gi _ _, y, v, h, _, _, _ => by simp [cevI] at h
  | .ep _, y, v, h, _, _, _ => by simp [cevI] at h
  | .mf _ _, y, v, h, _, _, _ => by simp [cevI] at h
  | .func _ _, y, v, h, _, _, _ => by simp [cevI] at h
  | .nilf, y, v, h, _, _, _ => by simp [cevI] at h
  | .nanv, y, v, h, _, _, _ => by simp [cevI] at h
  | .bsl _ _, y, v, h, _, _, _ => by simp [cevI] at h
  | .capd _ _, y, v, h, _, _, _ => by simp [cevI] at h
  | .tuple _, y, v, h, _, _, _ => by simp [cevI] at h
  | .dead, y, v, h, _, _, _ => by simp [cevI] at h
theorem cevs_of (hrb : ∀ h, RB ι Fz w h (getH H h)) (hf : ∀ b, Fz b → Fz' b) (r : Nat → Option Ce) : ∀ (l : List AV) (cs : List Ce) (vs : List Value), cevs r H l = some cs → RVs ι Fz w l vs →
    (∀ h, mentL h l = true → (getH H h).isArr → (ι h).virt = false → Fz' (ι h).blk) →
    (∀ h c a, a ∈ l → (∃ o, a = .ref h o ∨ ∃ t, a = .iface t (.ref h o)) → r h = some c → (ι h).virt = false → RC Fz' w c (.pointer (some ⟨(ι h).blk, 0, none⟩))) → RCv Fz' w cs vs
  | [], cs, vs, h, hr, _, _ => by
    simp only [cevs, Option.some.injEq] at h; subst h
    simp only [RVs] at hr; subst hr; simp only [RCv]
  | a :: l, cs, vs, h, hr, hb, hbx => by
    simp only [cevs, Option.bind_eq_some_iff, Option.some.injEq] at h
    obtain ⟨c, h1, cs', h2, rfl⟩ := h
    simp only [RVs] at hr
    obtain ⟨v, q, rfl, r1, r2⟩ := hr
    simp only [RCv]
    exact ⟨v, q, rfl, cev_of hrb hf r a c v h1 r1 (fun k hk => hb k (by simp [mentL, hk])) (fun k c hk => hbx k c a (by simp) hk),
      cevs_of hrb hf r l cs' q h2 r2 (fun k hk => hb k (by simp [mentL, hk])) (fun k c a ha => hbx k c a (by simp [ha]))⟩
end
/-- .. with the boxes. -/
theorem boxC_of (hrb : ∀ h, RB ι Fz w h (getH H h)) (hf : ∀ b, Fz b → Fz' b) : ∀ (d h : Nat) (c : Ce), boxC H d h = some c → (ι h).virt = false → (getH H h).live →
    (∀ k, mentL k (.ref h 0 :: (match getH H h with | .box cs => boxL H d cs | _ => [])) = true → (getH H k).live → (ι k).virt = false → Fz' (ι k).blk) → RC Fz' w c (.pointer (some ⟨(ι h).blk, 0, none⟩))
  | 0, _, _, h, _, _, _ => by simp [boxC] at h
  | d + 1, g, c, h, hv, hlv, hb => by
    simp only [boxC] at h
    have hg := hrb g
    split at h
    · rename_i cs hc
      rw [hc] at hg
      simp only [RB] at hg
      obtain ⟨_, vs, T, ⟨rest, hh⟩, hcs, h1⟩ := hg
      simp only [Option.bind_eq_some_iff, Option.some.injEq] at h
      obtain ⟨cs', h, rfl⟩ := h
      rw [hc] at hb
      simp only [RC]
      refine ⟨(ι g).blk, 0, rfl, hb g (by simp [mentL, AV.ment]) hlv hv, RCv_lie (es := vs) (cevs_of hrb hf (boxC H d) cs cs' vs h hcs (fun k hk ha => hb k ?_ (by revert ha; cases getH H k <;> simp [AB.isArr, AB.live])) fun k c a ha hk hbc hkv => ?_) fun j u hj => ?_⟩
      · simp only [mentL, Bool.or_eq_true]
        right
        simp only [boxL]
        exact mentL_left hk
      · have hlk : (getH H k).live := by
          cases d with
          | zero => simp [boxC] at hbc
          | succ d => simp only [boxC] at hbc; split at hbc; · rename_i hq; rw [hq]; trivial
                      · cases hbc
        refine boxC_of hrb hf d k c hbc hkv hlk fun q hq => hb q ?_
        simp only [mentL, Bool.or_eq_true] at hq ⊢
        right
        simp only [boxL]
        rcases hq with hq | hq
        · refine mentL_left (mentL_mem ha ?_)
          obtain ⟨o, rfl | ⟨t, rfl⟩⟩ := hk <;> simpa [AV.ment] using hq
        · refine mentL_right (mentL_flat ha ?_)
          obtain ⟨o, rfl | ⟨t, rfl⟩⟩ := hk
          · exact hq
          · exact hq
      · have := List.getElem?_append_left (l₂ := rest) (List.getElem?_eq_some_iff.1 hj).1
        simp [World.cell?, hh, this, hj]
    · cases h
end
theorem leafD_of {ι ι' : Nat → HI} {Fz Fz' : Nat → Prop} {w : World} {H : List (Nat × AB)} (hrb : ∀ h, RB ι Fz w h (getH H h)) (hf : ∀ b, Fz b → Fz' b)
    {κ : Kd} (hk : κ.isAgg = false) {a : AV} {x : Den κ} {v : Value} (h : leafD H κ a = some x) (hr : RV ι Fz w a v)
    (hb : ∀ h, a.ment h = true → (getH H h).isArr → (ι h).virt = false → Fz' (ι h).blk) : RV ι' Fz' w (.pv κ x) v := by
  by_cases he : κ = .any
  · subst he
    rw [RV_any]
    exact cev_of hrb hf (fun _ => none) a x v h hr hb (fun _ _ _ hn => by cases hn)
  · rw [leafD_ne he] at h
    exact leaf0_of hrb hf hk h hr hb

theorem leaf_RP {ι : Nat → HI} {Fz : Nat → Prop} {w : World} {κ : Kd} (hk : κ.isAgg = false) {x : Den κ} {v : Value} (h : RV ι Fz w (.pv κ x) v) : RP Fz w κ x [v] := by
  simpa only [RV, hk, Bool.false_eq_true, if_false] using h
theorem cellsD_leaf {H : List (Nat × AB)} {κ : Kd} (hk : κ.isAgg = false) {cs : List AV} {x : Den κ} {r : List AV} (h : cellsD H κ cs = some (x, r)) :
    ∃ c, cs = c :: r ∧ leafD H κ c = some x := by
  cases κ <;> first | (simp [Kd.isAgg] at hk; done) | skip
  all_goals
    cases cs with
    | nil => simp [cellsD] at h
    | cons c cs =>
      simp only [cellsD, Option.bind_eq_some_iff, Option.some.injEq, Prod.mk.injEq] at h
      obtain ⟨y, h1, rfl, rfl⟩ := h
      exact ⟨c, rfl, h1⟩
theorem cellsD_of {ι : Nat → HI} {Fz Fz' : Nat → Prop} {w : World} {H : List (Nat × AB)} (hrb : ∀ h, RB ι Fz w h (getH H h)) (hf : ∀ b, Fz b → Fz' b) :
    ∀ (κ : Kd) (cs : List AV) (x : Den κ) (r : List AV) (vs : List Value), cellsD H κ cs = some (x, r) → RVs ι Fz w cs vs →
      (∀ h, mentL h cs = true → (getH H h).isArr → (ι h).virt = false → Fz' (ι h).blk) → ∃ v1 v2, vs = v1 ++ v2 ∧ RP Fz' w κ x v1 ∧ RVs ι Fz w r v2 ∧ (∀ h, mentL h r = true → mentL h cs = true)
  | .unit, cs, x, r, vs, h, hr, hb => by
    simp only [cellsD, Option.some.injEq, Prod.mk.injEq] at h
    obtain ⟨_, rfl⟩ := h
    exact ⟨[], vs, rfl, rfl, hr, fun _ h => h⟩
  | .pair a b, cs, x, r, vs, h, hr, hb => by
    simp only [cellsD, Option.bind_eq_some_iff, Option.some.injEq, Prod.mk.injEq] at h
    obtain ⟨p, h1, q, h2, rfl, rfl⟩ := h
    obtain ⟨v1, v2, rfl, r1, r2, m1⟩ := cellsD_of hrb hf a cs p.1 p.2 vs h1 hr hb
    obtain ⟨v3, v4, rfl, r3, r4, m2⟩ := cellsD_of hrb hf b p.2 q.1 q.2 v2 h2 r2 (fun h hh => hb h (m1 h hh))
    exact ⟨v1 ++ v3, v4, by simp, ⟨v1, v3, rfl, r1, r3⟩, r4, fun h hh => m1 h (m2 h hh)⟩
  | .geo, cs, x, r, vs, h, hr, hb => by
    match cs, h, hr, hb with
    | c0 :: c1 :: c2 :: c3 :: c4 :: c5 :: c6 :: cs, h, hr, hb =>
      simp only [cellsD, Option.bind_eq_some_iff, Option.some.injEq, Prod.mk.injEq] at h
      obtain ⟨x0, h0, x1, h1, x2, h2, x3, h3, x4, h4, x5, h5, x6, h6, rfl, rfl⟩ := h
      simp only [RVs] at hr
      obtain ⟨u0, _, rfl, r0, u1, _, rfl, r1, u2, _, rfl, r2, u3, _, rfl, r3, u4, _, rfl, r4, u5, _, rfl, r5, u6, v2, rfl, r6, r7⟩ := hr
      have hb' : ∀ c ∈ [c0, c1, c2, c3, c4, c5, c6], ∀ h, c.ment h = true → (getH H h).isArr → (ι h).virt = false → Fz' (ι h).blk := by
        intro c hc h hm
        refine hb h ?_
        simp only [List.mem_cons, List.not_mem_nil, or_false] at hc
        simp only [mentL]
        rcases hc with rfl | rfl | rfl | rfl | rfl | rfl | rfl <;> simp [hm]
      have k0 := leaf_RP rfl (leafD_of (ι' := ι) hrb hf rfl h0 r0 (hb' c0 (by simp)))
      have k1 := leaf_RP rfl (leafD_of (ι' := ι) hrb hf rfl h1 r1 (hb' c1 (by simp)))
      have k2 := leaf_RP rfl (leafD_of (ι' := ι) hrb hf rfl h2 r2 (hb' c2 (by simp)))
      have k3 := leaf_RP rfl (leafD_of (ι' := ι) hrb hf rfl h3 r3 (hb' c3 (by simp)))
      have k4 := leaf_RP rfl (leafD_of (ι' := ι) hrb hf rfl h4 r4 (hb' c4 (by simp)))
      have k5 := leaf_RP rfl (leafD_of (ι' := ι) hrb hf rfl h5 r5 (hb' c5 (by simp)))
      have k6 := leaf_RP rfl (leafD_of (ι' := ι) hrb hf rfl h6 r6 (hb' c6 (by simp)))
      simp only [RP, List.cons.injEq, and_true] at k0 k1 k2
      subst k0 k1 k2
      obtain ⟨_, e3, k3⟩ := k3
      obtain ⟨_, e4, k4⟩ := k4
      obtain ⟨_, e5, k5⟩ := k5
      obtain ⟨_, e6, a, c, e6', k6, k7⟩ := k6
      simp only [List.cons.injEq, and_true] at e3 e4 e5 e6
      subst e3 e4 e5 e6
      subst e6'
      refine ⟨[.int .i64 x0, .int .i64 x1, .int .i64 x2, u3, u4, u5, .slice a x6.length c], v2, rfl, ?_, r7, fun h hh => by simp [mentL, hh]⟩
      simp only [RP, RG]
      refine ⟨u3, u4, u5, a, c, rfl, k3, k4, k5, k6, ?_⟩
      rcases k7 with k7 | ⟨b, off, ha, hb, k7⟩
      · exact .inl k7
      · exact .inr ⟨b, off, ha, hb, RGs_of x6 b off fun i x hx => k7 i x hx⟩
    | [], h, _, _ => simp [cellsD] at h
    | [_], h, _, _ => simp [cellsD] at h
    | [_, _], h, _, _ => simp [cellsD] at h
    | [_, _, _], h, _, _ => simp [cellsD] at h
    | [_, _, _, _], h, _, _ => simp [cellsD] at h
    | [_, _, _, _, _], h, _, _ => simp [cellsD] at h
    | [_, _, _, _, _, _], h, _, _ => simp [cellsD] at h
  | .int k, cs, x, r, vs, h, hr, hb => by
    obtain ⟨c, rfl, h1⟩ := cellsD_leaf rfl h
    simp only [RVs] at hr
    obtain ⟨v, r', rfl, hr1, hr2⟩ := hr
    exact ⟨[v], r', rfl, leaf_RP rfl (leafD_of (ι' := ι) hrb hf rfl h1 hr1 (fun h hm => hb h (by simp [mentL, hm]))), hr2, fun h hh => by simp [mentL, hh]⟩
  | .float, cs, x, r, vs, h, hr, hb => by
    obtain ⟨c, rfl, h1⟩ := cellsD_leaf rfl h
    simp only [RVs] at hr
    obtain ⟨v, r', rfl, hr1, hr2⟩ := hr
    exact ⟨[v], r', rfl, leaf_RP rfl (leafD_of (ι' := ι) hrb hf rfl h1 hr1 (fun h hm => hb h (by simp [mentL, hm]))), hr2, fun h hh => by simp [mentL, hh]⟩
  | .bool, cs, x, r, vs, h, hr, hb => by
    obtain ⟨c, rfl, h1⟩ := cellsD_leaf rfl h
    simp only [RVs] at hr
    obtain ⟨v, r', rfl, hr1, hr2⟩ := hr
    exact ⟨[v], r', rfl, leaf_RP rfl (leafD_of (ι' := ι) hrb hf rfl h1 hr1 (fun h hm => hb h (by simp [mentL, hm]))), hr2, fun h hh => by simp [mentL, hh]⟩
  | .str, cs, x, r, vs, h, hr, hb => by
    obtain ⟨c, rfl, h1⟩ := cellsD_leaf rfl h
    simp only [RVs] at hr
    obtain ⟨v, r', rfl, hr1, hr2⟩ := hr
    exact ⟨[v], r', rfl, leaf_RP rfl (leafD_of (ι' := ι) hrb hf rfl h1 hr1 (fun h hm => hb h (by simp [mentL, hm]))), hr2, fun h hh => by simp [mentL, hh]⟩
  | .list e, cs, x, r, vs, h, hr, hb => by
    obtain ⟨c, rfl, h1⟩ := cellsD_leaf rfl h
    simp only [RVs] at hr
    obtain ⟨v, r', rfl, hr1, hr2⟩ := hr
    exact ⟨[v], r', rfl, leaf_RP rfl (leafD_of (ι' := ι) hrb hf rfl h1 hr1 (fun h hm => hb h (by simp [mentL, hm]))), hr2, fun h hh => by simp [mentL, hh]⟩
  | .any, cs, x, r, vs, h, hr, hb => by
    obtain ⟨c, rfl, h1⟩ := cellsD_leaf rfl h
    simp only [RVs] at hr
    obtain ⟨v, r', rfl, hr1, hr2⟩ := hr
    exact ⟨[v], r', rfl, leaf_RP rfl (leafD_of (ι' := ι) hrb hf rfl h1 hr1 (fun h hm => hb h (by simp [mentL, hm]))), hr2, fun h hh => by simp [mentL, hh]⟩
  | .nl e, cs, x, r, vs, h, hr, hb => by
    obtain ⟨c, rfl, h1⟩ := cellsD_leaf rfl h
    simp only [RVs] at hr
    obtain ⟨v, r', rfl, hr1, hr2⟩ := hr
    exact ⟨[v], r', rfl, leaf_RP rfl (leafD_of (ι' := ι) hrb hf rfl h1 hr1 (fun h hm => hb h (by simp [mentL, hm]))), hr2, fun h hh => by simp [mentL, hh]⟩

theorem argD_of {ι ι' : Nat → HI} {Fz Fz' : Nat → Prop} {w : World} {H : List (Nat × AB)} (hrb : ∀ h, RB ι Fz w h (getH H h)) (hf : ∀ b, Fz b → Fz' b)
    {κ : Kd} {a : AV} {x : Den κ} {v : Value} (h : argD H κ a = some x) (hr : RV ι Fz w a v)
    (hb : ∀ h, a.ment h = true → (getH H h).isArr → (ι h).virt = false → Fz' (ι h).blk) : RV ι' Fz' w (.pv κ x) v := by
  cases hk : κ.isAgg with
  | false =>
    have key : leafD H κ a = some x := by
      cases a <;> simp only [argD, hk, cond_false] at h <;> first | exact h | skip
      simp only [Option.bind_eq_some_iff] at h
      obtain ⟨p, _, h⟩ := h
      split at h <;> cases h
    exact leafD_of hrb hf hk key hr hb
  | true =>
    cases a <;> simp only [argD, hk, cond_true] at h <;> first | (cases h; done) | skip
    · rename_i κ' y
      have e := castD_list h
      subst e
      simp only [castD, dif_pos, Option.some.injEq] at h
      subst h
      exact pv_mono (fun _ _ => rfl) hf hr
    · rename_i cs
      simp only [Option.bind_eq_some_iff] at h
      obtain ⟨p, h1, h⟩ := h
      split at h
      · rename_i hp
        simp only [Option.some.injEq] at h
        subst h
        simp only [RV] at hr
        obtain ⟨vs, rfl, _, hr⟩ := hr
        obtain ⟨v1, v2, rfl, r1, r2, _⟩ := cellsD_of hrb hf κ cs p.1 p.2 vs (by rw [h1]) hr (fun h hm => hb h (by simpa [AV.ment] using hm))
        rw [hp] at r2
        simp only [RVs] at r2
        subst r2
        simp only [RV, hk, if_true]
        exact ⟨_, rfl, by simpa using r1⟩
      · cases h

/-! ### contracts -/
def ι0 : Nat → HI := fun _ => ⟨0, 0, 0, true⟩
def RA (Fz : Nat → Prop) (w : World) : (ps : List Par) → HL ps → List Value → Prop
  | [], _, vs => vs = []
  | .k κ :: ps, x, vs => ∃ v r, vs = v :: r ∧ RV ι0 Fz w (.pv κ x.1) v ∧ RA Fz w ps x.2 r
  | .fn f :: ps, x, vs => ∃ r, vs = .func (.func f) #[] #[] :: r ∧ RA Fz w ps x r
  | .ifc t κ :: ps, x, vs => ∃ v r, vs = .iface t v :: r ∧ RV ι0 Fz w (.pv κ x.1) v ∧ RA Fz w ps x.2 r
theorem argsD_of {ι : Nat → HI} {Fz Fz' : Nat → Prop} {w : World} {H : List (Nat × AB)} (hrb : ∀ h, RB ι Fz w h (getH H h)) (hf : ∀ b, Fz b → Fz' b) :
    ∀ (ps : List Par) (avs : List AV) (x : HL ps) (vs : List Value), argsD H ps avs = some x → RVs ι Fz w avs vs →
    (∀ h, mentL h avs = true → (getH H h).isArr → (ι h).virt = false → Fz' (ι h).blk) → RA Fz' w ps x vs
  | [], [], x, vs, _, hr, _ => by simpa only [RVs, RA] using hr
  | [], _ :: _, _, _, h, _, _ => by simp [argsD] at h
  | .k κ :: ps, [], _, _, h, _, _ => by simp [argsD] at h
  | .fn f :: ps, [], _, _, h, _, _ => by simp [argsD] at h
  | .ifc t κ :: ps, [], _, _, h, _, _ => by simp [argsD] at h
  | .k κ :: ps, a :: avs, x, vs, h, hr, hb => by
    simp only [argsD, Option.bind_eq_some_iff, Option.some.injEq] at h
    obtain ⟨y, h1, z, h2, rfl⟩ := h
    simp only [RVs] at hr
    obtain ⟨v, r, rfl, r1, r2⟩ := hr
    simp only [RA]
    exact ⟨v, r, rfl, argD_of hrb hf h1 r1 (fun h hm => hb h (by simp [mentL, hm])), argsD_of hrb hf ps avs z r h2 r2 (fun h hm => hb h (by simp [mentL, hm]))⟩
  | .fn f :: ps, a :: avs, x, vs, h, hr, hb => by
    simp only [RVs] at hr
    obtain ⟨v, r, rfl, r1, r2⟩ := hr
    simp only [argsD] at h
    split at h
    · rename_i g
      cases hg : Nat.beq f g with
      | false => rw [hg] at h; cases h
      | true =>
        rw [hg] at h
        have e := Nat.eq_of_beq_eq_true hg
        subst e
        simp only [RV, RVs] at r1
        obtain ⟨us, rfl, rfl⟩ := r1
        simp only [RA]
        exact ⟨r, rfl, argsD_of hrb hf ps avs x r h r2 (fun h hm => hb h (by simp [mentL, hm]))⟩
    · cases h
  | .ifc t κ :: ps, a :: avs, x, vs, h, hr, hb => by
    simp only [RVs] at hr
    obtain ⟨v, r, rfl, r1, r2⟩ := hr
    simp only [argsD] at h
    split at h
    · rename_i u a
      cases hg : Nat.beq t u with
      | false => rw [hg] at h; cases h
      | true =>
        rw [hg] at h
        have e := Nat.eq_of_beq_eq_true hg
        subst e
        simp only [cond_true, Option.bind_eq_some_iff, Option.some.injEq] at h
        obtain ⟨y, h1, z, h2, rfl⟩ := h
        simp only [RV] at r1
        obtain ⟨v', rfl, r1⟩ := r1
        simp only [RA]
        exact ⟨v', r, rfl, argD_of hrb hf h1 r1 (fun h hm => hb h (by simp [mentL, AV.ment, hm])), argsD_of hrb hf ps avs z r h2 r2 (fun h hm => hb h (by simp [mentL, hm]))⟩
    · cases h

/-- What a call gives. -/
def CallGives (P : Program) (f : FuncId) (args : List Value) (w : World) (G : Value → World → Prop) : Prop :=
  (∃ v w', (callFunc f args.toArray).run P w = .ok (.value v) w' ∧ G v w') ∨
  ((callFunc f args.toArray).run P w = .ok (.enter f args.toArray) w ∧ Calls P f args.toArray w fun e w' => ∃ v, e = .returned v ∧ G v w')
def Con.Sound (P : Program) (gl : List Gl) (c : Con) : Prop :=
  ∀ (w : World) (Fz : Nat → Prop) (x : HL c.ps) (vals : List Value) (y : HR c.rs), (∀ b, Fz b → b < w.heap.size) → GOK gl Fz w → RA Fz w c.ps x vals → c.fn x = some y →
    CallGives P c.fid vals w fun v w' => Below w.heap.size w w' ∧ ∃ Fz' : Nat → Prop, (∀ b, Fz b → Fz' b) ∧ (∀ b, Fz' b → Fz b ∨ w.heap.size ≤ b) ∧ (∀ b, Fz' b → b < w'.heap.size) ∧
      RV ι0 Fz' w' (resV c.rs y) v

/-! ### what an operation gives -/
def OpGives (P : Program) (o : Oper) (a : Act) (w : World) (G : Value → World → Prop) : Prop :=
  (∃ v w', (execOp a.eval o).run P w = .ok (.value v) w' ∧ G v w') ∨ (∃ w', (execOp a.eval o).run P w = .ok .skip w' ∧ G undef w') ∨
  (∃ f args, (execOp a.eval o).run P w = .ok (.enter f args) w ∧ Calls P f args w fun e w' => ∃ v, e = .returned v ∧ G v w')
theorem OpGives.wp {P : Program} {o : Oper} {a : Act} {w : World} {G : Value → World → Prop} {K : Act → World → Prop} {Q : Exit → Act → World → Prop}
    (h : OpGives P o a w G) (hk : ∀ v w', G v w' → K (a.put o.dst v) w') : o.wp P a w K Q := by
  unfold Oper.wp
  rcases h with ⟨v, w', hr, hg⟩ | ⟨w', hr, hg⟩ | ⟨f, args, hr, hc⟩
  · rw [hr]; exact hk v w' hg
  · rw [hr]; exact hk _ w' hg
  · rw [hr]
    refine hc.mono ?_
    rintro e w' ⟨v, rfl, hg⟩
    exact hk v w' hg
theorem OpGives.val {P : Program} {o : Oper} {a : Act} {w : World} {G : Value → World → Prop} {v : Value} (h : (execOp a.eval o).run P w = .ok (.value v) w) (hg : G v w) : OpGives P o a w G := .inl ⟨v, w, h, hg⟩
theorem OpGives.mono {P : Program} {o : Oper} {a : Act} {w : World} {G G' : Value → World → Prop} (h : OpGives P o a w G) (hg : ∀ v w', G v w' → G' v w') : OpGives P o a w G' := by
  rcases h with ⟨v, w', hr, h⟩ | ⟨w', hr, h⟩ | ⟨f, args, hr, hc⟩
  · exact .inl ⟨v, w', hr, hg _ _ h⟩
  · exact .inr (.inl ⟨w', hr, hg _ _ h⟩)
  · exact .inr (.inr ⟨f, args, hr, hc.mono fun e w' ⟨v, e, h⟩ => ⟨v, e, hg _ _ h⟩⟩)
end Go.Av
