/- A region whose order is drawn: whatever order comes, the same is told. -/
import Derived.Test.YtcppjdjimmnlkaaAv17
set_option linter.unusedVariables false
set_option linter.unusedSimpArgs false
namespace Go.Av
open Go Go.RowKit

section
variable {R : Type}
theorem aK_bind (K : AV → Option R) : aK K = fun v ob => (aK some v ob).bind K := by
  funext v ob; cases ob <;> rfl
theorem bK_bind (K : AV → Option R) : bK K = fun v ob => (bK some v ob).bind K := by
  funext v ob
  unfold bK
  split <;> simp only [cond_bind, Option.bind_some, Option.bind_none]
theorem opA_some {E : Env} {op : Op} {e : Operand → AV} {H : List (Nat × AB)} {K : AV → Option R} {d : Nat} {r : R} (h : opA E op e H K d = some r) : ∃ v, opA E op e H some d = some v ∧ K v = some r := by
  have main : ∀ (op : Op), opR E op e H (aK K) d = some r → ∃ v, opR E op e H (aK some) d = some v ∧ K v = some r := by
    intro op h
    rw [aK_bind, ← opR_bind] at h
    exact Option.bind_eq_some_iff.1 h
  cases op <;> simp only [opA] at h ⊢ <;> first | exact main _ h | skip
  rw [bK_bind, ← opR_bind] at h
  exact Option.bind_eq_some_iff.1 h
theorem opA_congr (E : Env) (op : Op) {e e' : Operand → AV} (H : List (Nat × AB)) (K : AV → Option R) (d : Nat) (h : ∀ x ∈ op.operands, e x = e' x) : opA E op e H K d = opA E op e' H K d := by
  cases op <;> simp only [opA] <;> exact opR_congr E _ H _ d h
end

section
variable {P : Program} {w0 : World} {Fz0 : Nat → Prop} {ι : Nat → HI} {Fz : Nat → Prop} {H : List (Nat × AB)} {w : World}
theorem opA_of {o : Oper} {a : Act} {E : Env} {e : Operand → AV} {d : Nat} {v : AV} (hΓ : ∀ c ∈ E.cons, c.Sound E.P) (m : Mem w0 Fz0 ι Fz H w)
    (he : ∀ x, RV ι Fz w (e x) (a.eval x)) (h : opA E o.op e H some d = some v) : OpGives E.P o a w (After w0 Fz0 ι Fz H w d v none) := by
  have main : opR E o.op e H (aK some) d = some v → OpGives E.P o a w (After w0 Fz0 ι Fz H w d v none) := by
    intro h
    obtain ⟨v', ob, hk, hg⟩ := opR_of hΓ m he h
    cases ob with
    | some b => cases hk
    | none =>
      simp only [aK, Option.some.injEq] at hk
      subst hk
      exact hg (fun b hb => by cases hb)
  generalize ho : o.op = op at h
  cases op <;> simp only [opA] at h <;> first | exact main (by rw [ho]; exact h) | skip
  obtain ⟨el, κ, xs, hk, v', w', hr, ha⟩ := buildSlice_frz (d' := d) m he h
  simp only [bK, decide_true, cond_true, Option.some.injEq] at hk
  subst hk
  refine .inl ⟨v', w', ?_, ha⟩
  simp only [execOp, ho]
  simp [hr]

/-! ### the values along the text's order -/
def updO (F : Nat → AV) (d : Option Nat) (v : AV) : Nat → AV := match d with | none => F | some d => fun t => if d = t then v else F t
def opndF (F : Nat → AV) : Operand → AV
  | .tmp t => F t
  | .const v => avOf v
  | .global _ => .dead
  | .func f => .func f []
theorem opnd_F (fr : List (Nat × AV)) : opnd fr = opndF (getF fr) := by funext x; cases x <;> rfl
def stepV (E : Env) (ops : Array Oper) (H : List (Nat × AB)) (F : Nat → AV) (o : Oper) (v : AV) : Prop :=
  match o.guard with
  | none => opA E o.op (opndF F) H some (o.dst.getD 0) = some v
  | some (j, want) => ∃ d, (ops[j]?).bind (·.dst) = some d ∧
      ((∃ p, F d = .pv .bool p ∧ ((p = want ∧ opA E o.op (opndF F) H some (o.dst.getD 0) = some v) ∨ (p ≠ want ∧ v = .tuple []))) ∨ (F d = .tuple [] ∧ v = .tuple []))
def Steps (E : Env) (ops : Array Oper) (H : List (Nat × AB)) : (Nat → AV) → List Oper → List AV → Prop
  | _, [], [] => True
  | F, o :: l, v :: vs => stepV E ops H F o v ∧ Steps E ops H (updO F o.dst v) l vs
  | _, _, _ => False
def runF : (Nat → AV) → List Oper → List AV → Nat → AV
  | F, o :: l, v :: vs => runF (updO F o.dst v) l vs
  | F, _, _ => F
theorem getF_put (st : St) (d : Option Nat) (v : AV) : getF (putF st d v).fr = updO (getF st.fr) d v := by
  cases d with
  | none => rfl
  | some d => funext t; show getF ((d, v) :: st.fr) t = _; rw [getF_cons]; rfl
theorem getF_known {fr : List (Nat × AV)} {d : Nat} {v : AV} (h : getF fr d = v) : getF ((d, v) :: fr) = getF fr := by
  funext t; rw [getF_cons]; split
  · rename_i e; rw [← e, h]
  · rfl
theorem putF_H (st : St) (d : Option Nat) (v : AV) : (putF st d v).H = st.H ∧ (putF st d v).df = st.df := by cases d <;> exact ⟨rfl, rfl⟩
theorem opAG_step {R : Type} {E : Env} {ops : Array Oper} {o : Oper} {st : St} {K : St → Option R} {r : R} (h : opAG E ops o st K = some r) :
    ∃ v st', stepV E ops st.H (getF st.fr) o v ∧ K st' = some r ∧ st'.H = st.H ∧ st'.df = st.df ∧ getF st'.fr = updO (getF st.fr) o.dst v := by
  unfold opAG at h
  have run : ∀ (fr : List (Nat × AV)), getF fr = getF st.fr → opA E o.op (opnd fr) st.H (fun v => K (putF ⟨fr, st.H, st.df⟩ o.dst v)) (o.dst.getD 0) = some r →
      ∃ v, opA E o.op (opndF (getF st.fr)) st.H some (o.dst.getD 0) = some v ∧ ∃ st', K st' = some r ∧ st'.H = st.H ∧ st'.df = st.df ∧ getF st'.fr = updO (getF st.fr) o.dst v := by
    intro fr hfr h
    rw [opnd_F, hfr] at h
    obtain ⟨v, h1, h2⟩ := opA_some h
    exact ⟨v, h1, _, h2, (putF_H _ _ _).1, (putF_H _ _ _).2, by rw [getF_put, hfr]⟩
  split at h
  · rename_i hgd
    obtain ⟨v, h1, st', h2⟩ := run st.fr rfl h
    exact ⟨v, st', by unfold stepV; rw [hgd]; exact h1, h2⟩
  · rename_i j want hgd
    split at h
    · rename_i d hdst
      have skip : ∀ (fr : List (Nat × AV)), getF fr = getF st.fr → K (putF ⟨fr, st.H, st.df⟩ o.dst (.tuple [])) = some r → ∃ st', K st' = some r ∧ st'.H = st.H ∧ st'.df = st.df ∧ getF st'.fr = updO (getF st.fr) o.dst (.tuple []) :=
        fun fr hfr h => ⟨_, h, (putF_H _ _ _).1, (putF_H _ _ _).2, by rw [getF_put, hfr]⟩
      split at h
      · rename_i p hp
        cases p with
        | true =>
          simp only [cond_true] at h
          cases want with
          | true =>
            simp only [cond_true] at h
            obtain ⟨v, h1, st', h2⟩ := run _ (getF_known hp) h
            exact ⟨v, st', by unfold stepV; rw [hgd]; exact ⟨d, hdst, .inl ⟨true, hp, .inl ⟨rfl, h1⟩⟩⟩, h2⟩
          | false =>
            simp only [cond_false] at h
            obtain ⟨st', h2⟩ := skip _ (getF_known hp) h
            exact ⟨_, st', by unfold stepV; rw [hgd]; exact ⟨d, hdst, .inl ⟨true, hp, .inr ⟨by simp, rfl⟩⟩⟩, h2⟩
        | false =>
          simp only [cond_false] at h
          cases want with
          | true =>
            simp only [cond_true] at h
            obtain ⟨st', h2⟩ := skip _ (getF_known hp) h
            exact ⟨_, st', by unfold stepV; rw [hgd]; exact ⟨d, hdst, .inl ⟨false, hp, .inr ⟨by simp, rfl⟩⟩⟩, h2⟩
          | false =>
            simp only [cond_false] at h
            obtain ⟨v, h1, st', h2⟩ := run _ (getF_known hp) h
            exact ⟨v, st', by unfold stepV; rw [hgd]; exact ⟨d, hdst, .inl ⟨false, hp, .inl ⟨rfl, h1⟩⟩⟩, h2⟩
      · rename_i hp
        obtain ⟨st', h2⟩ := skip st.fr rfl h
        exact ⟨_, st', by unfold stepV; rw [hgd]; exact ⟨d, hdst, .inr ⟨hp, rfl⟩⟩, h2⟩
      · cases h
    · cases h
theorem opsA_steps {R : Type} {E : Env} {ops : Array Oper} : ∀ (l : List Oper) {st : St} {K : St → Option R} {r : R}, opsA E ops l st K = some r →
    ∃ vs st', Steps E ops st.H (getF st.fr) l vs ∧ K st' = some r ∧ st'.H = st.H ∧ st'.df = st.df ∧ getF st'.fr = runF (getF st.fr) l vs
  | [], st, K, r, h => ⟨[], st, trivial, h, rfl, rfl, rfl⟩
  | o :: l, st, K, r, h => by
    simp only [opsA] at h
    obtain ⟨v, st1, h1, h2, h3, h4, h5⟩ := opAG_step h
    obtain ⟨vs, st2, g1, g2, g3, g4, g5⟩ := opsA_steps l h2
    rw [h5, h3] at g1
    exact ⟨v :: vs, st2, ⟨h1, g1⟩, g2, g3.trans h3, g4.trans h4, by rw [g5, h5]; rfl⟩
theorem Steps.len {E : Env} {ops : Array Oper} : ∀ {F : Nat → AV} {l : List Oper} {vs : List AV}, Steps E ops H F l vs → vs.length = l.length
  | _, [], [], _ => rfl
  | _, o :: l, v :: vs, h => by simp [Steps.len h.2]
  | _, [], _ :: _, h => h.elim
  | _, _ :: _, [], h => h.elim
theorem Steps.at {E : Env} {ops : Array Oper} : ∀ {F : Nat → AV} {l : List Oper} {vs : List AV} {i : Nat} {o : Oper}, Steps E ops H F l vs → l[i]? = some o →
    ∃ v, vs[i]? = some v ∧ stepV E ops H (runF F (l.take i) (vs.take i)) o v
  | _, [], [], _, _, _, h => by simp at h
  | F, o' :: l, v :: vs, 0, o, h, ho => by
    simp only [List.getElem?_cons_zero, Option.some.injEq] at ho
    subst ho
    exact ⟨v, rfl, h.1⟩
  | F, o' :: l, v :: vs, i + 1, o, h, ho => by
    obtain ⟨u, h1, h2⟩ := Steps.at h.2 (by simpa using ho : l[i]? = some o)
    exact ⟨u, by simpa using h1, h2⟩
  | _, [], _ :: _, _, _, h, _ => h.elim
  | _, _ :: _, [], _, _, h, _ => h.elim
theorem runF_not : ∀ {F : Nat → AV} {l : List Oper} {vs : List AV} {t : Nat}, (∀ (j : Nat) o, l[j]? = some o → o.dst ≠ some t) → runF F l vs t = F t
  | _, [], _, _, _ => rfl
  | _, _ :: _, [], _, _ => rfl
  | F, o :: l, v :: vs, t, h => by
    show runF (updO F o.dst v) l vs t = F t
    rw [runF_not fun j o' ho => h (j + 1) o' (by simpa using ho)]
    have := h 0 o rfl
    cases hd : o.dst with
    | none => rfl
    | some d =>
      simp only [updO]
      rw [if_neg (fun e => this (by rw [hd, e]))]
theorem runF_at : ∀ {F : Nat → AV} {l : List Oper} {vs : List AV} {t j : Nat} {o : Oper} {v : AV}, l[j]? = some o → o.dst = some t → vs[j]? = some v → (∀ (k : Nat) o', k ≠ j → l[k]? = some o' → o'.dst ≠ some t) → runF F l vs t = v
  | _, [], _, _, _, _, _, h, _, _, _ => by simp at h
  | _, _ :: _, [], _, _, _, _, _, _, h, _ => by simp at h
  | F, o :: l, v :: vs, t, 0, o', v', h1, h2, h3, h4 => by
    simp only [List.getElem?_cons_zero, Option.some.injEq] at h1 h3
    subst h1 h3
    show runF (updO F o.dst v) l vs t = v
    rw [runF_not fun j o' ho => h4 (j + 1) o' (by omega) (by simpa using ho), h2]
    simp [updO]
  | F, o :: l, v :: vs, t, j + 1, o', v', h1, h2, h3, h4 =>
    runF_at (F := updO F o.dst v) (by simpa using h1) h2 (by simpa using h3) fun k o'' hk ho => h4 (k + 1) o'' (by omega) (by simpa using ho)

/-! ### the check -/
theorem dstIs_iff {o : Oper} {t : Nat} : dstIs o t = true ↔ o.dst = some t := by
  unfold dstIs
  cases o.dst with
  | none => simp
  | some d => exact ⟨fun h => by rw [Nat.eq_of_beq_eq_true h], fun h => by simp at h; rw [h]; exact Nat.beq_refl t⟩
theorem rowOk_at {ops : Array Oper} {oi : Oper} {i : Nat} : ∀ {l : List Oper} {j k : Nat} {oj : Oper}, rowOk ops oi i j l = true → l[k]? = some oj → pairOk ops oi oj i (j + k) = true
  | [], _, _, _, _, h => by simp at h
  | o :: l, j, 0, oj, h, ho => by
    simp only [List.getElem?_cons_zero, Option.some.injEq] at ho
    subst ho
    simp only [rowOk, Bool.and_eq_true] at h
    exact h.1
  | o :: l, j, k + 1, oj, h, ho => by
    simp only [rowOk, Bool.and_eq_true] at h
    have := rowOk_at h.2 (by simpa using ho : l[k]? = some oj)
    rwa [show j + 1 + k = j + (k + 1) by omega] at this
theorem allOk_at {ops : Array Oper} {hd : List Oper} : ∀ {l : List Oper} {i k : Nat} {o : Oper}, allOk ops hd i l = true → l[k]? = some o →
    rowOk ops o (i + k) 0 hd = true ∧ ∀ e ∈ o.after, Region.binds .any e = true → e.on < i + k
  | [], _, _, _, _, h => by simp at h
  | o :: l, i, 0, o', h, ho => by
    simp only [List.getElem?_cons_zero, Option.some.injEq] at ho
    subst ho
    simp only [allOk, Bool.and_eq_true] at h
    refine ⟨h.1.1, fun e he hb => ?_⟩
    have := List.all_eq_true.1 h.1.2 e (by simpa using he)
    rw [hb] at this
    simp only [Bool.not_true, Bool.false_or] at this
    exact Nat.le_of_ble_eq_true this
  | o :: l, i, k + 1, o', h, ho => by
    simp only [allOk, Bool.and_eq_true] at h
    have := allOk_at h.2 (by simpa using ho : l[k]? = some o')
    rwa [show i + 1 + k = i + (k + 1) by omega] at this
theorem waitsD_spec {o : Oper} {i : Nat} (h : waitsD o i = true) : ∃ e ∈ o.after, Region.binds .any e = true ∧ e.on = i := by
  unfold waitsD at h
  obtain ⟨e, he, h⟩ := List.any_eq_true.1 h
  simp only [Bool.and_eq_true] at h
  exact ⟨e, by simpa using he, h.1, Nat.eq_of_beq_eq_true h.2⟩
theorem pairOk_spec {ops : Array Oper} {oi oj : Oper} {i j : Nat} (h : pairOk ops oi oj i j = true) (hij : i ≠ j) :
    (∀ d, oi.dst = some d → oj.dst ≠ some d) ∧ ∀ d, oj.dst = some d → d ∈ oi.looksAt ops → (j < i ∧ waitsD oi j = true) ∨ (i < j ∧ waitsD oj i = true) := by
  unfold pairOk at h
  have hb : Nat.beq i j = false := by cases hx : Nat.beq i j with | false => rfl | true => exact absurd (Nat.eq_of_beq_eq_true hx) hij
  rw [hb, cond_false] at h
  simp only [Bool.and_eq_true] at h
  refine ⟨fun d hd hj => ?_, fun d hd hm => ?_⟩
  · have := h.1
    rw [hd] at this
    simp only [Bool.not_eq_true'] at this
    have h2 := dstIs_iff.2 hj
    rw [this] at h2; cases h2
  · have := h.2
    rw [hd] at this
    simp only [Bool.or_eq_true, Bool.not_eq_true'] at this
    rcases this with this | this
    · have h2 : ((oi.looksAt ops).any fun t => Nat.beq t d) = true := List.any_eq_true.2 ⟨d, hm, Nat.beq_refl d⟩
      rw [this] at h2; cases h2
    · cases hl : Nat.blt j i with
      | true => rw [hl, cond_true] at this; exact .inl ⟨Nat.le_of_ble_eq_true hl, this⟩
      | false =>
        rw [hl, cond_false] at this
        refine .inr ⟨?_, this⟩
        have : ¬ j < i := fun hlt => by have : Nat.blt j i = true := Nat.ble_eq_true_of_le hlt; rw [hl] at this; cases this
        omega

/-! ### any order -/
structure HInv (w0 : World) (Fz0 : Nat → Prop) (ι : Nat → HI) (H : List (Nat × AB)) (df : List AV) (nt : Nat) (F : Nat → AV) (l : List Oper) (vs : List AV) (listed : Array Bool) (a : Act) (w : World) (Fz : Nat → Prop) : Prop where
  tsize : a.tmps.size = nt
  df : RD ι Fz w df a.defers
  mem : Mem w0 Fz0 ι Fz H w
  val : ∀ (j : Nat) o t v, l[j]? = some o → o.dst = some t → vs[j]? = some v → listed.getD j false = true → RV ι Fz w v (a.tmps.getD t undef)
  old : ∀ t, (∀ (j : Nat) o, l[j]? = some o → o.dst = some t → listed.getD j false = false) → RV ι Fz w (F t) (a.tmps.getD t undef)
def unl (n : Nat) (listed : Array Bool) : Nat := (List.range n).countP fun i => !listed.getD i false
theorem unl_set {listed : Array Bool} {i : Nat} : ∀ {n : Nat}, i < n → i < listed.size → listed.getD i false = false → unl n listed = unl n (listed.setIfInBounds i true) + 1 := by
  intro n hi hs hf
  have same : ∀ m, m ≤ i → unl m (listed.setIfInBounds i true) = unl m listed := fun m hm => by
    unfold unl
    refine List.countP_congr fun k hk => ?_
    have := List.mem_range.1 hk
    rw [getD_set_ne false (by omega)]
  have hset : (listed.setIfInBounds i true).getD i false = true := by simp [hs]
  induction n with
  | zero => omega
  | succ n ih =>
    unfold unl at *
    rw [List.range_succ, List.countP_append, List.countP_append]
    rcases Nat.lt_or_ge i n with h | h
    · rw [ih h]
      have e : (listed.setIfInBounds i true).getD n false = listed.getD n false := getD_set_ne false (by omega)
      simp only [List.countP_singleton, e]
      omega
    · have e : n = i := by omega
      subst e
      rw [same n (Nat.le_refl _)]
      simp only [List.countP_singleton]
      rw [hset, hf]
      rfl
theorem unl_pos {n : Nat} {listed : Array Bool} (h : unl n listed ≠ 0) : ∃ i < n, listed.getD i false = false := by
  unfold unl at h
  obtain ⟨i, hi, hp⟩ := List.countP_pos_iff.1 (Nat.pos_of_ne_zero h)
  exact ⟨i, List.mem_range.1 hi, by simpa using hp⟩
theorem unl_zero {n : Nat} {listed : Array Bool} (h : unl n listed = 0) : ∀ i < n, listed.getD i false = true := by
  intro i hi
  unfold unl at h
  have := List.countP_eq_zero.1 h i (List.mem_range.2 hi)
  simpa using this
theorem tmps_put_self {a : Act} {d : Nat} {v : Value} (h : d < a.tmps.size) : (a.put (some d) v).tmps.getD d undef = v := by
  simp only [Act.put]
  rw [Array.getD_eq_getD_getElem?, Array.getElem?_setIfInBounds_self]
  simp [h]
theorem tmps_put_ne {a : Act} {d : Option Nat} {t : Nat} {v : Value} (h : d ≠ some t) : (a.put d v).tmps.getD t undef = a.tmps.getD t undef := by
  cases d with
  | none => rfl
  | some d =>
    simp only [Act.put]
    rw [Array.getD_eq_getD_getElem?, Array.getElem?_setIfInBounds_ne (fun e => h (by rw [e])), ← Array.getD_eq_getD_getElem?]
theorem getF_frOf (F : Nat → AV) : ∀ (l : List Nat) (t : Nat), (t ∈ l → getF (l.map fun t => (t, F t)) t = F t) ∧ (t ∉ l → getF (l.map fun t => (t, F t)) t = .dead)
  | [], t => ⟨fun h => by simp at h, fun _ => rfl⟩
  | s :: l, t => by
    have ih := getF_frOf F l t
    constructor
    · intro h
      show getF ((s, F s) :: _) t = _
      rw [getF_cons]
      by_cases e : s = t
      · rw [if_pos e, e]
      · rw [if_neg e]
        refine ih.1 ?_
        rcases List.mem_cons.1 h with h | h
        · exact absurd h.symm e
        · exact h
    · intro h
      show getF ((s, F s) :: _) t = _
      rw [getF_cons, if_neg (fun e => h (by simp [e]))]
      exact ih.2 (fun h' => h (by simp [h']))
/-- One operation of the head, whenever it comes. -/
theorem head_step {E : Env} {ops : Array Oper} {nt : Nat} {df : List AV} {F : Nat → AV} {l : List Oper} {vs : List AV} {listed : Array Bool} {a : Act} (hΓ : ∀ c ∈ E.cons, c.Sound E.P)
    (hst : Steps E ops H F l vs) (hok : allOk ops l 0 l = true) (hd : dstOk l nt) {i : Nat} {o : Oper} (hi : l[i]? = some o) (hun : listed.getD i false = false)
    (hrd : ∀ e ∈ o.after, Region.binds .any e = true → listed.getD e.on false = true) (hcl : ∀ (j : Nat) oj, l[j]? = some oj → listed.getD j false = true → ∀ e ∈ oj.after, Region.binds .any e = true → listed.getD e.on false = true)
    (hsz : i < listed.size) (inv : HInv w0 Fz0 ι H df nt F l vs listed a w Fz) (Kc : Act → World → Prop) (Q : Exit → Act → World → Prop)
    (hK : ∀ a' w' Fz', HInv w0 Fz0 ι H df nt F l vs (listed.setIfInBounds i true) a' w' Fz' → Kc a' w') :
    if Region.wanted o (yielded ops a.tmps) then o.wp E.P a w Kc Q else Kc (a.put o.dst undef) w := by
  obtain ⟨v, hv, hstep⟩ := hst.at hi
  have hrow := (allOk_at hok hi).1
  rw [Nat.zero_add] at hrow
  have hpair : ∀ (j : Nat) oj, l[j]? = some oj → i ≠ j → (∀ d, o.dst = some d → oj.dst ≠ some d) ∧ ∀ d, oj.dst = some d → d ∈ o.looksAt ops → (j < i ∧ waitsD o j = true) ∨ (i < j ∧ waitsD oj i = true) := by
    intro j oj hj hij
    have := rowOk_at hrow hj
    rw [Nat.zero_add] at this
    exact pairOk_spec this hij
  have hdist : ∀ (j k : Nat) oj ok d, l[j]? = some oj → l[k]? = some ok → j ≠ k → oj.dst = some d → ok.dst ≠ some d := by
    intro j k oj ok d hj hk hjk hdj
    have h1 := (allOk_at hok hj).1
    rw [Nat.zero_add] at h1
    have h2 := rowOk_at h1 hk
    rw [Nat.zero_add] at h2
    exact (pairOk_spec h2 hjk).1 d hdj
  have takeAt : ∀ (k : Nat) (o' : Oper), (l.take i)[k]? = some o' → k < i ∧ l[k]? = some o' := by
    intro k o' h
    rw [List.getElem?_take] at h
    split at h
    · exact ⟨by assumption, h⟩
    · cases h
  -- what it looks at
  have look : ∀ t ∈ o.looksAt ops, RV ι Fz w (runF F (l.take i) (vs.take i) t) (a.tmps.getD t undef) := by
    intro t ht
    by_cases hw : ∃ (j : Nat) (oj : Oper), l[j]? = some oj ∧ oj.dst = some t
    · obtain ⟨j, oj, hj, hdj⟩ := hw
      rcases Nat.lt_trichotomy j i with hji | hji | hji
      · have hw := (hpair j oj hj (by omega)).2 t hdj ht
        have hwait : waitsD o j = true := by
          rcases hw with hw | hw
          · exact hw.2
          · omega
        obtain ⟨e, he, hb, hon⟩ := waitsD_spec hwait
        have hlj := hrd e he hb
        rw [hon] at hlj
        obtain ⟨u, hu, _⟩ := hst.at hj
        have e1 : runF F (l.take i) (vs.take i) t = u := runF_at (j := j) (o := oj) (by rw [List.getElem?_take, if_pos hji]; exact hj) hdj (by rw [List.getElem?_take, if_pos hji]; exact hu)
          (fun k o' hk ho' => hdist j k oj o' t hj (takeAt k o' ho').2 (Ne.symm hk) hdj)
        rw [e1]
        exact inv.val j oj t u hj hdj hu hlj
      · subst hji
        have e1 : runF F (l.take j) (vs.take j) t = F t := runF_not fun k o' ho' => by
          obtain ⟨h1, h2⟩ := takeAt k o' ho'
          exact hdist j k oj o' t hj h2 (by omega) hdj
        rw [e1]
        refine inv.old t fun k ok hk hdk => ?_
        by_cases e : j = k
        · rw [← e]; exact hun
        · exact absurd hdk (hdist j k oj ok t hj hk e hdj)
      · have hw := (hpair j oj hj (by omega)).2 t hdj ht
        have hwait : waitsD oj i = true := by
          rcases hw with hw | hw
          · omega
          · exact hw.2
        have e1 : runF F (l.take i) (vs.take i) t = F t := runF_not fun k o' ho' => by
          obtain ⟨h1, h2⟩ := takeAt k o' ho'
          exact hdist j k oj o' t hj h2 (by omega) hdj
        rw [e1]
        refine inv.old t fun k ok hk hdk => ?_
        by_cases e : j = k
        · subst e
          cases hl : listed.getD j false with
          | false => rfl
          | true =>
            have : ok = oj := Option.some.inj (hk.symm.trans hj)
            subst this
            obtain ⟨e, he, hb, hon⟩ := waitsD_spec hwait
            have := hcl j ok hj hl e he hb
            rw [hon, hun] at this; cases this
        · exact absurd hdk (hdist j k oj ok t hj hk e hdj)
    · have e1 : runF F (l.take i) (vs.take i) t = F t := runF_not fun k o' ho' hd' => hw ⟨k, o', (takeAt k o' ho').2, hd'⟩
      rw [e1]
      exact inv.old t fun k ok hk hdk => absurd ⟨k, ok, hk, hdk⟩ hw
  -- what stands behind it
  have after : ∀ (v' : Value) (w' : World) (Fz' : Nat → Prop), (∀ b, Fz b → w'.heap[b]? = w.heap[b]?) → (∀ b, Fz b → Fz' b) → Mem w0 Fz0 ι Fz' H w' → RV ι Fz' w' v v' →
      HInv w0 Fz0 ι H df nt F l vs (listed.setIfInBounds i true) (a.put o.dst v') w' Fz' := by
    intro v' w' Fz' hw hf m hr
    have mono : ∀ {x : AV} {y : Value}, RV ι Fz w x y → RV ι Fz' w' x y := fun h => RV_mono hw hf _ _ (fun _ _ => rfl) h
    refine ⟨by rw [size_put]; exact inv.tsize, by have := RD_mono hw hf _ _ (fun _ _ => rfl) inv.df; cases o.dst <;> exact this, m, fun j oj t u hj hdj hu hl => ?_, fun t ht => ?_⟩
    · by_cases e : i = j
      · subst e
        have e1 : oj = o := Option.some.inj (hj.symm.trans hi)
        subst e1
        have e2 : u = v := Option.some.inj (hu.symm.trans hv)
        subst e2
        rw [hdj, tmps_put_self (by rw [inv.tsize]; exact hd oj (List.mem_of_getElem? hj) t hdj)]
        exact hr
      · rw [getD_set_ne false e] at hl
        rw [tmps_put_ne (hdist j i oj o t hj hi (Ne.symm e) hdj)]
        exact mono (inv.val j oj t u hj hdj hu hl)
    · have hne : o.dst ≠ some t := fun hdo => by
        have := ht i o hi hdo
        simp [hsz] at this
      rw [tmps_put_ne hne]
      refine mono (inv.old t fun j oj hj hdj => ?_)
      have h1 := ht j oj hj hdj
      by_cases e : i = j
      · subst e; exact hun
      · rwa [getD_set_ne false e] at h1
  have hfr : ∀ t, RV ι Fz w (getF ((o.looksAt ops).map fun t => (t, runF F (l.take i) (vs.take i) t)) t) (a.tmps.getD t undef) := by
    intro t
    by_cases ht : t ∈ o.looksAt ops
    · rw [(getF_frOf _ _ t).1 ht]; exact look t ht
    · rw [(getF_frOf _ _ t).2 ht]; simp [RV]
  have run : opA E o.op (opndF (runF F (l.take i) (vs.take i))) H some (o.dst.getD 0) = some v → Region.wanted o (yielded ops a.tmps) = true →
      if Region.wanted o (yielded ops a.tmps) then o.wp E.P a w Kc Q else Kc (a.put o.dst undef) w := by
    intro h hwant
    rw [if_pos hwant]
    have hc : opA E o.op (opnd ((o.looksAt ops).map fun t => (t, runF F (l.take i) (vs.take i) t))) H some (o.dst.getD 0) = some v := by
      rw [← h, opnd_F]
      refine opA_congr E _ H _ _ fun x hx => ?_
      cases x with
      | tmp t =>
        refine (getF_frOf _ _ t).1 ?_
        unfold Oper.looksAt
        refine List.mem_append_left _ (List.mem_filterMap.2 ⟨.tmp t, by simpa using hx, rfl⟩)
      | _ => rfl
    refine (opA_of hΓ inv.mem (opnd_of hfr) hc).wp ?_
    rintro v' w' ⟨ι', Fz', h1, h2, h3, h4, h5⟩
    have e : ι' = ι := funext fun k => h3 k (.inl rfl)
    subst e
    exact hK _ _ Fz' (after v' w' Fz' h1 h2 h4 h5)
  have skip : v = .tuple [] → Region.wanted o (yielded ops a.tmps) = false →
      if Region.wanted o (yielded ops a.tmps) then o.wp E.P a w Kc Q else Kc (a.put o.dst undef) w := by
    intro h hwant
    rw [if_neg (by rw [hwant]; simp)]
    exact hK _ _ Fz (after undef w Fz (fun _ _ => rfl) (fun _ h => h) inv.mem (by rw [h]; simp only [RV]; exact ⟨[], rfl, by simp [RVs]⟩))
  unfold stepV at hstep
  split at hstep
  · rename_i hgd
    exact run hstep (by simp [Region.wanted, hgd])
  · rename_i j want hgd
    obtain ⟨d, hdst, hstep⟩ := hstep
    have hval := look d (by
      unfold Oper.looksAt
      refine List.mem_append_right _ ?_
      rw [hgd]
      simp [hdst])
    rcases hstep with ⟨p, hp, hstep⟩ | ⟨hp, hstep⟩
    · rw [hp, RV_bool] at hval
      have hy : yielded ops a.tmps j = some p := by
        unfold yielded
        rw [hdst]
        have : a.tmps[d]? = some (.bool p) := by
          rw [Array.getD_eq_getD_getElem?] at hval
          cases hx : a.tmps[d]? with
          | none => rw [hx] at hval; simp [undef] at hval
          | some x => rw [hx] at hval; simp at hval; rw [hval]
        simp [this]
      have hwnt : Region.wanted o (yielded ops a.tmps) = (some p == some want) := by simp only [Region.wanted, hgd, hy]
      rcases hstep with ⟨rfl, hstep⟩ | ⟨hne, hstep⟩
      · exact run hstep (by rw [hwnt]; simp)
      · exact skip hstep (by rw [hwnt]; simp [hne])
    · rw [hp] at hval
      simp only [RV, RVs] at hval
      obtain ⟨us, hval, rfl⟩ := hval
      have hy : yielded ops a.tmps j = none := by
        unfold yielded
        rw [hdst]
        rw [Array.getD_eq_getD_getElem?] at hval
        cases hx : a.tmps[d]? with
        | none => simp [hx]
        | some x => rw [hx] at hval; simp at hval; simp [hx, hval]
      exact skip hstep (by simp only [Region.wanted, hgd, hy]; rfl)
theorem ready_some {ops : Array Oper} {n : Nat} {listed : Array Bool} (hn : n ≤ ops.size) (hsz : listed.size = ops.size) (hok : allOk ops (ops.toList.take n) 0 (ops.toList.take n) = true) :
    ∀ (i : Nat), i < n → listed.getD i false = false → Region.ready .any ops listed ≠ [] := by
  intro i
  induction i using Nat.strongRecOn with
  | _ i ih =>
    intro hi hun he
    have ho : (ops.toList.take n)[i]? = some ops[i] := by rw [List.getElem?_take, if_pos hi]; simp [Nat.lt_of_lt_of_le hi hn]
    have hb := (allOk_at hok ho).2
    rw [Nat.zero_add] at hb
    by_cases hall : ∀ e ∈ ops[i].after, Region.binds .any e = true → listed.getD e.on false = true
    · have : i ∈ Region.ready .any ops listed := mem_ready.2 ⟨getD_in (by omega) hun, ops[i], by simp [Nat.lt_of_lt_of_le hi hn], hall⟩
      rw [he] at this; simp at this
    · have : ∃ e ∈ ops[i].after, Region.binds .any e = true ∧ listed.getD e.on false = false := by
        apply Classical.byContradiction
        intro hno
        refine hall fun e he hbd => ?_
        cases hl : listed.getD e.on false with
        | true => rfl
        | false => exact absurd ⟨e, he, hbd, hl⟩ hno
      obtain ⟨e, he', hbd, hl⟩ := this
      exact ih e.on (hb e he' hbd) (Nat.lt_trans (hb e he' hbd) hi) hl he
theorem head_any {E : Env} {ops : Array Oper} {nt n g : Nat} {df : List AV} {F : Nat → AV} {vs : List AV} {Q : Exit → Act → World → Prop} (hΓ : ∀ c ∈ E.cons, c.Sound E.P)
    (hst : Steps E ops H F (ops.toList.take n) vs) (hok : allOk ops (ops.toList.take n) 0 (ops.toList.take n) = true) (hd : dstOk (ops.toList.take n) nt)
    (hn : n + g = ops.size) (hsk : n < ops.size → Region.sinkB .any ops n = true ∧ Region.chainB .any ops n = true)
    (htail : ∀ (a : Act) (w : World) (Fz : Nat → Prop) (listed : Array Bool), unl n listed = 0 → HeadInv .any ops n listed → HInv w0 Fz0 ι H df nt F (ops.toList.take n) vs listed a w Fz → wpAny E.P .any ops Q g listed a w) :
    ∀ (m : Nat) {listed : Array Bool} {a : Act} {w : World} {Fz : Nat → Prop}, unl n listed = m → HeadInv .any ops n listed → HInv w0 Fz0 ι H df nt F (ops.toList.take n) vs listed a w Fz → wpAny E.P .any ops Q (m + g) listed a w := by
  intro m
  induction m with
  | zero => intro listed a w Fz hu hi inv; rw [Nat.zero_add]; exact htail a w Fz listed hu hi inv
  | succ m ih =>
    intro listed a w Fz hu hinv inv
    rw [show m + 1 + g = (m + g) + 1 by omega]
    obtain ⟨k, hk, hkun⟩ := unl_pos (n := n) (listed := listed) (by omega)
    have hnle : n ≤ ops.size := by omega
    refine ⟨fun h => absurd h (ready_some hnle hinv.size hok k hk hkun), fun i hi => ?_⟩
    obtain ⟨hun, o, ho, hrd⟩ := mem_ready.1 hi
    have hin : i < ops.size := (Array.getElem?_eq_some_iff.1 ho).1
    have hlt : i < n := by
      rcases Nat.lt_or_ge i n with h | h
      · exact h
      · have hs := hsk (by omega)
        exact absurd hi (tail_waits hs.1 hs.2 (by omega) hinv (n - k) k rfl hk (getD_in (by rw [hinv.size]; omega) hkun) i h)
    have hl : (ops.toList.take n)[i]? = some o := by rw [List.getElem?_take, if_pos hlt]; simpa using ho
    have hun' := getD_both hun
    have hst' := head_step (listed := listed) (i := i) (o := o) hΓ hst hok hd hl hun' hrd (fun j oj hj hlj => hinv.closed j oj (by
      rw [List.getElem?_take] at hj
      split at hj
      · simpa using hj
      · cases hj) hlj) (by rw [hinv.size]; exact hin) inv (wpAny E.P .any ops Q (m + g) (listed.setIfInBounds i true)) Q (fun a' w' Fz' inv' => by
        refine ih ?_ (hinv.set hi hlt) inv'
        have := unl_set (n := n) hlt (by rw [hinv.size]; exact hin) hun'
        omega)
    unfold wpOp
    rw [ho]
    simp only
    split
    · rename_i hw
      rw [if_pos hw] at hst'
      exact .inl hst'
    · rename_i hw
      rw [if_neg hw] at hst'
      exact hst'
theorem headN_le : ∀ (l : List Oper), headN l ≤ l.length
  | [] => Nat.le_refl _
  | o :: l => by
    unfold headN
    cases Op.isA o.op with
    | true => simp only [cond_true, List.length_cons]; have := headN_le l; omega
    | false => simp
theorem Behind.drew {st : St} {a : Act} (b : Behind w0 Fz0 ι Fz st a w) : Behind w0 Fz0 ι Fz st a { w with drawn := w.drawn + 1 } := by
  have e : ∀ b : Nat, Fz b → ({ w with drawn := w.drawn + 1 } : World).heap[b]? = w.heap[b]? := fun _ _ => rfl
  have m : Mem w0 Fz0 ι Fz st.H { w with drawn := w.drawn + 1 } :=
    Mem.grow (w' := { w with drawn := w.drawn + 1 }) b.2.2 ⟨rfl, rfl, rfl, Nat.le_refl _, fun _ _ => rfl⟩ (fun _ h => h) (fun _ h => .inl h) b.2.2.fz
  exact b.mono (Fz' := Fz) (w' := { w with drawn := w.drawn + 1 }) e (fun _ h => h) m
theorem region_draw_of {R : Type} {E : Env} {ops : Array Oper} {nt id : Nat} {st : St} {a : Act} {K : St → Option R} {r : R} {Q : Exit → Act → World → Prop} (hm : E.P.follows .mixedOrders = true) (hΓ : ∀ c ∈ E.cons, c.Sound E.P)
    (hdst : dstOk ops.toList nt) (hnt : a.tmps.size = nt) (b : Behind w0 Fz0 ι Fz st a w) (hok : drawOk ops (headN ops.toList) = true)
    (h : opsA E ops (ops.toList.take (headN ops.toList)) st (fun st' => opsG E ops (ops.toList.drop (headN ops.toList)) st' K) = some r)
    (hQ : ∀ st' a' w' ι' Fz', K st' = some r → a'.tmps.size = nt → Behind w0 Fz0 ι' Fz' st' a' w' → Q .normal a' w') : (Code.region id ops true).wp E.P Q a w := by
  have hle := headN_le ops.toList
  generalize headN ops.toList = n at *
  have hle : n ≤ ops.size := by simpa using hle
  unfold drawOk at hok
  simp only [Bool.and_eq_true] at hok
  obtain ⟨⟨⟨h1, _⟩, h3⟩, h4⟩ := hok
  obtain ⟨vs, st1, hst, hk, e1, e2, e3⟩ := opsA_steps _ h
  have hd1 : dstOk (ops.toList.take n) nt := fun o ho => hdst o (List.mem_of_mem_take ho)
  have hd2 : dstOk (ops.toList.drop n) nt := fun o ho => hdst o (List.mem_of_mem_drop ho)
  have b' := b.drew
  have hsk : n < ops.size → Region.sinkB .any ops n = true ∧ Region.chainB .any ops n = true := by
    intro hlt
    have hb : Nat.beq n ops.size = false := by cases hx : Nat.beq n ops.size with | false => rfl | true => have := Nat.eq_of_beq_eq_true hx; omega
    rw [hb, cond_false] at h3
    simpa using h3
  refine wp_region_any hm ?_
  have key := head_any (w0 := w0) (Fz0 := Fz0) (ι := ι) (H := st.H) (n := n) (g := ops.size - n) (nt := nt) (df := st.df) (F := getF st.fr) (vs := vs) (Q := Q) hΓ hst h1 hd1 (by omega) hsk ?_ (unl n (Array.replicate ops.size false))
    (listed := Array.replicate ops.size false) (a := a) (w := { w with drawn := w.drawn + 1 }) (Fz := Fz) rfl
    ⟨by simp, fun j oj _ hl => (by rw [getD_replicate_false] at hl; cases hl), fun t _ ht => getD_in (by simpa using ht) (getD_replicate_false _ _)⟩
    ⟨hnt, b'.2.1, b'.2.2, fun j o t v _ _ _ hl => (by rw [getD_replicate_false] at hl; cases hl), fun t _ => b'.1 t⟩
  · have : unl n (Array.replicate ops.size false) = n := by
      unfold unl
      rw [List.countP_eq_length.2]
      · simp
      · intro i hi; rw [getD_replicate_false]; rfl
    rw [this, show n + (ops.size - n) = ops.size by omega] at key
    exact key
  · intro a' w' Fz' listed hu hinv inv
    have hcan : listed = (List.replicate n true ++ List.replicate (ops.size - n) false).toArray := by
      apply Array.ext
      · simp only [List.size_toArray, List.length_append, List.length_replicate, hinv.size]; omega
      · intro i hi1 hi2
        simp only [List.getElem_toArray]
        rcases Nat.lt_or_ge i n with hlt | hge
        · have h5 := unl_zero hu i hlt
          rw [List.getElem_append_left (by simpa using hlt), List.getElem_replicate]
          simpa [hi1] using h5
        · have h5 := hinv.tail i hge (by rw [← hinv.size]; exact hi1)
          rw [List.getElem_append_right (by simpa using hge), List.getElem_replicate]
          simpa [hi1] using h5
    have hseq : Region.seqB .any ops (ops.toList.drop n).length n listed = true := by rw [hcan]; simpa using h4
    have hb1 : Behind w0 Fz0 ι Fz' st1 a' w' := by
      refine ⟨fun t => ?_, by rw [e2]; exact inv.df, by rw [e1]; exact inv.mem⟩
      rw [e3]
      have hdist : ∀ (j k : Nat) oj ok d, (ops.toList.take n)[j]? = some oj → (ops.toList.take n)[k]? = some ok → j ≠ k → oj.dst = some d → ok.dst ≠ some d := by
        intro j k oj ok d hj hk hjk hdj
        have h1' := (allOk_at h1 hj).1
        rw [Nat.zero_add] at h1'
        have h2 := rowOk_at h1' hk
        rw [Nat.zero_add] at h2
        exact (pairOk_spec h2 hjk).1 d hdj
      by_cases hw : ∃ (j : Nat) (oj : Oper), (ops.toList.take n)[j]? = some oj ∧ oj.dst = some t
      · obtain ⟨j, oj, hj, hdj⟩ := hw
        obtain ⟨u, hu', _⟩ := hst.at hj
        rw [runF_at hj hdj hu' (fun k o' hk ho' => hdist j k oj o' t hj ho' (Ne.symm hk) hdj)]
        have hjn : j < n := by
          have := (List.getElem?_eq_some_iff.1 hj).1
          simp at this; omega
        exact inv.val j oj t u hj hdj hu' (unl_zero hu j hjn)
      · rw [runF_not fun k o' ho' hd' => hw ⟨k, o', ho', hd'⟩]
        exact inv.old t fun k ok hk hdk => absurd ⟨k, ok, hk, hdk⟩ hw
    have := wpAny_of_seq (md := .any) (Q' := Q) (ops.toList.drop n) n listed a' w' (fun j => by simp [List.getElem?_drop]) hseq (opsG_of hΓ _ hd2 inv.tsize hb1 hk hQ)
    have e : (ops.toList.drop n).length = ops.size - n := by simp
    rwa [e] at this
end
end Go.Av
