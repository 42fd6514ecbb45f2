/- A region whose order is drawn: whatever order comes, the same is told; with memory. -/
import Derived.Test.YtnoamanjajighaaAv26
set_option linter.unusedVariables false
set_option linter.unusedSimpArgs false
namespace Go.Av
open Go Go.RowKit

section
variable {P : Program} {w0 : Root} {Fz0 : Nat → Prop} {ι : Nat → HI} {Fz : Nat → Prop} {H : List (Nat × AB)} {w : World}
/-! ### the values along the text's order -/
def updO (F : Nat → AV) (d : Option Nat) (v : AV) : Nat → AV := match d with | none => F | some d => fun t => if d = t then v else F t
def opndF (gl : List Gl) (F : Nat → AV) : Operand → AV
  | .tmp t => F t
  | .const v => avOf v
  | .global g => getG gl g
  | .func f => .func f []
theorem opnd_F (gl : List Gl) (fr : List (Nat × AV)) : opnd gl fr = opndF gl (getF fr) := by funext x; cases x <;> rfl
/-- One operation along the text: what it tells and leaves. -/
def stepM (E : Env) (ops : Array Oper) (df : List AV) (F : Nat → AV) (H : List (Nat × AB)) (o : Oper) (t : Tr) : Prop :=
  match o.guard with
  | none => opM E o.op (opndF E.gl F) (keepHp H t.fp) df (o.dst.getD 0) (fun v ks nf => some (v, ks, nf)) = some (t.v, t.ks, t.nf)
  | some (j, want) => ∃ d, (ops[j]?).bind (·.dst) = some d ∧
      ((∃ p, F d = .pv .bool p ∧ ((p = want ∧ opM E o.op (opndF E.gl F) (keepHp H t.fp) df (o.dst.getD 0) (fun v ks nf => some (v, ks, nf)) = some (t.v, t.ks, t.nf)) ∨ (p ≠ want ∧ t = ⟨.tuple [], [], [], []⟩))) ∨
        (F d = .tuple [] ∧ t = ⟨.tuple [], [], [], []⟩))
def StepsM (E : Env) (ops : Array Oper) (df : List AV) : (Nat → AV) → List (Nat × AB) → List Oper → List Tr → Prop
  | _, _, [], [] => True
  | F, H, o :: l, t :: ts => stepM E ops df F H o t ∧ StepsM E ops df (updO F o.dst t.v) (t.ks ++ H) l ts
  | _, _, _, _ => False
def hrun : List Tr → List (Nat × AB) → List (Nat × AB)
  | [], H => H
  | t :: ts, H => hrun ts (t.ks ++ H)
def runF : (Nat → AV) → List Oper → List AV → Nat → AV
  | F, o :: l, v :: vs => runF (updO F o.dst v) l vs
  | F, _, _ => F
theorem getF_put (st : St) (d : Option Nat) (v : AV) : getF (putF st d v).fr = updO (getF st.fr) d v := by
  cases d with
  | none => rfl
  | some d => funext t; show getF ((d, v) :: st.fr) t = _; rw [getF_cons]; rfl
theorem getF_known {fr : List (Nat × AV)} {d : Nat} {v : AV} (h : getF fr d = v) : getF ((d, v) :: fr) = getF fr := by
  funext t; rw [getF_cons]; split
  · rename_i e; rw [← e, h]
  · rfl
theorem putF_H (st : St) (d : Option Nat) (v : AV) : (putF st d v).H = st.H ∧ (putF st d v).df = st.df := by cases d <;> exact ⟨rfl, rfl⟩
theorem opMG_step {R : Type} {E : Env} {ops : Array Oper} {o : Oper} {st : St} {K : Tr → St → Option R} {r : R} (h : opMG E ops o st K = some r) :
    ∃ t st', stepM E ops st.df (getF st.fr) st.H o t ∧ K t st' = some r ∧ st'.H = t.ks ++ st.H ∧ st'.df = st.df ∧ getF st'.fr = updO (getF st.fr) o.dst t.v := by
  unfold opMG at h
  have run : ∀ (fr : List (Nat × AV)), getF fr = getF st.fr → ((fun fp => opM E o.op (opnd E.gl fr) (keepHp st.H fp) st.df (o.dst.getD 0) fun v ks nf => K ⟨v, ks, nf, fp⟩ (putF ⟨fr, ks ++ st.H, st.df⟩ o.dst v)) (fpOf st.H (opnd E.gl fr) o.op)) = some r →
      ∃ t : Tr, opM E o.op (opndF E.gl (getF st.fr)) (keepHp st.H t.fp) st.df (o.dst.getD 0) (fun v ks nf => some (v, ks, nf)) = some (t.v, t.ks, t.nf) ∧
        ∃ st', K t st' = some r ∧ st'.H = t.ks ++ st.H ∧ st'.df = st.df ∧ getF st'.fr = updO (getF st.fr) o.dst t.v := by
    intro fr hfr h
    simp only at h
    obtain ⟨v, ks, nf, h1, h2⟩ := opM_some h
    rw [opnd_F, hfr] at h1
    refine ⟨⟨v, ks, nf, fpOf st.H (opnd E.gl fr) o.op⟩, ?_, _, h2, (putF_H _ _ _).1, (putF_H _ _ _).2, by rw [getF_put, hfr]⟩
    show opM E o.op (opndF E.gl (getF st.fr)) (keepHp st.H (fpOf st.H (opnd E.gl fr) o.op)) st.df (o.dst.getD 0) _ = _
    rw [opnd_F, hfr]; exact h1
  split at h
  · rename_i hgd
    obtain ⟨t, h1, st', h2⟩ := run st.fr rfl h
    exact ⟨t, st', by unfold stepM; rw [hgd]; exact h1, h2⟩
  · rename_i j want hgd
    split at h
    · rename_i d hdst
      have skip : ∀ (fr : List (Nat × AV)), getF fr = getF st.fr → K ⟨.tuple [], [], [], []⟩ (putF ⟨fr, st.H, st.df⟩ o.dst (.tuple [])) = some r →
          ∃ st', K ⟨.tuple [], [], [], []⟩ st' = some r ∧ st'.H = st.H ∧ st'.df = st.df ∧ getF st'.fr = updO (getF st.fr) o.dst (.tuple []) :=
        fun fr hfr h => ⟨_, h, (putF_H _ _ _).1, (putF_H _ _ _).2, by rw [getF_put, hfr]⟩
      split at h
      · rename_i p hp
        cases p with
        | true =>
          simp only [cond_true] at h
          cases want with
          | true =>
            simp only [cond_true] at h
            obtain ⟨t, h1, st', h2⟩ := run _ (getF_known hp) h
            exact ⟨t, st', by unfold stepM; rw [hgd]; exact ⟨d, hdst, .inl ⟨true, hp, .inl ⟨rfl, h1⟩⟩⟩, h2⟩
          | false =>
            simp only [cond_false] at h
            obtain ⟨st', h2⟩ := skip _ (getF_known hp) h
            exact ⟨_, st', by unfold stepM; rw [hgd]; exact ⟨d, hdst, .inl ⟨true, hp, .inr ⟨by simp, rfl⟩⟩⟩, h2⟩
        | false =>
          simp only [cond_false] at h
          cases want with
          | true =>
            simp only [cond_true] at h
            obtain ⟨st', h2⟩ := skip _ (getF_known hp) h
            exact ⟨_, st', by unfold stepM; rw [hgd]; exact ⟨d, hdst, .inl ⟨false, hp, .inr ⟨by simp, rfl⟩⟩⟩, h2⟩
          | false =>
            simp only [cond_false] at h
            obtain ⟨t, h1, st', h2⟩ := run _ (getF_known hp) h
            exact ⟨t, st', by unfold stepM; rw [hgd]; exact ⟨d, hdst, .inl ⟨false, hp, .inl ⟨rfl, h1⟩⟩⟩, h2⟩
      · rename_i hp
        obtain ⟨st', h2⟩ := skip st.fr rfl h
        exact ⟨_, st', by unfold stepM; rw [hgd]; exact ⟨d, hdst, .inr ⟨hp, rfl⟩⟩, h2⟩
      · cases h
    · cases h
theorem opsM_steps {R : Type} {E : Env} {ops : Array Oper} : ∀ (l : List Oper) {st : St} {K : List Tr → St → Option R} {r : R}, opsM E ops l st K = some r →
    ∃ ts st', StepsM E ops st.df (getF st.fr) st.H l ts ∧ K ts st' = some r ∧ st'.H = hrun ts st.H ∧ st'.df = st.df ∧ getF st'.fr = runF (getF st.fr) l (ts.map Tr.v)
  | [], st, K, r, h => ⟨[], st, trivial, h, rfl, rfl, rfl⟩
  | o :: l, st, K, r, h => by
    simp only [opsM] at h
    obtain ⟨t, st1, h1, h2, h3, h4, h5⟩ := opMG_step h
    obtain ⟨ts, st2, g1, g2, g3, g4, g5⟩ := opsM_steps l h2
    rw [h5, h3, h4] at g1
    exact ⟨t :: ts, st2, ⟨h1, g1⟩, g2, by rw [g3, h3]; rfl, g4.trans h4, by rw [g5, h5]; rfl⟩
theorem StepsM.len {E : Env} {ops : Array Oper} {df : List AV} : ∀ {F : Nat → AV} {H : List (Nat × AB)} {l : List Oper} {ts : List Tr}, StepsM E ops df F H l ts → ts.length = l.length
  | _, _, [], [], _ => rfl
  | _, _, o :: l, t :: ts, h => by simp [StepsM.len h.2]
  | _, _, [], _ :: _, h => h.elim
  | _, _, _ :: _, [], h => h.elim
theorem StepsM.at {E : Env} {ops : Array Oper} {df : List AV} : ∀ {F : Nat → AV} {H : List (Nat × AB)} {l : List Oper} {ts : List Tr} {i : Nat} {o : Oper}, StepsM E ops df F H l ts → l[i]? = some o →
    ∃ t, ts[i]? = some t ∧ stepM E ops df (runF F (l.take i) ((ts.map Tr.v).take i)) (hrun (ts.take i) H) o t
  | _, _, [], [], _, _, _, h => by simp at h
  | F, H, o' :: l, t :: ts, 0, o, h, ho => by
    simp only [List.getElem?_cons_zero, Option.some.injEq] at ho
    subst ho
    exact ⟨t, rfl, h.1⟩
  | F, H, o' :: l, t :: ts, i + 1, o, h, ho => by
    obtain ⟨u, h1, h2⟩ := StepsM.at h.2 (by simpa using ho : l[i]? = some o)
    exact ⟨u, by simpa using h1, h2⟩
  | _, _, [], _ :: _, _, _, h, _ => h.elim
  | _, _, _ :: _, [], _, _, h, _ => h.elim
theorem runF_not : ∀ {F : Nat → AV} {l : List Oper} {vs : List AV} {t : Nat}, (∀ (j : Nat) o, l[j]? = some o → o.dst ≠ some t) → runF F l vs t = F t
  | _, [], _, _, _ => rfl
  | _, _ :: _, [], _, _ => rfl
  | F, o :: l, v :: vs, t, h => by
    show runF (updO F o.dst v) l vs t = F t
    rw [runF_not fun j o' ho => h (j + 1) o' (by simpa using ho)]
    have := h 0 o rfl
    cases hd : o.dst with
    | none => rfl
    | some d =>
      simp only [updO]
      rw [if_neg (fun e => this (by rw [hd, e]))]
theorem runF_at : ∀ {F : Nat → AV} {l : List Oper} {vs : List AV} {t j : Nat} {o : Oper} {v : AV}, l[j]? = some o → o.dst = some t → vs[j]? = some v → (∀ (k : Nat) o', k ≠ j → l[k]? = some o' → o'.dst ≠ some t) → runF F l vs t = v
  | _, [], _, _, _, _, _, h, _, _, _ => by simp at h
  | _, _ :: _, [], _, _, _, _, _, _, h, _ => by simp at h
  | F, o :: l, v :: vs, t, 0, o', v', h1, h2, h3, h4 => by
    simp only [List.getElem?_cons_zero, Option.some.injEq] at h1 h3
    subst h1 h3
    show runF (updO F o.dst v) l vs t = v
    rw [runF_not fun j o' ho => h4 (j + 1) o' (by omega) (by simpa using ho), h2]
    simp [updO]
  | F, o :: l, v :: vs, t, j + 1, o', v', h1, h2, h3, h4 =>
    runF_at (F := updO F o.dst v) (by simpa using h1) h2 (by simpa using h3) fun k o'' hk ho => h4 (k + 1) o'' (by omega) (by simpa using ho)

/-! ### the memory behind those that have come -/
def HLof (L : Nat → Bool) : List Tr → Nat → List (Nat × AB) → List (Nat × AB)
  | [], _, H => H
  | t :: r, i, H => HLof L r (i + 1) (bif L i then t.ks ++ H else H)
theorem HL_congr {L L' : Nat → Bool} : ∀ (ts : List Tr) (i : Nat) (H H' : List (Nat × AB)) (h : Nat), getH H h = getH H' h → (∀ (j : Nat) t, ts[j]? = some t → h ∈ keysT t → L (i + j) = L' (i + j)) →
    getH (HLof L ts i H) h = getH (HLof L' ts i H') h
  | [], _, _, _, _, e, _ => e
  | t :: r, i, H, H', h, e, hk => by
    simp only [HLof]
    refine HL_congr r (i + 1) _ _ h ?_ fun j t' hj hh => by
      have := hk (j + 1) t' (by simpa using hj) hh
      rwa [show i + (j + 1) = i + 1 + j by omega] at this
    by_cases hh : h ∈ keysT t
    · have := hk 0 t rfl hh
      rw [Nat.add_zero] at this
      rw [this]
      cases L' i
      · simpa using e
      · simp only [cond_true]
        rw [getH_ks _ _ _ hh, getH_ks _ _ _ hh]
    · have : ∀ (c : Bool) (X : List (Nat × AB)), getH (bif c then t.ks ++ X else X) h = getH X h := by
        intro c X
        cases c
        · rfl
        · exact getH_notks _ _ _ hh
      rw [this, this, e]
theorem HL_none {L : Nat → Bool} : ∀ (ts : List Tr) (i : Nat) (H : List (Nat × AB)), (∀ j, i ≤ j → L j = false) → HLof L ts i H = H
  | [], _, _, _ => rfl
  | t :: r, i, H, h => by simp only [HLof]; rw [h i (Nat.le_refl _)]; exact HL_none r (i + 1) H fun j hj => h j (by omega)
theorem HL_run : ∀ (ts : List Tr) (i k : Nat) (H : List (Nat × AB)), HLof (fun j => decide (j < i + k)) ts i H = hrun (ts.take k) H
  | [], _, k, _ => by simp [HLof, hrun]
  | t :: r, i, 0, H => by
    rw [HL_none _ _ _ (fun j hj => by simp; omega)]
    simp [hrun]
  | t :: r, i, k + 1, H => by
    simp only [HLof, List.take_succ_cons, hrun]
    have e1 : decide (i < i + (k + 1)) = true := by simp
    rw [e1, cond_true]
    have := HL_run r (i + 1) k (t.ks ++ H)
    rw [← this]
    congr 1
    funext j
    congr 1
    simp only [eq_iff_iff]; omega
theorem hrun_snoc : ∀ (ts : List Tr) (t : Tr) (H : List (Nat × AB)), hrun (ts ++ [t]) H = t.ks ++ hrun ts H
  | [], _, _ => rfl
  | u :: r, t, H => by simp only [List.cons_append, hrun]; exact hrun_snoc r t (u.ks ++ H)
theorem getH_mem : ∀ (H : List (Nat × AB)) (h : Nat), getH H h = .gone ∨ (h, getH H h) ∈ H
  | [], h => .inl rfl
  | (n, b) :: r, h => by
    rw [getH_cons]
    by_cases e : n = h
    · subst e; rw [if_pos rfl]; right; simp
    · rw [if_neg e]
      rcases getH_mem r h with h' | h'
      · exact .inl h'
      · exact .inr (List.mem_cons_of_mem _ h')
theorem HL_mem {L : Nat → Bool} : ∀ (ts : List Tr) (i : Nat) (H : List (Nat × AB)) (e : Nat × AB), e ∈ HLof L ts i H → e ∈ H ∨ ∃ (j : Nat) (t : Tr), ts[j]? = some t ∧ L (i + j) = true ∧ e ∈ t.ks
  | [], _, _, _, h => .inl h
  | t :: r, i, H, e, h => by
    simp only [HLof] at h
    rcases HL_mem r (i + 1) _ e h with h | ⟨j, u, h1, h2, h3⟩
    · cases hL : L i with
      | false => rw [hL] at h; exact .inl h
      | true =>
        rw [hL, cond_true] at h
        rcases List.mem_append.1 h with h | h
        · exact .inr ⟨0, t, rfl, by simpa using hL, h⟩
        · exact .inl h
    · exact .inr ⟨j + 1, u, by simpa using h1, by rwa [show i + (j + 1) = i + 1 + j by omega], h3⟩

/-! ### the check -/
theorem dstIs_iff {o : Oper} {t : Nat} : dstIs o t = true ↔ o.dst = some t := by
  unfold dstIs
  cases o.dst with
  | none => simp
  | some d => exact ⟨fun h => by rw [Nat.eq_of_beq_eq_true h], fun h => by simp at h; rw [h]; exact Nat.beq_refl t⟩
theorem waitsOn_none {m i : Nat} : isAnc m i = true ↔ m.testBit i = true := Iff.rfl
theorem maskOf_spec (acc : List Nat) : ∀ (es : List Edge) (i : Nat), (maskOf acc es).testBit i = true → ∃ e ∈ es, Region.binds .any e = true ∧ (e.on = i ∨ (acc.getD e.on 0).testBit i = true)
  | [], i, h => by simp [maskOf] at h
  | e :: r, i, h => by
    simp only [maskOf] at h
    cases hb : Region.binds .any e with
    | false =>
      rw [hb, cond_false] at h
      obtain ⟨e', h1, h2⟩ := maskOf_spec acc r i h
      exact ⟨e', List.mem_cons_of_mem _ h1, h2⟩
    | true =>
      rw [hb, cond_true] at h
      have h : (((2 ^ e.on ||| acc.getD e.on 0) ||| maskOf acc r) : Nat).testBit i = true := h
      rw [Nat.testBit_or, Nat.testBit_or, Bool.or_eq_true, Bool.or_eq_true] at h
      rcases h with (h | h) | h
      · rw [Nat.testBit_two_pow] at h
        exact ⟨e, by simp, hb, .inl (by simpa using h)⟩
      · exact ⟨e, by simp, hb, .inr h⟩
      · obtain ⟨e', h1, h2⟩ := maskOf_spec acc r i h
        exact ⟨e', List.mem_cons_of_mem _ h1, h2⟩
theorem ancs_prefix : ∀ (l : List Oper) (acc : List Nat) (j : Nat), j < acc.length → (ancs l acc)[j]? = acc[j]?
  | [], _, _, _ => rfl
  | o :: r, acc, j, h => by
    simp only [ancs]
    rw [ancs_prefix r _ j (by simp; omega), List.getElem?_append_left h]
theorem ancs_at : ∀ (l : List Oper) (acc : List Nat) (j : Nat) (o : Oper), l[j]? = some o → ∃ pre : List Nat, pre.length = acc.length + j ∧ (∀ k, k < pre.length → (ancs l acc)[k]? = pre[k]?) ∧ (ancs l acc)[acc.length + j]? = some (maskOf pre o.after.toList)
  | [], _, _, _, h => by simp at h
  | o' :: r, acc, 0, o, h => by
    simp only [List.getElem?_cons_zero, Option.some.injEq] at h
    subst h
    refine ⟨acc, by simp, fun k hk => ?_, ?_⟩
    · exact ancs_prefix _ _ _ hk
    · simp only [ancs, Nat.add_zero]
      rw [ancs_prefix r _ _ (by simp)]
      simp
  | o' :: r, acc, j + 1, o, h => by
    obtain ⟨pre, h1, h2, h3⟩ := ancs_at r (acc ++ [maskOf acc o'.after.toList]) j o (by simpa using h)
    simp only [List.length_append, List.length_singleton] at h1 h3
    exact ⟨pre, by omega, fun k hk => h2 k hk, by simp only [ancs]; rw [← h3]; congr 1; omega⟩
/-- Who waits for another through others has come behind it. -/
theorem anc_closed {hd : List Oper} {L : Nat → Bool} (hcl : ∀ (j : Nat) oj, hd[j]? = some oj → L j = true → ∀ e ∈ oj.after, Region.binds .any e = true → L e.on = true)
    (hback : ∀ (j : Nat) oj, hd[j]? = some oj → ∀ e ∈ oj.after, Region.binds .any e = true → e.on < j) :
    ∀ (j : Nat) oj i mj, hd[j]? = some oj → (∀ e ∈ oj.after, Region.binds .any e = true → L e.on = true) → (ancs hd [])[j]? = some mj → isAnc mj i = true → L i = true := by
  intro j
  induction j using Nat.strongRecOn with
  | _ j ih =>
    intro oj i mj hj hrd hm ha
    obtain ⟨pre, h1, h2, h3⟩ := ancs_at hd [] j oj hj
    simp only [List.length_nil, Nat.zero_add] at h1 h3
    rw [h3] at hm
    simp only [Option.some.injEq] at hm
    subst hm
    obtain ⟨e, he, hb, h4⟩ := maskOf_spec pre _ i ha
    have he' : e ∈ oj.after := by simpa using he
    have hL := hrd e he' hb
    rcases h4 with rfl | h4
    · exact hL
    · have hlt := hback j oj hj e he' hb
      have hlen : j < hd.length := (List.getElem?_eq_some_iff.1 hj).1
      have hoe : hd[e.on]? = some hd[e.on] := List.getElem?_eq_getElem (by omega)
      rw [List.getD_eq_getElem?_getD, ← h2 e.on (by omega)] at h4
      cases hme : (ancs hd [])[e.on]? with
      | none => rw [hme] at h4; simp at h4
      | some me =>
        rw [hme] at h4
        exact ih e.on hlt _ i me hoe (hcl e.on _ hoe hL) hme h4
theorem colM_at {ops : Array Oper} {oj : Oper} {tj : Tr} {mj : Nat} : ∀ {os : List Oper} {ts : List Tr} {i k : Nat} {oi : Oper} {ti : Tr}, colM ops oj tj mj i os ts = true → os[k]? = some oi → ts[k]? = some ti → pairM ops oi oj ti tj (i + k) mj = true
  | [], _, _, _, _, _, _, h, _ => by simp at h
  | _ :: _, [], _, _, _, _, _, _, h => by simp at h
  | o :: os, t :: ts, i, 0, oi, ti, h, ho, ht => by
    simp only [List.getElem?_cons_zero, Option.some.injEq] at ho ht
    subst ho ht
    simp only [colM, Bool.and_eq_true] at h
    exact h.1
  | o :: os, t :: ts, i, k + 1, oi, ti, h, ho, ht => by
    simp only [colM, Bool.and_eq_true] at h
    have := colM_at h.2 (by simpa using ho : os[k]? = some oi) (by simpa using ht)
    rwa [show i + 1 + k = i + (k + 1) by omega] at this
theorem rowsM_at {ops : Array Oper} {hd : List Oper} {tr : List Tr} : ∀ {os : List Oper} {ts : List Tr} {ms : List Nat} {j k : Nat} {o : Oper} {t : Tr} {m : Nat}, rowsM ops hd tr j os ts ms = true → os[k]? = some o → ts[k]? = some t → ms[k]? = some m →
    colM ops o t m 0 (hd.take (j + k)) (tr.take (j + k)) = true ∧ (∀ n ∈ t.nf, n ∈ keysT t) ∧ ∀ e ∈ o.after, Region.binds .any e = true → e.on < j + k
  | [], _, _, _, _, _, _, _, _, h, _, _ => by simp at h
  | _ :: _, [], _, _, _, _, _, _, _, _, h, _ => by simp at h
  | _ :: _, _ :: _, [], _, _, _, _, _, _, _, _, h => by simp at h
  | o :: os, t :: ts, m :: ms, j, 0, o', t', m', h, ho, ht, hm => by
    simp only [List.getElem?_cons_zero, Option.some.injEq] at ho ht hm
    subst ho ht hm
    simp only [rowsM, Bool.and_eq_true] at h
    refine ⟨h.1.1.1, fun n hn => memN_iff.1 (List.all_eq_true.1 h.1.1.2 n hn), fun e he hb => ?_⟩
    have := List.all_eq_true.1 h.1.2 e (by simpa using he)
    rw [hb] at this
    simp only [Bool.not_true, Bool.false_or] at this
    exact Nat.le_of_ble_eq_true this
  | o :: os, t :: ts, m :: ms, j, k + 1, o', t', m', h, ho, ht, hm => by
    simp only [rowsM, Bool.and_eq_true] at h
    have := rowsM_at h.2 (by simpa using ho : os[k]? = some o') (by simpa using ht) (by simpa using hm)
    rwa [show j + 1 + k = j + (k + 1) by omega] at this
theorem meets_iff : ∀ {a b : List Nat}, meets a b = false ↔ ∀ n ∈ a, n ∉ b
  | [], b => by simp [meets]
  | n :: a, b => by
    simp only [meets, Bool.or_eq_false_iff, meets_iff (a := a), List.forall_mem_cons]
    refine and_congr_left fun _ => ?_
    rw [← memN_iff]; simp
theorem trNo_spec {nf : List Nat} {t : Tr} (h : trNo nf t = true) : ∀ n ∈ nf, t.v.ment n = false ∧ ∀ e ∈ t.ks, e.2.ment n = false := by
  intro n hn
  have := List.all_eq_true.1 h n hn
  simp only [Bool.and_eq_true, Bool.not_eq_true', List.all_eq_true] at this
  exact this
theorem looksB_spec {ops : Array Oper} {o : Oper} {d : Nat} (h : looksB ops o (some d) = false) : d ∉ o.looksAt ops := by
  intro hm
  have h2 : ((o.looksAt ops).any fun s => Nat.beq s d) = true := List.any_eq_true.2 ⟨d, hm, Nat.beq_refl d⟩
  simp only [looksB] at h
  rw [h] at h2; cases h2
/-- What the check of a pair says. -/
structure Pair (ops : Array Oper) (oi oj : Oper) (ti tj : Tr) (anc : Prop) : Prop where
  dst : ∀ d, oi.dst = some d → oj.dst ≠ some d
  no : ∀ n ∈ tj.nf, ti.v.ment n = false ∧ ∀ e ∈ ti.ks, e.2.ment n = false
  apart : anc ∨ ((∀ d, oi.dst = some d → d ∉ oj.looksAt ops) ∧ (∀ d, oj.dst = some d → d ∉ oi.looksAt ops) ∧ (∀ n ∈ keysT ti, n ∉ tj.fp ∧ n ∉ keysT tj) ∧ (∀ n ∈ keysT tj, n ∉ ti.fp) ∧
    ∀ n ∈ ti.nf, tj.v.ment n = false ∧ ∀ e ∈ tj.ks, e.2.ment n = false)
theorem pairM_spec {ops : Array Oper} {oi oj : Oper} {ti tj : Tr} {i mj : Nat} (h : pairM ops oi oj ti tj i mj = true) : Pair ops oi oj ti tj (isAnc mj i = true) := by
  unfold pairM at h
  simp only [Bool.and_eq_true, Bool.or_eq_true, Bool.not_eq_true'] at h
  refine ⟨fun d hd hj => ?_, trNo_spec h.1.2, ?_⟩
  · have := h.1.1
    rw [hd] at this
    simp only [Bool.not_eq_true'] at this
    have h2 := dstIs_iff.2 hj
    rw [this] at h2; cases h2
  · rcases h.2 with h | ⟨⟨⟨⟨h1, h2⟩, h3⟩, h4⟩, h5⟩
    · exact .inl h
    · refine .inr ⟨fun d hd => looksB_spec (by rw [← hd]; exact h1), fun d hd => looksB_spec (by rw [← hd]; exact h2), fun n hn => ?_, fun n hn => meets_iff.1 h4 n hn, trNo_spec h5⟩
      have := meets_iff.1 h3 n hn
      rw [List.mem_append, not_or] at this
      exact this

/-! ### any order -/
structure HInv (w0 : Root) (Fz0 : Nat → Prop) (ι : Nat → HI) (H0 : List (Nat × AB)) (df : List AV) (nt : Nat) (F : Nat → AV) (l : List Oper) (ts : List Tr) (listed : Array Bool) (a : Act) (w : World) (Fz : Nat → Prop) : Prop where
  tsize : a.tmps.size = nt
  df : RD ι Fz w df a.defers
  mem : Mem w0 Fz0 ι Fz (HLof (fun j => listed.getD j false) ts 0 H0) w
  val : ∀ (j : Nat) o t x, l[j]? = some o → o.dst = some t → ts[j]? = some x → listed.getD j false = true → RV ι Fz w x.v (a.tmps.getD t undef)
  old : ∀ t, (∀ (j : Nat) o, l[j]? = some o → o.dst = some t → listed.getD j false = false) → RV ι Fz w (F t) (a.tmps.getD t undef)
def unl (n : Nat) (listed : Array Bool) : Nat := (List.range n).countP fun i => !listed.getD i false
theorem unl_set {listed : Array Bool} {i : Nat} : ∀ {n : Nat}, i < n → i < listed.size → listed.getD i false = false → unl n listed = unl n (listed.setIfInBounds i true) + 1 := by
  intro n hi hs hf
  have same : ∀ m, m ≤ i → unl m (listed.setIfInBounds i true) = unl m listed := fun m hm => by
    unfold unl
    refine List.countP_congr fun k hk => ?_
    have := List.mem_range.1 hk
    rw [getD_set_ne false (by omega)]
  have hset : (listed.setIfInBounds i true).getD i false = true := by simp [hs]
  induction n with
  | zero => omega
  | succ n ih =>
    unfold unl at *
    rw [List.range_succ, List.countP_append, List.countP_append]
    rcases Nat.lt_or_ge i n with h | h
    · rw [ih h]
      have e : (listed.setIfInBounds i true).getD n false = listed.getD n false := getD_set_ne false (by omega)
      simp only [List.countP_singleton, e]
      omega
    · have e : n = i := by omega
      subst e
      rw [same n (Nat.le_refl _)]
      simp only [List.countP_singleton]
      rw [hset, hf]
      rfl
theorem unl_pos {n : Nat} {listed : Array Bool} (h : unl n listed ≠ 0) : ∃ i < n, listed.getD i false = false := by
  unfold unl at h
  obtain ⟨i, hi, hp⟩ := List.countP_pos_iff.1 (Nat.pos_of_ne_zero h)
  exact ⟨i, List.mem_range.1 hi, by simpa using hp⟩
theorem unl_zero {n : Nat} {listed : Array Bool} (h : unl n listed = 0) : ∀ i < n, listed.getD i false = true := by
  intro i hi
  unfold unl at h
  have := List.countP_eq_zero.1 h i (List.mem_range.2 hi)
  simpa using this
theorem tmps_put_self {a : Act} {d : Nat} {v : Value} (h : d < a.tmps.size) : (a.put (some d) v).tmps.getD d undef = v := by
  simp only [Act.put]
  rw [Array.getD_eq_getD_getElem?, Array.getElem?_setIfInBounds_self]
  simp [h]
theorem tmps_put_ne {a : Act} {d : Option Nat} {t : Nat} {v : Value} (h : d ≠ some t) : (a.put d v).tmps.getD t undef = a.tmps.getD t undef := by
  cases d with
  | none => rfl
  | some d =>
    simp only [Act.put]
    rw [Array.getD_eq_getD_getElem?, Array.getElem?_setIfInBounds_ne (fun e => h (by rw [e])), ← Array.getD_eq_getD_getElem?]
theorem getF_frOf (F : Nat → AV) : ∀ (l : List Nat) (t : Nat), (t ∈ l → getF (l.map fun t => (t, F t)) t = F t) ∧ (t ∉ l → getF (l.map fun t => (t, F t)) t = .dead)
  | [], t => ⟨fun h => by simp at h, fun _ => rfl⟩
  | s :: l, t => by
    have ih := getF_frOf F l t
    constructor
    · intro h
      show getF ((s, F s) :: _) t = _
      rw [getF_cons]
      by_cases e : s = t
      · rw [if_pos e, e]
      · rw [if_neg e]
        refine ih.1 ?_
        rcases List.mem_cons.1 h with h | h
        · exact absurd h.symm e
        · exact h
    · intro h
      show getF ((s, F s) :: _) t = _
      rw [getF_cons, if_neg (fun e => h (by simp [e]))]
      exact ih.2 (fun h' => h (by simp [h']))
theorem strikeLs_none {nf : List Nat} {b : AB} (h : ∀ n ∈ nf, b.ment n = false) : AB.strikeLs nf b = b := by
  cases b with
  | gone => exact strikeLs_gone nf
  | arr e κ xs => exact strikeLs_arr nf e κ xs
  | box cs =>
    rw [strikeLs_box]
    congr 1
    have key : ∀ (cs : List AV), (∀ n ∈ nf, mentL n cs = false) → cs.map (strikeLs nf) = cs := by
      intro cs
      induction cs with
      | nil => intro _; rfl
      | cons c r ih =>
        intro h
        have h1 : ∀ n ∈ nf, c.ment n = false := fun n hn => by have := h n hn; simp only [mentL, Bool.or_eq_false_iff] at this; exact this.1
        have h2 : ∀ n ∈ nf, mentL n r = false := fun n hn => by have := h n hn; simp only [mentL, Bool.or_eq_false_iff] at this; exact this.2
        rw [List.map_cons, ih h2]
        congr 1
        have : ∀ (l : List Nat), (∀ n ∈ l, c.ment n = false) → strikeLs l c = c := by
          intro l
          induction l with
          | nil => intro _; rfl
          | cons n l ih =>
            intro h
            simp only [strikeLs]
            rw [show c.strike n = c by simp [AV.strike, h n (by simp)]]
            exact ih fun k hk => h k (by simp [hk])
        exact this nf h1
    exact key cs fun n hn => by simpa [AB.ment] using h n hn
/-- What is known of a head. -/
structure HeadOk (E : Env) (ops : Array Oper) (df : List AV) (F0 : Nat → AV) (H0 : List (Nat × AB)) (l : List Oper) (ts : List Tr) : Prop where
  steps : StepsM E ops df F0 H0 l ts
  pair : ∀ (i j : Nat) oi oj ti tj mj, i < j → l[i]? = some oi → l[j]? = some oj → ts[i]? = some ti → ts[j]? = some tj → (ancs l [])[j]? = some mj → Pair ops oi oj ti tj (isAnc mj i = true)
  nfk : ∀ (j : Nat) t, ts[j]? = some t → ∀ n ∈ t.nf, n ∈ keysT t
  back : ∀ (j : Nat) oj, l[j]? = some oj → ∀ e ∈ oj.after, Region.binds .any e = true → e.on < j
  no : ∀ (j : Nat) t, ts[j]? = some t → ∀ n ∈ t.nf, (∀ s, (F0 s).ment n = false) ∧ ∀ e ∈ H0, e.2.ment n = false
/-- One operation of the head, whenever it comes. -/
theorem head_step {E : Env} {ops : Array Oper} {nt : Nat} {df : List AV} {F : Nat → AV} {H0 : List (Nat × AB)} {l : List Oper} {ts : List Tr} {listed : Array Bool} {a : Act} (hΓ : EnvOk E w0.gl)
    (ho : HeadOk E ops df F H0 l ts) (hd : dstOk l nt) {i : Nat} {o : Oper} (hi : l[i]? = some o) (hun : listed.getD i false = false)
    (hrd : ∀ e ∈ o.after, Region.binds .any e = true → listed.getD e.on false = true) (hcl : ∀ (j : Nat) oj, l[j]? = some oj → listed.getD j false = true → ∀ e ∈ oj.after, Region.binds .any e = true → listed.getD e.on false = true)
    (hsz : i < listed.size) (inv : HInv w0 Fz0 ι H0 df nt F l ts listed a w Fz) (Kc : Act → World → Prop) (Q : Exit → Act → World → Prop)
    (hK : ∀ a' w' ι' Fz', HInv w0 Fz0 ι' H0 df nt F l ts (listed.setIfInBounds i true) a' w' Fz' → Kc a' w') :
    if Region.wanted o (yielded ops a.tmps) then o.wp E.P a w Kc Q else Kc (a.put o.dst undef) w := by
  obtain ⟨t, ht, hstep⟩ := ho.steps.at hi
  have tsOf : ∀ (j : Nat) oj, l[j]? = some oj → ∃ tj, ts[j]? = some tj := fun j oj hj => by
    obtain ⟨tj, h, _⟩ := ho.steps.at hj; exact ⟨tj, h⟩
  have lOf : ∀ (j : Nat) tj, ts[j]? = some tj → ∃ oj, l[j]? = some oj := fun j tj hj => by
    have := (List.getElem?_eq_some_iff.1 hj).1
    rw [ho.steps.len] at this
    exact ⟨_, List.getElem?_eq_getElem this⟩
  have mOf : ∀ (j : Nat) oj, l[j]? = some oj → ∃ mj, (ancs l [])[j]? = some mj := fun j oj hj => by
    obtain ⟨pre, _, _, h⟩ := ancs_at l [] j oj hj
    exact ⟨_, by simpa using h⟩
  have hcl' : ∀ (j : Nat) oj, l[j]? = some oj → (fun k => listed.getD k false) j = true → ∀ e ∈ oj.after, Region.binds .any e = true → (fun k => listed.getD k false) e.on = true := hcl
  -- those ahead of it in the text, and those behind
  have early : ∀ (j : Nat) oj tj, j < i → l[j]? = some oj → ts[j]? = some tj → Pair ops oj o tj t (listed.getD j false = true) := by
    intro j oj tj hlt hj htj
    obtain ⟨mi, hmi⟩ := mOf i o hi
    have hp := ho.pair j i oj o tj t mi hlt hj hi htj ht hmi
    refine ⟨hp.dst, hp.no, ?_⟩
    rcases hp.apart with h | h
    · exact .inl (anc_closed hcl' ho.back i o j mi hi hrd hmi h)
    · exact .inr h
  have late : ∀ (j : Nat) oj tj, i < j → l[j]? = some oj → ts[j]? = some tj → Pair ops o oj t tj (listed.getD j false = false) := by
    intro j oj tj hlt hj htj
    obtain ⟨mj, hmj⟩ := mOf j oj hj
    have hp := ho.pair i j o oj t tj mj hlt hi hj ht htj hmj
    refine ⟨hp.dst, hp.no, ?_⟩
    rcases hp.apart with h | h
    · left
      cases hl : listed.getD j false with
      | false => rfl
      | true =>
        have := anc_closed hcl' ho.back j oj i mj hj (hcl j oj hj hl) hmj h
        rw [hun] at this; cases this
    · exact .inr h
  have hdist : ∀ (j k : Nat) oj ok d, l[j]? = some oj → l[k]? = some ok → j ≠ k → oj.dst = some d → ok.dst ≠ some d := by
    intro j k oj ok d hj hk hjk hdj
    obtain ⟨tj, htj⟩ := tsOf j oj hj
    obtain ⟨tk, htk⟩ := tsOf k ok hk
    rcases Nat.lt_or_ge j k with h | h
    · obtain ⟨m, hm⟩ := mOf k ok hk
      exact (ho.pair j k oj ok tj tk m h hj hk htj htk hm).dst d hdj
    · obtain ⟨m, hm⟩ := mOf j oj hj
      intro hdk
      exact (ho.pair k j ok oj tk tj m (by omega) hk hj htk htj hm).dst d hdk hdj
  have takeAt : ∀ (k : Nat) (o' : Oper), (l.take i)[k]? = some o' → k < i ∧ l[k]? = some o' := by
    intro k o' h
    rw [List.getElem?_take] at h
    split at h
    · exact ⟨by assumption, h⟩
    · cases h
  -- what it looks at
  have look : ∀ s ∈ o.looksAt ops, RV ι Fz w (runF F (l.take i) ((ts.map Tr.v).take i) s) (a.tmps.getD s undef) := by
    intro s hs
    by_cases hw : ∃ (j : Nat) (oj : Oper), l[j]? = some oj ∧ oj.dst = some s
    · obtain ⟨j, oj, hj, hdj⟩ := hw
      obtain ⟨tj, htj⟩ := tsOf j oj hj
      rcases Nat.lt_trichotomy j i with hji | hji | hji
      · have hlj : listed.getD j false = true := by
          rcases (early j oj tj hji hj htj).apart with h | h
          · exact h
          · exact absurd hs (h.1 s hdj)
        have e1 : runF F (l.take i) ((ts.map Tr.v).take i) s = tj.v := runF_at (j := j) (o := oj) (by rw [List.getElem?_take, if_pos hji]; exact hj) hdj
          (by rw [List.getElem?_take, if_pos hji, List.getElem?_map, htj]; rfl)
          (fun k o' hk ho' => hdist j k oj o' s hj (takeAt k o' ho').2 (Ne.symm hk) hdj)
        rw [e1]
        exact inv.val j oj s tj hj hdj htj hlj
      · subst hji
        have e1 : runF F (l.take j) ((ts.map Tr.v).take j) s = F s := runF_not fun k o' ho' => by
          obtain ⟨h1, h2⟩ := takeAt k o' ho'
          exact hdist j k oj o' s hj h2 (by omega) hdj
        rw [e1]
        refine inv.old s fun k ok hk hdk => ?_
        by_cases e : j = k
        · rw [← e]; exact hun
        · exact absurd hdk (hdist j k oj ok s hj hk e hdj)
      · have e1 : runF F (l.take i) ((ts.map Tr.v).take i) s = F s := runF_not fun k o' ho' => by
          obtain ⟨h1, h2⟩ := takeAt k o' ho'
          exact hdist j k oj o' s hj h2 (by omega) hdj
        rw [e1]
        refine inv.old s fun k ok hk hdk => ?_
        by_cases e : j = k
        · subst e
          have : ok = oj := Option.some.inj (hk.symm.trans hj)
          subst this
          rcases (late j ok tj hji hj htj).apart with h | h
          · exact h
          · exact absurd hs (h.2.1 s hdj)
        · exact absurd hdk (hdist j k oj ok s hj hk e hdj)
    · have e1 : runF F (l.take i) ((ts.map Tr.v).take i) s = F s := runF_not fun k o' ho' hd' => hw ⟨k, o', (takeAt k o' ho').2, hd'⟩
      rw [e1]
      exact inv.old s fun k ok hk hdk => absurd ⟨k, ok, hk, hdk⟩ hw
  -- the part of the memory that it reaches is as along the text
  have heap : keepHp (HLof (fun j => listed.getD j false) ts 0 H0) t.fp = keepHp (hrun (ts.take i) H0) t.fp := by
    refine List.map_congr_left fun h hh => ?_
    rw [← HL_run ts 0 i H0]
    refine congrArg _ (HL_congr ts 0 H0 H0 h rfl fun j tj hj hk => ?_)
    obtain ⟨oj, hoj⟩ := lOf j tj hj
    simp only [Nat.zero_add]
    rcases Nat.lt_trichotomy j i with hji | hji | hji
    · rw [decide_eq_true hji]
      rcases (early j oj tj hji hoj hj).apart with q | q
      · exact q
      · exact absurd hh (q.2.2.1 h hk).1
    · subst hji; rw [hun]; simp
    · rw [decide_eq_false (by omega)]
      rcases (late j oj tj hji hoj hj).apart with q | q
      · exact q
      · exact absurd hh (q.2.2.2.1 h hk)
  have valno : ∀ (j : Nat) tj, ts[j]? = some tj → j ≠ i → listed.getD j false = true → ∀ n ∈ t.nf, tj.v.ment n = false ∧ ∀ e ∈ tj.ks, e.2.ment n = false := by
    intro j tj hj hne hl n hn
    obtain ⟨oj, hoj⟩ := lOf j tj hj
    rcases Nat.lt_or_ge j i with hji | hji
    · exact (early j oj tj hji hoj hj).no n hn
    · rcases (late j oj tj (by omega) hoj hj).apart with q | q
      · rw [hl] at q; cases q
      · exact q.2.2.2.2 n hn
  have memno : ∀ n ∈ t.nf, ∀ h, (getH (HLof (fun j => listed.getD j false) ts 0 H0) h).ment n = false := by
    intro n hn h
    rcases getH_mem (HLof (fun j => listed.getD j false) ts 0 H0) h with e | e
    · rw [e]; rfl
    · rcases HL_mem ts 0 H0 _ e with q | ⟨j, tj, h1, h2, h3⟩
      · exact (ho.no i t ht n hn).2 _ q
      · simp only [Nat.zero_add] at h2
        have hne : j ≠ i := fun e => by rw [e, hun] at h2; cases h2
        exact (valno j tj h1 hne h2 n hn).2 _ h3
  -- the memory behind it
  have keep : ∀ h, h ∉ keysT t → getH (HLof (fun j => (listed.setIfInBounds i true).getD j false) ts 0 H0) h = getH (HLof (fun j => listed.getD j false) ts 0 H0) h := by
    intro h hh
    refine HL_congr ts 0 H0 H0 h rfl fun j tj hj hk => ?_
    simp only [Nat.zero_add]
    refine getD_set_ne false fun e => ?_
    subst e
    have : tj = t := Option.some.inj (hj.symm.trans ht)
    rw [this] at hk
    exact hh hk
  have turn : ∀ h, h ∈ keysT t → getH (HLof (fun j => (listed.setIfInBounds i true).getD j false) ts 0 H0) h = getH t.ks h := by
    intro h hh
    have e1 : getH (HLof (fun j => (listed.setIfInBounds i true).getD j false) ts 0 H0) h = getH (HLof (fun j => decide (j < 0 + (i + 1))) ts 0 H0) h := by
      refine HL_congr ts 0 H0 H0 h rfl fun j tj hj hk => ?_
      obtain ⟨oj, hoj⟩ := lOf j tj hj
      simp only [Nat.zero_add]
      rcases Nat.lt_trichotomy j i with hji | hji | hji
      · rw [getD_set_ne false (by omega), decide_eq_true (by omega)]
        rcases (early j oj tj hji hoj hj).apart with q | q
        · exact q
        · exact absurd hh (q.2.2.1 h hk).2
      · subst hji
        simp [hsz]
      · rw [getD_set_ne false (by omega), decide_eq_false (by omega)]
        rcases (late j oj tj hji hoj hj).apart with q | q
        · exact q
        · exact absurd hk (q.2.2.1 h hh).2
    have e2 : ts.take (i + 1) = ts.take i ++ [t] := by rw [List.take_add_one, ht]; rfl
    rw [e1, HL_run ts 0 (i + 1) H0, e2, hrun_snoc]
    exact getH_ks _ _ _ hh
  -- what stands behind it
  have after : ∀ (v' : Value) (w' : World) (ι' : Nat → HI) (Fz' : Nat → Prop), (∀ b, Fz b → w'.heap[b]? = w.heap[b]?) → (∀ b, Fz b → Fz' b) → (∀ n, n ∉ t.nf → ι' n = ι n) → (∀ n ∈ t.nf, okNew df n = true) →
      Mem w0 Fz0 ι' Fz' (HLof (fun j => (listed.setIfInBounds i true).getD j false) ts 0 H0) w' → RV ι' Fz' w' t.v v' →
      HInv w0 Fz0 ι' H0 df nt F l ts (listed.setIfInBounds i true) (a.put o.dst v') w' Fz' := by
    intro v' w' ι' Fz' hw hf hι hnew m hr
    have mono : ∀ {x : AV} {y : Value}, (∀ n ∈ t.nf, x.ment n = false) → RV ι Fz w x y → RV ι' Fz' w' x y := fun hm h =>
      RV_mono hw hf _ _ (fun k hk => hι k fun hin => by rw [hm k hin] at hk; cases hk) h
    refine ⟨by rw [size_put]; exact inv.tsize, ?_, m, fun j oj s u hj hdj hu hl => ?_, fun s hs => ?_⟩
    · have := RD_mono hw hf df a.defers (fun k hk => hι k fun hin => by
        have := (okNew_df (hnew k hin)).1
        simp [okDf, hk] at this) inv.df
      cases o.dst <;> exact this
    · by_cases e : i = j
      · subst e
        have e1 : oj = o := Option.some.inj (hj.symm.trans hi)
        subst e1
        have e2 : u = t := Option.some.inj (hu.symm.trans ht)
        subst e2
        rw [hdj, tmps_put_self (by rw [inv.tsize]; exact hd oj (List.mem_of_getElem? hj) s hdj)]
        exact hr
      · rw [getD_set_ne false e] at hl
        rw [tmps_put_ne (hdist j i oj o s hj hi (Ne.symm e) hdj)]
        exact mono (fun n hn => (valno j u hu (Ne.symm e) hl n hn).1) (inv.val j oj s u hj hdj hu hl)
    · have hne : o.dst ≠ some s := fun hdo => by
        have := hs i o hi hdo
        simp [hsz] at this
      rw [tmps_put_ne hne]
      refine mono (fun n hn => (ho.no i t ht n hn).1 s) (inv.old s fun j oj hj hdj => ?_)
      have h1 := hs j oj hj hdj
      by_cases e : i = j
      · subst e; exact hun
      · rwa [getD_set_ne false e] at h1
  have hfr : ∀ s, RV ι Fz w (getF ((o.looksAt ops).map fun s => (s, runF F (l.take i) ((ts.map Tr.v).take i) s)) s) (a.tmps.getD s undef) := by
    intro s
    by_cases hs : s ∈ o.looksAt ops
    · rw [(getF_frOf _ _ s).1 hs]; exact look s hs
    · rw [(getF_frOf _ _ s).2 hs]; simp [RV]
  have run : opM E o.op (opndF E.gl (runF F (l.take i) ((ts.map Tr.v).take i))) (keepHp (hrun (ts.take i) H0) t.fp) df (o.dst.getD 0) (fun v ks nf => some (v, ks, nf)) = some (t.v, t.ks, t.nf) → Region.wanted o (yielded ops a.tmps) = true →
      if Region.wanted o (yielded ops a.tmps) then o.wp E.P a w Kc Q else Kc (a.put o.dst undef) w := by
    intro h hwant
    rw [if_pos hwant]
    have hc : opM E o.op (opnd E.gl ((o.looksAt ops).map fun s => (s, runF F (l.take i) ((ts.map Tr.v).take i) s))) (keepHp (HLof (fun j => listed.getD j false) ts 0 H0) t.fp) df (o.dst.getD 0) (fun v ks nf => some (v, ks, nf)) = some (t.v, t.ks, t.nf) := by
      rw [← h, heap, opnd_F]
      refine opM_congr E _ _ _ _ _ fun x hx => ?_
      cases x with
      | tmp s =>
        refine (getF_frOf _ _ s).1 ?_
        unfold Oper.looksAt
        refine List.mem_append_left _ (List.mem_filterMap.2 ⟨.tmp s, by simpa using hx, rfl⟩)
      | _ => rfl
    obtain ⟨hnew, hnk, hg⟩ := opM_of (w0 := Root.sub w0.gl w ι (HLof (fun j => listed.getD j false) ts 0 H0) t.fp) hΓ (inv.mem.sub t.fp) (opnd_of (gl := E.gl) (by rw [hΓ.gl]; exact inv.mem.gok) hfr) inv.df hc
    refine hg.wp ?_
    rintro v' w' ⟨ι', Fz', Hl, ml, hv, hι, g1, g2⟩
    have hw : ∀ b, Fz b → w'.heap[b]? = w.heap[b]? := fun b hb => ml.below.block b (sub_fz inv.mem hb)
    refine hK _ _ ι' Fz' (after v' w' ι' Fz' hw ml.fz0 hι (fun n hn => List.all_eq_true.1 hnew n hn) ?_ hv)
    refine inv.mem.frame ml hι hnk memno (fun h hh => ?_) fun h ha hb => keep h hb
    by_cases hk : h ∈ keysT t
    · rw [turn h hk, g1 h hk]
    · rw [keep h hk, g2 h hk]
      have hfp := hh.resolve_right hk
      rcases getH_sub (HLof (fun j => listed.getD j false) ts 0 H0) t.fp h with ⟨_, e⟩ | ⟨hno, _⟩
      · rw [e, strikeLs_none fun n hn => memno n hn h]
      · exact absurd hfp hno
  have skip : t = ⟨.tuple [], [], [], []⟩ → Region.wanted o (yielded ops a.tmps) = false →
      if Region.wanted o (yielded ops a.tmps) then o.wp E.P a w Kc Q else Kc (a.put o.dst undef) w := by
    intro h hwant
    rw [if_neg (by rw [hwant]; simp)]
    refine hK _ _ ι Fz (after undef w ι Fz (fun _ _ => rfl) (fun _ h => h) (fun _ _ => rfl) (fun n hn => by rw [h] at hn; simp at hn) (inv.mem.drop fun k => .inl (keep k (by rw [h]; simp [keysT]))) ?_)
    rw [h]; simp only [RV]; exact ⟨[], rfl, by simp [RVs]⟩
  unfold stepM at hstep
  split at hstep
  · rename_i hgd
    exact run hstep (by simp [Region.wanted, hgd])
  · rename_i j want hgd
    obtain ⟨d, hdst, hstep⟩ := hstep
    have hval := look d (by
      unfold Oper.looksAt
      refine List.mem_append_right _ ?_
      rw [hgd]
      simp [hdst])
    rcases hstep with ⟨p, hp, hstep⟩ | ⟨hp, hstep⟩
    · rw [hp, RV_bool] at hval
      have hy : yielded ops a.tmps j = some p := by
        unfold yielded
        rw [hdst]
        have : a.tmps[d]? = some (.bool p) := by
          rw [Array.getD_eq_getD_getElem?] at hval
          cases hx : a.tmps[d]? with
          | none => rw [hx] at hval; simp [undef] at hval
          | some x => rw [hx] at hval; simp at hval; rw [hval]
        simp [this]
      have hwnt : Region.wanted o (yielded ops a.tmps) = (some p == some want) := by simp only [Region.wanted, hgd, hy]
      rcases hstep with ⟨rfl, hstep⟩ | ⟨hne, hstep⟩
      · exact run hstep (by rw [hwnt]; simp)
      · exact skip hstep (by rw [hwnt]; simp [hne])
    · rw [hp] at hval
      simp only [RV, RVs] at hval
      obtain ⟨us, hval, rfl⟩ := hval
      have hy : yielded ops a.tmps j = none := by
        unfold yielded
        rw [hdst]
        rw [Array.getD_eq_getD_getElem?] at hval
        cases hx : a.tmps[d]? with
        | none => simp [hx]
        | some x => rw [hx] at hval; simp at hval; simp [hx, hval]
      exact skip hstep (by simp only [Region.wanted, hgd, hy]; rfl)
theorem ready_some {ops : Array Oper} {n : Nat} {listed : Array Bool} (hn : n ≤ ops.size) (hsz : listed.size = ops.size) (hback : ∀ (j : Nat) oj, (ops.toList.take n)[j]? = some oj → ∀ e ∈ oj.after, Region.binds .any e = true → e.on < j) :
    ∀ (i : Nat), i < n → listed.getD i false = false → Region.ready .any ops listed ≠ [] := by
  intro i
  induction i using Nat.strongRecOn with
  | _ i ih =>
    intro hi hun he
    have ho : (ops.toList.take n)[i]? = some ops[i] := by rw [List.getElem?_take, if_pos hi]; simp [Nat.lt_of_lt_of_le hi hn]
    have hb := hback i _ ho
    by_cases hall : ∀ e ∈ ops[i].after, Region.binds .any e = true → listed.getD e.on false = true
    · have : i ∈ Region.ready .any ops listed := mem_ready.2 ⟨getD_in (by omega) hun, ops[i], by simp [Nat.lt_of_lt_of_le hi hn], hall⟩
      rw [he] at this; simp at this
    · have : ∃ e ∈ ops[i].after, Region.binds .any e = true ∧ listed.getD e.on false = false := by
        apply Classical.byContradiction
        intro hno
        refine hall fun e he hbd => ?_
        cases hl : listed.getD e.on false with
        | true => rfl
        | false => exact absurd ⟨e, he, hbd, hl⟩ hno
      obtain ⟨e, he', hbd, hl⟩ := this
      exact ih e.on (hb e he' hbd) (Nat.lt_trans (hb e he' hbd) hi) hl he
theorem head_any {E : Env} {ops : Array Oper} {nt n g : Nat} {df : List AV} {F : Nat → AV} {H0 : List (Nat × AB)} {ts : List Tr} {Q : Exit → Act → World → Prop} (hΓ : EnvOk E w0.gl)
    (ho : HeadOk E ops df F H0 (ops.toList.take n) ts) (hd : dstOk (ops.toList.take n) nt)
    (hn : n + g = ops.size) (hsk : n < ops.size → Region.sinkB .any ops n = true ∧ Region.chainB .any ops n = true)
    (htail : ∀ (a : Act) (w : World) (ι : Nat → HI) (Fz : Nat → Prop) (listed : Array Bool), unl n listed = 0 → HeadInv .any ops n listed → HInv w0 Fz0 ι H0 df nt F (ops.toList.take n) ts listed a w Fz → wpAny E.P .any ops Q g listed a w) :
    ∀ (m : Nat) {listed : Array Bool} {a : Act} {w : World} {ι : Nat → HI} {Fz : Nat → Prop}, unl n listed = m → HeadInv .any ops n listed → HInv w0 Fz0 ι H0 df nt F (ops.toList.take n) ts listed a w Fz → wpAny E.P .any ops Q (m + g) listed a w := by
  intro m
  induction m with
  | zero => intro listed a w ι Fz hu hi inv; rw [Nat.zero_add]; exact htail a w ι Fz listed hu hi inv
  | succ m ih =>
    intro listed a w ι Fz hu hinv inv
    rw [show m + 1 + g = (m + g) + 1 by omega]
    obtain ⟨k, hk, hkun⟩ := unl_pos (n := n) (listed := listed) (by omega)
    have hnle : n ≤ ops.size := by omega
    refine ⟨fun h => absurd h (ready_some hnle hinv.size ho.back k hk hkun), fun i hi => ?_⟩
    obtain ⟨hun, o, hoi, hrd⟩ := mem_ready.1 hi
    have hin : i < ops.size := (Array.getElem?_eq_some_iff.1 hoi).1
    have hlt : i < n := by
      rcases Nat.lt_or_ge i n with h | h
      · exact h
      · have hs := hsk (by omega)
        exact absurd hi (tail_waits hs.1 hs.2 (by omega) hinv (n - k) k rfl hk (getD_in (by rw [hinv.size]; omega) hkun) i h)
    have hl : (ops.toList.take n)[i]? = some o := by rw [List.getElem?_take, if_pos hlt]; simpa using hoi
    have hun' := getD_both hun
    have hst' := head_step (listed := listed) (i := i) (o := o) hΓ ho hd hl hun' hrd (fun j oj hj hlj => hinv.closed j oj (by
      rw [List.getElem?_take] at hj
      split at hj
      · simpa using hj
      · cases hj) hlj) (by rw [hinv.size]; exact hin) inv (wpAny E.P .any ops Q (m + g) (listed.setIfInBounds i true)) Q (fun a' w' ι' Fz' inv' => by
        refine ih ?_ (hinv.set hi hlt) inv'
        have := unl_set (n := n) hlt (by rw [hinv.size]; exact hin) hun'
        omega)
    unfold wpOp
    rw [hoi]
    simp only
    split
    · rename_i hw
      rw [if_pos hw] at hst'
      exact .inl hst'
    · rename_i hw
      rw [if_neg hw] at hst'
      exact hst'
theorem headM_le : ∀ (l : List Oper), headM l ≤ l.length
  | [] => Nat.le_refl _
  | o :: l => by
    unfold headM
    cases Op.isM o.op with
    | true => simp only [cond_true, List.length_cons]; have := headM_le l; omega
    | false => simp
theorem Behind.drew {st : St} {a : Act} (b : Behind w0 Fz0 ι Fz st a w) : Behind w0 Fz0 ι Fz st a { w with drawn := w.drawn + 1 } := by
  have e : ∀ b : Nat, Fz b → ({ w with drawn := w.drawn + 1 } : World).heap[b]? = w.heap[b]? := fun _ _ => rfl
  have m : Mem w0 Fz0 ι Fz st.H { w with drawn := w.drawn + 1 } :=
    Mem.grow (w' := { w with drawn := w.drawn + 1 }) b.2.2 ⟨rfl, rfl, rfl, Nat.le_refl _, fun _ _ => rfl⟩ (fun _ h => h) (fun _ h => .inl h) b.2.2.fz
  exact b.mono (Fz' := Fz) (w' := { w with drawn := w.drawn + 1 }) e (fun _ h => h) m
theorem headOk_of {E : Env} {ops : Array Oper} {st : St} {hd : List Oper} {ts : List Tr} (hst : StepsM E ops st.df (getF st.fr) st.H hd ts) (hc : condM ops hd ts st = true) : HeadOk E ops st.df (getF st.fr) st.H hd ts := by
  simp only [condM, Bool.and_eq_true] at hc
  have mOf : ∀ (j : Nat) oj, hd[j]? = some oj → ∃ mj, (ancs hd [])[j]? = some mj := fun j oj hj => by
    obtain ⟨pre, _, _, h⟩ := ancs_at hd [] j oj hj
    exact ⟨_, by simpa using h⟩
  have tsOf : ∀ (j : Nat) oj, hd[j]? = some oj → ∃ tj, ts[j]? = some tj := fun j oj hj => by
    obtain ⟨tj, h, _⟩ := hst.at hj; exact ⟨tj, h⟩
  have lOf : ∀ (j : Nat) tj, ts[j]? = some tj → ∃ oj, hd[j]? = some oj := fun j tj hj => by
    have := (List.getElem?_eq_some_iff.1 hj).1
    rw [hst.len] at this
    exact ⟨_, List.getElem?_eq_getElem this⟩
  refine ⟨hst, fun i j oi oj ti tj mj hlt hi hj hti htj hmj => ?_, fun j t ht n hn => ?_, fun j oj hj e he hb => ?_, fun j t ht n hn => ?_⟩
  · have h1 := (rowsM_at hc.1 hj htj hmj).1
    rw [Nat.zero_add] at h1
    have := colM_at h1 (k := i) (by rw [List.getElem?_take, if_pos hlt]; exact hi) (by rw [List.getElem?_take, if_pos hlt]; exact hti)
    rw [Nat.zero_add] at this
    exact pairM_spec this
  · obtain ⟨oj, hj⟩ := lOf j t ht
    obtain ⟨mj, hmj⟩ := mOf j oj hj
    exact (rowsM_at hc.1 hj ht hmj).2.1 n hn
  · obtain ⟨tj, htj⟩ := tsOf j oj hj
    obtain ⟨mj, hmj⟩ := mOf j oj hj
    have := (rowsM_at hc.1 hj htj hmj).2.2 e he hb
    rwa [Nat.zero_add] at this
  · have h1 := List.all_eq_true.1 hc.2 t (List.mem_of_getElem? ht)
    have h2 := List.all_eq_true.1 h1 n hn
    simp only [Bool.and_eq_true, List.all_eq_true, Bool.not_eq_true'] at h2
    refine ⟨fun s => ?_, fun e he => h2.2 e he⟩
    have : ∀ (fr : List (Nat × AV)), (∀ p ∈ fr, p.2.ment n = false) → (getF fr s).ment n = false := by
      intro fr
      induction fr with
      | nil => intro _; rfl
      | cons p r ih =>
        intro h
        obtain ⟨u, v⟩ := p
        rw [getF_cons]
        split
        · exact h (u, v) (by simp)
        · exact ih fun q hq => h q (by simp [hq])
    exact this st.fr h2.1
theorem region_draw_of {R : Type} {E : Env} {ops : Array Oper} {nt id : Nat} {st : St} {a : Act} {K : St → Option R} {r : R} {Q : Exit → Act → World → Prop} (hm : E.P.follows .mixedOrders = true) (hΓ : EnvOk E w0.gl)
    (hdst : dstOk ops.toList nt) (hnt : a.tmps.size = nt) (b : Behind w0 Fz0 ι Fz st a w) (hok : drawM ops (headM ops.toList) = true)
    (h : (opsM E ops (ops.toList.take (headM ops.toList)) st fun tr st' => bif condM ops (ops.toList.take (headM ops.toList)) tr st then opsG E ops (ops.toList.drop (headM ops.toList)) st' K else none) = some r)
    (hQ : ∀ st' a' w' ι' Fz', K st' = some r → a'.tmps.size = nt → Behind w0 Fz0 ι' Fz' st' a' w' → Q .normal a' w') : (Code.region id ops true).wp E.P Q a w := by
  have hle := headM_le ops.toList
  generalize headM ops.toList = n at *
  have hle : n ≤ ops.size := by simpa using hle
  unfold drawM at hok
  simp only [Bool.and_eq_true] at hok
  obtain ⟨⟨_, h3⟩, h4⟩ := hok
  obtain ⟨ts, st1, hst, hk, e1, e2, e3⟩ := opsM_steps _ h
  cases hcond : condM ops (ops.toList.take n) ts st with
  | false => rw [hcond] at hk; cases hk
  | true =>
  rw [hcond, cond_true] at hk
  have hho := headOk_of hst hcond
  have hd1 : dstOk (ops.toList.take n) nt := fun o ho => hdst o (List.mem_of_mem_take ho)
  have hd2 : dstOk (ops.toList.drop n) nt := fun o ho => hdst o (List.mem_of_mem_drop ho)
  have b' := b.drew
  have hsk : n < ops.size → Region.sinkB .any ops n = true ∧ Region.chainB .any ops n = true := by
    intro hlt
    have hb : Nat.beq n ops.size = false := by cases hx : Nat.beq n ops.size with | false => rfl | true => have := Nat.eq_of_beq_eq_true hx; omega
    rw [hb, cond_false] at h3
    simpa using h3
  have hts : ts.length = n := by rw [hst.len, List.length_take]; simp; omega
  refine wp_region_any hm ?_
  have key := head_any (w0 := w0) (Fz0 := Fz0) (H0 := st.H) (n := n) (g := ops.size - n) (nt := nt) (df := st.df) (F := getF st.fr) (ts := ts) (Q := Q) hΓ hho hd1 (by omega) hsk ?_ (unl n (Array.replicate ops.size false))
    (listed := Array.replicate ops.size false) (a := a) (w := { w with drawn := w.drawn + 1 }) (ι := ι) (Fz := Fz) rfl
    ⟨by simp, fun j oj _ hl => (by rw [getD_replicate_false] at hl; cases hl), fun t _ ht => getD_in (by simpa using ht) (getD_replicate_false _ _)⟩
    ⟨hnt, b'.2.1, by rw [HL_none _ _ _ (fun j _ => getD_replicate_false _ _)]; exact b'.2.2, fun j o t x _ _ _ hl => (by rw [getD_replicate_false] at hl; cases hl), fun t _ => b'.1 t⟩
  · have : unl n (Array.replicate ops.size false) = n := by
      unfold unl
      rw [List.countP_eq_length.2]
      · simp
      · intro i hi; rw [getD_replicate_false]; rfl
    rw [this, show n + (ops.size - n) = ops.size by omega] at key
    exact key
  · intro a' w' ι' Fz' listed hu hinv inv
    have hcan : listed = (List.replicate n true ++ List.replicate (ops.size - n) false).toArray := by
      apply Array.ext
      · simp only [List.size_toArray, List.length_append, List.length_replicate, hinv.size]; omega
      · intro i hi1 hi2
        simp only [List.getElem_toArray]
        rcases Nat.lt_or_ge i n with hlt | hge
        · have h5 := unl_zero hu i hlt
          rw [List.getElem_append_left (by simpa using hlt), List.getElem_replicate]
          simpa [hi1] using h5
        · have h5 := hinv.tail i hge (by rw [← hinv.size]; exact hi1)
          rw [List.getElem_append_right (by simpa using hge), List.getElem_replicate]
          simpa [hi1] using h5
    have hseq : Region.seqB .any ops (ops.toList.drop n).length n listed = true := by rw [hcan]; simpa using h4
    have hb1 : Behind w0 Fz0 ι' Fz' st1 a' w' := by
      refine ⟨fun t => ?_, by rw [e2]; exact inv.df, ?_⟩
      · rw [e3]
        have hdist : ∀ (j k : Nat) oj ok d, (ops.toList.take n)[j]? = some oj → (ops.toList.take n)[k]? = some ok → j ≠ k → oj.dst = some d → ok.dst ≠ some d := by
          intro j k oj ok d hj hk hjk hdj
          obtain ⟨tj, htj, _⟩ := hst.at hj
          obtain ⟨tk, htk, _⟩ := hst.at hk
          rcases Nat.lt_or_ge j k with h | h
          · obtain ⟨pre, _, _, hm⟩ := ancs_at (ops.toList.take n) [] k ok hk
            simp only [List.length_nil, Nat.zero_add] at hm
            exact (hho.pair j k oj ok tj tk _ h hj hk htj htk hm).dst d hdj
          · obtain ⟨pre, _, _, hm⟩ := ancs_at (ops.toList.take n) [] j oj hj
            simp only [List.length_nil, Nat.zero_add] at hm
            intro hdk
            exact (hho.pair k j ok oj tk tj _ (by omega) hk hj htk htj hm).dst d hdk hdj
        by_cases hw : ∃ (j : Nat) (oj : Oper), (ops.toList.take n)[j]? = some oj ∧ oj.dst = some t
        · obtain ⟨j, oj, hj, hdj⟩ := hw
          obtain ⟨u, hu', _⟩ := hst.at hj
          rw [runF_at hj hdj (by rw [List.getElem?_map, hu']; rfl) (fun k o' hk ho' => hdist j k oj o' t hj ho' (Ne.symm hk) hdj)]
          have hjn : j < n := by
            have := (List.getElem?_eq_some_iff.1 hj).1
            simp at this; omega
          exact inv.val j oj t u hj hdj hu' (unl_zero hu j hjn)
        · rw [runF_not fun k o' ho' hd' => hw ⟨k, o', ho', hd'⟩]
          exact inv.old t fun k ok hk hdk => absurd ⟨k, ok, hk, hdk⟩ hw
      · rw [e1]
        have e4 : ∀ h, getH (hrun ts st.H) h = getH (HLof (fun j => listed.getD j false) ts 0 st.H) h := by
          intro h
          have := HL_run ts 0 n st.H
          rw [List.take_of_length_le (by omega)] at this
          rw [← this]
          refine HL_congr ts 0 _ _ h rfl fun j t hj _ => ?_
          have hjn : j < n := by have := (List.getElem?_eq_some_iff.1 hj).1; omega
          simp only [Nat.zero_add]
          rw [unl_zero hu j hjn, decide_eq_true hjn]
        exact inv.mem.drop fun k => .inl (e4 k)
    have := wpAny_of_seq (md := .any) (Q' := Q) (ops.toList.drop n) n listed a' w' (fun j => by simp [List.getElem?_drop]) hseq (opsG_of hΓ _ hd2 inv.tsize hb1 hk hQ)
    have e : (ops.toList.drop n).length = ops.size - n := by simp
    rwa [e] at this
end
end Go.Av
