/- 'copy' into a row of one's own. -/
import Derived.Test.YtnoamanjajighaaAv23
import Derived.Laws.IdiomCopy
set_option linter.unusedVariables false
set_option linter.unusedSimpArgs false
namespace Go.Av
open Go
section
variable {R : Type} {P : Program} {ι : Nat → HI} {Fz : Nat → Prop} {w : World} {w0 : Root} {Fz0 : Nat → Prop}
theorem run_copy_gen {dT sT ty elem : TypeId} {i : TypeInfo} (hu : P.underlying dT = some (.slice elem)) (hi : P.info? elem = some i) (h1 : i.size = 1) {b dLen dCap : Nat} {src : Option Addr} {sLen sCap : Nat} {cs : List Value}
    (hn : cs.length = Nat.min sLen dLen) (hsrc : cs = [] ∨ ∃ a, src = some a ∧ ∀ j v, cs[j]? = some v → w.cell? (a.add j) = some v) {vs : List Value} {T : TypeId} (hb : w.heap[b]? = some (.cells vs.toArray T (0, 0))) (hfit : cs.length ≤ vs.length) (hone : ∀ v ∈ cs, v.oneCell' = true) :
    ∃ w', (Builtin.copy_ #[dT, sT] ty #[.slice (some ⟨b, 0, none⟩) dLen dCap, .slice src sLen sCap]).run P w = .ok (goInt cs.length) w' ∧ Upd w w' b (.cells (setV vs 0 cs).toArray T (0, 0)) := by
  have hti := run_typeInfo (P := P) (w := w) hi
  rcases hsrc with rfl | ⟨a, rfl, hsrc⟩
  · refine ⟨w, ?_, Upd.refl hb⟩
    have hn' : Nat.min sLen dLen = 0 := hn.symm
    exact run_copy_none (P := P) w dT sT ty elem (some ⟨b, 0, none⟩) src dLen dCap sLen sCap hu (by rw [hi]; simp [h1]) hn'
  · have hl := run_loadCells_list (P := P) w a cs hsrc
    obtain ⟨w', hr, hup⟩ := run_storeCells (P := P) cs vs w 0 0 hb (by omega) hone
    refine ⟨w', ?_, by simpa using hup⟩
    simp [Builtin.copy_, run_underlying hu, Builtin.lenOf, Builtin.firstCells, sizeOf, hti, h1, ← hn, hl, hr]
theorem run_copy_at {dT sT ty elem : TypeId} {i : TypeInfo} (hu : P.underlying dT = some (.slice elem)) (hi : P.info? elem = some i) (h1 : i.size = 1) {b o dLen dCap : Nat} {src : Option Addr} {sLen sCap : Nat} {cs : List Value}
    (hn : cs.length = Nat.min sLen dLen) (hsrc : cs = [] ∨ ∃ a, src = some a ∧ ∀ j v, cs[j]? = some v → w.cell? (a.add j) = some v) {vs : List Value} {T : TypeId} (hb : w.heap[b]? = some (.cells vs.toArray T (0, 0))) (hfit : o + cs.length ≤ vs.length) (hone : ∀ v ∈ cs, v.oneCell' = true) :
    ∃ w', (Builtin.copy_ #[dT, sT] ty #[.slice (some ⟨b, o, none⟩) dLen dCap, .slice src sLen sCap]).run P w = .ok (goInt cs.length) w' ∧ Upd w w' b (.cells (setV vs o cs).toArray T (0, 0)) := by
  have hti := run_typeInfo (P := P) (w := w) hi
  rcases hsrc with rfl | ⟨a, rfl, hsrc⟩
  · refine ⟨w, ?_, Upd.refl hb⟩
    have hn' : Nat.min sLen dLen = 0 := hn.symm
    exact run_copy_none (P := P) w dT sT ty elem (some ⟨b, o, none⟩) src dLen dCap sLen sCap hu (by rw [hi]; simp [h1]) hn'
  · have hl := run_loadCells_list (P := P) w a cs hsrc
    obtain ⟨w', hr, hup⟩ := run_storeCells (P := P) cs vs w o 0 hb (by omega) hone
    refine ⟨w', ?_, by simpa using hup⟩
    simp [Builtin.copy_, run_underlying hu, Builtin.lenOf, Builtin.firstCells, sizeOf, hti, h1, ← hn, hl, hr]
theorem Mem.same {H H' : List (Nat × AB)} (m : Mem w0 Fz0 ι Fz H w) (h : ∀ k, getH H' k = getH H k) : Mem w0 Fz0 ι Fz H' w :=
  ⟨m.below, m.fz, m.fz0, m.fzn, fun k => by rw [h]; exact m.rb k, fun k hk hv => m.sep k (by rw [← h]; exact hk) hv, fun k k' hk hk' => m.inj k k' (by rw [← h]; exact hk) (by rw [← h]; exact hk'), m.iot, fun k => by rw [h]; exact m.cn k, m.gz⟩
theorem list_pick {α : Type} {p : Nat → α → Prop} : ∀ (n : Nat), (∀ i < n, ∃ x, p i x) → ∃ xs : List α, xs.length = n ∧ ∀ i x, xs[i]? = some x → p i x
  | 0, _ => ⟨[], rfl, fun i x h => by simp at h⟩
  | n + 1, h => by
    obtain ⟨xs, hl, hx⟩ := list_pick n (fun i hi => h i (by omega))
    obtain ⟨y, hy⟩ := h n (by omega)
    refine ⟨xs ++ [y], by simp [hl], fun i x hi => ?_⟩
    rcases Nat.lt_or_ge i n with hlt | hge
    · rw [List.getElem?_append_left (by omega)] at hi; exact hx i x hi
    · rw [List.getElem?_append_right (by omega)] at hi
      have h0 : i - xs.length = 0 := by
        rcases Nat.eq_zero_or_pos (i - xs.length) with h | h
        · exact h
        · rw [List.getElem?_eq_none (by simp; omega)] at hi; cases hi
      rw [h0] at hi
      simp only [List.getElem?_cons_zero, Option.some.injEq] at hi
      subst hi
      have : i = n := by omega
      rw [this]; exact hy
theorem cpS_of {t el : TypeId} {st : St} {κ₀ : Kd} {g off len : Nat} {xv : AV} {vs vx : Value} {K : AV → List (Nat × AB) → List Nat → Option R} {r : R} {E : Env} {a : Act} (b : Behind w0 Fz0 ι Fz st a w) (hu : E.P.underlying t = some (.slice el)) (hs : RV ι Fz w (.sub κ₀ g off len) vs) (hx : RV ι Fz w xv vx)
    (h : (match getH st.H g with
      | .arr e κ xs => bif decide (κ₀ = κ) && Nat.beq κ.size 1 && sizeB E.P el 1 && κ.plain then (argD st.H (.list κ) xv).bind fun ys => K (.pv (.int .i64) ((min ys.length len : Nat) : Int)) [(g, .arr e κ (xs.take off ++ (ys.take len ++ xs.drop (off + min ys.length len))))] [] else none
      | _ => none) = some r) : ∃ (n : Int) (ks : List (Nat × AB)), K (.pv (.int .i64) n) ks [] = some r ∧ ∃ w', (∀ sT ty, (Builtin.copy_ #[t, sT] ty #[vs, vx]).run E.P w = .ok (.int .i64 n) w') ∧ Behind w0 Fz0 ι Fz ⟨st.fr, ks ++ st.H, st.df⟩ a w' := by
  have m := b.2.2
  split at h
  rotate_left
  · cases h
  rename_i e κ xs hg
  cases hc : (decide (κ₀ = κ) && Nat.beq κ.size 1 && sizeB E.P el 1 && κ.plain) with
  | false => rw [hc] at h; cases h
  | true =>
    rw [hc, cond_true] at h
    simp only [Bool.and_eq_true, decide_eq_true_eq] at hc
    obtain ⟨⟨⟨rfl, hc1⟩, hc2⟩, hpl⟩ := hc
    have hsz := Nat.eq_of_beq_eq_true hc1
    obtain ⟨inf, hinf, hi1⟩ := sizeB_of hc2
    obtain ⟨ys, hy, h⟩ := Option.bind_eq_some_iff.1 h
    have hpv : RV ι (lent ι Fz st.H) w (.pv (.list κ₀) ys) vx := argD_of m.rb (fun _ h => .inl h) hy hx (fun h _ hl hv => .inr ⟨h, isArr_live hl, hv, rfl⟩)
    simp only [RV, Kd.isAgg, RP, Bool.false_eq_true, if_false] at hpv
    obtain ⟨vx', hvx, ha⟩ := hpv
    simp only [List.cons.injEq, and_true] at hvx
    subst hvx
    obtain ⟨sa, sc, rfl, hlc, hel⟩ := ha
    have hrb := m.rb g
    rw [hg] at hrb
    simp only [RB] at hrb
    simp only [RV] at hs
    obtain ⟨hol, hs⟩ := hs
    refine ⟨_, _, h, ?_⟩
    have none_ : len = 0 → ∀ (d : Option Addr) (c : Nat), ∃ w', (∀ sT ty, (Builtin.copy_ #[t, sT] ty #[.slice d len c, .slice sa ys.length sc]).run E.P w = .ok (.int .i64 ((min ys.length len : Nat) : Int)) w') ∧ Behind w0 Fz0 ι Fz ⟨st.fr, [(g, AB.arr e κ₀ (xs.take off ++ (ys.take len ++ xs.drop (off + min ys.length len))))] ++ st.H, st.df⟩ a w' := by
      intro hl0 d c
      subst hl0
      refine ⟨w, fun sT ty => ?_, b.1, b.2.1, m.same fun k => ?_⟩
      · have := run_copy_none (P := E.P) w t sT ty el d sa 0 c ys.length sc hu (by rw [hinf]; simp [hi1]) (by simp)
        rw [this]
        simp [goInt]
      · show getH ((g, AB.arr e κ₀ (xs.take off ++ (ys.take 0 ++ xs.drop (off + min ys.length 0)))) :: st.H) k = getH st.H k
        rw [getH_cons]
        split
        · rename_i e'
          subst e'
          rw [hg]; simp
        · rfl
    rcases hs with ⟨hl0, aa, c, rfl, _⟩ | ⟨hv, c, rfl, hlc', hoc⟩
    · subst hl0
      exact none_ rfl aa c
    · rcases hrb.2 with ⟨hvi, _⟩ | ⟨_, cells, hh, h2, h3, h4, h5⟩
      · rw [hvi] at hv; cases hv
      have hox : off + len ≤ xs.length := by rw [← hrb.1]; exact hol
      have hpick : ∀ i < min ys.length len, ∃ u : Value, u.oneCell' = true ∧ (∃ q, ys[i]? = some q ∧ RP (lent ι Fz st.H) w κ₀ q [u]) ∧ (∀ bb off, sa = some ⟨bb, off, none⟩ → ys ≠ [] → w.cell? ⟨bb, off + i, none⟩ = some u) := by
        intro i hi
        have hiy : i < ys.length := by omega
        rcases hel with rfl | ⟨bb, off, rfl, hbb, hel⟩
        · simp at hiy
        · obtain ⟨es, e1, e2, e3⟩ := hel i ys[i] (List.getElem?_eq_getElem hiy)
          rw [hsz] at e2 e3
          match es, e2, e1, e3 with
          | [u], _, e1, e3 =>
            refine ⟨u, RP_one κ₀ _ _ e1 u (by simp), ⟨_, List.getElem?_eq_getElem hiy, e1⟩, fun b' off' he _ => ?_⟩
            simp only [Option.some.injEq, Addr.mk.injEq, and_true] at he
            obtain ⟨rfl, rfl⟩ := he
            have := e3 0 u rfl
            simpa using this
      obtain ⟨cs, hcl, hcs⟩ := list_pick (min ys.length len) hpick
      have hh' : w.heap[(ι g).blk]? = some (.cells cells.toList.toArray e (0, 0)) := by simpa using hh
      have hcap : cells.toList.length = (ι g).cap := by rw [Array.length_toList, h4, hsz, Nat.mul_one]
      have hom : off * κ₀.size = off := by rw [hsz, Nat.mul_one]
      rw [hom]
      obtain ⟨w', hrun, hup⟩ : ∃ w', (∀ sT ty, (Builtin.copy_ #[t, sT] ty #[.slice (some ⟨(ι g).blk, off, none⟩) len c, .slice sa ys.length sc]).run E.P w = .ok (goInt cs.length) w') ∧ Upd w w' (ι g).blk (.cells (setV cells.toList off cs).toArray e (0, 0)) := by
        have hsrc : cs = [] ∨ ∃ a, sa = some a ∧ ∀ j v, cs[j]? = some v → w.cell? (a.add j) = some v := by
          rcases hel with rfl | ⟨bb, off, rfl, hbb, _⟩
          · left; exact List.eq_nil_of_length_eq_zero (by simp [hcl])
          · right
            refine ⟨_, rfl, fun j v hj => ?_⟩
            rw [Addr.add_lit]
            have hjl := (List.getElem?_eq_some_iff.1 hj).1
            refine (hcs j v hj).2.2 bb off rfl (fun e => ?_)
            have : cs.length = 0 := by rw [hcl, e]; simp
            omega
        obtain ⟨w', h1, h2'⟩ := run_copy_at (P := E.P) (sT := t) (ty := t) (o := off) (dCap := c) (sCap := sc) hu hinf hi1 (dLen := len) (sLen := ys.length) (cs := cs) (by rw [hcl]) hsrc hh' (by rw [hcl, hcap]; omega) (fun v hv => by
          obtain ⟨j, hj⟩ := List.mem_iff_getElem?.1 hv
          exact (hcs j v hj).1)
        refine ⟨w', fun sT ty => ?_, h2'⟩
        have e1 : ∀ s1 y1 s2 y2, Builtin.copy_ #[t, s1] y1 #[.slice (some ⟨(ι g).blk, off, none⟩) len c, .slice sa ys.length sc] = Builtin.copy_ #[t, s2] y2 #[.slice (some ⟨(ι g).blk, off, none⟩) len c, .slice sa ys.length sc] := fun _ _ _ _ => rfl
        rw [e1 sT ty t t]; exact h1
      have hlive : (getH st.H g).live := by rw [hg]; trivial
      obtain ⟨s1, s2, s3⟩ := m.sep g hlive hv
      have hw : ∀ b, Fz b → w'.heap[b]? = w.heap[b]? := fun k hk => hup.ne k (fun e => s3 (e ▸ hk))
      have hnew : (xs.take off ++ (ys.take len ++ xs.drop (off + min ys.length len))).length = xs.length := by simp; omega
      refine ⟨w', fun sT ty => by rw [hrun sT ty, hcl]; rfl, b.mono hw (fun _ h => h) (m.upd hlive hv hup ?_ trivial (by have := m.cn g; rw [hg] at this; exact this))⟩
      simp only [RB]
      refine ⟨by rw [hnew]; exact hrb.1, .inr ⟨hv, _, hup.at', by rw [hnew]; exact h2, h3, by rw [List.size_toArray, setV_len]; simpa using h4, fun k u hk => ?_⟩⟩
      have old : ∀ (k : Nat) (u : Den κ₀), xs[k]? = some u → (k < off ∨ off + cs.length ≤ k) → ∃ es, RP Fz w' κ₀ u es ∧ es.length = κ₀.size ∧ ∀ j q, es[j]? = some q → (setV cells.toList off cs).toArray[k * κ₀.size + j]? = some q := by
        intro k u hk ho
        obtain ⟨es, a1, a2, a3⟩ := h5 k u hk
        refine ⟨es, RP_mono hw (fun _ h => h) _ _ _ a1, a2, fun j q hj => ?_⟩
        have hjl := (List.getElem?_eq_some_iff.1 hj).1
        have := a3 j q hj
        rw [hsz] at a2 this ⊢
        have hj0 : j = 0 := by omega
        subst hj0
        rw [Nat.mul_one, Nat.add_zero] at this ⊢
        rw [List.getElem?_toArray]
        rcases ho with ho | ho
        · rw [setV_lt _ _ _ _ ho]; simpa using this
        · rw [setV_ge _ _ _ _ ho]; simpa using this
      rcases Nat.lt_or_ge k off with hlt | hge
      · rw [List.getElem?_append_left (by simp; omega), List.getElem?_take, if_pos hlt] at hk
        exact old k u hk (.inl hlt)
      · rw [List.getElem?_append_right (by simp; omega)] at hk
        have hto : (xs.take off).length = off := by simp; omega
        rw [hto] at hk
        rcases Nat.lt_or_ge (k - off) (min ys.length len) with hlt | hge'
        · rw [List.getElem?_append_left (by simp; omega), List.getElem?_take, if_pos (by omega)] at hk
          obtain ⟨c', hc'⟩ : ∃ c, cs[k - off]? = some c := ⟨cs[k - off]'(by omega), List.getElem?_eq_getElem (by omega)⟩
          obtain ⟨o1, ⟨q, hq, hrp⟩, _⟩ := hcs (k - off) c' hc'
          rw [hk] at hq
          cases hq
          refine ⟨[c'], RP_plain _ _ _ hpl hrp, by simp [hsz], fun j u' hj => ?_⟩
          cases j with
          | zero =>
            simp only [List.getElem?_cons_zero, Option.some.injEq] at hj
            subst hj
            rw [List.getElem?_toArray, hsz, Nat.mul_one, Nat.add_zero]
            have := setV_in cs cells.toList off (k - off) (by omega) (by omega)
            rw [show off + (k - off) = k by omega] at this
            rw [this, hc']
          | succ j => simp at hj
        · rw [List.getElem?_append_right (by simp; omega), List.getElem?_drop] at hk
          have hyl : (ys.take len).length = min ys.length len := by simp; omega
          rw [hyl, show off + min ys.length len + (k - off - min ys.length len) = k by omega] at hk
          exact old k u hk (.inr (by omega))
theorem cpX_of {t : TypeId} {st : St} {sv xv : AV} {vs vx : Value} {K : AV → List (Nat × AB) → List Nat → Option R} {r : R} {E : Env} {a : Act} (b : Behind w0 Fz0 ι Fz st a w) (hs : RV ι Fz w sv vs) (hx : RV ι Fz w xv vx)
    (h : cpX E t st.H sv xv K = some r) : ∃ (n : Int) (ks : List (Nat × AB)), K (.pv (.int .i64) n) ks [] = some r ∧ ∃ w', (∀ sT ty, (Builtin.copy_ #[t, sT] ty #[vs, vx]).run E.P w = .ok (.int .i64 n) w') ∧ Behind w0 Fz0 ι Fz ⟨st.fr, ks ++ st.H, st.df⟩ a w' := by
  have m := b.2.2
  unfold cpX elemK at h
  split at h
  rotate_left
  · cases h
  rename_i el hu
  split at h
  rotate_left
  · exact cpS_of b hu hs hx h
  · simp only [RV] at hs
    subst hs
    obtain ⟨κ, hkd, h⟩ := Option.bind_eq_some_iff.1 h
    cases hc : sizeB E.P el 1 with
    | false => rw [hc] at h; cases h
    | true =>
      rw [hc, cond_true] at h
      obtain ⟨inf, hinf, hi1⟩ := sizeB_of hc
      obtain ⟨ys, hy, h⟩ := Option.bind_eq_some_iff.1 h
      have hpv : RV ι (lent ι Fz st.H) w (.pv (.list κ) ys) vx := argD_of m.rb (fun _ h => .inl h) hy hx (fun h _ hl hv => .inr ⟨h, isArr_live hl, hv, rfl⟩)
      simp only [RV, Kd.isAgg, RP, Bool.false_eq_true, if_false] at hpv
      obtain ⟨vx', hvx, ha⟩ := hpv
      simp only [List.cons.injEq, and_true] at hvx
      subst hvx
      obtain ⟨sa, sc, rfl, _⟩ := ha
      refine ⟨0, [], h, w, fun sT ty => ?_, b⟩
      have := run_copy_none (P := E.P) w t sT ty el none sa 0 0 ys.length sc hu (by rw [hinf]; simp [hi1]) (by simp)
      rw [this]
      simp [goInt]
  · cases h
  rename_i κ0 g
  split at h
  rotate_left
  · cases h
  rename_i e κ xs hg
  dsimp only at h
  cases hc : (Nat.beq κ.size 1 && sizeB E.P el 1 && κ.plain) with
  | false => rw [hc] at h; cases h
  | true =>
    rw [hc, cond_true] at h
    simp only [Bool.and_eq_true] at hc
    have hsz := Nat.eq_of_beq_eq_true hc.1.1
    obtain ⟨inf, hinf, hi1⟩ := sizeB_of hc.1.2
    have hpl := hc.2
    obtain ⟨ys, hy, h⟩ := Option.bind_eq_some_iff.1 h
    have hpv : RV ι (lent ι Fz st.H) w (.pv (.list κ) ys) vx := argD_of m.rb (fun _ h => .inl h) hy hx (fun h _ hl hv => .inr ⟨h, isArr_live hl, hv, rfl⟩)
    simp only [RV, Kd.isAgg, RP, Bool.false_eq_true, if_false] at hpv
    obtain ⟨vx', hvx, ha⟩ := hpv
    simp only [List.cons.injEq, and_true] at hvx
    subst hvx
    obtain ⟨sa, sc, rfl, hlc, hel⟩ := ha
    have hrb := m.rb g
    rw [hg] at hrb
    simp only [RB] at hrb
    simp only [RV] at hs
    refine ⟨_, _, h, ?_⟩
    rcases hrb.2 with ⟨hvi, rfl⟩ | ⟨hv, cells, hh, h2, h3, h4, h5⟩
    · rcases hs with ⟨_, rfl⟩ | ⟨hv', _⟩
      rotate_left
      · rw [hvi] at hv'; cases hv'
      refine ⟨w, fun sT ty => ?_, b.1, b.2.1, m.same fun k => ?_⟩
      · have := run_copy_none (P := E.P) w t sT ty el none sa 0 0 ys.length sc hu (by rw [hinf]; simp [hi1]) (by simp)
        rw [this]
        simp [goInt]
      · show getH ((g, AB.arr e κ (ys.take ([] : List (Den κ)).length ++ ([] : List (Den κ)).drop ys.length)) :: st.H) k = getH st.H k
        rw [getH_cons]
        split
        · rename_i e'
          subst e'
          rw [hg]; simp
        · rfl
    · rcases hs with ⟨hv', _⟩ | ⟨_, rfl⟩
      · rw [hv] at hv'; cases hv'
      have hpick : ∀ i < min ys.length xs.length, ∃ u : Value, u.oneCell' = true ∧ (∃ q, ys[i]? = some q ∧ RP (lent ι Fz st.H) w κ q [u]) ∧ (∀ bb off, sa = some ⟨bb, off, none⟩ → ys ≠ [] → w.cell? ⟨bb, off + i, none⟩ = some u) := by
        intro i hi
        have hiy : i < ys.length := by omega
        rcases hel with rfl | ⟨bb, off, rfl, hbb, hel⟩
        · simp at hiy
        · obtain ⟨es, e1, e2, e3⟩ := hel i ys[i] (List.getElem?_eq_getElem hiy)
          rw [hsz] at e2 e3
          match es, e2, e1, e3 with
          | [u], _, e1, e3 =>
            refine ⟨u, RP_one κ _ _ e1 u (by simp), ⟨_, List.getElem?_eq_getElem hiy, e1⟩, fun b' off' he _ => ?_⟩
            simp only [Option.some.injEq, Addr.mk.injEq, and_true] at he
            obtain ⟨rfl, rfl⟩ := he
            have := e3 0 u rfl
            simpa using this
      obtain ⟨cs, hcl, hcs⟩ := list_pick (min ys.length xs.length) hpick
      have hh' : w.heap[(ι g).blk]? = some (.cells cells.toList.toArray e (0, 0)) := by simpa using hh
      have hcap : cells.toList.length = (ι g).cap := by rw [Array.length_toList, h4, hsz, Nat.mul_one]
      obtain ⟨w', hrun, hup⟩ : ∃ w', (∀ sT ty, (Builtin.copy_ #[t, sT] ty #[.slice (some ⟨(ι g).blk, 0, none⟩) (ι g).len (ι g).cap, .slice sa ys.length sc]).run E.P w = .ok (goInt cs.length) w') ∧ Upd w w' (ι g).blk (.cells (setV cells.toList 0 cs).toArray e (0, 0)) := by
        have hsrc : cs = [] ∨ ∃ a, sa = some a ∧ ∀ j v, cs[j]? = some v → w.cell? (a.add j) = some v := by
          rcases hel with rfl | ⟨bb, off, rfl, hbb, _⟩
          · left; exact List.eq_nil_of_length_eq_zero (by simp [hcl])
          · right
            refine ⟨_, rfl, fun j v hj => ?_⟩
            rw [Addr.add_lit]
            have hjl := (List.getElem?_eq_some_iff.1 hj).1
            refine (hcs j v hj).2.2 bb off rfl (fun e => ?_)
            have : cs.length = 0 := by rw [hcl, e]; simp
            omega
        obtain ⟨w', h1, h2'⟩ := run_copy_gen (P := E.P) (sT := t) (ty := t) (dCap := (ι g).cap) (sCap := sc) hu hinf hi1 (dLen := (ι g).len) (sLen := ys.length) (cs := cs) (by rw [hcl, hrb.1]) hsrc hh' (by rw [hcl, hcap]; omega) (fun v hv => by
          obtain ⟨j, hj⟩ := List.mem_iff_getElem?.1 hv
          exact (hcs j v hj).1)
        refine ⟨w', fun sT ty => ?_, h2'⟩
        have e1 : ∀ s1 y1 s2 y2, Builtin.copy_ #[t, s1] y1 #[.slice (some ⟨(ι g).blk, 0, none⟩) (ι g).len (ι g).cap, .slice sa ys.length sc] = Builtin.copy_ #[t, s2] y2 #[.slice (some ⟨(ι g).blk, 0, none⟩) (ι g).len (ι g).cap, .slice sa ys.length sc] := fun _ _ _ _ => rfl
        rw [e1 sT ty t t]; exact h1
      have hlive : (getH st.H g).live := by rw [hg]; trivial
      obtain ⟨s1, s2, s3⟩ := m.sep g hlive hv
      have hw : ∀ b, Fz b → w'.heap[b]? = w.heap[b]? := fun k hk => hup.ne k (fun e => s3 (e ▸ hk))
      have hnew : (ys.take xs.length ++ xs.drop ys.length).length = xs.length := by simp; omega
      refine ⟨w', fun sT ty => by rw [hrun sT ty, hcl]; rfl, b.mono hw (fun _ h => h) (m.upd hlive hv hup ?_ trivial (by have := m.cn g; rw [hg] at this; exact this))⟩
      simp only [RB]
      refine ⟨by rw [hnew]; exact hrb.1, .inr ⟨hv, _, hup.at', by rw [hnew]; exact h2, h3, by rw [List.size_toArray, setV_len]; simpa using h4, fun k u hk => ?_⟩⟩
      have hkl : k < xs.length := by have := (List.getElem?_eq_some_iff.1 hk).1; omega
      rcases Nat.lt_or_ge k ys.length with hlt | hge
      · rw [List.getElem?_append_left (by simp; omega), List.getElem?_take, if_pos hkl] at hk
        obtain ⟨c, hc'⟩ : ∃ c, cs[k]? = some c := ⟨cs[k]'(by omega), List.getElem?_eq_getElem (by omega)⟩
        obtain ⟨o1, ⟨q, hq, hrp⟩, _⟩ := hcs k c hc'
        rw [hk] at hq
        cases hq
        refine ⟨[c], RP_plain _ _ _ hpl hrp, by simp [hsz], fun j u' hj => ?_⟩
        cases j with
        | zero =>
          simp only [List.getElem?_cons_zero, Option.some.injEq] at hj
          subst hj
          rw [List.getElem?_toArray, hsz, Nat.mul_one, Nat.add_zero]
          have := setV_in cs cells.toList 0 k (by omega) (by omega)
          rw [Nat.zero_add] at this
          rw [this, hc']
        | succ j => simp at hj
      · rw [List.getElem?_append_right (by simp; omega), List.getElem?_drop] at hk
        have hkk : ys.length + (k - (ys.take xs.length).length) = k := by simp; omega
        rw [hkk] at hk
        obtain ⟨es, a1, a2, a3⟩ := h5 k u hk
        refine ⟨es, RP_mono hw (fun _ h => h) _ _ _ a1, a2, fun j q hj => ?_⟩
        have hjl := (List.getElem?_eq_some_iff.1 hj).1
        rw [List.getElem?_toArray, setV_ge _ _ _ _ (by rw [hsz]; omega)]
        simpa using a3 j q hj
end
end Go.Av
