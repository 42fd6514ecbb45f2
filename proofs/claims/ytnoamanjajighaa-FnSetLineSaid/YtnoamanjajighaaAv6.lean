/- The operations that only read, or make memory of their own: what the evaluator says of them is what the model does. -/
import Derived.Test.YtnoamanjajighaaAv5
set_option linter.unusedVariables false
set_option linter.unusedSimpArgs false
namespace Go.Av
open Go Go.RowKit

theorem sizeB_of {P : Program} {t : TypeId} {n : Nat} (h : sizeB P t n = true) : ∃ i, P.info? t = some i ∧ i.size = n := by
  unfold sizeB at h
  split at h
  · rename_i i hi; exact ⟨i, hi, Nat.eq_of_beq_eq_true h⟩
  · cases h
theorem sizeK_of {R : Type} {P : Program} {t : TypeId} {K : Nat → Option R} {r : R} (h : sizeK P t K = some r) : ∃ i, P.info? t = some i ∧ K i.size = some r := by
  unfold sizeK at h
  split at h
  · rename_i i hi; exact ⟨i, hi, h⟩
  · cases h
theorem fieldK_of {R : Type} {P : Program} {t : TypeId} {f : Nat} {K : Field → Option R} {r : R} (h : fieldK P t f K = some r) : ∃ fs x, P.underlying t = some (.struct fs) ∧ fs[f]? = some x ∧ K x = some r := by
  unfold fieldK at h
  split at h
  · rename_i fs hfs
    split at h
    · rename_i x hx; exact ⟨fs, x, hfs, hx, h⟩
    · cases h
  · cases h
theorem elemK_of {R : Type} {P : Program} {t : TypeId} {K : TypeId → Option R} {r : R} (h : elemK P t K = some r) : ∃ e, P.underlying t = some (.slice e) ∧ K e = some r := by
  unfold elemK at h
  split at h
  · rename_i e he; exact ⟨e, he, h⟩
  · cases h
theorem idxK_of {R : Type} {j : Int} {K : Nat → Option R} {r : R} : ∀ (m q : Nat), idxK j K m q = some r → ∃ p, q ≤ p ∧ p < q + m ∧ j = (p : Int) ∧ K p = some r
  | 0, _, h => by simp [idxK] at h
  | m + 1, q, h => by
    simp only [idxK] at h
    cases hd : decide (j = (q : Int)) with
    | true => rw [hd, cond_true] at h; exact ⟨q, Nat.le_refl _, by omega, of_decide_eq_true hd, h⟩
    | false =>
      rw [hd, cond_false] at h
      obtain ⟨p, h1, h2, h3, h4⟩ := idxK_of m (q + 1) h
      exact ⟨p, by omega, by omega, h3, h4⟩
theorem arrT_of {P : Program} {t : TypeId} {n : Nat} {el : TypeId} (h : arrT P t = some (n, el)) : P.underlying t = some (.array n el) := by
  unfold arrT at h
  split at h
  · rename_i hu
    simp only [Option.some.injEq, Prod.mk.injEq] at h
    obtain ⟨rfl, rfl⟩ := h
    exact hu
  · cases h
theorem chk2_of {l h : Int} {len : Nat} {p : Nat × Nat} (hh : chk2 l h len = some p) : 0 ≤ l ∧ l ≤ h ∧ h ≤ len ∧ p = (l.toNat, h.toNat) := by
  unfold chk2 at hh
  split at hh
  · rename_i c; simp only [Option.some.injEq] at hh; exact ⟨c.1, c.2.1, c.2.2, hh.symm⟩
  · cases hh
theorem chk_of {n : Int} {len j : Nat} (hh : chk n len = some j) : 0 ≤ n ∧ n < len ∧ j = n.toNat := by
  unfold chk at hh
  split at hh
  · rename_i c; simp only [Option.some.injEq] at hh; exact ⟨c.1, c.2, hh.symm⟩
  · cases hh
theorem nth_of {α : Type} {xs : List α} {n : Int} {x : α} (h : nth xs n = some x) : 0 ≤ n ∧ n.toNat < xs.length ∧ xs[n.toNat]? = some x := by
  unfold nth at h
  split at h
  · rename_i c; exact ⟨c, (List.getElem?_eq_some_iff.1 h).1, h⟩
  · cases h
theorem lim_of {n : Nat} {u : Unit} (h : lim n = some u) : n ≤ 140737488355328 := by
  unfold lim at h
  split at h
  · assumption
  · cases h

theorem prjK_of {R : Type} : ∀ (κ : Kd) (x : Den κ) (n : Nat) (K : (κ' : Kd) → Den κ' → Nat → Option R) (r : R), prjK κ x n K = some r →
    ∃ κ' y o, K κ' y o = some r ∧ ∀ (Fz : Nat → Prop) (w : World) (es : List Value), RP Fz w κ x es → ∃ e1 e2 e3, es = e1 ++ e2 ++ e3 ∧ e1.length = o ∧ RP Fz w κ' y e2
  | .int _, _, _, _, _, h => by simp [prjK] at h
  | .float, _, _, _, _, h => by simp [prjK] at h
  | .bool, _, _, _, _, h => by simp [prjK] at h
  | .str, _, _, _, _, h => by simp [prjK] at h
  | .list _, _, _, _, _, h => by simp [prjK] at h
  | .unit, _, _, _, _, h => by simp [prjK] at h
  | .pair a b, x, 0, K, r, h => by
    simp only [prjK] at h
    exact ⟨a, x.1, 0, h, fun Fz w es ⟨c1, c2, e, h1, h2⟩ => ⟨[], c1, c2, by simpa using e, rfl, h1⟩⟩
  | .pair a b, x, n + 1, K, r, h => by
    simp only [prjK] at h
    obtain ⟨κ', y, o, hk, hr⟩ := prjK_of b x.2 n _ r h
    refine ⟨κ', y, a.size + o, hk, fun Fz w es ⟨c1, c2, e, h1, h2⟩ => ?_⟩
    obtain ⟨e1, e2, e3, rfl, h3, h4⟩ := hr Fz w c2 h2
    exact ⟨c1 ++ e1, e2, e3, by simp [e], by rw [List.length_append, RP_len a _ _ h1, h3], h4⟩
  | .geo, g, n, K, r, h => by
    have key : ∀ (Fz : Nat → Prop) (w : World) (es : List Value), RP Fz w .geo g es → ∃ v3 v4 v5 v6, es = [.int .i64 g.kind, .int .i64 g.layout, .int .i64 g.srid, v3, v4, v5, v6] ∧
        RP Fz w (.list .float) g.flat [v3] ∧ RP Fz w (.list (.int .i64)) g.ends [v4] ∧ RP Fz w (.list (.list (.int .i64))) g.endss [v5] ∧ RP Fz w (.list .geo) g.kids [v6] := by
      intro Fz w es hr
      cases g with
      | mk kd ly sr flat ends endss kids =>
      simp only [RP, RG] at hr
      obtain ⟨v3, v4, v5, a, c, rfl, h3, h4, h5, hl, h6⟩ := hr
      refine ⟨v3, v4, v5, _, rfl, ⟨_, rfl, h3⟩, ⟨_, rfl, h4⟩, ⟨_, rfl, h5⟩, ⟨_, rfl, a, c, rfl, hl, ?_⟩⟩
      rcases h6 with h6 | ⟨b, off, ha, hb, h6⟩
      · exact .inl h6
      · exact .inr ⟨b, off, ha, hb, fun i x hx => RGs_at kids b off i x h6 hx⟩
    match n, h with
    | 0, h => exact ⟨_, _, _, h, fun Fz w es hr => by obtain ⟨v3, v4, v5, v6, rfl, _⟩ := key Fz w es hr; exact ⟨[], [_], _, rfl, rfl, rfl⟩⟩
    | 1, h => exact ⟨_, _, _, h, fun Fz w es hr => by obtain ⟨v3, v4, v5, v6, rfl, _⟩ := key Fz w es hr; exact ⟨[_], [_], _, rfl, rfl, rfl⟩⟩
    | 2, h => exact ⟨_, _, _, h, fun Fz w es hr => by obtain ⟨v3, v4, v5, v6, rfl, _⟩ := key Fz w es hr; exact ⟨[_, _], [_], _, rfl, rfl, rfl⟩⟩
    | 3, h => exact ⟨_, _, _, h, fun Fz w es hr => by obtain ⟨v3, v4, v5, v6, rfl, h3, _⟩ := key Fz w es hr; exact ⟨[_, _, _], [_], _, rfl, rfl, h3⟩⟩
    | 4, h => exact ⟨_, _, _, h, fun Fz w es hr => by obtain ⟨v3, v4, v5, v6, rfl, _, h3, _⟩ := key Fz w es hr; exact ⟨[_, _, _, _], [_], _, rfl, rfl, h3⟩⟩
    | 5, h => exact ⟨_, _, _, h, fun Fz w es hr => by obtain ⟨v3, v4, v5, v6, rfl, _, _, h3, _⟩ := key Fz w es hr; exact ⟨[_, _, _, _, _], [_], _, rfl, rfl, h3⟩⟩
    | 6, h => exact ⟨_, _, _, h, fun Fz w es hr => by obtain ⟨v3, v4, v5, v6, rfl, _, _, _, h3⟩ := key Fz w es hr; exact ⟨[_, _, _, _, _, _], [_], [], rfl, rfl, h3⟩⟩
    | n + 7, h => simp [prjK] at h

theorem chunks_of {ι : Nat → HI} {Fz Fz' : Nat → Prop} {w : World} {H : List (Nat × AB)} (hrb : ∀ h, RB ι Fz w h (getH H h)) (hf : ∀ b, Fz b → Fz' b) {κ : Kd} :
    ∀ (n : Nat) (cs : List AV) (xs : List (Den κ)) (vs : List Value), chunks H κ n cs = some xs → RVs ι Fz w cs vs →
      (∀ h, mentL h cs = true → (getH H h).isArr → (ι h).virt = false → Fz' (ι h).blk) → xs.length = n ∧ vs.length = n * κ.size ∧ ∀ i x, xs[i]? = some x → RP Fz' w κ x ((vs.drop (i * κ.size)).take κ.size)
  | 0, [], xs, vs, h, hr, _ => by
    simp only [chunks, Option.some.injEq] at h
    subst h
    simp only [RVs] at hr
    subst hr
    exact ⟨rfl, by simp, fun i x hx => by simp at hx⟩
  | 0, _ :: _, _, _, h, _, _ => by simp [chunks] at h
  | n + 1, cs, xs, vs, h, hr, hb => by
    simp only [chunks, Option.bind_eq_some_iff, Option.some.injEq] at h
    obtain ⟨p, h1, ys, h2, rfl⟩ := h
    obtain ⟨v1, v2, rfl, r1, r2, m1⟩ := cellsD_of hrb hf κ cs p.1 p.2 vs h1 hr hb
    obtain ⟨g1, g2, g3⟩ := chunks_of hrb hf n p.2 ys v2 h2 r2 (fun h hh => hb h (m1 h hh))
    have hl := RP_len κ p.1 v1 r1
    refine ⟨by simp [g1], by rw [List.length_append, hl, g2, Nat.add_mul, Nat.one_mul, Nat.add_comm], fun i x hx => ?_⟩
    cases i with
    | zero =>
      simp only [List.getElem?_cons_zero, Option.some.injEq] at hx
      subst hx
      rw [Nat.zero_mul, List.drop_zero, ← hl, List.take_left]
      exact r1
    | succ i =>
      simp only [List.getElem?_cons_succ] at hx
      have := g3 i x hx
      rw [show (i + 1) * κ.size = v1.length + i * κ.size by rw [hl, Nat.add_mul, Nat.one_mul, Nat.add_comm], List.drop_append, List.drop_eq_nil_of_le (by omega), List.nil_append, show v1.length + i * κ.size - v1.length = i * κ.size by omega]
      exact this
theorem Lie.mid {w : World} {e1 e2 e3 : List Value} {b off : Nat} (h : Lie w (e1 ++ e2 ++ e3) b off) : Lie w e2 b (off + e1.length) := by
  intro j u hj
  have hlt : j < e2.length := (List.getElem?_eq_some_iff.1 hj).1
  have := h (e1.length + j) u (by rw [List.append_assoc, List.getElem?_append_right (by omega), show e1.length + j - e1.length = j by omega, List.getElem?_append_left hlt]; exact hj)
  rwa [show off + (e1.length + j) = off + e1.length + j by omega] at this
/-- Loading what lies there. -/
theorem load_lie {P : Program} {ι : Nat → HI} {Fz : Nat → Prop} {w : World} {t : TypeId} {κ : Kd} {x : Den κ} {es : List Value} {b off : Nat} (ha : aggIs P t κ.isAgg = true) (hs : sizeB P t κ.size = true)
    (hr : RP Fz w κ x es) (hl : Lie w es b off) : ∃ v, (loadVar t ⟨b, off, none⟩).run P w = .ok v w ∧ RV ι Fz w (.pv κ x) v := by
  obtain ⟨i, hi, hsz⟩ := sizeB_of hs
  have hlen := RP_len κ x es hr
  cases hk : κ.isAgg with
  | true =>
    rw [hk] at ha
    refine ⟨.agg es.toArray, ?_, by simp only [RV, hk, if_true]; exact ⟨_, rfl, by simpa using hr⟩⟩
    have := run_loadCells_list (P := P) w ⟨b, off, none⟩ es (fun j v hj => by rw [Addr.add_lit]; exact hl j v hj)
    rw [hlen, ← hsz] at this
    simp [loadVar, run_agg ha, run_size hi, this]
  | false =>
    rw [hk] at ha
    have h1 : es.length = 1 := by rw [hlen]; cases κ <;> simp_all [Kd.isAgg, Kd.size]
    obtain ⟨u, rfl⟩ := List.length_eq_one_iff.1 h1
    refine ⟨u, ?_, by simpa only [RV, hk, Bool.false_eq_true, if_false] using hr⟩
    have := hl 0 u rfl
    simp only [Nat.add_zero] at this
    simp [loadVar, run_agg ha, this]
theorem box_cell {w : World} {b : Nat} {vs : List Value} {T : TypeId} (h : w.heap[b]? = some (.cells vs.toArray T (0, 0))) (j : Nat) : w.cell? ⟨b, j, none⟩ = vs[j]? := by
  simp [World.cell?, h]
theorem alive_at : ∀ {cs : List AV} {i : Nat}, aliveL cs = true → cs[i]? ≠ some .dead
  | [], _, _, h => by simp at h
  | c :: cs, 0, hl, h => by
    simp only [List.getElem?_cons_zero, Option.some.injEq] at h
    subst h
    simp [aliveL] at hl
  | c :: cs, i + 1, hl, h => by
    simp only [List.getElem?_cons_succ] at h
    refine alive_at (cs := cs) ?_ h
    revert hl
    cases c <;> simp [aliveL]

section
variable {R : Type} {P : Program} {w0 : Root} {Fz0 : Nat → Prop} {ι : Nat → HI} {Fz : Nat → Prop} {H : List (Nat × AB)} {w : World}
theorem kdK_of {E : Env} {t : TypeId} {K : Kd → Option R} {r : R} (h : kdK E t K = some r) : ∃ κ, E.kd t = some κ ∧ K κ = some r := by
  unfold kdK at h
  split at h
  · rename_i κ hk; exact ⟨κ, hk, h⟩
  · cases h
theorem load_of {t : TypeId} {vx : Value} {K : AV → Option AB → Option R} {r : R} {E : Env} {e : Operand → AV} {a : Operand} {d : Nat} (hP : E.P = P) (m : Mem w0 Fz0 ι Fz H w) (hx : RV ι Fz w (e a) vx)
    (h : opR E (.load t a) e H K d = some r) : ∃ v, K v none = some r ∧ ∃ v', (Instr.loadAt t vx).run P w = .ok v' w ∧ RV ι Fz w v v' := by
  subst hP
  simp only [opR] at h
  split at h
  · -- a box
    rename_i g off he
    rw [he] at hx
    simp only [RV] at hx
    obtain ⟨hv, rfl⟩ := hx
    have hrb := m.rb g
    split at h
    · rename_i cs hb
      rw [hb] at hrb
      simp only [RB] at hrb
      obtain ⟨_, vs, T, ⟨rest, hh⟩, hcs, h1⟩ := hrb
      cases ha : aggIs E.P t true with
      | true =>
        rw [ha, cond_true] at h
        obtain ⟨i, hi, h⟩ := sizeK_of h
        cases hc : (Nat.ble (off + i.size) cs.length && aliveL ((cs.drop off).take i.size)) with
        | false => rw [hc] at h; cases h
        | true =>
          rw [hc, cond_true] at h
          simp only [Bool.and_eq_true] at hc
          have hle := Nat.le_of_ble_eq_true hc.1
          have hlen := RVs_len hcs
          refine ⟨_, h, .agg ((vs.drop off).take i.size).toArray, ?_, ?_⟩
          · have := run_loadCells_list (P := E.P) w ⟨(ι g).blk, off, none⟩ ((vs.drop off).take i.size) (fun j v hj => by
              rw [Addr.add_lit, box_cell hh]
              rw [List.getElem?_take] at hj
              split at hj
              · rw [List.getElem?_drop] at hj
                rw [List.getElem?_append_left (List.getElem?_eq_some_iff.1 hj).1]
                exact hj
              · cases hj)
            rw [show ((vs.drop off).take i.size).length = i.size by rw [List.length_take, List.length_drop]; omega] at this
            simp [Instr.loadAt, Instr.sureAddr, loadVar, run_agg ha, run_size hi, this]
          · simp only [RV]
            exact ⟨_, rfl, fun u hu => h1 u (List.mem_of_mem_drop (List.mem_of_mem_take hu)), RVs_take _ (RVs_drop _ hcs)⟩
      | false =>
        rw [ha, cond_false] at h
        cases ha' : aggIs E.P t false with
        | false => rw [ha'] at h; cases h
        | true =>
          rw [ha', cond_true] at h
          split at h
          · cases h
          · rename_i v hnd hv'
            obtain ⟨u, hu, hru⟩ := RVs_at hcs hv'
            refine ⟨_, h, u, ?_, hru⟩
            have := box_cell hh off
            rw [List.getElem?_append_left (List.getElem?_eq_some_iff.1 hu).1, hu] at this
            simp [Instr.loadAt, Instr.sureAddr, loadVar, run_agg ha', this]
          · cases h
    · cases h
  · -- an element of a frozen list
    rename_i κ y he
    rw [he] at hx
    simp only [RV] at hx
    obtain ⟨b, off, es, rfl, hb, hr, hl⟩ := hx
    cases hc : (aggIs E.P t κ.isAgg && sizeB E.P t κ.size) with
    | false => rw [hc] at h; cases h
    | true =>
      rw [hc, cond_true] at h
      simp only [Bool.and_eq_true] at hc
      obtain ⟨v, h1, h2⟩ := load_lie (ι := ι) hc.1 hc.2 hr hl
      exact ⟨_, h, v, by simp [Instr.loadAt, Instr.sureAddr, h1], h2⟩
  · -- behind a pointer in frozen memory
    rename_i c he
    rw [he] at hx
    obtain ⟨κ, _, h⟩ := kdK_of h
    cases hc : (aggIs E.P t κ.isAgg && sizeB E.P t κ.size) with
    | false => rw [hc] at h; cases h
    | true =>
      rw [hc, cond_true] at h
      simp only [Bool.and_eq_true] at hc
      obtain ⟨y, hy, h⟩ := Option.bind_eq_some_iff.1 h
      have hx2 := ptrD_of hy hx
      simp only [RV] at hx2
      obtain ⟨b, off, es, rfl, hb, hr, hl⟩ := hx2
      obtain ⟨v, h1, h2⟩ := load_lie (ι := ι) hc.1 hc.2 hr hl
      exact ⟨_, h, v, by simp [Instr.loadAt, Instr.sureAddr, h1], h2⟩
  · -- an interface in a package variable
    rename_i ti g he
    rw [he] at hx
    simp only [RV] at hx
    obtain ⟨rfl, hb, a, hl⟩ := hx
    cases hc : aggIs E.P t false with
    | false => rw [hc] at h; cases h
    | true =>
      rw [hc, cond_true] at h
      refine ⟨_, h, .iface ti (.pointer (some a)), ?_, ?_⟩
      · have := hl 0 _ rfl
        simp [Instr.loadAt, Instr.sureAddr, loadVar, run_agg hc, this]
      · simp only [RV]
        exact ⟨_, rfl, ti, a, rfl, hb, hl⟩
  · -- an element of a row of one's own
    rename_i κ₀ g idx he
    rw [he] at hx
    simp only [RV] at hx
    obtain ⟨hv, _, rfl⟩ := hx
    have hrb := m.rb g
    split at h
    · rename_i el κ xs hb
      rw [hb] at hrb
      cases hc : (decide (κ₀ = κ) && aggIs E.P t κ.isAgg && sizeB E.P t κ.size) with
      | false => rw [hc] at h; cases h
      | true =>
        rw [hc, cond_true] at h
        simp only [Bool.and_eq_true, decide_eq_true_eq] at hc
        obtain ⟨⟨rfl, hc1⟩, hc2⟩ := hc
        obtain ⟨y, hy, h⟩ := Option.bind_eq_some_iff.1 h
        simp only [RB] at hrb
        rcases hrb.2 with ⟨hv2, _⟩ | ⟨_, vs, hh, h2, h3, h4, h5⟩
        · rw [hv2] at hv; cases hv
        obtain ⟨es, hr, hes, hcell⟩ := h5 idx y hy
        obtain ⟨v, h1, h2⟩ := load_lie (ι := ι) (w := w) (b := (ι g).blk) (off := idx * κ₀.size) hc1 hc2 hr (fun j u hj => by simp [World.cell?, hh, hcell j u hj])
        exact ⟨_, h, v, by simp [Instr.loadAt, Instr.sureAddr, h1], h2⟩
    · cases h
  · cases h
end
end Go.Av
