/- What a new block, a store and an append do to an abstract memory. -/
import Derived.Test.YtnoamanjajighaaAv2
set_option linter.unusedVariables false
namespace Go.Av
open Go Go.RowKit

/-! ### handles -/
theorem getF_map (f : AV → AV) (hf : f .dead = .dead) : ∀ (l : List (Nat × AV)) (t : Nat), getF (l.map fun (t, v) => (t, f v)) t = f (getF l t)
  | [], t => by simp [getF, hf]
  | (s, v) :: r, t => by
    simp only [List.map_cons, getF]
    cases Nat.beq s t
    · simpa using getF_map f hf r t
    · rfl
theorem getH_map (f : AB → AB) (hf : f .gone = .gone) : ∀ (l : List (Nat × AB)) (t : Nat), getH (l.map fun (t, v) => (t, f v)) t = f (getH l t)
  | [], t => by simp [getH, hf]
  | (s, v) :: r, t => by
    simp only [List.map_cons, getH]
    cases Nat.beq s t
    · simpa using getH_map f hf r t
    · rfl
theorem strike_dead (d : Nat) : AV.strike d .dead = .dead := rfl
theorem getF_strike (d : Nat) (l : List (Nat × AV)) (t : Nat) : getF (strikeF d l) t = (getF l t).strike d := getF_map (AV.strike d) rfl l t
theorem getH_strike (d : Nat) (l : List (Nat × AB)) (t : Nat) : getH (strikeH d l) t = (getH l t).strike d := getH_map (AB.strike d) rfl l t
theorem getF_cons (s : Nat) (v : AV) (l : List (Nat × AV)) (t : Nat) : getF ((s, v) :: l) t = if s = t then v else getF l t := by
  simp only [getF]
  by_cases h : s = t
  · subst h; simp
  · have : Nat.beq s t = false := by rw [Bool.eq_false_iff]; intro e; exact h (Nat.eq_of_beq_eq_true e)
    simp [this, h]
theorem getH_cons (s : Nat) (v : AB) (l : List (Nat × AB)) (t : Nat) : getH ((s, v) :: l) t = if s = t then v else getH l t := by
  simp only [getH]
  by_cases h : s = t
  · subst h; simp
  · have : Nat.beq s t = false := by rw [Bool.eq_false_iff]; intro e; exact h (Nat.eq_of_beq_eq_true e)
    simp [this, h]
theorem live_strike (d : Nat) (b : AB) : (b.strike d).live ↔ b.live := by cases b <;> simp [AB.strike, AB.live]

/-! ### worlds -/
/-- One block has turned, no other. -/
structure Upd (w w' : World) (b : Nat) (o : Obj) : Prop where
  os : w'.os = w.os
  tape : w'.tape = w.tape
  output : w'.output = w.output
  size : w'.heap.size = w.heap.size
  at' : w'.heap[b]? = some o
  ne : ∀ k, k ≠ b → w'.heap[k]? = w.heap[k]?
theorem Upd.below {w0 w w' : World} {b : Nat} {o : Obj} {own : Nat → Prop} (h : Upd w w' b o) (hb : own b) (hw : Bel own w0 w) : Bel own w0 w' :=
  hw.trans ⟨h.os, h.tape, h.output, by rw [h.size]; exact Nat.le_refl _, fun k hk => h.ne k (fun e => hk (e ▸ hb))⟩
theorem Upd.refl {w : World} {b : Nat} {o : Obj} (h : w.heap[b]? = some o) : Upd w w b o := ⟨rfl, rfl, rfl, rfl, h, fun _ _ => rfl⟩
theorem Upd.trans {a b c : World} {k : Nat} {o o' : Obj} (h : Upd a b k o) (h' : Upd b c k o') : Upd a c k o' :=
  ⟨h'.os.trans h.os, h'.tape.trans h.tape, h'.output.trans h.output, h'.size.trans h.size, h'.at', fun j hj => (h'.ne j hj).trans (h.ne j hj)⟩
theorem Upd.setCell {w : World} {b off : Nat} {vs : List Value} {T : TypeId} {v : Value} (h : w.heap[b]? = some (.cells vs.toArray T (0, 0))) :
    Upd w (w.setCell ⟨b, off, none⟩ v) b (.cells (vs.set off v).toArray T (0, 0)) := by
  refine ⟨rfl, rfl, rfl, by simp, ?_, fun k hk => ?_⟩
  · simp only [World.setCell, Array.getElem?_modify, if_true, h, Option.map_some]
    simp
  · simp only [World.setCell, Array.getElem?_modify]
    rw [if_neg (by omega)]
def setV (vs : List Value) (off : Nat) : List Value → List Value
  | [] => vs
  | v :: r => setV (vs.set off v) (off + 1) r
theorem setV_len : ∀ (us vs : List Value) (off : Nat), (setV vs off us).length = vs.length
  | [], vs, off => rfl
  | u :: us, vs, off => by simp only [setV]; rw [setV_len]; simp
theorem run_storeCells {P : Program} {b : Nat} {T : TypeId} : ∀ (us vs : List Value) (w : World) (off i : Nat), w.heap[b]? = some (.cells vs.toArray T (0, 0)) → off + i + us.length ≤ vs.length →
    (∀ u ∈ us, u.oneCell' = true) → ∃ w', (storeCells ⟨b, off, none⟩ us i).run P w = .ok () w' ∧ Upd w w' b (.cells (setV vs (off + i) us).toArray T (0, 0))
  | [], vs, w, off, i, h, _, _ => ⟨w, by simp [storeCells], Upd.refl h⟩
  | u :: us, vs, w, off, i, h, hl, h1 => by
    simp only [List.length_cons] at hl
    have hc : w.cell? ⟨b, off + i, none⟩ = some (vs[off + i]'(by omega)) := by
      simp only [World.cell?, h]
      simp
    have hf : w.frozen? ⟨b, off + i, none⟩ = false := by simp [World.frozen?, h]
    have hu := Upd.setCell (off := off + i) (v := u) h
    obtain ⟨w', hr, hu'⟩ := run_storeCells us (vs.set (off + i) u) (w.setCell ⟨b, off + i, none⟩ u) off (i + 1) hu.at' (by simp; omega) (fun x hx => h1 x (by simp [hx]))
    refine ⟨w', ?_, ?_⟩
    · simp only [storeCells, Addr.add_lit, Sem.run_bind]
      rw [run_store P w _ u .plain (h1 u (by simp))]
      simp only [hc, hf, Bool.false_eq_true, if_false, Result.andThen_ok]
      exact hr
    · simp only [setV]
      rw [show off + i + 1 = off + (i + 1) by omega]
      exact hu.trans hu'
theorem setCells_of {ι : Nat → HI} {Fz : Nat → Prop} {w : World} : ∀ (as : List AV) (us : List Value) (cs : List AV) (vs : List Value) (off : Nat), RVs ι Fz w as us → RVs ι Fz w cs vs → RVs ι Fz w (setCells cs off as) (setV vs off us)
  | [], us, cs, vs, off, h, hc => by simp only [RVs] at h; subst h; simpa [setCells, setV] using hc
  | a :: as, us, cs, vs, off, h, hc => by
    simp only [RVs] at h
    obtain ⟨v, r, rfl, h1, h2⟩ := h
    simp only [setCells, setV]
    exact setCells_of as r _ _ (off + 1) h2 (RVs_set off hc h1)
theorem setV_one : ∀ (us vs : List Value) (off : Nat), (∀ u ∈ us, u.oneCell' = true) → (∀ u ∈ vs, u.oneCell' = true) → ∀ u ∈ setV vs off us, u.oneCell' = true
  | [], vs, off, _, h, u, hu => h u hu
  | x :: us, vs, off, hx, h, u, hu => by
    simp only [setV] at hu
    refine setV_one us (vs.set off x) (off + 1) (fun y hy => hx y (by simp [hy])) (fun y hy => ?_) u hu
    rcases List.mem_or_eq_of_mem_set hy with h' | h'
    · exact h y h'
    · rw [h']; exact hx x (by simp)

/-! ### memory -/
def upd (ι : Nat → HI) (d : Nat) (i : HI) : Nat → HI := fun h => if h = d then i else ι h
theorem upd_at (ι : Nat → HI) (d : Nat) (i : HI) : upd ι d i d = i := by simp [upd]
theorem upd_ne (ι : Nat → HI) (d : Nat) (i : HI) {h : Nat} (hh : h ≠ d) : upd ι d i h = ι h := by simp [upd, hh]
theorem getH_new {H : List (Nat × AB)} {d : Nat} {b : AB} {h : Nat} : getH ((d, b) :: strikeH d H) h = if d = h then b else (getH H h).strike d := by
  rw [getH_cons, getH_strike]

/-- Old handles over a new world: those that name d are struck. -/
theorem RB_strike {ι ι' : Nat → HI} {Fz Fz' : Nat → Prop} {w w' : World} {d h : Nat} {b : AB} (hw : ∀ b, Fz b → w'.heap[b]? = w.heap[b]?) (hf : ∀ b, Fz b → Fz' b)
    (hd : ∀ h, h ≠ d → ι' h = ι h) (hh : h ≠ d) (hb : b.live → (ι h).virt = false → w'.heap[(ι h).blk]? = w.heap[(ι h).blk]?) (hr : RB ι Fz w h b) : RB ι' Fz' w' h (b.strike d) := by
  cases b with
  | gone => simp [AB.strike, RB]
  | box cs =>
    simp only [RB, AB.strike] at hr ⊢
    obtain ⟨hv, vs, T, h1, h2, h3⟩ := hr
    rw [hd h hh]
    exact ⟨hv, vs, T, by rw [hb trivial hv]; exact h1, RVs_strike hw hf hd h2, h3⟩
  | arr e κ xs =>
    simp only [RB, AB.strike] at hr ⊢
    rw [hd h hh]
    refine ⟨hr.1, ?_⟩
    rcases hr.2 with h2 | ⟨hv, vs, h1, h2, h3, h4, h5⟩
    · exact .inl h2
    · refine .inr ⟨hv, vs, by rw [hb trivial hv]; exact h1, h2, h3, h4, fun i x hx => ?_⟩
      obtain ⟨es, a, b, c⟩ := h5 i x hx
      exact ⟨es, RP_mono hw hf _ _ _ a, b, c⟩

theorem RB_mono {ι : Nat → HI} {Fz Fz' : Nat → Prop} {w w' : World} {h : Nat} {b : AB} (hw : ∀ b, Fz b → w'.heap[b]? = w.heap[b]?) (hf : ∀ b, Fz b → Fz' b)
    (hb : b.live → (ι h).virt = false → w'.heap[(ι h).blk]? = w.heap[(ι h).blk]?) (hr : RB ι Fz w h b) : RB ι Fz' w' h b := by
  cases b with
  | gone => simp [RB]
  | box cs =>
    simp only [RB] at hr ⊢
    obtain ⟨hv, vs, T, h1, h2, h3⟩ := hr
    exact ⟨hv, vs, T, by rw [hb trivial hv]; exact h1, RVs_mono hw hf _ _ (fun _ _ => rfl) h2, h3⟩
  | arr e κ xs =>
    simp only [RB] at hr ⊢
    refine ⟨hr.1, ?_⟩
    rcases hr.2 with h2 | ⟨hv, vs, h1, h2, h3, h4, h5⟩
    · exact .inl h2
    · refine .inr ⟨hv, vs, by rw [hb trivial hv]; exact h1, h2, h3, h4, fun i x hx => ?_⟩
      obtain ⟨es, a, b, c⟩ := h5 i x hx
      exact ⟨es, RP_mono hw hf _ _ _ a, b, c⟩

theorem Cn_strike {i : HI} {d : Nat} {b : AB} : Cn i (b.strike d) ↔ Cn i b := by cases b <;> simp [AB.strike, Cn]
theorem Cn_new {ι : Nat → HI} {H : List (Nat × AB)} {d : Nat} {i : HI} {b : AB} (m : ∀ h, Cn (ι h) (getH H h)) (hcn : Cn i b) (h : Nat) : Cn (upd ι d i h) (getH ((d, b) :: strikeH d H) h) := by
  rw [getH_new]
  by_cases e : d = h
  · subst e; rw [upd_at]; simpa using hcn
  · rw [if_neg e, upd_ne _ _ _ (Ne.symm e), Cn_strike]; exact m h
/-- A new block (or none: a virtual row) under the handle d. -/
theorem Mem.new {w0 : Root} {Fz0 : Nat → Prop} {ι : Nat → HI} {Fz : Nat → Prop} {H : List (Nat × AB)} {w w' : World} {d : Nat} {i : HI} {b : AB}
    (m : Mem w0 Fz0 ι Fz H w) (hbel : Below w.heap.size w w') (hi : i.virt = false → i.blk = w.heap.size ∧ i.blk < w'.heap.size) (hb : RB (upd ι d i) Fz w' d b) (hd : d < 1000000) (hcn : Cn i b) :
    Mem w0 Fz0 (upd ι d i) Fz ((d, b) :: strikeH d H) w' := by
  have hs : ∀ b, w.heap.size ≤ b → w0.own b := fun b hb => w0.big b (Nat.le_trans m.below.size hb)
  have hw : ∀ b, Fz b → w'.heap[b]? = w.heap[b]? := fun b hb => hbel.block b (m.fz b hb)
  refine ⟨m.below.trans (Bel.of hbel hs), fun b hb => Nat.lt_of_lt_of_le (m.fz b hb) hbel.size, m.fz0, m.fzn, fun h => ?_, fun h hl hv => ?_, fun h h' hl hl' hv hv' he => ?_, fun k hk => (upd_ne _ _ _ (by omega)).trans (m.iot k hk), Cn_new m.cn hcn, m.gz⟩
  · rw [getH_new]
    by_cases e : d = h
    · subst e; simpa using hb
    · rw [if_neg e]
      exact RB_strike hw (fun _ h => h) (fun _ h => upd_ne _ _ _ h) (Ne.symm e) (fun hl hv => hbel.block _ (m.sep h hl hv).2.1) (m.rb h)
  · rw [getH_new] at hl
    by_cases e : d = h
    · subst e
      rw [upd_at] at hv ⊢
      obtain ⟨h1, h2⟩ := hi hv
      exact ⟨hs _ (by omega), h2, fun hf => by have := m.fz _ hf; omega⟩
    · rw [if_neg e, live_strike] at hl
      rw [upd_ne _ _ _ (Ne.symm e)] at hv ⊢
      obtain ⟨h1, h2, h3⟩ := m.sep h hl hv
      exact ⟨h1, Nat.lt_of_lt_of_le h2 hbel.size, h3⟩
  · rw [getH_new] at hl hl'
    by_cases e : d = h
    · by_cases e' : d = h'
      · omega
      · subst e
        rw [if_neg e', live_strike] at hl'
        rw [upd_at] at hv he
        rw [upd_ne _ _ _ (Ne.symm e')] at hv' he
        have := (hi hv).1
        have := (m.sep h' hl' hv').2.1
        omega
    · rw [if_neg e, live_strike] at hl
      rw [upd_ne _ _ _ (Ne.symm e)] at hv he
      by_cases e' : d = h'
      · subst e'
        rw [upd_at] at hv' he
        have := (hi hv').1
        have := (m.sep h hl hv).2.1
        omega
      · rw [if_neg e', live_strike] at hl'
        rw [upd_ne _ _ _ (Ne.symm e')] at hv' he
        exact m.inj h h' hl hl' hv hv' he

/-- A block of one's own turns. -/
theorem Mem.upd {w0 : Root} {Fz0 : Nat → Prop} {ι : Nat → HI} {Fz : Nat → Prop} {H : List (Nat × AB)} {w w' : World} {h : Nat} {o : Obj} {b : AB}
    (m : Mem w0 Fz0 ι Fz H w) (hl : (getH H h).live) (hv : (ι h).virt = false) (hu : Upd w w' (ι h).blk o) (hb : RB ι Fz w' h b) (hbl : b.live) (hcn : Cn (ι h) b) :
    Mem w0 Fz0 ι Fz ((h, b) :: H) w' := by
  obtain ⟨s1, s2, s3⟩ := m.sep h hl hv
  have hw : ∀ b, Fz b → w'.heap[b]? = w.heap[b]? := fun b hb => hu.ne b (fun e => s3 (e ▸ hb))
  have live : ∀ k, (getH ((h, b) :: H) k).live → (getH H k).live := fun k hk => by
    rw [getH_cons] at hk
    by_cases e : h = k
    · subst e; exact hl
    · rwa [if_neg e] at hk
  refine ⟨hu.below s1 m.below, fun b hb => by rw [hu.size]; exact m.fz b hb, m.fz0, m.fzn, fun k => ?_, fun k hk hv' => ?_, fun k k' hk hk' => m.inj k k' (live k hk) (live k' hk'), m.iot, fun k => (by rw [getH_cons]; by_cases e : h = k; (· subst e; simpa using hcn); (· rw [if_neg e]; exact m.cn k)), m.gz⟩
  · rw [getH_cons]
    by_cases e : h = k
    · subst e; simpa using hb
    · rw [if_neg e]
      exact RB_mono hw (fun _ h => h) (fun hl' hv' => hu.ne _ (fun e' => e (m.inj h k hl hl' hv hv' e'.symm))) (m.rb k)
  · obtain ⟨a, b', c⟩ := m.sep k (live k hk) hv'
    exact ⟨a, by rw [hu.size]; exact b', c⟩

/-- The world has grown elsewhere (a call, a draw), and more blocks may be frozen. -/
theorem Mem.grow {w0 : Root} {Fz0 : Nat → Prop} {ι : Nat → HI} {Fz Fz' : Nat → Prop} {H : List (Nat × AB)} {w w' : World}
    (m : Mem w0 Fz0 ι Fz H w) (hbel : Below w.heap.size w w') (h1 : ∀ b, Fz b → Fz' b) (h2 : ∀ b, Fz' b → Fz b ∨ w.heap.size ≤ b) (h3 : ∀ b, Fz' b → b < w'.heap.size) :
    Mem w0 Fz0 ι Fz' H w' := by
  have hs : ∀ b, w.heap.size ≤ b → w0.own b := fun b hb => w0.big b (Nat.le_trans m.below.size hb)
  have hw : ∀ b, Fz b → w'.heap[b]? = w.heap[b]? := fun b hb => hbel.block b (m.fz b hb)
  refine ⟨m.below.trans (Bel.of hbel hs), h3, fun b hb => h1 _ (m.fz0 b hb), fun b hb => ?_, fun h => ?_, fun h hl hv => ?_, m.inj, m.iot, m.cn, m.gz⟩
  · rcases h2 b hb with hb | hb
    · exact m.fzn b hb
    · right; exact hs b hb
  · exact RB_mono hw h1 (fun hl hv => hbel.block _ (m.sep h hl hv).2.1) (m.rb h)
  · obtain ⟨a, b, c⟩ := m.sep h hl hv
    exact ⟨a, Nat.lt_of_lt_of_le b hbel.size, fun hf => by rcases h2 _ hf with hf | hf; exact c hf; omega⟩
/-- A handle is let go. -/
theorem Mem.drop {w0 : Root} {Fz0 : Nat → Prop} {ι : Nat → HI} {Fz : Nat → Prop} {H H' : List (Nat × AB)} {w : World}
    (m : Mem w0 Fz0 ι Fz H w) (h : ∀ k, getH H' k = getH H k ∨ getH H' k = .gone) : Mem w0 Fz0 ι Fz H' w := by
  have live : ∀ k, (getH H' k).live → (getH H k).live := fun k hk => by
    rcases h k with e | e
    · rwa [e] at hk
    · rw [e] at hk; exact hk.elim
  refine ⟨m.below, m.fz, m.fz0, m.fzn, fun k => ?_, fun k hk => m.sep k (live k hk), fun k k' hk hk' => m.inj k k' (live k hk) (live k' hk'), m.iot, fun k => (by rcases h k with e | e; (· rw [e]; exact m.cn k); (· rw [e]; trivial)), m.gz⟩
  rcases h k with e | e
  · rw [e]; exact m.rb k
  · rw [e]; trivial
end Go.Av
