/- The operations that make memory, and calls by their contracts. -/
import Derived.Test.YtnoamanjajighaaAv28
import Derived.Laws.MakeOwn
set_option linter.unusedVariables false
set_option linter.unusedSimpArgs false
namespace Go.Av
open Go Go.RowKit

theorem run_mapM {α β : Type} {P : Program} {w : World} (g : α → Sem β) (h : α → β) : ∀ (l : List α), (∀ x ∈ l, (g x).run P w = .ok (h x) w) → (l.mapM g).run P w = .ok (l.map h) w
  | [], _ => by simp
  | x :: l, hl => by
    rw [List.mapM_cons]
    simp only [Sem.run_bind, hl x (by simp), Result.andThen_ok, run_mapM g h l (fun y hy => hl y (by simp [hy])), Sem.run_pure, List.map_cons]
theorem run_mapM_array {α β : Type} {P : Program} {w : World} (g : α → Sem β) (h : α → β) (xs : Array α) (hl : ∀ x ∈ xs.toList, (g x).run P w = .ok (h x) w) : (xs.mapM g).run P w = .ok (xs.map h) w := by
  have h1 := run_mapM g h xs.toList hl
  rw [← Array.toList_mapM] at h1
  simp only [Sem.run_map] at h1
  cases hr : (xs.mapM g).run P w with
  | halt x y => rw [hr] at h1; simp at h1
  | ok a w' =>
    rw [hr] at h1
    simp only [Result.andThen_ok, Result.ok.injEq] at h1
    obtain ⟨e, rfl⟩ := h1
    congr 1
    apply Array.ext'
    rw [e]; simp
theorem zip_set (off : Nat) : ∀ (l : List Value) (k : Nat) (vs : List Value), (l.zipIdx k).foldl (fun (cs : Array Value) p => cs.setIfInBounds (off + p.2) p.1) vs.toArray = (setV vs (off + k) l).toArray
  | [], _, _ => rfl
  | v :: l, k, vs => by
    simp only [List.zipIdx_cons, List.foldl_cons, setV, List.setIfInBounds_toArray]
    rw [zip_set off l (k + 1)]
    rfl
theorem fill_step (place : Nat → Option (Nat × Nat)) (vs : List Value) (i : Nat) (v : Value) (rest : List (Nat × Value)) (off size : Nat) (hp : place i = some (off, size)) (hs : v.cells.size = size) (hl : off + v.cells.size ≤ vs.length) :
    Instr.fill place vs.toArray ((i, v) :: rest) = Instr.fill place (setV vs off v.cells.toList).toArray rest := by
  have h1 : (v.cells.size != size) = false := by simp [hs]
  rw [Instr.fill, hp]
  simp only [List.size_toArray]
  rw [if_neg (by simp only [Bool.or_eq_true, decide_eq_true_eq]; omega)]
  congr 1
  rw [← Array.foldl_toList, Array.toList_zipIdx]
  exact zip_set off v.cells.toList 0 vs

section
variable {R : Type} {P : Program} {w0 : Root} {Fz0 : Nat → Prop} {ι : Nat → HI} {Fz : Nat → Prop} {H : List (Nat × AB)} {w : World}
theorem fillV_of {fs : Array Field} {ρ : Operand → Value} {e : Operand → AV} (he : ∀ x, RV ι Fz w (e x) (ρ x)) : ∀ (ps : List (Nat × Operand)) (cs cs' : List AV) (vs : List Value),
    fillV fs P cs (ps.map fun p => (p.1, e p.2)) = some cs' → RVs ι Fz w cs vs → (∀ u ∈ vs, u.oneCell' = true) →
    ∃ vs', Instr.fill (fun i => (fs.map fun f => (f.offset, ((P.info? f.type).map (·.size)).getD 0))[i]?) vs.toArray (ps.map fun p => (p.1, ρ p.2)) = some vs'.toArray ∧ RVs ι Fz w cs' vs' ∧ ∀ u ∈ vs', u.oneCell' = true
  | [], cs, cs', vs, h, hr, h1 => by
    simp only [List.map_nil, fillV, Option.some.injEq] at h
    subst h
    exact ⟨vs, rfl, hr, h1⟩
  | (i, x) :: ps, cs, cs', vs, h, hr, h1 => by
    simp only [List.map_cons, fillV] at h
    split at h
    · rename_i f hf
      cases hc : (sizeB P f.type (e x).flat.length && Nat.ble (f.offset + (e x).flat.length) cs.length && aliveL (e x).flat) with
      | false => rw [hc] at h; cases h
      | true =>
        rw [hc, cond_true] at h
        simp only [Bool.and_eq_true] at hc
        obtain ⟨⟨hs, hle⟩, hal⟩ := hc
        obtain ⟨inf, hinf, hsz⟩ := sizeB_of hs
        have hle := Nat.le_of_ble_eq_true hle
        obtain ⟨hfl, hone⟩ := flat_of (he x) hal
        have hlen := RVs_len hfl
        have hlen' := RVs_len hr
        simp only [Array.length_toList] at hlen
        rw [List.map_cons, fill_step _ vs i (ρ x) _ f.offset inf.size (by simp [hf, hinf]) (by omega) (by omega)]
        exact fillV_of he ps _ cs' _ h (setCells_of _ _ _ _ _ hfl hr) (setV_one _ _ _ hone h1)
    · cases h
theorem fillA_of {sz : Nat} {ρ : Operand → Value} {e : Operand → AV} (he : ∀ x, RV ι Fz w (e x) (ρ x)) : ∀ (ps : List (Nat × Operand)) (cs cs' : List AV) (vs : List Value),
    fillA sz cs (ps.map fun p => (p.1, e p.2)) = some cs' → RVs ι Fz w cs vs → (∀ u ∈ vs, u.oneCell' = true) →
    ∃ vs', Instr.fill (fun i => some (i * sz, sz)) vs.toArray (ps.map fun p => (p.1, ρ p.2)) = some vs'.toArray ∧ RVs ι Fz w cs' vs' ∧ ∀ u ∈ vs', u.oneCell' = true
  | [], cs, cs', vs, h, hr, h1 => by
    simp only [List.map_nil, fillA, Option.some.injEq] at h
    subst h
    exact ⟨vs, rfl, hr, h1⟩
  | (i, x) :: ps, cs, cs', vs, h, hr, h1 => by
    simp only [List.map_cons, fillA] at h
    cases hc : (Nat.beq (e x).flat.length sz && Nat.ble (i * sz + sz) cs.length && aliveL (e x).flat) with
    | false => rw [hc] at h; cases h
    | true =>
      rw [hc, cond_true] at h
      simp only [Bool.and_eq_true] at hc
      obtain ⟨⟨hs, hle⟩, hal⟩ := hc
      have hs := Nat.eq_of_beq_eq_true hs
      have hle := Nat.le_of_ble_eq_true hle
      obtain ⟨hfl, hone⟩ := flat_of (he x) hal
      have hlen := RVs_len hfl
      have hlen' := RVs_len hr
      simp only [Array.length_toList] at hlen
      rw [List.map_cons, fill_step _ vs i (ρ x) _ (i * sz) sz rfl (by omega) (by omega)]
      exact fillA_of he ps _ cs' _ h (setCells_of _ _ _ _ _ hfl hr) (setV_one _ _ _ hone h1)
theorem build_of {t : TypeId} {parts : Array (Nat × Operand)} {ρ : Operand → Value} {K : AV → Option AB → Option R} {r : R} {E : Env} {e : Operand → AV} {d : Nat}
    (he : ∀ x, RV ι Fz w (e x) (ρ x)) (h : opR E (.build t parts) e H K d = some r) : ∃ v, K v none = some r ∧ ∃ v', (Instr.build t (parts.map fun (i, x) => (i, ρ x))).run E.P w = .ok v' w ∧ RV ι Fz w v v' := by
  simp only [opR] at h
  split at h
  · rename_i i n el hi hu
    split at h
    · rename_i z hz
      cases hal : aliveL (z.cells.toList.map avOf1) with
      | false => rw [hal] at h; cases h
      | true =>
        rw [hal, cond_true] at h
        obtain ⟨inf, hinf, h⟩ := sizeK_of h
        obtain ⟨cs, hcs, h⟩ := Option.bind_eq_some_iff.1 h
        obtain ⟨vs', hf, hr, h1⟩ := fillA_of he parts.toList _ _ z.cells.toList hcs (avOf1s _) (avOf1s_one _ hal)
        refine ⟨_, h, .agg vs'.toArray, ?_, by simp only [RV]; exact ⟨vs', rfl, h1, hr⟩⟩
        have hpl : (parts.map fun (i, x) => (i, ρ x)).toList = parts.toList.map fun p => (p.1, ρ p.2) := by simp
        simp only [Instr.build, zeroValue, typeInfo, Sem.run_bind, run_program, Result.andThen_ok, hi, Sem.run_pure, hz, run_underlying hu, run_size hinf, hpl]
        simp only [Array.toArray_toList] at hf
        rw [hf]
        rfl
    · cases h
  · rename_i i fs hi hu
    split at h
    · rename_i z hz
      cases hc : (aliveL (z.cells.toList.map avOf1) && fs.all fun f => (E.P.info? f.type).isSome) with
      | false => rw [hc] at h; cases h
      | true =>
        rw [hc, cond_true] at h
        simp only [Bool.and_eq_true] at hc
        obtain ⟨hal, hfs⟩ := hc
        obtain ⟨cs, hcs, h⟩ := Option.bind_eq_some_iff.1 h
        obtain ⟨vs', hf, hr, h1⟩ := fillV_of (P := E.P) he parts.toList _ _ z.cells.toList hcs (avOf1s _) (avOf1s_one _ hal)
        refine ⟨_, h, .agg vs'.toArray, ?_, by simp only [RV]; exact ⟨vs', rfl, h1, hr⟩⟩
        have hm := run_mapM_array (P := E.P) (w := w) (fun (f : Field) => do pure (f.offset, ← sizeOf f.type)) (fun f => (f.offset, ((E.P.info? f.type).map (·.size)).getD 0)) fs (by
          intro f hf
          have := Array.all_eq_true'.1 hfs f (Array.mem_def.2 hf)
          obtain ⟨inf, hinf⟩ := Option.isSome_iff_exists.1 this
          simp [run_size hinf, hinf])
        have hpl : (parts.map fun (i, x) => (i, ρ x)).toList = parts.toList.map fun p => (p.1, ρ p.2) := by simp
        simp only [Instr.build, zeroValue, typeInfo, Sem.run_bind, run_program, Result.andThen_ok, hi, Sem.run_pure, hz, run_underlying hu, hm, hpl]
        simp only [Array.toArray_toList] at hf
        rw [hf]
        rfl
    · cases h
  · cases h

/-! ### new memory -/
theorem heap_new (w : World) (o : Obj) : (w.alloc o).heap[w.heap.size]? = some o := by
  show (w.heap.push o)[w.heap.size]? = some o
  simp
/-- A name that may come anew, and is not named within. -/
def AB.okN (d : Nat) (b : AB) : Prop := b.ment d = false ∧ d < 1000000
/-- A new block of known cells: a box. -/
theorem box_new {d : Nat} {cs : List AV} {vs : List Value} {T : TypeId} (m : Mem w0 Fz0 ι Fz H w) (hm : mentL d cs = false) (hd : d < 1000000) (hr : RVs ι Fz w cs vs) (h1 : ∀ u ∈ vs, u.oneCell' = true) :
    After w0 Fz0 ι Fz H w d (.ref d 0) (some (.box cs)) (.pointer (some ⟨w.heap.size, 0, none⟩)) (w.alloc (.cells vs.toArray T)) := by
  have hbel : Below w.heap.size w (w.alloc (.cells vs.toArray T)) := (Below.refl _ _).alloc (Nat.le_refl _) _
  have hw : ∀ b, Fz b → (w.alloc (.cells vs.toArray T)).heap[b]? = w.heap[b]? := fun b hb => hbel.block b (m.fz b hb)
  refine ⟨upd ι d ⟨w.heap.size, 0, 0, false⟩, Fz, hw, fun _ h => h, fun h hh => upd_ne _ _ _ (hh.resolve_left (by simp)), ?_, ?_⟩
  · refine m.new hbel (fun _ => ⟨rfl, by simp⟩) ?_ hd ⟨rfl, rfl⟩
    simp only [RB, upd_at]
    refine ⟨trivial, vs, T, ⟨[], by rw [List.append_nil]; exact heap_new w _⟩, ?_, h1⟩
    exact RVs_mono hw (fun _ h => h) cs vs (fun h hh => upd_ne _ _ _ (fun e => by rw [e, hm] at hh; cases hh)) hr
  · simp only [RV, upd_at]
    exact ⟨trivial, trivial⟩
theorem alloc_of {t : TypeId} {K : AV → Option AB → Option R} {r : R} {E : Env} {e : Operand → AV} {d : Nat} (m : Mem w0 Fz0 ι Fz H w)
    (h : opR E (.alloc t) e H K d = some r) : ∃ v b, K v (some b) = some r ∧ (AB.okN d b → ∃ v' w', (Instr.alloc t true (.tuple #[])).run E.P w = .ok v' w' ∧ After w0 Fz0 ι Fz H w d v (some b) v' w') := by
  simp only [opR] at h
  split at h
  · rename_i i hi
    split at h
    · rename_i z hz
      cases hal : aliveL (z.cells.toList.map avOf1) with
      | false => rw [hal] at h; cases h
      | true =>
        rw [hal, cond_true] at h
        refine ⟨_, _, h, fun hm => ⟨_, _, ?_, box_new (T := t) m hm.1 hm.2 (avOf1s z.cells.toList) (avOf1s_one _ hal)⟩⟩
        simp [Instr.alloc, zeroValue, typeInfo, hi, hz, newVar, newRow]
    · cases h
  · cases h
theorem boxOp_of {t : TypeId} {K : AV → Option AB → Option R} {r : R} {E : Env} {e : Operand → AV} {x : Operand} {vx : Value} {d : Nat} (m : Mem w0 Fz0 ι Fz H w) (hx : RV ι Fz w (e x) vx)
    (h : opR E (.box t x) e H K d = some r) : ∃ v b, K v (some b) = some r ∧ (AB.okN d b → ∃ v' w', (Instr.box t vx).run E.P w = .ok v' w' ∧ After w0 Fz0 ι Fz H w d v (some b) v' w') := by
  simp only [opR] at h
  cases hal : aliveL (e x).flat with
  | false => rw [hal] at h; cases h
  | true =>
    rw [hal, cond_true] at h
    obtain ⟨hr, h1⟩ := flat_of hx hal
    refine ⟨_, _, h, fun hm => ⟨_, _, ?_, box_new (T := t) m hm.1 hm.2 hr h1⟩⟩
    simp [Instr.box, newVar, newRow]

/-- What lies in a row of one's own, cell by cell. -/
def Row (Fz : Nat → Prop) (w : World) (κ : Kd) (xs : List (Den κ)) (vs : List Value) : Prop :=
  ∀ i x, xs[i]? = some x → ∃ es, RP Fz w κ x es ∧ es.length = κ.size ∧ ∀ j u, es[j]? = some u → vs[i * κ.size + j]? = some u
theorem Row.nil {κ : Kd} {vs : List Value} : Row Fz w κ [] vs := fun i x h => by simp at h
theorem arr_new {d : Nat} {el : TypeId} {κ : Kd} {xs : List (Den κ)} {vs : List Value} {cap : Nat} (m : Mem w0 Fz0 ι Fz H w) (hr : Row Fz w κ xs vs) (hl : xs.length ≤ cap) (hc : cap ≤ maxLen) (hs : vs.length = cap * κ.size) (hd : d < 1000000) :
    After w0 Fz0 ι Fz H w d (.own κ d) (some (.arr el κ xs)) (.slice (some ⟨w.heap.size, 0, none⟩) xs.length cap) (w.alloc (.cells vs.toArray el)) := by
  have hbel : Below w.heap.size w (w.alloc (.cells vs.toArray el)) := (Below.refl _ _).alloc (Nat.le_refl _) _
  have hw : ∀ b, Fz b → (w.alloc (.cells vs.toArray el)).heap[b]? = w.heap[b]? := fun b hb => hbel.block b (m.fz b hb)
  refine ⟨upd ι d ⟨w.heap.size, cap, xs.length, false⟩, Fz, hw, fun _ h => h, fun h hh => upd_ne _ _ _ (hh.resolve_left (by simp)), ?_, ?_⟩
  · refine m.new hbel (fun _ => ⟨rfl, by simp⟩) ?_ hd (fun h => by cases h)
    simp only [RB, upd_at]
    refine ⟨trivial, .inr ⟨trivial, vs.toArray, heap_new w _, hl, hc, by simpa using hs, fun i x hx => ?_⟩⟩
    obtain ⟨es, h1, h2, h3⟩ := hr i x hx
    exact ⟨es, RP_mono hw (fun _ h => h) _ _ _ h1, h2, fun j u hj => by simpa using h3 j u hj⟩
  · simp only [RV, upd_at]
    exact .inr ⟨trivial, trivial⟩
theorem setV_mid : ∀ (us pre mid post : List Value), mid.length = us.length → setV (pre ++ (mid ++ post)) pre.length us = pre ++ (us ++ post)
  | [], pre, mid, post, h => by
    have : mid = [] := List.eq_nil_of_length_eq_zero (by simpa using h)
    subst this; rfl
  | u :: us, pre, mid, post, h => by
    cases mid with
    | nil => simp at h
    | cons x mid =>
      simp only [setV]
      have : (pre ++ (x :: mid ++ post)).set pre.length u = (pre ++ [u]) ++ (mid ++ post) := by simp
      rw [this]
      have := setV_mid us (pre ++ [u]) mid post (by simpa using h)
      rw [List.length_append, List.length_singleton] at this
      rw [this]; simp
theorem pvL_ment (g : Nat) : ∀ {l : List AV}, l.all AV.isPv = true → mentL g l = false
  | [], _ => rfl
  | v :: r, h => by
    simp only [List.all_cons, Bool.and_eq_true] at h
    simp only [mentL, pvL_ment g h.2, Bool.or_false]
    have hv := h.1
    cases v <;> simp [AV.isPv] at hv <;> first | rfl | skip
    rename_i t v
    cases v <;> simp at hv <;> rfl
theorem noH_ment {cs : List AV} (h : cs.all (fun v => !v.handled) = true) (g : Nat) : mentL g cs = false := by
  induction cs with
  | nil => rfl
  | cons c cs ih =>
    simp only [List.all_cons, Bool.and_eq_true] at h
    simp only [mentL, ih h.2, Bool.or_false]
    cases c with
    | func f l => cases l <;> simp_all [AV.handled, AV.ment, mentL]
    | agg l =>
      have hl : l.all AV.isPv = true := by simpa [AV.handled] using h.1
      simpa [AV.ment] using pvL_ment g hl
    | iface t v => cases v <;> simp_all [AV.handled, AV.ment]
    | _ => simp_all [AV.handled, AV.ment]
theorem frH_ment {c : AV} (h : (c.free || !c.handled) = true) (g : Nat) : c.ment g = false := by
  rcases Bool.or_eq_true _ _ ▸ h with h | h
  · exact free_ment c h g
  · have := noH_ment (cs := [c]) (by simp [h]) g
    simpa [mentL] using this
theorem partsD_of {κ : Kd} {ρ : Operand → Value} {e : Operand → AV} (hk : 1 ≤ κ.size) (hrb : ∀ h, RB ι Fz w h (getH H h)) (he : ∀ x, RV ι Fz w (e x) (ρ x)) :
    ∀ (ps : List (Nat × Operand)) (i : Nat) (xs ys : List (Den κ)) (pre post : List Value), partsD H κ i (ps.map fun p => (p.1, e p.2)) = some ys →
      (ps.all fun p => (e p.2).free || !(e p.2).handled) = true → pre.length = i * κ.size → i = xs.length → Row Fz w κ xs pre → post.length = ps.length * κ.size →
      ∃ vs, Instr.fill (fun i => some (i * κ.size, κ.size)) (pre ++ post).toArray (ps.map fun p => (p.1, ρ p.2)) = some vs.toArray ∧ vs.length = (pre ++ post).length ∧ Row Fz w κ (xs ++ ys) vs
  | [], i, xs, ys, pre, post, h, _, hpre, hi, hr, hp => by
    simp only [List.map_nil, partsD, Option.some.injEq] at h
    subst h
    have : post = [] := List.eq_nil_of_length_eq_zero (by simpa using hp)
    subst this
    exact ⟨pre, by simp [Instr.fill], by simp, by simpa using hr⟩
  | (j, x) :: ps, i, xs, ys, pre, post, h, hall, hpre, hi, hr, hp => by
    simp only [List.map_cons, partsD] at h
    simp only [List.all_cons, Bool.and_eq_true] at hall
    cases hj : Nat.beq i j with
    | false => rw [hj] at h; cases h
    | true =>
      rw [hj, cond_true] at h
      have e1 := Nat.eq_of_beq_eq_true hj
      subst e1
      obtain ⟨y, hy, h⟩ := Option.bind_eq_some_iff.1 h
      obtain ⟨zs, hz, h⟩ := Option.bind_eq_some_iff.1 h
      simp only [Option.some.injEq] at h
      subst h
      have hv : RV ι Fz w (.pv κ y) (ρ x) := argD_of hrb (fun _ h => h) hy (he x) (fun h hm => by
        rw [frH_ment hall.1 h] at hm; cases hm)
      -- its cells
      have hcells : RP Fz w κ y (ρ x).cells.toList := by
        simp only [RV] at hv
        cases hka : κ.isAgg with
        | true => simp only [hka, if_true] at hv; obtain ⟨vs, e, hv⟩ := hv; rw [e]; exact hv
        | false =>
          simp only [hka, Bool.false_eq_true, if_false] at hv
          have h1 := RP_one κ y _ hv (ρ x) (by simp)
          have : (ρ x).cells.toList = [ρ x] := by generalize ρ x = v at h1; cases v <;> simp_all [Value.cells, Value.oneCell']
          rw [this]; exact hv
      have hlen := RP_len κ y _ hcells
      have hlen' : (ρ x).cells.size = κ.size := by simpa using hlen
      have hpl : (ps.length + 1) * κ.size = ps.length * κ.size + κ.size := by rw [Nat.add_mul, Nat.one_mul]
      simp only [List.length_cons] at hp
      have hsplit : pre ++ post = pre ++ (post.take κ.size ++ post.drop κ.size) := by rw [List.take_append_drop]
      have hset : setV (pre ++ post) (i * κ.size) (ρ x).cells.toList = (pre ++ (ρ x).cells.toList) ++ post.drop κ.size := by
        rw [hsplit, ← hpre, setV_mid _ _ _ _ (by rw [List.length_take]; omega)]; simp
      have hrow : Row Fz w κ (xs ++ [y]) (pre ++ (ρ x).cells.toList) := by
        intro k z hz
        rcases Nat.lt_or_ge k xs.length with hk' | hk'
        · rw [List.getElem?_append_left hk'] at hz
          obtain ⟨es, a, b, c⟩ := hr k z hz
          refine ⟨es, a, b, fun j u hju => ?_⟩
          have := c j u hju
          rw [List.getElem?_append_left ((List.getElem?_eq_some_iff.1 this).1)]
          exact this
        · rw [List.getElem?_append_right hk'] at hz
          have hk0 : k - xs.length = 0 := by
            rcases Nat.eq_zero_or_pos (k - xs.length) with h | h
            · exact h
            · rw [List.getElem?_eq_none (by simp; omega)] at hz; cases hz
          rw [hk0] at hz
          simp only [List.getElem?_cons_zero, Option.some.injEq] at hz
          subst hz
          refine ⟨_, hcells, hlen, fun j u hju => ?_⟩
          have hki : k = i := by omega
          rw [hki, ← hpre, List.getElem?_append_right (by omega)]
          rw [show pre.length + j - pre.length = j by omega]
          exact hju
      obtain ⟨vs, h1, h2, h3⟩ := partsD_of hk hrb he ps (i + 1) (xs ++ [y]) zs (pre ++ (ρ x).cells.toList) (post.drop κ.size) hz hall.2
        (by rw [List.length_append, hpre, hlen, Nat.add_mul, Nat.one_mul]) (by simp [hi]) hrow (by rw [List.length_drop]; omega)
      refine ⟨vs, ?_, ?_, by simpa using h3⟩
      · rw [List.map_cons, fill_step _ (pre ++ post) i (ρ x) _ (i * κ.size) κ.size rfl hlen' (by rw [List.length_append, hpre]; omega), hset]
        exact h1
      · rw [h2]; simp only [List.length_append, List.length_drop, hlen]; omega
theorem buildSlice_core {t : TypeId} {len : Nat} {parts : Array (Nat × Operand)} {ρ : Operand → Value} {K : AV → Option AB → Option R} {r : R} {E : Env} {e : Operand → AV} {d : Nat} (m : Mem w0 Fz0 ι Fz H w)
    (he : ∀ x, RV ι Fz w (e x) (ρ x)) (h : opR E (.buildSlice t len parts) e H K d = some r) (hpl0 : plainSl E t = true) :
    ∃ (el : TypeId) (κ : Kd) (xs : List (Den κ)) (vs : List Value), K (.own κ d) (some (.arr el κ xs)) = some r ∧
      (Instr.buildSlice t len (parts.map fun (i, x) => (i, ρ x))).run E.P w = .ok (.slice (some ⟨w.heap.size, 0, none⟩) xs.length len) (w.alloc (.cells vs.toArray el)) ∧
      Row Fz w κ xs vs ∧ xs.length = len ∧ len ≤ maxLen ∧ vs.length = len * κ.size := by
  simp only [opR] at h
  obtain ⟨el, hu, h⟩ := elemK_of h
  split at h
  · rename_i κ hkd
    cases hc : (sizeB E.P el κ.size && zeroSome E.P el && Nat.ble 1 κ.size && Nat.beq parts.size len && Nat.ble (len * κ.size) 1000) with
    | false => rw [hc] at h; cases h
    | true =>
      rw [hc, cond_true] at h
      simp only [Bool.and_eq_true] at hc
      obtain ⟨⟨⟨⟨hs, hzs⟩, h1⟩, hpl⟩, hle⟩ := hc
      obtain ⟨inf, hinf, hsz⟩ := sizeB_of hs
      have h1 := Nat.le_of_ble_eq_true h1
      have hpl := Nat.eq_of_beq_eq_true hpl
      have hle := Nat.le_of_ble_eq_true hle
      unfold zeroSome at hzs
      rw [hinf] at hzs
      obtain ⟨z, hz⟩ := Option.isSome_iff_exists.1 hzs
      obtain ⟨xs, hxs, h⟩ := Option.bind_eq_some_iff.1 h
      cases hall : (parts.toList.all fun p => (e p.2).free || !(e p.2).handled) with
      | false => rw [hall] at h; cases h
      | true =>
        rw [hall, cond_true] at h
        have hpart : ∀ (l : List Value), l.length = len * κ.size → ∃ vs, Instr.fill (fun i => some (i * κ.size, κ.size)) l.toArray (parts.toList.map fun p => (p.1, ρ p.2)) = some vs.toArray ∧ vs.length = l.length ∧ Row Fz w κ xs vs := by
          intro l hl
          have := partsD_of h1 m.rb he parts.toList 0 [] xs [] l hxs hall (by simp) rfl Row.nil (by rw [hl, ← hpl]; simp)
          simpa using this
        have hxl : xs.length = len := by
          have : ∀ (ps : List (Nat × AV)) (i : Nat) (ys : List (Den κ)), partsD H κ i ps = some ys → ys.length = ps.length := by
            intro ps
            induction ps with
            | nil => intro i ys h; simp only [partsD, Option.some.injEq] at h; subst h; rfl
            | cons p ps ih =>
              intro i ys h
              simp only [partsD] at h
              cases hj : Nat.beq i p.1 with
              | false => rw [hj] at h; cases h
              | true =>
                rw [hj, cond_true] at h
                obtain ⟨y, _, h⟩ := Option.bind_eq_some_iff.1 h
                obtain ⟨zs, hz, h⟩ := Option.bind_eq_some_iff.1 h
                simp only [Option.some.injEq] at h
                subst h
                simp [ih _ _ hz]
          rw [this _ _ _ hxs]; simp [hpl]
        have hpl2 : (parts.map fun (i, x) => (i, ρ x)).toList = parts.toList.map fun p => (p.1, ρ p.2) := by simp
        have hml : len ≤ maxLen := by
          have : len * 1 ≤ len * κ.size := Nat.mul_le_mul_left _ h1
          simp only [maxLen]; omega
        obtain ⟨vs, hf, hvl, hrow⟩ := hpart (((Array.range (len * κ.size)).map (fun i => (if len * κ.size = 0 then (#[] : Array Value) else z.cells)[i % (if len * κ.size = 0 then (#[] : Array Value) else z.cells).size]!)).toList) (by simp)
        refine ⟨el, κ, xs, vs, h, ?_, hrow, hxl, hml, by rw [hvl]; simp⟩
        simp only [Array.toArray_toList] at hf
        rw [hxl]
        by_cases h0 : len * κ.size = 0
        · have hlen0 : len = 0 := by
            rcases Nat.mul_eq_zero.1 h0 with h | h
            · exact h
            · omega
          subst hlen0
          have hp0 : parts = #[] := Array.eq_empty_of_size_eq_zero hpl
          subst hp0
          have hv0 : vs = [] := List.eq_nil_of_length_eq_zero (by rw [hvl]; simp)
          subst hv0
          simp [Instr.buildSlice, run_underlying hu, run_size hinf, Instr.fill, newRow, Array.range_zero']
        · simp only [h0, if_false] at hf
          simp only [Instr.buildSlice, Sem.run_bind, run_underlying hu, Result.andThen_ok, run_size hinf, hsz]
          rw [if_neg (by omega)]
          simp only [h0, if_false, zeroValue, typeInfo, Sem.run_bind, run_program, Result.andThen_ok, hinf, Sem.run_pure, hz, hpl2]
          simp only [hf]
          simp [newRow]
  · rename_i hkd
    simp [plainSl, hu, hkd] at hpl0

theorem single_cell {a : AV} {v : Value} (h : RV ι Fz w a v) (hs : a.single = true) : v.cells.toList = [v] ∧ v.oneCell' = true := by
  cases a with
  | pv κ x =>
    have hk : κ.isAgg = false := by simpa [AV.single] using hs
    simp only [RV, hk, Bool.false_eq_true, if_false] at h
    have h1 := RP_one κ x _ h v (by simp)
    exact ⟨by cases v <;> simp_all [Value.cells, Value.oneCell'], h1⟩
  | nils => simp only [RV] at h; subst h; exact ⟨rfl, rfl⟩
  | agg cs => simp [AV.single] at hs
  | own κ g => simp only [RV] at h; rcases h with ⟨_, rfl⟩ | ⟨_, rfl⟩ <;> exact ⟨rfl, rfl⟩
  | sub κ g o l => simp only [RV] at h; obtain ⟨_, h⟩ := h; rcases h with ⟨_, a, c, rfl, _⟩ | ⟨_, c, rfl, _⟩ <;> exact ⟨rfl, rfl⟩
  | ref g o => simp only [RV] at h; obtain ⟨_, rfl⟩ := h; exact ⟨rfl, rfl⟩
  | eref κ x => simp only [RV] at h; obtain ⟨_, _, _, rfl, _⟩ := h; exact ⟨rfl, rfl⟩
  | aref κ g o => simp only [RV] at h; obtain ⟨_, _, rfl⟩ := h; exact ⟨rfl, rfl⟩
  | gi _ _ => simp only [RV] at h; obtain ⟨rfl, _⟩ := h; exact ⟨rfl, rfl⟩
  | mf _ _ => simp only [RV] at h; obtain ⟨_, _, rfl⟩ := h; exact ⟨rfl, rfl⟩
  | ep _ => simp only [RV] at h; obtain ⟨_, _, rfl, _⟩ := h; exact ⟨rfl, rfl⟩
  | nilp => simp only [RV] at h; subst h; exact ⟨rfl, rfl⟩
  | niliface => simp only [RV] at h; subst h; exact ⟨rfl, rfl⟩
  | iface t x => simp only [RV] at h; obtain ⟨_, rfl, _⟩ := h; exact ⟨rfl, rfl⟩
  | func f cs => simp only [RV] at h; obtain ⟨_, rfl, _⟩ := h; exact ⟨rfl, rfl⟩
  | nanv => simp only [RV] at h; obtain ⟨_, rfl, _⟩ := h; exact ⟨rfl, rfl⟩
  | nilf => simp only [RV] at h; subst h; exact ⟨rfl, rfl⟩
  | bsl g n => simp only [RV] at h; obtain ⟨_, rfl⟩ := h; exact ⟨rfl, rfl⟩
  | capd κ xs => simp only [RV] at h; obtain ⟨_, a, rfl⟩ := h; exact ⟨rfl, rfl⟩
  | tuple cs => simp [AV.single] at hs
  | dead => simp [AV.single] at hs
theorem fill_singles {ρ : Operand → Value} {e : Operand → AV} (he : ∀ x, RV ι Fz w (e x) (ρ x)) :
    ∀ (ps : List (Nat × Operand)) (i : Nat) (pre post : List Value), inOrder i (ps.map Prod.fst) = true → (ps.map fun p => e p.2).all AV.single = true → pre.length = i → post.length = ps.length →
      Instr.fill (fun i => some (i * 1, 1)) (pre ++ post).toArray (ps.map fun p => (p.1, ρ p.2)) = some (pre ++ ps.map fun p => ρ p.2).toArray
  | [], i, pre, post, _, _, _, hp => by
    have : post = [] := List.eq_nil_of_length_eq_zero (by simpa using hp)
    subst this
    simp [Instr.fill]
  | (j, x) :: ps, i, pre, post, ho, hs, hpre, hp => by
    simp only [List.map_cons, inOrder, Bool.and_eq_true] at ho
    simp only [List.map_cons, List.all_cons, Bool.and_eq_true] at hs
    have e1 := Nat.eq_of_beq_eq_true ho.1
    subst e1
    obtain ⟨hc, _⟩ := single_cell (he x) hs.1
    cases post with
    | nil => simp at hp
    | cons p0 post =>
      have hsz : (ρ x).cells.size = 1 := by rw [← Array.length_toList, hc]; rfl
      rw [List.map_cons, fill_step _ (pre ++ p0 :: post) i (ρ x) _ (i * 1) 1 rfl hsz (by rw [hsz, List.length_append, List.length_cons]; omega), hc]
      have hset : setV (pre ++ p0 :: post) (i * 1) [ρ x] = (pre ++ [ρ x]) ++ post := by
        simp only [setV, Nat.mul_one]
        rw [← hpre]; simp
      rw [hset, fill_singles he ps (i + 1) (pre ++ [ρ x]) post ho.2 hs.2 (by simp [hpre]) (by simpa using hp)]
      simp
theorem buildBsl_of {t : TypeId} {len : Nat} {parts : Array (Nat × Operand)} {ρ : Operand → Value} {K : AV → Option AB → Option R} {r : R} {E : Env} {e : Operand → AV} {d : Nat} (m : Mem w0 Fz0 ι Fz H w)
    (he : ∀ x, RV ι Fz w (e x) (ρ x)) (h : opR E (.buildSlice t len parts) e H K d = some r) (hpl0 : plainSl E t = false) :
    ∃ v b, K v (some b) = some r ∧ (AB.okN d b → ∃ v' w', (Instr.buildSlice t len (parts.map fun (i, x) => (i, ρ x))).run E.P w = .ok v' w' ∧ After w0 Fz0 ι Fz H w d v (some b) v' w') := by
  simp only [opR] at h
  obtain ⟨el, hu, h⟩ := elemK_of h
  split at h
  · rename_i κ hkd
    simp [plainSl, hu, hkd] at hpl0
  · rename_i hkd
    cases hc : (sizeB E.P el 1 && zeroSome E.P el && Nat.ble 1 len && Nat.beq parts.size len && Nat.ble len 1000 && inOrder 0 (parts.toList.map Prod.fst) && (parts.toList.map fun p => e p.2).all AV.single) with
    | false => rw [hc] at h; cases h
    | true =>
      rw [hc, cond_true] at h
      simp only [Bool.and_eq_true] at hc
      obtain ⟨⟨⟨⟨⟨⟨hs, hzs⟩, h1⟩, hpl⟩, hle⟩, hio⟩, hsg⟩ := hc
      obtain ⟨inf, hinf, hsz⟩ := sizeB_of hs
      have h1 := Nat.le_of_ble_eq_true h1
      have hpl := Nat.eq_of_beq_eq_true hpl
      have hle := Nat.le_of_ble_eq_true hle
      unfold zeroSome at hzs
      rw [hinf] at hzs
      obtain ⟨z, hz⟩ := Option.isSome_iff_exists.1 hzs
      have hlen : (parts.toList.map fun p => ρ p.2).length = len := by simp [hpl]
      have hvs : RVs ι Fz w (parts.toList.map fun p => e p.2) (parts.toList.map fun p => ρ p.2) := by
        have main : ∀ l : List (Nat × Operand), RVs ι Fz w (l.map fun p => e p.2) (l.map fun p => ρ p.2) := by
          intro l
          induction l with
          | nil => simp [RVs]
          | cons p l ih => simp only [List.map_cons, RVs]; exact ⟨_, _, rfl, he p.2, ih⟩
        exact main _
      have h1c : ∀ u ∈ (parts.toList.map fun p => ρ p.2), u.oneCell' = true := by
        intro u hu'
        obtain ⟨p, hp, rfl⟩ := List.mem_map.1 hu'
        exact (single_cell (he p.2) (List.all_eq_true.1 hsg _ (List.mem_map.2 ⟨p, hp, rfl⟩))).2
      refine ⟨_, _, h, fun hm => ⟨.slice (some ⟨w.heap.size, 0, none⟩) len len, w.alloc (.cells (parts.toList.map fun p => ρ p.2).toArray el), ?_, ?_⟩⟩
      · have hpl2 : (parts.map fun (i, x) => (i, ρ x)).toList = parts.toList.map fun p => (p.1, ρ p.2) := by simp
        have h0 : ¬ (len * 1 = 0) := by omega
        have hf := fill_singles he parts.toList 0 [] (((Array.range (len * 1)).map (fun i => z.cells[i % z.cells.size]!)).toList) hio hsg rfl (by simp [hpl])
        simp only [List.nil_append, Array.toArray_toList] at hf
        simp only [Instr.buildSlice, Sem.run_bind, run_underlying hu, Result.andThen_ok, run_size hinf, hsz]
        rw [if_neg (by omega)]
        simp only [h0, if_false, zeroValue, typeInfo, Sem.run_bind, run_program, Result.andThen_ok, hinf, Sem.run_pure, hz, hpl2]
        simp only [hf]
        simp [newRow]
      · obtain ⟨ι', Fz', g1, g2, g3, g4, g5⟩ := box_new (T := el) m hm.1 hm.2 hvs h1c
        refine ⟨ι', Fz', g1, g2, g3, g4, ?_⟩
        simp only [RV] at g5 ⊢
        obtain ⟨a1, a2⟩ := g5
        simp only [Value.pointer.injEq, Option.some.injEq, Addr.mk.injEq] at a2
        exact ⟨a1, by rw [a2.1]⟩
theorem buildSlice_of {t : TypeId} {len : Nat} {parts : Array (Nat × Operand)} {ρ : Operand → Value} {K : AV → Option AB → Option R} {r : R} {E : Env} {e : Operand → AV} {d : Nat} (m : Mem w0 Fz0 ι Fz H w)
    (he : ∀ x, RV ι Fz w (e x) (ρ x)) (h : opR E (.buildSlice t len parts) e H K d = some r) :
    ∃ v b, K v (some b) = some r ∧ (AB.okN d b → ∃ v' w', (Instr.buildSlice t len (parts.map fun (i, x) => (i, ρ x))).run E.P w = .ok v' w' ∧ After w0 Fz0 ι Fz H w d v (some b) v' w') := by
  cases hp : plainSl E t with
  | false => exact buildBsl_of m he h hp
  | true =>
  obtain ⟨el, κ, xs, vs, h, hrun, hrow, hxl, hml, hvl⟩ := buildSlice_core m he h hp
  exact ⟨_, _, h, fun hm => ⟨.slice (some ⟨w.heap.size, 0, none⟩) xs.length len, w.alloc (.cells vs.toArray el), hrun, arr_new m hrow (by omega) hml (by rw [hvl]) hm.2⟩⟩
/-! ### rows that are made -/
theorem zeroB_of {Fz : Nat → Prop} {w : World} : ∀ (κ : Kd) (cs : List Value), zeroB κ cs = true → RP Fz w κ κ.zero cs := by
  intro κ
  induction κ with
  | pair a b iha ihb =>
    intro cs h
    simp only [zeroB, Bool.and_eq_true] at h
    exact ⟨cs.take a.size, cs.drop a.size, (List.take_append_drop _ _).symm, iha _ h.1, ihb _ h.2⟩
  | int k =>
    intro cs h; unfold zeroB at h
    split at h <;> simp_all [RP, Kd.zero]
  | float =>
    intro cs h; unfold zeroB at h
    split at h <;> simp_all [RP, Kd.zero]
  | bool =>
    intro cs h; unfold zeroB at h
    split at h <;> simp_all [RP, Kd.zero]
  | str =>
    intro cs h; unfold zeroB at h
    split at h <;> simp_all [RP, Kd.zero]
    rename_i s
    obtain ⟨⟨l⟩⟩ := s
    simp at h
    rw [h]
  | list e ih =>
    intro cs h; unfold zeroB at h
    split at h <;> first | (cases h; done) | skip
    all_goals first | (exact ⟨_, rfl, none, 0, rfl, Nat.le_refl _, .inl rfl⟩) | simp_all
  | any =>
    intro cs h; unfold zeroB at h
    cases h
  | nl e ih =>
    intro cs h; unfold zeroB at h
    cases h
  | unit =>
    intro cs h; unfold zeroB at h
    split at h <;> simp_all [RP, Kd.zero]
  | geo =>
    intro cs h; unfold zeroB at h
    split at h <;> first | (cases h; done) | skip
    all_goals first
      | (simp only [Bool.and_eq_true, decide_eq_true_eq] at h
         obtain ⟨⟨h1, h2⟩, h3⟩ := h
         rw [h1, h2, h3]
         exact ⟨_, _, _, _, _, rfl, ⟨none, 0, rfl, Nat.le_refl _, .inl rfl⟩, ⟨none, 0, rfl, Nat.le_refl _, .inl rfl⟩, ⟨none, 0, rfl, Nat.le_refl _, .inl rfl⟩, Nat.le_refl _, .inl rfl⟩)
      | simp_all
theorem makeSlice_core {t : TypeId} {l c : Operand} {ρ : Operand → Value} {K : AV → Option AB → Option R} {r : R} {E : Env} {e : Operand → AV} {d : Nat}
    (he : ∀ x, RV ι Fz w (e x) (ρ x)) (h : opR E (.makeSlice t l c) e H K d = some r) :
    ∃ (el : TypeId) (κ : Kd) (xs : List (Den κ)) (vs : List Value) (cap : Nat), K (.own κ d) (some (.arr el κ xs)) = some r ∧
      (Instr.makeSlice t (ρ l) (ρ c)).run E.P w = .ok (.slice (some ⟨w.heap.size, 0, none⟩) xs.length cap) (w.alloc (.cells vs.toArray el)) ∧
      Row Fz w κ xs vs ∧ xs.length ≤ cap ∧ cap ≤ maxLen ∧ vs.length = cap * κ.size := by
  simp only [opR] at h
  obtain ⟨el, hu, h⟩ := elemK_of h
  split at h
  · rename_i i κ hi hkd
    split at h
    · rename_i z hz
      cases hc : (Nat.beq i.size κ.size && Nat.ble 1 κ.size && zeroB κ z.cells.toList) with
      | false => rw [hc] at h; cases h
      | true =>
        rw [hc, cond_true] at h
        simp only [Bool.and_eq_true] at hc
        obtain ⟨⟨hs, h1⟩, hzb⟩ := hc
        have hs := Nat.eq_of_beq_eq_true hs
        have h1 := Nat.le_of_ble_eq_true h1
        split at h
        · rename_i k1 n k2 m hel hec
          obtain ⟨k, hk, h⟩ := Option.bind_eq_some_iff.1 h
          unfold mkn at hk
          split at hk
          · rename_i hg
            simp only [Option.some.injEq] at hk
            subst hk
            have hl := he l
            have hcv := he c
            rw [hel, RV_int] at hl
            rw [hec, RV_int] at hcv
            have hrun := run_make (P := E.P) w t el i z hu hi hz k1 k2 n m hg.1 hg.2.1 hg.2.2.1 hg.2.2.2
            have hzr := zeroB_of (Fz := Fz) (w := w) κ _ hzb
            have hzl := RP_len κ _ _ hzr
            refine ⟨el, κ, _, (madeCells z.cells (m.toNat * i.size)).toList, m.toNat, h, ?_, ?_, ?_, ?_, ?_⟩
            · rw [hl, hcv, hrun, List.length_replicate]
            · intro j x hx
              have hj : j < n.toNat := by
                have := List.getElem?_eq_some_iff.1 hx
                obtain ⟨hlt, _⟩ := this
                simpa using hlt
              have hx' : x = κ.zero := by
                rw [List.getElem?_replicate, if_pos hj] at hx
                simpa using hx.symm
              subst hx'
              refine ⟨_, hzr, hzl, fun q u hq => ?_⟩
              have hql : q < κ.size := by
                have := (List.getElem?_eq_some_iff.1 hq).1
                omega
              have hzs : z.cells.size = κ.size := by simpa using hzl
              have hidx : j * κ.size + q < m.toNat * i.size := by
                rw [hs]
                have h2 : (j + 1) * κ.size ≤ m.toNat * κ.size := Nat.mul_le_mul_right _ (by omega)
                rw [Nat.add_mul, Nat.one_mul] at h2
                omega
              rw [Array.getElem?_toList]
              unfold madeCells
              rw [Array.getElem?_map, Array.getElem?_range, if_pos hidx]
              have hmod : (j * κ.size + q) % z.cells.size = q := by
                rw [hzs, Nat.add_comm, Nat.add_mul_mod_self_right, Nat.mod_eq_of_lt hql]
              simp only [Option.map_some, hmod]
              rw [Array.getElem?_toList] at hq
              rw [getElem!_pos z.cells q (by omega)]
              rw [← hq, Array.getElem?_eq_getElem (by omega)]
            · rw [List.length_replicate]; omega
            · simp only [maxLen]; omega
            · rw [← hs]; simp [madeCells]
          · cases hk
        · cases h
    · cases h
  · cases h
theorem makeSlice_of {t : TypeId} {l c : Operand} {ρ : Operand → Value} {K : AV → Option AB → Option R} {r : R} {E : Env} {e : Operand → AV} {d : Nat} (m : Mem w0 Fz0 ι Fz H w)
    (he : ∀ x, RV ι Fz w (e x) (ρ x)) (h : opR E (.makeSlice t l c) e H K d = some r) :
    ∃ v b, K v (some b) = some r ∧ (AB.okN d b → ∃ v' w', (Instr.makeSlice t (ρ l) (ρ c)).run E.P w = .ok v' w' ∧ After w0 Fz0 ι Fz H w d v (some b) v' w') := by
  obtain ⟨el, κ, xs, vs, cap, h, hrun, hrow, hxl, hml, hvl⟩ := makeSlice_core he h
  exact ⟨_, _, h, fun hm => ⟨_, _, hrun, arr_new m hrow hxl hml (by rw [hvl]) hm.2⟩⟩
/-- A new row that is written no more. -/
theorem buildSlice_frz {t : TypeId} {len : Nat} {parts : Array (Nat × Operand)} {ρ : Operand → Value} {K : AV → Option AB → Option R} {r : R} {E : Env} {e : Operand → AV} {d d' : Nat} (m : Mem w0 Fz0 ι Fz H w)
    (he : ∀ x, RV ι Fz w (e x) (ρ x)) (h : opR E (.buildSlice t len parts) e H K d = some r) (hpl0 : plainSl E t = true) :
    ∃ (el : TypeId) (κ : Kd) (xs : List (Den κ)), K (.own κ d) (some (.arr el κ xs)) = some r ∧ ∃ v' w', (Instr.buildSlice t len (parts.map fun (i, x) => (i, ρ x))).run E.P w = .ok v' w' ∧ After w0 Fz0 ι Fz H w d' (.pv (.list κ) xs) none v' w' := by
  obtain ⟨el, κ, xs, vs, h, hrun, hrow, hxl, hml, hvl⟩ := buildSlice_core m he h hpl0
  refine ⟨el, κ, xs, h, _, _, hrun, ι, fun b => Fz b ∨ b = w.heap.size, ?_, fun b hb => .inl hb, fun _ _ => rfl, ?_, ?_⟩
  · intro b hb
    exact Below.heap_alloc _ _ _ (m.fz b hb)
  · refine m.grow ((Below.refl _ _).alloc (Nat.le_refl _) _) (fun b hb => .inl hb) (fun b hb => ?_) (fun b hb => ?_)
    · rcases hb with hb | hb
      · exact .inl hb
      · exact .inr (by omega)
    · have e : (w.alloc (.cells vs.toArray el)).heap.size = w.heap.size + 1 := by show (w.heap.push _).size = _; simp
      rw [e]
      rcases hb with hb | hb
      · have := m.fz b hb; omega
      · omega
  · simp only [RV, Kd.isAgg, Bool.false_eq_true, if_false, RP]
    refine ⟨_, rfl, some ⟨w.heap.size, 0, none⟩, len, rfl, by omega, .inr ⟨w.heap.size, 0, rfl, .inr rfl, fun i x hx => ?_⟩⟩
    obtain ⟨es, h1, h2, h3⟩ := hrow i x hx
    refine ⟨es, RP_mono (fun b hb => Below.heap_alloc _ _ _ (m.fz b hb)) (fun b hb => .inl hb) _ _ _ h1, h2, fun j u hj => ?_⟩
    have e : (w.alloc (.cells vs.toArray el)).heap[w.heap.size]? = some (.cells vs.toArray el (0, 0)) := by
      show (w.heap.push _)[w.heap.size]? = _
      simp
    have := h3 j u hj
    simp only [World.cell?, e, Nat.zero_add]
    simpa using this

/-! ### the greater, the lesser -/
theorem mmV_of {mx : Bool} {x y : AV} {vx vy : Value} {K : AV → Option R} {r : R} (hx : RV ι Fz w x vx) (hy : RV ι Fz w y vy) (h : mmV mx x y K = some r) :
    ∃ v, K v = some r ∧ ∃ v', (bif mx then Builtin.max2 vx vy else Builtin.min2 vx vy).run P w = .ok v' w ∧ RV ι Fz w v v' := by
  unfold mmV at h
  split at h
  · rename_i a m
    split at h
    · rename_i b n
      cases hab : decide (a = b) with
      | false => rw [hab] at h; cases h
      | true =>
        rw [hab, cond_true] at h
        rw [RV_int] at hx hy
        subst hx hy
        refine ⟨_, h, .int a (imm mx m n), ?_, RV_int.2 rfl⟩
        cases mx <;> rfl
    · cases h
  · rename_i m
    split at h
    · rename_i n
      obtain ⟨z, hz, h⟩ := Option.bind_eq_some_iff.1 h
      rw [RV_float] at hx hy
      subst hx hy
      refine ⟨_, h, .float .f64 z, ?_, RV_float.2 rfl⟩
      unfold fmm at hz
      have e : FloatKind.f64.format.order m n = Ieee.double.order m n := rfl
      cases mx <;> simp only [cond_true, cond_false, Builtin.max2, Builtin.min2, e] <;> (cases ho : Ieee.double.order m n with
        | none => rw [ho] at hz; cases hz
        | some c =>
          rw [ho] at hz
          cases c <;> simp only [Option.some.injEq, cond_true, cond_false] at hz <;> subst hz <;> rfl)
    · cases h
  · cases h
/-! ### calls -/
theorem findCon_of {cons : List Con} {f : FuncId} {H : List (Nat × AB)} {vs : List AV} {K : (c : Con) → HL c.ps → Option R} {r : R} (h : findCon cons f H vs K = some r) :
    ∃ c ∈ cons, c.fid = f ∧ ∃ x, argsD H c.ps vs = some x ∧ K c x = some r := by
  induction cons with
  | nil => simp [findCon] at h
  | cons c cs ih =>
    simp only [findCon] at h
    cases hf : Nat.beq c.fid f with
    | true =>
      rw [hf, cond_true] at h
      split at h
      · rename_i x hx
        exact ⟨c, by simp, Nat.eq_of_beq_eq_true hf, x, hx, h⟩
      · obtain ⟨c', h1, h2⟩ := ih h
        exact ⟨c', by simp [h1], h2⟩
    | false =>
      rw [hf, cond_false] at h
      obtain ⟨c', h1, h2⟩ := ih h
      exact ⟨c', by simp [h1], h2⟩
theorem RVs_map {ρ : Operand → Value} {e : Operand → AV} (he : ∀ x, RV ι Fz w (e x) (ρ x)) : ∀ (l : List Operand), RVs ι Fz w (l.map e) (l.map ρ)
  | [] => by simp [RVs]
  | x :: l => by simp only [List.map_cons, RVs]; exact ⟨_, _, rfl, he x, RVs_map he l⟩
theorem resL_plain {Fz' : Nat → Prop} {w' : World} : ∀ (rs : List Kd) (y : HR rs), rs.all Kd.plain = true → ∀ (vs : List Value), RVs ι0 Fz w (resL rs y) vs → RVs ι Fz' w' (resL rs y) vs
  | [], _, _, vs, h => by simpa only [resL, RVs] using h
  | [κ], y, hp, vs, h => by
    simp only [List.all_cons, List.all_nil, Bool.and_true] at hp
    simp only [resL, RVs] at h ⊢
    obtain ⟨v, r, rfl, h, hr⟩ := h
    refine ⟨v, r, rfl, ?_, hr⟩
    simp only [RV] at h ⊢
    split
    · rename_i hk
      simp only [hk, if_true] at h
      obtain ⟨us, e, h⟩ := h
      exact ⟨us, e, RP_plain _ _ _ hp h⟩
    · rename_i hk
      simp only [hk] at h
      exact RP_plain _ _ _ hp h
  | κ :: κ' :: rs, y, hp, vs, h => by
    simp only [List.all_cons, Bool.and_eq_true] at hp
    simp only [resL, RVs] at h ⊢
    obtain ⟨v, r, rfl, h, hr⟩ := h
    refine ⟨v, r, rfl, ?_, resL_plain (κ' :: rs) y.2 (by simp [hp.2]) r hr⟩
    simp only [RV] at h ⊢
    split
    · rename_i hk
      simp only [hk, if_true] at h
      obtain ⟨us, e, h⟩ := h
      exact ⟨us, e, RP_plain _ _ _ hp.1 h⟩
    · rename_i hk
      simp only [hk] at h
      exact RP_plain _ _ _ hp.1 h
theorem resV_plain {Fz' : Nat → Prop} {w' : World} {rs : List Kd} {y : HR rs} (hp : rs.all Kd.plain = true) {v : Value} (h : RV ι0 Fz w (resV rs y) v) : RV ι Fz' w' (resV rs y) v := by
  have key := resL_plain (ι := ι) (Fz := Fz) (w := w) (Fz' := Fz') (w' := w') rs y hp
  unfold resV at h ⊢
  generalize resL rs y = l at h key ⊢
  match l with
  | [] => simp only [RV] at h ⊢; obtain ⟨vs, e, h⟩ := h; exact ⟨vs, e, key vs h⟩
  | [a] => have := key [v] (by simp only [RVs]; exact ⟨v, [], rfl, h, rfl⟩); simp only [RVs, List.cons.injEq] at this; obtain ⟨u, r, ⟨rfl, _⟩, h, _⟩ := this; exact h
  | a :: b :: l => simp only [RV] at h ⊢; obtain ⟨vs, e, h⟩ := h; exact ⟨vs, e, key vs h⟩
theorem resL_ment (h : Nat) : ∀ (rs : List Kd) (y : HR rs), mentL h (resL rs y) = false
  | [], _ => rfl
  | [κ], y => by simp [resL, mentL, AV.ment]
  | κ :: κ' :: rs, y => by simp only [resL, mentL, AV.ment, Bool.false_or]; exact resL_ment h (κ' :: rs) y.2
theorem resV_ment (h : Nat) (rs : List Kd) (y : HR rs) : (resV rs y).ment h = false := by
  have := resL_ment h rs y
  unfold resV
  generalize resL rs y = l at this ⊢
  match l with
  | [] => rfl
  | [a] => simpa [mentL] using this
  | a :: b :: l => simpa [AV.ment] using this
theorem resV_iota {rs : List Kd} {y : HR rs} {v : Value} (h : RV ι0 Fz w (resV rs y) v) : RV ι Fz w (resV rs y) v :=
  RV_mono (fun _ _ => rfl) (fun _ h => h) _ v (fun g hg => by rw [resV_ment] at hg; cases hg) h
theorem isArr_live {b : AB} (h : b.isArr) : b.live := by cases b <;> first | exact h.elim | trivial
theorem lent_lt (m : Mem w0 Fz0 ι Fz H w) : ∀ b, lent ι Fz H b → b < w.heap.size := by
  rintro b (hb | ⟨h, hl, hv, rfl⟩)
  · exact m.fz b hb
  · exact (m.sep h hl hv).2.1
/-- The run of a call of a function value. -/
theorem run_call {P : Program} {o : Oper} {a : Act} {f : Operand} {args : Array Operand} {ts : Array TypeId} {g : FuncId} {caps : List Value} {w : World} (ho : o.op = .call { callee := .value f, args := args, argTypes := ts })
    (hf : a.eval f = .func (.func g) #[] caps.toArray) : (execOp a.eval o).run P w = (callFunc g ((args.toList.map a.eval) ++ caps).toArray).run P w := by
  have : (args.map a.eval ++ caps.toArray) = ((args.toList.map a.eval) ++ caps).toArray := by
    apply Array.ext'; simp
  simp only [execOp, ho, resolve, hf, Deferred.ofValue, Sem.run_bind, Sem.run_pure, Result.andThen_ok, invoke, Array.empty_append, this]
theorem OpGives.call {o : Oper} {a : Act} {f : Operand} {args : Array Operand} {ts : Array TypeId} {g : FuncId} {caps : List Value} {G : Value → World → Prop} (ho : o.op = .call { callee := .value f, args := args, argTypes := ts })
    (hf : a.eval f = .func (.func g) #[] caps.toArray) (h : CallGives P g ((args.toList.map a.eval) ++ caps) w G) : OpGives P o a w G := by
  have hr := run_call (P := P) (w := w) ho hf
  rcases h with ⟨v, w', h1, h2⟩ | ⟨h1, h2⟩
  · exact .inl ⟨v, w', by rw [hr, h1], h2⟩
  · exact .inr (.inr ⟨g, _, by rw [hr, h1], h2⟩)
theorem CallGives.mono {f : FuncId} {args : List Value} {G G' : Value → World → Prop} (h : CallGives P f args w G) (hg : ∀ v w', G v w' → G' v w') : CallGives P f args w G' := by
  rcases h with ⟨v, w', h1, h2⟩ | ⟨h1, h2⟩
  · exact .inl ⟨v, w', h1, hg _ _ h2⟩
  · exact .inr ⟨h1, h2.mono fun e w' ⟨v, e, h⟩ => ⟨v, e, hg _ _ h⟩⟩
theorem callR_core {g : FuncId} {avs : List AV} {vals : List Value} {K : AV → Option AB → Option R} {r : R} {E : Env} {d : Nat} {o : Oper} {a : Act} (hΓ : ∀ c ∈ E.cons, c.Sound E.P w0.gl) (m : Mem w0 Fz0 ι Fz H w)
    (hrv : RVs ι Fz w avs vals) (hcall : ∀ G, CallGives E.P g vals w G → OpGives E.P o a w G)
    (h : (findCon E.cons g H avs fun c' x => bif c'.rs.all Kd.plain || avs.all (fun v => !v.handled) then (c'.fn x).bind fun y => K (resV c'.rs y) none else none) = some r) :
    ∃ v, K v none = some r ∧ OpGives E.P o a w (After w0 Fz0 ι Fz H w d v none) := by
  obtain ⟨c, hc, rfl, x, hx, h⟩ := findCon_of h
  cases hp : (c.rs.all Kd.plain || avs.all fun v => !v.handled) with
  | false => rw [hp] at h; cases h
  | true =>
    rw [hp, cond_true] at h
    obtain ⟨y, hy, h⟩ := Option.bind_eq_some_iff.1 h
    refine ⟨_, h, ?_⟩
    rw [Bool.or_eq_true] at hp
    rcases hp with hp | hp
    · have hra := argsD_of (Fz' := lent ι Fz H) m.rb (fun b hb => .inl hb) c.ps _ x _ hx hrv (fun h _ hl hv => .inr ⟨h, isArr_live hl, hv, rfl⟩)
      refine hcall _ ((hΓ c hc w _ x _ y (lent_lt m) (m.gok.mono (fun _ _ => rfl) (fun b hb => .inl hb)) hra hy).mono ?_)
      rintro v w' ⟨hbel, Fz', h1, h2, h3, hv⟩
      exact ⟨ι, Fz, fun b hb => hbel.block b (m.fz b hb), fun _ h => h, fun _ _ => rfl, m.grow hbel (fun _ h => h) (fun _ h => .inl h) (fun b hb => Nat.lt_of_lt_of_le (m.fz b hb) hbel.size), resV_plain hp hv⟩
    · have hra := argsD_of (Fz' := Fz) m.rb (fun b hb => hb) c.ps _ x _ hx hrv (fun h hm => by rw [noH_ment hp] at hm; cases hm)
      refine hcall _ ((hΓ c hc w _ x _ y m.fz m.gok hra hy).mono ?_)
      rintro v w' ⟨hbel, Fz', h1, h2, h3, hv⟩
      exact ⟨ι, Fz', fun b hb => hbel.block b (m.fz b hb), h1, fun _ _ => rfl, m.grow hbel h1 h2 h3, resV_iota hv⟩
theorem call_of {f : Operand} {args : Array Operand} {ts : Array TypeId} {K : AV → Option AB → Option R} {r : R} {E : Env} {e : Operand → AV} {d : Nat} {o : Oper} {a : Act} (hΓ : ∀ c ∈ E.cons, c.Sound E.P w0.gl) (m : Mem w0 Fz0 ι Fz H w)
    (he : ∀ x, RV ι Fz w (e x) (a.eval x)) (ho : o.op = .call { callee := .value f, args := args, argTypes := ts }) (h : opR E (.call { callee := .value f, args := args, argTypes := ts }) e H K d = some r) :
    ∃ v, K v none = some r ∧ OpGives E.P o a w (After w0 Fz0 ι Fz H w d v none) := by
  simp only [opR] at h
  split at h
  · rename_i g caps hf
    have hef := he f
    rw [hf] at hef
    simp only [RV] at hef
    obtain ⟨cv, hfe, hcv⟩ := hef
    exact callR_core hΓ m (RVs_append (RVs_map he _) hcv) (fun G hG => OpGives.call ho hfe hG) h
  · cases h
/-- The run of a call through an interface. -/
theorem run_invoke {P : Program} {o : Oper} {a : Act} {f : Operand} {nm : String} {args : Array Operand} {ts : Array TypeId} {t : TypeId} {u : Value} {g : FuncId} {x' : Value} {w : World} (ho : o.op = .call { callee := .invoke f nm, args := args, argTypes := ts })
    (hf : a.eval f = .iface t u) (hm : (method (P.types.size + Made.depth) t u nm).run P w = .ok (g, x') w) : (execOp a.eval o).run P w = (callFunc g (x' :: args.toList.map a.eval).toArray).run P w := by
  have e1 : (#[Value.iface t u] ++ args.map a.eval)[0]? = some (.iface t u) := by rw [Array.getElem?_append_left (Nat.zero_lt_one)]; rfl
  have e2 : (#[Value.iface t u] ++ args.map a.eval).extract 1 (#[Value.iface t u] ++ args.map a.eval).size = args.map a.eval := by
    apply Array.ext'
    simp
    rw [List.take_of_length_le (by simp)]
  have e3 : #[x'] ++ args.map a.eval = (x' :: args.toList.map a.eval).toArray := by apply Array.ext'; simp
  simp only [execOp, ho, resolve, hf, Sem.run_bind, Sem.run_pure, Result.andThen_ok, invoke, e1, e2, callMethod, run_program, hm, e3]
theorem OpGives.callI {o : Oper} {a : Act} {f : Operand} {nm : String} {args : Array Operand} {ts : Array TypeId} {t : TypeId} {u : Value} {g : FuncId} {x' : Value} {G : Value → World → Prop} (ho : o.op = .call { callee := .invoke f nm, args := args, argTypes := ts })
    (hf : a.eval f = .iface t u) (hm : (method (P.types.size + Made.depth) t u nm).run P w = .ok (g, x') w) (h : CallGives P g (x' :: args.toList.map a.eval) w G) : OpGives P o a w G := by
  have hr := run_invoke (P := P) (w := w) ho hf hm
  rcases h with ⟨v, w', h1, h2⟩ | ⟨h1, h2⟩
  · exact .inl ⟨v, w', by rw [hr, h1], h2⟩
  · exact .inr (.inr ⟨g, _, by rw [hr, h1], h2⟩)
theorem callI_of {f : Operand} {nm : String} {args : Array Operand} {ts : Array TypeId} {K : AV → Option AB → Option R} {r : R} {E : Env} {e : Operand → AV} {d : Nat} {o : Oper} {a : Act} (hΓ : ∀ c ∈ E.cons, c.Sound E.P w0.gl) (m : Mem w0 Fz0 ι Fz H w)
    (he : ∀ x, RV ι Fz w (e x) (a.eval x)) (ho : o.op = .call { callee := .invoke f nm, args := args, argTypes := ts }) (h : opR E (.call { callee := .invoke f nm, args := args, argTypes := ts }) e H K d = some r) :
    ∃ v, K v none = some r ∧ OpGives E.P o a w (After w0 Fz0 ι Fz H w d v none) := by
  simp only [opR] at h
  have key : ∀ t u u', a.eval f = .iface t u' → RV ι Fz w u u' → (methK E t nm u fun g => findCon E.cons g.1 H (g.2 :: args.toList.map e) fun c' x =>
          bif c'.rs.all Kd.plain || (g.2 :: args.toList.map e).all (fun v => !v.handled) then (c'.fn x).bind fun y => K (resV c'.rs y) none else none) = some r →
      ∃ v, K v none = some r ∧ OpGives E.P o a w (After w0 Fz0 ι Fz H w d v none) := by
    intro t u u' hfe hu h
    obtain ⟨g, x, h, x', hm, hx⟩ := methK_of (w := w) h hu
    refine callR_core (vals := x' :: args.toList.map a.eval) hΓ m ?_ (fun G hG => OpGives.callI ho hfe hm hG) h
    simp only [RVs]
    exact ⟨x', _, rfl, hx, RVs_map he _⟩
  split at h
  · rename_i t u hf
    have hef := he f
    rw [hf] at hef
    simp only [RV] at hef
    obtain ⟨u', hfe, hu⟩ := hef
    exact key t u u' hfe hu h
  · rename_i c hf
    have hef := he f
    rw [hf] at hef
    obtain ⟨t, u, h, u', hfe, hu⟩ := dynK_of hef _ h
    exact key t u u' hfe hu h
  · cases h

/-! ### all of them -/
theorem run_nilAhead {t : TypeId} {nm : String} {a : Addr} {P : Program} {w : World} (h : mthOk P t nm = true) : (nilAhead (P.types.size + Made.depth) t (.pointer (some a)) nm).run P w = .ok (some false) w := by
  unfold mthOk at h
  split at h <;> try (cases h; done)
  rename_i i hi
  split at h <;> try (cases h; done)
  rename_i m hm
  simp only [Bool.and_eq_true] at h
  obtain ⟨h1, h2⟩ := h
  split at h2 <;> try (cases h2; done)
  rename_i f hf
  have hp : m.path.toList = [] := by cases hq : m.path.toList with
    | nil => rfl
    | cons _ _ => rw [hq] at h1; cases h1
  obtain ⟨n, hn⟩ : ∃ n, P.types.size + Made.depth = n + 1 := ⟨P.types.size + 99, rfl⟩
  rw [hn]
  simp [nilAhead, typeInfo, hi, hm, hp, followBlind, hf]
theorem u8T_of {P : Program} {t : TypeId} (h : u8T P t = true) : P.underlying t = some (.int .u8) := by
  unfold u8T at h; split at h
  · assumption
  · cases h
/-- Bytes as a text. -/
theorem conv_bytes {P : Program} {src dst el : TypeId} {a : AV} {xs : List Int} {v : Value} (m : Mem w0 Fz0 ι Fz H w) (hs : P.underlying src = some (.slice el)) (he : P.underlying el = some (.int .u8)) (hd : P.underlying dst = some .string)
    (h : leafD H (.list (.int .u8)) a = some xs) (hr : RV ι Fz w a v) : (convert src dst v).run P w = .ok (.string (strOfNums xs)) w := by
  have hpv : RV ι (lent ι Fz H) w (.pv (.list (.int .u8)) xs) v := leafD_of m.rb (fun _ h => .inl h) rfl h hr (fun h _ hl hv => .inr ⟨h, isArr_live hl, hv, rfl⟩)
  simp only [RV, Kd.isAgg, RP, Bool.false_eq_true, if_false] at hpv
  obtain ⟨v', hv, sa, sc, rfl, hl, hel⟩ := hpv
  simp only [List.cons.injEq, and_true] at hv
  subst hv
  rcases hel with rfl | ⟨b, off, rfl, _, hel⟩
  · rw [run_convert_bytes_string w src dst el _ _ sc hs he hd]
    cases sa <;> simp [Conv.bytesToString, loadCells]
    all_goals first | rfl | done
  · refine run_convert_bytes_arg w src el hs he b off xs.length sc xs rfl (fun i hi => ?_) dst hd
    obtain ⟨es, e1, e2, e3⟩ := hel i xs[i] (List.getElem?_eq_getElem hi)
    subst e1
    have := e3 0 _ rfl
    simpa [Kd.size, List.getD, List.getElem?_eq_getElem hi] using this
theorem opR_of {o : Oper} {a : Act} {K : AV → Option AB → Option R} {r : R} {E : Env} {e : Operand → AV} {d : Nat} (hΓ : ∀ c ∈ E.cons, c.Sound E.P w0.gl) (m : Mem w0 Fz0 ι Fz H w)
    (he : ∀ x, RV ι Fz w (e x) (a.eval x)) (h : opR E o.op e H K d = some r) :
    ∃ v ob, K v ob = some r ∧ ((∀ b, ob = some b → AB.okN d b) → OpGives E.P o a w (After w0 Fz0 ι Fz H w d v ob)) := by
  generalize ho : o.op = op at h
  have val : ∀ {v : AV} {s : Sem Value}, K v none = some r → (execOp a.eval o = (do pure (.value (← s)))) → (∃ v', s.run E.P w = .ok v' w ∧ RV ι Fz w v v') →
      ∃ v ob, K v ob = some r ∧ ((∀ b, ob = some b → AB.okN d b) → OpGives E.P o a w (After w0 Fz0 ι Fz H w d v ob)) :=
    fun hk hs ⟨v', h1, h2⟩ => ⟨_, none, hk, fun _ => OpGives.val (v := v') (by rw [hs]; simp [h1]) (After.same m h2)⟩
  have mem : ∀ {v : AV} {b : AB} {s : Sem Value}, K v (some b) = some r → (execOp a.eval o = (do pure (.value (← s)))) → (AB.okN d b → ∃ v' w', s.run E.P w = .ok v' w' ∧ After w0 Fz0 ι Fz H w d v (some b) v' w') →
      ∃ v ob, K v ob = some r ∧ ((∀ b, ob = some b → AB.okN d b) → OpGives E.P o a w (After w0 Fz0 ι Fz H w d v ob)) :=
    fun {v b s} hk hs hm => ⟨v, some b, hk, fun hb => by
      obtain ⟨v', w', h1, h2⟩ := hm (hb b rfl)
      exact .inl ⟨v', w', by rw [hs]; simp [h1], h2⟩⟩
  cases op with
  | move x =>
    simp only [opR] at h
    split at h
    · cases h
    · exact ⟨_, none, h, fun _ => OpGives.val (by simp [execOp, ho]) (After.same m (he x))⟩
  | assign x =>
    simp only [opR] at h
    split at h
    · cases h
    · exact ⟨_, none, h, fun _ => OpGives.val (by simp [execOp, ho]) (After.same m (he x))⟩
  | pick c x y =>
    simp only [opR] at h
    have hc := he c
    split at h
    · rename_i hec
      rw [hec, RV_bool] at hc
      split at h
      · cases h
      · exact ⟨_, none, h, fun _ => OpGives.val (v := a.eval x) (by simp [execOp, ho, hc, asBool]) (After.same m (he x))⟩
    · rename_i hec
      rw [hec, RV_bool] at hc
      split at h
      · cases h
      · exact ⟨_, none, h, fun _ => OpGives.val (v := a.eval y) (by simp [execOp, ho, hc, asBool]) (After.same m (he y))⟩
    · cases h
  | binOp op t x y u =>
    simp only [opR] at h
    split at h
    · rename_i n hn
      obtain ⟨v, hk, v', hr, hv, hg⟩ := nilK_of m.rb hn (he x) (he y) (nilD_of h)
      refine ⟨v, none, hk, fun _ => OpGives.val (v := v') ?_ (After.same m hv)⟩
      simp [execOp, ho, hg x y, hr]
    · obtain ⟨v, hk, v', hr, hv, hg⟩ := binV_of (he x) (he y) h
      refine ⟨v, none, hk, fun _ => OpGives.val (v := v') ?_ (After.same m hv)⟩
      simp [execOp, ho, hg x y rfl, hr]
  | unOp op t x =>
    simp only [opR] at h
    have hx := he x
    split at h
    · rename_i b hex
      rw [hex, RV_bool] at hx
      exact val h (by simp only [execOp, ho]; rfl) ⟨_, by simp [hx, Op.unary], RV_bool.2 rfl⟩
    · rename_i k n hex
      rw [hex, RV_int] at hx
      exact val h (by simp only [execOp, ho]; rfl) ⟨_, by simp only [hx, Op.unary, Op.intArith, Sem.run_pure], RV_int.2 rfl⟩
    · rename_i b hex
      rw [hex, RV_float] at hx
      exact val h (by simp only [execOp, ho]; rfl) ⟨_, by simp only [hx, Op.unary, Sem.run_pure]; rfl, RV_float.2 rfl⟩
    · cases h
  | convert src dst x =>
    simp only [opR] at h
    have hx := he x
    split at h
    · rename_i k0 n _ k hex hs hd
      rw [hex, RV_int] at hx
      refine val h (by simp only [execOp, ho]; rfl) ⟨_, ?_, RV_int.2 rfl⟩
      simp [hx, convert, run_underlying hs, run_underlying hd, Conv.intToInt]
    · rename_i k0 n _ hex hs hd
      rw [hex, RV_int] at hx
      refine val h (by simp only [execOp, ho]; rfl) ⟨_, ?_, RV_float.2 rfl⟩
      rw [hx]
      exact run_convert_int_float w src dst k0 .f64 n (by rw [hs]; rfl) hd
    · rename_i b _ k hex hs hd
      rw [hex, RV_float] at hx
      obtain ⟨n, hn, h⟩ := Option.bind_eq_some_iff.1 h
      refine val h (by simp only [execOp, ho]; rfl) ⟨_, ?_, RV_int.2 rfl⟩
      rw [hx]
      exact run_convert_float_int w src dst .f64 k b n (by rw [hs]; rfl) hd hn
    · rename_i b _ hex hs hd
      rw [hex, RV_float] at hx
      refine val h (by simp only [execOp, ho]; rfl) ⟨_, ?_, RV_float.2 rfl⟩
      rw [hx]
      exact run_convert_float_float w src dst .f64 .f64 b b (by rw [hs]; rfl) hd (by simp [floatToFloatBits])
    · rename_i el hs hd
      cases hu : u8T E.P el with
      | false => rw [hu] at h; cases h
      | true =>
      rw [hu, cond_true] at h
      obtain ⟨xs, hxs, h⟩ := Option.bind_eq_some_iff.1 h
      exact val h (by first | (simp only [execOp, ho]; done) | (simp only [execOp, ho]; rfl)) ⟨_, conv_bytes m hs (u8T_of hu) hd hxs hx, RV_str.2 rfl⟩
    · cases h
  | alloc t =>
    obtain ⟨v, b, hk, hm⟩ := alloc_of m h
    exact mem hk (by simp only [execOp, ho]) hm
  | box t x =>
    obtain ⟨v, b, hk, hm⟩ := boxOp_of m (he x) h
    exact mem hk (by simp only [execOp, ho]) hm
  | load t x =>
    obtain ⟨v, hk, hr⟩ := load_of rfl m (he x) h
    exact val hk (by simp only [execOp, ho]) hr
  | fieldAddr s x f =>
    obtain ⟨v, hk, hr⟩ := fieldAddr_of (he x) h
    exact val hk (by simp only [execOp, ho]) hr
  | field s x f =>
    obtain ⟨v, hk, hr⟩ := field_of (he x) h
    exact val hk (by simp only [execOp, ho]) hr
  | indexAddr t x i =>
    obtain ⟨v, hk, hr⟩ := indexAddr_of m (he x) (he i) h
    exact val hk (by simp only [execOp, ho]) hr
  | slice t x lo hi mx =>
    cases mx with
    | some mx =>
      cases hi with
      | none => simp [opR] at h
      | some hi =>
        obtain ⟨v, hk, v', hr⟩ := slice3_of m he h
        exact val (s := Instr.sliceAt t (a.eval x) (lo.map a.eval) (some (a.eval hi)) (some (a.eval mx))) hk (by simp only [execOp, ho]; rfl) ⟨v', hr⟩
    | none =>
      obtain ⟨v, hk, v', hr⟩ := slice_of m he h
      exact val (s := Instr.sliceAt t (a.eval x) (lo.map a.eval) (hi.map a.eval) none) hk (by simp only [execOp, ho]; rfl) ⟨v', hr⟩
  | build t parts =>
    obtain ⟨v, hk, hr⟩ := build_of he h
    exact val hk (by simp only [execOp, ho]) hr
  | buildSlice t len parts =>
    obtain ⟨v, b, hk, hm⟩ := buildSlice_of m he h
    exact mem hk (by simp only [execOp, ho]) hm
  | makeSlice t l c =>
    obtain ⟨v, b, hk, hm⟩ := makeSlice_of m he h
    exact mem hk (by simp only [execOp, ho]) hm
  | makeInterface t x =>
    simp only [opR] at h
    split at h
    · cases h
    · rename_i dsc hni hu
      split at h
      · cases h
      · refine val (s := Instr.makeInterface t (a.eval x)) h (by simp only [execOp, ho]) ⟨.iface t (a.eval x), ?_, by simp only [RV]; exact ⟨_, rfl, he x⟩⟩
        exact run_makeInterface w t _ (by unfold Program.concrete; rw [hu]; cases dsc <;> first | rfl | exact absurd rfl (hni _))
    · cases h
  | typeAssert x xt asserted ok =>
    cases ok with
    | true =>
      obtain ⟨v, hk, hr⟩ := assertOk_of (he x) h
      exact val (s := Instr.typeAssert (a.eval x) xt asserted true) hk (by simp only [execOp, ho]) hr
    | false =>
      simp only [opR] at h
      have hx := he x
      split at h
      · rename_i want t v hu hex
        rw [hex] at hx
        have hx0 := hx
        simp only [RV] at hx
        obtain ⟨u, hxe, hv⟩ := hx
        split at h
        rotate_left
        · cases h
        rename_i i hi
        have hti := run_typeInfo (P := E.P) (w := w) hi
        cases hlk : lacks want i.methods with
        | true => rw [hlk] at h; cases h
        | false =>
          rw [hlk, cond_false] at h
          have hms := lacks_false hlk
          refine val (s := Instr.typeAssert (a.eval x) xt asserted false) h (by simp only [execOp, ho]) ⟨a.eval x, ?_, hx0⟩
          rw [hxe]
          simp [Instr.typeAssert, run_underlying hu, hti, hms]
      · cases h
      · rename_i dsc t v hni hu hex
        rw [hex] at hx
        simp only [RV] at hx
        obtain ⟨u, hxe, hv⟩ := hx
        cases hb : Nat.beq t asserted with
        | false => rw [hb] at h; cases h
        | true =>
          rw [hb, cond_true] at h
          have e1 := Nat.eq_of_beq_eq_true hb
          subst e1
          refine val (s := Instr.typeAssert (a.eval x) xt t false) h (by simp only [execOp, ho]) ⟨u, ?_, hv⟩
          rw [hxe]
          cases dsc <;> first | (exact absurd rfl (hni _); done) | simp [Instr.typeAssert, run_underlying hu]
      · rename_i dsc c hni hu hex
        rw [hex] at hx
        obtain ⟨κ, _, h⟩ := kdK_of h
        cases ha : aggIs E.P asserted κ.isAgg with
        | false => rw [ha] at h; cases h
        | true =>
          rw [ha, cond_true] at h
          obtain ⟨y, hy, h⟩ := Option.bind_eq_some_iff.1 h
          obtain ⟨u', hxe, hu'⟩ := asT_of (ι := ι) hy (RV_any.1 hx)
          refine val (s := Instr.typeAssert (a.eval x) xt asserted false) h (by simp only [execOp, ho]) ⟨u', ?_, hu'⟩
          rw [hxe]
          cases dsc <;> first | (exact absurd rfl (hni _); done) | simp [Instr.typeAssert, run_underlying hu]
      · cases h
  | makeFunc fn first caps =>
    cases fn with
    | func f =>
      simp only [opR] at h
      cases hc : (first.isEmpty && aliveL (caps.toList.map e)) with
      | false => rw [hc] at h; cases h
      | true =>
        rw [hc, cond_true] at h
        simp only [Bool.and_eq_true] at hc
        refine val (s := Instr.makeFunc (.func f) (first.map a.eval) (caps.map a.eval)) h (by simp only [execOp, ho]) ⟨_, rfl, ?_⟩
        have hfe : first = #[] := Array.isEmpty_iff.1 hc.1
        simp only [RV]
        refine ⟨caps.toList.map a.eval, ?_, RVs_map he _⟩
        have : (caps.toList.map a.eval).toArray = caps.map a.eval := by apply Array.ext'; simp
        rw [this, hfe, Array.map_empty]
    | method nm =>
      simp only [opR] at h
      split at h
      · rename_i x hf hcp
        split at h
        · rename_i ty g off hex
          have hx := he x
          rw [hex] at hx
          simp only [RV] at hx
          obtain ⟨u, hxe, _, rfl⟩ := hx
          have e1 : first = #[x] := by apply Array.ext'; exact hf
          refine val (s := Instr.makeFunc (.method nm) (first.map a.eval) (caps.map a.eval)) h (by simp only [execOp, ho]) ⟨_, rfl, ?_⟩
          simp only [RV]
          exact ⟨_, _, by rw [e1]; simp [hxe]; exact ⟨rfl, rfl⟩⟩
        · cases h
      · cases h
    | _ => simp [opR] at h
  | extract x i =>
    simp only [opR] at h
    have hx := he x
    split at h
    · rename_i vs hex
      rw [hex] at hx
      simp only [RV] at hx
      obtain ⟨us, hxe, hvs⟩ := hx
      split at h
      · cases h
      · rename_i v hnd hv
        obtain ⟨u, hu, hru⟩ := RVs_at hvs hv
        refine val (s := Instr.extract (a.eval x) i) h (by simp only [execOp, ho]) ⟨u, ?_, hru⟩
        simp [hxe, Instr.extract, hu]
      · cases h
    · cases h
  | index t x i =>
    simp only [opR] at h
    have hx := he x
    have hi := he i
    split at h
    · rename_i n el hat
      have hu := arrT_of hat
      split at h
      · rename_i κ k j hkd hei
        rw [hei, RV_int] at hi
        cases hc : (sizeB E.P el κ.size && aggIs E.P el κ.isAgg && (e x).isAgg && κ.plain) with
        | false => rw [hc] at h; cases h
        | true =>
          rw [hc, cond_true] at h
          simp only [Bool.and_eq_true] at hc
          obtain ⟨⟨⟨hs, hag⟩, hxa⟩, hpl⟩ := hc
          obtain ⟨inf, hinf, hsz⟩ := sizeB_of hs
          obtain ⟨ys, hys, h⟩ := Option.bind_eq_some_iff.1 h
          obtain ⟨y, hy, h⟩ := Option.bind_eq_some_iff.1 h
          obtain ⟨h0, hlt, hy⟩ := nth_of hy
          -- the array's cells
          obtain ⟨vs, hxe, hcs⟩ : ∃ vs : List Value, a.eval x = .agg vs.toArray ∧ RVs ι Fz w (e x).flat vs := by
            generalize e x = ax at hx hxa
            cases ax <;> simp only [AV.isAgg] at hxa <;> first | (cases hxa; done) | skip
            · rename_i κ' z
              cases κ' <;> simp only [AV.isAgg] at hxa <;> first | (cases hxa; done) | skip
              simp only [RV, Kd.isAgg, if_true] at hx
              obtain ⟨vs, e1, hr⟩ := hx
              exact ⟨vs.toList, by simpa using e1, flatD_of _ _ _ hr⟩
            · simp only [RV] at hx
              obtain ⟨vs, e1, _, hr⟩ := hx
              exact ⟨vs, e1, hr⟩
          have hnm : ∀ h, mentL h (e x).flat = true → (getH H h).isArr → (ι h).virt = false → lent ι Fz H (ι h).blk := fun h _ hl hv => .inr ⟨h, isArr_live hl, hv, rfl⟩
          obtain ⟨g1, g2, g3⟩ := chunks_of (H := H) (Fz' := lent ι Fz H) m.rb (fun _ h => .inl h) n _ ys vs hys hcs hnm
          have hp0 : RP Fz w κ y _ := RP_plain κ y _ hpl (g3 _ y hy)
          have hjt : j.toNat < n := g1 ▸ hlt
          have hjn : j < n := (Int.toNat_lt h0).1 hjt
          have hidx : j.toNat * κ.size + κ.size ≤ vs.length := by
            rw [g2, ← Nat.succ_mul]; exact Nat.mul_le_mul_right _ hjt
          cases hka : κ.isAgg with
          | true =>
            rw [hka] at hag
            refine val (s := Instr.index t (a.eval x) (a.eval i)) h (by simp only [execOp, ho]) ⟨.agg ((vs.drop (j.toNat * κ.size)).take κ.size).toArray, ?_, by simp only [RV, hka, if_true]; exact ⟨_, rfl, by simpa using hp0⟩⟩
            rw [hxe, hi]
            simp [Instr.index, asIntOf_int, run_underlying hu, h0, hjn, run_size hinf, run_part w hag hinf, List.extract_toArray, hsz]
          | false =>
            rw [hka] at hag
            have h1' : κ.size = 1 := by cases κ <;> simp_all [Kd.isAgg, Kd.size]
            rw [h1', Nat.mul_one] at hp0 hidx
            have hlt' : j.toNat < vs.length := by omega
            have hd : (vs.drop j.toNat).take 1 = [vs[j.toNat]] := by rw [List.drop_eq_getElem_cons hlt']; rfl
            rw [hd] at hp0
            refine val (s := Instr.index t (a.eval x) (a.eval i)) h (by simp only [execOp, ho]) ⟨vs[j.toNat], ?_, by simpa only [RV, hka, Bool.false_eq_true, if_false] using hp0⟩
            rw [hxe, hi]
            have hcell : vs.toArray[j.toNat * inf.size]? = some vs[j.toNat] := by rw [hsz, h1', Nat.mul_one]; simp [hlt']
            simp [Instr.index, asIntOf_int, run_underlying hu, h0, hjn, run_size hinf, run_part_cell w hag hcell]
      · cases h
    split at h
    · rename_i bs k n hex hei
      rw [hex, RV_str] at hx
      rw [hei, RV_int] at hi
      split at h
      · rename_i hu
        obtain ⟨j, hj, h⟩ := Option.bind_eq_some_iff.1 h
        unfold chk at hj
        split at hj
        · rename_i hb
          simp only [Option.some.injEq] at hj
          subst hj
          have hlt : n.toNat < bs.size := by omega
          refine val h (by simp only [execOp, ho]; rfl) ⟨.int .u8 (sbyte bs n.toNat), ?_, RV_int.2 rfl⟩
          rw [hx, hi]
          have hr := run_index_string (P := E.P) w t bs k n hu
          rw [hr, dif_pos hb]
          unfold sbyte
          rw [dif_pos hlt]
        · cases hj
      · cases h
    · cases h
  | nilCheck x =>
    simp only [opR] at h
    have hx := he x
    split at h
    · rename_i g o' hex
      rw [hex] at hx
      have hx' := hx
      simp only [RV] at hx'
      obtain ⟨_, hxe⟩ := hx'
      exact ⟨_, none, h, fun _ => OpGives.val (v := a.eval x) (by simp [execOp, ho, hxe]) (After.same m hx)⟩
    · rename_i κ y hex
      rw [hex] at hx
      have hx' := hx
      simp only [RV] at hx'
      obtain ⟨_, _, _, hxe, _⟩ := hx'
      exact ⟨_, none, h, fun _ => OpGives.val (v := a.eval x) (by simp [execOp, ho, hxe]) (After.same m hx)⟩
    · rename_i κ g i hex
      rw [hex] at hx
      have hx' := hx
      simp only [RV] at hx'
      obtain ⟨_, _, hxe⟩ := hx'
      exact ⟨_, none, h, fun _ => OpGives.val (v := a.eval x) (by simp [execOp, ho, hxe]) (After.same m hx)⟩
    · rename_i f cs hex
      rw [hex] at hx
      have hx' := hx
      simp only [RV] at hx'
      obtain ⟨_, hxe, _⟩ := hx'
      exact ⟨_, none, h, fun _ => OpGives.val (v := a.eval x) (by simp [execOp, ho, hxe]) (After.same m hx)⟩
    · rename_i ty nm hex
      rw [hex] at hx
      have hx' := hx
      simp only [RV] at hx'
      obtain ⟨ad, c, hxe⟩ := hx'
      cases hq : mthOk E.P ty nm with
      | false => rw [hq] at h; cases h
      | true =>
        rw [hq, cond_true] at h
        refine ⟨_, none, h, fun _ => OpGives.val (v := a.eval x) ?_ (After.same m hx)⟩
        simp [execOp, ho, hxe, run_nilAhead hq]
    · rename_i c hex
      rw [hex] at hx
      obtain ⟨b, hb, h⟩ := Option.bind_eq_some_iff.1 h
      rcases isNilp_of hb (RV_any.1 hx) with ⟨rfl, _⟩ | ⟨rfl, ad, hxe⟩
      · cases h
      · exact ⟨_, none, h, fun _ => OpGives.val (v := a.eval x) (by simp [execOp, ho, hxe]) (After.same m hx)⟩
    · cases h
  | call c =>
    obtain ⟨callee, args, ts⟩ := c
    cases callee with
    | value f =>
      obtain ⟨v, hk, hg⟩ := call_of hΓ m he ho h
      exact ⟨v, none, hk, fun _ => hg⟩
    | invoke f nm =>
      obtain ⟨v, hk, hg⟩ := callI_of hΓ m he ho h
      exact ⟨v, none, hk, fun _ => hg⟩
    | builtin b =>
      cases b <;> first | (simp [opR] at h; done) | skip
      case cap =>
        simp only [opR] at h
        split at h
        · rename_i x t hax hat
          have hargs : args = #[x] := by apply Array.ext'; simpa using hax
          have hts : ts = #[t] := by apply Array.ext'; simpa using hat
          subst hargs hts
          have hx := he x
          split at h
          · rename_i el hex hu
            rw [hex] at hx
            simp only [RV] at hx
            refine ⟨_, none, h, fun _ => OpGives.val (v := goInt 0) ?_ (After.same m (by rw [RV_int]; rfl))⟩
            simp [execOp, ho, resolve, invoke, builtin, Builtin.cap_, hx, run_underlying hu]
          · cases h
        · cases h
      case max =>
        simp only [opR] at h
        split at h
        · rename_i x y hax
          have hargs : args = #[x, y] := by apply Array.ext'; simpa using hax
          subst hargs
          obtain ⟨v, hk, v', hr, hv⟩ := mmV_of (P := E.P) (he x) (he y) h
          simp only [cond_true] at hr
          refine ⟨v, none, hk, fun _ => OpGives.val (v := v') ?_ (After.same m hv)⟩
          simp [execOp, ho, resolve, invoke, builtin, Builtin.max_, hr]
        · rename_i x y z hax
          have hargs : args = #[x, y, z] := by apply Array.ext'; simpa using hax
          subst hargs
          obtain ⟨v, hk, v', hr, hv⟩ := mmV_of (P := E.P) (he x) (he y) h
          obtain ⟨u, hk2, u', hr2, hv2⟩ := mmV_of (P := E.P) hv (he z) hk
          simp only [cond_true] at hr hr2
          refine ⟨u, none, hk2, fun _ => OpGives.val (v := u') ?_ (After.same m hv2)⟩
          simp [execOp, ho, resolve, invoke, builtin, Builtin.max_, hr, hr2]
        · cases h
      case min =>
        simp only [opR] at h
        split at h
        · rename_i x y hax
          have hargs : args = #[x, y] := by apply Array.ext'; simpa using hax
          subst hargs
          obtain ⟨v, hk, v', hr, hv⟩ := mmV_of (P := E.P) (he x) (he y) h
          simp only [cond_false] at hr
          refine ⟨v, none, hk, fun _ => OpGives.val (v := v') ?_ (After.same m hv)⟩
          simp [execOp, ho, resolve, invoke, builtin, Builtin.min_, hr]
        · rename_i x y z hax
          have hargs : args = #[x, y, z] := by apply Array.ext'; simpa using hax
          subst hargs
          obtain ⟨v, hk, v', hr, hv⟩ := mmV_of (P := E.P) (he x) (he y) h
          obtain ⟨u, hk2, u', hr2, hv2⟩ := mmV_of (P := E.P) hv (he z) hk
          simp only [cond_false] at hr hr2
          refine ⟨u, none, hk2, fun _ => OpGives.val (v := u') ?_ (After.same m hv2)⟩
          simp [execOp, ho, resolve, invoke, builtin, Builtin.min_, hr, hr2]
        · cases h
      simp only [opR] at h
      split at h
      · rename_i x t hax hat
        have hargs : args = #[x] := by apply Array.ext'; simpa using hax
        have hts : ts = #[t] := by apply Array.ext'; simpa using hat
        subst hargs hts
        have hx := he x
        have fin : ∀ {v : AV} {n : Nat}, K v none = some r → (Builtin.len_ #[t] o.type #[a.eval x]).run E.P w = .ok (goInt n) w → v = .pv (.int .i64) (n : Int) →
            ∃ v ob, K v ob = some r ∧ ((∀ b, ob = some b → AB.okN d b) → OpGives E.P o a w (After w0 Fz0 ι Fz H w d v ob)) := by
          intro v n hk hr hv
          refine ⟨v, none, hk, fun _ => OpGives.val (v := goInt n) ?_ (After.same m (by rw [hv, RV_int]; rfl))⟩
          simp [execOp, ho, resolve, invoke, builtin, hr]
        split at h
        · rename_i κ xs el hex hu
          rw [hex] at hx
          simp only [RV, Kd.isAgg, Bool.false_eq_true, if_false, RP] at hx
          obtain ⟨_, e1, b, c, hxe, _⟩ := hx
          simp only [List.cons.injEq, and_true] at e1
          subst e1
          exact fin h (by rw [hxe]; simp [Builtin.len_, run_underlying hu]) rfl
        · rename_i κ o' el hex hu
          rw [hex] at hx
          simp only [RV, Kd.isAgg, Bool.false_eq_true, if_false, RP] at hx
          obtain ⟨_, e1, hx⟩ := hx
          simp only [List.cons.injEq, and_true] at e1
          subst e1
          rcases hx with ⟨rfl, hxe⟩ | ⟨xs, rfl, ⟨b, c, hxe, _⟩, _⟩
          · exact fin h (by rw [hxe]; simp [Builtin.len_, run_underlying hu]) rfl
          · exact fin h (by rw [hxe]; simp [Builtin.len_, run_underlying hu]) rfl
        · rename_i κ g el hex hu
          rw [hex] at hx
          have hrb := m.rb g
          split at h
          · rename_i el' κ' xs hb
            rw [hb] at hrb
            simp only [RB] at hrb
            simp only [RV] at hx
            rcases hx with ⟨hv, hxe⟩ | ⟨hv, hxe⟩
            · rcases hrb.2 with ⟨_, e⟩ | ⟨e, _⟩
              · refine fin (n := 0) h (by rw [hxe]; simp [Builtin.len_, run_underlying hu]) (by rw [e]; rfl)
              · rw [hv] at e; cases e
            · exact fin (n := (ι g).len) h (by rw [hxe]; simp [Builtin.len_, run_underlying hu]) (by rw [hrb.1])
          · cases h
        · rename_i κ g off len el hex hu
          rw [hex] at hx
          simp only [RV] at hx
          obtain ⟨_, hx⟩ := hx
          rcases hx with ⟨rfl, b, c, hxe, _⟩ | ⟨_, c, hxe, _⟩
          · exact fin (n := 0) h (by rw [hxe]; simp [Builtin.len_, run_underlying hu]) rfl
          · exact fin (n := len) h (by rw [hxe]; simp [Builtin.len_, run_underlying hu]) rfl
        · rename_i el hex hu
          rw [hex] at hx
          simp only [RV] at hx
          exact fin (n := 0) h (by rw [hx]; simp [Builtin.len_, run_underlying hu]) rfl
        · rename_i g n el hex hu
          rw [hex] at hx
          simp only [RV] at hx
          exact fin (n := n) h (by rw [hx.2]; simp [Builtin.len_, run_underlying hu]) rfl
        · rename_i s hex hu
          rw [hex, RV_str] at hx
          exact fin (n := s.size) h (by rw [hx]; simp [Builtin.len_, run_underlying hu]) rfl
        · cases h
      · cases h
  | _ => simp [opR] at h
end
end Go.Av
