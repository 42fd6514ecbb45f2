/- The operations that only read: what the evaluator says of them is what the model does. -/
import Derived.LaidEql
import Derived.Test.YtnoamanjajighaaAv4
import Derived.ChangeKeysEq
import Derived.Laws.StructEq
set_option linter.unusedVariables false
set_option linter.unusedSimpArgs false
namespace Go.Av
open Go Go.RowKit
theorem run_size {P : Program} {t : TypeId} {i : TypeInfo} (h : P.info? t = some i) (w : World) : (sizeOf t).run P w = .ok i.size w := by simp [sizeOf, typeInfo, h]
theorem run_agg {P : Program} {t : TypeId} {b : Bool} (h : aggIs P t b = true) (w : World) : (isAgg t).run P w = .ok b w := by
  unfold aggIs at h
  simp only [isAgg, Sem.run_bind]
  split at h
  · rename_i e; simp [run_underlying e, h]
  · rename_i e; simp [run_underlying e, h]
  · rename_i d h1 h2 e
    simp only [run_underlying e, Result.andThen_ok]
    cases d <;> first | (exact absurd rfl (h1 _); done) | (exact absurd rfl (h2 _ _); done) | (simp at h; subst h; rfl)
  · cases h
theorem run_part {P : Program} {t : TypeId} {cs : Array Value} {off : Nat} {b : Bool} {i : TypeInfo} (w : World) (ha : aggIs P t b = true) (hi : P.info? t = some i) :
    (part t cs off).run P w = if b then .ok (.agg (cs.extract off (off + i.size))) w else match cs[off]? with | some v => .ok v w | none => (stuck "part: no such cell" : Sem Value).run P w := by
  cases b
  · simp only [part, Sem.run_bind, run_agg ha, Result.andThen_ok, Bool.false_eq_true, if_false]
    cases cs[off]? <;> simp
  · simp [part, run_agg ha, run_size hi]
theorem run_part_cell {P : Program} {t : TypeId} {cs : Array Value} {off : Nat} {v : Value} (w : World) (ha : aggIs P t false = true) (hv : cs[off]? = some v) :
    (part t cs off).run P w = .ok v w := by
  simp only [part, Sem.run_bind, run_agg ha, Result.andThen_ok, Bool.false_eq_true, if_false, hv]
  simp

theorem RVs_cons {ι : Nat → HI} {Fz : Nat → Prop} {w : World} {c : AV} {cs : List AV} {vs : List Value} (h : RVs ι Fz w (c :: cs) vs) : ∃ v r, vs = v :: r ∧ RV ι Fz w c v ∧ RVs ι Fz w cs r := by
  simpa only [RVs] using h

def After (w0 : Root) (Fz0 : Nat → Prop) (ι : Nat → HI) (Fz : Nat → Prop) (H : List (Nat × AB)) (w : World) (d : Nat) (v : AV) (ob : Option AB) (v' : Value) (w' : World) : Prop :=
  ∃ (ι' : Nat → HI) (Fz' : Nat → Prop), (∀ b, Fz b → w'.heap[b]? = w.heap[b]?) ∧ (∀ b, Fz b → Fz' b) ∧ (∀ h, (ob = none ∨ h ≠ d) → ι' h = ι h) ∧
    Mem w0 Fz0 ι' Fz' (match ob with | none => H | some b => (d, b) :: strikeH d H) w' ∧ RV ι' Fz' w' v v'
theorem After.same {w0 : Root} {Fz0 : Nat → Prop} {ι : Nat → HI} {Fz : Nat → Prop} {H : List (Nat × AB)} {w : World} {d : Nat} {v : AV} {v' : Value}
    (m : Mem w0 Fz0 ι Fz H w) (h : RV ι Fz w v v') : After w0 Fz0 ι Fz H w d v none v' w :=
  ⟨ι, Fz, fun _ _ => rfl, fun _ h => h, fun _ _ => rfl, m, h⟩

/-! ### values -/
theorem RV_int {ι : Nat → HI} {Fz : Nat → Prop} {w : World} {k : IntKind} {n : Int} {v : Value} : RV ι Fz w (.pv (.int k) n) v ↔ v = .int k n := by simp [RV, Kd.isAgg, RP]
theorem RV_float {ι : Nat → HI} {Fz : Nat → Prop} {w : World} {n : Nat} {v : Value} : RV ι Fz w (.pv .float n) v ↔ v = .float .f64 n := by simp [RV, Kd.isAgg, RP]
theorem RV_bool {ι : Nat → HI} {Fz : Nat → Prop} {w : World} {n : Bool} {v : Value} : RV ι Fz w (.pv .bool n) v ↔ v = .bool n := by simp [RV, Kd.isAgg, RP]
theorem RV_str {ι : Nat → HI} {Fz : Nat → Prop} {w : World} {n : ByteArray} {v : Value} : RV ι Fz w (.pv .str n) v ↔ v = .string n := by simp [RV, Kd.isAgg, RP]

section
variable {R : Type} {P : Program} {ι : Nat → HI} {Fz : Nat → Prop} {w : World}
theorem binI_of {op : BinOp} {k : IntKind} {x y : Int} {K : AV → Option R} {r : R} (t : TypeId) (hi : isInt op = true) (h : binI op k x y K = some r) :
    ∃ v, K v = some r ∧ ∃ v', (binOp op t (.int k x) (.int k y)).run P w = .ok v' w ∧ RV ι Fz w v v' := by
  cases op <;> simp only [binI] at h <;> first | (cases h; done) | (simp [isInt] at hi; done) | skip
  case quo =>
    split at h
    · cases h
    · rename_i hy
      refine ⟨_, h, _, ?_, RV_int.2 rfl⟩
      simp [binOp, Op.intDiv, hy]
  case rem =>
    split at h
    · cases h
    · rename_i hy
      refine ⟨_, h, _, ?_, RV_int.2 rfl⟩
      simp [binOp, Op.intDiv, hy]
  all_goals
    refine ⟨_, h, _, ?_, by first | exact RV_int.2 rfl | exact RV_bool.2 rfl⟩
    first
    | (simp only [binOp_and, binOp_or, binOp_xor, binOp_andNot, intBits_and, intBits_or, intBits_xor, intBits_andNot, Sem.run_pure]; done)
    | (simp [binOp, Op.intArith, Op.intCmp]; done)
theorem shI_of {op : BinOp} {k k' : IntKind} {x y : Int} {K : AV → Option R} {r : R} (t : TypeId) (h : shI op k x y K = some r) :
    ∃ v, K v = some r ∧ ∃ v', (binOp op t (.int k x) (.int k' y)).run P w = .ok v' w ∧ RV ι Fz w v v' := by
  cases op <;> simp only [shI] at h <;> first | (cases h; done) | skip
  all_goals
    split at h
    · cases h
    · rename_i hy
      refine ⟨_, h, _, ?_, RV_int.2 rfl⟩
      simp [binOp, Op.shift, hy]
theorem binF_of {op : BinOp} {x y : Nat} {K : AV → Option R} {r : R} (t : TypeId) (h : binF op x y K = some r) :
    ∃ v, K v = some r ∧ ∃ v', (binOp op t (.float .f64 x) (.float .f64 y)).run P w = .ok v' w ∧ RV ι Fz w v v' := by
  cases op <;> simp only [binF] at h <;> first | (cases h; done) | skip
  case add =>
    obtain ⟨z, hz, h⟩ := Option.bind_eq_some_iff.1 h
    exact ⟨_, h, _, run_float_arith w .add t .f64 x y z hz, RV_float.2 rfl⟩
  case sub =>
    obtain ⟨z, hz, h⟩ := Option.bind_eq_some_iff.1 h
    exact ⟨_, h, _, run_float_arith w .sub t .f64 x y z hz, RV_float.2 rfl⟩
  case mul =>
    obtain ⟨z, hz, h⟩ := Option.bind_eq_some_iff.1 h
    exact ⟨_, h, _, run_float_arith w .mul t .f64 x y z hz, RV_float.2 rfl⟩
  case quo =>
    obtain ⟨z, hz, h⟩ := Option.bind_eq_some_iff.1 h
    exact ⟨_, h, _, run_float_arith w .quo t .f64 x y z hz, RV_float.2 rfl⟩
  all_goals
    refine ⟨_, h, _, ?_, RV_bool.2 rfl⟩
    first | (simp only [binOp_float_cmp_eql, binOp_float_cmp_neq, binOp_float_cmp_lss, binOp_float_cmp_leq, binOp_float_cmp_gtr, binOp_float_cmp_geq, Sem.run_pure]; rfl)
theorem nanK_of {op : BinOp} {x y : Nat} {K : AV → Option R} {r : R} (t : TypeId) (ho : Ieee.double.order x y = none) (h : nanK op K = some r) :
    ∃ v, K v = some r ∧ ∃ v', (binOp op t (.float .f64 x) (.float .f64 y)).run P w = .ok v' w ∧ RV ι Fz w v v' := by
  refine binF_of t ?_
  cases op <;> simp only [nanK] at h <;> first | (cases h; done) | (simp only [binF, feq, fne, flt, fle, fgt, fge, ho]; exact h)
theorem cmpK_of {op : BinOp} {b : Bool} {K : AV → Option R} {r : R} (h : cmpK op b K = some r) : (op = .eql ∧ K (.pv .bool b) = some r) ∨ (op = .neq ∧ K (.pv .bool (!b)) = some r) := by
  cases op <;> simp only [cmpK] at h <;> first | (cases h; done) | exact .inl ⟨rfl, h⟩ | exact .inr ⟨rfl, h⟩
theorem run_equal {t : TypeId} {x y : Value} {b : Bool} (h : ∀ d, (Op.equalIn (d + 1) t x y).run P w = .ok b w) : (Op.equal t x y).run P w = .ok b w := h 9999
/-- '==' by its own run. -/
theorem eq_of {op : BinOp} {t : TypeId} {x y : Value} {b : Bool} {K : AV → Option R} {r : R} (he : ∀ op, (op = .eql ∨ op = .neq) → binOp op t x y = (if op = .eql then (do pure (.bool (← Op.equal t x y))) else do pure (.bool (!(← Op.equal t x y)))))
    (hq : (Op.equal t x y).run P w = .ok b w) (h : cmpK op b K = some r) :
    ∃ v, K v = some r ∧ ∃ v', (binOp op t x y).run P w = .ok v' w ∧ RV ι Fz w v v' := by
  rcases cmpK_of h with ⟨rfl, h⟩ | ⟨rfl, h⟩
  · exact ⟨_, h, .bool b, by rw [he _ (.inl rfl)]; simp [hq], RV_bool.2 rfl⟩
  · exact ⟨_, h, .bool (!b), by rw [he _ (.inr rfl)]; simp [hq], RV_bool.2 rfl⟩
/-- The look ahead of '==' finds nothing. -/
theorem eqGuard_of {op : BinOp} {t : TypeId} {x y : Operand} {vx vy : Value} (h1 : (vx = .nilIface ∧ vy = .nilIface) → (isConst x || isConst y) = true) (h2 : ¬ ∃ c, vx = .agg c) : eqGuard op t x y vx vy = pure () := by
  cases vx
  case agg c => exact absurd ⟨c, rfl⟩ h2
  case nilIface =>
    cases vy
    case nilIface =>
      have := h1 ⟨rfl, rfl⟩
      cases x <;> cases y <;> first | (simp [isConst] at this; done) | (cases op <;> rfl)
    all_goals (cases op <;> rfl)
  all_goals (cases op <;> rfl)
/-! ### structs of single cells, compared -/
theorem eqLeaf_of {t : TypeId} {x y : AV} {vx vy : Value} {b : Bool} (hx : RV ι Fz w x vx) (hy : RV ι Fz w y vy) (h : eqLeaf P t x y = some b) :
    (∀ d, (Op.equalIn (d + 1) t vx vy).run P w = .ok b w) ∧ aggIs P t false = true ∧ (∃ i, P.info? t = some i) := by
  have info : ∀ {u}, P.underlying t = some u → ∃ i, P.info? t = some i := by
    intro u hu
    cases hi : P.info? t with
    | some i => exact ⟨i, rfl⟩
    | none => simp [Program.underlying, hi] at hu
  unfold eqLeaf at h
  split at h
  · split at h <;> try (cases h; done)
    split at h <;> try (cases h; done)
    rename_i hu
    rw [RV_float] at hx hy
    subst hx hy
    simp only [Option.some.injEq] at h
    subst h
    refine ⟨fun d => ?_, by unfold aggIs; rw [hu]; rfl, info hu⟩
    simp [Op.equalIn, run_underlying hu, feq]
    rfl
  · split at h <;> try (cases h; done)
    split at h <;> try (cases h; done)
    rename_i hu
    rw [RV_int] at hx hy
    subst hx hy
    rename_i k a _ k' b' _ _
    cases hd : decide (k = k') with
    | false => rw [hd] at h; cases h
    | true =>
    rw [hd] at h
    have e := of_decide_eq_true hd
    subst e
    simp only [cond_true, Option.some.injEq] at h
    subst h
    exact ⟨fun d => run_equalIn_int w d t _ _ _ _ hu, by unfold aggIs; rw [hu]; rfl, info hu⟩
  · split at h <;> try (cases h; done)
    split at h <;> try (cases h; done)
    rename_i hu
    rw [RV_bool] at hx hy
    subst hx hy
    simp only [Option.some.injEq] at h
    subst h
    exact ⟨fun d => run_equalIn_bool w d t _ _ hu, by unfold aggIs; rw [hu]; rfl, info hu⟩
  · split at h <;> try (cases h; done)
    split at h <;> try (cases h; done)
    rename_i hu
    rw [RV_str] at hx hy
    subst hx hy
    simp only [Option.some.injEq] at h
    subst h
    exact ⟨fun d => run_equalIn_string w d t _ _ hu, by unfold aggIs; rw [hu]; rfl, info hu⟩
  · cases h
/-- What comparing two values of a type, given by their cells, tells. -/
def EqGives (P : Program) (w : World) (k : Nat) (t : TypeId) (vs us : List Value) (b : Bool) : Prop :=
  (aggIs P t true = true ∧ (Op.equalIn k t (.agg vs.toArray) (.agg us.toArray)).run P w = .ok b w) ∨
  (aggIs P t false = true ∧ ∃ v u, vs = [v] ∧ us = [u] ∧ (Op.equalIn k t v u).run P w = .ok b w)
theorem RVs_drop_of {ι : Nat → HI} {Fz : Nat → Prop} {w : World} {xs : List AV} {vs : List Value} {i : Nat} (n : Nat) (h : RVs ι Fz w xs (vs.drop i)) : RVs ι Fz w (xs.drop n) (vs.drop (i + n)) := by
  have := RVs_drop n h
  rwa [List.drop_drop] at this
theorem eqFs_of {rec : TypeId → List AV → List AV → Option Bool} (k : Nat) (hrec : ∀ t xs ys b vs us, RVs ι Fz w xs vs → RVs ι Fz w ys us → rec t xs ys = some b → EqGives P w k t vs us b) (vs us : Array Value) :
    ∀ (fs : List Field) (i : Nat) (xs ys : List AV) (b : Bool), RVs ι Fz w xs (vs.toList.drop i) → RVs ι Fz w ys (us.toList.drop i) → eqFs rec P fs i xs ys = some b → (Op.eqFields k vs us fs).run P w = .ok b w
  | [], i, xs, ys, b, hx, hy, h => by
    cases xs <;> cases ys <;> simp only [eqFs] at h <;> first | (cases h; done) | skip
    simp only [Option.some.injEq] at h
    subst h
    simp [Op.eqFields]
  | f :: fs, i, xs, ys, b, hx, hy, h => by
    simp only [eqFs] at h
    cases hg : Nat.beq f.offset i && f.name != "_" with
    | false => rw [hg] at h; cases h
    | true =>
      rw [hg, cond_true] at h
      simp only [Bool.and_eq_true, bne_iff_ne, ne_eq] at hg
      have ho := Nat.eq_of_beq_eq_true hg.1
      split at h
      · rename_i inf hinf
        cases hl : Nat.ble inf.size xs.length && Nat.ble inf.size ys.length with
        | false => rw [hl] at h; cases h
        | true =>
          rw [hl, cond_true] at h
          simp only [Bool.and_eq_true] at hl
          have hlx := Nat.le_of_ble_eq_true hl.1
          have hly := Nat.le_of_ble_eq_true hl.2
          obtain ⟨a, ha, h⟩ := Option.bind_eq_some_iff.1 h
          obtain ⟨r, hr, h⟩ := Option.bind_eq_some_iff.1 h
          simp only [Option.some.injEq] at h
          subst h
          have ih := eqFs_of k hrec vs us fs (i + inf.size) _ _ r (RVs_drop_of _ hx) (RVs_drop_of _ hy) hr
          have hq := hrec f.type _ _ a _ _ (RVs_take inf.size hx) (RVs_take inf.size hy) ha
          have hlvx := RVs_len hx
          have hlvy := RVs_len hy
          rw [List.length_drop] at hlvx hlvy
          simp only [Op.eqFields]
          rw [if_pos hg.2]
          have fin : ∀ {va ua : Value}, (part f.type vs f.offset).run P w = .ok va w → (part f.type us f.offset).run P w = .ok ua w → (Op.equalIn k f.type va ua).run P w = .ok a w →
              (do let a ← part f.type vs f.offset; let b ← part f.type us f.offset; let r ← Op.equalIn k f.type a b; if (!r) = true then pure false else Op.eqFields k vs us fs : Sem Bool).run P w = .ok (a && r) w := by
            intro va ua h1 h2 h3
            simp only [Sem.run_bind, h1, h2, Result.andThen_ok, h3]
            cases a with
            | false => simp
            | true => simp [ih]
          rcases hq with ⟨hag, he⟩ | ⟨hag, v, u, hv, hu, he⟩
          · refine fin (va := .agg ((vs.toList.drop i).take inf.size).toArray) (ua := .agg ((us.toList.drop i).take inf.size).toArray) ?_ ?_ he
            · rw [run_part w hag hinf, if_pos rfl, ho]
              congr 2
              apply Array.ext'
              simp [List.take_drop]
            · rw [run_part w hag hinf, if_pos rfl, ho]
              congr 2
              apply Array.ext'
              simp [List.take_drop]
          · have gx : vs[f.offset]? = some v := by
              rw [ho, ← Array.getElem?_toList]
              have := congrArg (fun l => l[0]?) hv
              simp only [List.getElem?_take, List.getElem?_drop, List.getElem?_cons_zero] at this
              split at this
              · simpa using this
              · cases this
            have gy : us[f.offset]? = some u := by
              rw [ho, ← Array.getElem?_toList]
              have := congrArg (fun l => l[0]?) hu
              simp only [List.getElem?_take, List.getElem?_drop, List.getElem?_cons_zero] at this
              split at this
              · simpa using this
              · cases this
            exact fin (run_part_cell w hag gx) (run_part_cell w hag gy) he
      · cases h
theorem eqEs_of {el : TypeId} {inf : TypeInfo} (hinf : P.info? el = some inf) {rec : List AV → List AV → Option Bool} (k : Nat) (hrec : ∀ xs ys b vs us, RVs ι Fz w xs vs → RVs ι Fz w ys us → rec xs ys = some b → EqGives P w k el vs us b) (vs us : Array Value) :
    ∀ (n j : Nat) (xs ys : List AV) (b : Bool), RVs ι Fz w xs (vs.toList.drop (j * inf.size)) → RVs ι Fz w ys (us.toList.drop (j * inf.size)) → eqEs rec inf.size n xs ys = some b → (Op.eqItems k el (P.cellsOf el) vs us (List.range' j n)).run P w = .ok b w
  | 0, j, xs, ys, b, hx, hy, h => by
    cases xs <;> cases ys <;> simp only [eqEs] at h <;> first | (cases h; done) | skip
    simp only [Option.some.injEq] at h
    subst h
    simp [Op.eqItems]
  | n + 1, j, xs, ys, b, hx, hy, h => by
    have hc : P.cellsOf el = inf.size := by unfold Program.cellsOf; rw [hinf]; rfl
    simp only [eqEs] at h
    cases hl : Nat.ble inf.size xs.length && Nat.ble inf.size ys.length with
    | false => rw [hl] at h; cases h
    | true =>
      rw [hl, cond_true] at h
      obtain ⟨a, ha, h⟩ := Option.bind_eq_some_iff.1 h
      obtain ⟨r, hr, h⟩ := Option.bind_eq_some_iff.1 h
      simp only [Option.some.injEq] at h
      subst h
      have e1 : j * inf.size + inf.size = (j + 1) * inf.size := (Nat.succ_mul j inf.size).symm
      have ih := eqEs_of hinf k hrec vs us n (j + 1) _ _ r (by rw [← e1]; exact RVs_drop_of _ hx) (by rw [← e1]; exact RVs_drop_of _ hy) hr
      have hq := hrec _ _ a _ _ (RVs_take inf.size hx) (RVs_take inf.size hy) ha
      rw [List.range'_succ]
      simp only [Op.eqItems]
      have fin : ∀ {va ua : Value}, (part el vs (j * P.cellsOf el)).run P w = .ok va w → (part el us (j * P.cellsOf el)).run P w = .ok ua w → (Op.equalIn k el va ua).run P w = .ok a w →
          (do let a ← part el vs (j * P.cellsOf el); let b ← part el us (j * P.cellsOf el); let r ← Op.equalIn k el a b; if (!r) = true then pure false else Op.eqItems k el (P.cellsOf el) vs us (List.range' (j + 1) n) : Sem Bool).run P w = .ok (a && r) w := by
        intro va ua h1 h2 h3
        simp only [Sem.run_bind, h1, h2, Result.andThen_ok, h3]
        cases a with
        | false => simp
        | true => simp [ih]
      rcases hq with ⟨hag, he⟩ | ⟨hag, v, u, hv, hu, he⟩
      · refine fin (va := .agg ((vs.toList.drop (j * inf.size)).take inf.size).toArray) (ua := .agg ((us.toList.drop (j * inf.size)).take inf.size).toArray) ?_ ?_ he
        · rw [run_part w hag hinf, if_pos rfl, hc]
          congr 2
          apply Array.ext'
          simp [List.take_drop]
        · rw [run_part w hag hinf, if_pos rfl, hc]
          congr 2
          apply Array.ext'
          simp [List.take_drop]
      · have gx : vs[j * P.cellsOf el]? = some v := by
          rw [hc, ← Array.getElem?_toList]
          have := congrArg (fun l => l[0]?) hv
          simp only [List.getElem?_take, List.getElem?_drop, List.getElem?_cons_zero] at this
          split at this
          · simpa using this
          · cases this
        have gy : us[j * P.cellsOf el]? = some u := by
          rw [hc, ← Array.getElem?_toList]
          have := congrArg (fun l => l[0]?) hu
          simp only [List.getElem?_take, List.getElem?_drop, List.getElem?_cons_zero] at this
          split at this
          · simpa using this
          · cases this
        exact fin (run_part_cell w hag gx) (run_part_cell w hag gy) he
theorem eqTy_of : ∀ (d k : Nat) (t : TypeId) (xs ys : List AV) (b : Bool) (vs us : List Value), RVs ι Fz w xs vs → RVs ι Fz w ys us → eqTy P d t xs ys = some b → EqGives P w (k + d) t vs us b
  | 0, k, t, xs, ys, b, vs, us, hx, hy, h => by simp only [eqTy] at h; cases h
  | d + 1, k, t, xs, ys, b, vs, us, hx, hy, h => by
    simp only [eqTy] at h
    split at h
    · rename_i fs hu
      cases hp : P.stoodInHeld t with
      | true => rw [hp] at h; cases h
      | false =>
        rw [hp, cond_false] at h
        have hf : P.fieldsOf t = fs := by unfold Program.fieldsOf; rw [hu]
        refine .inl ⟨by unfold aggIs; rw [hu], ?_⟩
        rw [← Nat.add_assoc, run_equalIn_struct w (k + d) t vs.toArray us.toArray (by rw [hf]; exact hu) hp, hf]
        exact eqFs_of (k + d) (fun t xs ys b vs us h1 h2 h3 => eqTy_of d k t xs ys b vs us h1 h2 h3) vs.toArray us.toArray fs.toList 0 xs ys b (by simpa using hx) (by simpa using hy) h
    · rename_i n el hu
      split at h
      · rename_i inf hinf
        refine .inl ⟨by unfold aggIs; rw [hu], ?_⟩
        rw [← Nat.add_assoc, run_equalIn_array w (k + d) vs.toArray us.toArray hu hinf, List.range_eq_range']
        exact eqEs_of hinf (k + d) (fun xs ys b vs us h1 h2 h3 => eqTy_of d k el xs ys b vs us h1 h2 h3) vs.toArray us.toArray n 0 xs ys b (by simpa using hx) (by simpa using hy) h
      · cases h
    · split at h
      · obtain ⟨v, r, rfl, hx1, hx2⟩ := RVs_cons hx
        obtain ⟨u, r', rfl, hy1, hy2⟩ := RVs_cons hy
        simp only [RVs] at hx2 hy2
        subst hx2 hy2
        obtain ⟨he, hag, _⟩ := eqLeaf_of hx1 hy1 h
        exact .inr ⟨hag, v, u, rfl, rfl, by rw [← Nat.add_assoc]; exact he _⟩
      · cases h
theorem isAgg_of {x : AV} {v : Value} (hx : RV ι Fz w x v) (h : x.isAgg = true) : ∃ cs, v = .agg cs ∧ v.cells = cs := by
  unfold AV.isAgg at h
  split at h
  · simp only [RV] at hx; obtain ⟨vs, rfl, _⟩ := hx; exact ⟨_, rfl, rfl⟩
  · simp only [RV] at hx; obtain ⟨vs, rfl, _⟩ := hx; exact ⟨_, rfl, rfl⟩
  · cases h
theorem eqAgg_of {t : TypeId} {x y : AV} {vx vy : Value} {b : Bool} (hx : RV ι Fz w x vx) (hy : RV ι Fz w y vy) (h : eqAgg P t x y = some b) :
    ∃ xs ys, vx = .agg xs ∧ vy = .agg ys ∧ (Op.equalIn 10000 t vx vy).run P w = .ok b w ∧ P.eqGuardType P.depth t = false := by
  unfold eqAgg at h
  cases hg : x.isAgg && y.isAgg && aliveL x.flat && aliveL y.flat with
  | false => rw [hg] at h; cases h
  | true =>
    rw [hg, cond_true] at h
    simp only [Bool.and_eq_true] at hg
    obtain ⟨⟨⟨g1, g2⟩, g3⟩, g4⟩ := hg
    have key : (aggIs P t false = true → False) → (bif P.eqGuardType P.depth t then none else eqTy P 9 t x.flat y.flat) = some b →
        ∃ xs ys, vx = .agg xs ∧ vy = .agg ys ∧ (Op.equalIn 10000 t vx vy).run P w = .ok b w ∧ P.eqGuardType P.depth t = false := by
     intro hn h
     cases hp : P.eqGuardType P.depth t with
     | true => rw [hp] at h; cases h
     | false =>
       rw [hp, cond_false] at h
       obtain ⟨xs, rfl, ex⟩ := isAgg_of hx g1
       obtain ⟨ys, rfl, ey⟩ := isAgg_of hy g2
       have fx := (flat_of hx g3).1
       have fy := (flat_of hy g4).1
       rw [ex] at fx
       rw [ey] at fy
       refine ⟨xs, ys, rfl, rfl, ?_, rfl⟩
       rcases eqTy_of 9 9991 t _ _ b _ _ fx fy h with ⟨_, he⟩ | ⟨hag, _⟩
       · simpa using he
       · exact (hn hag).elim
    split at h <;> try (cases h; done)
    · rename_i fs hu
      exact key (fun hag => by unfold aggIs at hag; rw [hu] at hag; cases hag) h
    · rename_i n el hu
      exact key (fun hag => by unfold aggIs at hag; rw [hu] at hag; cases hag) h
theorem epEq_of {t t1 t2 : TypeId} {x y : AV} (h : epEq P t t1 t2 x y = true) :
    ∃ (ms : Array (String × TypeId)) (te : TypeId) (i j : TypeInfo), t2 = t1 ∧ P.underlying t = some (.interface ms) ∧ P.underlying t1 = some (.pointer te) ∧ P.info? t1 = some i ∧ i.comparable = true ∧ P.info? te = some j ∧ ∃ g, x = .ep g ∧ y = .ep g := by
  unfold epEq at h
  split at h
  · rename_i g g'
    simp only [Bool.and_eq_true] at h
    obtain ⟨⟨⟨h1, h2⟩, h3⟩, h4⟩ := h
    have e1 := Nat.eq_of_beq_eq_true h1
    have e2 := Nat.eq_of_beq_eq_true h2
    subst e1 e2
    split at h3 <;> try (cases h3; done)
    rename_i ms hms
    split at h4 <;> try (cases h4; done)
    rename_i e he
    simp only [Bool.and_eq_true] at h4
    obtain ⟨h5, h6⟩ := h4
    split at h5 <;> try (cases h5; done)
    rename_i i hi
    obtain ⟨j, hj⟩ := Option.isSome_iff_exists.1 h6
    exact ⟨ms, e, i, j, rfl, hms, he, hi, h5, hj, g, rfl, rfl⟩
  · cases h
theorem run_equalIn_iface_empty (w : World) (d : Nat) {ti tp : TypeId} {ms : Array (String × TypeId)} {i : TypeInfo} (xs ys : Array Value)
    (hi : P.underlying ti = some (.interface ms)) (hp : P.underlying tp = some (.struct #[])) (hinfo : P.info? tp = some i) (hcomp : i.comparable = true) (hs : P.stoodInHeld tp = false) :
    (Op.equalIn (d + 2) ti (.iface tp (.agg xs)) (.iface tp (.agg ys))).run P w = .ok true w := by
  simp [Op.equalIn, run_underlying hi, run_underlying hp, typeInfo, hinfo, hcomp, hs]
theorem run_equalIn_iface_types (w : World) (d : Nat) {ti t1 t2 : TypeId} {ms : Array (String × TypeId)} (x y : Value)
    (hi : P.underlying ti = some (.interface ms)) (hne : t1 ≠ t2) : (Op.equalIn (d + 2) ti (.iface t1 x) (.iface t2 y)).run P w = .ok false w := by
  simp [Op.equalIn, run_underlying hi, hne]
theorem unEq_of {t t1 : TypeId} {x y : AV} (h : unEq P t t1 x y = true) :
    ∃ (ms : Array (String × TypeId)) (i : TypeInfo), P.underlying t = some (.interface ms) ∧ P.info? t1 = some i ∧ i.comparable = true ∧ P.underlying t1 = some (.struct #[]) ∧ P.stoodInHeld t1 = false ∧ ∃ a b, x = .pv .unit a ∧ y = .pv .unit b := by
  unfold unEq at h
  split at h
  · rename_i a b
    simp only [Bool.and_eq_true] at h
    obtain ⟨⟨h1, h2⟩, h3⟩ := h
    split at h1 <;> try (cases h1; done)
    rename_i ms hms
    split at h2 <;> try (cases h2; done)
    rename_i i hi
    split at h3 <;> try (cases h3; done)
    rename_i fs hfs
    simp only [Bool.and_eq_true, Bool.not_eq_true'] at h3
    have : fs = #[] := Array.eq_empty_of_size_eq_zero (Nat.eq_of_beq_eq_true h3.1)
    subst this
    exact ⟨ms, i, hms, hi, h2, hfs, h3.2, a, b, rfl, rfl⟩
  · cases h
theorem otEq_of {t t1 t2 : TypeId} (h : otEq P t t1 t2 = true) : ∃ ms : Array (String × TypeId), P.underlying t = some (.interface ms) ∧ t1 ≠ t2 := by
  unfold otEq at h
  simp only [Bool.and_eq_true, Bool.not_eq_true'] at h
  obtain ⟨h1, h2⟩ := h
  split at h2 <;> try (cases h2; done)
  rename_i ms hms
  exact ⟨ms, hms, fun e => by subst e; simp at h1⟩
theorem binV_of {t : TypeId} {cst : Bool} {op : BinOp} {x y : AV} {vx vy : Value} {K : AV → Option R} {r : R} (hx : RV ι Fz w x vx) (hy : RV ι Fz w y vy) (h : binV P t cst op x y K = some r) :
    ∃ v, K v = some r ∧ ∃ v', (binOp op t vx vy).run P w = .ok v' w ∧ RV ι Fz w v v' ∧ (∀ ox oy : Operand, cst = (isConst ox || isConst oy) → (eqGuard op t ox oy vx vy).run P w = .ok () w) := by
  have fin : (∃ v, K v = some r ∧ ∃ v', (binOp op t vx vy).run P w = .ok v' w ∧ RV ι Fz w v v') → ((vx = .nilIface ∧ vy = .nilIface) → cst = true) → ¬ (∃ c, vx = .agg c) →
      ∃ v, K v = some r ∧ ∃ v', (binOp op t vx vy).run P w = .ok v' w ∧ RV ι Fz w v v' ∧ (∀ ox oy : Operand, cst = (isConst ox || isConst oy) → (eqGuard op t ox oy vx vy).run P w = .ok () w) :=
    fun ⟨v, h1, v', h2, h3⟩ h4 h5 => ⟨v, h1, v', h2, h3, fun ox oy hc => by rw [eqGuard_of (fun hn => by rw [← hc]; exact h4 hn) h5]; rfl⟩
  have agg : ∀ {x : AV}, RV ι Fz w x vx → ((eqAgg P t x y).bind fun b => cmpK op b K) = some r →
      ∃ v, K v = some r ∧ ∃ v', (binOp op t vx vy).run P w = .ok v' w ∧ RV ι Fz w v v' ∧ (∀ ox oy : Operand, cst = (isConst ox || isConst oy) → (eqGuard op t ox oy vx vy).run P w = .ok () w) := by
    intro x hx h
    obtain ⟨b, hb, h⟩ := Option.bind_eq_some_iff.1 h
    obtain ⟨xs, ys, rfl, rfl, he, hgt⟩ := eqAgg_of hx hy hb
    rcases cmpK_of h with ⟨rfl, h⟩ | ⟨rfl, h⟩
    · exact ⟨_, h, .bool b, by rw [run_eql_struct, he]; rfl, RV_bool.2 rfl, fun ox oy _ => run_eqGuard_agg w _ _ _ _ _ _ hgt⟩
    · exact ⟨_, h, .bool (!b), by rw [run_neq_struct, he]; rfl, RV_bool.2 rfl, fun ox oy _ => run_eqGuard_agg w _ _ _ _ _ _ hgt⟩
  unfold binV at h
  split at h
  · rename_i a m
    split at h <;> try (cases h; done)
    rename_i b n
    rw [RV_int] at hx hy
    subst hx hy
    refine fin ?_ (by simp) (by simp)
    cases hi : isInt op with
    | true =>
      rw [hi, cond_true] at h
      cases hd : decide (a = b) with
      | false => rw [hd] at h; cases h
      | true =>
        rw [hd] at h
        have e := of_decide_eq_true hd
        subst e
        exact binI_of t hi h
    | false => rw [hi, cond_false] at h; exact shI_of t h
  · split at h <;> try (cases h; done)
    · rw [RV_float] at hx hy
      subst hx hy
      exact fin (binF_of t h) (by simp) (by simp)
    · rw [RV_float] at hx
      simp only [RV] at hy
      obtain ⟨n, rfl, hn⟩ := hy
      subst hx
      exact fin (nanK_of t (hn _).1 h) (by simp) (by simp)
  · simp only [RV] at hx
    obtain ⟨m, rfl, hm⟩ := hx
    split at h <;> try (cases h; done)
    · rw [RV_float] at hy
      subst hy
      exact fin (nanK_of t (hm _).2 h) (by simp) (by simp)
    · simp only [RV] at hy
      obtain ⟨n, rfl, hn⟩ := hy
      exact fin (nanK_of t (hn _).1 h) (by simp) (by simp)
  · split at h <;> try (cases h; done)
    split at h <;> try (cases h; done)
    rename_i hu
    rw [RV_bool] at hx hy
    subst hx hy
    refine fin (eq_of (by rintro op (rfl | rfl) <;> simp [binOp]) (run_equal fun d => by simp [Op.equalIn, run_underlying hu]) h) (by simp) (by simp)
  · split at h <;> try (cases h; done)
    rw [RV_str] at hx hy
    subst hx hy
    refine fin ?_ (by simp) (by simp)
    split at h
    · obtain ⟨s, hs, h⟩ := Option.bind_eq_some_iff.1 h
      refine ⟨_, h, _, ?_, RV_str.2 rfl⟩
      unfold sadd at hs
      split at hs
      · rename_i hsz
        simp only [Option.some.injEq] at hs
        subst hs
        simp only [binOp, Op.stringOp, Sem.run_ite, Sem.run_pure]
        rw [if_neg (by simp; omega)]
      · cases hs
    · rcases cmpK_of h with ⟨rfl, h⟩ | ⟨rfl, h⟩
      · refine ⟨_, h, _, ?_, RV_bool.2 rfl⟩
        simp [binOp, Op.stringOp]
      · refine ⟨_, h, _, ?_, RV_bool.2 rfl⟩
        simp [binOp, Op.stringOp]
  · split at h <;> try (cases h; done)
    · split at h <;> try (cases h; done)
      rename_i hu
      simp only [RV] at hx hy
      obtain ⟨u, rfl, _⟩ := hx
      subst hy
      refine fin (eq_of (by rintro op (rfl | rfl) <;> simp [binOp]) (run_equal fun d => by simp [Op.equalIn, run_underlying hu]) h) (by simp) (by simp)
    · rename_i t1 x1 _ t2 y2
      cases hq : epEq P t t1 t2 x1 y2 with
      | false =>
        rw [hq, cond_false] at h
        cases ho : otEq P t t1 t2 with
        | true =>
          rw [ho, cond_true] at h
          obtain ⟨ms, hi, hne⟩ := otEq_of ho
          simp only [RV] at hx hy
          obtain ⟨u, rfl, _⟩ := hx
          obtain ⟨u', rfl, _⟩ := hy
          refine fin (eq_of (by rintro op (rfl | rfl) <;> simp [binOp]) (show (Op.equal t _ _).run P w = .ok false w from by
            simp [Op.equal, Op.maxDepth, run_equalIn_iface_types w 9998 u u' hi hne]) h) (by simp) (by simp)
        | false =>
          rw [ho, cond_false] at h
          cases hu : (Nat.beq t1 t2 && unEq P t t1 x1 y2) with
          | false => rw [hu] at h; cases h
          | true =>
            rw [hu, cond_true] at h
            simp only [Bool.and_eq_true] at hu
            obtain ⟨e, hu⟩ := hu
            have e := Nat.eq_of_beq_eq_true e
            subst e
            obtain ⟨ms, i, hi, hinfo, hcomp, hp, hs, a, b, rfl, rfl⟩ := unEq_of hu
            simp only [RV] at hx hy
            obtain ⟨u, rfl, hx⟩ := hx
            obtain ⟨u', rfl, hy⟩ := hy
            rw [if_pos (show Kd.unit.isAgg = true from rfl)] at hx hy
            obtain ⟨vs, rfl, _⟩ := hx
            obtain ⟨vs', rfl, _⟩ := hy
            refine fin (eq_of (by rintro op (rfl | rfl) <;> simp [binOp]) (show (Op.equal t _ _).run P w = .ok true w from by
              simp [Op.equal, Op.maxDepth, run_equalIn_iface_empty w 9998 _ _ hi hp hinfo hcomp hs]) h) (by simp) (by simp)
      | true =>
        rw [hq, cond_true] at h
        obtain ⟨ms, te, i, j, rfl, hi, hp, hinfo, hcomp, hte, g, rfl, rfl⟩ := epEq_of hq
        simp only [RV] at hx hy
        obtain ⟨u, rfl, ta, a, rfl, _, la⟩ := hx
        obtain ⟨u', rfl, tb, a', rfl, _, lb⟩ := hy
        have e1 := la 0 _ rfl
        have e2 := lb 0 _ rfl
        rw [e1] at e2
        simp only [Option.some.injEq, Value.iface.injEq, Value.pointer.injEq] at e2
        obtain ⟨_, rfl⟩ := e2
        refine fin (eq_of (by rintro op (rfl | rfl) <;> simp [binOp]) (show (Op.equal t _ _).run P w = .ok true w from by
          simp [Op.equal, Op.maxDepth, run_equalIn_iface_ptr_same w 9998 a hi hp hinfo hcomp hte]) h) (by simp) (by simp)
  · split at h <;> try (cases h; done)
    · split at h <;> try (cases h; done)
      rename_i hu
      simp only [RV] at hx hy
      subst hx hy
      cases hc : cst with
      | false => rw [hc] at h; cases h
      | true =>
        rw [hc, cond_true] at h
        exact hc ▸ fin (eq_of (by rintro op (rfl | rfl) <;> simp [binOp]) (run_equal fun d => by simp [Op.equalIn, run_underlying hu]) h) (fun _ => hc) (by simp)
    · split at h <;> try (cases h; done)
      rename_i hu
      simp only [RV] at hx hy
      obtain ⟨u, rfl, _⟩ := hy
      subst hx
      refine fin (eq_of (by rintro op (rfl | rfl) <;> simp [binOp]) (run_equal fun d => by simp [Op.equalIn, run_underlying hu]) h) (by simp) (by simp)
  · split at h <;> try (cases h; done)
    split at h <;> try (cases h; done)
    rename_i hu
    simp only [RV] at hx hy
    obtain ⟨_, rfl⟩ := hx
    subst hy
    refine fin (eq_of (by rintro op (rfl | rfl) <;> simp [binOp]) (run_equal fun d => by simp [Op.equalIn, run_underlying hu]) h) (by simp) (by simp)
  · split at h <;> try (cases h; done)
    split at h <;> try (cases h; done)
    rename_i hu
    simp only [RV] at hx hy
    obtain ⟨_, _, _, rfl, _⟩ := hx
    subst hy
    refine fin (eq_of (by rintro op (rfl | rfl) <;> simp [binOp]) (run_equal fun d => by simp [Op.equalIn, run_underlying hu]) h) (by simp) (by simp)
  · split at h <;> try (cases h; done)
    split at h <;> try (cases h; done)
    rename_i hu
    simp only [RV] at hx hy
    subst hx hy
    refine fin (eq_of (by rintro op (rfl | rfl) <;> simp [binOp]) (run_equal fun d => by simp [Op.equalIn, run_underlying hu]) h) (by simp) (by simp)
  · split at h <;> try (cases h; done)
    split at h <;> try (cases h; done)
    rename_i hu
    simp only [RV] at hx hy
    subst hx hy
    refine fin (eq_of (by rintro op (rfl | rfl) <;> simp [binOp]) (run_equal fun d => by simp [Op.equalIn, run_underlying hu]) h) (by simp) (by simp)
  · rename_i e o
    split at h <;> try (cases h; done)
    split at h <;> try (cases h; done)
    rename_i hu
    simp only [RV] at hy
    subst hy
    simp only [RV, Kd.isAgg, Bool.false_eq_true, if_false, RP, List.cons.injEq, and_true] at hx
    obtain ⟨u, rfl, hx⟩ := hx
    rcases hx with ⟨rfl, rfl⟩ | ⟨xs, rfl, _, a, l, c, rfl⟩
    · simp only [Option.isNone_none] at h
      refine fin (eq_of (by rintro op (rfl | rfl) <;> simp [binOp]) (run_equal fun d => by simp [Op.equalIn, run_underlying hu]) h) (by simp) (by simp)
    · simp only [Option.isNone_some] at h
      refine fin (eq_of (by rintro op (rfl | rfl) <;> simp [binOp]) (run_equal fun d => by simp [Op.equalIn, run_underlying hu]) h) (by simp) (by simp)
  · rename_i c
    rw [RV_any] at hx
    split at h <;> try (cases h; done)
    · split at h <;> try (cases h; done)
      rename_i hu
      simp only [RV] at hy
      subst hy
      obtain ⟨b, hb, h⟩ := Option.bind_eq_some_iff.1 h
      rcases isNilp_of hb hx with ⟨rfl, rfl⟩ | ⟨rfl, a, rfl⟩
      · refine fin (eq_of (by rintro op (rfl | rfl) <;> simp [binOp]) (run_equal fun d => by simp [Op.equalIn, run_underlying hu]) h) (by simp) (by simp)
      · refine fin (eq_of (by rintro op (rfl | rfl) <;> simp [binOp]) (run_equal fun d => by simp [Op.equalIn, run_underlying hu]) h) (by simp) (by simp)
    · split at h <;> try (cases h; done)
      rename_i hu
      simp only [RV] at hy
      subst hy
      cases hc : cst with
      | false => rw [hc] at h; cases h
      | true =>
      rw [hc, cond_true] at h
      obtain ⟨b, hb, h⟩ := Option.bind_eq_some_iff.1 h
      rcases isNili_of hb hx with ⟨rfl, rfl⟩ | ⟨rfl, t', u', rfl⟩
      · exact hc ▸ fin (eq_of (by rintro op (rfl | rfl) <;> simp [binOp]) (run_equal fun d => by simp [Op.equalIn, run_underlying hu]) h) (fun _ => hc) (by simp)
      · exact hc ▸ fin (eq_of (by rintro op (rfl | rfl) <;> simp [binOp]) (run_equal fun d => by simp [Op.equalIn, run_underlying hu]) h) (fun _ => hc) (by simp)
  · exact agg hx h
  · exact agg hx h
  · cases h
theorem agree_some {R : Type} {x y : Option R} {r : R} (h : agree x y = some r) : x = some r ∧ y = some r := by
  unfold agree at h
  split at h
  · rename_i e; exact ⟨h, e ▸ h⟩
  · cases h
/-- A row compared with nil. -/
theorem nilK_of {t : TypeId} {op : BinOp} {x y : AV} {vx vy : Value} {K : AV → Option R} {r : R} {n : Nat} {H : List (Nat × AB)} (hrb : ∀ h, RB ι Fz w h (getH H h)) (hn : rowNil H x y = some n) (hx : RV ι Fz w x vx) (hy : RV ι Fz w y vy) (h : nilK P t op n K = some r) :
    ∃ v, K v = some r ∧ ∃ v', (binOp op t vx vy).run P w = .ok v' w ∧ RV ι Fz w v v' ∧ (∀ ox oy : Operand, (eqGuard op t ox oy vx vy).run P w = .ok () w) := by
  have key : vy = .slice none 0 0 ∧ ∃ (a : Option Addr) (l c : Nat), vx = .slice a l c ∧ (1 ≤ n → ∃ p, a = some p) := by
    unfold rowNil at hn
    split at hn
    · simp only [RV] at hy
      refine ⟨hy, ?_⟩
      split at hn
      · rename_i κ g
        split at hn
        · rename_i e κ' xs he
          simp only [Option.some.injEq] at hn
          subst hn
          have hg := hrb g
          rw [he] at hg
          simp only [RB] at hg
          simp only [RV] at hx
          rcases hx with ⟨hv, rfl⟩ | ⟨hv, rfl⟩
          · refine ⟨_, _, _, rfl, fun h1 => ?_⟩
            rcases hg.2 with ⟨_, e⟩ | ⟨e, _⟩
            · rw [e] at h1; simp at h1
            · rw [hv] at e; cases e
          · exact ⟨_, _, _, rfl, fun _ => ⟨_, rfl⟩⟩
        · cases hn
      · rename_i κ xs
        simp only [Option.some.injEq] at hn
        subst hn
        simp only [RV, Kd.isAgg, Bool.false_eq_true, if_false, RP] at hx
        obtain ⟨_, e1, a, c, rfl, hc, hx⟩ := hx
        simp only [List.cons.injEq, and_true] at e1
        subst e1
        refine ⟨_, _, _, rfl, fun h1 => ?_⟩
        rcases hx with rfl | ⟨b, off, rfl, _⟩
        · simp at h1
        · exact ⟨_, rfl⟩
      · cases hn
    · cases hn
  obtain ⟨rfl, a, l, c, rfl, ha⟩ := key
  unfold nilK at h
  split at h
  · rename_i el hu
    have hb : ∀ op', (op' = .eql ∨ op' = .neq) → binOp op' t (.slice a l c) (.slice none 0 0) = (if op' = .eql then (do pure (.bool (← Op.equal t (.slice a l c) (.slice none 0 0)))) else do pure (.bool (!(← Op.equal t (.slice a l c) (.slice none 0 0))))) := by
      rintro op' (rfl | rfl) <;> simp [binOp]
    have hg : ∀ ox oy : Operand, (eqGuard op t ox oy (.slice a l c) (.slice none 0 0)).run P w = .ok () w := fun ox oy => by
      cases op <;> rfl
    have go : ∀ b, (a.isNone = b) → cmpK op b K = some r → ∃ v, K v = some r ∧ ∃ v', (binOp op t (.slice a l c) (.slice none 0 0)).run P w = .ok v' w ∧ RV ι Fz w v v' ∧ (∀ ox oy : Operand, (eqGuard op t ox oy (.slice a l c) (.slice none 0 0)).run P w = .ok () w) := by
      intro b hab hk
      obtain ⟨v, h1, v', h2, h3⟩ := eq_of (P := P) (w := w) hb (b := b) (run_equal (P := P) (w := w) fun d => by
        cases a with
        | none => simp at hab; subst hab; simp [Op.equalIn, run_underlying hu]
        | some p => simp at hab; subst hab; simp [Op.equalIn, run_underlying hu]) hk
      exact ⟨v, h1, v', h2, h3, hg⟩
    cases hb1 : Nat.ble 1 n with
    | true =>
      rw [hb1, cond_true] at h
      obtain ⟨p, rfl⟩ := ha (Nat.le_of_ble_eq_true hb1)
      exact go false rfl h
    | false =>
      rw [hb1, cond_false] at h
      obtain ⟨h1, h2⟩ := agree_some h
      cases a with
      | none => exact go true rfl h1
      | some p => exact go false rfl h2
  · cases h
theorem nilD_of {P : Program} {t : TypeId} {op : BinOp} {n : Nat} {K : AV → Option R} {r : R} (h : nilD P t op n K = some r) : nilK P t op n K = some r := by
  unfold nilD at h
  unfold nilK
  split at h
  · rename_i hu
    cases hb : Nat.ble 1 n with
    | true => rw [hb] at h; simpa using h
    | false => rw [hb] at h; cases h
  · cases h
end
end Go.Av
