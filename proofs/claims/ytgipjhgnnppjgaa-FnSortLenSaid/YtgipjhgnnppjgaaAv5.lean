/- The operations that only read: what the evaluator says of them is what the model does. -/
import Derived.Test.YtgipjhgnnppjgaaAv4
set_option linter.unusedVariables false
set_option linter.unusedSimpArgs false
namespace Go.Av
open Go Go.RowKit

def After (w0 : Root) (Fz0 : Nat → Prop) (ι : Nat → HI) (Fz : Nat → Prop) (H : List (Nat × AB)) (w : World) (d : Nat) (v : AV) (ob : Option AB) (v' : Value) (w' : World) : Prop :=
  ∃ (ι' : Nat → HI) (Fz' : Nat → Prop), (∀ b, Fz b → w'.heap[b]? = w.heap[b]?) ∧ (∀ b, Fz b → Fz' b) ∧ (∀ h, (ob = none ∨ h ≠ d) → ι' h = ι h) ∧
    Mem w0 Fz0 ι' Fz' (match ob with | none => H | some b => (d, b) :: strikeH d H) w' ∧ RV ι' Fz' w' v v'
theorem After.same {w0 : Root} {Fz0 : Nat → Prop} {ι : Nat → HI} {Fz : Nat → Prop} {H : List (Nat × AB)} {w : World} {d : Nat} {v : AV} {v' : Value}
    (m : Mem w0 Fz0 ι Fz H w) (h : RV ι Fz w v v') : After w0 Fz0 ι Fz H w d v none v' w :=
  ⟨ι, Fz, fun _ _ => rfl, fun _ h => h, fun _ _ => rfl, m, h⟩

/-! ### values -/
theorem RV_int {ι : Nat → HI} {Fz : Nat → Prop} {w : World} {k : IntKind} {n : Int} {v : Value} : RV ι Fz w (.pv (.int k) n) v ↔ v = .int k n := by simp [RV, Kd.isAgg, RP]
theorem RV_float {ι : Nat → HI} {Fz : Nat → Prop} {w : World} {n : Nat} {v : Value} : RV ι Fz w (.pv .float n) v ↔ v = .float .f64 n := by simp [RV, Kd.isAgg, RP]
theorem RV_bool {ι : Nat → HI} {Fz : Nat → Prop} {w : World} {n : Bool} {v : Value} : RV ι Fz w (.pv .bool n) v ↔ v = .bool n := by simp [RV, Kd.isAgg, RP]
theorem RV_str {ι : Nat → HI} {Fz : Nat → Prop} {w : World} {n : ByteArray} {v : Value} : RV ι Fz w (.pv .str n) v ↔ v = .string n := by simp [RV, Kd.isAgg, RP]

section
variable {R : Type} {P : Program} {ι : Nat → HI} {Fz : Nat → Prop} {w : World}
theorem binI_of {op : BinOp} {k : IntKind} {x y : Int} {K : AV → Option R} {r : R} (t : TypeId) (hi : isInt op = true) (h : binI op k x y K = some r) :
    ∃ v, K v = some r ∧ ∃ v', (binOp op t (.int k x) (.int k y)).run P w = .ok v' w ∧ RV ι Fz w v v' := by
  cases op <;> simp only [binI] at h <;> first | (cases h; done) | (simp [isInt] at hi; done) | skip
  case quo =>
    split at h
    · cases h
    · rename_i hy
      refine ⟨_, h, _, ?_, RV_int.2 rfl⟩
      simp [binOp, Op.intDiv, hy]
  case rem =>
    split at h
    · cases h
    · rename_i hy
      refine ⟨_, h, _, ?_, RV_int.2 rfl⟩
      simp [binOp, Op.intDiv, hy]
  all_goals
    refine ⟨_, h, _, ?_, by first | exact RV_int.2 rfl | exact RV_bool.2 rfl⟩
    first
    | (simp only [binOp_and, binOp_or, binOp_xor, binOp_andNot, intBits_and, intBits_or, intBits_xor, intBits_andNot, Sem.run_pure]; done)
    | (simp [binOp, Op.intArith, Op.intCmp]; done)
theorem shI_of {op : BinOp} {k k' : IntKind} {x y : Int} {K : AV → Option R} {r : R} (t : TypeId) (h : shI op k x y K = some r) :
    ∃ v, K v = some r ∧ ∃ v', (binOp op t (.int k x) (.int k' y)).run P w = .ok v' w ∧ RV ι Fz w v v' := by
  cases op <;> simp only [shI] at h <;> first | (cases h; done) | skip
  all_goals
    split at h
    · cases h
    · rename_i hy
      refine ⟨_, h, _, ?_, RV_int.2 rfl⟩
      simp [binOp, Op.shift, hy]
theorem binF_of {op : BinOp} {x y : Nat} {K : AV → Option R} {r : R} (t : TypeId) (h : binF op x y K = some r) :
    ∃ v, K v = some r ∧ ∃ v', (binOp op t (.float .f64 x) (.float .f64 y)).run P w = .ok v' w ∧ RV ι Fz w v v' := by
  cases op <;> simp only [binF] at h <;> first | (cases h; done) | skip
  case add =>
    obtain ⟨z, hz, h⟩ := Option.bind_eq_some_iff.1 h
    exact ⟨_, h, _, run_float_arith w .add t .f64 x y z hz, RV_float.2 rfl⟩
  case sub =>
    obtain ⟨z, hz, h⟩ := Option.bind_eq_some_iff.1 h
    exact ⟨_, h, _, run_float_arith w .sub t .f64 x y z hz, RV_float.2 rfl⟩
  case mul =>
    obtain ⟨z, hz, h⟩ := Option.bind_eq_some_iff.1 h
    exact ⟨_, h, _, run_float_arith w .mul t .f64 x y z hz, RV_float.2 rfl⟩
  case quo =>
    obtain ⟨z, hz, h⟩ := Option.bind_eq_some_iff.1 h
    exact ⟨_, h, _, run_float_arith w .quo t .f64 x y z hz, RV_float.2 rfl⟩
  all_goals
    refine ⟨_, h, _, ?_, RV_bool.2 rfl⟩
    first | (simp only [binOp_float_cmp_eql, binOp_float_cmp_neq, binOp_float_cmp_lss, binOp_float_cmp_leq, binOp_float_cmp_gtr, binOp_float_cmp_geq, Sem.run_pure]; rfl)
theorem cmpK_of {op : BinOp} {b : Bool} {K : AV → Option R} {r : R} (h : cmpK op b K = some r) : (op = .eql ∧ K (.pv .bool b) = some r) ∨ (op = .neq ∧ K (.pv .bool (!b)) = some r) := by
  cases op <;> simp only [cmpK] at h <;> first | (cases h; done) | exact .inl ⟨rfl, h⟩ | exact .inr ⟨rfl, h⟩
theorem run_equal {t : TypeId} {x y : Value} {b : Bool} (h : ∀ d, (Op.equalIn (d + 1) t x y).run P w = .ok b w) : (Op.equal t x y).run P w = .ok b w := h 9999
/-- '==' by its own run. -/
theorem eq_of {op : BinOp} {t : TypeId} {x y : Value} {b : Bool} {K : AV → Option R} {r : R} (he : ∀ op, (op = .eql ∨ op = .neq) → binOp op t x y = (if op = .eql then (do pure (.bool (← Op.equal t x y))) else do pure (.bool (!(← Op.equal t x y)))))
    (hq : (Op.equal t x y).run P w = .ok b w) (h : cmpK op b K = some r) :
    ∃ v, K v = some r ∧ ∃ v', (binOp op t x y).run P w = .ok v' w ∧ RV ι Fz w v v' := by
  rcases cmpK_of h with ⟨rfl, h⟩ | ⟨rfl, h⟩
  · exact ⟨_, h, .bool b, by rw [he _ (.inl rfl)]; simp [hq], RV_bool.2 rfl⟩
  · exact ⟨_, h, .bool (!b), by rw [he _ (.inr rfl)]; simp [hq], RV_bool.2 rfl⟩
theorem binV_of {t : TypeId} {cst : Bool} {op : BinOp} {x y : AV} {vx vy : Value} {K : AV → Option R} {r : R} (hx : RV ι Fz w x vx) (hy : RV ι Fz w y vy) (h : binV P t cst op x y K = some r) :
    ∃ v, K v = some r ∧ ∃ v', (binOp op t vx vy).run P w = .ok v' w ∧ RV ι Fz w v v' ∧ ((vx = .nilIface ∧ vy = .nilIface) → cst = true) ∧ ¬ (∃ c, vx = .agg c) := by
  have fin : (∃ v, K v = some r ∧ ∃ v', (binOp op t vx vy).run P w = .ok v' w ∧ RV ι Fz w v v') → ((vx = .nilIface ∧ vy = .nilIface) → cst = true) → ¬ (∃ c, vx = .agg c) →
      ∃ v, K v = some r ∧ ∃ v', (binOp op t vx vy).run P w = .ok v' w ∧ RV ι Fz w v v' ∧ ((vx = .nilIface ∧ vy = .nilIface) → cst = true) ∧ ¬ (∃ c, vx = .agg c) :=
    fun ⟨v, h1, v', h2, h3⟩ h4 h5 => ⟨v, h1, v', h2, h3, h4, h5⟩
  unfold binV at h
  split at h
  · rename_i a m
    split at h <;> try (cases h; done)
    rename_i b n
    rw [RV_int] at hx hy
    subst hx hy
    refine fin ?_ (by simp) (by simp)
    cases hi : isInt op with
    | true =>
      rw [hi, cond_true] at h
      cases hd : decide (a = b) with
      | false => rw [hd] at h; cases h
      | true =>
        rw [hd] at h
        have e := of_decide_eq_true hd
        subst e
        exact binI_of t hi h
    | false => rw [hi, cond_false] at h; exact shI_of t h
  · split at h <;> try (cases h; done)
    rw [RV_float] at hx hy
    subst hx hy
    exact fin (binF_of t h) (by simp) (by simp)
  · split at h <;> try (cases h; done)
    split at h <;> try (cases h; done)
    rename_i hu
    rw [RV_bool] at hx hy
    subst hx hy
    refine fin (eq_of (by rintro op (rfl | rfl) <;> simp [binOp]) (run_equal fun d => by simp [Op.equalIn, run_underlying hu]) h) (by simp) (by simp)
  · split at h <;> try (cases h; done)
    rw [RV_str] at hx hy
    subst hx hy
    refine fin ?_ (by simp) (by simp)
    split at h
    · obtain ⟨s, hs, h⟩ := Option.bind_eq_some_iff.1 h
      refine ⟨_, h, _, ?_, RV_str.2 rfl⟩
      unfold sadd at hs
      split at hs
      · rename_i hsz
        simp only [Option.some.injEq] at hs
        subst hs
        simp only [binOp, Op.stringOp, Sem.run_ite, Sem.run_pure]
        rw [if_neg (by simp; omega)]
      · cases hs
    · rcases cmpK_of h with ⟨rfl, h⟩ | ⟨rfl, h⟩
      · refine ⟨_, h, _, ?_, RV_bool.2 rfl⟩
        simp [binOp, Op.stringOp]
      · refine ⟨_, h, _, ?_, RV_bool.2 rfl⟩
        simp [binOp, Op.stringOp]
  · split at h <;> try (cases h; done)
    split at h <;> try (cases h; done)
    rename_i hu
    simp only [RV] at hx hy
    obtain ⟨u, rfl, _⟩ := hx
    subst hy
    refine fin (eq_of (by rintro op (rfl | rfl) <;> simp [binOp]) (run_equal fun d => by simp [Op.equalIn, run_underlying hu]) h) (by simp) (by simp)
  · split at h <;> try (cases h; done)
    split at h <;> try (cases h; done)
    rename_i hu
    simp only [RV] at hx hy
    subst hx hy
    cases hc : cst with
    | false => rw [hc] at h; cases h
    | true =>
      rw [hc, cond_true] at h
      exact hc ▸ fin (eq_of (by rintro op (rfl | rfl) <;> simp [binOp]) (run_equal fun d => by simp [Op.equalIn, run_underlying hu]) h) (fun _ => hc) (by simp)
  · split at h <;> try (cases h; done)
    split at h <;> try (cases h; done)
    rename_i hu
    simp only [RV] at hx hy
    obtain ⟨_, rfl⟩ := hx
    subst hy
    refine fin (eq_of (by rintro op (rfl | rfl) <;> simp [binOp]) (run_equal fun d => by simp [Op.equalIn, run_underlying hu]) h) (by simp) (by simp)
  · split at h <;> try (cases h; done)
    split at h <;> try (cases h; done)
    rename_i hu
    simp only [RV] at hx hy
    subst hx hy
    refine fin (eq_of (by rintro op (rfl | rfl) <;> simp [binOp]) (run_equal fun d => by simp [Op.equalIn, run_underlying hu]) h) (by simp) (by simp)
  · cases h
/-- The look ahead of '==' finds nothing. -/
theorem eqGuard_of {op : BinOp} {t : TypeId} {x y : Operand} {vx vy : Value} (h1 : (vx = .nilIface ∧ vy = .nilIface) → (isConst x || isConst y) = true) (h2 : ¬ ∃ c, vx = .agg c) : eqGuard op t x y vx vy = pure () := by
  cases vx
  case agg c => exact absurd ⟨c, rfl⟩ h2
  case nilIface =>
    cases vy
    case nilIface =>
      have := h1 ⟨rfl, rfl⟩
      cases x <;> cases y <;> first | (simp [isConst] at this; done) | (cases op <;> rfl)
    all_goals (cases op <;> rfl)
  all_goals (cases op <;> rfl)
end
end Go.Av
