/- A deferred function that recovers, where nothing panics. -/
import Derived.Test.YtnoamanjajighaaAv14
import Derived.Recover
set_option linter.unusedVariables false
set_option linter.unusedSimpArgs false
namespace Go.Av
open Go Go.RowKit
def ifaceT (P : Program) (t : TypeId) : Bool := match P.underlying t with | some (.interface _) => true | _ => false
def idleOps (P : Program) (nt t : Nat) : List Oper → Bool
  | [⟨some d, .call ⟨.builtin .recover, as, _⟩, _, _, _, none⟩, ⟨some t', .binOp .neq it (.tmp d') (.const .nilIface) it', _, _, _, none⟩] =>
    Nat.beq d d' && Nat.beq t t' && Nat.blt d nt && Nat.blt t nt && as.isEmpty && ifaceT P it && Nat.beq it it'
  | _ => false
def idleB (P : Program) (fn : Func) : Bool :=
  match fn.body with
  | some (.seq (.region _ ops false) (.cond (.tmp t) _ .skip)) => idleOps P fn.ntmps t ops.toList && fn.results.isEmpty && !(fn.name == "runtime.NumGoroutine")
  | _ => false
theorem idle_of {P : Program} {f : FuncId} {fn : Func} (hf : P.funcs[f]? = some fn) (h : idleB P fn = true) : Idle P f := by
  unfold idleB at h
  split at h
  · rename_i id ops t x hb
    simp only [Bool.and_eq_true, Bool.not_eq_true'] at h
    obtain ⟨⟨h1, h2⟩, h3⟩ := h
    have hres : fn.results = #[] := by simpa using h2
    unfold idleOps at h1
    split at h1
    · rename_i d as ts ty1 p1 a1 t' it d' it' ty2 p2 a2 hops
      simp only [Bool.and_eq_true] at h1
      obtain ⟨⟨⟨⟨⟨⟨e1, e2⟩, l1⟩, l2⟩, e3⟩, hi⟩, e4⟩ := h1
      have e1 := Nat.eq_of_beq_eq_true e1
      have e2 := Nat.eq_of_beq_eq_true e2
      have e4 := Nat.eq_of_beq_eq_true e4
      have l1 := Nat.le_of_ble_eq_true l1
      have l2 := Nat.le_of_ble_eq_true l2
      have e3 : as = #[] := by simpa using e3
      subst e1 e2 e3 e4
      have hops' : ops = #[⟨some d, .call ⟨.builtin .recover, #[], ts⟩, ty1, p1, a1, none⟩, ⟨some t, .binOp .neq it (.tmp d) (.const .nilIface) it, ty2, p2, a2, none⟩] := by
        apply Array.ext'; exact hops
      subst hops'
      unfold ifaceT at hi
      split at hi
      · rename_i ms hu
        refine ⟨fun args w => ?_, fun args w => ?_⟩
        · have hn' : ¬ fn.name = "runtime.NumGoroutine" := by simpa using h3
          have hb' : ¬ fn.body = none := by rw [hb]; simp
          simp [callFunc, hf, hn', hb']
        · refine callsD_of_wpS hf hb fun c₀ cs hmode => ?_
          apply wpS_seq
          apply wpS_region
          simp [wpOpsS, go_sem, recoverD, hmode, Exit.thenS]
          rw [if_pos (Nat.lt_of_lt_of_le (Nat.lt_of_succ_le l1) (show fn.ntmps ≤ args.length + (fn.ntmps - args.length) by omega))]
          rw [eqGuard_of (fun _ => rfl) (fun ⟨c, hc⟩ => by cases hc)]
          have hbin : (binOp .neq it .nilIface .nilIface).run P w = .ok (.bool false) w := by
            obtain ⟨v, hk, v', hr, hv, _⟩ := binV_of (R := AV) (P := P) (ι := ι0) (Fz := fun _ => False) (w := w) (op := .neq) (t := it) (cst := true) (x := .niliface) (y := .niliface) (vx := .nilIface) (vy := .nilIface) (K := fun v => some v) (r := .pv .bool false)
              (by simp [RV]) (by simp [RV]) (by simp [binV, hu, cmpK])
            simp only [Option.some.injEq] at hk
            subst hk
            rw [RV_bool] at hv
            rw [hr, hv]
          simp [hbin, Oper.upon]
          refine wpS_cond (t := false) ?_ ?_
          · simp [Act.eval, Act.put]
            intro hge
            exact absurd (Nat.lt_of_lt_of_le (Nat.lt_of_succ_le l2) (show fn.ntmps ≤ args.length + (fn.ntmps - args.length) by omega)) (Nat.not_lt_of_le hge)
          · simp only [Bool.false_eq_true, if_false]
            refine wpS_of_wp (wp_skip ?_)
            cases c₀
            simp_all [bodyPostS, results, Act.put]
      · cases hi
    · cases h1
  · cases h
end Go.Av
