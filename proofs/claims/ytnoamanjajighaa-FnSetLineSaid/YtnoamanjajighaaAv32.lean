/- The long side of two short ones: what math's own door tells. -/
import Derived.Test.YtnoamanjajighaaAv31
set_option linter.unusedVariables false
set_option linter.unusedSectionVars false
namespace Go.Av
open Go
def hyp2 (big small : Nat) : Sem Value := do
  let r ← Extern.MathAsm.div small big
  let r ← Extern.MathAsm.add (← Extern.MathAsm.mul r r) Extern.MathAsm.one
  let .float _ r ← Extern.MathSqrt.sqrt #[.float .f64 r] | stuck "sqrt: a float expected"
  pure (.float .f64 (← Extern.MathAsm.mul r big))
def hyp1 (p q : Nat) : Sem Value :=
  if p == Extern.MathAsm.posInf || q == Extern.MathAsm.posInf then pure (.float .f64 Extern.MathAsm.posInf)
  else if p > Extern.MathAsm.posInf || q > Extern.MathAsm.posInf then pure (.float .f64 Extern.MathAsm.nan)
  else if p == 0 && q == 0 then pure (.float .f64 0)
  else hyp2 (if Extern.MathAsm.lt p q then (q, p) else (p, q)).1 (if Extern.MathAsm.lt p q then (q, p) else (p, q)).2
theorem hyp_is (x y : Nat) : Extern.MathHypot.archHypot #[.float .f64 x, .float .f64 y] = hyp1 (x % 2 ^ 63) (y % 2 ^ 63) := by
  unfold hyp1 hyp2
  rfl
section
variable {P : Program} {f : FuncId} {fn : Func} {gl : List Gl}
theorem hypot_run {x y r : Nat} (h : fhypot x y = some r) (w : World) : (Extern.MathHypot.archHypot #[.float .f64 x, .float .f64 y]).run P w = .ok (.float .f64 r) w := by
  rw [hyp_is]
  unfold fhypot at h
  generalize x % 2 ^ 63 = p at h ⊢
  generalize y % 2 ^ 63 = q at h ⊢
  simp only at h
  unfold hyp1
  have c : Extern.MathAsm.posInf = 0x7FF0000000000000 := rfl
  simp only [c]
  split at h
  · rename_i h1; rw [if_pos h1]; cases h; rfl
  · rename_i h1
    rw [if_neg h1]
    split at h
    · rename_i h2; rw [if_pos h2]; cases h; rfl
    · rename_i h2
      rw [if_neg h2]
      split at h
      · rename_i h3; rw [if_pos h3]; cases h; rfl
      · rename_i h3
        rw [if_neg h3]
        have e : Extern.MathAsm.lt p q = flt p q := rfl
        rw [e]
        have e1 : (if flt p q then (q, p) else (p, q)).1 = (if flt p q then q else p) := by split <;> rfl
        have e2 : (if flt p q then (q, p) else (p, q)).2 = (if flt p q then p else q) := by split <;> rfl
        rw [e1, e2]
        generalize (if flt p q then q else p) = big at h ⊢
        generalize (if flt p q then p else q) = small at h ⊢
        obtain ⟨a, ha, h⟩ := Option.bind_eq_some_iff.1 h
        obtain ⟨b, hb, h⟩ := Option.bind_eq_some_iff.1 h
        obtain ⟨c, hc, h⟩ := Option.bind_eq_some_iff.1 h
        obtain ⟨d, hd, h⟩ := Option.bind_eq_some_iff.1 h
        have r1 : (Extern.MathAsm.div small big).run P w = .ok a w := asm_of (op := .quo) ha w
        have r2 : (Extern.MathAsm.mul a a).run P w = .ok b w := asm_of (op := .mul) hb w
        have r3 : (Extern.MathAsm.add b Extern.MathAsm.one).run P w = .ok c w := asm_of (op := .add) hc w
        have r4 : (Extern.MathAsm.mul d big).run P w = .ok r w := asm_of (op := .mul) h w
        have hs : FloatKind.f64.format.sqrt c = some d := hd
        have e4 : Extern.MathSqrt.sqrt #[.float .f64 c] = (fun o : Option Nat => match o with | some r => (pure (.float .f64 r) : Sem Value) | none => do pure (.float .f64 (← choose (.nanBits .f64 c c)))) (FloatKind.f64.format.sqrt c) := rfl
        unfold hyp2
        simp only [Sem.run_bind, r1, r2, r3, e4, hs, Result.andThen_ok, Sem.run_pure, r4]
theorem hypot_of (hf : P.funcs[f]? = some fn) (hname : (fn.name == "runtime.NumGoroutine") = false) (hb : fn.body.isNone = true) (hn : Extern.findNext fn = none) (he : Extern.find fn = some Extern.MathHypot.archHypot) :
    Con.Sound P gl ⟨f, [.k .float, .k .float], [.float], fun x => fhypot x.1 x.2.1⟩ := by
  intro w Fz x vals y hfz hgl hra hy
  obtain ⟨v, r, rfl, hv, hr⟩ := hra
  obtain ⟨v2, r2, rfl, hv2, hr2⟩ := hr
  simp only [RA] at hr2
  subst hr2
  rw [RV_float] at hv hv2
  subst hv hv2
  refine .inl ⟨.float .f64 y, w, ?_, RowKit.Below.refl _ _, Fz, fun _ h => h, fun _ h => .inl h, hfz, RV_float.2 rfl⟩
  rw [run_callFunc_extern hf hname hb hn he]
  simp [hypot_run hy]
end
end Go.Av
