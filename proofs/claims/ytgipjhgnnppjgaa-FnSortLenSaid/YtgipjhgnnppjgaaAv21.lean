/- Functions without a body: what math's own doors tell. -/
import Derived.Test.YtgipjhgnnppjgaaAv14
import Derived.Laws.Externs
import Derived.KernelRfl
set_option linter.unusedVariables false
namespace Go.Av
open Go
/-- A number cut, floored or lifted to a whole one. -/
def fwhole (way : Ieee.Toward) (x : Nat) : Option Nat :=
  match Ieee.double.read x with
  | .nan _ _ => none
  | d => some (Ieee.double.write (d.integral way))
def fsqrt (x : Nat) : Option Nat := Ieee.double.sqrt x
section
variable {P : Program} {f : FuncId} {fn : Func}
theorem ext_of {e : Array Value → Sem Value} (κ κ' : Kd) (g : Den κ → Option (Den κ')) (hf : P.funcs[f]? = some fn) (hname : (fn.name == "runtime.NumGoroutine") = false) (hb : fn.body.isNone = true)
    (hn : Extern.findNext fn = none) (he : Extern.find fn = some e)
    (h : ∀ (w : World) (Fz : Nat → Prop) (x : Den κ) (v : Value) (y : Den κ'), RV ι0 Fz w (.pv κ x) v → g x = some y → ∃ v', (e #[v]).run P w = .ok v' w ∧ RV ι0 Fz w (.pv κ' y) v') :
    Con.Sound P ⟨f, [.k κ], [κ'], fun x => g x.1⟩ := by
  intro w Fz x vals y hfz hra hy
  obtain ⟨v, r, rfl, hv, hr⟩ := hra
  simp only [RA] at hr
  subst hr
  obtain ⟨v', h1, h2⟩ := h w Fz x.1 v y hv hy
  refine .inl ⟨v', w, ?_, RowKit.Below.refl _ _, Fz, fun _ h => h, fun _ h => .inl h, hfz, h2⟩
  rw [run_callFunc_extern hf hname hb hn he]
  simp [h1]
theorem bits_of (hf : P.funcs[f]? = some fn) (hname : (fn.name == "runtime.NumGoroutine") = false) (hb : fn.body.isNone = true) (hn : Extern.findNext fn = none) (he : Extern.find fn = some Extern.MathFloatBits.float64bits) :
    Con.Sound P ⟨f, [.k .float], [.int .u64], fun x => some ((x.1 : Nat) : Int)⟩ :=
  ext_of .float (.int .u64) (fun x => some ((x : Nat) : Int)) hf hname hb hn he fun w Fz x v y hv hy => by
    rw [RV_float] at hv
    subst hv
    simp only [Option.some.injEq] at hy
    subst hy
    exact ⟨.int .u64 x, rfl, RV_int.2 rfl⟩
theorem frombits_of (hf : P.funcs[f]? = some fn) (hname : (fn.name == "runtime.NumGoroutine") = false) (hb : fn.body.isNone = true) (hn : Extern.findNext fn = none) (he : Extern.find fn = some Extern.MathFloatBits.float64frombits) :
    Con.Sound P ⟨f, [.k (.int .u64)], [.float], fun x => some (x.1 : Int).toNat⟩ :=
  ext_of (.int .u64) .float (fun x => some (x : Int).toNat) hf hname hb hn he fun w Fz x v y hv hy => by
    rw [RV_int] at hv
    subst hv
    simp only [Option.some.injEq] at hy
    subst hy
    exact ⟨.float .f64 x.toNat, rfl, RV_float.2 rfl⟩
theorem whole_of {name : String} {way : Ieee.Toward} (hf : P.funcs[f]? = some fn) (hname : (fn.name == "runtime.NumGoroutine") = false) (hb : fn.body.isNone = true) (hn : Extern.findNext fn = none) (he : Extern.find fn = some (Extern.MathFloor.toIntegral name way)) :
    Con.Sound P ⟨f, [.k .float], [.float], fun x => fwhole way x.1⟩ :=
  ext_of .float .float (fwhole way) hf hname hb hn he fun w Fz x v y hv hy => by
    rw [RV_float] at hv
    subst hv
    unfold fwhole at hy
    refine ⟨.float .f64 y, ?_, RV_float.2 rfl⟩
    obtain ⟨X, e⟩ : ∃ X : Bool → Nat → Sem Value, Extern.MathFloor.toIntegral name way #[.float .f64 x] = (fun d : Ieee.Datum => match d with
        | .nan s t => X s t
        | d => pure (.float .f64 (FloatKind.f64.encode (d.integral way)))) (Ieee.double.read x) := ⟨_, rfl⟩
    rw [e]
    cases hr : Ieee.double.read x with
    | nan s t => rw [hr] at hy; cases hy
    | number s m i =>
      rw [hr] at hy
      simp only [Option.some.injEq] at hy
      subst hy
      rfl
    | infinity s =>
      rw [hr] at hy
      simp only [Option.some.injEq] at hy
      subst hy
      rfl
end
end Go.Av
