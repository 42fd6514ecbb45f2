/- Functions without a body: what math's own doors tell. -/
import Derived.Test.YtnoamanjajighaaAv14
import Derived.Laws.Externs
import Derived.KernelRfl
set_option linter.unusedVariables false
namespace Go.Av
open Go
/-- A number cut, floored or lifted to a whole one. -/
def fwhole (way : Ieee.Toward) (x : Nat) : Option Nat :=
  match Ieee.double.read x with
  | .nan _ _ => none
  | d => some (Ieee.double.write (d.integral way))
def fsqrt (x : Nat) : Option Nat := Ieee.double.sqrt x
section
variable {P : Program} {f : FuncId} {fn : Func} {gl : List Gl}
theorem ext_of {e : Array Value → Sem Value} (κ κ' : Kd) (g : Den κ → Option (Den κ')) (hf : P.funcs[f]? = some fn) (hname : (fn.name == "runtime.NumGoroutine") = false) (hb : fn.body.isNone = true)
    (hn : Extern.findNext fn = none) (he : Extern.find fn = some e)
    (h : ∀ (w : World) (Fz : Nat → Prop) (x : Den κ) (v : Value) (y : Den κ'), RV ι0 Fz w (.pv κ x) v → g x = some y → ∃ v', (e #[v]).run P w = .ok v' w ∧ RV ι0 Fz w (.pv κ' y) v') :
    Con.Sound P gl ⟨f, [.k κ], [κ'], fun x => g x.1⟩ := by
  intro w Fz x vals y hfz hgl hra hy
  obtain ⟨v, r, rfl, hv, hr⟩ := hra
  simp only [RA] at hr
  subst hr
  obtain ⟨v', h1, h2⟩ := h w Fz x.1 v y hv hy
  refine .inl ⟨v', w, ?_, RowKit.Below.refl _ _, Fz, fun _ h => h, fun _ h => .inl h, hfz, h2⟩
  rw [run_callFunc_extern hf hname hb hn he]
  simp [h1]
theorem bits_of (hf : P.funcs[f]? = some fn) (hname : (fn.name == "runtime.NumGoroutine") = false) (hb : fn.body.isNone = true) (hn : Extern.findNext fn = none) (he : Extern.find fn = some Extern.MathFloatBits.float64bits) :
    Con.Sound P gl ⟨f, [.k .float], [.int .u64], fun x => some ((x.1 : Nat) : Int)⟩ :=
  ext_of .float (.int .u64) (fun x => some ((x : Nat) : Int)) hf hname hb hn he fun w Fz x v y hv hy => by
    rw [RV_float] at hv
    subst hv
    simp only [Option.some.injEq] at hy
    subst hy
    exact ⟨.int .u64 x, rfl, RV_int.2 rfl⟩
theorem frombits_of (hf : P.funcs[f]? = some fn) (hname : (fn.name == "runtime.NumGoroutine") = false) (hb : fn.body.isNone = true) (hn : Extern.findNext fn = none) (he : Extern.find fn = some Extern.MathFloatBits.float64frombits) :
    Con.Sound P gl ⟨f, [.k (.int .u64)], [.float], fun x => some (x.1 : Int).toNat⟩ :=
  ext_of (.int .u64) .float (fun x => some (x : Int).toNat) hf hname hb hn he fun w Fz x v y hv hy => by
    rw [RV_int] at hv
    subst hv
    simp only [Option.some.injEq] at hy
    subst hy
    exact ⟨.float .f64 x.toNat, rfl, RV_float.2 rfl⟩
theorem whole_of {name : String} {way : Ieee.Toward} (hf : P.funcs[f]? = some fn) (hname : (fn.name == "runtime.NumGoroutine") = false) (hb : fn.body.isNone = true) (hn : Extern.findNext fn = none) (he : Extern.find fn = some (Extern.MathFloor.toIntegral name way)) :
    Con.Sound P gl ⟨f, [.k .float], [.float], fun x => fwhole way x.1⟩ :=
  ext_of .float .float (fwhole way) hf hname hb hn he fun w Fz x v y hv hy => by
    rw [RV_float] at hv
    subst hv
    unfold fwhole at hy
    refine ⟨.float .f64 y, ?_, RV_float.2 rfl⟩
    obtain ⟨X, e⟩ : ∃ X : Bool → Nat → Sem Value, Extern.MathFloor.toIntegral name way #[.float .f64 x] = (fun d : Ieee.Datum => match d with
        | .nan s t => X s t
        | d => pure (.float .f64 (FloatKind.f64.encode (d.integral way)))) (Ieee.double.read x) := ⟨_, rfl⟩
    rw [e]
    cases hr : Ieee.double.read x with
    | nan s t => rw [hr] at hy; cases hy
    | number s m i =>
      rw [hr] at hy
      simp only [Option.some.injEq] at hy
      subst hy
      rfl
    | infinity s =>
      rw [hr] at hy
      simp only [Option.some.injEq] at hy
      subst hy
      rfl
/-- The lesser or the greater of two numbers (as the machine's own code has it). -/
def fpick (neg : Bool) (win : Ordering) (x y : Nat) : Nat :=
  let a := Ieee.double.read x
  let b := Ieee.double.read y
  if a == .infinity neg || b == .infinity neg then Ieee.double.write (.infinity neg)
  else if a.isNaN || b.isNaN then 0x7FF8000000000001
  else if a.isZero && b.isZero then (if a.neg == neg then x else y)
  else if a.order b == some win then x else y
theorem pick_of {name : String} {neg : Bool} {win : Ordering} (hf : P.funcs[f]? = some fn) (hname : (fn.name == "runtime.NumGoroutine") = false) (hb : fn.body.isNone = true) (hn : Extern.findNext fn = none) (he : Extern.find fn = some (Extern.MathDim.pick name neg win)) :
    Con.Sound P gl ⟨f, [.k .float, .k .float], [.float], fun x => some (fpick neg win x.1 x.2.1)⟩ := by
  intro w Fz x vals y hfz hgl hra hy
  obtain ⟨v, r, rfl, hv, hr⟩ := hra
  obtain ⟨v2, r2, rfl, hv2, hr2⟩ := hr
  simp only [RA] at hr2
  subst hr2
  rw [RV_float] at hv hv2
  subst hv hv2
  simp only [Option.some.injEq] at hy
  subst hy
  refine .inl ⟨.float .f64 (fpick neg win x.1 x.2.1), w, ?_, RowKit.Below.refl _ _, Fz, fun _ h => h, fun _ h => .inl h, hfz, RV_float.2 rfl⟩
  rw [run_callFunc_extern hf hname hb hn he]
  rfl
theorem sqrt_of (hf : P.funcs[f]? = some fn) (hname : (fn.name == "runtime.NumGoroutine") = false) (hb : fn.body.isNone = true) (hn : Extern.findNext fn = none) (he : Extern.find fn = some Extern.MathSqrt.sqrt) :
    Con.Sound P gl ⟨f, [.k .float], [.float], fun x => fsqrt x.1⟩ :=
  ext_of .float .float fsqrt hf hname hb hn he fun w Fz x v y hv hy => by
    rw [RV_float] at hv
    subst hv
    refine ⟨.float .f64 y, ?_, RV_float.2 rfl⟩
    have h : FloatKind.f64.format.sqrt x = some y := hy
    have e : Extern.MathSqrt.sqrt #[.float .f64 x] = (fun o : Option Nat => match o with | some r => (pure (.float .f64 r) : Sem Value) | none => do pure (.float .f64 (← choose (.nanBits .f64 x x)))) (FloatKind.f64.format.sqrt x) := rfl
    rw [e, h]
    simp
/-- The long side of two short ones (as the machine's own code has it). -/
def fhypot (x y : Nat) : Option Nat :=
  (fun (p q : Nat) =>
    if p == 0x7FF0000000000000 || q == 0x7FF0000000000000 then some 0x7FF0000000000000
    else if p > 0x7FF0000000000000 || q > 0x7FF0000000000000 then some 0x7FF8000000000001
    else if p == 0 && q == 0 then some 0
    else (fun (big small : Nat) => (Ieee.double.div small big).bind fun r => (Ieee.double.mul r r).bind fun m => (Ieee.double.add m 0x3FF0000000000000).bind fun a => (fsqrt a).bind fun s => Ieee.double.mul s big)
      (if flt p q then q else p) (if flt p q then p else q)) (x % 2 ^ 63) (y % 2 ^ 63)
theorem asm_of {op : BinOp} {x y r : Nat} (h : floatBits op .f64 x y = some r) (w : World) : (Extern.MathAsm.arith op x y).run P w = .ok r w := by
  have h2 : (Op.floatArith op .f64 x y).run P w = .ok (.float .f64 r) w := by
    unfold floatBits at h
    cases op <;> simp only at h <;> first | (cases h; done) | skip
    all_goals simp [Op.floatArith, h]
  simp [Extern.MathAsm.arith, h2]
end
end Go.Av
