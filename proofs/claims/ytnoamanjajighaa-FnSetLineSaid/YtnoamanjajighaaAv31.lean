/- Functions without a body that may give what is not a number: cutting and flooring. -/
import Derived.Test.YtnoamanjajighaaAv21
import Derived.Test.YtnoamanjajighaaAv23
set_option linter.unusedVariables false
set_option linter.unusedSectionVars false
set_option linter.unusedSimpArgs false
namespace Go.Av
open Go
/-- A number cut, floored or lifted to a whole one; or what is not a number. -/
def fwholeN (way : Ieee.Toward) (x : Nat) : (Nat × Unit) ⊕ (Unit × Unit) :=
  match fwhole way x with
  | some y => .inl (y, ())
  | none => .inr ((), ())
theorem nanB_of {n : Nat} (h : (Ieee.double.read n).isNaN = true) : NanB n := by
  intro m
  cases hn : Ieee.double.read n with
  | nan s t => constructor <;> (unfold Ieee.Format.order; rw [hn]; cases Ieee.double.read m <;> rfl)
  | number _ _ _ => rw [hn] at h; cases h
  | infinity _ => rw [hn] at h; cases h
theorem nan_small {x : Nat} {s : Bool} {t : Nat} (h : Ieee.double.read x = .nan s t) : 0 < t ∧ t < 4503599627370496 := by
  unfold Ieee.Format.read at h
  have h1 : Ieee.double.signWeight = 9223372036854775808 := by decide +kernel
  have h2 : Ieee.double.infRung = 9218868437227405312 := by decide +kernel
  have h3 : Ieee.double.binade = 4503599627370496 := by decide +kernel
  simp only [h1, h2, h3] at h
  have := Nat.mod_lt x (show 0 < 9223372036854775808 by decide)
  split at h
  · cases h
  split at h
  · cases h
  split at h
  · cases h
  simp only [Ieee.Datum.nan.injEq] at h
  omega
theorem nan_write (s : Bool) (t : Nat) (ht : 0 < t ∧ t < 4503599627370496) : (Ieee.double.read (Ieee.double.write (.nan s (Ieee.double.quiet t)))).isNaN = true := by
  have h1 : Ieee.double.signWeight = 9223372036854775808 := by decide +kernel
  have h2 : Ieee.double.infRung = 9218868437227405312 := by decide +kernel
  have h3 : Ieee.double.binade = 4503599627370496 := by decide +kernel
  have hq : 0 < Ieee.double.quiet t ∧ Ieee.double.quiet t < 4503599627370496 := by
    unfold Ieee.Format.quiet
    have e : 2 ^ (Ieee.double.fractionBits - 1) = 2251799813685248 := by decide +kernel
    rw [e]
    refine ⟨Nat.lt_of_lt_of_le ht.1 Nat.left_le_or, ?_⟩
    exact Nat.or_lt_two_pow (n := 52) ht.2 (by decide)
  generalize Ieee.double.quiet t = q at hq
  have hw : Ieee.double.write (.nan s q) = if s then 9223372036854775808 + (9218868437227405312 + q) else 9218868437227405312 + q := by
    show Ieee.double.word s (Ieee.double.infRung + q % Ieee.double.binade) = _
    unfold Ieee.Format.word
    rw [h1, h2, h3, Nat.mod_eq_of_lt hq.2]
  rw [hw]
  have hm : (if s then 9223372036854775808 + (9218868437227405312 + q) else 9218868437227405312 + q) % 9223372036854775808 = 9218868437227405312 + q := by
    cases s
    · simp only [Bool.false_eq_true, if_false]; omega
    · simp only [if_true]; omega
  unfold Ieee.Format.read
  simp only [h1, h2, h3, hm]
  rw [if_neg (by omega), if_neg (by omega), if_neg (by omega)]
  rfl
section
variable {P : Program} {f : FuncId} {fn : Func} {gl : List Gl}
theorem wholeN_of {name : String} {way : Ieee.Toward} (hf : P.funcs[f]? = some fn) (hname : (fn.name == "runtime.NumGoroutine") = false) (hb : fn.body.isNone = true) (hn : Extern.findNext fn = none) (he : Extern.find fn = some (Extern.MathFloor.toIntegral name way)) :
    Con2.Sound P gl ⟨f, [.k .float], [⟨[.k .float], [none]⟩, ⟨[.nan], [none]⟩], fun x => some (fwholeN way x.1)⟩ := by
  intro w Fz pi x vals os y hfz hgl hra hos hy
  simp only [RSs, RS] at hra
  obtain ⟨v, r, o1, o2, rfl, rfl, ⟨rfl, hv⟩, hr⟩ := hra
  obtain ⟨rfl, rfl⟩ := hr
  rw [RV_float] at hv
  subst hv
  have hy := Option.some.inj hy
  subst hy
  obtain ⟨x0, xu⟩ := x
  have key : ∃ v' w', (Extern.MathFloor.toIntegral name way #[.float .f64 x0]).run P w = .ok v' w' ∧ Bel (ownW w ([] ++ [])) w w' ∧ w'.heap = w.heap ∧
      ((∃ y, fwhole way x0 = some y ∧ v' = .float .f64 y) ∨ (fwhole way x0 = none ∧ ∃ n, v' = .float .f64 n ∧ NanB n)) := by
    show ∃ v' w', (Extern.MathFloor.toIntegral name way #[.float .f64 x0]).run P w = .ok v' w' ∧ _
    have e : Extern.MathFloor.toIntegral name way #[.float .f64 x0] = (match Ieee.double.read x0 with
        | .nan s t => if Ieee.double.quiet t = t then pure (.float .f64 x0) else do
            let kept ← choose (.extern "math.Floor,Ceil,Trunc,RoundToEven.signallingNaN kept" 2)
            pure (.float .f64 (if kept == 1 then x0 else Ieee.double.write (.nan s (Ieee.double.quiet t))))
        | d => pure (.float .f64 (Ieee.double.write (d.integral way)))) := rfl
    rw [e]
    unfold fwhole
    cases hr : Ieee.double.read x0 with
    | number s m i => exact ⟨_, w, rfl, Bel.refl _ _, rfl, .inl ⟨_, rfl, rfl⟩⟩
    | infinity s => exact ⟨_, w, rfl, Bel.refl _ _, rfl, .inl ⟨_, rfl, rfl⟩⟩
    | nan s t =>
      have hx : NanB x0 := nanB_of (by rw [hr]; rfl)
      simp only
      split
      · exact ⟨_, w, rfl, Bel.refl _ _, rfl, .inr ⟨trivial, _, rfl, hx⟩⟩
      · have hw : NanB (Ieee.double.write (.nan s (Ieee.double.quiet t))) := nanB_of (nan_write s t (nan_small hr))
        simp only [Sem.run_bind, run_choose_drew, Question.forced, Bool.false_eq_true, if_false, Result.andThen_ok, Sem.run_pure]
        refine ⟨_, w.drew, rfl, ⟨rfl, rfl, rfl, Nat.le_refl _, fun _ _ => rfl⟩, rfl, .inr ⟨trivial, _, rfl, ?_⟩⟩
        split
        · exact hx
        · exact hw
  obtain ⟨v', w', hrun, hbel, hheap, hcase⟩ := key
  refine .inl ⟨v', w', ?_, ?_⟩
  · rw [run_callFunc_extern hf hname hb hn he]
    simp [hrun]
  · refine ⟨hbel, Fz, [], fun _ h => h, fun _ h => .inl h, fun b hb => by rw [hheap]; exact hfz b hb, ?_, ⟨by simp, by simp⟩, by simp⟩
    unfold fwholeN
    rcases hcase with ⟨y, hy, rfl⟩ | ⟨hy, n, rfl, hnan⟩
    · rw [hy]
      exact ⟨[.float .f64 y], rfl, rfl, by simp only [Alt.all, keepS, keepV, List.append_nil, RSs, RS]; exact ⟨_, _, [], [], rfl, rfl, ⟨rfl, RV_float.2 rfl⟩, rfl, rfl⟩⟩
    · rw [hy]
      exact ⟨[.float .f64 n], rfl, rfl, by simp only [Alt.all, keepS, keepV, List.append_nil, RSs, RS]; exact ⟨_, _, [], [], rfl, rfl, ⟨rfl, n, rfl, hnan⟩, rfl, rfl⟩⟩
end
end Go.Av
