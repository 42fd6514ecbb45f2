import Derived.Test.YtcppjdjimmnlkaaProg
import Derived.Test.YtcppjdjimmnlkaaAv16
import Derived.Test.YtcppjdjimmnlkaaFl1
import Derived.KernelRfl
namespace Go.Proofs.Ytcppjdjimmnlkaa.FSameSign
open Go.Av
noncomputable def env (n : Nat) (cs : List Con) (adv : List (Nat × Norm)) (kd : TypeId → Option Kd) : Env := ⟨Try.prog, n, cs, adv, kd⟩
def kd0 : TypeId → Option Kd := fun _ => none
set_option maxRecDepth 100000

def f9 (a : Nat) : Option Bool := some (fne a a)
def c9 : Con := ⟨9, [.k .float], [.bool], fun x => f9 x.1⟩
theorem s9 : c9.Sound Try.prog :=
  Con.sound_of (c := c9) (E := env 0 [] [] kd0) (idle := []) Try.func9 (by kernel_rfl) (by kernel_rfl) (by intro c h; cases h) (by intro f h; cases h)
    (fun x y h => Eq.trans (by kernel_rfl) h)
def f24 (a b : Nat) : Option Bool :=
  cond (feq a 0) (some false) (cond (feq b 0) (some false)
    (cond (flt a 0) (cond (flt b 0) (some true) (cond (fgt a 0) (some (fgt b 0)) (some false))) (cond (fgt a 0) (some (fgt b 0)) (some false))))
def c24 : Con := ⟨24, [.k .float, .k .float], [.bool], fun x => f24 x.1 x.2.1⟩
theorem s24 : c24.Sound Try.prog :=
  Con.sound_of (c := c24) (E := env 0 [] [] kd0) (idle := []) Try.func24 (by kernel_rfl) (by kernel_rfl) (by intro c h; cases h) (by intro f h; cases h)
    (fun x y h => Eq.trans (by kernel_rfl) h)
def f10 (a b : Nat) : Option Bool := (f24 a b).bind fun r => some r
def c10 : Con := ⟨10, [.k .float, .k .float], [.bool], fun x => f10 x.1 x.2.1⟩
theorem s10 : c10.Sound Try.prog :=
  Con.sound_of (c := c10) (E := env 0 [c24] [] kd0) (idle := []) Try.func10 (by kernel_rfl) (by kernel_rfl) (by intro c h; simp [env] at h; subst h; exact s24) (by intro f h; cases h)
    (fun x y h => Eq.trans (by kernel_rfl) h)
def f3 (a b : Nat) : Option Bool :=
  (f9 a).bind fun t6 => cond t6 (some true) ((f9 b).bind fun t9 => cond t9 (some true) 
    ((f10 a b).bind fun t13 =>
      cond (fgt a 0) (cond (fgt b 0) (some (t13 == true)) (cond (flt a 0) (some (t13 == flt b 0)) (some (t13 == false)))) (cond (flt a 0) (some (t13 == flt b 0)) (some (t13 == false)))))
def c3 : Con := ⟨3, [.k .float, .k .float], [.bool], fun x => f3 x.1 x.2.1⟩
theorem s3 : c3.Sound Try.prog :=
  Con.sound_of (c := c3) (E := env 0 [c9, c10] [] kd0) (idle := []) Try.func3 (by kernel_rfl) (by kernel_rfl) (by intro c h; simp [env] at h; rcases h with rfl | rfl; exact s9; exact s10) (by intro f h; cases h)
    (fun x y h => Eq.trans (by kernel_rfl) h)
/-- THE PLAIN LAW. -/
theorem law (a b : Nat) : f3 a b = some true := by
  unfold f3 f10 f24 f9
  simp only [feq_eq, fne_eq, flt_eq, fgt_eq, isnan_zero, ikey_zero, Bool.or_false]
  cases isnan a
  · cases isnan b
    · simp only [Bool.not_false, Bool.true_and, Bool.or_self, Bool.false_or]
      simp only [Option.bind_some, ne_eq, not_true_eq_false, decide_false, cond_false]
      generalize ikey a = p
      generalize ikey b = q
      by_cases h1 : p = 0 <;> by_cases h2 : q = 0 <;> by_cases h3 : p < 0 <;> by_cases h4 : q < 0 <;> by_cases h5 : 0 < p <;> by_cases h6 : 0 < q <;> first | omega | simp [h1, h2, h3, h4, h5, h6]
    · simp
  · simp
end Go.Proofs.Ytcppjdjimmnlkaa.FSameSign
