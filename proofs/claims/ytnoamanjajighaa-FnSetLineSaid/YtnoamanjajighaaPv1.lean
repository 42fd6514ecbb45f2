/- Words for plain laws. -/
import Derived.Test.YtnoamanjajighaaAv19
import Derived.Test.YtnoamanjajighaaFl1
set_option linter.unusedVariables false
set_option linter.unusedSectionVars false
namespace Go.Av
open Go
theorem gate_pos {R : Type} {n : Nat} (h : 0 < n) (x : Option R) : gate n x = x := by
  cases n with
  | zero => omega
  | succ n => rfl
theorem nth_nat {α : Type} (xs : List α) (i : Nat) : nth xs (i : Int) = xs[i]? := by
  unfold nth; rw [if_pos (by omega)]; simp
theorem nth_lit {α : Type} (xs : List α) (i : Nat) {j : Int} (h : j = (i : Int)) : nth xs j = xs[i]? := by rw [h, nth_nat]
theorem wrap_in {n : Int} (h : -9223372036854775808 ≤ n ∧ n ≤ 9223372036854775807) : IntKind.i64.wrap n = n := by
  simp [IntKind.wrap, IntKind.signed, IntKind.bits]
  omega
theorem chk_nat {i n : Nat} (h : i < n) : chk (i : Int) n = some i := by
  unfold chk; rw [if_pos (by omega)]; simp
theorem chk_int {i : Int} {n : Nat} (h : 0 ≤ i ∧ i < n) : chk i n = some i.toNat := by
  unfold chk; rw [if_pos h]
theorem chk2_int {l h : Int} {n : Nat} (q : 0 ≤ l ∧ l ≤ h ∧ h ≤ n) : chk2 l h n = some (l.toNat, h.toNat) := by
  unfold chk2; rw [if_pos q]
theorem lim_le {n : Nat} (h : n ≤ 140737488355328) : lim n = some () := by
  unfold lim; rw [if_pos h]
end Go.Av
