/- The amount of a double, by its bits. -/
import Derived.Test.YtjabjnkiddldeaaGreatFl7
import Derived.Test.YtjabjnkiddldeaaGreatFl8
set_option linter.unusedVariables false
set_option linter.unusedSectionVars false
namespace Go.Av
open Go
theorem abs_bits (x : Nat) : bits .andNot .u64 (x : Int) 9223372036854775808 = ((x % 9223372036854775808 : Nat) : Int) := by
  unfold bits
  have e : (BitVec.ofInt IntKind.u64.bits (x : Int) &&& ~~~ BitVec.ofInt IntKind.u64.bits 9223372036854775808).toNat = x % 9223372036854775808 := by
    show (BitVec.ofInt 64 (x : Int) &&& ~~~ BitVec.ofInt 64 9223372036854775808).toNat = _
    rw [BitVec.toNat_and, show (~~~ BitVec.ofInt 64 9223372036854775808 : BitVec 64).toNat = 2 ^ 63 - 1 from by decide, Nat.and_two_pow_sub_one_eq_mod, BitVec.toNat_ofInt]
    omega
  simp only [e]
  have : x % 9223372036854775808 < 9223372036854775808 := Nat.mod_lt _ (by decide)
  simp [IntKind.wrap, IntKind.bits, IntKind.signed]
  omega
def fabs (x : Nat) : Nat := x % 9223372036854775808
theorem fabs_rung (x : Nat) : rung (fabs x) = rung x := by unfold rung fabs; omega
theorem fabs_sgn (x : Nat) : sgn (fabs x) = false := by unfold sgn fabs; simp
theorem fabs_fin (x : Nat) : fin (fabs x) = fin x := by unfold fin; rw [fabs_rung]
theorem fabs_nan (x : Nat) : isnan (fabs x) = isnan x := by unfold isnan; rw [fabs_rung]
theorem fabs_fv (x : Nat) : fv (fabs x) = ab (fv x) := by
  rw [fv_eq, fv_eq x, fabs_rung, fabs_sgn]
  have h : (0 : Rat) ≤ (val (rung x) : Rat) * P2 (-1074) := Rat.mul_nonneg (natCast_nonneg _) (Rat.le_of_lt (P2_pos _))
  rw [ab_sg _ h]
  rfl
theorem fabs_wh {x : Nat} {n : Int} (h : Wh x n) : Wh (fabs x) (n.natAbs : Int) := ⟨by rw [fabs_fin]; exact h.1, by rw [fabs_fv, h.2, ab_int]; rfl⟩
/-- What is not greater than a whole number by its amount. -/
theorem fin_of_abs {x m : Nat} {B : Int} (hm : Wh m B) (hn : isnan x = false) (h : fgt (fabs x) m = false) : fin x = true ∧ ab (fv x) ≤ (B : Rat) := by
  have hn' : isnan (fabs x) = false := by rw [fabs_nan]; exact hn
  have hk : ikey (fabs x) = (rung x : Int) := by unfold ikey; rw [fabs_sgn, fabs_rung]; rfl
  have hmf := fin_key hm.1
  have hf : fin x = true := by
    cases hf : fin x with
    | true => rfl
    | false =>
      exfalso
      have hi := key_inf hn' (by rw [fabs_fin]; exact hf)
      rw [fabs_sgn] at hi
      have hgt : fgt (fabs x) m = true := by
        rw [fgt_eq, hn', fin_not_nan hm.1, hi]
        simp
        omega
      rw [hgt] at h; cases h
  refine ⟨hf, ?_⟩
  have hf2 : fin (fabs x) = true := by rw [fabs_fin]; exact hf
  rw [fgt_fv hf2 hm.1, fabs_fv, hm.2] at h
  simp only [decide_eq_false_iff_not] at h
  exact Rat.not_lt.1 h
end Go.Av
