/- What 'math.Ldexp' gives where nothing is too great or too small. -/
import Derived.Test.YtlbbldhbggfoaaaU9
import Derived.Test.YtlbbldhbggfoaaaPv1
import Derived.Test.YtlbbldhbggfoaaaFl15
set_option linter.unusedVariables false
set_option linter.unusedSectionVars false
set_option linter.unusedSimpArgs false
namespace Go.Proofs.Ytlbbldhbggfoaaa.PvLdexpU9
open Go.Av Go
open Go.Proofs.Ytlbbldhbggfoaaa.U9
theorem abs_def {N x : Nat} : math_Abs N x = some (fabs x) := by
  simp only [math_Abs, math_Abs_g, math_Float64bits, math_Float64frombits, Option.bind_some, abs_bits, Int.toNat_natCast, fabs]
theorem rlt_le {a b c : Rat} (h : a < b) (h2 : b ≤ c) : a < c := by grind
/-- A normal double by its parts. -/
theorem norm_fv {B f : Nat} (h1 : 1 ≤ B) (h2 : B ≤ 2046) (hf : f < 4503599627370496) :
    fin (B * 4503599627370496 + f) = true ∧ sgn (B * 4503599627370496 + f) = false ∧ fv (B * 4503599627370496 + f) = ((4503599627370496 + f : Nat) : Rat) * P2 ((B : Int) - 1075) := by
  have hr : rung (B * 4503599627370496 + f) = B * 4503599627370496 + f := by unfold rung; omega
  have hs : sgn (B * 4503599627370496 + f) = false := by unfold sgn; simp; omega
  refine ⟨by unfold fin; rw [hr]; simp; omega, hs, ?_⟩
  rw [fv_eq, hs, hr]
  have e : B * 4503599627370496 + f = (B - 1) * 4503599627370496 + (4503599627370496 + f) := by omega
  rw [e, val_rung _ _ (by omega) (.inr (by omega))]
  show (((4503599627370496 + f) * 2 ^ (B - 1) : Nat) : Rat) * P2 (-1074) = _
  rw [Rat.natCast_mul, ← P2_nat, Rat.mul_assoc, ← P2_add]
  congr 2
  omega
theorem parts {v : Nat} (h64 : v < 18446744073709551616) (hf : fin v = true) (lo : P2 52 ≤ fv v) (hi : fv v ≤ P2 53) :
    ∃ B f, v = B * 4503599627370496 + f ∧ f < 4503599627370496 ∧ 1075 ≤ B ∧ B ≤ 1076 := by
  have hpos : 0 < fv v := rlt_le (P2_pos _) lo
  have hs : sgn v = false := by
    cases h : sgn v with
    | false => rfl
    | true =>
      exfalso
      rw [fv_eq, h] at hpos
      have : (0 : Rat) ≤ (val (rung v) : Rat) * P2 (-1074) := Rat.mul_nonneg (natCast_nonneg _) (Rat.le_of_lt (P2_pos _))
      unfold sg at hpos
      simp only [if_true] at hpos
      grind
  have h63 : v < 9223372036854775808 := by unfold sgn at hs; simp at hs; omega
  have hlt : v < 9218868437227405312 := by unfold fin rung at hf; simp at hf; omega
  have hr : rung v = v := by unfold rung; omega
  have hv : v = v / 4503599627370496 * 4503599627370496 + v % 4503599627370496 := by omega
  have hm : v % 4503599627370496 < 4503599627370496 := Nat.mod_lt _ (by decide)
  refine ⟨v / 4503599627370496, v % 4503599627370496, hv, hm, ?_, ?_⟩
  · refine Nat.le_of_not_lt fun h => ?_
    by_cases h1 : 1 ≤ v / 4503599627370496
    · obtain ⟨_, _, e⟩ := norm_fv h1 (by omega) hm
      rw [← hv] at e
      have l1 : ((4503599627370496 + v % 4503599627370496 : Nat) : Rat) < P2 53 := by
        rw [show (53 : Int) = ((53 : Nat) : Int) from rfl, P2_nat]
        exact natCast_lt.2 (by omega)
      have l2 := (ratmul_lt (P2_pos ((v / 4503599627370496 : Nat) - 1075 : Int))).2 l1
      rw [← P2_add] at l2
      have l3 : P2 (53 + ((v / 4503599627370496 : Nat) - 1075 : Int)) ≤ P2 52 := P2_le (by omega)
      rw [← e] at l2
      grind
    · have hvs : v < 4503599627370496 := by omega
      have e : fv v = (v : Rat) * P2 (-1074) := by
        rw [fv_eq, hs, hr]
        unfold val
        rw [if_pos hvs]
        rfl
      have l1 : (v : Rat) < P2 52 := by
        rw [show (52 : Int) = ((52 : Nat) : Int) from rfl, P2_nat]
        exact natCast_lt.2 (by omega)
      have l2 := (ratmul_lt (P2_pos (-1074))).2 l1
      rw [← P2_add, ← e] at l2
      have l3 : P2 (52 + -1074) ≤ P2 52 := P2_le (by decide)
      grind
  · refine Nat.le_of_not_lt fun h => ?_
    obtain ⟨_, _, e⟩ := norm_fv (B := v / 4503599627370496) (by omega) (by omega) hm
    rw [← hv] at e
    have l1 : P2 52 ≤ ((4503599627370496 + v % 4503599627370496 : Nat) : Rat) := by
      rw [show (52 : Int) = ((52 : Nat) : Int) from rfl, P2_nat]
      exact Rat.not_lt.1 fun h => by have := natCast_lt.1 h; omega
    have l2 := Rat.mul_le_mul_of_nonneg_right l1 (Rat.le_of_lt (P2_pos ((v / 4503599627370496 : Nat) - 1075 : Int)))
    rw [← P2_add, ← e] at l2
    have l3 : P2 53 < P2 (52 + ((v / 4503599627370496 : Nat) - 1075 : Int)) := P2_lt_iff.2 (by omega)
    grind
theorem and_2047 {B : Nat} (h : B < 2048) : bits .and .i64 (B : Int) 2047 = (B : Int) := by
  unfold bits
  have e : (BitVec.ofInt IntKind.i64.bits (B : Int) &&& BitVec.ofInt IntKind.i64.bits 2047).toNat = B := by
    show (BitVec.ofInt 64 (B : Int) &&& BitVec.ofInt 64 2047).toNat = _
    rw [BitVec.toNat_and, show (BitVec.ofInt 64 2047 : BitVec 64).toNat = 2 ^ 11 - 1 from by decide, Nat.and_two_pow_sub_one_eq_mod, BitVec.toNat_ofInt]
    omega
  simp only [e]
  exact wrap_in (by omega)
theorem low_52 {v : Nat} (h : v < 9223372036854775808) : bits .andNot .u64 (v : Int) 9218868437227405312 = ((v % 4503599627370496 : Nat) : Int) := by
  unfold bits
  have e : (BitVec.ofInt IntKind.u64.bits (v : Int) &&& ~~~ BitVec.ofInt IntKind.u64.bits 9218868437227405312).toNat = v % 4503599627370496 := by
    show (BitVec.ofInt 64 (v : Int) &&& ~~~ BitVec.ofInt 64 9218868437227405312).toNat = _
    rw [BitVec.toNat_and, show (~~~ BitVec.ofInt 64 9218868437227405312 : BitVec 64).toNat = 2 ^ 63 ||| (2 ^ 52 - 1) from by decide +kernel, Nat.and_or_distrib_left, Nat.and_two_pow_sub_one_eq_mod]
    have e1 : (BitVec.ofInt 64 (v : Int)).toNat = v := by rw [BitVec.toNat_ofInt]; omega
    have e2 : v &&& 2 ^ 63 = 0 := by
      refine Nat.eq_of_testBit_eq fun i => ?_
      rw [Nat.testBit_and, Nat.testBit_two_pow, Nat.zero_testBit]
      by_cases hi : 63 = i
      · subst hi; rw [Nat.testBit_lt_two_pow (by omega)]; rfl
      · simp [hi]
    rw [e1, e2]
    simp
  simp only [e]
  have : v % 4503599627370496 < 4503599627370496 := Nat.mod_lt _ (by decide)
  simp [IntKind.wrap, IntKind.bits, IntKind.signed]
  omega
theorem or_52 {f K : Nat} (hf : f < 4503599627370496) (hK : K < 2048) : bits .or .u64 (f : Int) ((K * 4503599627370496 : Nat) : Int) = ((K * 4503599627370496 + f : Nat) : Int) := by
  unfold bits
  have e : (BitVec.ofInt IntKind.u64.bits (f : Int) ||| BitVec.ofInt IntKind.u64.bits ((K * 4503599627370496 : Nat) : Int)).toNat = K * 4503599627370496 + f := by
    show (BitVec.ofInt 64 (f : Int) ||| BitVec.ofInt 64 ((K * 4503599627370496 : Nat) : Int)).toNat = _
    have e1 : (BitVec.ofInt 64 (f : Int)).toNat = f := by rw [BitVec.toNat_ofInt]; omega
    have e2 : (BitVec.ofInt 64 ((K * 4503599627370496 : Nat) : Int)).toNat = 2 ^ 52 * K := by rw [BitVec.toNat_ofInt]; omega
    rw [BitVec.toNat_or, e1, e2, Nat.or_comm, ← Nat.two_pow_add_eq_or_of_lt (by omega)]
    omega
  simp only [e]
  simp [IntKind.wrap, IntKind.bits, IntKind.signed]
  omega
theorem big_1000 : P2 53 ≤ fv 9218868437227405311 := by
  have h2 := (norm_fv (B := 2046) (f := 4503599627370495) (by decide) (by decide) (by decide)).2.2
  have e : 2046 * 4503599627370496 + 4503599627370495 = 9218868437227405311 := by decide
  rw [e] at h2
  rw [h2, show ((2046 : Nat) : Int) - 1075 = 971 by decide]
  have h3 : P2 53 ≤ P2 971 := P2_le (by decide)
  have h4 : (1 : Rat) ≤ ((4503599627370496 + 4503599627370495 : Nat) : Rat) := by decide +kernel
  have h5 := Rat.mul_le_mul_of_nonneg_right h4 (Rat.le_of_lt (P2_pos 971))
  rw [Rat.one_mul] at h5
  exact Rat.le_trans h3 h5
theorem exp_is {B f : Nat} {e : Int} (b1 : 1075 ≤ B) (b2 : B ≤ 1076) (hf2 : f < 4503599627370496) (he : -1070 ≤ e ∧ e ≤ 900) :
    IntKind.i64.wrap (IntKind.i64.wrap (e + 0) + IntKind.i64.wrap (bits .and .i64 (IntKind.i64.wrap (Int.fdiv ((B * 4503599627370496 + f : Nat) : Int) (2 ^ (min (52 : Int).toNat (IntKind.bits .u64))))) 2047 - 1023)) = e + B - 1023 := by
  have hfd : Int.fdiv ((B * 4503599627370496 + f : Nat) : Int) (2 ^ (min (52 : Int).toNat (IntKind.bits .u64))) = (B : Int) := by
    show Int.fdiv ((B * 4503599627370496 + f : Nat) : Int) 4503599627370496 = _
    rw [Int.fdiv_eq_ediv_of_nonneg _ (by decide)]
    omega
  rw [hfd, wrap_in (n := (B : Int)) (by omega), and_2047 (by omega), wrap_in (n := e + 0) (by omega), wrap_in (n := (B : Int) - 1023) (by omega), wrap_in (by omega)]
  omega
theorem bits_is {B f K : Nat} {e : Int} (b1 : 1075 ≤ B) (b2 : B ≤ 1076) (hf2 : f < 4503599627370496) (he : -1070 ≤ e ∧ e ≤ 900) (hK : (K : Int) = B + e) :
    bits .or .u64 (bits .andNot .u64 ((B * 4503599627370496 + f : Nat) : Int) 9218868437227405312) (IntKind.u64.wrap (IntKind.u64.wrap (IntKind.i64.wrap (e + B - 1023 + 1023)) * 2 ^ (min (52 : Int).toNat (IntKind.bits .u64)))) = ((K * 4503599627370496 + f : Nat) : Int) := by
  have h63 : B * 4503599627370496 + f < 9223372036854775808 := by omega
  rw [low_52 h63, wrap_in (n := e + B - 1023 + 1023) (by omega)]
  have w1 : IntKind.u64.wrap (e + B - 1023 + 1023) = (K : Int) := by simp [IntKind.wrap, IntKind.bits, IntKind.signed]; omega
  rw [w1]
  have w2 : IntKind.u64.wrap ((K : Int) * 2 ^ (min (52 : Int).toNat (IntKind.bits .u64))) = ((K * 4503599627370496 : Nat) : Int) := by
    show IntKind.u64.wrap ((K : Int) * 4503599627370496) = _
    simp [IntKind.wrap, IntKind.bits, IntKind.signed]; omega
  rw [w2, show (B * 4503599627370496 + f) % 4503599627370496 = f by omega, or_52 hf2 (by omega)]
theorem fv_min : fv 4503599627370496 = P2 (-1022) := by
  have := (norm_fv (B := 1) (f := 0) (by decide) (by decide) (by decide)).2.2
  rw [show 1 * 4503599627370496 + 0 = 4503599627370496 by decide] at this
  rw [this, show ((4503599627370496 + 0 : Nat) : Rat) = ((2 ^ 52 : Nat) : Rat) by decide +kernel, ← P2_nat, ← P2_add]
  rfl
theorem norm_is {N v : Nat} (hf : fin v = true) (lo : P2 52 ≤ fv v) : math_normalize N v = some (v, 0) := by
  have hpos : 0 < fv v := rlt_le (P2_pos _) lo
  simp only [math_normalize, math_normalize_g, abs_def, Option.bind_some]
  have : flt (fabs v) 4503599627370496 = false := by
    rw [flt_fv (by rw [fabs_fin]; exact hf) (show fin 4503599627370496 = true by decide +kernel), fabs_fv, ab_of_nonneg (Rat.le_of_lt hpos), fv_min]
    simp only [decide_eq_false_iff_not]
    exact Rat.not_lt.2 (Rat.le_trans (P2_le (by decide)) lo)
  rw [this, cond_false]
section
variable {N : Nat} (hN : 0 < N)
include hN
theorem ldexp {v : Nat} {e : Int} (h64 : v < 18446744073709551616) (hf : fin v = true) (lo : P2 52 ≤ fv v) (hi : fv v ≤ P2 53) (he : -1070 ≤ e ∧ e ≤ 900) :
    ∃ x, math_Ldexp N v e = some x ∧ fin x = true ∧ fv x = fv v * P2 e ∧ x < 18446744073709551616 := by
  obtain ⟨B, f, rfl, hf2, b1, b2⟩ := parts h64 hf lo hi
  obtain ⟨_, hs, hfv⟩ := norm_fv (B := B) (f := f) (by omega) (by omega) hf2
  have h63 : B * 4503599627370496 + f < 9223372036854775808 := by omega
  obtain ⟨K, hK⟩ : ∃ K : Nat, (K : Int) = B + e := ⟨((B : Int) + e).toNat, by omega⟩
  obtain ⟨gf, gs, gv⟩ := norm_fv (B := K) (f := f) (by omega) (by omega) hf2
  have hpos : 0 < fv (B * 4503599627370496 + f) := rlt_le (P2_pos _) lo
  have hnan : isnan (B * 4503599627370496 + f) = false := fin_not_nan hf
  have k1 : feq (B * 4503599627370496 + f) 0 = false := by
    rw [feq_fv hf wh_zero.1, wh_zero.2]
    simp only [decide_eq_false_iff_not]
    intro h
    rw [h] at hpos
    exact absurd hpos (by decide +kernel)
  have k2 : math_IsInf N (B * 4503599627370496 + f) 0 = some false := by
    simp only [math_IsInf, math_IsInf_g, math_IsInf_j0, math_IsInf_g0, gate_pos hN, abs_def, Option.bind_some]
    show some (fgt _ _) = _
    rw [fgt_fv (by rw [fabs_fin]; exact hf) (show fin 9218868437227405311 = true by decide +kernel), fabs_fv, ab_of_nonneg (Rat.le_of_lt hpos)]
    congr 1
    simp only [decide_eq_false_iff_not]
    exact Rat.not_lt.2 (Rat.le_trans hi big_1000)
  have k3 : math_IsNaN N (B * 4503599627370496 + f) = some false := by
    simp only [math_IsNaN, math_IsNaN_g]
    rw [fne_not, feq_self, hnan]
    rfl
  have k4 : math_normalize N (B * 4503599627370496 + f) = some (B * 4503599627370496 + f, 0) := by
    generalize B * 4503599627370496 + f = v at hf hpos lo
    exact norm_is hf lo
  have hE := exp_is (e := e) (f := f) b1 b2 hf2 he
  have hbits := bits_is (e := e) b1 b2 hf2 he hK
  have hval : fv (K * 4503599627370496 + f) = fv (B * 4503599627370496 + f) * P2 e := by
    rw [gv, hfv, Rat.mul_assoc, ← P2_add]
    congr 2
    omega
  have hrep : Rep (fv (K * 4503599627370496 + f)) := fin_rep gf
  have hbd : ab (fv (K * 4503599627370496 + f)) < P2 1023 := by
    rw [gv, ab_of_nonneg (Rat.mul_nonneg (natCast_nonneg _) (Rat.le_of_lt (P2_pos _)))]
    have l1 : ((4503599627370496 + f : Nat) : Rat) < P2 53 := by
      rw [show (53 : Int) = ((53 : Nat) : Int) from rfl, P2_nat]
      exact natCast_lt.2 (by omega)
    have l2 := (ratmul_lt (P2_pos ((K : Int) - 1075))).2 l1
    rw [← P2_add] at l2
    exact rlt_le l2 (P2_le (by omega))
  have o1 : fv 4607182418800017408 = 1 := one_wh.2
  obtain ⟨x, ex, hx⟩ := mul_rnd one_wh.1 gf (by rw [o1, Rat.one_mul]; exact hbd)
  rw [o1, Rat.one_mul] at hx
  have hx1 : fv x = fv (K * 4503599627370496 + f) := hx.exact hrep
  refine ⟨x, ?_, hx.fin, by rw [hx1, hval], mul_lt ex⟩
  simp only [math_Ldexp, math_Ldexp_g, math_ldexp, math_ldexp_g, k1, cond_false, k2, k3, k4, Option.bind_some, math_Float64bits, hE, math_ldexp_j0, math_ldexp_g0, gate_pos hN, hbits, math_Float64frombits, Int.toNat_natCast, ex]
  have c1 : decide (e + (B : Int) - 1023 < -1075) = false := by simp; omega
  have c2 : decide (e + (B : Int) - 1023 > 1023) = false := by simp; omega
  have c3 : decide (e + (B : Int) - 1023 < -1022) = false := by simp; omega
  simp only [c1, c2, c3, cond_false, Option.bind_some]
end
end Go.Proofs.Ytlbbldhbggfoaaa.PvLdexpU9
