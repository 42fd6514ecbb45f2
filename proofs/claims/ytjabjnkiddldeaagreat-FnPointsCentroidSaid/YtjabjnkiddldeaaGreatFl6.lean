/- Cutting, conversions, the opposite: on finite doubles, as rational numbers. -/
import Derived.Test.YtjabjnkiddldeaaGreatFl5
set_option linter.unusedVariables false
set_option linter.unusedSimpArgs false
namespace Go.Av
open Go
theorem cut_zero (s : Bool) (n d : Nat) : Ieee.Toward.zero.cut s n d = n / 2 ^ d := by
  unfold Ieee.Toward.cut
  simp only [Nat.one_shiftLeft, Bool.toNat_false, Nat.add_zero]
  rcases Nat.le_total d (n.log2 + 2) with h | h
  · rw [Nat.min_eq_left h]
  · rw [Nat.min_eq_right h]
    have h1 : n < 2 ^ (n.log2 + 1) := Nat.lt_log2_self
    have h2 : 2 ^ (n.log2 + 2) ≤ 2 ^ d := Nat.pow_le_pow_right (by decide) h
    have h3 : 2 ^ (n.log2 + 2) = 2 * 2 ^ (n.log2 + 1) := by rw [Nat.pow_succ, Nat.mul_comm]
    rw [Nat.div_eq_of_lt (show n < 2 ^ d by omega), Nat.div_eq_of_lt (show n < 2 ^ (n.log2 + 2) by omega)]
/-- The whole part of m * 2 ^ i. -/
theorem trunc_part (m : Nat) (i : Int) : (((m <<< i.toNat) / 2 ^ (-i).toNat : Nat) : Rat) ≤ (m : Rat) * P2 i ∧ (m : Rat) * P2 i < (((m <<< i.toNat) / 2 ^ (-i).toNat : Nat) : Rat) + 1 := by
  rw [Nat.shiftLeft_eq]
  rcases Int.le_total 0 i with h | h
  · have e : (-i).toNat = 0 := by omega
    rw [e, Nat.pow_zero, Nat.div_one, Rat.natCast_mul, ← P2_nat, show ((i.toNat : Nat) : Int) = i by omega]
    refine ⟨Rat.le_refl, by grind⟩
  · have e : i.toNat = 0 := by omega
    rw [e, Nat.pow_zero, Nat.mul_one]
    generalize hd : (-i).toNat = d
    have hi : P2 i * ((2 ^ d : Nat) : Rat) = 1 := by rw [← P2_nat, ← P2_add, show i + (d : Int) = 0 by omega, P2_zero]
    have hdm := Nat.div_add_mod m (2 ^ d)
    have hml := Nat.mod_lt m (Nat.two_pow_pos d)
    have c : (m : Rat) = ((m / 2 ^ d : Nat) : Rat) * ((2 ^ d : Nat) : Rat) + ((m % 2 ^ d : Nat) : Rat) := by
      rw [← Rat.natCast_mul, ← Rat.natCast_add, Nat.mul_comm, hdm]
    have h1 := natCast_nonneg (m % 2 ^ d)
    have h2 : ((m % 2 ^ d : Nat) : Rat) < ((2 ^ d : Nat) : Rat) := by exact_mod_cast hml
    have hp := P2_pos i
    have h3 := (mul_le hp).2 h1
    have h4 : ((m % 2 ^ d : Nat) : Rat) * P2 i < ((2 ^ d : Nat) : Rat) * P2 i := Rat.mul_lt_mul_of_pos_right h2 hp
    have e2 : (m : Rat) * P2 i = ((m / 2 ^ d : Nat) : Rat) + ((m % 2 ^ d : Nat) : Rat) * P2 i := by
      rw [c, Rat.add_mul, Rat.mul_assoc, Rat.mul_comm _ (P2 i), hi, Rat.mul_one]
    rw [e2]
    rw [Rat.mul_comm ((2 ^ d : Nat) : Rat) (P2 i), hi] at h4
    constructor <;> grind
theorem nat_inj {a b : Nat} : (a : Rat) = (b : Rat) ↔ a = b := by exact_mod_cast Iff.rfl
theorem nat_lt {a b : Nat} : (a : Rat) < (b : Rat) ↔ a < b := by exact_mod_cast Iff.rfl
theorem part_eq {a n : Nat} {v : Rat} (h1 : (a : Rat) ≤ v) (h2 : v < (a : Rat) + 1) (e : v = (n : Rat)) : a = n := by
  rw [e] at h1 h2
  have h3 := natCast_le.1 h1
  have h4 : (n : Rat) < ((a + 1 : Nat) : Rat) := by rw [Rat.natCast_add]; exact h2
  have h5 := nat_lt.1 h4
  omega
theorem sg_whole {s : Bool} {v : Rat} {n : Int} (hv : 0 ≤ v) (e : sg s v = (n : Rat)) : v = ((n.natAbs : Nat) : Rat) ∧ (n ≠ 0 → s = decide (n < 0)) := by
  have h := ab_int n
  rw [← e, ab_sg s hv] at h
  refine ⟨h, fun hn => ?_⟩
  unfold sg at e
  cases s
  · simp only [Bool.false_eq_true, if_false] at e
    rw [e] at hv
    have : (0 : Int) ≤ n := intCast_le.1 hv
    symm; apply decide_eq_false; omega
  · simp only [if_true] at e
    have : (n : Rat) ≤ ((0 : Int) : Rat) := by
      have : ((0 : Int) : Rat) = 0 := rfl
      grind
    have := intCast_le.1 this
    symm; apply decide_eq_true; omega
/-- A whole double, made an integer. -/
theorem f2i_wh {x : Nat} {n : Int} (hx : Wh x n) (h : -9223372036854775808 ≤ n ∧ n ≤ 9223372036854775807) : floatToIntVal .f64 x .i64 = some n := by
  obtain ⟨m, i, r, _, v⟩ := read_num hx.1
  have hs := sg_whole (mP2_nonneg m i) (v.symm.trans hx.2)
  have ht := trunc_part m i
  have hp := part_eq ht.1 ht.2 hs.1
  unfold floatToIntVal
  have e : (FloatKind.f64.decode x).toInt .zero = some n := by
    show (Ieee.double.read x).toInt .zero = some n
    rw [r]
    simp only [Ieee.Datum.toInt, Ieee.Datum.integral, cut_zero, hp, Option.some.injEq]
    rw [signed_eq, Nat.pow_zero, Nat.mul_one]
    by_cases hn : n = 0
    · subst hn; simp
    · rw [hs.2 hn]
      by_cases h' : n < 0
      · rw [decide_eq_true h', if_pos rfl]; omega
      · rw [decide_eq_false h', if_neg (by decide)]; omega
  rw [e]
  have e1 : IntKind.i64.min = -9223372036854775808 := by decide
  have e2 : IntKind.i64.max = 9223372036854775807 := by decide
  simp only [e1, e2]
  rw [if_pos h]
/-- An integer, made a double. -/
theorem i2f_rnd (n : Int) (h : n.natAbs ≤ 2 ^ 250) : Rnd (i2f n) (n : Rat) := by
  show Rnd (Ieee.double.nearest (decide (n < 0)) n.natAbs 0) _
  refine nearest_of ?_ (ab_int_lt h)
  rw [P2_zero, Rat.mul_one]
  exact int_sg n _ (fun _ => rfl)
theorem i2f_wh (n : Int) (h : n.natAbs ≤ 9007199254740992) : Wh (i2f n) n := (i2f_rnd n (le53 h)).whole h
/-- Cut to a whole number. -/
theorem trunc_fv {x y : Nat} (hx : fin x = true) (h : fwhole .zero x = some y) (hb : ab (fv x) ≤ 9007199254740992) : ∃ n : Int, Wh y n ∧ n.natAbs ≤ 9007199254740992 ∧ ab (n : Rat) ≤ ab (fv x) ∧ ab (fv x) < ab (n : Rat) + 1 := by
  obtain ⟨m, i, r, _, v⟩ := read_num hx
  unfold fwhole at h
  rw [r] at h
  simp only [Ieee.Datum.integral, cut_zero, Option.some.injEq] at h
  have ht := trunc_part m i
  generalize hk : (m <<< i.toNat) / 2 ^ (-i).toNat = k at h ht
  rw [v, ab_sg _ (mP2_nonneg m i)] at hb ⊢
  have hk2 : k ≤ 9007199254740992 := natCast_le.1 (show (k : Rat) ≤ ((9007199254740992 : Nat) : Rat) by
    have : ((9007199254740992 : Nat) : Rat) = 9007199254740992 := rfl
    rw [this]; grind)
  have hn : ∃ n : Int, sg (sgn x) (k : Rat) = (n : Rat) ∧ n.natAbs = k := by
    cases sgn x
    · exact ⟨(k : Int), rfl, by omega⟩
    · refine ⟨-(k : Int), ?_, by omega⟩
      rw [Rat.intCast_neg]; rfl
  obtain ⟨n, e, hnk⟩ := hn
  refine ⟨n, ?_, by omega, ?_, ?_⟩
  · subst h
    refine (nearest_of (v := (n : Rat)) ?_ (ab_int_lt (le53 (by omega)))).whole (by omega)
    rw [P2_zero, Rat.mul_one]; exact e
  · rw [ab_int, hnk]; exact ht.1
  · rw [ab_int, hnk]; exact ht.2
theorem ab_le {v b : Rat} (h1 : v ≤ b) (h2 : -b ≤ v) : ab v ≤ b := by unfold ab; grind
/-- A number within bounds that is its own whole part. -/
theorem wh_of_trunc {x y : Nat} {b : Int} (hx : fin x = true) (h : fwhole .zero x = some y) (e : feq x y = true) (h1 : fv x ≤ (b : Rat)) (h2 : -(b : Rat) ≤ fv x) (hb : b ≤ 9007199254740992) : ∃ n : Int, Wh x n ∧ -b ≤ n ∧ n ≤ b := by
  have hb' : (b : Rat) ≤ ((9007199254740992 : Int) : Rat) := intCast_le.2 hb
  have c : ((9007199254740992 : Int) : Rat) = 9007199254740992 := rfl
  obtain ⟨n, hy, _, _, _⟩ := trunc_fv hx h (ab_le (by grind) (by grind))
  rw [feq_fv hx hy.1, hy.2] at e
  have e := of_decide_eq_true e
  refine ⟨n, ⟨hx, e⟩, ?_, ?_⟩
  · have : ((-b : Int) : Rat) ≤ (n : Rat) := by rw [Rat.intCast_neg, ← e]; exact h2
    exact intCast_le.1 this
  · exact intCast_le.1 (by rw [← e]; exact h1)
/-! ### the opposite -/
theorem fneg_parts (x : Nat) : rung (fneg x) = rung x ∧ sgn (fneg x) = !(sgn x) := by
  have e : fneg x = x ^^^ 2 ^ 63 := rfl
  have h1 : rung (fneg x) = rung x := by
    unfold rung
    apply Nat.eq_of_testBit_eq
    intro i
    rw [show (9223372036854775808 : Nat) = 2 ^ 63 from rfl, Nat.testBit_mod_two_pow, Nat.testBit_mod_two_pow, e, Nat.testBit_xor, Nat.testBit_two_pow]
    by_cases hi : i < 63
    · rw [decide_eq_true hi, decide_eq_false (by omega)]; simp
    · rw [decide_eq_false hi]; rfl
  refine ⟨h1, ?_⟩
  have hb : ∀ y : Nat, sgn y = y.testBit 63 := by
    intro y
    rw [Nat.testBit_eq_decide_div_mod_eq]
    unfold sgn
    rw [show (9223372036854775808 : Nat) = 2 ^ 63 from rfl]
    generalize y / 2 ^ 63 % 2 = t
    by_cases h : t = 1
    · subst h; rfl
    · rw [decide_eq_false h]; simp [h]
  rw [hb, hb, e, Nat.testBit_xor, Nat.testBit_two_pow]
  simp
theorem fneg_fin {x : Nat} : fin (fneg x) = fin x := by unfold fin; rw [(fneg_parts x).1]
theorem fneg_nan {x : Nat} : isnan (fneg x) = isnan x := by unfold isnan; rw [(fneg_parts x).1]
theorem fneg_fv (x : Nat) : fv (fneg x) = - fv x := by
  rw [fv_eq, fv_eq x, (fneg_parts x).1, (fneg_parts x).2, sg_not]
theorem fneg_wh {x : Nat} {n : Int} (h : Wh x n) : Wh (fneg x) (-n) := ⟨by rw [fneg_fin]; exact h.1, by rw [fneg_fv, h.2, Rat.intCast_neg]⟩
theorem wh_zero : Wh 0 0 := by
  refine ⟨by decide, ?_⟩
  rw [fv_eq]
  have : rung 0 = 0 := rfl
  rw [this, val_zero]
  have : sgn 0 = false := rfl
  rw [this]
  have z : ((0 : Nat) : Rat) = 0 := rfl
  have z2 : ((0 : Int) : Rat) = 0 := rfl
  unfold sg; grind
theorem wh_inj {x : Nat} {m n : Int} (h : Wh x m) (h' : Wh x n) : m = n := intCast_eq.1 (h.2.symm.trans h'.2)
end Go.Av
