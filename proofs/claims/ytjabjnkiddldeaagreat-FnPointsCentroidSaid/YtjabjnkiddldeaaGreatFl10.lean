/- Quotients and square roots of doubles. -/
import Derived.Test.YtjabjnkiddldeaaGreatFl9
import Derived.Test.YtjabjnkiddldeaaGreatFl8
set_option linter.unusedVariables false
set_option linter.unusedSimpArgs false
set_option linter.unusedSectionVars false
namespace Go.Av
open Go
theorem Rnd.toRnq {z : Nat} {v : Rat} (h : Rnd z v) : Rnq z v := by
  have u52 := P2_pos (-52)
  have e51 : P2 (-51) = 2 * P2 (-52) := by
    have : P2 (-51) = P2 1 * P2 (-52) := P2_of (by omega)
    rw [this, show P2 1 = ((2 : Nat) : Rat) from P2_nat 1]; rfl
  have hv := Rat.mul_nonneg (ab_nonneg v) (Rat.le_of_lt u52)
  have h1 := h.e1
  have h2 := h.e2
  exact ⟨h.fin, h.hi, h.lo, by rw [e51]; grind, by rw [e51]; grind⟩
theorem dbits : Ieee.double.fractionBits + 2 = 54 := by decide +kernel
theorem div_rnq {x y : Nat} {V : Rat} (hx : fin x = true) (hy : fin y = true) (h0 : fv y ≠ 0) (hV : V * fv y = fv x) (hb : ab V < P2 1022) : ∃ z, Ieee.double.div x y = some z ∧ Rnq z V := by
  obtain ⟨m, i, r1, _, v1⟩ := read_num hx
  obtain ⟨n, j, r2, _, v2⟩ := read_num hy
  unfold Ieee.Format.div
  rw [r1, r2, dbits]
  have hpi := P2_pos i
  have hpj := P2_pos j
  have hn : n ≠ 0 := by
    intro h
    apply h0
    rw [v2, h]
    have : ((0 : Nat) : Rat) = 0 := rfl
    unfold sg; grind
  have hn0 : (0 : Rat) < (n : Rat) := (natCast_lt (a := 0)).2 (by omega)
  have hnj : 0 < (n : Rat) * P2 j := Rat.mul_pos hn0 hpj
  simp only [Ieee.Datum.quotient]
  rw [if_neg hn]
  simp only [Option.map_some]
  refine ⟨_, rfl, ?_⟩
  show Rnq (Ieee.double.nearest (sgn x ^^ sgn y) _ _) V
  generalize hmore : 54 + n.log2 - m.log2 = more
  have hM : m <<< more = m * 2 ^ more := Nat.shiftLeft_eq _ _
  rw [hM]
  -- the value without its sign
  obtain ⟨W, hW0, hW, hWV⟩ : ∃ W : Rat, 0 ≤ W ∧ W * ((n : Rat) * P2 j) = (m : Rat) * P2 i ∧ V = sg (sgn x ^^ sgn y) W := by
    refine ⟨sg (sgn x ^^ sgn y) V, ?_, ?_, ?_⟩
    · rw [v1, v2] at hV
      have h1 : sg (sgn x ^^ sgn y) V * ((n : Rat) * P2 j) = (m : Rat) * P2 i := by
        unfold sg at hV ⊢
        revert hV
        cases sgn x <;> cases sgn y <;> simp <;> intro h <;> grind
      have h2 : 0 ≤ sg (sgn x ^^ sgn y) V * ((n : Rat) * P2 j) := by rw [h1]; exact mP2_nonneg m i
      apply Rat.not_lt.1
      intro h3
      have := (ratmul_lt hnj).2 h3
      rw [Rat.zero_mul] at this
      exact absurd this (Rat.not_lt.2 h2)
    · rw [v1, v2] at hV
      unfold sg at hV ⊢
      revert hV
      cases sgn x <;> cases sgn y <;> simp <;> intro h <;> grind
    · unfold sg; cases (sgn x ^^ sgn y) <;> simp
  rw [hWV]
  have hbW : W < P2 1022 := by
    rw [hWV, ab_sg _ hW0] at hb; exact hb
  by_cases hm : m = 0
  · subst hm
    have hz : W = 0 := by
      have h1 : W * ((n : Rat) * P2 j) = 0 := by
        rw [hW]
        have : ((0 : Nat) : Rat) = 0 := rfl
        rw [this, Rat.zero_mul]
      rcases Rat.mul_eq_zero.1 h1 with h | h
      · exact h
      · rw [h] at hnj; exact absurd hnj (by decide)
    rw [Nat.zero_mul, Nat.zero_div, Nat.zero_mod]
    have := (nearest_rnd (sgn x ^^ sgn y) 0 (i - j - (more : Int) - 1) (.inl rfl)).1
    have e : ((0 : Nat) : Rat) * P2 (i - j - (more : Int) - 1) = W := by
      have : ((0 : Nat) : Rat) = 0 := rfl
      rw [hz, this, Rat.zero_mul]
    rw [e] at this
    exact this.toRnq
  · have l1 := Nat.log2_self_le hm
    have l2 := Nat.lt_log2_self (n := n)
    have hQ : 9007199254740992 ≤ m * 2 ^ more / n := by
      rw [Nat.le_div_iff_mul_le (by omega)]
      have h1 : 2 ^ (54 + n.log2) ≤ 2 ^ (m.log2 + more) := Nat.pow_le_pow_right (by decide) (by omega)
      have h2 : 2 ^ m.log2 * 2 ^ more ≤ m * 2 ^ more := Nat.mul_le_mul_right _ l1
      rw [← Nat.pow_add] at h2
      have h3 : 9007199254740992 * n ≤ 2 ^ 53 * 2 ^ (n.log2 + 1) := Nat.mul_le_mul (by decide) (by omega)
      rw [← Nat.pow_add, show 53 + (n.log2 + 1) = 54 + n.log2 by omega] at h3
      omega
    generalize hp : i - j - (more : Int) - 1 = p
    have hpp := P2_pos p
    have hW2 : W * (n : Rat) = ((m * 2 ^ more : Nat) : Rat) * (2 * P2 p) := by
      have e1 : P2 i = P2 j * (((2 ^ more : Nat) : Rat) * (2 * P2 p)) := by
        have a1 : P2 i = P2 j * P2 (i - j) := P2_of (by omega)
        have a2 : P2 (i - j) = P2 (more : Int) * P2 (p + 1) := P2_of (by omega)
        have a3 : P2 (p + 1) = P2 1 * P2 p := P2_of (by omega)
        rw [a1, a2, a3, P2_nat, show P2 1 = ((2 : Nat) : Rat) from P2_nat 1]
        rfl
      have h1 : (W * (n : Rat)) * P2 j = (((m * 2 ^ more : Nat) : Rat) * (2 * P2 p)) * P2 j := by
        have : W * ((n : Rat) * P2 j) = (W * (n : Rat)) * P2 j := by grind
        rw [← this, hW, e1, Rat.natCast_mul]; grind
      exact Rat.le_antisymm ((mul_le hpj).1 (by rw [h1]; exact Rat.le_refl)) ((mul_le hpj).1 (by rw [h1]; exact Rat.le_refl))
    generalize hMm : m * 2 ^ more = M at *
    have hdm := Nat.div_add_mod M n
    generalize hQe : M / n = Q at *
    have c2 : ((2 : Nat) : Rat) = 2 := rfl
    have c1 : ((1 : Nat) : Rat) = 1 := rfl
    have low : ((2 * Q : Nat) : Rat) * P2 p * (n : Rat) = ((n * Q : Nat) : Rat) * (2 * P2 p) := by
      rw [Rat.natCast_mul, Rat.natCast_mul, c2]; grind
    have hig : ((2 * Q + 2 : Nat) : Rat) * P2 p * (n : Rat) = ((n * Q + n : Nat) : Rat) * (2 * P2 p) := by
      rw [Rat.natCast_add, Rat.natCast_mul, Rat.natCast_add, Rat.natCast_mul, c2]; grind
    have h2p : 0 < 2 * P2 p := by grind
    have ht : (M % n != 0).toNat = 0 ∧ W = ((2 * Q : Nat) : Rat) * P2 p ∨ (M % n != 0).toNat = 1 ∧ ((2 * Q : Nat) : Rat) * P2 p < W ∧ W < ((2 * Q + 2 : Nat) : Rat) * P2 p := by
      by_cases hr : M % n = 0
      · left
        refine ⟨by rw [hr]; rfl, ?_⟩
        have e : n * Q = M := by omega
        rw [e] at low
        exact Rat.le_antisymm ((mul_le hn0).1 (by rw [low, hW2]; exact Rat.le_refl)) ((mul_le hn0).1 (by rw [low, hW2]; exact Rat.le_refl))
      · right
        have hlt := Nat.mod_lt M (show 0 < n by omega)
        refine ⟨by simp [hr], ?_, ?_⟩
        · apply (ratmul_lt hn0).1
          rw [low, hW2]
          exact (ratmul_lt h2p).2 (natCast_lt.2 (by omega))
        · apply (ratmul_lt hn0).1
          rw [hig, hW2]
          exact (ratmul_lt h2p).2 (natCast_lt.2 (by omega))
    refine sticky _ hQ ht ?_
    have hsm : ((2 * Q + (M % n != 0).toNat : Nat) : Rat) * P2 p < P2 1023 := by
      have e1 : P2 1023 = P2 1022 + P2 1022 := by
        have : P2 1023 = P2 1 * P2 1022 := P2_of (by omega)
        rw [this, show P2 1 = ((2 : Nat) : Rat) from P2_nat 1, c2]; grind
      have h1 : ((2 * Q : Nat) : Rat) * P2 p ≤ W := by
        rcases ht with ⟨_, e⟩ | ⟨_, e, _⟩ <;> grind
      have h2 : ((2 * Q + (M % n != 0).toNat : Nat) : Rat) * P2 p ≤ ((2 * Q + 2 * Q : Nat) : Rat) * P2 p := (mul_le hpp).2 (natCast_le.2 (by have := Bool.toNat_le (M % n != 0); omega))
      rw [Rat.natCast_add] at h2
      grind
    exact (log_small hsm).resolve_left (by omega)
end Go.Av
