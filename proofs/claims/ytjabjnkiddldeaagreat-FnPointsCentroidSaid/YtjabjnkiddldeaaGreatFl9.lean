/- Division and square roots, rounded: a digit that stands for what is left over. -/
import Derived.Test.YtjabjnkiddldeaaGreatFl7
set_option linter.unusedVariables false
set_option linter.unusedSimpArgs false
set_option linter.unusedSectionVars false
namespace Go.Av
open Go
/-- z is v, rounded (a wider bound on the error than Rnd's). -/
structure Rnq (z : Nat) (v : Rat) : Prop where
  fin : fin z = true
  hi : ∀ r, Rep r → v ≤ r → fv z ≤ r
  lo : ∀ r, Rep r → r ≤ v → r ≤ fv z
  e1 : fv z - v ≤ ab v * P2 (-51) + P2 (-1074)
  e2 : v - fv z ≤ ab v * P2 (-51) + P2 (-1074)
theorem Rnq.exact {z : Nat} {v : Rat} (h : Rnq z v) (hr : Rep v) : fv z = v := Rat.le_antisymm (h.hi v hr Rat.le_refl) (h.lo v hr Rat.le_refl)
theorem ratmul_lt {a b c : Rat} (hc : 0 < c) : a * c < b * c ↔ a < b := by
  constructor
  · intro h
    apply Rat.not_le.1
    intro h'
    exact absurd h (Rat.not_lt.2 ((mul_le hc).2 h'))
  · intro h
    apply Rat.not_le.1
    intro h'
    exact absurd h (Rat.not_lt.2 ((mul_le hc).1 h'))
theorem natCast_lt {a b : Nat} : (a : Rat) < (b : Rat) ↔ a < b := by exact_mod_cast Iff.rfl
/-- No representable number lies strictly between two neighbours of enough digits but where they meet. -/
theorem rep_gap {Q : Nat} {p : Int} (hQ : 9007199254740992 ≤ Q) {r : Rat} (hr : Rep r) (h1 : ((2 * Q : Nat) : Rat) * P2 p < r) (h2 : r < ((2 * Q + 2 : Nat) : Rat) * P2 p) : False := by
  obtain ⟨k, q, hk, hq, rfl⟩ := hr
  have hp := P2_pos p
  have hpq := P2_pos q
  have hkpos : 0 < k := by
    rcases Int.lt_or_le 0 k with h | h
    · exact h
    · have h0 : (k : Rat) ≤ 0 := by
        have : ((0 : Int) : Rat) = 0 := rfl
        rw [← this]; exact intCast_le.2 h
      have h3 : (k : Rat) * P2 q ≤ 0 * P2 q := (mul_le hpq).2 h0
      rw [Rat.zero_mul] at h3
      have h4 := Rat.mul_nonneg (natCast_nonneg (2 * Q)) (Rat.le_of_lt hp)
      exact absurd h1 (Rat.not_lt.2 (by grind))
  have hle : p + 2 ≤ q := by
    rcases Int.lt_or_le (p + 1) q with h | h
    · omega
    · have h3 : P2 q ≤ P2 (p + 1) := P2_le h
      have h4 : (k : Rat) * P2 q ≤ ((9007199254740992 : Nat) : Rat) * P2 (p + 1) := by
        have a1 : (k : Rat) ≤ ((9007199254740992 : Nat) : Rat) := by
          have : (k : Rat) ≤ (((9007199254740992 : Int)) : Rat) := intCast_le.2 (by omega)
          exact this
        have a2 := (mul_le hpq).2 a1
        have a3 : P2 q * ((9007199254740992 : Nat) : Rat) ≤ P2 (p + 1) * ((9007199254740992 : Nat) : Rat) := (mul_le (show (0 : Rat) < ((9007199254740992 : Nat) : Rat) from (natCast_lt (a := 0) (b := 9007199254740992)).2 (by decide))).2 h3
        grind
      have h5 : ((9007199254740992 : Nat) : Rat) * P2 (p + 1) = ((2 * 9007199254740992 : Nat) : Rat) * P2 p := by
        have : P2 (p + 1) = P2 1 * P2 p := P2_of (by omega)
        rw [this, show P2 1 = ((2 : Nat) : Rat) from P2_nat 1, Rat.natCast_mul]
        grind
      have h6 : ((2 * 9007199254740992 : Nat) : Rat) * P2 p ≤ ((2 * Q : Nat) : Rat) * P2 p := (mul_le hp).2 (natCast_le.2 (by omega))
      exact absurd h1 (Rat.not_lt.2 (by grind))
  have hd : P2 q = ((2 ^ (q - p - 2).toNat : Nat) : Rat) * (4 * P2 p) := by
    have e1 : P2 q = P2 (q - p - 2) * P2 (p + 2) := P2_of (by omega)
    have e2 : P2 (p + 2) = P2 2 * P2 p := P2_of (by omega)
    have e3 : P2 (q - p - 2) = ((2 ^ (q - p - 2).toNat : Nat) : Rat) := by rw [← P2_nat]; congr 1; omega
    have e4 : P2 2 = 4 := by
      have : P2 2 = ((2 ^ 2 : Nat) : Rat) := P2_nat 2
      rw [this]; rfl
    rw [e1, e2, e3, e4]
  obtain ⟨K, rfl⟩ := Int.eq_ofNat_of_zero_le (Int.le_of_lt hkpos)
  have hval : (((K : Nat) : Int) : Rat) * P2 q = ((4 * (K * 2 ^ (q - p - 2).toNat) : Nat) : Rat) * P2 p := by
    rw [hd, Rat.natCast_mul, Rat.natCast_mul]
    have : (((K : Nat) : Int) : Rat) = ((K : Nat) : Rat) := rfl
    rw [this]
    have : ((4 : Nat) : Rat) = 4 := rfl
    rw [this]
    grind
  try simp only [Int.ofNat_eq_natCast] at h1 h2
  rw [hval] at h1 h2
  have g1 := natCast_lt.1 ((ratmul_lt hp).1 h1)
  have g2 := natCast_lt.1 ((ratmul_lt hp).1 h2)
  omega
/-- A number of enough digits, a last one of which stands for what is left over, rounds as the number itself does. -/
theorem sticky (s : Bool) {Q t : Nat} {p : Int} {V : Rat} (hQ : 9007199254740992 ≤ Q) (ht : t = 0 ∧ V = ((2 * Q : Nat) : Rat) * P2 p ∨ t = 1 ∧ ((2 * Q : Nat) : Rat) * P2 p < V ∧ V < ((2 * Q + 2 : Nat) : Rat) * P2 p)
    (hb : p + ((2 * Q + t).log2 : Int) ≤ 1022) : Rnq (Ieee.double.nearest s (2 * Q + t) p) (sg s V) := by
  have hp := P2_pos p
  obtain ⟨hR, hs⟩ := nearest_rnd s (2 * Q + t) p (.inr hb)
  have hQ0 : (0 : Rat) ≤ ((2 * Q : Nat) : Rat) * P2 p := Rat.mul_nonneg (natCast_nonneg _) (Rat.le_of_lt hp)
  have hV0 : 0 ≤ V := by rcases ht with ⟨_, e⟩ | ⟨_, e, _⟩ <;> grind
  have hab : ab (sg s V) = V := ab_sg s hV0
  have u0 := P2_pos (-1074)
  have e51 : P2 (-51) = 2 * P2 (-52) := by
    have : P2 (-51) = P2 1 * P2 (-52) := P2_of (by omega)
    rw [this, show P2 1 = ((2 : Nat) : Rat) from P2_nat 1]; rfl
  have u52 := P2_pos (-52)
  have hVe := Rat.mul_nonneg hV0 (Rat.le_of_lt u52)
  rcases ht with ⟨rfl, rfl⟩ | ⟨rfl, l1, l2⟩
  · rw [Nat.add_zero] at hR ⊢
    refine ⟨hR.fin, hR.hi, hR.lo, ?_, ?_⟩
    · have := hR.e1; rw [hab] at this ⊢; rw [e51]; grind
    · have := hR.e2; rw [hab] at this ⊢; rw [e51]; grind
  · have hU : ((2 * Q + 1 : Nat) : Rat) * P2 p = ((2 * Q : Nat) : Rat) * P2 p + P2 p := by
      rw [Rat.natCast_add]
      have : ((1 : Nat) : Rat) = 1 := rfl
      rw [this]; grind
    have hU2 : ((2 * Q + 2 : Nat) : Rat) * P2 p = ((2 * Q : Nat) : Rat) * P2 p + 2 * P2 p := by
      rw [Rat.natCast_add]
      have : ((2 : Nat) : Rat) = 2 := rfl
      rw [this]; grind
    have hsmall : 2 * P2 p ≤ V * P2 (-52) := by
      have h53 : ((9007199254740992 : Nat) : Rat) * P2 (-52) = 2 := by
        have h1 : P2 (((53 : Nat) : Int)) = ((2 ^ 53 : Nat) : Rat) := P2_nat 53
        have h2 : P2 (((53 : Nat) : Int)) * P2 (-52) = P2 1 := by rw [← P2_add]; rfl
        rw [h1] at h2
        rw [show P2 1 = ((2 : Nat) : Rat) from P2_nat 1] at h2
        exact h2
      have h1 : ((9007199254740992 : Nat) : Rat) * P2 p ≤ V := by
        have : ((9007199254740992 : Nat) : Rat) * P2 p ≤ ((2 * Q : Nat) : Rat) * P2 p := (mul_le hp).2 (natCast_le.2 (by omega))
        grind
      have h2 : (((9007199254740992 : Nat) : Rat) * P2 p) * P2 (-52) ≤ V * P2 (-52) := (mul_le u52).2 h1
      have h3 : (((9007199254740992 : Nat) : Rat) * P2 p) * P2 (-52) = 2 * P2 p := by rw [← h53]; grind
      grind
    have gap : ∀ r, Rep r → ¬ (((2 * Q : Nat) : Rat) * P2 p < r ∧ r < ((2 * Q + 2 : Nat) : Rat) * P2 p) := fun r hr h => rep_gap hQ hr h.1 h.2
    have hsg : ∀ a b : Rat, sg s a ≤ b ↔ if s then -b ≤ a else a ≤ b := by
      intro a b; unfold sg; cases s <;> simp <;> constructor <;> intro h <;> grind
    have hsg' : ∀ a b : Rat, b ≤ sg s a ↔ if s then a ≤ -b else b ≤ a := by
      intro a b; unfold sg; cases s <;> simp <;> constructor <;> intro h <;> grind
    have hUR := hR
    rw [hU] at hUR
    have hUpos : 0 ≤ ((2 * Q : Nat) : Rat) * P2 p + P2 p := by grind
    have habU : ab (sg s (((2 * Q : Nat) : Rat) * P2 p + P2 p)) = ((2 * Q : Nat) : Rat) * P2 p + P2 p := ab_sg s hUpos
    have f1 := hUR.e1
    have f2 := hUR.e2
    rw [habU] at f1 f2
    generalize hA : ((2 * Q : Nat) : Rat) * P2 p = A at *
    rw [hU2] at l2 gap
    have up : ∀ r, Rep r → V ≤ r → A + P2 p ≤ r := by
      intro r hr h
      have h1 : A < r := by grind
      apply Rat.not_lt.1
      intro h2
      exact gap r hr ⟨h1, by grind⟩
    have dn : ∀ r, Rep r → r ≤ V → r ≤ A + P2 p := by
      intro r hr h
      apply Rat.not_lt.1
      intro h2
      exact gap r hr ⟨by grind, by grind⟩
    refine ⟨hUR.fin, fun r hr h => ?_, fun r hr h => ?_, ?_, ?_⟩
    · apply hUR.hi r hr
      rw [hsg] at h ⊢
      cases s with
      | false => simp at h ⊢; exact up r hr h
      | true => simp at h ⊢; exact dn (-r) (rep_neg hr) h |> fun h => by grind
    · apply hUR.lo r hr
      rw [hsg'] at h ⊢
      cases s with
      | false => simp at h ⊢; exact dn r hr h
      | true => simp at h ⊢; exact up (-r) (rep_neg hr) h |> fun h => by grind
    · rw [hab, e51]
      have b1 : (A + P2 p) * P2 (-52) ≤ V * P2 (-52) + P2 p * P2 (-52) := by
        have := (mul_le u52).2 (show A + P2 p ≤ V + P2 p by grind)
        grind
      have b2 : P2 p * P2 (-52) ≤ P2 p := by
        have := (mul_le hp).2 (show P2 (-52) ≤ 1 by rw [← P2_zero]; exact P2_le (by decide))
        grind
      generalize P2 p * P2 (-52) = Y at *
      generalize hX : V * P2 (-52) = X at *
      have : V * (2 * P2 (-52)) = 2 * X := by rw [← hX]; grind
      rw [this]
      generalize (A + P2 p) * P2 (-52) = W at *
      cases s with
      | false =>
        simp only [sg, Bool.false_eq_true, if_false] at f1 ⊢
        grind
      | true =>
        simp only [sg, if_true] at f1 ⊢
        grind
    · rw [hab, e51]
      have b1 : (A + P2 p) * P2 (-52) ≤ V * P2 (-52) + P2 p * P2 (-52) := by
        have := (mul_le u52).2 (show A + P2 p ≤ V + P2 p by grind)
        grind
      have b2 : P2 p * P2 (-52) ≤ P2 p := by
        have := (mul_le hp).2 (show P2 (-52) ≤ 1 by rw [← P2_zero]; exact P2_le (by decide))
        grind
      generalize P2 p * P2 (-52) = Y at *
      generalize hX : V * P2 (-52) = X at *
      have : V * (2 * P2 (-52)) = 2 * X := by rw [← hX]; grind
      rw [this]
      generalize (A + P2 p) * P2 (-52) = W at *
      cases s with
      | false =>
        simp only [sg, Bool.false_eq_true, if_false] at f2 ⊢
        grind
      | true =>
        simp only [sg, if_true] at f2 ⊢
        grind
end Go.Av
