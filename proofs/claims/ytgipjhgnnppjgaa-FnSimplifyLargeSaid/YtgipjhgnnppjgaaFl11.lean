/- Square roots of doubles. -/
import Derived.Test.YtgipjhgnnppjgaaFl10
set_option linter.unusedVariables false
set_option linter.unusedSimpArgs false
set_option linter.unusedSectionVars false
namespace Go.Av
open Go
theorem rootFrom_spec (n : Nat) : ∀ (todo root : Nat), root * root ≤ n → n < (root + 2 ^ todo) * (root + 2 ^ todo) → Ieee.Datum.rootFrom n todo root * Ieee.Datum.rootFrom n todo root ≤ n ∧ n < (Ieee.Datum.rootFrom n todo root + 1) * (Ieee.Datum.rootFrom n todo root + 1)
  | 0, root, h1, h2 => by simpa [Ieee.Datum.rootFrom] using ⟨h1, h2⟩
  | todo + 1, root, h1, h2 => by
    have e : root + 1 <<< todo = root + 2 ^ todo := by rw [Nat.shiftLeft_eq, Nat.one_mul]
    unfold Ieee.Datum.rootFrom
    rw [e]
    dsimp only
    by_cases h : (root + 2 ^ todo) * (root + 2 ^ todo) ≤ n
    · rw [if_pos h]
      refine rootFrom_spec n todo (root + 2 ^ todo) h ?_
      have : root + 2 ^ todo + 2 ^ todo = root + 2 ^ (todo + 1) := by rw [Nat.pow_succ]; omega
      rw [this]; exact h2
    · rw [if_neg h]
      exact rootFrom_spec n todo root h1 (by omega)
theorem root_spec (n : Nat) : Ieee.Datum.rootFrom n (n.log2 / 2 + 1) 0 * Ieee.Datum.rootFrom n (n.log2 / 2 + 1) 0 ≤ n ∧ n < (Ieee.Datum.rootFrom n (n.log2 / 2 + 1) 0 + 1) * (Ieee.Datum.rootFrom n (n.log2 / 2 + 1) 0 + 1) := by
  apply rootFrom_spec
  · omega
  · rw [Nat.zero_add, ← Nat.pow_add]
    have h1 := Nat.lt_log2_self (n := n)
    have h2 : 2 ^ (n.log2 + 1) ≤ 2 ^ (n.log2 / 2 + 1 + (n.log2 / 2 + 1)) := Nat.pow_le_pow_right (by decide) (by omega)
    omega
/-- z is the square root of v, rounded. -/
structure Sqr (z : Nat) (v : Rat) : Prop where
  fin : fin z = true
  nn : 0 ≤ fv z
  hi : ∀ r, Rep r → 0 ≤ r → v ≤ r * r → fv z ≤ r
  lo : ∀ r, Rep r → 0 ≤ r → r * r ≤ v → r ≤ fv z
  e : 1 ≤ v → ab (fv z * fv z - v) ≤ v * P2 (-48)
theorem sq_lt {a b : Rat} (ha : 0 ≤ a) (hb : 0 ≤ b) : a * a < b * b ↔ a < b := by
  constructor
  · intro h
    apply Rat.not_le.1
    intro h'
    have h1 := Rat.mul_le_mul_of_nonneg_left h' hb
    have h2 := Rat.mul_le_mul_of_nonneg_right h' ha
    have : b * b ≤ a * a := by grind
    exact absurd h (Rat.not_lt.2 this)
  · intro h
    have hb0 : 0 < b := by grind
    have h1 : a * b < b * b := (ratmul_lt hb0).2 h
    have h2 := Rat.mul_le_mul_of_nonneg_left (Rat.le_of_lt h) ha
    grind
theorem sq_le {a b : Rat} (ha : 0 ≤ a) (hb : 0 ≤ b) : a * a ≤ b * b ↔ a ≤ b := by
  constructor
  · intro h
    apply Rat.not_lt.1
    intro h'
    exact absurd ((sq_lt hb ha).2 h') (Rat.not_lt.2 h)
  · intro h
    apply Rat.not_lt.1
    intro h'
    exact absurd ((sq_lt hb ha).1 h') (Rat.not_lt.2 h)
theorem sqrt_sqr {x : Nat} (hx : fin x = true) (h0 : 0 ≤ fv x) (hb : fv x < P2 1022) : ∃ z, fsqrt x = some z ∧ Sqr z (fv x) := by
  obtain ⟨m, i, r1, _, v1⟩ := read_num hx
  unfold fsqrt Ieee.Format.sqrt
  rw [r1, dbits]
  have hpi := P2_pos i
  simp only [Ieee.Datum.root]
  by_cases hm : m = 0
  · rw [if_pos hm]
    simp only [Option.map_some]
    refine ⟨_, rfl, ?_⟩
    show Sqr (Ieee.double.nearest (sgn x) m i) (fv x)
    have hz : fv x = 0 := by
      rw [v1, hm]
      have : ((0 : Nat) : Rat) = 0 := rfl
      unfold sg; grind
    have hR := (nearest_rnd (sgn x) m i (.inl hm)).1
    have e : sg (sgn x) ((m : Rat) * P2 i) = 0 := by rw [← v1, hz]
    rw [e] at hR
    have z0 : Rep 0 := ⟨0, 0, by decide, by decide, by rw [P2_zero]; grind⟩
    have hfz := hR.exact z0
    rw [hz]
    refine ⟨hR.fin, by rw [hfz]; exact Rat.le_refl, fun r _ h _ => by rw [hfz]; exact h, fun r _ h1 h2 => ?_, fun h => ?_⟩
    · rw [hfz]
      have : r * r ≤ 0 * 0 := by grind
      exact (sq_le h1 Rat.le_refl).1 this
    · exact absurd h (by decide)
  · rw [if_neg hm]
    have hs : sgn x = false := by
      cases hs : sgn x with
      | false => rfl
      | true =>
        rw [v1, hs] at h0
        have h1 : (0 : Rat) < (m : Rat) * P2 i := Rat.mul_pos ((natCast_lt (a := 0)).2 (by omega)) hpi
        unfold sg at h0
        simp only [if_true] at h0
        grind
    rw [hs]
    simp only [Bool.false_eq_true, if_false, Option.map_some]
    refine ⟨_, rfl, ?_⟩
    generalize hmore1 : 2 * 54 - m.log2 = more1
    generalize hmore : more1 + ((i - (more1 : Int)) % 2).toNat = more
    have heven : (i - (more : Int)) % 2 = 0 := by omega
    have hM : m <<< more = m * 2 ^ more := Nat.shiftLeft_eq _ _
    rw [hM]
    generalize hN : m * 2 ^ more = M
    obtain ⟨w1, w2⟩ := root_spec M
    generalize Ieee.Datum.rootFrom M (M.log2 / 2 + 1) 0 = w at w1 w2
    show Sqr (Ieee.double.nearest false (2 * w + (w * w != M).toNat) ((i - (more : Int)) / 2 - 1)) (fv x)
    generalize hp : (i - (more : Int)) / 2 - 1 = p
    have hpp := P2_pos p
    have hw : 9007199254740992 ≤ w := by
      have l1 := Nat.log2_self_le hm
      have h1 : 2 ^ 108 ≤ 2 ^ (m.log2 + more) := Nat.pow_le_pow_right (by decide) (by omega)
      have h2 : 2 ^ m.log2 * 2 ^ more ≤ m * 2 ^ more := Nat.mul_le_mul_right _ l1
      rw [← Nat.pow_add] at h2
      rcases Nat.lt_or_ge w 9007199254740992 with h | h
      · have h3 : (w + 1) * (w + 1) ≤ 9007199254740992 * 9007199254740992 := Nat.mul_le_mul (by omega) (by omega)
        have h4 : 9007199254740992 * 9007199254740992 ≤ 2 ^ 108 := by decide
        omega
      · exact h
    have c2 : ((2 : Nat) : Rat) = 2 := rfl
    have c1 : ((1 : Nat) : Rat) = 1 := rfl
    -- the value
    have hv : fv x = (M : Rat) * ((2 * P2 p) * (2 * P2 p)) := by
      rw [v1, hs]
      unfold sg
      simp only [Bool.false_eq_true, if_false]
      have a1 : P2 i = P2 (more : Int) * P2 (i - (more : Int)) := P2_of (by omega)
      have a2 : P2 (i - (more : Int)) = P2 (p + 1) * P2 (p + 1) := P2_of (by omega)
      have a3 : P2 (p + 1) = P2 1 * P2 p := P2_of (by omega)
      rw [a1, a2, a3, P2_nat, show P2 1 = ((2 : Nat) : Rat) from P2_nat 1, c2, ← hN, Rat.natCast_mul]
      grind
    generalize hD : 2 * P2 p = D at hv
    have hDp : 0 < D := by grind
    have hDD : 0 < D * D := Rat.mul_pos hDp hDp
    have lowv : ((w : Rat) * D) * ((w : Rat) * D) ≤ fv x := by
      rw [hv]
      have : ((w : Rat) * D) * ((w : Rat) * D) = ((w * w : Nat) : Rat) * (D * D) := by rw [Rat.natCast_mul]; grind
      rw [this]
      exact (mul_le hDD).2 (natCast_le.2 w1)
    have hiv : fv x < (((w + 1 : Nat) : Rat) * D) * (((w + 1 : Nat) : Rat) * D) := by
      rw [hv]
      have : (((w + 1 : Nat) : Rat) * D) * (((w + 1 : Nat) : Rat) * D) = (((w + 1) * (w + 1) : Nat) : Rat) * (D * D) := by rw [Rat.natCast_mul]; grind
      rw [this]
      exact (ratmul_lt hDD).2 (natCast_lt.2 w2)
    have tz : (w * w != M).toNat = 0 → ((w : Rat) * D) * ((w : Rat) * D) = fv x := by
      intro h
      have e : w * w = M := by
        rcases Nat.decEq (w * w) M with h' | h'
        · simp [h'] at h
        · exact h'
      rw [hv, ← e, Rat.natCast_mul]; grind
    have tl := Bool.toNat_le (w * w != M)
    have wD : ((2 * w : Nat) : Rat) * P2 p = (w : Rat) * D := by rw [Rat.natCast_mul, c2, ← hD]; grind
    have wD1 : ((2 * w + 1 : Nat) : Rat) * P2 p = (w : Rat) * D + P2 p := by rw [Rat.natCast_add, c1]; rw [← wD]; grind
    have wD2 : ((2 * w + 2 : Nat) : Rat) * P2 p = (w : Rat) * D + D := by rw [Rat.natCast_add, c2]; rw [← wD, ← hD]; grind
    have w1D : ((w + 1 : Nat) : Rat) * D = (w : Rat) * D + D := by rw [Rat.natCast_add, c1]; grind
    rw [w1D] at hiv
    have hwD0 : 0 ≤ (w : Rat) * D := Rat.mul_nonneg (natCast_nonneg w) (Rat.le_of_lt hDp)
    -- not too big
    have hsm : ((2 * w + (w * w != M).toNat : Nat) : Rat) * P2 p < P2 1023 := by
      have h1 : (w : Rat) * D < P2 511 := by
        apply (sq_lt hwD0 (Rat.le_of_lt (P2_pos _))).1
        have : P2 511 * P2 511 = P2 1022 := by rw [← P2_add]; rfl
        rw [this]; grind
      have h2 : P2 512 = P2 511 + P2 511 := by
        have : P2 512 = P2 1 * P2 511 := P2_of (by omega)
        rw [this, show P2 1 = ((2 : Nat) : Rat) from P2_nat 1, c2]; grind
      have h3 : P2 512 ≤ P2 1023 := P2_le (by decide)
      have h4 : ((2 * w + (w * w != M).toNat : Nat) : Rat) * P2 p ≤ ((2 * w + 2 * w : Nat) : Rat) * P2 p := (mul_le hpp).2 (natCast_le.2 (by omega))
      rw [Rat.natCast_add] at h4
      grind
    have hbig : p + ((2 * w + (w * w != M).toNat).log2 : Int) ≤ 1022 := (log_small hsm).resolve_left (by omega)
    obtain ⟨hR, hsz⟩ := nearest_rnd false (2 * w + (w * w != M).toNat) p (.inr hbig)
    have hU : sg false (((2 * w + (w * w != M).toNat : Nat) : Rat) * P2 p) = ((2 * w + (w * w != M).toNat : Nat) : Rat) * P2 p := rfl
    rw [hU] at hR
    have gap : ∀ r, Rep r → ¬ ((w : Rat) * D < r ∧ r < (w : Rat) * D + D) := fun r hr h => rep_gap (p := p) hw hr (by rw [wD]; exact h.1) (by rw [wD2]; exact h.2)
    generalize hUe : ((2 * w + (w * w != M).toNat : Nat) : Rat) * P2 p = U at hR
    generalize hA : (w : Rat) * D = A at *
    have hDP : D = 2 * P2 p := hD.symm
    have hUA : (w * w != M).toNat = 0 ∧ U = A ∨ (w * w != M).toNat = 1 ∧ U = A + P2 p := by
      rcases (show (w * w != M).toNat = 0 ∨ (w * w != M).toNat = 1 by omega) with h | h
      · left; exact ⟨h, by rw [← hUe, h, Nat.add_zero]; exact wD⟩
      · right; exact ⟨h, by rw [← hUe, h]; exact wD1⟩
    generalize nearest_z : Ieee.double.nearest false (2 * w + (w * w != M).toNat) p = z at hR
    have hUnn : 0 ≤ U := by rcases hUA with ⟨_, e⟩ | ⟨_, e⟩ <;> grind
    have z0 : Rep 0 := ⟨0, 0, by decide, by decide, by rw [P2_zero]; grind⟩
    have hzn : 0 ≤ fv z := hR.lo 0 z0 hUnn
    refine ⟨hR.fin, hzn, fun r hr hr0 h => ?_, fun r hr hr0 h => ?_, fun h1 => ?_⟩
    · apply hR.hi r hr
      have h2 : A ≤ r := (sq_le hwD0 hr0).1 (by grind)
      rcases hUA with ⟨ht, e⟩ | ⟨ht, e⟩
      · rw [e]; exact h2
      · by_cases hAr : A = r
        · exfalso
          have h3 : fv x = A * A := Rat.le_antisymm (by rw [hAr]; exact h) lowv
          have h4 : w * w = M := by
            have h5 : ((w * w : Nat) : Rat) * (D * D) = (M : Rat) * (D * D) := by
              rw [← hv, h3, ← hA, Rat.natCast_mul]; grind
            have h6 := natCast_le.1 ((mul_le hDD).1 (by rw [h5]; exact Rat.le_refl : ((w * w : Nat) : Rat) * (D * D) ≤ (M : Rat) * (D * D)))
            have h7 := natCast_le.1 ((mul_le hDD).1 (by rw [h5]; exact Rat.le_refl : (M : Rat) * (D * D) ≤ ((w * w : Nat) : Rat) * (D * D)))
            omega
          rw [h4] at ht
          simp at ht
        · apply Rat.not_lt.1
          intro h5
          exact gap r hr ⟨by grind, by grind⟩
    · apply hR.lo r hr
      have h2 : r < A + D := (sq_lt hr0 (by grind)).1 (by grind)
      rcases hUA with ⟨ht, e⟩ | ⟨ht, e⟩
      · rw [e]
        exact (sq_le hr0 hwD0).1 (by rw [tz ht]; exact h)
      · apply Rat.not_lt.1
        intro h5
        exact gap r hr ⟨by grind, h2⟩
    · -- the error
      have u52 := P2_pos (-52)
      have hA1 : ((9007199254740992 : Nat) : Rat) * (2 * P2 p) ≤ A := by
        rw [hD, ← hA]; exact (mul_le hDp).2 (natCast_le.2 hw)
      have h53 : ((9007199254740992 : Nat) : Rat) * P2 (-52) = 2 := by
        have h1 : P2 (((53 : Nat) : Int)) = ((2 ^ 53 : Nat) : Rat) := P2_nat 53
        have h2 : P2 (((53 : Nat) : Int)) * P2 (-52) = P2 1 := by rw [← P2_add]; rfl
        rw [h1] at h2
        rw [show P2 1 = ((2 : Nat) : Rat) from P2_nat 1] at h2
        exact h2
      have hsmall : 4 * P2 p ≤ A * P2 (-52) := by
        have h2 := (mul_le u52).2 hA1
        have h3 : ((9007199254740992 : Nat) : Rat) * (2 * P2 p) * P2 (-52) = 4 * P2 p := by
          have : ((9007199254740992 : Nat) : Rat) * (2 * P2 p) * P2 (-52) = (((9007199254740992 : Nat) : Rat) * P2 (-52)) * (2 * P2 p) := by grind
          rw [this, h53]; grind
        grind
      have u1 : P2 (-52) ≤ 1 := by rw [← P2_zero]; exact P2_le (by decide)
      have u10 : P2 (-52) * 1024 ≤ 1 := by
        have : P2 (-52) * P2 10 = P2 (-42) := by rw [← P2_add]; rfl
        rw [show P2 10 = 1024 from P2_nat 10] at this
        have h2 : P2 (-42) ≤ P2 0 := P2_le (by decide)
        rw [P2_zero] at h2
        grind
      have e48 : P2 (-48) = 16 * P2 (-52) := by
        have : P2 (-48) = P2 4 * P2 (-52) := P2_of (by omega)
        rw [this, show P2 4 = 16 from P2_nat 4]
      -- A is at least about 1
      have hA2 : 1 ≤ 2 * A := by
        apply Rat.not_lt.1
        intro h
        have hAD : A + D < 1 := by
          have : D ≤ A := by
            have : ((9007199254740992 : Nat) : Rat) * D ≤ A := by rw [← hD]; exact hA1
            have h1 : (1 : Rat) * D ≤ ((9007199254740992 : Nat) : Rat) * D := (mul_le hDp).2 (by rw [← c1]; exact natCast_le.2 (by decide))
            grind
          grind
        have h2 : (A + D) * (A + D) < 1 * 1 := (sq_lt (by grind) (by decide)).2 hAD
        grind
      have tiny : P2 (-1074) ≤ A * P2 (-52) := by
        have h2 : P2 (-1074) ≤ P2 (-53) := P2_le (by decide)
        have h3 : P2 (-52) = 2 * P2 (-53) := by
          have : P2 (-52) = P2 1 * P2 (-53) := P2_of (by omega)
          rw [this, show P2 1 = ((2 : Nat) : Rat) from P2_nat 1, c2]
        have h4 := (mul_le u52).2 hA2
        have : 2 * A * P2 (-52) = 2 * (A * P2 (-52)) := by grind
        grind
      have f1 := hR.e1
      have f2 := hR.e2
      rw [ab_of_nonneg hUnn] at f1 f2
      have hUb : A ≤ U ∧ U ≤ A + P2 p := by rcases hUA with ⟨_, e⟩ | ⟨_, e⟩ <;> grind
      have hUu : U * P2 (-52) ≤ A * P2 (-52) + P2 p * P2 (-52) := by
        have := (mul_le u52).2 hUb.2
        grind
      have hPu : P2 p * P2 (-52) ≤ P2 p := by
        have := (mul_le hpp).2 u1
        grind
      -- z is near A
      have z1 : fv z ≤ A + 3 * (A * P2 (-52)) := by grind
      have z2 : A - 3 * (A * P2 (-52)) ≤ fv z := by grind
      have hAA : 0 ≤ A * A := Rat.mul_nonneg hwD0 hwD0
      have hAAu : 0 ≤ A * A * P2 (-52) := Rat.mul_nonneg hAA (Rat.le_of_lt u52)
      have q1 : (A * P2 (-52)) * (A * P2 (-52)) * 1024 ≤ A * A * P2 (-52) := by
        have h2 := Rat.mul_le_mul_of_nonneg_left u10 hAAu
        grind
      have s1 : fv z * fv z ≤ (A + 3 * (A * P2 (-52))) * (A + 3 * (A * P2 (-52))) := (sq_le hzn (by have := Rat.mul_nonneg hwD0 (Rat.le_of_lt u52); grind)).2 z1
      have hAu1 : A * P2 (-52) * 1024 ≤ A := by
        have h2 := Rat.mul_le_mul_of_nonneg_left u10 hwD0
        grind
      have s2 : (A - 3 * (A * P2 (-52))) * (A - 3 * (A * P2 (-52))) ≤ fv z * fv z := (sq_le (by have := Rat.mul_nonneg hwD0 (Rat.le_of_lt u52); grind) hzn).2 z2
      -- v is near A * A
      have hD2 : D ≤ A * P2 (-52) := by rw [hDP]; grind
      have v2 : fv x ≤ (A + A * P2 (-52)) * (A + A * P2 (-52)) := by
        have h2 : (A + D) * (A + D) ≤ (A + A * P2 (-52)) * (A + A * P2 (-52)) := (sq_le (by grind) (by have := Rat.mul_nonneg hwD0 (Rat.le_of_lt u52); grind)).2 (by grind)
        grind
      have lv : A * A * P2 (-52) ≤ fv x * P2 (-52) := (mul_le u52).2 lowv
      rw [e48]
      generalize hX : A * A * P2 (-52) = X at *
      generalize hY : (A * P2 (-52)) * (A * P2 (-52)) = Y at *
      have g1 : (A + 3 * (A * P2 (-52))) * (A + 3 * (A * P2 (-52))) = A * A + 6 * X + 9 * Y := by rw [← hX, ← hY]; grind
      have g2 : (A - 3 * (A * P2 (-52))) * (A - 3 * (A * P2 (-52))) = A * A - 6 * X + 9 * Y := by rw [← hX, ← hY]; grind
      have g3 : (A + A * P2 (-52)) * (A + A * P2 (-52)) = A * A + 2 * X + Y := by rw [← hX, ← hY]; grind
      rw [g1] at s1
      rw [g2] at s2
      rw [g3] at v2
      have hY0 : 0 ≤ Y := by rw [← hY]; have := Rat.mul_nonneg hwD0 (Rat.le_of_lt u52); exact Rat.mul_nonneg this this
      have hvx : fv x * (16 * P2 (-52)) = 16 * (fv x * P2 (-52)) := by grind
      rw [hvx]
      generalize fv x * P2 (-52) = V at *
      unfold ab
      split <;> grind
/-- What a finite double stands for is representable. -/
theorem fin_rep {x : Nat} (h : fin x = true) : Rep (fv x) := by
  have hr : rung x < 9218868437227405312 := of_decide_eq_true h
  have key : Rep ((val (rung x) : Rat) * P2 (-1074)) := by
    unfold val
    by_cases h1 : rung x < 4503599627370496
    · rw [if_pos h1]
      exact ⟨((rung x : Nat) : Int), -1074, by omega, by decide, rfl⟩
    · rw [if_neg h1]
      refine ⟨((4503599627370496 + rung x % 4503599627370496 : Nat) : Int), ((rung x / 4503599627370496 - 1 : Nat) : Int) - 1074, by omega, by omega, ?_⟩
      rw [Rat.natCast_mul, ← P2_nat]
      have : P2 (((rung x / 4503599627370496 - 1 : Nat) : Int) - 1074) = P2 ((rung x / 4503599627370496 - 1 : Nat) : Int) * P2 (-1074) := P2_of (by omega)
      rw [this]
      have e : (((4503599627370496 + rung x % 4503599627370496 : Nat) : Int) : Rat) = ((4503599627370496 + rung x % 4503599627370496 : Nat) : Rat) := rfl
      rw [e]; grind
  rw [fv_eq]
  unfold sg
  split
  · exact rep_neg key
  · exact key
end Go.Av
