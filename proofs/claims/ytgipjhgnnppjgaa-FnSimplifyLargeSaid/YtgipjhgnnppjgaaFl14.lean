/- Numbers that are near to one another in proportion, and what reckoning with rounding keeps of that. -/
import Derived.Test.YtgipjhgnnppjgaaFl11
import Derived.Test.YtgipjhgnnppjgaaFl13
set_option linter.unusedVariables false
set_option linter.unusedSectionVars false
namespace Go.Av
open Go
theorem ab_mul (x y : Rat) : ab (x * y) = ab x * ab y := by
  unfold ab
  by_cases hx : 0 ≤ x <;> by_cases hy : 0 ≤ y
  · rw [if_pos hx, if_pos hy, if_pos (Rat.mul_nonneg hx hy)]
  · rw [if_pos hx, if_neg hy]
    have h : 0 ≤ x * (-y) := Rat.mul_nonneg hx (by grind)
    split <;> grind
  · rw [if_neg hx, if_pos hy]
    have h : 0 ≤ (-x) * y := Rat.mul_nonneg (by grind) hy
    split <;> grind
  · rw [if_neg hx, if_neg hy]
    have h : 0 ≤ (-x) * (-y) := Rat.mul_nonneg (by grind) (by grind)
    rw [if_pos (by grind)]
    grind
theorem ab_add (x y : Rat) : ab (x + y) ≤ ab x + ab y := by
  unfold ab; grind
theorem ab_sub_comm (x y : Rat) : ab (x - y) = ab (y - x) := by
  unfold ab; grind
theorem ab_zero_iff {x : Rat} : ab x = 0 ↔ x = 0 := by
  unfold ab; grind
/-- The unit of nearness. -/
def dl : Rat := P2 (-48)
theorem dl_pos : 0 < dl := P2_pos _
theorem dl_small : 1000000 * dl ≤ 1 := by
  have e : P2 (-48) * P2 48 = 1 := by rw [← P2_add]; exact P2_zero
  have h : P2 48 = ((2 ^ 48 : Nat) : Rat) := P2_nat 48
  have h2 : (1000000 : Rat) ≤ ((2 ^ 48 : Nat) : Rat) := by decide +kernel
  have h3 : 1000000 * P2 (-48) ≤ ((2 ^ 48 : Nat) : Rat) * P2 (-48) := Rat.mul_le_mul_of_nonneg_right h2 (Rat.le_of_lt (P2_pos _))
  rw [← h] at h3
  unfold dl
  grind
/-- x is near to v, in proportion. -/
def Ap (x v k : Rat) : Prop := ab (x - v) ≤ k * dl * ab v
theorem Ap.refl (v : Rat) : Ap v v 0 := by
  unfold Ap
  rw [Rat.sub_self]
  have : ab (0 : Rat) = 0 := by unfold ab; grind
  rw [this]; grind
theorem Ap.mono {x v k l : Rat} (h : Ap x v k) (hl : k ≤ l) : Ap x v l := by
  unfold Ap at *
  have h2 := Rat.mul_le_mul_of_nonneg_right (Rat.mul_le_mul_of_nonneg_right hl (Rat.le_of_lt dl_pos)) (ab_nonneg v)
  exact Rat.le_trans h h2
section
variable {x v y w a b k : Rat}
theorem small_prod (ha : 0 ≤ a) (ha2 : a ≤ 100) (hb : 0 ≤ b) (hb2 : b ≤ 100) : a * b * dl ≤ 1 := by
  have h1 : a * b ≤ 100 * 100 := Rat.le_trans (Rat.mul_le_mul_of_nonneg_right ha2 hb) (Rat.mul_le_mul_of_nonneg_left hb2 (by decide))
  have h2 := Rat.mul_le_mul_of_nonneg_right h1 (Rat.le_of_lt dl_pos)
  have := dl_small
  have := dl_pos
  grind
/-- How big what is near may be. -/
theorem Ap.up (h : Ap x v k) : ab x ≤ ab v + k * dl * ab v := by
  have e : x = (x - v) + v := by grind
  have := ab_add (x - v) v
  unfold Ap at h
  rw [← e] at this
  grind
theorem Ap.down (h : Ap x v k) : ab v ≤ ab x + k * dl * ab v := by
  have e : v = (v - x) + x := by grind
  have := ab_add (v - x) x
  unfold Ap at h
  rw [← e, ab_sub_comm v x] at this
  grind
theorem Ap.trans (h1 : Ap x v a) (h2 : Ap v w b) (ha : 0 ≤ a) (ha2 : a ≤ 100) (hb : 0 ≤ b) (hb2 : b ≤ 100) : Ap x w (a + b + 1) := by
  have hv := h2.up
  unfold Ap at *
  have e : x - w = (x - v) + (v - w) := by grind
  have t := ab_add (x - v) (v - w)
  rw [← e] at t
  have hp := small_prod ha ha2 hb hb2
  have had : 0 ≤ a * dl := Rat.mul_nonneg ha (Rat.le_of_lt dl_pos)
  have m1 := Rat.mul_le_mul_of_nonneg_left hv had
  have hdw : 0 ≤ dl * ab w := Rat.mul_nonneg (Rat.le_of_lt dl_pos) (ab_nonneg w)
  have m2 := Rat.mul_le_mul_of_nonneg_right hp hdw
  grind
theorem Ap.symm (h : Ap x v a) (ha : 0 ≤ a) (ha2 : a ≤ 99) : Ap v x (a + 1) := by
  have hd := h.down
  unfold Ap at *
  rw [ab_sub_comm]
  -- (a + 1) * dl * ab x >= (a + 1) * dl * (ab v - a * dl * ab v) >= a * dl * ab v
  have hp : a * (a + 1) * dl ≤ 1 := small_prod ha (by grind) (by grind) (by grind)
  have had : 0 ≤ (a + 1) * dl := Rat.mul_nonneg (by grind) (Rat.le_of_lt dl_pos)
  have m1 := Rat.mul_le_mul_of_nonneg_left hd had
  have hdv : 0 ≤ dl * ab v := Rat.mul_nonneg (Rat.le_of_lt dl_pos) (ab_nonneg v)
  have m2 := Rat.mul_le_mul_of_nonneg_right hp hdv
  grind
theorem Ap.mul (h1 : Ap x v a) (h2 : Ap y w b) (ha : 0 ≤ a) (ha2 : a ≤ 100) (hb : 0 ≤ b) (hb2 : b ≤ 100) : Ap (x * y) (v * w) (a + b + 1) := by
  have hy := h2.up
  unfold Ap at *
  have e : x * y - v * w = (x - v) * y + v * (y - w) := by grind
  have t := ab_add ((x - v) * y) (v * (y - w))
  rw [← e, ab_mul, ab_mul] at t
  rw [ab_mul v w]
  have hA := ab_nonneg v
  have hB := ab_nonneg w
  have hAB := Rat.mul_nonneg hA hB
  have hp := small_prod ha ha2 hb hb2
  have had : 0 ≤ a * dl * ab v := Rat.mul_nonneg (Rat.mul_nonneg ha (Rat.le_of_lt dl_pos)) hA
  have m0 := Rat.mul_le_mul_of_nonneg_right h1 (ab_nonneg y)
  have m1 := Rat.mul_le_mul_of_nonneg_left hy had
  have m3 := Rat.mul_le_mul_of_nonneg_left h2 hA
  have hd : 0 ≤ dl * (ab v * ab w) := Rat.mul_nonneg (Rat.le_of_lt dl_pos) hAB
  have m2 := Rat.mul_le_mul_of_nonneg_right hp hd
  grind
theorem Ap.add (h1 : Ap x v a) (h2 : Ap y w a) (hv : 0 ≤ v) (hw : 0 ≤ w) : Ap (x + y) (v + w) a := by
  unfold Ap at *
  have e : x + y - (v + w) = (x - v) + (y - w) := by grind
  have t := ab_add (x - v) (y - w)
  rw [← e] at t
  rw [ab_of_nonneg hv] at h1
  rw [ab_of_nonneg hw] at h2
  rw [ab_of_nonneg (by grind : 0 ≤ v + w)]
  grind
theorem Ap.nonneg (h : Ap x v a) (hv : 0 ≤ v) (ha : a ≤ 100) : 0 ≤ x := by
  unfold Ap at h
  rw [ab_of_nonneg hv] at h
  have m : a * dl ≤ 100 * dl := Rat.mul_le_mul_of_nonneg_right ha (Rat.le_of_lt dl_pos)
  have h3 : a * dl ≤ 1 := by have := dl_small; have := dl_pos; grind
  have m2 := Rat.mul_le_mul_of_nonneg_right h3 hv
  unfold ab at h
  split at h <;> grind
end
theorem tiny_le {v : Rat} (h : v = 0 ∨ P2 (-900) ≤ ab v) (s : Int) (hs : -100 ≤ s) : v ≠ 0 → P2 (-1074) ≤ ab v * P2 s := by
  intro h0
  rcases h with h | h
  · exact absurd h h0
  have h1 := Rat.mul_le_mul_of_nonneg_right h (Rat.le_of_lt (P2_pos s))
  rw [← P2_add] at h1
  exact Rat.le_trans (P2_le (by omega)) h1
theorem dl_of (s : Int) (n : Nat) (hs : s + n = -48) : dl = ((2 ^ n : Nat) : Rat) * P2 s := by
  unfold dl; rw [← P2_nat, ← P2_add]; congr 1; omega
/-- A number rounded is near to it. -/
theorem Rnd.ap {z : Nat} {v : Rat} (h : Rnd z v) (hv : v = 0 ∨ P2 (-900) ≤ ab v) : Ap (fv z) v 1 := by
  unfold Ap
  by_cases h0 : v = 0
  · have : fv z = v := h.exact (by rw [h0]; exact ⟨0, 0, by decide, by decide, by rw [P2_zero]; grind⟩)
    rw [this, Rat.sub_self, h0]
    have : ab (0 : Rat) = 0 := by unfold ab; grind
    rw [this]; grind
  · have h1 := h.e1
    have h2 := h.e2
    have h3 := tiny_le hv (-52) (by decide) h0
    have h4 : dl = 16 * P2 (-52) := by rw [dl_of (-52) 4 (by decide)]; rfl
    have h5 := Rat.mul_nonneg (ab_nonneg v) (Rat.le_of_lt (P2_pos (-52)))
    rw [h4]
    unfold ab at h1 h2 h3 h5 ⊢
    grind
theorem Rnq.ap {z : Nat} {v : Rat} (h : Rnq z v) (hv : v = 0 ∨ P2 (-900) ≤ ab v) : Ap (fv z) v 1 := by
  unfold Ap
  by_cases h0 : v = 0
  · have : fv z = v := h.exact (by rw [h0]; exact ⟨0, 0, by decide, by decide, by rw [P2_zero]; grind⟩)
    rw [this, Rat.sub_self, h0]
    have : ab (0 : Rat) = 0 := by unfold ab; grind
    rw [this]; grind
  · have h1 := h.e1
    have h2 := h.e2
    have h3 := tiny_le hv (-51) (by decide) h0
    have h4 : dl = 8 * P2 (-51) := by rw [dl_of (-51) 3 (by decide)]; rfl
    have h5 := Rat.mul_nonneg (ab_nonneg v) (Rat.le_of_lt (P2_pos (-51)))
    rw [h4]
    unfold ab at h1 h2 h3 h5 ⊢
    grind
theorem Sqr.ap {z : Nat} {v : Rat} (h : Sqr z v) (hv : 1 ≤ v) : Ap (fv z * fv z) v 1 := by
  unfold Ap
  have := h.e hv
  rw [ab_of_nonneg (v := v) (by grind)]
  unfold dl
  grind
end Go.Av
