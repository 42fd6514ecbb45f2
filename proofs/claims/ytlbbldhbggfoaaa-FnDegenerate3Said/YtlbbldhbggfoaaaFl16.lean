/- Roots on a grid: a number whose square is near another one, and the root of one, lie together. -/
import Derived.Test.YtlbbldhbggfoaaaFl15
set_option linter.unusedVariables false
set_option linter.unusedSectionVars false
namespace Go.Av
open Go
/-- The grid's step. -/
def gr : Rat := 1 / 33554432
theorem gr_pos : 0 < gr := by decide +kernel
theorem gr_P2 : P2 (-25) = gr := P2_lit (by decide +kernel)
theorem rep_gr {j : Nat} (h : j ≤ 9007199254740992) : Rep ((j : Rat) * gr) := by
  rw [← gr_P2]
  exact ⟨(j : Int), -25, by omega, by decide, rfl⟩
/-- d is the root of q, but for a step of the grid. -/
def NearR (d q : Rat) : Prop := 0 ≤ d ∧ ∀ j : Nat, j ≤ 4398046511104 → ((j : Rat) * gr * ((j : Rat) * gr) ≤ q → (j : Rat) * gr ≤ d + gr) ∧ (q ≤ (j : Rat) * gr * ((j : Rat) * gr) → d ≤ (j : Rat) * gr + gr)
theorem step_dl {j : Nat} (hj : j ≤ 4398046511104) : 60 * dl * (j : Rat) ≤ 1 := by
  have h : (j : Rat) ≤ 4398046511104 := by
    have := natCast_le.2 hj
    have e : ((4398046511104 : Nat) : Rat) = 4398046511104 := by decide +kernel
    grind
  have e : dl = 1 / 281474976710656 := by unfold dl; exact P2_lit (by decide +kernel)
  rw [e]
  grind
section
variable {y q k : Rat} (h : Ap y q k) (hq : 0 ≤ q) (hk : k ≤ 60)
include h hq hk
theorem ap_60 : y ≤ q + 60 * dl * q ∧ q - 60 * dl * q ≤ y := by
  have h := h.mono hk
  unfold Ap at h
  rw [ab_of_nonneg hq] at h
  unfold ab at h
  constructor <;> grind
theorem step_lo {j : Nat} (hj : j + 1 ≤ 4398046511104) (h1 : ((j + 1 : Nat) : Rat) * gr * (((j + 1 : Nat) : Rat) * gr) ≤ q) : (j : Rat) * gr * ((j : Rat) * gr) ≤ y := by
  obtain ⟨_, hl⟩ := ap_60 h hq hk
  have hs := step_dl hj
  have e : ((j + 1 : Nat) : Rat) = (j : Rat) + 1 := by rw [Rat.natCast_add]; rfl
  rw [e] at h1 hs
  have hj0 : (0 : Rat) ≤ (j : Rat) := natCast_nonneg j
  generalize (j : Rat) = J at *
  have c0 : 0 ≤ 1 - 60 * dl := by have := dl_small; have := dl_pos; grind
  have m1 := Rat.mul_le_mul_of_nonneg_left h1 c0
  -- ((J+1) g)^2 (1 - 60 dl) >= (J g)^2
  have g2 : 0 ≤ gr * gr := Rat.mul_nonneg (Rat.le_of_lt gr_pos) (Rat.le_of_lt gr_pos)
  have m2 := Rat.mul_le_mul_of_nonneg_right hs (show 0 ≤ (J + 1) * (gr * gr) from Rat.mul_nonneg (by grind) g2)
  have m3 : 0 ≤ J * (gr * gr) := Rat.mul_nonneg hj0 g2
  grind
theorem step_hi {j : Nat} (hj : j ≤ 4398046511104) (h1 : q ≤ (j : Rat) * gr * ((j : Rat) * gr)) : y ≤ ((j + 1 : Nat) : Rat) * gr * (((j + 1 : Nat) : Rat) * gr) := by
  obtain ⟨hl, _⟩ := ap_60 h hq hk
  have hs := step_dl hj
  have e : ((j + 1 : Nat) : Rat) = (j : Rat) + 1 := by rw [Rat.natCast_add]; rfl
  rw [e]
  have hj0 : (0 : Rat) ≤ (j : Rat) := natCast_nonneg j
  generalize (j : Rat) = J at *
  have c0 : 0 ≤ 1 + 60 * dl := by have := dl_pos; grind
  have m1 := Rat.mul_le_mul_of_nonneg_left h1 c0
  have g2 : 0 ≤ gr * gr := Rat.mul_nonneg (Rat.le_of_lt gr_pos) (Rat.le_of_lt gr_pos)
  have m2 := Rat.mul_le_mul_of_nonneg_right hs (show 0 ≤ J * (gr * gr) from Rat.mul_nonneg hj0 g2)
  have m3 : 0 ≤ J * (gr * gr) := Rat.mul_nonneg hj0 g2
  grind
theorem nearR_sqr {w : Nat} (hw : Sqr w y) : NearR (fv w) q := by
  refine ⟨hw.nn, fun j hj => ⟨fun h1 => ?_, fun h1 => ?_⟩⟩
  · cases j with
    | zero => have := hw.nn; have := gr_pos; show ((0 : Nat) : Rat) * gr ≤ _; have e : ((0 : Nat) : Rat) = 0 := rfl; rw [e]; grind
    | succ j =>
      have := hw.lo _ (rep_gr (j := j) (by omega)) (Rat.mul_nonneg (natCast_nonneg j) (Rat.le_of_lt gr_pos)) (step_lo h hq hk hj h1)
      have e : ((j + 1 : Nat) : Rat) = (j : Rat) + 1 := by rw [Rat.natCast_add]; rfl
      rw [e]; grind
  · have := hw.hi _ (rep_gr (j := j + 1) (by omega)) (Rat.mul_nonneg (natCast_nonneg _) (Rat.le_of_lt gr_pos)) (step_hi h hq hk hj h1)
    have e : ((j + 1 : Nat) : Rat) = (j : Rat) + 1 := by rw [Rat.natCast_add]; rfl
    rw [e] at this; grind
end
theorem nearR_ap {V q k : Rat} (h : Ap (V * V) q k) (hq : 0 ≤ q) (hk : k ≤ 60) (hV : 0 ≤ V) : NearR V q := by
  refine ⟨hV, fun j hj => ⟨fun h1 => ?_, fun h1 => ?_⟩⟩
  · cases j with
    | zero => have := gr_pos; show ((0 : Nat) : Rat) * gr ≤ _; have e : ((0 : Nat) : Rat) = 0 := rfl; rw [e]; grind
    | succ j =>
      have := (sq_le (Rat.mul_nonneg (natCast_nonneg j) (Rat.le_of_lt gr_pos)) hV).1 (step_lo h hq hk hj h1)
      have e : ((j + 1 : Nat) : Rat) = (j : Rat) + 1 := by rw [Rat.natCast_add]; rfl
      rw [e]; grind
  · have := (sq_le hV (Rat.mul_nonneg (natCast_nonneg (j + 1)) (Rat.le_of_lt gr_pos))).1 (step_hi h hq hk hj h1)
    have e : ((j + 1 : Nat) : Rat) = (j : Rat) + 1 := by rw [Rat.natCast_add]; rfl
    rw [e] at this; grind
/-- A place of the grid below the root. -/
theorem grid_at {q : Rat} (hq : 0 ≤ q) (hb : q ≤ 4294967296) : ∃ j : Nat, j + 1 ≤ 4398046511104 ∧ (j : Rat) * gr * ((j : Rat) * gr) ≤ q ∧ q ≤ ((j + 1 : Nat) : Rat) * gr * (((j + 1 : Nat) : Rat) * gr) := by
  have hf := Rat.floor_le (q * 1125899906842624)
  have hf2 := Rat.lt_floor_add_one (q * 1125899906842624)
  have hf0 : 0 ≤ (q * 1125899906842624).floor := Rat.le_floor_iff.2 (by show ((0 : Int) : Rat) ≤ _; have : ((0 : Int) : Rat) = 0 := rfl; rw [this]; grind)
  obtain ⟨n, hn⟩ := Int.eq_ofNat_of_zero_le hf0
  rw [hn] at hf hf2
  rw [Rat.intCast_add] at hf2
  obtain ⟨r1, r2⟩ := root_spec n
  generalize Ieee.Datum.rootFrom n (n.log2 / 2 + 1) 0 = j at r1 r2
  have e1 : (((n : Nat) : Int) : Rat) = (n : Rat) := rfl
  have e1' : ((1 : Int) : Rat) = 1 := rfl
  rw [e1] at hf hf2
  rw [e1'] at hf2
  have c1 : ((j * j : Nat) : Rat) ≤ (n : Rat) := natCast_le.2 r1
  have c2 : ((n + 1 : Nat) : Rat) ≤ (((j + 1) * (j + 1) : Nat) : Rat) := natCast_le.2 r2
  rw [Rat.natCast_mul] at c1 c2
  rw [Rat.natCast_add] at c2
  have e2 : ((1 : Nat) : Rat) = 1 := rfl
  rw [e2] at c2
  have g2 : gr * gr = 1 / 1125899906842624 := by decide +kernel
  refine ⟨j, ?_, ?_, ?_⟩
  · refine Nat.le_of_not_lt fun hh => ?_
    have hj : 4398046511104 ≤ j := by omega
    have : 4398046511104 * 4398046511104 ≤ j * j := Nat.mul_le_mul hj hj
    have k1 : ((4398046511104 * 4398046511104 : Nat) : Rat) ≤ (n : Rat) := natCast_le.2 (Nat.le_trans this r1)
    have k2 : ((4398046511104 * 4398046511104 : Nat) : Rat) = 19342813113834066795298816 := by decide +kernel
    grind
  · rw [show (j : Rat) * gr * ((j : Rat) * gr) = (j : Rat) * (j : Rat) * (gr * gr) by grind, g2]
    grind
  · rw [show ((j + 1 : Nat) : Rat) * gr * (((j + 1 : Nat) : Rat) * gr) = ((j + 1 : Nat) : Rat) * ((j + 1 : Nat) : Rat) * (gr * gr) by grind, g2]
    grind
theorem nearR_close {d w q : Rat} (h1 : NearR d q) (h2 : NearR w q) (hq : 0 ≤ q) (hb : q ≤ 4294967296) : ab (d - w) ≤ 1 / 4194304 := by
  obtain ⟨j, hj, a, b⟩ := grid_at hq hb
  have p1 := (h1.2 j (by omega)).1 a
  have p2 := (h1.2 (j + 1) hj).2 b
  have p3 := (h2.2 j (by omega)).1 a
  have p4 := (h2.2 (j + 1) hj).2 b
  have e : ((j + 1 : Nat) : Rat) = (j : Rat) + 1 := by rw [Rat.natCast_add]; rfl
  rw [e] at p2 p4
  have g : gr = 1 / 33554432 := rfl
  generalize (j : Rat) = J at *
  have p5 : (J + 1) * gr = J * gr + gr := by grind
  rw [p5] at p2 p4
  generalize J * gr = K at *
  rw [g] at p1 p2 p3 p4
  unfold ab
  split <;> grind
end Go.Av
