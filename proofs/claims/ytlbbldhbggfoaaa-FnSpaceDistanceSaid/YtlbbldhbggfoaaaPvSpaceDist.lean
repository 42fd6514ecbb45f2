/- The law of SpaceDistance: the distance is the root of the sum of squares, and the same the other way about. -/
import Derived.Test.YtlbbldhbggfoaaaPvExactU6
set_option linter.unusedVariables false
set_option linter.unusedSectionVars false
set_option linter.unusedSimpArgs false
namespace Go.Proofs.Ytlbbldhbggfoaaa.PvSpaceDist
open Go.Av Go
open Go.Proofs.Ytlbbldhbggfoaaa.U6
open Go.Proofs.Ytlbbldhbggfoaaa.PvWholeToU6
open Go.Proofs.Ytlbbldhbggfoaaa.PvSpaceToU6
open Go.Proofs.Ytlbbldhbggfoaaa.PvWholeU6
open Go.Proofs.Ytlbbldhbggfoaaa.PvWhole2U6
open Go.Proofs.Ytlbbldhbggfoaaa.PvDyadicU6
open Go.Proofs.Ytlbbldhbggfoaaa.PvFloatU6
open Go.Proofs.Ytlbbldhbggfoaaa.PvSpaceXU6
theorem bits_eq {x y : Nat} {n : Int} (hx : Wh x n) (hy : Wh y n) (lx : x < 18446744073709551616) (ly : y < 18446744073709551616) (hn : n ≠ 0) : x = y := by
  have hk := fv_inj.1 (hx.2.trans hy.2.symm)
  have h0 : ikey x ≠ 0 := fun h => by
    have : fv x = fv 0 := fv_inj.2 (by rw [h]; rfl)
    rw [hx.2, wh_zero.2] at this
    exact hn (intCast_eq.1 this)
  unfold ikey rung sgn at *
  simp only [beq_iff_eq] at *
  split at hk <;> split at hk <;> split at h0 <;> omega
theorem sqrt_det {x y : Nat} {n : Int} (hx : Wh x n) (hy : Wh y n) (lx : x < 18446744073709551616) (ly : y < 18446744073709551616) (hn : 0 ≤ n ∧ n ≤ 9007199254740992) :
    ∃ z w, fsqrt x = some z ∧ fsqrt y = some w ∧ fv z = fv w ∧ fin z = true ∧ fin w = true := by
  have nn : (0 : Rat) ≤ (n : Rat) := by have := (intCast_le (a := 0) (b := n)).2 hn.1; exact this
  have nb : (n : Rat) < P2 1022 := lt_of_big (by have := (intCast_le (a := n) (b := 9007199254740992)).2 hn.2; have e : ((9007199254740992 : Int) : Rat) = 9007199254740992 := rfl; grind) (by decide)
  obtain ⟨z, e1, s1⟩ := sqrt_sqr hx.1 (by rw [hx.2]; exact nn) (by rw [hx.2]; exact nb)
  obtain ⟨w, e2, s2⟩ := sqrt_sqr hy.1 (by rw [hy.2]; exact nn) (by rw [hy.2]; exact nb)
  refine ⟨z, w, e1, e2, ?_, s1.fin, s2.fin⟩
  by_cases h0 : n = 0
  · have rep0 : Rep 0 := rep_nat (n := 0) (by decide)
    have zero : ∀ {z x : Nat}, Sqr z (fv x) → Wh x n → fv z = 0 := fun {z x} s h => by
      have e : fv x = 0 := by rw [h.2, h0]; rfl
      rw [e] at s
      exact Rat.le_antisymm (s.hi 0 rep0 (by decide) (by grind)) s.nn
    rw [zero s1 hx, zero s2 hy]
  · have := bits_eq hx hy lx ly h0
    subst this
    rw [e1] at e2
    cases e2
    rfl
theorem tol20 : fin 4517110426252607488 = true ∧ fv 4517110426252607488 = P2 (-20) :=
  ⟨by decide +kernel, lit_P2 1054 _ (by decide +kernel) (by decide)⟩
section
variable {N : Nat} (hN : 0 < N) (hNl : 9223372036854775808 ≤ N)
include hN hNl
theorem near_same {z w : Nat} (hz : fin z = true) (hw : fin w = true) (h : fv z = fv w) : laws_nearTo N z w = some true := by
  obtain ⟨d, e, hd⟩ := sub_rnd hz hw (by rw [h, Rat.sub_self]; exact lt_of_big (by decide +kernel) (by decide))
  rw [h, Rat.sub_self] at hd
  have d0 : fv d = 0 := hd.exact (rep_nat (n := 0) (by decide))
  simp only [laws_nearTo, laws_nearTo_g, e, Option.bind_some, PvLdexpU6.abs_def]
  rw [flt_fv (by rw [fabs_fin]; exact hd.fin) tol20.1, fabs_fv, tol20.2, d0]
  have : ab (0 : Rat) = 0 := by unfold ab; grind
  rw [this]
  simp [P2_pos]
theorem dist {a b : P3} {ax ay az bx bY bz : Int} (ha : At a ax ay az) (hb : At b bx bY bz) :
    ∃ x, (impl_Distance3 N a b = fsqrt x) ∧ Wh x ((ax - bx) * (ax - bx) + (ay - bY) * (ay - bY) + (az - bz) * (az - bz)) ∧ x < 18446744073709551616 := by
  obtain ⟨u1, v1, m1, e1, f1, g1, y1, k1⟩ := prodw hN hNl hb.x ha.x hb.x ha.x hb.bx ha.bx hb.bx ha.bx
  obtain ⟨u2, v2, m2, e2, f2, g2, y2, k2⟩ := prodw hN hNl hb.y ha.y hb.y ha.y hb.bY ha.bY hb.bY ha.bY
  obtain ⟨u3, v3, m3, e3, f3, g3, y3, k3⟩ := prodw hN hNl hb.z ha.z hb.z ha.z hb.bz ha.bz hb.bz ha.bz
  rw [e1] at f1; cases f1
  rw [e2] at f2; cases f2
  rw [e3] at f3; cases f3
  generalize (ax - bx) * (ax - bx) = p1 at *
  generalize (ay - bY) * (ay - bY) = p2 at *
  generalize (az - bz) * (az - bz) = p3 at *
  obtain ⟨s1, h1, z1⟩ := add_wh y1 y2 (by omega)
  obtain ⟨s2, h2, z2⟩ := add_wh z1 y3 (by omega)
  refine ⟨s2, ?_, z2, add_lt h2⟩
  have n0 : ∀ p : P3, nth [p.1, p.2.1, p.2.2.1] 0 = some p.1 := fun _ => rfl
  have n1 : ∀ p : P3, nth [p.1, p.2.1, p.2.2.1] 1 = some p.2.1 := fun _ => rfl
  have n2 : ∀ p : P3, nth [p.1, p.2.1, p.2.2.1] 2 = some p.2.2.1 := fun _ => rfl
  have i1 : math_IsNaN N a.2.2.1 = some false := by
    simp only [math_IsNaN, math_IsNaN_g]
    rw [fne_not, feq_self, fin_not_nan ha.z.1]; rfl
  have i2 : math_IsNaN N b.2.2.1 = some false := by
    simp only [math_IsNaN, math_IsNaN_g]
    rw [fne_not, feq_self, fin_not_nan hb.z.1]; rfl
  simp only [impl_Distance3, impl_Distance3_g, impl_coord3, impl_coord3_g, xyz_Distance, xyz_Distance_g, Option.bind_some, n0, n1, n2, i1, i2, cond_false, e1, e2, e3, g1, g2, g3, h1, h2, math_Sqrt, math_Sqrt_g, math_sqrt]
  cases fsqrt s2 <;> rfl
theorem sq_nn (a : Int) : 0 ≤ a * a := by
  rcases Int.le_total 0 a with h | h
  · exact Int.mul_nonneg h h
  · exact Int.mul_nonneg_of_nonpos_of_nonpos h h
theorem law (a b : P3) (la : a.1 < 18446744073709551616 ∧ a.2.1 < 18446744073709551616 ∧ a.2.2.1 < 18446744073709551616) (lb : b.1 < 18446744073709551616 ∧ b.2.1 < 18446744073709551616 ∧ b.2.2.1 < 18446744073709551616) : laws_FnSpaceDistance N a b = some true := by
  unfold laws_FnSpaceDistance laws_FnSpaceDistance_g
  have eta : ∀ p : P3, (p.1, p.2.1, p.2.2.1, ()) = p := fun _ => rfl
  simp only [eta]
  rcases spaceTo b20 (by decide) (N := N) (by omega) [a, b] (by simp; omega) (by simp) with h | ⟨h, hs⟩
  · rw [h]; rfl
  rw [h]
  have at_ : ∀ p : P3, p ∈ [a, b] → (p.1 < 18446744073709551616 ∧ p.2.1 < 18446744073709551616 ∧ p.2.2.1 < 18446744073709551616) → ∃ X Y Z, At p X Y Z := fun p hp l => by
    obtain ⟨⟨X, w1, b1, b2⟩, ⟨Y, w2, b3, b4⟩, ⟨Z, w3, b5, b6⟩⟩ := hs p hp
    exact ⟨X, Y, Z, w1, w2, w3, by omega, by omega, by omega, l.1, l.2.1, l.2.2⟩
  obtain ⟨ax, ay, az, ha⟩ := at_ a (by simp) la
  obtain ⟨bx, bY, bz, hb⟩ := at_ b (by simp) lb
  obtain ⟨A, ea, a1, a2, a3⟩ := exact3 hN hNl ha
  obtain ⟨B, eb, b1, b2, b3⟩ := exact3 hN hNl hb
  obtain ⟨U, eu, u1, u2, u3⟩ := way3 hN hNl a1 a2 a3 b1 b2 b3
  obtain ⟨S, es, s1⟩ := dot3 hN hNl u1 u2 u3 u1 u2 u3
  have etaY : ∀ p : DY, ((p.1.1, p.1.2.1, ()), p.2.1, ()) = p := fun _ => rfl
  have eta3 : ∀ p : DY × (DY × (DY × Unit)), (p.1, p.2.1, p.2.2.1, ()) = p := fun _ => rfl
  have esq : spec_Square3 N A B = some S := by
    simp only [spec_Square3, spec_Square3_g, etaY, eta3, eu, es, Option.bind_some]
  obtain ⟨x, ex, wx, lx⟩ := dist hN hNl ha hb
  obtain ⟨y, ey, wy, ly⟩ := dist hN hNl hb ha
  have eS : ((ax : Rat) - bx) * ((ax : Rat) - bx) + ((ay : Rat) - bY) * ((ay : Rat) - bY) + ((az : Rat) - bz) * ((az : Rat) - bz) = (((ax - bx) * (ax - bx) + (ay - bY) * (ay - bY) + (az - bz) * (az - bz) : Int) : Rat) := by
    simp only [Rat.intCast_add, Rat.intCast_mul, Rat.intCast_sub]
  rw [eS] at s1
  have k1 := bnd hN hNl hb.bx ha.bx hb.bx ha.bx
  have k2 := bnd hN hNl hb.bY ha.bY hb.bY ha.bY
  have k3 := bnd hN hNl hb.bz ha.bz hb.bz ha.bz
  have j1 := sq_nn hN hNl (ax - bx)
  have j2 := sq_nn hN hNl (ay - bY)
  have j3 := sq_nn hN hNl (az - bz)
  have c1 : (bx - ax) * (bx - ax) = (ax - bx) * (ax - bx) := by rw [← Int.neg_sub ax bx, Int.neg_mul_neg]
  have c2 : (bY - ay) * (bY - ay) = (ay - bY) * (ay - bY) := by rw [← Int.neg_sub ay bY, Int.neg_mul_neg]
  have c3 : (bz - az) * (bz - az) = (az - bz) * (az - bz) := by rw [← Int.neg_sub az bz, Int.neg_mul_neg]
  rw [c1, c2, c3] at wy
  generalize (ax - bx) * (ax - bx) = p1 at *
  generalize (ay - bY) * (ay - bY) = p2 at *
  generalize (az - bz) * (az - bz) = p3 at *
  obtain ⟨f, ef, wf, lf⟩ : ∃ f, spec_Dyadic_Float N S = some f ∧ Wh f (p1 + p2 + p3) ∧ f < 18446744073709551616 := by
    obtain ⟨f, ef, hr, lf⟩ := dfloat hN hNl s1 (by decide) (by
      by_cases h0 : p1 + p2 + p3 = 0
      · left; rw [h0]; rfl
      · right
        rw [ab_int]
        constructor
        · have h1 : P2 (-900) ≤ P2 0 := P2_le (by decide)
          rw [P2_zero] at h1
          have h2 : ((1 : Nat) : Rat) ≤ (((p1 + p2 + p3).natAbs : Nat) : Rat) := Rat.not_lt.1 fun hh => by have := natCast_lt.1 hh; omega
          exact Rat.le_trans h1 h2
        · have h2 : (((p1 + p2 + p3).natAbs : Nat) : Rat) < P2 60 := by rw [show (60 : Int) = ((60 : Nat) : Int) from rfl, P2_nat]; exact natCast_lt.2 (by omega)
          have h3 : P2 60 ≤ P2 900 := P2_le (by decide)
          grind)
    exact ⟨f, ef, hr.whole (by omega), lf⟩
  obtain ⟨z, w, q1, q2, q3, q4, q5⟩ := sqrt_det wx wf lx lf ⟨by omega, by omega⟩
  obtain ⟨z', w', r1, r2, r3, r4, r5⟩ := sqrt_det wx wy lx ly ⟨by omega, by omega⟩
  rw [q1] at r1
  cases r1
  simp only [Option.bind_some, Bool.not_true, cond_false, ea, eb, esq, ex, ey, q1, ef, math_Sqrt, math_Sqrt_g, math_sqrt, q2, near_same hN hNl q4 q5 q3, cond_true, r2]
  rw [feq_fv r4 r5, r3]
  simp
end
end Go.Proofs.Ytlbbldhbggfoaaa.PvSpaceDist
