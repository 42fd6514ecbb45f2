/- The laws of Unit2 and Unit3: the unit vector has nearly the length 1 and the vector's own way. -/
import Derived.Test.YtlbbldhbggfoaaaPvWhole23U34
import Derived.Test.YtlbbldhbggfoaaaFl15
set_option linter.unusedVariables false
set_option linter.unusedSectionVars false
set_option linter.unusedSimpArgs false
namespace Go.Proofs.Ytlbbldhbggfoaaa.PvUnit
open Go.Av Go
open Go.Proofs.Ytlbbldhbggfoaaa.U34
open Go.Proofs.Ytlbbldhbggfoaaa.PvGridU34
open Go.Proofs.Ytlbbldhbggfoaaa.PvWhole23U34
theorem abs_def {N x : Nat} : math_Abs N x = some (fabs x) := by
  simp only [math_Abs, math_Abs_g, math_Float64bits, math_Float64frombits, Option.bind_some, abs_bits, Int.toNat_natCast, fabs]
theorem tol40 : fin 4427038433705197568 = true ∧ fv 4427038433705197568 = P2 (-40) :=
  ⟨by decide +kernel, lit_P2 1034 _ (by decide +kernel) (by decide)⟩
theorem tol20 : fin 4517110426252607488 = true ∧ fv 4517110426252607488 = P2 (-20) :=
  ⟨by decide +kernel, lit_P2 1054 _ (by decide +kernel) (by decide)⟩
/-- The inverse of a length. -/
theorem inv_ap {n : Nat} (hn : fin n = true) (h1 : 1 / 2 ≤ fv n) (h2 : fv n ≤ 4294967296) :
    ∃ d V, Ieee.double.div 4607182418800017408 n = some d ∧ fin d = true ∧ V * fv n = 1 ∧ Ap (fv d) V 1 ∧ 1 / 4294967296 ≤ fv d ∧ fv d ≤ 2 := by
  have hne : fv n ≠ 0 := by grind
  have hV : 1 / fv n * fv n = 1 := Rat.div_mul_cancel hne
  have hpos : (0 : Rat) < fv n := by grind
  generalize 1 / fv n = V at hV
  have V0 : 1 / 4294967296 ≤ V := by
    refine Rat.not_lt.1 fun h => ?_
    have := (ratmul_lt hpos).2 h
    grind
  have V1 : V ≤ 2 := by
    refine Rat.not_lt.1 fun h => ?_
    have := (ratmul_lt hpos).2 h
    grind
  obtain ⟨d, e, hd⟩ := div_rnq one_wh.1 hn hne (by rw [hV]; exact one_wh.2.symm) (by rw [ab_of_nonneg (by grind)]; exact lt_of_big (by grind) (by decide))
  have p32 : P2 (-32) = 1 / 4294967296 := P2_lit (by decide +kernel)
  have b1 := hd.lo (1 / 4294967296) (rep_lit (-32) (by decide) (by decide +kernel)) V0
  have b2 := hd.hi 2 (rep_nat (n := 2) (by decide)) V1
  refine ⟨d, V, e, hd.fin, hV, hd.ap ?_, b1, b2⟩
  right
  rw [ab_of_nonneg (by grind)]
  have : P2 (-900) ≤ P2 (-32) := P2_le (by decide)
  grind
theorem whole_ab {X : Int} (h : -1048576 ≤ X ∧ X ≤ 1048576) : (X = 0 ∨ 1 ≤ ab (X : Rat)) ∧ ab (X : Rat) ≤ 1048576 := by
  rw [ab_int]
  constructor
  · by_cases h0 : X = 0
    · exact .inl h0
    · right
      have : (1 : Nat) ≤ X.natAbs := by omega
      exact_mod_cast this
  · have : X.natAbs ≤ 1048576 := by omega
    exact_mod_cast this
/-- One number of a unit vector. -/
theorem coord {n d x : Nat} {X : Int} {V : Rat} (hx : Wh x X) (hX : -1048576 ≤ X ∧ X ≤ 1048576) (hn : fin n = true) (h1 : 1 / 2 ≤ fv n) (h2 : fv n ≤ 4294967296)
    (hd : fin d = true) (hV : V * fv n = 1) (had : Ap (fv d) V 1) (h3 : 1 / 4294967296 ≤ fv d) (h4 : fv d ≤ 2) :
    ∃ u a v w, Ieee.double.mul d x = some u ∧ Ieee.double.mul u u = some a ∧ fin a = true ∧ 0 ≤ fv a ∧ fv a ≤ 17592186044416 ∧ (fv a = 0 ∨ P2 (-66) ≤ fv a) ∧ Ap (fv a) (fv d * (X : Rat) * (fv d * (X : Rat))) 5 ∧
      Ieee.double.mul u n = some v ∧ Ieee.double.sub v x = some w ∧ flt (fabs w) 4517110426252607488 = true := by
  obtain ⟨w1, w2⟩ := whole_ab hX
  have hd0 : (0 : Rat) ≤ fv d := by grind
  have dab : ab (fv d) = fv d := ab_of_nonneg hd0
  have nab : ab (fv n) = fv n := ab_of_nonneg (by grind)
  have xv : fv x = (X : Rat) := hx.2
  have n0 := ab_nonneg (X : Rat)
  have pm : ∀ i : Int, -900 ≤ i → P2 (-900) ≤ P2 i := fun i hi => P2_le hi
  have p32 : P2 (-32) = 1 / 4294967296 := P2_lit (by decide +kernel)
  have p33 : P2 (-66) ≤ P2 (-33) * P2 (-33) := by rw [← P2_add]; exact Rat.le_refl
  have q33 : P2 (-33) = 1 / 8589934592 := P2_lit (by decide +kernel)
  -- the product
  have ub : ab (fv d * (X : Rat)) ≤ 2097152 := by
    rw [ab_mul, dab]
    have := Rat.mul_le_mul_of_nonneg_left w2 hd0
    grind
  have lb : X = 0 ∨ 1 / 4294967296 ≤ ab (fv d * (X : Rat)) := by
    rcases w1 with h | h
    · exact .inl h
    · right
      rw [ab_mul, dab]
      have := Rat.mul_le_mul_of_nonneg_left h hd0
      grind
  obtain ⟨u, eu, hu⟩ := mul_rnd hd hx.1 (by rw [xv]; exact lt_of_big (by grind) (by decide))
  rw [xv] at hu
  have au := hu.ap (by
    rcases lb with h | h
    · left; rw [h]; show fv d * ((0 : Int) : Rat) = 0; grind
    · right; exact Rat.le_trans (pm (-32) (by decide)) (by rw [p32]; exact h))
  have hup := au.up2 (by decide)
  have hdown := au.down2 (by decide)
  have uu : ab (fv u) ≤ 4194304 := by grind
  have z2 : ab (0 : Rat) = 0 := by unfold ab; grind
  have ul : X = 0 ∧ fv u = 0 ∨ 1 / 8589934592 ≤ ab (fv u) := by
    rcases lb with h | h
    · left
      refine ⟨h, ?_⟩
      have z : fv d * (X : Rat) = 0 := by rw [h]; show fv d * (0 : Rat) = 0; grind
      rw [z, z2] at hup
      have := ab_nonneg (fv u)
      exact ab_zero_iff.1 (by grind)
    · right; grind
  have u0 := ab_nonneg (fv u)
  -- its square
  have uu0 : 0 ≤ fv u * fv u := by
    by_cases h : 0 ≤ fv u
    · exact Rat.mul_nonneg h h
    · have := Rat.mul_nonneg (a := - fv u) (b := - fv u) (by grind) (by grind); grind
  have uu2 : fv u * fv u ≤ 17592186044416 := by
    rw [← ab_of_nonneg uu0, ab_mul]
    have m1 := Rat.mul_le_mul_of_nonneg_left uu u0
    grind
  have uul : fv u * fv u = 0 ∨ P2 (-66) ≤ ab (fv u * fv u) := by
    rcases ul with ⟨_, h⟩ | h
    · left; rw [h]; grind
    · right
      rw [ab_mul]
      have e66 : P2 (-66) = P2 (-33) * P2 (-33) := by rw [← P2_add]; rfl
      rw [e66, q33]
      have m1 := Rat.mul_le_mul_of_nonneg_left h u0
      have m2 := Rat.mul_le_mul_of_nonneg_right h (show (0 : Rat) ≤ 1 / 8589934592 by decide +kernel)
      grind
  obtain ⟨a, ea, ha⟩ := mul_rnd hu.fin hu.fin (by rw [ab_of_nonneg uu0]; exact lt_of_big (by grind) (by decide))
  have aa := ha.ap (by
    rcases uul with h | h
    · exact .inl h
    · right; exact Rat.le_trans (pm (-66) (by decide)) h)
  have rep0 : Rep 0 := rep_nat (n := 0) (by decide)
  have a0 := ha.lo 0 rep0 uu0
  have a1 := ha.hi 17592186044416 (rep_nat (n := 17592186044416) (by decide)) uu2
  have al : fv a = 0 ∨ P2 (-66) ≤ fv a := by
    rcases uul with h | h
    · left; rw [h] at ha; exact ha.exact rep0
    · right; rw [ab_of_nonneg uu0] at h; exact ha.lo _ (rep_P2 (by decide)) h
  have aq : Ap (fv a) (fv d * (X : Rat) * (fv d * (X : Rat))) 5 :=
    (aa.trans ((au.mul au (by decide) (by decide) (by decide) (by decide)).mono (show (1 : Rat) + 1 + 1 ≤ 3 by decide +kernel)) (by decide) (by decide +kernel) (by decide +kernel) (by decide +kernel)).mono (by decide +kernel)
  -- back to the vector
  have un : ab (fv u * fv n) ≤ 18014398509481984 := by
    rw [ab_mul, nab]
    have m1 := Rat.mul_le_mul_of_nonneg_left h2 u0
    have m2 := Rat.mul_le_mul_of_nonneg_right uu (show (0 : Rat) ≤ 4294967296 by decide)
    grind
  have unl : fv u * fv n = 0 ∨ P2 (-34) ≤ ab (fv u * fv n) := by
    rcases ul with ⟨_, h⟩ | h
    · left; rw [h]; grind
    · right
      rw [ab_mul, nab]
      have q34 : P2 (-34) = 1 / 17179869184 := P2_lit (by decide +kernel)
      rw [q34]
      have m1 := Rat.mul_le_mul_of_nonneg_left h1 u0
      grind
  obtain ⟨v, ev, hv⟩ := mul_rnd hu.fin hn (lt_of_big (by grind) (by decide))
  have av := hv.ap (by
    rcases unl with h | h
    · exact .inl h
    · right; exact Rat.le_trans (pm (-34) (by decide)) h)
  have dn : Ap (fv d * fv n) 1 2 := by
    have := had.mul (Ap.refl (fv n)) (by decide) (by decide) (by decide) (by decide)
    rw [hV] at this
    exact this.mono (by decide +kernel)
  have c1 : Ap (fv u * fv n) (fv d * (X : Rat) * fv n) 2 := (au.mul (Ap.refl (fv n)) (by decide) (by decide) (by decide) (by decide)).mono (by decide +kernel)
  have c2 : Ap (fv d * fv n * (X : Rat)) (1 * (X : Rat)) 3 := (dn.mul (Ap.refl (X : Rat)) (by decide +kernel) (by decide +kernel) (by decide) (by decide)).mono (by decide +kernel)
  rw [show fv d * (X : Rat) * fv n = fv d * fv n * (X : Rat) by grind] at c1
  have c3 : Ap (fv u * fv n) (1 * (X : Rat)) 6 := (c1.trans c2 (by decide +kernel) (by decide +kernel) (by decide +kernel) (by decide +kernel)).mono (by decide +kernel)
  have c4 : Ap (fv v) (X : Rat) 8 := by
    have := (av.trans c3 (by decide) (by decide +kernel) (by decide +kernel) (by decide +kernel)).mono (show (1 : Rat) + 6 + 1 ≤ 8 by decide +kernel)
    rw [Rat.one_mul] at this
    exact this
  unfold Ap at c4
  have dle : dl = 1 / 281474976710656 := P2_lit (by decide +kernel)
  have c5 : ab (fv v - (X : Rat)) ≤ 1 / 33554432 := by
    have m1 := Rat.mul_le_mul_of_nonneg_left w2 (show (0 : Rat) ≤ 8 * dl by rw [dle]; decide +kernel)
    rw [dle] at m1 c4
    grind
  obtain ⟨w, ew, hw⟩ := sub_rnd hv.fin hx.1 (by rw [xv]; exact lt_of_big (by grind) (by decide))
  rw [xv] at hw
  refine ⟨u, a, v, w, eu, ea, ha.fin, a0, a1, al, aq, ev, ew, ?_⟩
  rw [flt_fv (by rw [fabs_fin]; exact hw.fin) tol20.1, fabs_fv, tol20.2]
  have e20 : P2 (-20) = 1 / 1048576 := P2_lit (by decide +kernel)
  have g1 := hw.hi (1 / 33554432) (rep_lit (-25) (by decide) (by decide +kernel)) (by unfold ab at c5; grind)
  have g2 := hw.lo (-(1 / 33554432)) (rep_neg (rep_lit (-25) (by decide) (by decide +kernel))) (by unfold ab at c5; grind)
  rw [e20]
  simp only [decide_eq_true_eq]
  unfold ab
  split <;> grind
/-- A square that is near 1. -/
theorem near_one {s : Nat} (hs : fin s = true) (h : Ap (fv s) 1 60) : ∃ w, Ieee.double.sub s 4607182418800017408 = some w ∧ flt (fabs w) 4427038433705197568 = true := by
  have dle : dl = 1 / 281474976710656 := P2_lit (by decide +kernel)
  unfold Ap at h
  rw [dle, show ab (1 : Rat) = 1 by unfold ab; grind] at h
  have h2 : ab (fv s - 1) ≤ 1 / 4398046511104 := by grind
  obtain ⟨w, ew, hw⟩ := sub_rnd hs one_wh.1 (by rw [one_wh.2]; show ab (fv s - 1) < _; exact lt_of_big (by grind) (by decide))
  have o1 : fv 4607182418800017408 = 1 := one_wh.2
  rw [o1] at hw
  refine ⟨w, ew, ?_⟩
  rw [flt_fv (by rw [fabs_fin]; exact hw.fin) tol40.1, fabs_fv, tol40.2]
  have e40 : P2 (-40) = 1 / 1099511627776 := P2_lit (by decide +kernel)
  have g1 := hw.hi (1 / 4398046511104) (rep_lit (-42) (by decide) (by decide +kernel)) (by unfold ab at h2; grind)
  have g2 := hw.lo (-(1 / 4398046511104)) (rep_neg (rep_lit (-42) (by decide) (by decide +kernel))) (by unfold ab at h2; grind)
  rw [e40]
  simp only [decide_eq_true_eq]
  unfold ab
  split <;> grind
/-- The sum of two squares, rounded. -/
theorem sum_ap {a b : Nat} {v w k : Rat} (ha : fin a = true) (hb : fin b = true) (a0 : 0 ≤ fv a) (a1 : fv a ≤ 70368744177664) (b0 : 0 ≤ fv b) (b1 : fv b ≤ 70368744177664) (h1 : Ap (fv a) v k) (h2 : Ap (fv b) w k)
    (hv : 0 ≤ v) (hw : 0 ≤ w) (hk : 0 ≤ k) (hk2 : k ≤ 90) (la : fv a = 0 ∨ P2 (-66) ≤ fv a) (lb : fv b = 0 ∨ P2 (-66) ≤ fv b) :
    ∃ s, Ieee.double.add a b = some s ∧ fin s = true ∧ 0 ≤ fv s ∧ fv s ≤ 140737488355328 ∧ (fv a ≤ 17592186044416 → fv b ≤ 17592186044416 → fv s ≤ 35184372088832) ∧ (fv s = 0 ∨ P2 (-66) ≤ fv s) ∧ Ap (fv s) (v + w) (k + 2) := by
  have s0 : 0 ≤ fv a + fv b := by grind
  have rep0 : Rep 0 := rep_nat (n := 0) (by decide)
  have hz : fv a + fv b = 0 ∨ P2 (-66) ≤ fv a + fv b := by grind
  have pm : P2 (-900) ≤ P2 (-66) := P2_le (by decide)
  obtain ⟨s, es, hs⟩ := add_rnd ha hb (by rw [ab_of_nonneg s0]; exact lt_of_big (by grind) (by decide))
  have sa := hs.ap (by rw [ab_of_nonneg s0]; grind)
  refine ⟨s, es, hs.fin, hs.lo 0 rep0 (by grind), hs.hi 140737488355328 (rep_nat (n := 140737488355328) (by decide)) (by grind), fun _ _ => hs.hi 35184372088832 (rep_nat (n := 35184372088832) (by decide)) (by grind), ?_, ?_⟩
  · rcases hz with h | h
    · left; rw [h] at hs; exact hs.exact rep0
    · right; exact hs.lo _ (rep_P2 (by decide)) h
  · exact (sa.trans (h1.add h2 hv hw) (by decide) (by decide +kernel) hk (by grind)).mono (by grind)
theorem sq_nonneg (v : Rat) : 0 ≤ v * v := by
  by_cases h : 0 ≤ v
  · exact Rat.mul_nonneg h h
  · have := Rat.mul_nonneg (a := - v) (b := - v) (by grind) (by grind); grind
/-- The square of the inverse, times the sum. -/
theorem back {n d : Nat} {V S : Rat} {k m : Rat} (hV : V * fv n = 1) (had : Ap (fv d) V 1) (hn : Ap (fv n * fv n) S k) (hk : 0 ≤ k) (hk2 : k ≤ 40) {s : Nat} (hs : Ap (fv s) (fv d * fv d * S) m) (hm : 0 ≤ m) (hm2 : m ≤ 10) (hkm : m + k ≤ 50) :
    Ap (fv s) 1 60 := by
  have dn : Ap (fv d * fv n) 1 2 := by
    have := had.mul (Ap.refl (fv n)) (by decide) (by decide) (by decide) (by decide)
    rw [hV] at this
    exact this.mono (by decide +kernel)
  have d2 : Ap (fv d * fv n * (fv d * fv n)) (1 * 1) 5 := (dn.mul dn (by decide) (by decide +kernel) (by decide) (by decide +kernel)).mono (by decide +kernel)
  have sn : Ap S (fv n * fv n) (k + 1) := hn.symm hk (by grind)
  have c1 : Ap (fv d * fv d * S) (fv d * fv d * (fv n * fv n)) (0 + (k + 1) + 1) := (Ap.refl _).mul sn (by decide) (by decide) (by grind) (by grind)
  rw [show fv d * fv d * (fv n * fv n) = fv d * fv n * (fv d * fv n) by grind] at c1
  have c2 := c1.trans d2 (by grind) (by grind) (by decide) (by decide +kernel)
  have c3 := hs.trans c2 hm (by grind) (by grind) (by grind)
  rw [show (1 : Rat) * 1 = 1 by grind] at c3
  exact c3.mono (by grind)
theorem half_of {x : Nat} {X : Int} (hx : Wh x X) (hX : -1048576 ≤ X ∧ X ≤ 1048576) : (fv x = 0 ∨ 1 / 2 ≤ ab (fv x)) ∧ ab (fv x) ≤ 2147483648 := by
  obtain ⟨w1, w2⟩ := whole_ab hX
  rw [hx.2]
  refine ⟨?_, by grind⟩
  rcases w1 with h | h
  · left; rw [h]; rfl
  · right; grind
theorem inner {y z : Nat} {Y Z : Int} (hy : Wh y Y) (hz : Wh z Z) (hY : -1048576 ≤ Y ∧ Y ≤ 1048576) (hZ : -1048576 ≤ Z ∧ Z ≤ 1048576) :
    ∃ m, fhypot y z = some m ∧ fin m = true ∧ (fv m = 0 ∧ fv y = 0 ∧ fv z = 0 ∨ 1 / 2 ≤ fv m) ∧ ab (fv m) ≤ 2147483648 ∧ Ap (fv m * fv m) (fv y * fv y + fv z * fv z) 14 := by
  obtain ⟨p3, p4⟩ := half_of hy hY
  obtain ⟨p5, p6⟩ := half_of hz hZ
  have e0 : fv 0 = 0 := wh_zero.2
  by_cases hq : fv y = 0 ∧ fv z = 0
  · refine ⟨0, hypot_zero hq.1 hq.2, wh_zero.1, .inl ⟨e0, hq⟩, ?_, ?_⟩
    · rw [e0]; decide +kernel
    · rw [hq.1, hq.2, e0, show (0 : Rat) * 0 + 0 * 0 = 0 * 0 by grind]
      exact Ap.mono (k := 0) (l := 14) (Ap.refl _) (by decide +kernel)
  · obtain ⟨m, em, fm, m1, m2, ma⟩ := hypot_ap hy.1 hz.1 p3 p4 p5 p6 hq
    refine ⟨m, em, fm, .inr m1, ?_, ma⟩
    have hm := ma.up2 (by decide +kernel)
    -- a bound from the numbers
    obtain ⟨_, wy⟩ := whole_ab hY
    obtain ⟨_, wz⟩ := whole_ab hZ
    rw [ab_of_nonneg (show 0 ≤ fv m by grind)]
    refine Rat.not_lt.1 fun hgt => ?_
    have k1 := Rat.mul_le_mul_of_nonneg_left (Rat.le_of_lt hgt) (show 0 ≤ fv m by grind)
    have k2 := Rat.mul_le_mul_of_nonneg_right (Rat.le_of_lt hgt) (show (0 : Rat) ≤ 2147483648 by decide)
    rw [ab_of_nonneg (sq_nonneg _), hy.2, hz.2, ab_of_nonneg (by have := sq_nonneg (Y : Rat); have := sq_nonneg (Z : Rat); grind)] at hm
    have k3 : (Y : Rat) * (Y : Rat) ≤ 1099511627776 := by
      rw [← ab_of_nonneg (sq_nonneg (Y : Rat)), ab_mul]
      have := Rat.mul_le_mul_of_nonneg_left wy (ab_nonneg (Y : Rat)); grind
    have k4 : (Z : Rat) * (Z : Rat) ≤ 1099511627776 := by
      rw [← ab_of_nonneg (sq_nonneg (Z : Rat)), ab_mul]
      have := Rat.mul_le_mul_of_nonneg_left wz (ab_nonneg (Z : Rat)); grind
    grind
theorem law2 (v1 : Nat × (Nat × Unit)) : laws_FnUnit2 18446744073709551616 v1 = some true := by
  generalize hN : 18446744073709551616 = N
  have hN0 : 0 < N := by omega
  obtain ⟨x, y, ⟨⟩⟩ := v1
  unfold laws_FnUnit2 laws_FnUnit2_g laws_whole2 laws_whole2_g
  obtain ⟨t, h1, h2⟩ := whole2 (N := N) (by omega) (by omega) [(x, y, ())] (by simp) 1 0 N (by simp) (by omega)
  rw [show ((0 : Nat) : Int) = 0 from rfl] at h1
  rw [h1]
  cases t with
  | false => rfl
  | true =>
    obtain ⟨⟨X, hx, x1, x2⟩, ⟨Y, hy, y1, y2⟩⟩ := h2 rfl 0 _ (by omega) rfl
    simp only at hx hy
    simp only [Option.bind_some, Bool.not_true, cond_false, Bool.and_true]
    cases h0 : feq x 0 && feq y 0 with
    | true => rfl
    | false =>
      simp only [cond_false]
      have hne : ¬ (fv x = 0 ∧ fv y = 0) := by
        rintro ⟨q1, q2⟩
        rw [feq_fv hx.1 wh_zero.1, feq_fv hy.1 wh_zero.1, wh_zero.2, q1, q2] at h0
        exact absurd h0 (by decide +kernel)
      obtain ⟨p1, p2⟩ := half_of hx ⟨x1, x2⟩
      obtain ⟨p3, p4⟩ := half_of hy ⟨y1, y2⟩
      obtain ⟨n, en, fn, n1, n2, na⟩ := hypot_ap hx.1 hy.1 p1 p2 p3 p4 hne
      obtain ⟨d, V, ed, fd, hV, had, d1, d2⟩ := inv_ap fn n1 n2
      obtain ⟨u, a, v, w, e1, e2, fa, a0, a1, al, aa, e3, e4, e5⟩ := coord hx ⟨x1, x2⟩ fn n1 n2 fd hV had d1 d2
      obtain ⟨u', a', v', w', e1', e2', fa', a0', a1', al', aa', e3', e4', e5'⟩ := coord hy ⟨y1, y2⟩ fn n1 n2 fd hV had d1 d2
      obtain ⟨s, es, fs, s0, s1, s3, sl, sa⟩ := sum_ap fa fa' a0 (by grind) a0' (by grind) aa aa' (sq_nonneg _) (sq_nonneg _) (by decide) (by decide +kernel) al al'
      rw [hx.2, hy.2] at na
      rw [show fv d * (X : Rat) * (fv d * (X : Rat)) + fv d * (Y : Rat) * (fv d * (Y : Rat)) = fv d * fv d * ((X : Rat) * (X : Rat) + (Y : Rat) * (Y : Rat)) by grind] at sa
      obtain ⟨z, ez, hz⟩ := near_one fs (back hV had na (by decide) (by decide +kernel) sa (by decide +kernel) (by decide +kernel) (by decide +kernel))
      have hunit : r2_Unit N (x, y, ()) = some (u, u', ()) := by
        have g : r2_Unit_j0 N (x, y, ()) = some (u, u', ()) := by
          simp only [r2_Unit_j0, r2_Unit_g0, gate_pos hN0, r2_Norm, r2_Norm_g, math_Hypot, math_Hypot_g, math_archHypot, en, ed, Option.bind_some, r2_Scale, r2_Scale_g, e1, e1']
        simp only [r2_Unit, r2_Unit_g, g]
        cases q1 : feq x 0 with
        | false => rfl
        | true =>
          cases q2 : feq y 0 with
          | false => rfl
          | true => rw [q1, q2] at h0; cases h0
      simp only [impl_Unit2, impl_Unit2_g, impl_vec2, impl_vec2_g, hunit, impl_plainP2, impl_plainP2_g, impl_Length2, impl_Length2_g, r2_Norm, r2_Norm_g, math_Hypot, math_Hypot_g, math_archHypot, en, Option.bind_some,
        impl_Square2, impl_Square2_g, r2_Norm2, r2_Norm2_g, e2, e2', es, ez, abs_def, hz, cond_true, e3, e4, e5, e3', e4', e5']
theorem law3 (v1 : Nat × (Nat × (Nat × Unit))) : laws_FnUnit3 18446744073709551616 v1 = some true := by
  generalize hN : 18446744073709551616 = N
  have hN0 : 0 < N := by omega
  obtain ⟨x, y, z, ⟨⟩⟩ := v1
  unfold laws_FnUnit3 laws_FnUnit3_g laws_whole3 laws_whole3_g
  obtain ⟨t, h1, h2⟩ := whole3 (N := N) (by omega) (by omega) [(x, y, z, ())] (by simp) 1 0 N (by simp) (by omega)
  rw [show ((0 : Nat) : Int) = 0 from rfl] at h1
  rw [h1]
  cases t with
  | false => rfl
  | true =>
    obtain ⟨⟨X, hx, x1, x2⟩, ⟨Y, hy, y1, y2⟩, ⟨Z, hz, z1, z2⟩⟩ := h2 rfl 0 _ (by omega) rfl
    simp only at hx hy hz
    simp only [Option.bind_some, Bool.not_true, cond_false, Bool.and_true]
    cases h0 : feq x 0 && (feq y 0 && feq z 0) with
    | true => rfl
    | false =>
      simp only [cond_false]
      have hne : ¬ (fv x = 0 ∧ fv y = 0 ∧ fv z = 0) := by
        rintro ⟨q1, q2, q3⟩
        rw [feq_fv hx.1 wh_zero.1, feq_fv hy.1 wh_zero.1, feq_fv hz.1 wh_zero.1, wh_zero.2, q1, q2, q3] at h0
        exact absurd h0 (by decide +kernel)
      obtain ⟨p1, p2⟩ := half_of hx ⟨x1, x2⟩
      obtain ⟨p3, p4⟩ := half_of hy ⟨y1, y2⟩
      obtain ⟨p5, p6⟩ := half_of hz ⟨z1, z2⟩
      obtain ⟨m, em, fm, m1, m2, ma⟩ := inner hy hz ⟨y1, y2⟩ ⟨z1, z2⟩
      have mh : fv m = 0 ∨ 1 / 2 ≤ ab (fv m) := by
        rcases m1 with h | h
        · exact .inl h.1
        · right; rw [ab_of_nonneg (by grind)]; exact h
      have hne2 : ¬ (fv x = 0 ∧ fv m = 0) := by
        rintro ⟨q1, q2⟩
        rcases m1 with h | h
        · exact hne ⟨q1, h.2⟩
        · grind
      obtain ⟨n, en, fn, n1, n2, na⟩ := hypot_ap hx.1 fm p1 p2 mh m2 hne2
      have na2 : Ap (fv n * fv n) ((X : Rat) * (X : Rat) + ((Y : Rat) * (Y : Rat) + (Z : Rat) * (Z : Rat))) 29 := by
        have := Ap.trans (a := 14) (b := 14) na (((Ap.refl (fv x * fv x)).mono (show (0 : Rat) ≤ 14 by decide)).add ma (sq_nonneg _) (by have := sq_nonneg (fv y); have := sq_nonneg (fv z); grind)) (by decide) (by decide +kernel) (by decide) (by decide +kernel)
        rw [hx.2, hy.2, hz.2] at this
        exact this.mono (by decide +kernel)
      obtain ⟨d, V, ed, fd, hV, had, d1, d2⟩ := inv_ap fn n1 n2
      obtain ⟨u, a, v, w, e1, e2, fa, a0, a1, al, aa, e3, e4, e5⟩ := coord hx ⟨x1, x2⟩ fn n1 n2 fd hV had d1 d2
      obtain ⟨u', a', v', w', e1', e2', fa', a0', a1', al', aa', e3', e4', e5'⟩ := coord hy ⟨y1, y2⟩ fn n1 n2 fd hV had d1 d2
      obtain ⟨u2, a2, v2, w2, f1, f2, fa2, b0, b1, bl, ba, f3, f4, f5⟩ := coord hz ⟨z1, z2⟩ fn n1 n2 fd hV had d1 d2
      obtain ⟨s, es, fs, s0, s1, s3, sl, sa⟩ := sum_ap fa fa' a0 (by grind) a0' (by grind) aa aa' (sq_nonneg _) (sq_nonneg _) (by decide) (by decide +kernel) al al'
      have sb : fv s ≤ 70368744177664 := by
        have := s3 a1 a1'
        grind
      obtain ⟨s2, es2, fs2, t0, t1, _, tl, ta⟩ := sum_ap fs fa2 s0 sb b0 (by grind) sa (ba.mono (show (5 : Rat) ≤ 5 + 2 by decide +kernel)) (by have := sq_nonneg (fv d * (X : Rat)); have := sq_nonneg (fv d * (Y : Rat)); grind) (sq_nonneg _) (by decide +kernel) (by decide +kernel) sl bl
      rw [show fv d * (X : Rat) * (fv d * (X : Rat)) + fv d * (Y : Rat) * (fv d * (Y : Rat)) + fv d * (Z : Rat) * (fv d * (Z : Rat)) = fv d * fv d * ((X : Rat) * (X : Rat) + ((Y : Rat) * (Y : Rat) + (Z : Rat) * (Z : Rat))) by grind] at ta
      obtain ⟨q, eq, hq⟩ := near_one fs2 (back hV had na2 (by decide) (by decide +kernel) ta (by decide +kernel) (by decide +kernel) (by decide +kernel))
      have hunit : r3_Unit N (x, y, z, ()) = some (u, u', u2, ()) := by
        have g : r3_Unit_j1 N (x, y, z, ()) = some (u, u', u2, ()) := by
          simp only [r3_Unit_j1, r3_Unit_g1, gate_pos hN0, r3_Norm, r3_Norm_g, math_Hypot, math_Hypot_g, math_archHypot, em, en, ed, Option.bind_some, r3_Scale, r3_Scale_g, e1, e1', f1]
        have g0 : r3_Unit_j0 N (x, y, z, ()) = some (u, u', u2, ()) := by
          simp only [r3_Unit_j0, r3_Unit_g0, gate_pos hN0, g]
        simp only [r3_Unit, r3_Unit_g, g, g0, gate_pos hN0]
        cases q1 : feq x 0 with
        | false => rfl
        | true =>
          cases q2 : feq y 0 with
          | false => rfl
          | true =>
            cases q3 : feq z 0 with
            | false => rfl
            | true => rw [q1, q2, q3] at h0; cases h0
      simp only [impl_Unit3, impl_Unit3_g, impl_vec3, impl_vec3_g, hunit, impl_plainP3, impl_plainP3_g, impl_Length3, impl_Length3_g, r3_Norm, r3_Norm_g, math_Hypot, math_Hypot_g, math_archHypot, em, en, Option.bind_some,
        impl_Square3, impl_Square3_g, r3_Norm2, r3_Norm2_g, e2, e2', es, f2, es2, eq, abs_def, hq, cond_true, e3, e4, e5, e3', e4', e5', f3, f4, f5]
end Go.Proofs.Ytlbbldhbggfoaaa.PvUnit
