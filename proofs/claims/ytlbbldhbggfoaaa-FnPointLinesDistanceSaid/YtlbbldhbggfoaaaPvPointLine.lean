/- The distance of a place from a segment: what the code reckons and what is exact lie together. -/
import Derived.Test.YtlbbldhbggfoaaaPvExactUL
import Derived.Test.YtlbbldhbggfoaaaFl16
set_option linter.unusedVariables false
set_option linter.unusedSectionVars false
set_option linter.unusedSimpArgs false
namespace Go.Proofs.Ytlbbldhbggfoaaa.PvPointLine
open Go.Av Go
open Go.Proofs.Ytlbbldhbggfoaaa.UL
open Go.Proofs.Ytlbbldhbggfoaaa.PvWholeToUL
open Go.Proofs.Ytlbbldhbggfoaaa.PvPlaneToUL
open Go.Proofs.Ytlbbldhbggfoaaa.PvWholeUL
open Go.Proofs.Ytlbbldhbggfoaaa.PvWhole2UL
open Go.Proofs.Ytlbbldhbggfoaaa.PvDyadicUL
open Go.Proofs.Ytlbbldhbggfoaaa.PvFloatUL
theorem b13 : Wh 4665729213955833856 8192 := wh_lit _ _ (by decide +kernel) (by decide +kernel) (by decide +kernel) (by decide)
abbrev Pt := Nat × (Nat × Unit)
abbrev DP := DY × (DY × Unit)
/-- The place's whole numbers. -/
structure At (p : Pt) (X Y : Int) : Prop where
  x : Wh p.1 X
  y : Wh p.2.1 Y
  bx : X.natAbs ≤ 8192
  bY : Y.natAbs ≤ 8192
  lx : p.1 < 18446744073709551616
  ly : p.2.1 < 18446744073709551616
/-- A place, exactly. -/
structure Ex (P : DP) (X Y : Int) : Prop where
  x : Dn 0 P.1 (X : Rat)
  y : Dn 0 P.2.1 (Y : Rat)
/-- The product of two ways. -/
def dt (ax ay bx bY cx cy dx dy : Int) : Int := (bx - ax) * (dx - cx) + (bY - ay) * (dy - cy)
def sq (ax ay bx bY : Int) : Int := dt ax ay bx bY ax ay bx bY
def cr (ax ay bx bY px py : Int) : Int := (bx - ax) * (py - ay) - (bY - ay) * (px - ax)
/-- The square of the distance from a segment: numerator and denominator. -/
def num (px py ax ay bx bY : Int) : Int :=
  if sq ax ay bx bY = 0 ∨ dt ax ay bx bY ax ay px py ≤ 0 then sq ax ay px py
  else if sq ax ay bx bY ≤ dt ax ay bx bY ax ay px py then sq bx bY px py
  else cr ax ay bx bY px py * cr ax ay bx bY px py
def den (px py ax ay bx bY : Int) : Int :=
  if sq ax ay bx bY = 0 ∨ dt ax ay bx bY ax ay px py ≤ 0 then 1
  else if sq ax ay bx bY ≤ dt ax ay bx bY ax ay px py then 1
  else sq ax ay bx bY
theorem sq_nn (a : Int) : 0 ≤ a * a := by
  rcases Int.le_total 0 a with h | h
  · exact Int.mul_nonneg h h
  · exact Int.mul_nonneg_of_nonpos_of_nonpos h h
theorem prod_bnd {a b : Int} (ha : a.natAbs ≤ 16384) (hb : b.natAbs ≤ 16384) : (a * b).natAbs ≤ 268435456 := by
  rw [Int.natAbs_mul]
  exact Nat.mul_le_mul ha hb
theorem dt_bnd {ax ay bx bY cx cy dx dy : Int} (h1 : ax.natAbs ≤ 8192) (h2 : ay.natAbs ≤ 8192) (h3 : bx.natAbs ≤ 8192) (h4 : bY.natAbs ≤ 8192) (h5 : cx.natAbs ≤ 8192) (h6 : cy.natAbs ≤ 8192) (h7 : dx.natAbs ≤ 8192) (h8 : dy.natAbs ≤ 8192) :
    (dt ax ay bx bY cx cy dx dy).natAbs ≤ 536870912 := by
  have k1 := prod_bnd (a := bx - ax) (b := dx - cx) (by omega) (by omega)
  have k2 := prod_bnd (a := bY - ay) (b := dy - cy) (by omega) (by omega)
  unfold dt
  omega
theorem cr_bnd {ax ay bx bY px py : Int} (h1 : ax.natAbs ≤ 8192) (h2 : ay.natAbs ≤ 8192) (h3 : bx.natAbs ≤ 8192) (h4 : bY.natAbs ≤ 8192) (h5 : px.natAbs ≤ 8192) (h6 : py.natAbs ≤ 8192) :
    (cr ax ay bx bY px py).natAbs ≤ 536870912 := by
  have k1 := prod_bnd (a := bx - ax) (b := py - ay) (by omega) (by omega)
  have k2 := prod_bnd (a := bY - ay) (b := px - ax) (by omega) (by omega)
  unfold cr
  omega
theorem sq_ge (ax ay bx bY : Int) : 0 ≤ sq ax ay bx bY := by
  have := sq_nn (bx - ax)
  have := sq_nn (bY - ay)
  unfold sq dt
  omega
theorem etaY : ∀ p : DY, ((p.1.1, p.1.2.1, ()), p.2.1, ()) = p := fun _ => rfl
theorem eta2 : ∀ p : DP, (p.1, p.2.1, ()) = p := fun _ => rfl
section
variable {N : Nat} (hN : 0 < N) (hNl : 9223372036854775808 ≤ N)
include hN hNl
theorem exact2 {p : Pt} {X Y : Int} (h : At p X Y) : ∃ P, laws_exactly N p = some P ∧ Ex P X Y := by
  obtain ⟨a, e1, h1⟩ := dof hN hNl h.x.1 h.lx
  obtain ⟨b, e2, h2⟩ := dof hN hNl h.y.1 h.ly
  rw [h.x.2] at h1
  rw [h.y.2] at h2
  refine ⟨(a, b, ()), ?_, h1, h2⟩
  simp only [laws_exactly, laws_exactly_g, spec_PointOf, spec_PointOf_g, e1, e2, Option.bind_some]
theorem dot2 {A B C D : DP} {ax ay bx bY cx cy dx dy : Int} (ha : Ex A ax ay) (hb : Ex B bx bY) (hc : Ex C cx cy) (hd : Ex D dx dy) :
    ∃ S, spec_Dot N A B C D = some S ∧ Dn 3 S (dt ax ay bx bY cx cy dx dy : Rat) := by
  obtain ⟨u, e1, h1⟩ := dsub hN hNl hb.x ha.x (by decide)
  obtain ⟨v, e2, h2⟩ := dsub hN hNl hd.x hc.x (by decide)
  obtain ⟨m, e3, h3⟩ := dmul hN hNl h1 h2 (by decide)
  obtain ⟨u', e4, h4⟩ := dsub hN hNl hb.y ha.y (by decide)
  obtain ⟨v', e5, h5⟩ := dsub hN hNl hd.y hc.y (by decide)
  obtain ⟨m', e6, h6⟩ := dmul hN hNl h4 h5 (by decide)
  obtain ⟨S, e7, h7⟩ := dadd hN hNl h3 h6 (by decide)
  refine ⟨S, ?_, ?_⟩
  · simp only [spec_Dot, spec_Dot_g, etaY, e1, e2, e3, e4, e5, e6, e7, Option.bind_some]
  · have e : (dt ax ay bx bY cx cy dx dy : Rat) = ((bx : Rat) - ax) * ((dx : Rat) - cx) + ((bY : Rat) - ay) * ((dy : Rat) - cy) := by
      unfold dt; simp only [Rat.intCast_add, Rat.intCast_mul, Rat.intCast_sub]
    rw [e]; exact h7
theorem square2 {A B : DP} {ax ay bx bY : Int} (ha : Ex A ax ay) (hb : Ex B bx bY) : ∃ S, spec_Square N A B = some S ∧ Dn 3 S (sq ax ay bx bY : Rat) := by
  obtain ⟨S, e, h⟩ := dot2 hN hNl ha hb ha hb
  exact ⟨S, by simp only [spec_Square, spec_Square_g, etaY, eta2, e, Option.bind_some], h⟩
theorem cross2 {A B P : DP} {ax ay bx bY px py : Int} (ha : Ex A ax ay) (hb : Ex B bx bY) (hp : Ex P px py) : ∃ S, spec_Cross N A B P = some S ∧ Dn 3 S (cr ax ay bx bY px py : Rat) := by
  obtain ⟨u, e1, h1⟩ := dsub hN hNl hb.x ha.x (by decide)
  obtain ⟨v, e2, h2⟩ := dsub hN hNl hp.y ha.y (by decide)
  obtain ⟨m, e3, h3⟩ := dmul hN hNl h1 h2 (by decide)
  obtain ⟨u', e4, h4⟩ := dsub hN hNl hb.y ha.y (by decide)
  obtain ⟨v', e5, h5⟩ := dsub hN hNl hp.x ha.x (by decide)
  obtain ⟨m', e6, h6⟩ := dmul hN hNl h4 h5 (by decide)
  obtain ⟨S, e7, h7⟩ := dsub hN hNl h3 h6 (by decide)
  refine ⟨S, ?_, ?_⟩
  · simp only [spec_Cross, spec_Cross_g, etaY, e1, e2, e3, e4, e5, e6, e7, Option.bind_some]
  · have e : (cr ax ay bx bY px py : Rat) = ((bx : Rat) - ax) * ((py : Rat) - ay) - ((bY : Rat) - ay) * ((px : Rat) - ax) := by
      unfold cr; simp only [Rat.intCast_mul, Rat.intCast_sub]
    rw [e]; exact h7
theorem cmpq_int (a b : Int) : cmpq (a : Rat) (b : Rat) = if a < b then -1 else if a = b then 0 else 1 := by
  unfold cmpq
  simp only [intCast_lt, intCast_eq]
theorem squareTo {P A B : DP} {px py ax ay bx bY : Int} (hp : Ex P px py) (ha : Ex A ax ay) (hb : Ex B bx bY) :
    ∃ R, spec_SquareTo N P A B = some R ∧ Dn 4 R.1 (num px py ax ay bx bY : Rat) ∧ Dn 4 R.2.1 (den px py ax ay bx bY : Rat) := by
  obtain ⟨L, e1, h1⟩ := square2 hN hNl ha hb
  obtain ⟨D, e2, h2⟩ := dot2 hN hNl ha hb ha hp
  obtain ⟨O, e3, h3⟩ := dint hN hNl 1 (by decide)
  obtain ⟨S, e4, h4⟩ := square2 hN hNl ha hp
  obtain ⟨T, e5, h5⟩ := square2 hN hNl hb hp
  obtain ⟨C, e6, h6⟩ := cross2 hN hNl ha hb hp
  obtain ⟨M, e7, h7⟩ := dmul hN hNl h6 h6 (by decide)
  have s1 := dsign hN hNl h1
  have s2 := dsign hN hNl h2
  have c1 := dcmp hN hNl h2 h1 (by decide)
  have z : (0 : Rat) = ((0 : Int) : Rat) := rfl
  rw [z, cmpq_int hN hNl] at s1 s2
  rw [cmpq_int hN hNl] at c1
  have g0 := sq_ge ax ay bx bY
  simp only [spec_SquareTo, spec_SquareTo_g, etaY, eta2, e1, e2, e3, e4, e5, e6, e7, s1, s2, c1, Option.bind_some]
  unfold num den
  by_cases q1 : sq ax ay bx bY = 0
  · rw [q1]
    simp only [true_or, if_true]
    exact ⟨(S, O, ()), rfl, h4.upto (by decide), h3.upto (by decide)⟩
  · rw [show (if sq ax ay bx bY < 0 then (-1 : Int) else if sq ax ay bx bY = 0 then 0 else 1) = 1 by rw [if_neg (by omega), if_neg q1]]
    simp only [q1, false_or]
    rw [show ((1 : Int) == 0) = false from rfl, cond_false]
    by_cases q2 : dt ax ay bx bY ax ay px py ≤ 0
    · rw [show decide ((if dt ax ay bx bY ax ay px py < 0 then (-1 : Int) else if dt ax ay bx bY ax ay px py = 0 then 0 else 1) ≤ 0) = true by
        simp only [decide_eq_true_eq]; split
        · decide
        · rw [if_pos (by omega)]; decide]
      simp only [q2, if_true, cond_true]
      exact ⟨(S, O, ()), rfl, h4.upto (by decide), h3.upto (by decide)⟩
    · rw [show decide ((if dt ax ay bx bY ax ay px py < 0 then (-1 : Int) else if dt ax ay bx bY ax ay px py = 0 then 0 else 1) ≤ 0) = false by
        rw [if_neg (by omega), if_neg (by omega)]; rfl]
      simp only [q2, if_false, cond_false]
      by_cases q3 : sq ax ay bx bY ≤ dt ax ay bx bY ax ay px py
      · rw [show decide ((if dt ax ay bx bY ax ay px py < sq ax ay bx bY then (-1 : Int) else if dt ax ay bx bY ax ay px py = sq ax ay bx bY then 0 else 1) ≥ 0) = true by
          rw [if_neg (by omega)]; split <;> rfl]
        simp only [q3, if_true, cond_true]
        exact ⟨(T, O, ()), rfl, h5.upto (by decide), h3.upto (by decide)⟩
      · rw [show decide ((if dt ax ay bx bY ax ay px py < sq ax ay bx bY then (-1 : Int) else if dt ax ay bx bY ax ay px py = sq ax ay bx bY then 0 else 1) ≥ 0) = false by
          rw [if_pos (by omega)]; rfl]
        simp only [q3, if_false, cond_false]
        exact ⟨(M, L, ()), rfl, by rw [Rat.intCast_mul]; exact h7, h1.upto (by decide)⟩
/-- The root of a fraction, as the laws reckon it. -/
theorem rootOf {k : Nat} {R : DY × (DY × Unit)} {A B : Int} (hk : k ≤ 8) (ha : Dn k R.1 (A : Rat)) (hb : Dn k R.2.1 (B : Rat)) (hA : 0 ≤ A ∧ A ≤ 1152921504606846976) (hB : 0 < B ∧ B ≤ 9007199254740992) :
    ∃ w, laws_rootOf N R = some w ∧ fin w = true ∧ NearR (fv w) ((A : Rat) / (B : Rat)) := by
  have rng : ∀ n : Int, 0 ≤ n ∧ n ≤ 1152921504606846976 → (n : Rat) = 0 ∨ P2 (-900) ≤ ab (n : Rat) ∧ ab (n : Rat) < P2 900 := fun n hn => by
    by_cases h0 : n = 0
    · left; rw [h0]; rfl
    · right
      rw [ab_int]
      constructor
      · have h1 : P2 (-900) ≤ P2 0 := P2_le (by decide)
        rw [P2_zero] at h1
        have h2 : ((1 : Nat) : Rat) ≤ ((n.natAbs : Nat) : Rat) := natCast_le.2 (by omega)
        exact Rat.le_trans h1 h2
      · have h2 : ((n.natAbs : Nat) : Rat) < P2 61 := by rw [show (61 : Int) = ((61 : Nat) : Int) from rfl, P2_nat]; exact natCast_lt.2 (by omega)
        have h3 : P2 61 ≤ P2 900 := P2_le (by decide)
        grind
  obtain ⟨f, ef, rf, lf⟩ := dfloat hN hNl ha hk (rng A hA)
  obtain ⟨g, eg, rg, lg⟩ := dfloat hN hNl hb hk (rng B ⟨by omega, by omega⟩)
  have wg : Wh g B := rg.whole (by omega)
  have hB0 : (0 : Rat) < (B : Rat) := by have := (intCast_lt (a := 0) (b := B)).2 hB.1; exact this
  have hB1 : (1 : Rat) ≤ (B : Rat) := by have := (intCast_le (a := 1) (b := B)).2 (by omega); exact this
  have hBm : (B : Rat) ≤ 9007199254740992 := by have := (intCast_le (a := B) (b := 9007199254740992)).2 hB.2; exact this
  have hA0 : (0 : Rat) ≤ (A : Rat) := by have := (intCast_le (a := 0) (b := A)).2 hA.1; exact this
  have hAm : (A : Rat) ≤ 1152921504606846976 := by have := (intCast_le (a := A) (b := 1152921504606846976)).2 hA.2; exact this
  have hA1 : A = 0 ∨ (1 : Rat) ≤ (A : Rat) := by
    by_cases h : A = 0
    · exact .inl h
    · right; have := (intCast_le (a := 1) (b := A)).2 (by omega); exact this
  have pm : ∀ i : Int, -900 ≤ i → P2 (-900) ≤ P2 i := fun i hi => P2_le hi
  have af := rf.ap (by
    rcases rng A hA with h | h
    · exact .inl h
    · exact .inr h.1)
  have f0 := rf.lo 0 (rep_nat (n := 0) (by decide)) hA0
  have f1 := rf.hi 1152921504606846976 (by
    have := rep_P2 (i := 60) (by decide)
    rw [P2_lit (i := 60) (q := 1152921504606846976) (by decide +kernel)] at this
    exact this) hAm
  have f2 : A = 0 ∧ fv f = 0 ∨ 1 ≤ fv f := by
    rcases hA1 with h | h
    · left; refine ⟨h, ?_⟩
      rw [h] at rf
      exact rf.exact (rep_nat (n := 0) (by decide))
    · right; exact rf.lo 1 (rep_nat (n := 1) (by decide)) h
  have hbne : (B : Rat) ≠ 0 := by grind
  -- the quotient of the float by B
  have hV : fv f / (B : Rat) * (B : Rat) = fv f := Rat.div_mul_cancel hbne
  have hQ : (A : Rat) / (B : Rat) * (B : Rat) = (A : Rat) := Rat.div_mul_cancel hbne
  have aV : Ap (fv f / (B : Rat)) ((A : Rat) / (B : Rat)) 1 := by
    rw [Rat.div_def, Rat.div_def]
    unfold Ap at af ⊢
    have hi : 0 ≤ (B : Rat)⁻¹ := by
      refine Rat.not_lt.1 fun h => ?_
      have := Rat.mul_inv_cancel _ hbne
      have h2 := (ratmul_lt hB0).2 h
      grind
    rw [show fv f * (B : Rat)⁻¹ - (A : Rat) * (B : Rat)⁻¹ = (fv f - (A : Rat)) * (B : Rat)⁻¹ by grind, ab_mul, ab_mul]
    have := Rat.mul_le_mul_of_nonneg_right af (ab_nonneg (B : Rat)⁻¹)
    grind
  generalize fv f / (B : Rat) = V at hV aV
  generalize (A : Rat) / (B : Rat) = Q at hQ aV
  have V0 : 0 ≤ V := by
    refine Rat.not_lt.1 fun h => ?_
    have := (ratmul_lt hB0).2 h; grind
  have Q0 : 0 ≤ Q := by
    refine Rat.not_lt.1 fun h => ?_
    have := (ratmul_lt hB0).2 h; grind
  have V1 : V ≤ 1152921504606846976 := by
    refine Rat.not_lt.1 fun h => ?_
    have h2 := (ratmul_lt hB0).2 h
    have h3 := Rat.mul_le_mul_of_nonneg_left hB1 (show (0 : Rat) ≤ 1152921504606846976 by decide)
    grind
  have V2 : V = 0 ∨ P2 (-53) ≤ V := by
    rcases f2 with ⟨_, h⟩ | h
    · left; rw [h] at hV
      rcases Rat.mul_eq_zero.1 hV with h | h
      · exact h
      · exact absurd h hbne
    · right
      rw [P2_lit (i := -53) (q := 1 / 9007199254740992) (by decide +kernel)]
      refine Rat.not_lt.1 fun h' => ?_
      have h2 := (ratmul_lt hB0).2 h'
      have h3 := Rat.mul_le_mul_of_nonneg_left hBm (show (0 : Rat) ≤ 1 / 9007199254740992 by decide +kernel)
      grind
  obtain ⟨y, ey, hy⟩ := div_rnq rf.fin wg.1 (by rw [wg.2]; exact hbne) (by rw [wg.2]; exact hV) (by rw [ab_of_nonneg V0]; exact lt_of_big (by grind) (by decide))
  have ay := hy.ap (by
    rcases V2 with h | h
    · exact .inl h
    · right; rw [ab_of_nonneg V0]; exact Rat.le_trans (pm _ (by decide)) h)
  have y0 := hy.lo 0 (rep_nat (n := 0) (by decide)) V0
  have y1 : fv y ≤ 2 * 1152921504606846976 := by
    have := ay.up2 (by decide)
    rw [ab_of_nonneg V0, ab_of_nonneg y0] at this
    grind
  have ayq : Ap (fv y) Q 3 := (ay.trans aV (by decide) (by decide +kernel) (by decide) (by decide +kernel)).mono (by decide +kernel)
  obtain ⟨w, ew, hw⟩ := sqrt_sqr hy.fin y0 (lt_of_big (by grind) (by decide))
  refine ⟨w, ?_, hw.fin, nearR_sqr ayq Q0 (by decide +kernel) hw⟩
  simp only [laws_rootOf, laws_rootOf_g, etaY, ef, eg, ey, Option.bind_some, math_Sqrt, math_Sqrt_g, math_sqrt, ew]
/-- A list that begins with a place's numbers. -/
def Co (l : List Nat) (p : Pt) : Prop := nth l 0 = some p.1 ∧ nth l 1 = some p.2.1
theorem int_rat_nn {n : Int} (h : 0 ≤ n) : (0 : Rat) ≤ (n : Rat) := by have := (intCast_le (a := 0) (b := n)).2 h; exact this
theorem dist2 {l m : List Nat} {p a : Pt} {px py ax ay : Int} (hl : Co l p) (hm : Co m a) (hp : At p px py) (ha : At a ax ay) :
    ∃ v, inner_Distance2D N l m = some v ∧ fin v = true ∧ NearR (fv v) (sq ax ay px py : Rat) := by
  have p1 := hp.bx; have p2 := hp.bY; have a1 := ha.bx; have a2 := ha.bY
  obtain ⟨u, e1, w1⟩ := sub_wh hp.x ha.x (by omega)
  obtain ⟨u', e2, w2⟩ := sub_wh hp.y ha.y (by omega)
  have k1 := prod_bnd (a := px - ax) (b := px - ax) (by omega) (by omega)
  have k2 := prod_bnd (a := py - ay) (b := py - ay) (by omega) (by omega)
  obtain ⟨m1, e3, w3⟩ := mul_wh w1 w1 (by omega)
  obtain ⟨m2, e4, w4⟩ := mul_wh w2 w2 (by omega)
  have hd : sq ax ay px py = (px - ax) * (px - ax) + (py - ay) * (py - ay) := rfl
  have hsum : ((px - ax) * (px - ax) + (py - ay) * (py - ay)).natAbs ≤ 9007199254740992 := by omega
  obtain ⟨n, e5, w5⟩ := add_wh w3 w4 hsum
  rw [← hd] at w5
  have hb : (sq ax ay px py).natAbs ≤ 536870912 := dt_bnd (by omega) (by omega) (by omega) (by omega) (by omega) (by omega) (by omega) (by omega)
  have h0 := sq_ge ax ay px py
  have hbr : (sq ax ay px py : Rat) ≤ 536870912 := by have := (intCast_le (a := sq ax ay px py) (b := 536870912)).2 (by omega); exact this
  obtain ⟨v, e6, hv⟩ := sqrt_sqr w5.1 (by rw [w5.2]; exact int_rat_nn hN hNl h0) (by rw [w5.2]; exact lt_of_big (by grind) (by decide))
  rw [w5.2] at hv
  refine ⟨v, ?_, hv.fin, nearR_sqr (Ap.refl _) (int_rat_nn hN hNl h0) (by decide +kernel) hv⟩
  simp only [inner_Distance2D, inner_Distance2D_g, hl.1, hl.2, hm.1, hm.2, e1, e2, e3, e4, e5, Option.bind_some, math_Sqrt, math_Sqrt_g, math_sqrt, e6]
theorem sq_zero {ax ay bx bY : Int} (h : sq ax ay bx bY = 0) : ax = bx ∧ ay = bY := by
  have h1 := sq_nn (bx - ax)
  have h2 := sq_nn (bY - ay)
  unfold sq dt at h
  have h3 : (bx - ax) * (bx - ax) = 0 := by omega
  have h4 : (bY - ay) * (bY - ay) = 0 := by omega
  rcases Int.mul_eq_zero.1 h3 with h3 | h3 <;> rcases Int.mul_eq_zero.1 h4 with h4 | h4 <;> constructor <;> omega
theorem lagrange (px py ax ay bx bY : Int) : cr ax ay bx bY px py * cr ax ay bx bY px py + dt ax ay bx bY ax ay px py * dt ax ay bx bY ax ay px py = sq ax ay bx bY * sq ax ay px py := by
  unfold cr sq dt; grind
theorem numden {px py ax ay bx bY : Int} (h1 : ax.natAbs ≤ 8192) (h2 : ay.natAbs ≤ 8192) (h3 : bx.natAbs ≤ 8192) (h4 : bY.natAbs ≤ 8192) (h5 : px.natAbs ≤ 8192) (h6 : py.natAbs ≤ 8192) :
    0 ≤ num px py ax ay bx bY ∧ num px py ax ay bx bY ≤ 1152921504606846976 ∧ 0 < den px py ax ay bx bY ∧ den px py ax ay bx bY ≤ 536870912 ∧ num px py ax ay bx bY ≤ 536870912 * den px py ax ay bx bY := by
  have k1 : (sq ax ay px py).natAbs ≤ 536870912 := dt_bnd h1 h2 h5 h6 h1 h2 h5 h6
  have k2 : (sq bx bY px py).natAbs ≤ 536870912 := dt_bnd h3 h4 h5 h6 h3 h4 h5 h6
  have k3 : (sq ax ay bx bY).natAbs ≤ 536870912 := dt_bnd h1 h2 h3 h4 h1 h2 h3 h4
  have k4 := cr_bnd h1 h2 h3 h4 h5 h6
  have g1 := sq_ge ax ay px py
  have g2 := sq_ge bx bY px py
  have g3 := sq_ge ax ay bx bY
  unfold num den
  split
  · omega
  · rename_i q
    split
    · omega
    · have hc := sq_nn (cr ax ay bx bY px py)
      have hl := lagrange hN hNl px py ax ay bx bY
      have hd := sq_nn (dt ax ay bx bY ax ay px py)
      have hm : sq ax ay bx bY * sq ax ay px py ≤ sq ax ay bx bY * 536870912 := Int.mul_le_mul_of_nonneg_left (by omega) g3
      have hcb : cr ax ay bx bY px py * cr ax ay bx bY px py ≤ 288230376151711744 := by
        have : (cr ax ay bx bY px py * cr ax ay bx bY px py).natAbs ≤ 536870912 * 536870912 := by rw [Int.natAbs_mul]; exact Nat.mul_le_mul k4 k4
        omega
      refine ⟨hc, by omega, by omega, by omega, by omega⟩
omit hN hNl in
theorem diff_bnd0 {a b : Int} (h1 : a.natAbs ≤ 8192) (h2 : b.natAbs ≤ 8192) : (a - b).natAbs ≤ 16384 := by omega
theorem diff_bnd {a b : Int} (h1 : a.natAbs ≤ 8192) (h2 : b.natAbs ≤ 8192) : (a - b).natAbs ≤ 16384 := diff_bnd0 h1 h2
theorem toLine {l m n : List Nat} {p a b : Pt} {px py ax ay bx bY : Int} (hl : Co l p) (hm : Co m a) (hn : Co n b) (hp : At p px py) (ha : At a ax ay) (hb : At b bx bY) :
    ∃ v, xy_DistanceFromPointToLine N l m n = some v ∧ fin v = true ∧ NearR (fv v) ((num px py ax ay bx bY : Rat) / (den px py ax ay bx bY : Rat)) := by
  have p1 := hp.bx; have p2 := hp.bY; have a1 := ha.bx; have a2 := ha.bY; have b1 := hb.bx; have b2 := hb.bY
  obtain ⟨va, ea, fa, na⟩ := dist2 hN hNl hl hm hp ha
  obtain ⟨vb, eb, fb, nb⟩ := dist2 hN hNl hl hn hp hb
  have one : ∀ q : Rat, q / ((1 : Int) : Rat) = q := fun q => by rw [show ((1 : Int) : Rat) = 1 from rfl, Rat.div_def]; grind
  by_cases hz : sq ax ay bx bY = 0
  · obtain ⟨z1, z2⟩ := sq_zero hN hNl hz
    refine ⟨va, ?_, fa, ?_⟩
    · simp only [xy_DistanceFromPointToLine, xy_DistanceFromPointToLine_g, hm.1, hm.2, hn.1, hn.2, Option.bind_some]
      rw [feq_wh ha.x hb.x, feq_wh ha.y hb.y]
      simp only [z1, z2, decide_true, cond_true, ea, Option.bind_some]
    · have e1 : num px py ax ay bx bY = sq ax ay px py := by unfold num; rw [if_pos (.inl hz)]
      have e2 : den px py ax ay bx bY = 1 := by unfold den; rw [if_pos (.inl hz)]
      rw [e1, e2, one]; exact na
  · have hcode : xy_DistanceFromPointToLine N l m n = xy_DistanceFromPointToLine_g0 N l m n := by
      simp only [xy_DistanceFromPointToLine, xy_DistanceFromPointToLine_g, hm.1, hm.2, hn.1, hn.2, Option.bind_some, xy_DistanceFromPointToLine_j0, gate_pos hN]
      rw [feq_wh ha.x hb.x, feq_wh ha.y hb.y]
      by_cases z1 : ax = bx
      · have z2 : ¬ ay = bY := fun z2 => hz (by subst z1 z2; unfold sq dt; simp)
        simp only [z1, z2, decide_true, decide_false, cond_true, cond_false]
      · simp only [z1, decide_false, cond_false]
    have g0 := sq_ge ax ay bx bY
    have k3 : (sq ax ay bx bY).natAbs ≤ 536870912 := dt_bnd a1 a2 b1 b2 a1 a2 b1 b2
    have kd := dt_bnd a1 a2 b1 b2 a1 a2 p1 p2
    have kc := cr_bnd a1 a2 b1 b2 p1 p2
    -- the ways
    have db : ∀ {a b : Int}, a.natAbs ≤ 8192 → b.natAbs ≤ 8192 → (a - b).natAbs ≤ 16384 := diff_bnd hN hNl
    have l1 : ∀ {n : Nat}, n ≤ 16384 → n ≤ 9007199254740992 := fun h => Nat.le_trans h (by decide)
    have l2 : ∀ {n : Nat}, n ≤ 268435456 → n ≤ 9007199254740992 := fun h => Nat.le_trans h (by decide)
    have l3 : ∀ {n : Nat}, n ≤ 536870912 → n ≤ 9007199254740992 := fun h => Nat.le_trans h (by decide)
    obtain ⟨x1, f1, w1⟩ := sub_wh hb.x ha.x (l1 (db b1 a1))
    obtain ⟨x2, f2, w2⟩ := sub_wh hb.y ha.y (l1 (db b2 a2))
    obtain ⟨x3, f3, w3⟩ := sub_wh hp.x ha.x (l1 (db p1 a1))
    obtain ⟨x4, f4, w4⟩ := sub_wh hp.y ha.y (l1 (db p2 a2))
    obtain ⟨x5, f5, w5⟩ := sub_wh ha.y hp.y (l1 (db a2 p2))
    obtain ⟨x6, f6, w6⟩ := sub_wh ha.x hp.x (l1 (db a1 p1))
    obtain ⟨y1, g1, v1⟩ := mul_wh w1 w1 (l2 (prod_bnd (db b1 a1) (db b1 a1)))
    obtain ⟨y2, g2, v2⟩ := mul_wh w2 w2 (l2 (prod_bnd (db b2 a2) (db b2 a2)))
    obtain ⟨y3, g3, v3⟩ := mul_wh w3 w1 (l2 (prod_bnd (db p1 a1) (db b1 a1)))
    obtain ⟨y4, g4, v4⟩ := mul_wh w4 w2 (l2 (prod_bnd (db p2 a2) (db b2 a2)))
    obtain ⟨y5, g5, v5⟩ := mul_wh w5 w1 (l2 (prod_bnd (db a2 p2) (db b1 a1)))
    obtain ⟨y6, g6, v6⟩ := mul_wh w6 w2 (l2 (prod_bnd (db a1 p1) (db b2 a2)))
    have i1 : (bx - ax) * (bx - ax) + (bY - ay) * (bY - ay) = sq ax ay bx bY := rfl
    have i2 : (px - ax) * (bx - ax) + (py - ay) * (bY - ay) = dt ax ay bx bY ax ay px py := by unfold dt; rw [Int.mul_comm (px - ax), Int.mul_comm (py - ay)]
    have i3 : (ay - py) * (bx - ax) - (ax - px) * (bY - ay) = - cr ax ay bx bY px py := by unfold cr; grind
    obtain ⟨L, h1, wL⟩ := add_wh v1 v2 (by rw [i1]; exact l3 k3)
    obtain ⟨D, h2, wD⟩ := add_wh v3 v4 (by rw [i2]; exact l3 kd)
    obtain ⟨C, h3, wC⟩ := sub_wh v5 v6 (by rw [i3, Int.natAbs_neg]; exact l3 kc)
    rw [i1] at wL
    rw [i2] at wD
    rw [i3] at wC
    generalize hLL : sq ax ay bx bY = LL at *
    generalize hDD : dt ax ay bx bY ax ay px py = DD at *
    generalize hCC : cr ax ay bx bY px py = CC at *
    clear i1 i2 i3 v1 v2 v3 v4 v5 v6 w1 w2 w3 w4 w5 w6
    have L0 : (0 : Rat) < (LL : Rat) := by have := (intCast_lt (a := 0) (b := LL)).2 (by omega); exact this
    have L1 : (1 : Rat) ≤ (LL : Rat) := by have := (intCast_le (a := 1) (b := LL)).2 (by omega); exact this
    have Lm : (LL : Rat) ≤ 536870912 := by have := (intCast_le (a := LL) (b := 536870912)).2 (by omega); exact this
    have Lne : (LL : Rat) ≠ 0 := by grind
    -- the share of the way
    have hV : (DD : Rat) / (LL : Rat) * (LL : Rat) = (DD : Rat) := Rat.div_mul_cancel Lne
    have Dm : ab (DD : Rat) ≤ 536870912 := by
      rw [ab_int]
      have : ((DD.natAbs : Nat) : Rat) ≤ ((536870912 : Nat) : Rat) := natCast_le.2 kd
      exact this
    generalize (DD : Rat) / (LL : Rat) = V at hV
    have Vb : ab V ≤ 536870912 := by
      have e : ab (DD : Rat) = ab V * (LL : Rat) := by rw [← hV, ab_mul, ab_of_nonneg (Rat.le_of_lt L0)]
      have := Rat.mul_le_mul_of_nonneg_left L1 (ab_nonneg V)
      grind
    obtain ⟨r, er, hr⟩ := div_rnq wD.1 wL.1 (by rw [wL.2]; exact Lne) (by rw [wD.2, wL.2]; exact hV) (lt_of_big (by grind) (by decide))
    have r_le : fle r 0 = decide (DD ≤ 0) := by
      have z0 : fv 0 = 0 := wh_zero.2
      rw [fle_fv hr.fin wh_zero.1, z0]
      by_cases hd : DD ≤ 0
      · have hVn : V ≤ 0 := by
          refine Rat.not_lt.1 fun h => ?_
          have h2 := (ratmul_lt L0).2 h
          have h3 : (DD : Rat) ≤ 0 := (intCast_le (a := DD) (b := 0)).2 hd
          grind
        have := hr.hi 0 (rep_nat (n := 0) (by decide)) hVn
        simp [hd, this]
      · have h3 : (1 : Rat) ≤ (DD : Rat) := (intCast_le (a := 1) (b := DD)).2 (by omega)
        have hVn : 1 / 536870912 ≤ V := by
          refine Rat.not_lt.1 fun h => ?_
          have h2 := (ratmul_lt L0).2 h
          have h4 := Rat.mul_le_mul_of_nonneg_left Lm (show (0 : Rat) ≤ 1 / 536870912 by decide +kernel)
          grind
        have := hr.lo _ (rep_lit (q := 1 / 536870912) (-29) (by decide) (by decide +kernel)) hVn
        have hn : ¬ fv r ≤ 0 := by grind
        simp [hd, hn]
    have r_ge : fge r 4607182418800017408 = decide (LL ≤ DD) := by
      have o1 : fv 4607182418800017408 = 1 := one_wh.2
      rw [fge_fv hr.fin one_wh.1, o1]
      by_cases hd : LL ≤ DD
      · have h3 : (LL : Rat) ≤ (DD : Rat) := (intCast_le (a := LL) (b := DD)).2 hd
        have hVn : 1 ≤ V := by
          refine Rat.not_lt.1 fun h => ?_
          have h2 := (ratmul_lt L0).2 h
          grind
        have := hr.lo 1 (rep_nat (n := 1) (by decide)) hVn
        simp [hd, this]
      · have h3 : (DD : Rat) + 1 ≤ (LL : Rat) := by
          have := (intCast_le (a := DD + 1) (b := LL)).2 (by omega)
          rw [Rat.intCast_add] at this
          exact this
        have hVn : V ≤ 536870911 / 536870912 := by
          refine Rat.not_lt.1 fun h => ?_
          have h2 := (ratmul_lt L0).2 h
          grind
        have hrep : Rep (536870911 / 536870912) := ⟨536870911, -29, by decide, by decide, by rw [P2_lit (i := -29) (q := 1 / 536870912) (by decide +kernel)]; decide +kernel⟩
        have := hr.hi _ hrep hVn
        have hn : ¬ 1 ≤ fv r := by grind
        simp [hd, hn]
    have hzz : ¬ LL = 0 := hz
    have hg0 : xy_DistanceFromPointToLine_g0 N l m n = bif fle r 0 then some va else bif fge r 4607182418800017408 then some vb else
        ((Ieee.double.div C L).bind fun v57 => (fsqrt L).bind fun v59 => (Ieee.double.mul (fabs v57) v59).bind fun v60 => some v60) := by
      simp only [xy_DistanceFromPointToLine_g0, hl.1, hl.2, hm.1, hm.2, hn.1, hn.2, Option.bind_some, f1, f2, f3, f4, f5, f6, g1, g2, g3, g4, g5, g6, h1, h2, h3, er, ea, eb, abs_def, math_Sqrt, math_Sqrt_g, math_sqrt]
      cases fsqrt L <;> rfl
    rw [hcode, hg0, r_le, r_ge]
    have en : num px py ax ay bx bY = if DD ≤ 0 then sq ax ay px py else if LL ≤ DD then sq bx bY px py else CC * CC := by
      unfold num; rw [hLL, hDD, hCC]; simp only [hzz, false_or]
    have ed : den px py ax ay bx bY = if DD ≤ 0 then 1 else if LL ≤ DD then 1 else LL := by
      unfold den; rw [hLL, hDD]; simp only [hzz, false_or]
    rw [en, ed]
    by_cases c1 : DD ≤ 0
    · simp only [c1, decide_true, cond_true, if_true]
      exact ⟨va, rfl, fa, by rw [one]; exact na⟩
    · simp only [c1, decide_false, cond_false, if_false]
      by_cases c2 : LL ≤ DD
      · simp only [c2, decide_true, cond_true, if_true]
        exact ⟨vb, rfl, fb, by rw [one]; exact nb⟩
      · simp only [c2, decide_false, cond_false, if_false]
        -- the height
        have hW : -(CC : Rat) / (LL : Rat) * (LL : Rat) = -(CC : Rat) := Rat.div_mul_cancel Lne
        have hQ : ((CC * CC : Int) : Rat) / (LL : Rat) * (LL : Rat) = ((CC * CC : Int) : Rat) := Rat.div_mul_cancel Lne
        generalize -(CC : Rat) / (LL : Rat) = W at hW
        generalize ((CC * CC : Int) : Rat) / (LL : Rat) = Q at hQ
        have Cm : ab (CC : Rat) ≤ 536870912 := by
          rw [ab_int]
          have : ((CC.natAbs : Nat) : Rat) ≤ ((536870912 : Nat) : Rat) := natCast_le.2 kc
          exact this
        have Wab : ab (CC : Rat) = ab W * (LL : Rat) := by rw [← ab_neg, ← hW, ab_mul, ab_of_nonneg (Rat.le_of_lt L0)]
        have Wb : ab W ≤ 536870912 := by
          have := Rat.mul_le_mul_of_nonneg_left L1 (ab_nonneg W)
          grind
        have Wl : CC = 0 ∧ W = 0 ∨ 1 / 536870912 ≤ ab W := by
          by_cases h0 : CC = 0
          · left
            refine ⟨h0, ?_⟩
            rw [h0] at hW
            have e : -((0 : Int) : Rat) = 0 := by show -(0 : Rat) = 0; grind
            rw [e] at hW
            rcases Rat.mul_eq_zero.1 hW with h | h
            · exact h
            · exact absurd h Lne
          · right
            have h1 : (1 : Rat) ≤ ab (CC : Rat) := by
              rw [ab_int]
              have : ((1 : Nat) : Rat) ≤ ((CC.natAbs : Nat) : Rat) := natCast_le.2 (by omega)
              exact this
            refine Rat.not_lt.1 fun h => ?_
            have h2 := (ratmul_lt L0).2 h
            have h4 := Rat.mul_le_mul_of_nonneg_left Lm (show (0 : Rat) ≤ 1 / 536870912 by decide +kernel)
            grind
        have cv : fv C = -(CC : Rat) := by rw [wC.2, Rat.intCast_neg]
        obtain ⟨s, es, hs⟩ := div_rnq wC.1 wL.1 (by rw [wL.2]; exact Lne) (by rw [cv, wL.2]; exact hW) (lt_of_big (by grind) (by decide))
        have pm : ∀ i : Int, -900 ≤ i → P2 (-900) ≤ P2 i := fun i hi => P2_le hi
        have p29 : P2 (-29) = 1 / 536870912 := P2_lit (by decide +kernel)
        have p30 : P2 (-30) = 1 / 1073741824 := P2_lit (by decide +kernel)
        have as_ := hs.ap (by
          rcases Wl with h | h
          · exact .inl h.2
          · right; exact Rat.le_trans (pm (-29) (by decide)) (by rw [p29]; exact h))
        have su := as_.up2 (by decide)
        have sd := as_.down2 (by decide)
        obtain ⟨q, eq, hq⟩ := sqrt_sqr wL.1 (by rw [wL.2]; grind) (by rw [wL.2]; exact lt_of_big (by grind) (by decide))
        rw [wL.2] at hq
        have aq := hq.ap L1
        have q0 := hq.lo 1 (rep_nat (n := 1) (by decide)) (by decide) (by grind)
        have q1 := hq.hi 536870912 (rep_nat (n := 536870912) (by decide)) (by decide) (by grind)
        have fs : fin (fabs s) = true := by rw [fabs_fin]; exact hs.fin
        have sv := fabs_fv s
        have s0 := ab_nonneg (fv s)
        have pb0 : 0 ≤ fv (fabs s) * fv q := by rw [sv]; exact Rat.mul_nonneg s0 (by grind)
        have pb1 : fv (fabs s) * fv q ≤ 576460752303423488 := by
          rw [sv]
          have t1 := Rat.mul_le_mul_of_nonneg_left q1 s0
          have t2 : ab (fv s) * 536870912 ≤ 1073741824 * 536870912 := Rat.mul_le_mul_of_nonneg_right (by grind) (by decide)
          grind
        obtain ⟨v, ev, hv⟩ := mul_rnd fs hq.fin (by rw [ab_of_nonneg pb0]; exact lt_of_big (by grind) (by decide))
        have av := hv.ap (by
          rcases Wl with h | h
          · left
            have : ab (fv s) = 0 := by
              rw [h.2] at su
              have : ab (0 : Rat) = 0 := by unfold ab; grind
              rw [this] at su
              grind
            rw [sv, this]; grind
          · right
            rw [ab_of_nonneg pb0, sv]
            have t1 := Rat.mul_le_mul_of_nonneg_left q0 s0
            have t2 := pm (-30) (by decide)
            rw [p30] at t2
            grind)
        have v0 := hv.lo 0 (rep_nat (n := 0) (by decide)) pb0
        refine ⟨v, ?_, hv.fin, ?_⟩
        · simp only [es, eq, ev, Option.bind_some]
        · have Q0 : 0 ≤ Q := by
            refine Rat.not_lt.1 fun h => ?_
            have h2 := (ratmul_lt L0).2 h
            have h3 := int_rat_nn hN hNl (sq_nn CC)
            grind
          have d1 : Ap (fv s * fv s) (W * W) 3 := (as_.mul as_ (by decide) (by decide) (by decide) (by decide)).mono (by decide +kernel)
          have d2 : Ap (fv s * fv s * (fv q * fv q)) (W * W * (LL : Rat)) 5 := (d1.mul aq (by decide) (by decide +kernel) (by decide) (by decide)).mono (by decide +kernel)
          have eWQ : W * W * (LL : Rat) = Q := by
            have h1 : W * W * (LL : Rat) * (LL : Rat) = Q * (LL : Rat) := by
              rw [hQ, Rat.intCast_mul]
              have : W * W * (LL : Rat) * (LL : Rat) = (W * (LL : Rat)) * (W * (LL : Rat)) := by grind
              rw [this, hW]; grind
            refine Rat.le_antisymm (Rat.not_lt.1 fun h => ?_) (Rat.not_lt.1 fun h => ?_)
            · have := (ratmul_lt L0).2 h; grind
            · have := (ratmul_lt L0).2 h; grind
          rw [eWQ] at d2
          have d3 : Ap (fv v * fv v) (fv (fabs s) * fv q * (fv (fabs s) * fv q)) 3 := (av.mul av (by decide) (by decide) (by decide) (by decide)).mono (by decide +kernel)
          have e3 : fv (fabs s) * fv q * (fv (fabs s) * fv q) = fv s * fv s * (fv q * fv q) := by
            rw [sv]
            have : ab (fv s) * ab (fv s) = fv s * fv s := by unfold ab; split <;> grind
            grind
          rw [e3] at d3
          have d4 : Ap (fv v * fv v) Q 9 := (d3.trans d2 (by decide) (by decide +kernel) (by decide) (by decide +kernel)).mono (by decide +kernel)
          exact nearR_ap d4 Q0 (by decide +kernel) v0
theorem tol20 : fin 4517110426252607488 = true ∧ fv 4517110426252607488 = P2 (-20) :=
  ⟨by decide +kernel, lit_P2 1054 _ (by decide +kernel) (by decide)⟩
theorem near_of {v w : Nat} {q : Rat} (fv' : fin v = true) (fw : fin w = true) (h1 : NearR (fv v) q) (h2 : NearR (fv w) q) (hq : 0 ≤ q) (hb : q ≤ 4294967296) : laws_nearTo N v w = some true := by
  have hc := nearR_close h1 h2 hq hb
  obtain ⟨d, e, hd⟩ := sub_rnd fv' fw (lt_of_big (by grind) (by decide))
  have g1 := hd.hi (1 / 4194304) (rep_lit (-22) (by decide) (by decide +kernel)) (by unfold ab at hc; grind)
  have g2 := hd.lo (-(1 / 4194304)) (rep_neg (rep_lit (-22) (by decide) (by decide +kernel))) (by unfold ab at hc; grind)
  simp only [laws_nearTo, laws_nearTo_g, e, Option.bind_some, abs_def]
  rw [flt_fv (by rw [fabs_fin]; exact hd.fin) (tol20 hN hNl).1, fabs_fv, (tol20 hN hNl).2, P2_lit (i := -20) (q := 1 / 1048576) (by decide +kernel)]
  congr 1
  simp only [decide_eq_true_eq]
  unfold ab
  split <;> grind
theorem ratio_ok {A B : Int} (hA : 0 ≤ A) (hB : 0 < B) (h : A ≤ 536870912 * B) : (0 : Rat) ≤ (A : Rat) / (B : Rat) ∧ (A : Rat) / (B : Rat) ≤ 4294967296 := by
  have hB0 : (0 : Rat) < (B : Rat) := by have := (intCast_lt (a := 0) (b := B)).2 hB; exact this
  have hA0 := int_rat_nn hN hNl hA
  have hq : (A : Rat) / (B : Rat) * (B : Rat) = (A : Rat) := Rat.div_mul_cancel (by grind)
  have hAB : (A : Rat) ≤ 536870912 * (B : Rat) := by
    have := (intCast_le (a := A) (b := 536870912 * B)).2 h
    rw [Rat.intCast_mul] at this
    exact this
  generalize (A : Rat) / (B : Rat) = Q at hq
  constructor
  · refine Rat.not_lt.1 fun h => ?_
    have := (ratmul_lt hB0).2 h; grind
  · refine Rat.not_lt.1 fun h => ?_
    have := (ratmul_lt hB0).2 h; grind
theorem law1 (p a b : Pt) (lp : p.1 < 18446744073709551616 ∧ p.2.1 < 18446744073709551616) (la : a.1 < 18446744073709551616 ∧ a.2.1 < 18446744073709551616) (lb : b.1 < 18446744073709551616 ∧ b.2.1 < 18446744073709551616) :
    laws_FnPointLineDistance N p a b = some true := by
  unfold laws_FnPointLineDistance laws_FnPointLineDistance_g
  have eta : ∀ p : Pt, (p.1, p.2.1, ()) = p := fun _ => rfl
  simp only [eta]
  rcases planeTo b13 (by decide) (N := N) (by omega) [p, a, b] (by simp; omega) (by simp) with h | ⟨h, hs⟩
  · rw [h]; rfl
  rw [h]
  have at_ : ∀ q : Pt, q ∈ [p, a, b] → (q.1 < 18446744073709551616 ∧ q.2.1 < 18446744073709551616) → ∃ X Y, At q X Y := fun q hq l => by
    obtain ⟨⟨X, w1, b1, b2⟩, ⟨Y, w2, b3, b4⟩⟩ := hs q hq
    exact ⟨X, Y, w1, w2, by omega, by omega, l.1, l.2⟩
  obtain ⟨px, py, hp⟩ := at_ p (by simp) lp
  obtain ⟨ax, ay, ha⟩ := at_ a (by simp) la
  obtain ⟨bx, bY, hb⟩ := at_ b (by simp) lb
  obtain ⟨P, ep, xp⟩ := exact2 hN hNl hp
  obtain ⟨A, ea, xa⟩ := exact2 hN hNl ha
  obtain ⟨B, eb, xb⟩ := exact2 hN hNl hb
  obtain ⟨R, eR, n1, d1⟩ := squareTo hN hNl xp xa xb
  obtain ⟨k1, k2, k3, k4, k5⟩ := numden hN hNl ha.bx ha.bY hb.bx hb.bY hp.bx hp.bY
  obtain ⟨w, ew, fw, nw⟩ := rootOf hN hNl (by decide) n1 d1 ⟨k1, k2⟩ ⟨k3, by omega⟩
  have co : ∀ q : Pt, Co [q.1, q.2.1] q := fun q => ⟨rfl, rfl⟩
  obtain ⟨v, ev, fv', nv⟩ := toLine hN hNl (co p) (co a) (co b) hp ha hb
  obtain ⟨r1, r2⟩ := ratio_ok hN hNl k1 k3 k5
  have ei : impl_PointLineDistance N p a b = some v := by
    simp only [impl_PointLineDistance, impl_PointLineDistance_g, impl_coord, impl_coord_g, Option.bind_some, ev]
  simp only [Option.bind_some, Bool.not_true, cond_false, ei, ep, ea, eb, eR, ew, near_of hN hNl fv' fw nv nw r1 r2]
end
end Go.Proofs.Ytlbbldhbggfoaaa.PvPointLine
