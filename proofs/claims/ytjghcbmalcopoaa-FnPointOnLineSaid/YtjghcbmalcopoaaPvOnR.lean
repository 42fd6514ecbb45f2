/- The rough way to tell whether a place is on a segment, and the law of PointOnLine. -/
import Derived.Test.YtjghcbmalcopoaaPvOn
import Derived.Test.YtjghcbmalcopoaaFl15
set_option linter.unusedVariables false
set_option linter.unusedSectionVars false
set_option linter.unusedSimpArgs false
namespace Go.Proofs.Ytjghcbmalcopoaa.PvOnR
open Go.Av Go
open Go.Proofs.Ytjghcbmalcopoaa.PO
open Go.Proofs.Ytjghcbmalcopoaa.PvWholeToPO
open Go.Proofs.Ytjghcbmalcopoaa.PvPlaneToPO
open Go.Proofs.Ytjghcbmalcopoaa.PvWholePO
open Go.Proofs.Ytjghcbmalcopoaa.PvWhole2PO
open Go.Proofs.Ytjghcbmalcopoaa.PvDyadicPO
open Go.Proofs.Ytjghcbmalcopoaa.PvOrientPO
open Go.Proofs.Ytjghcbmalcopoaa.PvOn
theorem abs_def {N x : Nat} : math_Abs N x = some (fabs x) := by
  simp only [math_Abs, math_Abs_g, math_Float64bits, math_Float64frombits, Option.bind_some, abs_bits, Int.toNat_natCast, fabs]
/-- A whole number that is at most so big. -/
def W (B : Nat) (x : Nat) (X : Int) : Prop := Wh x X ∧ X.natAbs ≤ B
theorem W.sub {A B x y : Nat} {X Y : Int} (hx : W A x X) (hy : W B y Y) (h : A + B ≤ 9007199254740992) : ∃ z, Ieee.double.sub x y = some z ∧ W (A + B) z (X - Y) := by
  obtain ⟨h1, h2⟩ := hx
  obtain ⟨h3, h4⟩ := hy
  obtain ⟨z, e, hz⟩ := sub_wh h1 h3 (by omega)
  exact ⟨z, e, hz, by omega⟩
theorem W.add {A B x y : Nat} {X Y : Int} (hx : W A x X) (hy : W B y Y) (h : A + B ≤ 9007199254740992) : ∃ z, Ieee.double.add x y = some z ∧ W (A + B) z (X + Y) := by
  obtain ⟨h1, h2⟩ := hx
  obtain ⟨h3, h4⟩ := hy
  obtain ⟨z, e, hz⟩ := add_wh h1 h3 (by omega)
  exact ⟨z, e, hz, by omega⟩
theorem W.mul {A B x y : Nat} {X Y : Int} (hx : W A x X) (hy : W B y Y) (h : A * B ≤ 9007199254740992) : ∃ z, Ieee.double.mul x y = some z ∧ W (A * B) z (X * Y) := by
  obtain ⟨h1, h2⟩ := hx
  obtain ⟨h3, h4⟩ := hy
  have : (X * Y).natAbs ≤ A * B := by rw [Int.natAbs_mul]; exact Nat.mul_le_mul h2 h4
  obtain ⟨z, e, hz⟩ := mul_wh h1 h3 (by omega)
  exact ⟨z, e, hz, this⟩
theorem cast_le {a b : Int} {c : Rat} (h : a ≤ b) (e : (b : Rat) = c) : (a : Rat) ≤ c := e ▸ intCast_le.2 h
theorem le_cast {a b : Int} {c : Rat} (h : a ≤ b) (e : (a : Rat) = c) : c ≤ (b : Rat) := e ▸ intCast_le.2 h
/-- A quotient that is not zero is no tiny one. -/
theorem gap {U : Rat} {k d : Int} (hd0 : d ≠ 0) (hd : d.natAbs ≤ 2097152) (h : U * (d : Rat) = (k : Rat)) : (0 < U → 1 / 2097152 ≤ U ∧ 0 < k * d) ∧ (U < 0 → U ≤ -(1 / 2097152) ∧ k * d < 0) ∧ (U = 0 → k = 0) := by
  have key : ∀ {U : Rat} {k d : Int}, 0 < d → d ≤ 2097152 → U * (d : Rat) = (k : Rat) → (0 < U → 1 / 2097152 ≤ U ∧ 0 < k) ∧ (U < 0 → U ≤ -(1 / 2097152) ∧ k < 0) ∧ (U = 0 → k = 0) := by
    intro U k d h0 h1 h
    have r0 : (1 : Rat) ≤ (d : Rat) := le_cast (a := 1) (by omega) (by decide +kernel)
    have r1 : (d : Rat) ≤ 2097152 := cast_le h1 (by decide +kernel)
    refine ⟨fun hU => ?_, fun hU => ?_, fun hU => ?_⟩
    · have hk : 0 < k := by
        refine Int.not_le.1 fun hk => ?_
        have : (k : Rat) ≤ 0 := cast_le hk rfl
        have := Rat.mul_le_mul_of_nonneg_left r0 (Rat.le_of_lt hU)
        grind
      have : (1 : Rat) ≤ (k : Rat) := le_cast (a := 1) (by omega) (by decide +kernel)
      have := Rat.mul_le_mul_of_nonneg_left r1 (Rat.le_of_lt hU)
      exact ⟨by grind, hk⟩
    · have hU' : 0 ≤ -U := by grind
      have m0 := Rat.mul_le_mul_of_nonneg_left r0 hU'
      have m1 := Rat.mul_le_mul_of_nonneg_left r1 hU'
      have hk : k < 0 := by
        refine Int.not_le.1 fun hk => ?_
        have : (0 : Rat) ≤ (k : Rat) := le_cast hk rfl
        grind
      have : (k : Rat) ≤ -1 := cast_le (b := -1) (by omega) (by decide +kernel)
      exact ⟨by grind, hk⟩
    · have : (k : Rat) = 0 := by rw [← h, hU]; grind
      exact intCast_eq.1 this
  rcases Int.lt_or_gt_of_ne hd0 with hneg | hpos
  · have h' : U * ((-d : Int) : Rat) = ((-k : Int) : Rat) := by rw [Rat.intCast_neg, Rat.intCast_neg, ← h]; grind
    obtain ⟨k1, k2, k3⟩ := key (by omega) (by omega) h'
    refine ⟨fun hU => ?_, fun hU => ?_, fun hU => ?_⟩
    · obtain ⟨q, r⟩ := k1 hU
      exact ⟨q, Int.mul_pos_of_neg_of_neg (by omega) hneg⟩
    · obtain ⟨q, r⟩ := k2 hU
      exact ⟨q, Int.mul_neg_of_pos_of_neg (by omega) hneg⟩
    · have := k3 hU; omega
  · obtain ⟨k1, k2, k3⟩ := key hpos (by omega) h
    refine ⟨fun hU => ?_, fun hU => ?_, k3⟩
    · obtain ⟨q, r⟩ := k1 hU
      exact ⟨q, Int.mul_pos r hpos⟩
    · obtain ⟨q, r⟩ := k2 hU
      exact ⟨q, Int.mul_neg_of_neg_of_pos r hpos⟩
/-- The share of the way is told exactly to be below 0, or above 1. -/
theorem quot {x y : Nat} {n d : Int} (hx : W 2097152 x n) (hy : W 2097152 y d) (hd : d ≠ 0) : ∃ z, Ieee.double.div x y = some z ∧ flt z 0 = decide (n * d < 0) ∧ fgt z 4607182418800017408 = decide (0 < (n - d) * d) := by
  have dne : (d : Rat) ≠ 0 := fun h => hd (intCast_eq.1 (show (d : Rat) = ((0 : Int) : Rat) from h))
  obtain ⟨V, hV⟩ : ∃ V : Rat, V * (d : Rat) = (n : Rat) := ⟨(n : Rat) / (d : Rat), Rat.div_mul_cancel dne⟩
  obtain ⟨g1, g2, g3⟩ := gap hd hy.2 hV
  obtain ⟨f1, f2, f3⟩ := gap (U := V - 1) (k := n - d) hd hy.2 (by rw [Rat.intCast_sub, ← hV]; grind)
  have hb : ab V ≤ 2097152 := by
    have nb : ab (n : Rat) ≤ 2097152 := by
      rw [ab_int]
      have : ((n.natAbs : Nat) : Rat) ≤ ((2097152 : Nat) : Rat) := natCast_le.2 hx.2
      have e : ((2097152 : Nat) : Rat) = 2097152 := by decide +kernel
      grind
    have db : 1 ≤ ab (d : Rat) := by
      rw [ab_int]
      have : ((1 : Nat) : Rat) ≤ ((d.natAbs : Nat) : Rat) := natCast_le.2 (by omega)
      have e : ((1 : Nat) : Rat) = 1 := rfl
      grind
    rw [← hV, ab_mul] at nb
    have := Rat.mul_le_mul_of_nonneg_left db (ab_nonneg V)
    grind
  obtain ⟨z, ez, hz⟩ := div_rnq (V := V) hx.1.1 hy.1.1 (by rw [hy.1.2]; exact dne) (by rw [hx.1.2, hy.1.2]; exact hV) (lt_of_big (by grind) (by decide))
  have p21 : P2 (-21) = 1 / 2097152 := P2_lit (by decide +kernel)
  have rep0 : Rep 0 := rep_nat (n := 0) (by decide)
  have rep1 : Rep 1 := rep_nat (n := 1) (by decide)
  have repn : Rep (-(1 / 2097152)) := ⟨-1, -21, by decide, by decide, by rw [p21]; grind⟩
  have repu : Rep (1 + 1 / 2097152) := ⟨2097153, -21, by decide, by decide, by rw [p21]; grind⟩
  refine ⟨z, ez, ?_, ?_⟩
  · rw [flt_fv hz.fin wh_zero.1, wh_zero.2, decide_eq_decide]
    have e0 : ((0 : Int) : Rat) = 0 := rfl
    rw [e0]
    constructor
    · intro h
      refine Int.not_le.1 fun hk => ?_
      by_cases hv : V < 0
      · have := (g2 hv).2; omega
      · have := hz.lo 0 rep0 (by grind); grind
    · intro h
      by_cases hv : V < 0
      · have := hz.hi _ repn (g2 hv).1; grind
      · exfalso
        by_cases hv0 : V = 0
        · have := g3 hv0; subst this; simp at h
        · have := (g1 (by grind)).2; omega
  · rw [fgt_fv hz.fin one_wh.1, one_wh.2, decide_eq_decide]
    have e1 : ((1 : Int) : Rat) = 1 := rfl
    rw [e1]
    constructor
    · intro h
      by_cases hv : 0 < V - 1
      · exact (f1 hv).2
      · have := hz.hi 1 rep1 (by grind); grind
    · intro h
      by_cases hv : 0 < V - 1
      · have := hz.lo _ repu (by have := (f1 hv).1; grind); grind
      · exfalso
        by_cases hv0 : V - 1 = 0
        · have := f3 hv0; rw [this] at h; simp at h
        · have := (f2 (by grind)).2; omega
/-- Of a place on the line: between in one coordinate, so in the other. -/
theorem yb {n dx m dy : Int} (h : n * dy = m * dx) (hd : 0 < dx) (h0 : 0 ≤ n) (h1 : n ≤ dx) : (0 ≤ m ∧ m ≤ dy) ∨ (dy ≤ m ∧ m ≤ 0) := by
  rcases Int.le_total 0 dy with hy | hy
  · left
    constructor
    · have : 0 * dx ≤ m * dx := by rw [← h, Int.zero_mul]; exact Int.mul_nonneg h0 hy
      exact Int.le_of_mul_le_mul_right this hd
    · have : m * dx ≤ dy * dx := by rw [← h, Int.mul_comm dy dx]; exact Int.mul_le_mul_of_nonneg_right h1 hy
      exact Int.le_of_mul_le_mul_right this hd
  · right
    constructor
    · have : dy * dx ≤ m * dx := by
        rw [← h]
        have := Int.mul_le_mul_of_nonneg_right h1 (show 0 ≤ -dy by omega)
        rw [Int.mul_neg, Int.mul_neg] at this
        rw [Int.mul_comm dy dx]; omega
      exact Int.le_of_mul_le_mul_right this hd
    · have : m * dx ≤ 0 * dx := by
        rw [← h, Int.zero_mul]
        have := Int.mul_nonneg h0 (show 0 ≤ -dy by omega)
        rw [Int.mul_neg] at this
        omega
      exact Int.le_of_mul_le_mul_right this hd
theorem yb2 {n dx m dy : Int} (h : n * dy = m * dx) (hd : dx ≠ 0) (h0 : (0 ≤ n ∧ n ≤ dx) ∨ (dx ≤ n ∧ n ≤ 0)) : (0 ≤ m ∧ m ≤ dy) ∨ (dy ≤ m ∧ m ≤ 0) := by
  rcases Int.lt_or_gt_of_ne hd with hneg | hpos
  · refine yb (n := -n) (dx := -dx) ?_ (by omega) (by omega) (by omega)
    rw [Int.neg_mul, Int.mul_neg, h]
  · exact yb h hpos (by omega) (by omega)
/-- The share of the way is from 0 to 1. -/
theorem share {n d : Int} (hd : d ≠ 0) : (¬ n * d < 0 ∧ ¬ 0 < (n - d) * d) ↔ ((0 ≤ n ∧ n ≤ d) ∨ (d ≤ n ∧ n ≤ 0)) := by
  rcases Int.lt_or_gt_of_ne hd with hneg | hpos
  · constructor
    · rintro ⟨h1, h2⟩
      right
      refine ⟨Int.not_lt.1 fun h => h2 (Int.mul_pos_of_neg_of_neg (by omega) hneg), Int.not_lt.1 fun h => h1 (Int.mul_neg_of_pos_of_neg h hneg)⟩
    · intro h
      have ⟨q1, q2⟩ : d ≤ n ∧ n ≤ 0 := by omega
      refine ⟨Int.not_lt.2 (Int.mul_nonneg_of_nonpos_of_nonpos q2 (by omega)), Int.not_lt.2 ?_⟩
      exact Int.mul_nonpos_of_nonneg_of_nonpos (by omega) (by omega)
  · constructor
    · rintro ⟨h1, h2⟩
      left
      refine ⟨Int.not_lt.1 fun h => h1 (Int.mul_neg_of_neg_of_pos h hpos), Int.not_lt.1 fun h => h2 (Int.mul_pos (by omega) hpos)⟩
    · intro h
      have ⟨q1, q2⟩ : 0 ≤ n ∧ n ≤ d := by omega
      exact ⟨Int.not_lt.2 (Int.mul_nonneg q1 (by omega)), Int.not_lt.2 (Int.mul_nonpos_of_nonpos_of_nonneg (by omega) (by omega))⟩
theorem betw {a b x : Int} : between a b x = true ↔ ((0 ≤ x - a ∧ x - a ≤ b - a) ∨ (b - a ≤ x - a ∧ x - a ≤ 0)) := by
  unfold between
  rw [decide_eq_true_eq]
  omega
section
variable {M : Nat}
theorem coord_some {px py ax ay : Nat} {PX PY : Int} (wpx : Wh px PX) (wpy : Wh py PY) {AX AY : Int} (wax : Wh ax AX) (way : Wh ay AY) : ∃ b, gogeom_Coord_Equal (M + 8) [px, py] 1 [ax, ay] = some b := by
  have k : gogeom_Coord_Equal (M + 8) [px, py] 1 [ax, ay] =
      bif fne px px then (bif !(fne px px) then some false else bif !(fne ax ax) then some false else
        bif fne py py then (bif !(fne py py) then some false else bif !(fne ay ay) then some false else some true) else bif fne ay ay then (bif !(fne py py) then some false else bif !(fne ay ay) then some false else some true) else bif fne py ay then some false else some true)
      else bif fne ax ax then (bif !(fne px px) then some false else bif !(fne ax ax) then some false else
        bif fne py py then (bif !(fne py py) then some false else bif !(fne ay ay) then some false else some true) else bif fne ay ay then (bif !(fne py py) then some false else bif !(fne ay ay) then some false else some true) else bif fne py ay then some false else some true)
      else bif fne px ax then some false else
        bif fne py py then (bif !(fne py py) then some false else bif !(fne ay ay) then some false else some true) else bif fne ay ay then (bif !(fne py py) then some false else bif !(fne ay ay) then some false else some true) else bif fne py ay then some false else some true := by kernel_rfl
  rw [k, fne_wh wpx wpx, fne_wh wax wax, fne_wh wpy wpy, fne_wh way way]
  simp only [decide_true, Bool.not_true, cond_false]
  cases fne px ax <;> cases fne py ay <;> exact ⟨_, rfl⟩
theorem n0 (a b : Nat) : nth [a, b] 0 = some a := rfl
theorem n1 (a b : Nat) : nth [a, b] 1 = some b := rfl
/-- The rough way. -/
theorem rough {px py ax ay bx bY : Nat} {PX PY AX AY BX BY : Int} (wpx : W 1048576 px PX) (wpy : W 1048576 py PY) (wax : W 1048576 ax AX) (way : W 1048576 ay AY) (wbx : W 1048576 bx BX) (wby : W 1048576 bY BY) (hne : ¬ (AX = BX ∧ AY = BY)) :
    lineintersector_PointIntersectsLine_b (M + 8) () [px, py] [ax, ay] [bx, bY] = some (onS PX PY AX AY BX BY) := by
  have hN : 0 < M + 8 := by omega
  obtain ⟨a1, e1, k1⟩ := wby.sub way (by decide)
  obtain ⟨b1, e2, k2⟩ := wax.sub wbx (by decide)
  obtain ⟨c1, e3, k3⟩ := wbx.mul way (by decide)
  obtain ⟨c2, e4, k4⟩ := wax.mul wby (by decide)
  obtain ⟨c3, e5, k5⟩ := k3.sub k4 (by decide)
  obtain ⟨r1, e6, k6⟩ := k1.mul wpx (by decide)
  obtain ⟨r2, e7, k7⟩ := k2.mul wpy (by decide)
  obtain ⟨r3, e8, k8⟩ := k6.add k7 (by decide)
  obtain ⟨r4, e9, k9⟩ := k8.add k5 (by decide)
  have hR : (BY - AY) * PX + (AX - BX) * PY + (BX * AY - AX * BY) = -cross AX AY BX BY PX PY := by unfold cross; grind
  rw [hR] at k9
  unfold lineintersector_PointIntersectsLine_b lineintersector_PointIntersectsLine_b_g lineintersector_NonRobustLineIntersector_computePointOnLineIntersection lineintersector_NonRobustLineIntersector_computePointOnLineIntersection_g
  rw [n0, n0, n0, n1, n1, n1]
  simp only [Option.bind_some, e1, e2, e3, e4, e5, e6, e7, e8, e9]
  rw [fne_wh k9.1 wh_zero]
  by_cases hc : cross AX AY BX BY PX PY = 0
  · rw [decide_eq_true (show -cross AX AY BX BY PX PY = 0 by omega), Bool.not_true, cond_false]
    obtain ⟨dx, f1, g1⟩ := wbx.sub wax (by decide)
    obtain ⟨nx, f2, g2⟩ := wpx.sub wax (by decide)
    obtain ⟨ny, f3, g3⟩ := wpy.sub way (by decide)
    have hcr : (PX - AX) * (BY - AY) = (PY - AY) * (BX - AX) := by
      have : (PX - AX) * (BY - AY) - (PY - AY) * (BX - AX) = -cross AX AY BX BY PX PY := by unfold cross; grind
      omega
    have hcr2 : (PY - AY) * (BX - AX) = (PX - AX) * (BY - AY) := hcr.symm
    obtain ⟨q1, i1⟩ := coord_some (M := M) wpx.1 wpy.1 wax.1 way.1
    obtain ⟨q2, i2⟩ := coord_some (M := M) wpx.1 wpy.1 wbx.1 wby.1
    -- the share of the way
    have hp : ∃ z, lineintersector_rParameter (M + 8) [ax, ay] [bx, bY] [px, py] = some z ∧ ((flt z 0 = false ∧ fgt z 4607182418800017408 = false) ↔ onS PX PY AX AY BX BY = true) := by
      unfold lineintersector_rParameter lineintersector_rParameter_g
      rw [n0, n0, n0, n1, n1, n1]
      simp only [Option.bind_some, f1, f2, f3, e1, abs_def, lineintersector_rParameter_j0, lineintersector_rParameter_g0, gate_pos hN]
      rw [fgt_wh (fabs_wh g1.1) (fabs_wh k1.1)]
      have hon : onS PX PY AX AY BX BY = true ↔ (between AX BX PX = true ∧ between AY BY PY = true) := by
        unfold onS; rw [hc]; simp
      rw [hon, betw, betw]
      by_cases hq : (((BY - AY).natAbs : Nat) : Int) < (((BX - AX).natAbs : Nat) : Int)
      · rw [decide_eq_true hq, cond_true]
        have hd : BX - AX ≠ 0 := by omega
        obtain ⟨z, ez, z1, z2⟩ := quot g2 g1 hd
        rw [ez]
        refine ⟨z, rfl, ?_⟩
        rw [z1, z2, decide_eq_false_iff_not, decide_eq_false_iff_not, share hd]
        exact ⟨fun h => ⟨h, yb2 hcr hd h⟩, fun h => h.1⟩
      · rw [decide_eq_false hq, cond_false]
        have hd : BY - AY ≠ 0 := fun h0 => hne ⟨by omega, by omega⟩
        obtain ⟨z, ez, z1, z2⟩ := quot g3 k1 hd
        rw [ez]
        refine ⟨z, rfl, ?_⟩
        rw [z1, z2, decide_eq_false_iff_not, decide_eq_false_iff_not, share hd]
        exact ⟨fun h => ⟨yb2 hcr2 hd h, h⟩, fun h => h.2⟩
    obtain ⟨z, ez, hz⟩ := hp
    rw [ez, Option.bind_some]
    cases h1 : flt z 0 with
    | true =>
      have : onS PX PY AX AY BX BY = false := by
        cases ho : onS PX PY AX AY BX BY with
        | false => rfl
        | true => rw [(hz.2 ho).1] at h1; cases h1
      rw [this]; rfl
    | false =>
      cases h2 : fgt z 4607182418800017408 with
      | true =>
        have : onS PX PY AX AY BX BY = false := by
          cases ho : onS PX PY AX AY BX BY with
          | false => rfl
          | true => rw [(hz.2 ho).2] at h2; cases h2
        rw [this]; rfl
      | false =>
        rw [hz.1 ⟨h1, h2⟩, cond_false, cond_false, i1, Option.bind_some]
        have c0 : ∀ (v1 : List Nat × List Nat × List Nat × List Nat × List Nat × List Nat × Int × Bool × List Nat × List Nat × Unit × Unit) (b : Bool), lineintersector_NonRobustLineIntersector_computePointOnLineIntersection_j0 (M + 8) v1 b = some ((v1.1, v1.2.1, v1.2.2.1, v1.2.2.2.1, v1.2.2.2.2.1, v1.2.2.2.2.2.1, 1, b, v1.2.2.2.2.2.2.2.2.1, v1.2.2.2.2.2.2.2.2.2.1, v1.2.2.2.2.2.2.2.2.2.2.1, ()), ()) := fun v1 b => by
          unfold lineintersector_NonRobustLineIntersector_computePointOnLineIntersection_j0 lineintersector_NonRobustLineIntersector_computePointOnLineIntersection_g0
          rw [gate_pos hN]
        cases q1 with
        | true => rw [cond_true, c0]; rfl
        | false =>
          rw [cond_false, i2, Option.bind_some]
          cases q2
          · rw [cond_false, c0]; rfl
          · rw [cond_true, c0]; rfl
  · rw [decide_eq_false (show ¬ -cross AX AY BX BY PX PY = 0 by omega), Bool.not_false, cond_true]
    have : onS PX PY AX AY BX BY = false := by unfold onS; rw [decide_eq_false hc]; rfl
    rw [this]; rfl
end
theorem b24 : Wh 4715268809856909312 16777216 := wh_lit _ _ (by decide +kernel) (by decide +kernel) (by decide +kernel) (by decide)
theorem b20 : Wh 4697254411347427328 1048576 := wh_lit _ _ (by decide +kernel) (by decide +kernel) (by decide +kernel) (by decide)
/-- The law, whatever the variable holds. -/
theorem law {N : Nat} (hNl : 18446744073709551616 ≤ N) (p a b : Pt) (lp : p.1 < 18446744073709551616 ∧ p.2.1 < 18446744073709551616) (la : a.1 < 18446744073709551616 ∧ a.2.1 < 18446744073709551616) (lb : b.1 < 18446744073709551616 ∧ b.2.1 < 18446744073709551616) :
    laws_FnPointOnLine N p a b = some true := by
  obtain ⟨M, rfl⟩ : ∃ M, N = M + 8 := ⟨N - 8, by omega⟩
  have hN : 0 < M + 8 := by omega
  have hN2 : 9223372036854775808 ≤ M + 8 := by omega
  unfold laws_FnPointOnLine laws_FnPointOnLine_g
  rcases planeTo (N := M + 8) b24 (by decide) (by omega) [(p.1, p.2.1, ()), (a.1, a.2.1, ()), (b.1, b.2.1, ())] (by simp) (by simp) with h | ⟨h, hin⟩
  · rw [h]; rfl
  · obtain ⟨⟨PX, wpx, hpx⟩, ⟨PY, wpy, hpy⟩⟩ := hin (p.1, p.2.1, ()) (by simp)
    obtain ⟨⟨AX, wax, hax⟩, ⟨AY, way, hay⟩⟩ := hin (a.1, a.2.1, ()) (by simp)
    obtain ⟨⟨BX, wbx, hbx⟩, ⟨BY, wby, hby⟩⟩ := hin (b.1, b.2.1, ()) (by simp)
    rw [h, Option.bind_some, Bool.not_true, cond_false]
    obtain ⟨P, ep, p1, p2⟩ := exact2 hN hN2 wpx wpy lp.1 lp.2
    obtain ⟨A, ea, a1, a2⟩ := exact2 hN hN2 wax way la.1 la.2
    obtain ⟨B, eb, b1, b2⟩ := exact2 hN hN2 wbx wby lb.1 lb.2
    have hon := on_spec hN hN2 a1 a2 b1 b2 p1 p2
    have hr := robust hN hN2 wpx wpy wax way wbx wby (by omega) (by omega) (by omega) (by omega) (by omega) (by omega)
    have i1 : impl_PointOnLine (M + 8) true (p.1, p.2.1, ()) (a.1, a.2.1, ()) (b.1, b.2.1, ()) = some (onS PX PY AX AY BX BY) := by
      have k : impl_PointOnLine (M + 8) true (p.1, p.2.1, ()) (a.1, a.2.1, ()) (b.1, b.2.1, ()) = (lineintersector_PointIntersectsLine (M + 8) () [p.1, p.2.1] [a.1, a.2.1] [b.1, b.2.1]).bind fun v => some v := by kernel_rfl
      rw [k, hr]; rfl
    rw [ep, Option.bind_some, ea, Option.bind_some, eb, Option.bind_some, hon, Option.bind_some, i1, Option.bind_some]
    have ebb : ∀ o : Bool, (!(o == o)) = false := fun o => by cases o <;> rfl
    rw [ebb, cond_false, Bool.and_true]
    rw [feq_wh wax wbx, feq_wh way wby]
    by_cases hq : AX = BX ∧ AY = BY
    · rw [decide_eq_true hq.1, decide_eq_true hq.2]; rfl
    · have hf : (decide (AX = BX) && decide (AY = BY)) = false := by
        rw [← Bool.decide_and]; exact decide_eq_false hq
      rw [hf, cond_false]
      rcases planeTo (N := M + 8) b20 (by decide) (by omega) [(p.1, p.2.1, ()), (a.1, a.2.1, ()), (b.1, b.2.1, ())] (by simp) (by simp) with h | ⟨h, hin⟩
      · rw [h]; rfl
      · have toW : ∀ {x : Nat} {X : Int}, Wh x X → In 1048576 x → W 1048576 x X := fun {x X} hx ⟨Y, hy, h1, h2⟩ => by
          have : X = Y := wh_inj hx hy
          subst this
          exact ⟨hx, by omega⟩
        obtain ⟨s1, s2⟩ := hin (p.1, p.2.1, ()) (by simp)
        obtain ⟨s3, s4⟩ := hin (a.1, a.2.1, ()) (by simp)
        obtain ⟨s5, s6⟩ := hin (b.1, b.2.1, ()) (by simp)
        have hr2 := rough (M := M) (toW wpx s1) (toW wpy s2) (toW wax s3) (toW way s4) (toW wbx s5) (toW wby s6) hq
        have i2 : impl_PointOnLine (M + 8) false (p.1, p.2.1, ()) (a.1, a.2.1, ()) (b.1, b.2.1, ()) = some (onS PX PY AX AY BX BY) := by
          have k : impl_PointOnLine (M + 8) false (p.1, p.2.1, ()) (a.1, a.2.1, ()) (b.1, b.2.1, ()) = (lineintersector_PointIntersectsLine_b (M + 8) () [p.1, p.2.1] [a.1, a.2.1] [b.1, b.2.1]).bind fun v => some v := by kernel_rfl
          rw [k, hr2]; rfl
        rw [h, Option.bind_some, Bool.not_true, cond_false, i2, Option.bind_some]
        cases onS PX PY AX AY BX BY <;> rfl
end Go.Proofs.Ytjghcbmalcopoaa.PvOnR
