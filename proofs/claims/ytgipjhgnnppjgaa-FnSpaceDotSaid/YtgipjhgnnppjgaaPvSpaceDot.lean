/- The law of SpaceDot: the product of two ways is exact. -/
import Derived.Test.YtgipjhgnnppjgaaPvExactFN7
set_option linter.unusedVariables false
set_option linter.unusedSectionVars false
set_option linter.unusedSimpArgs false
namespace Go.Proofs.Ytgipjhgnnppjgaa.PvSpaceDot
open Go.Av Go
open Go.Proofs.Ytgipjhgnnppjgaa.FN7
open Go.Proofs.Ytgipjhgnnppjgaa.PvWholeToFN7
open Go.Proofs.Ytgipjhgnnppjgaa.PvSpaceToFN7
open Go.Proofs.Ytgipjhgnnppjgaa.PvWholeFN7
open Go.Proofs.Ytgipjhgnnppjgaa.PvWhole2FN7
open Go.Proofs.Ytgipjhgnnppjgaa.PvDyadicFN7
open Go.Proofs.Ytgipjhgnnppjgaa.PvFloatFN7
theorem b20 : Wh 4697254411347427328 1048576 := wh_lit _ _ (by decide +kernel) (by decide +kernel) (by decide +kernel) (by decide)
abbrev P3 := Nat × (Nat × (Nat × Unit))
/-- The place's whole numbers. -/
structure At (p : P3) (X Y Z : Int) : Prop where
  x : Wh p.1 X
  y : Wh p.2.1 Y
  z : Wh p.2.2.1 Z
  bx : X.natAbs ≤ 1048576
  bY : Y.natAbs ≤ 1048576
  bz : Z.natAbs ≤ 1048576
  lx : p.1 < 18446744073709551616
  ly : p.2.1 < 18446744073709551616
  lz : p.2.2.1 < 18446744073709551616
section
variable {N : Nat} (hN : 0 < N) (hNl : 9223372036854775808 ≤ N)
include hN hNl
theorem exact3 {p : P3} {X Y Z : Int} (h : At p X Y Z) : ∃ P, laws_exactly3 N p = some P ∧ Dn 0 P.1 (X : Rat) ∧ Dn 0 P.2.1 (Y : Rat) ∧ Dn 0 P.2.2.1 (Z : Rat) := by
  obtain ⟨a, e1, h1⟩ := dof hN hNl h.x.1 h.lx
  obtain ⟨b, e2, h2⟩ := dof hN hNl h.y.1 h.ly
  obtain ⟨c, e3, h3⟩ := dof hN hNl h.z.1 h.lz
  rw [h.x.2] at h1
  rw [h.y.2] at h2
  rw [h.z.2] at h3
  refine ⟨(a, b, c, ()), ?_, h1, h2, h3⟩
  simp only [laws_exactly3, laws_exactly3_g, spec_PointOf3, spec_PointOf3_g, e1, e2, e3, Option.bind_some]
theorem way3 {P Q : DY × (DY × (DY × Unit))} {x y z u v w : Rat} (hx : Dn 0 P.1 x) (hy : Dn 0 P.2.1 y) (hz : Dn 0 P.2.2.1 z) (hu : Dn 0 Q.1 u) (hv : Dn 0 Q.2.1 v) (hw : Dn 0 Q.2.2.1 w) :
    ∃ S, spec_Point3_Sub N P Q = some S ∧ Dn 1 S.1 (x - u) ∧ Dn 1 S.2.1 (y - v) ∧ Dn 1 S.2.2.1 (z - w) := by
  obtain ⟨a, e1, h1⟩ := dsub hN hNl hx hu (by decide)
  obtain ⟨b, e2, h2⟩ := dsub hN hNl hy hv (by decide)
  obtain ⟨c, e3, h3⟩ := dsub hN hNl hz hw (by decide)
  refine ⟨(a, b, c, ()), ?_, h1, h2, h3⟩
  show (Option.bind (spec_Dyadic_Sub N P.1 Q.1) fun v3 => Option.bind (spec_Dyadic_Sub N P.2.1 Q.2.1) fun v4 => Option.bind (spec_Dyadic_Sub N P.2.2.1 Q.2.2.1) fun v5 => some (v3, v4, v5, ())) = _
  simp only [e1, e2, e3, Option.bind_some]
theorem dot3 {P Q : DY × (DY × (DY × Unit))} {x y z u v w : Rat} (hx : Dn 1 P.1 x) (hy : Dn 1 P.2.1 y) (hz : Dn 1 P.2.2.1 z) (hu : Dn 1 Q.1 u) (hv : Dn 1 Q.2.1 v) (hw : Dn 1 Q.2.2.1 w) :
    ∃ S, spec_Dot3 N P Q = some S ∧ Dn 4 S (x * u + y * v + z * w) := by
  obtain ⟨a, e1, h1⟩ := dmul hN hNl hx hu (by decide)
  obtain ⟨b, e2, h2⟩ := dmul hN hNl hy hv (by decide)
  obtain ⟨c, e3, h3⟩ := dmul hN hNl hz hw (by decide)
  obtain ⟨d, e4, h4⟩ := dadd hN hNl h1 h2 (by decide)
  obtain ⟨f, e5, h5⟩ := dadd hN hNl h4 (h3.upto (m := 3) (by decide)) (by decide)
  refine ⟨f, ?_, h5⟩
  show (Option.bind (spec_Dyadic_Mul N P.1 Q.1) fun v3 => Option.bind (spec_Dyadic_Mul N P.2.1 Q.2.1) fun v4 => Option.bind (spec_Dyadic_Add N v3 v4) fun v5 => Option.bind (spec_Dyadic_Mul N P.2.2.1 Q.2.2.1) fun v6 => Option.bind (spec_Dyadic_Add N v5 v6) fun v7 => some v7) = _
  simp only [e1, e2, e3, e4, e5, Option.bind_some]
theorem float_int {k : Nat} {d : DY} {n : Int} (h : Dn k d (n : Rat)) (hk : k ≤ 8) (hn : n.natAbs ≤ 9007199254740992) : ∃ x, spec_Dyadic_Float N d = some x ∧ Wh x n := by
  obtain ⟨x, e, hr, _⟩ := dfloat hN hNl h hk (by
    by_cases h0 : n = 0
    · left; rw [h0]; rfl
    · right
      rw [ab_int]
      constructor
      · have h1 : P2 (-900) ≤ P2 0 := P2_le (by decide)
        rw [P2_zero] at h1
        have h2 : ((1 : Nat) : Rat) ≤ ((n.natAbs : Nat) : Rat) := Rat.not_lt.1 fun hh => by have := natCast_lt.1 hh; omega
        exact Rat.le_trans h1 h2
      · have h2 : ((n.natAbs : Nat) : Rat) < P2 60 := by rw [show (60 : Int) = ((60 : Nat) : Int) from rfl, P2_nat]; exact natCast_lt.2 (by omega)
        have h3 : P2 60 ≤ P2 900 := P2_le (by decide)
        grind)
  exact ⟨x, e, hr.whole hn⟩
theorem bnd {a b c d : Int} (h1 : a.natAbs ≤ 1048576) (h2 : b.natAbs ≤ 1048576) (h3 : c.natAbs ≤ 1048576) (h4 : d.natAbs ≤ 1048576) : ((b - a) * (d - c)).natAbs ≤ 4398046511104 := by
  rw [Int.natAbs_mul]
  have h5 : (b - a).natAbs ≤ 2097152 := by omega
  have h6 : (d - c).natAbs ≤ 2097152 := by omega
  exact Nat.mul_le_mul h5 h6
theorem prodw {a b c d : Nat} {A B C D : Int} (ha : Wh a A) (hb : Wh b B) (hc : Wh c C) (hd : Wh d D) (h1 : A.natAbs ≤ 1048576) (h2 : B.natAbs ≤ 1048576) (h3 : C.natAbs ≤ 1048576) (h4 : D.natAbs ≤ 1048576) :
    ∃ u v m, Ieee.double.sub b a = some u ∧ Ieee.double.sub d c = some v ∧ Ieee.double.mul u v = some m ∧ Wh m ((B - A) * (D - C)) ∧ ((B - A) * (D - C)).natAbs ≤ 4398046511104 := by
  have k := bnd hN hNl h1 h2 h3 h4
  obtain ⟨u, e1, w1⟩ := sub_wh hb ha (by omega)
  obtain ⟨v, e2, w2⟩ := sub_wh hd hc (by omega)
  obtain ⟨m, e3, w3⟩ := mul_wh w1 w2 (by omega)
  exact ⟨u, v, m, e1, e2, e3, w3, k⟩
theorem dotf {a b c d : P3} {ax ay az bx bY bz cx cy cz dx dy dz : Int} (ha : At a ax ay az) (hb : At b bx bY bz) (hc : At c cx cy cz) (hd : At d dx dy dz) :
    ∃ r, impl_Dot3 N a b c d = some r ∧ Wh r ((bx - ax) * (dx - cx) + (bY - ay) * (dy - cy) + (bz - az) * (dz - cz)) := by
  obtain ⟨u1, v1, m1, e1, f1, g1, y1, k1⟩ := prodw hN hNl ha.x hb.x hc.x hd.x ha.bx hb.bx hc.bx hd.bx
  obtain ⟨u2, v2, m2, e2, f2, g2, y2, k2⟩ := prodw hN hNl ha.y hb.y hc.y hd.y ha.bY hb.bY hc.bY hd.bY
  obtain ⟨u3, v3, m3, e3, f3, g3, y3, k3⟩ := prodw hN hNl ha.z hb.z hc.z hd.z ha.bz hb.bz hc.bz hd.bz
  generalize (bx - ax) * (dx - cx) = p1 at *
  generalize (bY - ay) * (dy - cy) = p2 at *
  generalize (bz - az) * (dz - cz) = p3 at *
  obtain ⟨s1, h1, z1⟩ := add_wh y1 y2 (by omega)
  obtain ⟨s2, h2, z2⟩ := add_wh z1 y3 (by omega)
  refine ⟨s2, ?_, z2⟩
  have n0 : ∀ p : P3, nth [p.1, p.2.1, p.2.2.1] 0 = some p.1 := fun _ => rfl
  have n1 : ∀ p : P3, nth [p.1, p.2.1, p.2.2.1] 1 = some p.2.1 := fun _ => rfl
  have n2 : ∀ p : P3, nth [p.1, p.2.1, p.2.2.1] 2 = some p.2.2.1 := fun _ => rfl
  simp only [impl_Dot3, impl_Dot3_g, impl_coord3, impl_coord3_g, xyz_VectorDot, xyz_VectorDot_g, Option.bind_some, n0, n1, n2, e1, e2, e3, f1, f2, f3, g1, g2, g3, h1, h2]
theorem law (a b c d : P3) (la : a.1 < 18446744073709551616 ∧ a.2.1 < 18446744073709551616 ∧ a.2.2.1 < 18446744073709551616) (lb : b.1 < 18446744073709551616 ∧ b.2.1 < 18446744073709551616 ∧ b.2.2.1 < 18446744073709551616)
    (lc : c.1 < 18446744073709551616 ∧ c.2.1 < 18446744073709551616 ∧ c.2.2.1 < 18446744073709551616) (ld : d.1 < 18446744073709551616 ∧ d.2.1 < 18446744073709551616 ∧ d.2.2.1 < 18446744073709551616) : laws_FnSpaceDot N a b c d = some true := by
  unfold laws_FnSpaceDot laws_FnSpaceDot_g
  have eta : ∀ p : P3, (p.1, p.2.1, p.2.2.1, ()) = p := fun _ => rfl
  simp only [eta]
  rcases spaceTo b20 (by decide) (N := N) (by omega) [a, b, c, d] (by simp; omega) (by simp) with h | ⟨h, hs⟩
  · rw [h]; rfl
  rw [h]
  have at_ : ∀ p : P3, p ∈ [a, b, c, d] → (p.1 < 18446744073709551616 ∧ p.2.1 < 18446744073709551616 ∧ p.2.2.1 < 18446744073709551616) → ∃ X Y Z, At p X Y Z := fun p hp l => by
    obtain ⟨⟨X, w1, b1, b2⟩, ⟨Y, w2, b3, b4⟩, ⟨Z, w3, b5, b6⟩⟩ := hs p hp
    exact ⟨X, Y, Z, w1, w2, w3, by omega, by omega, by omega, l.1, l.2.1, l.2.2⟩
  obtain ⟨ax, ay, az, ha⟩ := at_ a (by simp) la
  obtain ⟨bx, bY, bz, hb⟩ := at_ b (by simp) lb
  obtain ⟨cx, cy, cz, hc⟩ := at_ c (by simp) lc
  obtain ⟨dx, dy, dz, hd⟩ := at_ d (by simp) ld
  obtain ⟨A, ea, a1, a2, a3⟩ := exact3 hN hNl ha
  obtain ⟨B, eb, b1, b2, b3⟩ := exact3 hN hNl hb
  obtain ⟨C, ec, c1, c2, c3⟩ := exact3 hN hNl hc
  obtain ⟨D, ed, d1, d2, d3⟩ := exact3 hN hNl hd
  obtain ⟨U, eu, u1, u2, u3⟩ := way3 hN hNl b1 b2 b3 a1 a2 a3
  obtain ⟨V, ev, v1, v2, v3⟩ := way3 hN hNl d1 d2 d3 c1 c2 c3
  obtain ⟨S, es, s1⟩ := dot3 hN hNl u1 u2 u3 v1 v2 v3
  obtain ⟨r, er, wr⟩ := dotf hN hNl ha hb hc hd
  obtain ⟨r', er', wr'⟩ := dotf hN hNl hc hd ha hb
  have k1 := bnd hN hNl ha.bx hb.bx hc.bx hd.bx
  have k2 := bnd hN hNl ha.bY hb.bY hc.bY hd.bY
  have k3 := bnd hN hNl ha.bz hb.bz hc.bz hd.bz
  have eS : ((bx : Rat) - ax) * ((dx : Rat) - cx) + ((bY : Rat) - ay) * ((dy : Rat) - cy) + ((bz : Rat) - az) * ((dz : Rat) - cz) = (((bx - ax) * (dx - cx) + (bY - ay) * (dy - cy) + (bz - az) * (dz - cz) : Int) : Rat) := by
    simp only [Rat.intCast_add, Rat.intCast_mul, Rat.intCast_sub]
  rw [eS] at s1
  obtain ⟨f, ef, wf⟩ := float_int hN hNl s1 (by decide) (by omega)
  have etaY : ∀ p : DY, ((p.1.1, p.1.2.1, ()), p.2.1, ()) = p := fun _ => rfl
  have eta3 : ∀ p : DY × (DY × (DY × Unit)), (p.1, p.2.1, p.2.2.1, ()) = p := fun _ => rfl
  simp only [Option.bind_some, Bool.not_true, cond_false, ea, eb, ec, ed, eu, ev, etaY, eta3, er, es, ef, er']
  rw [feq_wh wr wf, feq_wh wr wr']
  have e2 : (dx - cx) * (bx - ax) + (dy - cy) * (bY - ay) + (dz - cz) * (bz - az) = (bx - ax) * (dx - cx) + (bY - ay) * (dy - cy) + (bz - az) * (dz - cz) := by
    rw [Int.mul_comm (dx - cx), Int.mul_comm (dy - cy), Int.mul_comm (dz - cz)]
  rw [e2]
  simp
end
end Go.Proofs.Ytgipjhgnnppjgaa.PvSpaceDot
