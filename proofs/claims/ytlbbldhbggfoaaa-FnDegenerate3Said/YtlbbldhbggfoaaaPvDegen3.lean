/- The law of Degenerate3. -/
import Derived.Test.YtlbbldhbggfoaaaPvDegen2
set_option linter.unusedVariables false
set_option linter.unusedSectionVars false
set_option linter.unusedSimpArgs false
namespace Go.Proofs.Ytlbbldhbggfoaaa.PvDegen3
open Go.Av Go
open Go.Proofs.Ytlbbldhbggfoaaa.D2
open Go.Proofs.Ytlbbldhbggfoaaa.PvGridD2
open Go.Proofs.Ytlbbldhbggfoaaa.PvHeight
open Go.Proofs.Ytlbbldhbggfoaaa.PvDegen2 (abs_def b1000 tol0 b2000 W W.sub W.add W.mul W.mono W.zero W.int W.half mul_self_nn fge_down tolf)
def At (x y z : Nat) (X Y Z : Int) : Prop := W 1000 x X ∧ W 1000 y Y ∧ W 1000 z Z
theorem lagr3 {a b c d e f L : Int} (h1 : a * a + b * b + c * c ≤ L) (h2 : d * d + e * e + f * f ≤ L) :
    (b * f - c * e) * (b * f - c * e) + (c * d - a * f) * (c * d - a * f) + (a * e - b * d) * (a * e - b * d) ≤ L * L := by
  have e1 : (b * f - c * e) * (b * f - c * e) + (c * d - a * f) * (c * d - a * f) + (a * e - b * d) * (a * e - b * d) + (a * d + b * e + c * f) * (a * d + b * e + c * f) = (a * a + b * b + c * c) * (d * d + e * e + f * f) := by grind
  have h0 := mul_self_nn (a * d + b * e + c * f)
  have k0 : 0 ≤ d * d + e * e + f * f := by have := mul_self_nn d; have := mul_self_nn e; have := mul_self_nn f; omega
  have k1 : 0 ≤ a * a + b * b + c * c := by have := mul_self_nn a; have := mul_self_nn b; have := mul_self_nn c; omega
  have := Int.mul_le_mul h1 h2 k0 (by omega)
  omega
theorem W_sq_le {B x : Nat} {X : Int} (hx : W B x X) : 0 ≤ (X : Rat) * (X : Rat) ∧ (X : Rat) * (X : Rat) ≤ ((B * B : Nat) : Rat) := by
  refine ⟨PvHeight.sq_nonneg _, ?_⟩
  have h : (X * X).natAbs ≤ B * B := by rw [Int.natAbs_mul]; exact Nat.mul_le_mul hx.2 hx.2
  rw [← Rat.intCast_mul]
  have h2 : X * X ≤ ((B * B : Nat) : Int) := by omega
  exact intCast_le.2 h2
/-- The length of a vector of whole numbers. -/
theorem norm_eq {N B x y z : Nat} {X Y Z : Int} (hB : B ≤ 8000000) (hx : W B x X) (hy : W B y Y) (hz : W B z Z) {S : Int} (hS : S = X * X + Y * Y + Z * Z) :
    ∃ h, r3_Norm N (x, y, z, ()) = some h ∧ fin h = true ∧ 0 ≤ fv h ∧ (fv h = 0 ∨ 1 / 2 ≤ fv h) ∧ fv h ≤ 4294967296 ∧ Ap (fv h * fv h) (S : Rat) (57 / 2) := by
  obtain ⟨p1, p2⟩ := hx.half (by omega)
  obtain ⟨p3, p4⟩ := hy.half (by omega)
  obtain ⟨p5, p6⟩ := hz.half (by omega)
  have hBB : ((B * B : Nat) : Rat) ≤ 64000000000000 := by
    have : ((B * B : Nat) : Rat) ≤ ((64000000000000 : Nat) : Rat) := natCast_le.2 (Nat.mul_le_mul hB hB)
    have e : ((64000000000000 : Nat) : Rat) = 64000000000000 := by decide +kernel
    grind
  have x2 := W_sq_le hx
  have y2 := W_sq_le hy
  have z2 := W_sq_le hz
  have rx := hx.1.2
  have ry := hy.1.2
  have rz := hz.1.2
  have in0 : ∃ m, fhypot y z = some m ∧ fin m = true ∧ (fv m = 0 ∨ 1 / 2 ≤ ab (fv m)) ∧ ab (fv m) ≤ 2147483648 ∧ Ap (fv m * fv m) ((Y : Rat) * (Y : Rat) + (Z : Rat) * (Z : Rat)) 14 ∧ (fv m = 0 → (Y : Rat) * (Y : Rat) + (Z : Rat) * (Z : Rat) = 0) := by
    by_cases h0 : fv y = 0 ∧ fv z = 0
    · have e0 : fv 0 = 0 := wh_zero.2
      refine ⟨0, hypot_zero h0.1 h0.2, by decide, .inl e0, by rw [e0]; decide +kernel, ?_, fun _ => ?_⟩
      · rw [← ry, ← rz, h0.1, h0.2, e0]
        have := (Ap.refl (0 : Rat)).mono (show (0 : Rat) ≤ 14 by decide)
        rwa [show (0 : Rat) * 0 + 0 * 0 = 0 by decide +kernel, show (0 : Rat) * 0 = 0 by decide +kernel]
      · rw [← ry, ← rz, h0.1, h0.2]; decide +kernel
    · obtain ⟨m, em, fm, m1, m2, ma⟩ := hypot_ap hy.1.1 hz.1.1 p3 p4 p5 p6 h0
      rw [ry, rz] at ma
      have mm : ab (fv m) = fv m := ab_of_nonneg (by grind)
      have up := ma.up2 (by decide)
      rw [ab_mul, mm, ab_of_nonneg (by grind)] at up
      refine ⟨m, em, fm, .inr (by rw [mm]; exact m1), ?_, ma, fun h => by grind⟩
      rw [mm]
      refine Rat.not_lt.1 fun h => ?_
      have := Rat.mul_le_mul_of_nonneg_left (Rat.le_of_lt h) (show 0 ≤ fv m by grind)
      grind
  obtain ⟨m, em, fm, m1, m2, ma, m3⟩ := in0
  have hadd : Ap ((X : Rat) * (X : Rat) + fv m * fv m) ((X : Rat) * (X : Rat) + ((Y : Rat) * (Y : Rat) + (Z : Rat) * (Z : Rat))) 14 := Ap.add ((Ap.refl _).mono (by decide)) ma x2.1 (by grind)
  have hSr : (S : Rat) = (X : Rat) * (X : Rat) + ((Y : Rat) * (Y : Rat) + (Z : Rat) * (Z : Rat)) := by
    rw [hS, Rat.intCast_add, Rat.intCast_add, Rat.intCast_mul, Rat.intCast_mul, Rat.intCast_mul, Rat.add_assoc]
  by_cases h0 : fv x = 0 ∧ fv m = 0
  · have e0 : fv 0 = 0 := wh_zero.2
    refine ⟨0, ?_, by decide, by rw [e0]; decide, .inl e0, by rw [e0]; decide, ?_⟩
    · simp only [r3_Norm, r3_Norm_g, math_Hypot, math_Hypot_g, math_archHypot, em, hypot_zero h0.1 h0.2, Option.bind_some]
    · have z0 : (S : Rat) = 0 := by rw [hSr, m3 h0.2, ← rx, h0.1]; decide +kernel
      rw [z0, e0]
      have := (Ap.refl (0 : Rat)).mono (show (0 : Rat) ≤ 57 / 2 by decide +kernel)
      rwa [show (0 : Rat) * 0 = 0 by decide +kernel]
  · obtain ⟨h, eh, fh, h1, h2, ha⟩ := hypot_ap hx.1.1 fm p1 p2 m1 m2 h0
    rw [rx] at ha
    refine ⟨h, ?_, fh, by grind, .inr h1, h2, ?_⟩
    · simp only [r3_Norm, r3_Norm_g, math_Hypot, math_Hypot_g, math_archHypot, em, eh, Option.bind_some]
    · rw [hSr]
      exact (trans2 ha hadd (by decide) (by decide) (by decide) (by decide)).mono (by decide +kernel)
section
variable {M : Nat}
theorem square_eq {x y z u v w : Nat} {X Y Z U V T : Int} (h1 : At x y z X Y Z) (h2 : At u v w U V T) :
    ∃ r, spec_SquareN (M + 8) [x, y, z] [u, v, w] = some r ∧ W 12000000 r ((X - U) * (X - U) + (Y - V) * (Y - V) + (Z - T) * (Z - T)) := by
  obtain ⟨hx, hy, hz⟩ := h1
  obtain ⟨hu, hv, hw⟩ := h2
  obtain ⟨a, e1, k1⟩ := hx.sub hu (by decide)
  obtain ⟨b, e2, k2⟩ := k1.mul k1 (by decide)
  obtain ⟨c, e3, k3⟩ := W.zero.add k2 (by decide)
  obtain ⟨d, e4, k4⟩ := hy.sub hv (by decide)
  obtain ⟨f, e5, k5⟩ := k4.mul k4 (by decide)
  obtain ⟨g, e6, k6⟩ := k3.add k5 (by decide)
  obtain ⟨p, e7, k7⟩ := hz.sub hw (by decide)
  obtain ⟨q, e8, k8⟩ := k7.mul k7 (by decide)
  obtain ⟨r, e9, k9⟩ := k6.add k8 (by decide)
  refine ⟨r, ?_, ?_⟩
  · have k : spec_SquareN (M + 8) [x, y, z] [u, v, w] = (Ieee.double.sub x u).bind fun v14 => (Ieee.double.sub x u).bind fun v16 => (Ieee.double.mul v14 v16).bind fun v17 => (Ieee.double.add 0 v17).bind fun v18 =>
        (Ieee.double.sub y v).bind fun v14 => (Ieee.double.sub y v).bind fun v16 => (Ieee.double.mul v14 v16).bind fun v17 => (Ieee.double.add v18 v17).bind fun v18 =>
        (Ieee.double.sub z w).bind fun v14 => (Ieee.double.sub z w).bind fun v16 => (Ieee.double.mul v14 v16).bind fun v17 => (Ieee.double.add v18 v17).bind fun v18 => some v18 := by kernel_rfl
    rw [k]
    simp only [e1, e2, e3, e4, e5, e6, e7, e8, e9, Option.bind_some]
  · rw [Int.zero_add] at k9
    exact k9.mono (by decide)
def Same (X Y Z U V T : Int) : Prop := X = U ∧ Y = V ∧ Z = T
instance (X Y Z U V T : Int) : Decidable (Same X Y Z U V T) := by unfold Same; exact inferInstance
theorem same_eq {x y z u v w : Nat} {X Y Z U V T : Int} (h1 : At x y z X Y Z) (h2 : At u v w U V T) :
    spec_SamePoint (M + 8) [x, y, z] [u, v, w] = some (decide (Same X Y Z U V T)) := by
  obtain ⟨hx, hy, hz⟩ := h1
  obtain ⟨hu, hv, hw⟩ := h2
  have k : spec_SamePoint (M + 8) [x, y, z] [u, v, w] = bif fne x u then some false else bif fne y v then some false else bif fne z w then some false else some true := by kernel_rfl
  rw [k, fne_wh hx.1 hu.1, fne_wh hy.1 hv.1, fne_wh hz.1 hw.1]
  unfold Same
  by_cases h1 : X = U <;> by_cases h2 : Y = V <;> by_cases h3 : Z = T <;> simp [h1, h2, h3]
theorem differ_eq {ax ay az bx bY bz cx cy cz : Nat} {AX AY AZ BX BY BZ CX CY CZ : Int} (h1 : At ax ay az AX AY AZ) (h2 : At bx bY bz BX BY BZ) (h3 : At cx cy cz CX CY CZ) :
    ∃ t, spec_Differ (M + 8) [[ax, ay, az], [bx, bY, bz], [cx, cy, cz]] = some t ∧ (t = true → ¬ Same BX BY BZ AX AY AZ ∧ ¬ Same CX CY CZ AX AY AZ ∧ ¬ Same CX CY CZ BX BY BZ) := by
  have k : spec_Differ (M + 8) [[ax, ay, az], [bx, bY, bz], [cx, cy, cz]] = (spec_SamePoint (M + 8) [bx, bY, bz] [ax, ay, az]).bind fun v16 => bif v16 then some false else
      (spec_SamePoint (M + 8) [cx, cy, cz] [ax, ay, az]).bind fun v16 => bif v16 then some false else (spec_SamePoint (M + 8) [cx, cy, cz] [bx, bY, bz]).bind fun v16 => bif v16 then some false else some true := by kernel_rfl
  rw [k, same_eq h2 h1, same_eq h3 h1, same_eq h3 h2]
  simp only [Option.bind_some]
  by_cases q1 : Same BX BY BZ AX AY AZ
  · rw [decide_eq_true q1]; exact ⟨false, rfl, fun h => by cases h⟩
  · by_cases q2 : Same CX CY CZ AX AY AZ
    · rw [decide_eq_false q1, decide_eq_true q2]; exact ⟨false, rfl, fun h => by cases h⟩
    · by_cases q3 : Same CX CY CZ BX BY BZ
      · rw [decide_eq_false q1, decide_eq_false q2, decide_eq_true q3]; exact ⟨false, rfl, fun h => by cases h⟩
      · rw [decide_eq_false q1, decide_eq_false q2, decide_eq_false q3]; exact ⟨true, rfl, fun _ => ⟨q1, q2, q3⟩⟩
/-- The square of a product across. -/
def crs (a b c d e f : Int) : Int := (b * f - c * e) * (b * f - c * e) + (c * d - a * f) * (c * d - a * f) + (a * e - b * d) * (a * e - b * d)
theorem area_eq {N ax ay az bx bY bz cx cy cz : Nat} {AX AY AZ BX BY BZ CX CY CZ : Int} (h1 : At ax ay az AX AY AZ) (h2 : At bx bY bz BX BY BZ) (h3 : At cx cy cz CX CY CZ) :
    ∃ m, laws_squareArea3 N (ax, ay, az, ()) (bx, bY, bz, ()) (cx, cy, cz, ()) = (Ieee.double.div m 4616189618054758400).bind (fun z => some z) ∧
      W 192000000000000 m (crs (BX - AX) (BY - AY) (BZ - AZ) (CX - AX) (CY - AY) (CZ - AZ)) := by
  obtain ⟨a1, a2, a3⟩ := h1
  obtain ⟨b1, b2, b3⟩ := h2
  obtain ⟨c1, c2, c3⟩ := h3
  obtain ⟨u1, e1, k1⟩ := b1.sub a1 (by decide)
  obtain ⟨u2, e2, k2⟩ := b2.sub a2 (by decide)
  obtain ⟨u3, e3, k3⟩ := b3.sub a3 (by decide)
  obtain ⟨v1, e4, k4⟩ := c1.sub a1 (by decide)
  obtain ⟨v2, e5, k5⟩ := c2.sub a2 (by decide)
  obtain ⟨v3, e6, k6⟩ := c3.sub a3 (by decide)
  obtain ⟨p1, f1, g1⟩ := k2.mul k6 (by decide)
  obtain ⟨p2, f2, g2⟩ := k3.mul k5 (by decide)
  obtain ⟨n1, f3, g3⟩ := g1.sub g2 (by decide)
  obtain ⟨p4, f4, g4⟩ := k3.mul k4 (by decide)
  obtain ⟨p5, f5, g5⟩ := k1.mul k6 (by decide)
  obtain ⟨n2, f6, g6⟩ := g4.sub g5 (by decide)
  obtain ⟨p7, f7, g7⟩ := k1.mul k5 (by decide)
  obtain ⟨p8, f8, g8⟩ := k2.mul k4 (by decide)
  obtain ⟨n3, f9, g9⟩ := g7.sub g8 (by decide)
  obtain ⟨q1, i1, j1⟩ := g3.mul g3 (by decide)
  obtain ⟨q2, i2, j2⟩ := g6.mul g6 (by decide)
  obtain ⟨q3, i3, j3⟩ := j1.add j2 (by decide)
  obtain ⟨q4, i4, j4⟩ := g9.mul g9 (by decide)
  obtain ⟨m, i5, j5⟩ := j3.add j4 (by decide)
  refine ⟨m, ?_, j5⟩
  simp only [laws_squareArea3, laws_squareArea3_g, e1, e2, e3, e4, e5, e6, f1, f2, f3, f4, f5, f6, f7, f8, f9, i1, i2, i3, i4, i5, Option.bind_some]
theorem dist_eq {N px py pz qx qy qz rx ry rz : Nat} {PX PY PZ QX QY QZ RX RY RZ : Int} (h1 : At px py pz PX PY PZ) (h2 : At qx qy qz QX QY QZ) (h3 : At rx ry rz RX RY RZ) {S L : Int} (hL1 : 1 ≤ L)
    (hS : S = crs (RX - PX) (RY - PY) (RZ - PZ) (RX - QX) (RY - QY) (RZ - QZ)) (hL : L = (QX - PX) * (QX - PX) + (QY - PY) * (QY - PY) + (QZ - PZ) * (QZ - PZ)) :
    ∃ num den, r3_line_distance N ((px, py, pz, ()), (qx, qy, qz, ()), ()) (rx, ry, rz, ()) = (Ieee.double.div num den).bind (fun z => some z) ∧
      fin num = true ∧ 0 ≤ fv num ∧ (fv num = 0 ∨ 1 / 4 ≤ fv num) ∧ fv num ≤ 1099511627776 ∧ Ap (fv num * fv num) (S : Rat) (57 / 2) ∧
      fin den = true ∧ 1 / 2 ≤ fv den ∧ fv den ≤ 4294967296 ∧ Ap (fv den * fv den) (L : Rat) (57 / 2) := by
  obtain ⟨a1, a2, a3⟩ := h1
  obtain ⟨b1, b2, b3⟩ := h2
  obtain ⟨c1, c2, c3⟩ := h3
  obtain ⟨u1, e1, k1⟩ := c1.sub a1 (by decide)
  obtain ⟨u2, e2, k2⟩ := c2.sub a2 (by decide)
  obtain ⟨u3, e3, k3⟩ := c3.sub a3 (by decide)
  obtain ⟨v1, e4, k4⟩ := c1.sub b1 (by decide)
  obtain ⟨v2, e5, k5⟩ := c2.sub b2 (by decide)
  obtain ⟨v3, e6, k6⟩ := c3.sub b3 (by decide)
  obtain ⟨p1, f1, g1⟩ := k2.mul k6 (by decide)
  obtain ⟨p2, f2, g2⟩ := k3.mul k5 (by decide)
  obtain ⟨n1, f3, g3⟩ := g1.sub g2 (by decide)
  obtain ⟨p4, f4, g4⟩ := k3.mul k4 (by decide)
  obtain ⟨p5, f5, g5⟩ := k1.mul k6 (by decide)
  obtain ⟨n2, f6, g6⟩ := g4.sub g5 (by decide)
  obtain ⟨p7, f7, g7⟩ := k1.mul k5 (by decide)
  obtain ⟨p8, f8, g8⟩ := k2.mul k4 (by decide)
  obtain ⟨n3, f9, g9⟩ := g7.sub g8 (by decide)
  obtain ⟨w1, i1, j1⟩ := b1.sub a1 (by decide)
  obtain ⟨w2, i2, j2⟩ := b2.sub a2 (by decide)
  obtain ⟨w3, i3, j3⟩ := b3.sub a3 (by decide)
  obtain ⟨num, en, nf, n0, nh, nb, na⟩ := norm_eq (N := N) (B := 8000000) (by decide) (g3.mono (by decide)) (g6.mono (by decide)) (g9.mono (by decide)) (S := S) (by rw [hS]; rfl)
  obtain ⟨den, ed, df, d0, dh, db, da⟩ := norm_eq (N := N) (B := 2000) (by decide) (j1.mono (by decide)) (j2.mono (by decide)) (j3.mono (by decide)) (S := L) hL
  have dh2 : 1 / 2 ≤ fv den := by
    rcases dh with h | h
    · have l1 : (1 : Rat) ≤ (L : Rat) := by exact_mod_cast hL1
      have := da.down2 (by decide +kernel)
      rw [ab_mul, h, ab_of_nonneg (v := (L : Rat)) (by grind)] at this
      have z : ab (0 : Rat) = 0 := by unfold ab; grind
      rw [z] at this
      grind
    · exact h
  refine ⟨num, den, ?_, nf, n0, ?_, by grind, na, df, dh2, db, da⟩
  · simp only [r3_line_distance, r3_line_distance_g, r3_Sub, r3_Sub_g, r3_Cross, r3_Cross_g, e1, e2, e3, e4, e5, e6, f1, f2, f3, f4, f5, f6, f7, f8, f9, i1, i2, i3, en, ed, Option.bind_some]
  · rcases nh with h | h
    · exact .inl h
    · right; grind
theorem sub_eq {N x y z u v w : Nat} {X Y Z U V T : Int} (h1 : At x y z X Y Z) (h2 : At u v w U V T) :
    ∃ a b c r, r3_Sub N (x, y, z, ()) (u, v, w, ()) = some (a, b, c, ()) ∧ r3_Norm2 N (a, b, c, ()) = some r ∧ W 12000000 r ((X - U) * (X - U) + (Y - V) * (Y - V) + (Z - T) * (Z - T)) := by
  obtain ⟨hx, hy, hz⟩ := h1
  obtain ⟨hu, hv, hw⟩ := h2
  obtain ⟨a, e1, k1⟩ := hx.sub hu (by decide)
  obtain ⟨b, e2, k2⟩ := k1.mul k1 (by decide)
  obtain ⟨d, e4, k4⟩ := hy.sub hv (by decide)
  obtain ⟨f, e5, k5⟩ := k4.mul k4 (by decide)
  obtain ⟨g, e6, k6⟩ := k2.add k5 (by decide)
  obtain ⟨p, e7, k7⟩ := hz.sub hw (by decide)
  obtain ⟨q, e8, k8⟩ := k7.mul k7 (by decide)
  obtain ⟨r, e9, k9⟩ := k6.add k8 (by decide)
  refine ⟨a, d, p, r, ?_, ?_, k9.mono (by decide)⟩
  · simp only [r3_Sub, r3_Sub_g, e1, e4, e7, Option.bind_some]
  · simp only [r3_Norm2, r3_Norm2_g, e2, e5, e6, e8, e9, Option.bind_some]
def onSide (N : Nat) (a b c : Nat × Nat × Nat × Unit) (tol : Nat) : Option Bool := (r3_line_distance N (a, b, ()) c).bind fun d => some (fle d tol)
theorem long_eq {ax ay az bx bY bz cx cy cz : Nat} {AX AY AZ BX BY BZ CX CY CZ : Int} (h1 : At ax ay az AX AY AZ) (h2 : At bx bY bz BX BY BZ) (h3 : At cx cy cz CX CY CZ) {s0 s1 s2 : Int}
    (e0 : s0 = (BX - CX) * (BX - CX) + (BY - CY) * (BY - CY) + (BZ - CZ) * (BZ - CZ)) (e1 : s1 = (CX - AX) * (CX - AX) + (CY - AY) * (CY - AY) + (CZ - AZ) * (CZ - AZ)) (e2 : s2 = (AX - BX) * (AX - BX) + (AY - BY) * (AY - BY) + (AZ - BZ) * (AZ - BZ)) :
    (s1 < s0 → s2 < s0 → r3_Triangle_longIdx (M + 8) ((ax, ay, az, ()), (bx, bY, bz, ()), (cx, cy, cz, ()), ()) = some 1) ∧
    (s0 < s1 → s2 < s1 → r3_Triangle_longIdx (M + 8) ((ax, ay, az, ()), (bx, bY, bz, ()), (cx, cy, cz, ()), ()) = some 2) ∧
    (s0 < s2 → s1 < s2 → r3_Triangle_longIdx (M + 8) ((ax, ay, az, ()), (bx, bY, bz, ()), (cx, cy, cz, ()), ()) = some 0) := by
  obtain ⟨a, b, c, z, g1, g2, g3⟩ := sub_eq (N := M + 8) h2 h1
  obtain ⟨a', b', c', z', g1', g2', g3'⟩ := sub_eq (N := M + 8) h3 h2
  obtain ⟨a'', b'', c'', z'', g1'', g2'', g3''⟩ := sub_eq (N := M + 8) h1 h3
  rw [show (BX - AX) * (BX - AX) + (BY - AY) * (BY - AY) + (BZ - AZ) * (BZ - AZ) = s2 by rw [e2]; grind] at g3
  rw [show (CX - BX) * (CX - BX) + (CY - BY) * (CY - BY) + (CZ - BZ) * (CZ - BZ) = s0 by rw [e0]; grind] at g3'
  rw [show (AX - CX) * (AX - CX) + (AY - CY) * (AY - CY) + (AZ - CZ) * (AZ - CZ) = s1 by rw [e1]; grind] at g3''
  have hN0 : 0 < M + 8 := by omega
  simp only [r3_Triangle_longIdx, r3_Triangle_longIdx_g, g1, g2, g1', g2', g1'', g2'', Option.bind_some, r3_Triangle_longIdx_j0, r3_Triangle_longIdx_g0, r3_Triangle_longIdx_j1, r3_Triangle_longIdx_g1, gate_pos hN0,
    fgt_wh g3'.1 g3.1, fgt_wh g3''.1 g3.1, fgt_wh g3''.1 g3'.1]
  clear e0 e1 e2 g3 g3' g3''
  refine ⟨fun q1 q2 => ?_, fun q1 q2 => ?_, fun q1 q2 => ?_⟩
  · rw [decide_eq_true (show s2 < s0 from q2), decide_eq_false (show ¬ s0 < s1 by omega)]; rfl
  · rw [decide_eq_true (show s2 < s1 from q2), decide_eq_true (show s0 < s1 from q1)]
    cases decide (s2 < s0) <;> rfl
  · rw [decide_eq_false (show ¬ s2 < s0 by omega), decide_eq_false (show ¬ s2 < s1 by omega)]; rfl
theorem deg_0 {ax ay az bx bY bz cx cy cz tol : Nat} (h : r3_Triangle_longIdx (M + 8) ((ax, ay, az, ()), (bx, bY, bz, ()), (cx, cy, cz, ()), ()) = some 0) : impl_Degenerate3 (M + 8) (ax, ay, az, ()) (bx, bY, bz, ()) (cx, cy, cz, ()) tol = onSide (M + 8) (ax, ay, az, ()) (bx, bY, bz, ()) (cx, cy, cz, ()) tol := by
  have hbind : ∀ {x : Option Bool}, x.bind (fun v8 => some v8) = x := fun {x} => by cases x <;> rfl
  simp only [impl_Degenerate3, impl_Degenerate3_g, impl_vec3, impl_vec3_g, Option.bind_some, hbind, r3_Triangle_IsDegenerate, r3_Triangle_IsDegenerate_g, h]
  show (_ : Option Bool) = _
  kernel_rfl
theorem deg_1 {ax ay az bx bY bz cx cy cz tol : Nat} (h : r3_Triangle_longIdx (M + 8) ((ax, ay, az, ()), (bx, bY, bz, ()), (cx, cy, cz, ()), ()) = some 1) : impl_Degenerate3 (M + 8) (ax, ay, az, ()) (bx, bY, bz, ()) (cx, cy, cz, ()) tol = onSide (M + 8) (bx, bY, bz, ()) (cx, cy, cz, ()) (ax, ay, az, ()) tol := by
  have hbind : ∀ {x : Option Bool}, x.bind (fun v8 => some v8) = x := fun {x} => by cases x <;> rfl
  simp only [impl_Degenerate3, impl_Degenerate3_g, impl_vec3, impl_vec3_g, Option.bind_some, hbind, r3_Triangle_IsDegenerate, r3_Triangle_IsDegenerate_g, h]
  show (_ : Option Bool) = _
  kernel_rfl
theorem deg_2 {ax ay az bx bY bz cx cy cz tol : Nat} (h : r3_Triangle_longIdx (M + 8) ((ax, ay, az, ()), (bx, bY, bz, ()), (cx, cy, cz, ()), ()) = some 2) : impl_Degenerate3 (M + 8) (ax, ay, az, ()) (bx, bY, bz, ()) (cx, cy, cz, ()) tol = onSide (M + 8) (cx, cy, cz, ()) (ax, ay, az, ()) (bx, bY, bz, ()) tol := by
  have hbind : ∀ {x : Option Bool}, x.bind (fun v8 => some v8) = x := fun {x} => by cases x <;> rfl
  simp only [impl_Degenerate3, impl_Degenerate3_g, impl_vec3, impl_vec3_g, Option.bind_some, hbind, r3_Triangle_IsDegenerate, r3_Triangle_IsDegenerate_g, h]
  show (_ : Option Bool) = _
  kernel_rfl
theorem degen_eq {tol ax ay az bx bY bz cx cy cz : Nat} {AX AY AZ BX BY BZ CX CY CZ : Int} (h1 : At ax ay az AX AY AZ) (h2 : At bx bY bz BX BY BZ) (h3 : At cx cy cz CX CY CZ) {s0 s1 s2 : Int}
    (e0 : s0 = (BX - CX) * (BX - CX) + (BY - CY) * (BY - CY) + (BZ - CZ) * (BZ - CZ)) (e1 : s1 = (CX - AX) * (CX - AX) + (CY - AY) * (CY - AY) + (CZ - AZ) * (CZ - AZ)) (e2 : s2 = (AX - BX) * (AX - BX) + (AY - BY) * (AY - BY) + (AZ - BZ) * (AZ - BZ)) :
    (s1 < s0 → s2 < s0 → impl_Degenerate3 (M + 8) (ax, ay, az, ()) (bx, bY, bz, ()) (cx, cy, cz, ()) tol = onSide (M + 8) (bx, bY, bz, ()) (cx, cy, cz, ()) (ax, ay, az, ()) tol) ∧
    (s0 < s1 → s2 < s1 → impl_Degenerate3 (M + 8) (ax, ay, az, ()) (bx, bY, bz, ()) (cx, cy, cz, ()) tol = onSide (M + 8) (cx, cy, cz, ()) (ax, ay, az, ()) (bx, bY, bz, ()) tol) ∧
    (s0 < s2 → s1 < s2 → impl_Degenerate3 (M + 8) (ax, ay, az, ()) (bx, bY, bz, ()) (cx, cy, cz, ()) tol = onSide (M + 8) (ax, ay, az, ()) (bx, bY, bz, ()) (cx, cy, cz, ()) tol) := by
  obtain ⟨l0, l1, l2⟩ := long_eq (M := M) h1 h2 h3 e0 e1 e2
  exact ⟨fun q1 q2 => deg_1 (l0 q1 q2), fun q1 q2 => deg_2 (l1 q1 q2), fun q1 q2 => deg_0 (l2 q1 q2)⟩
/-- The three sides are asked in turn. -/
theorem ties (v4 v20 v12 v15 v18 : Nat) (v1 v2 v3 : Nat × Nat × Nat × Unit) : ∃ k : Int, laws_FnDegenerate3_l1 (M + 8) (M + 8) v4 v20 v12 v15 v18 v1 v2 v3 0 0 = laws_FnDegenerate3_g1 (M + 8) v4 v20 v12 v15 v18 v1 v2 v3 (fun _ _ => none) (fun _ _ => none) k 3 ∧
    (¬ 1 < k → (feq v12 v20 = true → feq v15 v20 = false ∧ feq v18 v20 = false) ∧ (feq v15 v20 = true → feq v12 v20 = false ∧ feq v18 v20 = false) ∧ (feq v18 v20 = true → feq v12 v20 = false ∧ feq v15 v20 = false)) := by
  have k : laws_FnDegenerate3_l1 (M + 8) (M + 8) v4 v20 v12 v15 v18 v1 v2 v3 0 0 =
      bif feq v12 v20 then (bif feq v15 v20 then (bif feq v18 v20 then laws_FnDegenerate3_g1 (M + 8) v4 v20 v12 v15 v18 v1 v2 v3 (fun _ _ => none) (fun _ _ => none) 3 3 else laws_FnDegenerate3_g1 (M + 8) v4 v20 v12 v15 v18 v1 v2 v3 (fun _ _ => none) (fun _ _ => none) 2 3)
          else (bif feq v18 v20 then laws_FnDegenerate3_g1 (M + 8) v4 v20 v12 v15 v18 v1 v2 v3 (fun _ _ => none) (fun _ _ => none) 2 3 else laws_FnDegenerate3_g1 (M + 8) v4 v20 v12 v15 v18 v1 v2 v3 (fun _ _ => none) (fun _ _ => none) 1 3))
        else (bif feq v15 v20 then (bif feq v18 v20 then laws_FnDegenerate3_g1 (M + 8) v4 v20 v12 v15 v18 v1 v2 v3 (fun _ _ => none) (fun _ _ => none) 2 3 else laws_FnDegenerate3_g1 (M + 8) v4 v20 v12 v15 v18 v1 v2 v3 (fun _ _ => none) (fun _ _ => none) 1 3)
          else (bif feq v18 v20 then laws_FnDegenerate3_g1 (M + 8) v4 v20 v12 v15 v18 v1 v2 v3 (fun _ _ => none) (fun _ _ => none) 1 3 else laws_FnDegenerate3_g1 (M + 8) v4 v20 v12 v15 v18 v1 v2 v3 (fun _ _ => none) (fun _ _ => none) 0 3)) := by kernel_rfl
  rw [k]
  cases h1 : feq v12 v20 <;> cases h2 : feq v15 v20 <;> cases h3 : feq v18 v20 <;> simp only [cond_true, cond_false]
  · exact ⟨0, rfl, by simp⟩
  · exact ⟨1, rfl, by simp⟩
  · exact ⟨1, rfl, by simp⟩
  · exact ⟨2, rfl, by simp⟩
  · exact ⟨1, rfl, by simp⟩
  · exact ⟨2, rfl, by simp⟩
  · exact ⟨2, rfl, by simp⟩
  · exact ⟨3, rfl, by simp⟩
/-- What is asked at last. -/
theorem tail {tol l v12 v15 v18 m num den : Nat} {v1 v2 v3 P Q R : Nat × Nat × Nat × Unit} {S L k : Int} (hm : W 192000000000000 m S) (hS : 0 ≤ S) (hl : W 12000000 l L) (hL : 1 ≤ L) (hSL : S ≤ L * L)
    (ht : fin tol = true) (ht1 : 0 ≤ fv tol) (ht2 : fv tol ≤ 2000)
    (ha : laws_squareArea3 (M + 8) (v1.1, v1.2.1, v1.2.2.1, ()) (v2.1, v2.2.1, v2.2.2.1, ()) (v3.1, v3.2.1, v3.2.2.1, ()) = (Ieee.double.div m 4616189618054758400).bind (fun z => some z))
    (hd : r3_line_distance (M + 8) (P, Q, ()) R = (Ieee.double.div num den).bind (fun z => some z))
    (hf : fin num = true ∧ 0 ≤ fv num ∧ (fv num = 0 ∨ 1 / 4 ≤ fv num) ∧ fv num ≤ 1099511627776 ∧ Ap (fv num * fv num) (S : Rat) (57 / 2) ∧
      fin den = true ∧ 1 / 2 ≤ fv den ∧ fv den ≤ 4294967296 ∧ Ap (fv den * fv den) (L : Rat) (57 / 2))
    (hi : ¬ 1 < k → impl_Degenerate3 (M + 8) (v1.1, v1.2.1, v1.2.2.1, ()) (v2.1, v2.2.1, v2.2.2.1, ()) (v3.1, v3.2.1, v3.2.2.1, ()) tol = onSide (M + 8) P Q R tol) :
    laws_FnDegenerate3_g1 (M + 8) tol l v12 v15 v18 v1 v2 v3 (fun _ _ => none) (fun _ _ => none) k 3 = some true := by
  obtain ⟨f1, f2, f3, f4, f5, f6, f7, f8, f9⟩ := hf
  have := hm.int
  have := hl.int
  obtain ⟨a, b, c, h, e, x, ea, eb, ec, eh, ee, ex, hfin⟩ := height hS (by omega) hL (by omega) hSL hm.1 hl.1 (show (0 : Rat) ≤ 57 / 2 by decide +kernel) (show (57 / 2 : Rat) ≤ 57 / 2 from Rat.le_refl) f1 f2 f3 f4 f5 f6 f7 f8 f9 ht ht1 ht2
  have hs : math_Sqrt (M + 8) b = some c := by simp only [math_Sqrt, math_Sqrt_g, math_sqrt, ec, Option.bind_some]
  simp only [laws_FnDegenerate3_g1, show decide ((3 : Int) < 3) = false from rfl, cond_false, ha, ea, eb, hs, eh, ee, abs_def, Option.bind_some]
  by_cases hk : 1 < k
  · rw [show decide (k > 1) = true from decide_eq_true hk, cond_true]
  · rw [show decide (k > 1) = false from decide_eq_false hk, cond_false]
    cases hq : flt (fabs e) 4539628424389459968 with
    | true => rfl
    | false =>
      simp only [cond_false, hi hk, onSide, hd, ex, Option.bind_some, hfin hq, beq_self_eq_true]
theorem pos3 {a b c d e f : Int} (h : ¬ Same a c e b d f) : 1 ≤ (a - b) * (a - b) + (c - d) * (c - d) + (e - f) * (e - f) := by
  have h1 := mul_self_nn (a - b)
  have h2 := mul_self_nn (c - d)
  have h3 := mul_self_nn (e - f)
  refine Int.not_lt.1 fun h4 => h ?_
  have z1 : (a - b) * (a - b) = 0 := by omega
  have z2 : (c - d) * (c - d) = 0 := by omega
  have z3 : (e - f) * (e - f) = 0 := by omega
  have k1 : a - b = 0 := by rcases Int.mul_eq_zero.1 z1 with h | h <;> exact h
  have k2 : c - d = 0 := by rcases Int.mul_eq_zero.1 z2 with h | h <;> exact h
  have k3 : e - f = 0 := by rcases Int.mul_eq_zero.1 z3 with h | h <;> exact h
  refine ⟨?_, ?_, ?_⟩ <;> omega
theorem flip3 {a b c d e f : Int} : (a - b) * (a - b) + (c - d) * (c - d) + (e - f) * (e - f) = (b - a) * (b - a) + (d - c) * (d - c) + (f - e) * (f - e) := by grind
theorem sides3 {AX AY AZ BX BY BZ CX CY CZ s0 s1 s2 S L : Int} (d1 : ¬ Same BX BY BZ AX AY AZ) (e1 : s1 = (CX - AX) * (CX - AX) + (CY - AY) * (CY - AY) + (CZ - AZ) * (CZ - AZ)) (e2 : s2 = (AX - BX) * (AX - BX) + (AY - BY) * (AY - BY) + (AZ - BZ) * (AZ - BZ))
    (hL : L = max (max s0 s1) s2) (hS : S = crs (BX - AX) (BY - AY) (BZ - AZ) (CX - AX) (CY - AY) (CZ - AZ)) : 0 ≤ S ∧ S ≤ L * L ∧ 1 ≤ L := by
  have u2 : (BX - AX) * (BX - AX) + (BY - AY) * (BY - AY) + (BZ - AZ) * (BZ - AZ) = s2 := by rw [e2]; exact flip3
  have p := pos3 d1
  rw [u2] at p
  refine ⟨?_, ?_, by clear e1 e2 hS u2; omega⟩
  · rw [hS]
    exact Int.add_nonneg (Int.add_nonneg (mul_self_nn _) (mul_self_nn _)) (mul_self_nn _)
  · rw [hS]
    refine lagr3 ?_ ?_
    · rw [u2]; clear e1 e2 hS u2; omega
    · rw [← e1]; clear e1 e2 hS u2; omega
theorem crs_of {a b c d e f a' b' c' d' e' f' : Int} (h1 : b * f - c * e = b' * f' - c' * e') (h2 : c * d - a * f = c' * d' - a' * f') (h3 : a * e - b * d = a' * e' - b' * d') : crs a b c d e f = crs a' b' c' d' e' f' := by
  unfold crs; rw [h1, h2, h3]
theorem core {v4 ax ay az bx bY bz cx cy cz z0 z1 z2 l2 : Nat} {AX AY AZ BX BY BZ CX CY CZ s0 s1 s2 L : Int} (w1 : At ax ay az AX AY AZ) (w2 : At bx bY bz BX BY BZ) (w3 : At cx cy cz CX CY CZ)
    (d1 : ¬ Same BX BY BZ AX AY AZ) (tf : fin v4 = true) (t3 : 0 ≤ fv v4) (t4 : fv v4 ≤ 2000)
    (e0 : s0 = (BX - CX) * (BX - CX) + (BY - CY) * (BY - CY) + (BZ - CZ) * (BZ - CZ)) (e1 : s1 = (CX - AX) * (CX - AX) + (CY - AY) * (CY - AY) + (CZ - AZ) * (CZ - AZ)) (e2 : s2 = (AX - BX) * (AX - BX) + (AY - BY) * (AY - BY) + (AZ - BZ) * (AZ - BZ))
    (r0 : W 12000000 z0 s0) (r1 : W 12000000 z1 s1) (r2 : W 12000000 z2 s2) (n2 : Wh l2 L) (hL : L = max (max s0 s1) s2) :
    laws_FnDegenerate3_l1 (M + 8) (M + 8) v4 l2 z0 z1 z2 (ax, ay, az, ()) (bx, bY, bz, ()) (cx, cy, cz, ()) 0 0 = some true := by
  have lw : W 12000000 l2 L := ⟨n2, by have := r0.int; have := r1.int; have := r2.int; clear e0 e1 e2; omega⟩
  obtain ⟨k, ek, hk⟩ := ties (M := M) v4 l2 z0 z1 z2 (ax, ay, az, ()) (bx, bY, bz, ()) (cx, cy, cz, ())
  rw [ek]
  rw [feq_wh r0.1 n2, feq_wh r1.1 n2, feq_wh r2.1 n2] at hk
  simp only [decide_eq_true_eq, decide_eq_false_iff_not] at hk
  obtain ⟨m, am, wm⟩ := area_eq (N := M + 8) w1 w2 w3
  obtain ⟨g0, g1, g2⟩ := degen_eq (M := M) (tol := v4) w1 w2 w3 e0 e1 e2
  obtain ⟨S, hS⟩ : ∃ S, S = crs (BX - AX) (BY - AY) (BZ - AZ) (CX - AX) (CY - AY) (CZ - AZ) := ⟨_, rfl⟩
  obtain ⟨hS0, hSL, L1⟩ := sides3 d1 e1 e2 hL hS
  rw [← hS] at wm
  have cases3 : L = s0 ∨ L = s1 ∨ L = s2 := by clear e0 e1 e2 hS; omega
  rcases cases3 with hc | hc | hc
  · obtain ⟨num, den, ed, hf⟩ := dist_eq (N := M + 8) w2 w3 w1 L1 (S := S) (L := L) (by rw [hS]; exact crs_of (by grind) (by grind) (by grind)) (by rw [hc, e0]; exact flip3)
    refine tail wm hS0 lw L1 hSL tf t3 t4 am ed hf fun hk1 => g0 ?_ ?_
    · have := (hk hk1).1 hc.symm; clear e0 e1 e2 hS; omega
    · have := (hk hk1).1 hc.symm; clear e0 e1 e2 hS; omega
  · obtain ⟨num, den, ed, hf⟩ := dist_eq (N := M + 8) w3 w1 w2 L1 (S := S) (L := L) (by rw [hS]; exact crs_of (by grind) (by grind) (by grind)) (by rw [hc, e1]; exact flip3)
    refine tail wm hS0 lw L1 hSL tf t3 t4 am ed hf fun hk1 => g1 ?_ ?_
    · have := (hk hk1).2.1 hc.symm; clear e0 e1 e2 hS; omega
    · have := (hk hk1).2.1 hc.symm; clear e0 e1 e2 hS; omega
  · obtain ⟨num, den, ed, hf⟩ := dist_eq (N := M + 8) w1 w2 w3 L1 (S := S) (L := L) (by rw [hS]; exact crs_of (by grind) (by grind) (by grind)) (by rw [hc, e2]; exact flip3)
    refine tail wm hS0 lw L1 hSL tf t3 t4 am ed hf fun hk1 => g2 ?_ ?_
    · have := (hk hk1).2.2 hc.symm; clear e0 e1 e2 hS; omega
    · have := (hk hk1).2.2 hc.symm; clear e0 e1 e2 hS; omega
theorem law (v1 v2 v3 : Nat × Nat × Nat × Unit) (v4 : Nat) : laws_FnDegenerate3 18446744073709551616 v1 v2 v3 v4 = some true := by
  generalize hN : 18446744073709551616 = N
  obtain ⟨M, rfl⟩ : ∃ M, N = M + 8 := ⟨N - 8, by omega⟩
  have hN0 : 0 < M + 8 := by omega
  obtain ⟨ax, ay, az, ⟨⟩⟩ := v1
  obtain ⟨bx, bY, bz, ⟨⟩⟩ := v2
  obtain ⟨cx, cy, cz, ⟨⟩⟩ := v3
  unfold laws_FnDegenerate3 laws_FnDegenerate3_g laws_off3_b laws_off3_b_g
  simp only [Option.bind_some, laws_FnDegenerate3_j0, laws_FnDegenerate3_g0, gate_pos hN0]
  generalize hG : laws_FnDegenerate3_l1 (M + 8) (M + 8) = G
  obtain ⟨t, h1, h2⟩ := grid (N := M + 8) b1000 (by decide) (v2 := 3) [[ax, ay, az], [bx, bY, bz], [cx, cy, cz]] (by simp) (by intro l hl; simp at hl; rcases hl with rfl | rfl | rfl <;> simp) (by omega) (by simp) (by intro l hl; simp at hl; rcases hl with rfl | rfl | rfl <;> simp)
  rw [h1, Option.bind_some]
  cases t with
  | false => simp only [Bool.not_false, cond_true, cond_false]
  | true =>
    have h2 := (h2 rfl).2
    have ww : ∀ {x : Nat}, In 1000 x → ∃ X, W 1000 x X := fun {x} ⟨X, h, h3, h4⟩ => ⟨X, h, by omega⟩
    obtain ⟨AX, wax⟩ := ww ((h2 [ax, ay, az] (by simp)).2 ax (by simp))
    obtain ⟨AY, way⟩ := ww ((h2 [ax, ay, az] (by simp)).2 ay (by simp))
    obtain ⟨AZ, waz⟩ := ww ((h2 [ax, ay, az] (by simp)).2 az (by simp))
    obtain ⟨BX, wbx⟩ := ww ((h2 [bx, bY, bz] (by simp)).2 bx (by simp))
    obtain ⟨BY, wbY⟩ := ww ((h2 [bx, bY, bz] (by simp)).2 bY (by simp))
    obtain ⟨BZ, wbz⟩ := ww ((h2 [bx, bY, bz] (by simp)).2 bz (by simp))
    obtain ⟨CX, wcx⟩ := ww ((h2 [cx, cy, cz] (by simp)).2 cx (by simp))
    obtain ⟨CY, wcy⟩ := ww ((h2 [cx, cy, cz] (by simp)).2 cy (by simp))
    obtain ⟨CZ, wcz⟩ := ww ((h2 [cx, cy, cz] (by simp)).2 cz (by simp))
    have w1 : At ax ay az AX AY AZ := ⟨wax, way, waz⟩
    have w2 : At bx bY bz BX BY BZ := ⟨wbx, wbY, wbz⟩
    have w3 : At cx cy cz CX CY CZ := ⟨wcx, wcy, wcz⟩
    clear h1 h2
    simp only [Bool.not_true, cond_false]
    obtain ⟨t, h1, h2⟩ := differ_eq (M := M) w1 w2 w3
    rw [h1, Option.bind_some]
    cases t with
    | false => simp only [Bool.not_false, cond_true, cond_false]
    | true =>
      obtain ⟨d1, d2, d3⟩ := h2 rfl
      simp only [Bool.not_true, cond_false]
      cases t1 : fge v4 4562146422526312448 with
      | false => simp only [Bool.not_false, cond_true, cond_false]
      | true =>
        cases t2 : fle v4 4656510908468559872 with
        | false => simp only [Bool.not_false, cond_true, cond_false]
        | true =>
          have key : ∀ (x : Option Bool), (bif true then (bif !true then some true else x) else some true) = x := fun _ => rfl
          refine (key _).trans ?_
          obtain ⟨tf, t3, t4⟩ := tolf t1 t2
          obtain ⟨z0, q0, r0⟩ := square_eq (M := M) w2 w3
          obtain ⟨z1, q1, r1⟩ := square_eq (M := M) w3 w1
          obtain ⟨z2, q2, r2⟩ := square_eq (M := M) w1 w2
          have n0 : ∀ (a b c : List Nat), nth [a, b, c] 0 = some a := fun _ _ _ => rfl
          have n1 : ∀ (a b c : List Nat), nth [a, b, c] 1 = some b := fun _ _ _ => rfl
          have n2 : ∀ (a b c : List Nat), nth [a, b, c] 2 = some c := fun _ _ _ => rfl
          rw [n1, n2, n0, Option.bind_some, Option.bind_some, q0, Option.bind_some, Option.bind_some, Option.bind_some, q1, Option.bind_some, Option.bind_some, Option.bind_some, q2, Option.bind_some]
          clear n0 n1 n2
          obtain ⟨s0, e0⟩ : ∃ s, s = (BX - CX) * (BX - CX) + (BY - CY) * (BY - CY) + (BZ - CZ) * (BZ - CZ) := ⟨_, rfl⟩
          obtain ⟨s1, e1⟩ : ∃ s, s = (CX - AX) * (CX - AX) + (CY - AY) * (CY - AY) + (CZ - AZ) * (CZ - AZ) := ⟨_, rfl⟩
          obtain ⟨s2, e2⟩ : ∃ s, s = (AX - BX) * (AX - BX) + (AY - BY) * (AY - BY) + (AZ - BZ) * (AZ - BZ) := ⟨_, rfl⟩
          rw [← e0] at r0
          rw [← e1] at r1
          rw [← e2] at r2
          obtain ⟨l1, m1, n1⟩ := fmm_wh r0.1 r1.1 true
          obtain ⟨l2, m2, n2⟩ := fmm_wh n1 r2.1 true
          rw [m1, Option.bind_some, m2, Option.bind_some]
          simp only [cond_true] at n2
          obtain ⟨L, hL⟩ : ∃ L, L = max (max s0 s1) s2 := ⟨_, rfl⟩
          rw [← hL] at n2
          rw [← hG]
          exact core w1 w2 w3 d1 tf t3 t4 e0 e1 e2 r0 r1 r2 n2 hL
end
end Go.Proofs.Ytlbbldhbggfoaaa.PvDegen3
