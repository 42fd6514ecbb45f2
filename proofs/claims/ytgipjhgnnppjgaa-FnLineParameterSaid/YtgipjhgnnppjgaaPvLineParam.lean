/- The law of LineParameter: the share of the way is near j n-ths. -/
import Derived.Test.YtgipjhgnnppjgaaFN3
import Derived.Test.YtgipjhgnnppjgaaPvPlaneToFN3
import Derived.Test.YtgipjhgnnppjgaaPvDyadicFN3
import Derived.Test.YtgipjhgnnppjgaaFl10
import Derived.Test.YtgipjhgnnppjgaaFl13
set_option linter.unusedVariables false
set_option linter.unusedSectionVars false
set_option linter.unusedSimpArgs false
namespace Go.Proofs.Ytgipjhgnnppjgaa.PvLineParam
open Go.Av Go
open Go.Proofs.Ytgipjhgnnppjgaa.FN3
open Go.Proofs.Ytgipjhgnnppjgaa.PvWholeToFN3
open Go.Proofs.Ytgipjhgnnppjgaa.PvPlaneToFN3
open Go.Proofs.Ytgipjhgnnppjgaa.PvDyadicFN3
open Go.Proofs.Ytgipjhgnnppjgaa.PvWholeFN3
open Go.Proofs.Ytgipjhgnnppjgaa.PvWhole2FN3
theorem b9 : Wh 4647714815446351872 512 := wh_lit _ _ (by decide +kernel) (by decide +kernel) (by decide +kernel) (by decide)
theorem b18 : Wh 4688247212092686336 262144 := wh_lit _ _ (by decide +kernel) (by decide +kernel) (by decide +kernel) (by decide)
theorem one_wh : Wh 4607182418800017408 1 := wh_lit _ _ (by decide +kernel) (by decide +kernel) (by decide +kernel) (by decide)
section
variable {N : Nat} (hN : 0 < N) (hNl : 9223372036854775808 ≤ N)
include hN hNl
theorem dshift {k : Nat} {d : DY} {q : Rat} (h : Dn k d q) (hk : k ≤ 8) (s : Int) (hs : -64 ≤ s ∧ s ≤ 64) : ∃ c, spec_Dyadic_Shift N d s = some c ∧ Dn (k + 1) c (q * P2 s) := by
  obtain ⟨z, h1, h2, h3, h4⟩ := h
  have hp := sk_pos k
  have hle := sk_le (k := k + 1) (by omega)
  have hs4 := sk_succ k
  refine ⟨_, rfl, z, h1, Nat.lt_of_lt_of_le h2 (Nat.pow_le_pow_right (by decide) (by omega)), ?_, ?_⟩
  · show _ ≤ IntKind.i64.wrap (d.2.1 + s) ∧ IntKind.i64.wrap (d.2.1 + s) ≤ _
    rw [wrap_in (by omega)]; constructor <;> omega
  · show q * P2 s = (z : Rat) * P2 (IntKind.i64.wrap (d.2.1 + s))
    rw [wrap_in (by omega), h4, P2_add, Rat.mul_assoc]
theorem share_ab {j n : Int} (hn : 0 < n) (hj : j.natAbs ≤ 1000) : ((j : Rat) / (n : Rat)) * (n : Rat) = (j : Rat) ∧ ab ((j : Rat) / (n : Rat)) ≤ 1000 := by
  have hn0 : (0 : Rat) < (n : Rat) := by have := (intCast_lt (a := 0) (b := n)).2 hn; simpa using this
  have e : ((j : Rat) / (n : Rat)) * (n : Rat) = (j : Rat) := Rat.div_mul_cancel (by grind)
  refine ⟨e, ?_⟩
  have h1 : (j : Rat) ≤ (((1000 * n : Int)) : Rat) := intCast_le.2 (by omega)
  have h2 : (((-1000 * n : Int)) : Rat) ≤ (j : Rat) := intCast_le.2 (by omega)
  rw [Rat.intCast_mul] at h1 h2
  have c1 : ((1000 : Int) : Rat) = 1000 := rfl
  have c2 : ((-1000 : Int) : Rat) = -1000 := rfl
  rw [c1] at h1
  rw [c2] at h2
  refine ab_le ?_ ?_
  · refine Rat.not_lt.1 fun h => ?_
    have := (ratmul_lt hn0).2 h
    rw [e] at this
    grind
  · refine Rat.not_lt.1 fun h => ?_
    have := (ratmul_lt hn0).2 h
    rw [e] at this
    grind
/-- A quotient of whole numbers that are multiples. -/
theorem quo {x y : Nat} {j n s : Int} (hx : Wh x (j * s)) (hy : Wh y (n * s)) (hs : s ≠ 0) (hn : 0 < n) (hj : j.natAbs ≤ 1000) :
    ∃ z, Ieee.double.div x y = some z ∧ Rnq z ((j : Rat) / (n : Rat)) := by
  obtain ⟨e, hb⟩ := share_ab hN hNl hn hj
  refine div_rnq hx.1 hy.1 ?_ ?_ ?_
  · rw [hy.2]
    intro h
    have h := intCast_eq_zero.1 h
    rcases Int.mul_eq_zero.1 h with h | h <;> omega
  · rw [hx.2, hy.2, Rat.intCast_mul, Rat.intCast_mul, ← Rat.mul_assoc, e]
  · have h1 : (1000 : Rat) ≤ P2 10 := by rw [show (10 : Int) = ((10 : Nat) : Int) from rfl, P2_nat]; decide +kernel
    have h2 : P2 10 < P2 1022 := P2_lt_iff.2 (by decide)
    grind
theorem rparam {ax ay bx bY px py : Nat} {AX AY sx sy j n : Int} (hn : 0 < n ∧ n ≤ 1000) (hj : j.natAbs ≤ 1000) (hs : sx ≠ 0 ∨ sy ≠ 0) (h1 : sx.natAbs ≤ 512) (h2 : sy.natAbs ≤ 512) (h3 : AX.natAbs ≤ 262144) (h4 : AY.natAbs ≤ 262144)
    (wax : Wh ax AX) (way : Wh ay AY) (wbx : Wh bx (AX + n * sx)) (wby : Wh bY (AY + n * sy)) (wpx : Wh px (AX + j * sx)) (wpy : Wh py (AY + j * sy)) :
    ∃ z, impl_LineParameter N (ax, ay, ()) (bx, bY, ()) (px, py, ()) = some z ∧ Rnq z ((j : Rat) / (n : Rat)) ∧ z < 18446744073709551616 := by
  have bnd : ∀ (k t : Int), k.natAbs ≤ 1000 → t.natAbs ≤ 512 → (k * t).natAbs ≤ 512000 := fun k t hk ht => by
    rw [Int.natAbs_mul]; exact Nat.mul_le_mul hk ht
  have n1 := bnd n sx (by omega) h1
  have n2 := bnd n sy (by omega) h2
  have n3 := bnd j sx hj h1
  have n4 := bnd j sy hj h2
  obtain ⟨dx, ex, wx⟩ := sub_wh wbx wax (by omega)
  obtain ⟨dy, ey, wy⟩ := sub_wh wby way (by omega)
  obtain ⟨qx, fx, vx⟩ := sub_wh wpx wax (by omega)
  obtain ⟨qy, fy, vy⟩ := sub_wh wpy way (by omega)
  rw [show AX + n * sx - AX = n * sx by omega] at wx
  rw [show AY + n * sy - AY = n * sy by omega] at wy
  rw [show AX + j * sx - AX = j * sx by omega] at vx
  rw [show AY + j * sy - AY = j * sy by omega] at vy
  have g0 : nth [ax, ay] 0 = some ax := rfl
  have g1 : nth [ax, ay] 1 = some ay := rfl
  have g2 : nth [bx, bY] 0 = some bx := rfl
  have g3 : nth [bx, bY] 1 = some bY := rfl
  have g4 : nth [px, py] 0 = some px := rfl
  have g5 : nth [px, py] 1 = some py := rfl
  simp only [impl_LineParameter, impl_LineParameter_g, impl_coord, impl_coord_g, Option.bind_some, lineintersector_DoorParameter, lineintersector_DoorParameter_g, lineintersector_rParameter, lineintersector_rParameter_g,
    lineintersector_rParameter_j0, lineintersector_rParameter_g0, gate_pos hN, g0, g1, g2, g3, g4, g5, ex, ey, fx, fy, abs_def]
  rw [fgt_wh (fabs_wh wx) (fabs_wh wy)]
  have hab : ∀ t : Int, ((n * t).natAbs : Int) = n * (t.natAbs : Int) := fun t => by
    have : (n.natAbs : Int) = n := by omega
    rw [Int.natAbs_mul, Int.natCast_mul, this]
  rw [hab, hab]
  cases hd : decide (n * (sy.natAbs : Int) < n * (sx.natAbs : Int)) with
  | true =>
    have hlt := Int.lt_of_mul_lt_mul_left (of_decide_eq_true hd) (by omega)
    obtain ⟨z, hz, hq⟩ := quo hN hNl vx wx (by omega) hn.1 hj
    refine ⟨z, ?_, hq, div_lt hz⟩
    simp only [cond_true, hz, Option.bind_some]
  | false =>
    have hnl := of_decide_eq_false hd
    have : ¬ (sy.natAbs : Int) < (sx.natAbs : Int) := fun h => hnl (Int.mul_lt_mul_of_pos_left h hn.1)
    obtain ⟨z, hz, hq⟩ := quo hN hNl vy wy (by omega) hn.1 hj
    refine ⟨z, ?_, hq, div_lt hz⟩
    simp only [cond_false, hz, Option.bind_some]
theorem near {z : Nat} {j n : Int} (hn : 0 < n ∧ n ≤ 1000) (hj : j.natAbs ≤ 1000) (hz : Rnq z ((j : Rat) / (n : Rat))) (h64 : z < 18446744073709551616) {a b : DY} (ha : Dn 0 a (j : Rat)) (hb : Dn 0 b (n : Rat)) :
    ∃ R, spec_RatioOf N a b = some R ∧ laws_nearRatio N z R (-30) = some true := by
  obtain ⟨e, hV⟩ := share_ab hN hNl hn.1 hj
  have hn0 : (0 : Rat) < (n : Rat) := by have := (intCast_lt (a := 0) (b := n)).2 hn.1; simpa using this
  have hsg : cmpq (n : Rat) 0 = 1 := by unfold cmpq; rw [if_neg (by grind), if_neg (by grind)]
  refine ⟨(a, b, ()), ?_, ?_⟩
  · simp only [spec_RatioOf, spec_RatioOf_g]
    rw [show ((b.1.1, b.1.2.1, ()), b.2.1, ()) = b from rfl, dsign hN hNl hb, hsg]
    rfl
  · obtain ⟨c, e1, hc⟩ := dof hN hNl hz.fin h64
    obtain ⟨m, e2, hm⟩ := dmul hN hNl (hc) hb (by decide)
    obtain ⟨d, e3, hd⟩ := dsub hN hNl hm (ha.upto (m := 1) (by decide)) (by decide)
    obtain ⟨f, e4, hf⟩ := dabs hN hNl hd
    obtain ⟨g, e5, hg⟩ := dshift hN hNl hb (by decide) (-30) (by decide)
    have e6 := dcmp hN hNl hf (hg.upto (m := 2) (by decide)) (by decide)
    simp only [laws_nearRatio, laws_nearRatio_g, dfinite hN hNl hz.fin, Option.bind_some, cond_true]
    rw [show ((b.1.1, b.1.2.1, ()), b.2.1, ()) = b from rfl, show ((a.1.1, a.1.2.1, ()), a.2.1, ()) = a from rfl, e1]
    simp only [Option.bind_some, e2, e3, e4, e5, e6]
    have h1 := hz.e1
    have h2 := hz.e2
    have k1 : P2 (-1074) ≤ P2 (-51) := P2_le (by decide)
    have k2 : P2 (-30) = ((2 ^ 21 : Nat) : Rat) * P2 (-51) := by rw [show (-30 : Int) = ((21 : Nat) : Int) + (-51) from rfl, P2_add, P2_nat]
    have k3 : ((2 ^ 21 : Nat) : Rat) = 2097152 := by decide +kernel
    have k4 := P2_pos (-51)
    have k5 : ab ((j : Rat) / (n : Rat)) * P2 (-51) ≤ 1000 * P2 (-51) := Rat.mul_le_mul_of_nonneg_right hV (Rat.le_of_lt k4)
    rw [k3] at k2
    have l1 : fv z - (j : Rat) / (n : Rat) < P2 (-30) := by grind
    have l2 : (j : Rat) / (n : Rat) - fv z < P2 (-30) := by grind
    have m1 := (ratmul_lt hn0).2 l1
    have m2 := (ratmul_lt hn0).2 l2
    have m3 : (fv z - (j : Rat) / (n : Rat)) * (n : Rat) = fv z * (n : Rat) - (j : Rat) := by rw [Rat.sub_eq_add_neg, Rat.add_mul, Rat.neg_mul, e, ← Rat.sub_eq_add_neg]
    have m4 : ((j : Rat) / (n : Rat) - fv z) * (n : Rat) = (j : Rat) - fv z * (n : Rat) := by rw [Rat.sub_eq_add_neg, Rat.add_mul, Rat.neg_mul, e, ← Rat.sub_eq_add_neg]
    rw [m3, Rat.mul_comm (P2 (-30))] at m1
    rw [m4, Rat.mul_comm (P2 (-30))] at m2
    have m5 : ab (fv z * (n : Rat) - (j : Rat)) < (n : Rat) * P2 (-30) := by unfold ab; split <;> grind
    have m6 : cmpq (ab (fv z * (n : Rat) - (j : Rat))) ((n : Rat) * P2 (-30)) = -1 := by unfold cmpq; rw [if_pos m5]
    rw [m6]
    rfl
theorem law (x1 x2 : Nat × (Nat × Unit)) (j n : Int) : laws_FnLineParameter N x1 x2 j n = some true := by
  obtain ⟨ax, ay, ⟨⟩⟩ := x1
  obtain ⟨sx, sy, ⟨⟩⟩ := x2
  unfold laws_FnLineParameter laws_FnLineParameter_g laws_FnLineParameter_j0 laws_FnLineParameter_g0
  simp only [gate_pos hN, Bool.cond_decide]
  split
  · rfl
  split
  · rfl
  split
  · rfl
  split
  · rfl
  rename_i q1 q2 q3 q4
  cases h0 : (feq sx 0 && (feq sy 0 && true)) with
  | true => rfl
  | false =>
    simp only [cond_false]
    rcases planeTo b9 (by decide) (N := N) (by omega) [(sx, sy, ())] (by simp; omega) (by simp) with h | ⟨h, hs⟩
    · rw [h]; rfl
    rcases planeTo b18 (by decide) (N := N) (by omega) [(ax, ay, ())] (by simp; omega) (by simp) with h' | ⟨h', ha⟩
    · rw [h, h']; rfl
    obtain ⟨⟨SX, wsx, b1, b2⟩, ⟨SY, wsy, b3, b4⟩⟩ := hs (sx, sy, ()) (by simp)
    obtain ⟨⟨AX, wax, b5, b6⟩, ⟨AY, way, b7, b8⟩⟩ := ha (ax, ay, ()) (by simp)
    simp only at wsx wsy wax way
    rw [h, h']
    simp only [Option.bind_some, Bool.not_true, cond_false]
    have bnd : ∀ (k t : Int), k.natAbs ≤ 1000 → t.natAbs ≤ 512 → (k * t).natAbs ≤ 512000 := fun k t hk ht => by
      rw [Int.natAbs_mul]; exact Nat.mul_le_mul hk ht
    have n1 := bnd n SX (by omega) (by omega)
    have n2 := bnd n SY (by omega) (by omega)
    have n3 := bnd j SX (by omega) (by omega)
    have n4 := bnd j SY (by omega) (by omega)
    have wn := i2f_wh n (by omega)
    have wj := i2f_wh j (by omega)
    obtain ⟨m1, e1, w1⟩ := mul_wh wn wsx (by omega)
    obtain ⟨m2, e2, w2⟩ := add_wh wax w1 (by omega)
    obtain ⟨m3, e3, w3⟩ := mul_wh wn wsy (by omega)
    obtain ⟨m4, e4, w4⟩ := add_wh way w3 (by omega)
    obtain ⟨m5, e5, w5⟩ := mul_wh wj wsx (by omega)
    obtain ⟨m6, e6, w6⟩ := add_wh wax w5 (by omega)
    obtain ⟨m7, e7, w7⟩ := mul_wh wj wsy (by omega)
    obtain ⟨m8, e8, w8⟩ := add_wh way w7 (by omega)
    simp only [e1, e2, e3, e4, e5, e6, e7, e8, Option.bind_some]
    have hss : SX ≠ 0 ∨ SY ≠ 0 := by
      rw [feq_wh wsx wh_zero, feq_wh wsy wh_zero] at h0
      simp at h0
      omega
    obtain ⟨z, f1, f2, f3⟩ := rparam hN hNl ⟨by omega, by omega⟩ (by omega) hss (by omega) (by omega) (by omega) (by omega) wax way w2 w4 w6 w8
    obtain ⟨z', f1', f2', f3'⟩ := rparam hN hNl (j := n) (n := n) ⟨by omega, by omega⟩ (by omega) hss (by omega) (by omega) (by omega) (by omega) wax way w2 w4 w2 w4
    obtain ⟨c, g1, g2⟩ := dint hN hNl j (by omega)
    obtain ⟨d, g3, g4⟩ := dint hN hNl n (by omega)
    obtain ⟨R, r1, r2⟩ := near hN hNl ⟨by omega, by omega⟩ (by omega) f2 f3 g2 g4
    simp only [f1, f1', g1, g3, r1, r2, Option.bind_some, cond_true]
    have hone : (n : Rat) / (n : Rat) = ((1 : Int) : Rat) := by
      have : (n : Rat) ≠ 0 := fun h => by have := intCast_eq_zero.1 h; omega
      rw [Rat.div_def, Rat.mul_inv_cancel _ this]; rfl
    have hz : Wh z' 1 := ⟨f2'.fin, by rw [hone] at f2'; exact f2'.exact (rep_int (by decide))⟩
    rw [feq_wh hz one_wh]
    rfl
end
end Go.Proofs.Ytgipjhgnnppjgaa.PvLineParam
