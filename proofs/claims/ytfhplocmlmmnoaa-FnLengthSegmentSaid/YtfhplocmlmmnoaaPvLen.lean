/- The plain law of FnLengthSegment: the length of a segment is the root of the sum of the squares, rounded once. -/
import Derived.Test.YtfhplocmlmmnoaaG9
import Derived.Test.YtfhplocmlmmnoaaPv2
import Derived.Test.YtfhplocmlmmnoaaFl11
set_option linter.unusedVariables false
set_option linter.unusedSectionVars false
set_option linter.unusedSimpArgs false
namespace Go.Proofs.Ytfhplocmlmmnoaa.PvLen
open Go.Av Go
open Go.Proofs.Ytfhplocmlmmnoaa.G9
theorem bound20 : Wh 4697254411347427328 1048576 := wh_lit _ _ (by decide +kernel) (by decide +kernel) (by decide +kernel) (by decide)
theorem neg20 : fneg 4697254411347427328 = 13920626448202203136 := by decide +kernel
def strd (l : Int) : Int := if l < 1 then 0 else if l = 1 then 2 else if l = 2 then 3 else if l = 3 then 3 else l
theorem stride_spec (N : Nat) (l : Int) : spec_Stride N l = some (strd l) := by
  simp only [spec_Stride, spec_Stride_g, strd, beq_iff_eq, decide_eq_true_eq, Bool.cond_eq_ite, apply_ite some]
theorem stride_geom (N : Nat) (l : Int) (h : 1 ≤ l) : gogeom_Layout_Stride N l = some (strd l) := by
  simp only [gogeom_Layout_Stride, gogeom_Layout_Stride_g, strd, beq_iff_eq, Bool.cond_eq_ite, apply_ite some]
  repeat' split
  all_goals first | rfl | omega | (subst_vars; rfl) | skip
theorem strd_le {l : Int} (h : 1 ≤ l ∧ l ≤ 9) : 2 ≤ strd l ∧ strd l ≤ 9 := by
  unfold strd
  repeat' split
  all_goals omega
theorem gwhole (N : Nat) (x : Nat) : ∃ b, laws_gWhole N x = some b ∧ (b = true → ∃ n, Wh x n ∧ -1048576 ≤ n ∧ n ≤ 1048576) := by
  unfold laws_gWhole laws_gWhole_g
  cases h1 : fge x 13920626448202203136 with
  | false => exact ⟨false, rfl, fun h => by cases h⟩
  | true =>
    simp only [cond_true]
    cases h2 : fle x 4697254411347427328 with
    | false => exact ⟨false, rfl, fun h => by cases h⟩
    | true =>
      rw [← neg20] at h1
      obtain ⟨y, y1, y2⟩ := whole_between bound20 (by decide) h1 h2
      simp only [cond_true, math_Trunc, math_Trunc_g, math_archTrunc, y1, Option.bind_some]
      exact ⟨_, rfl, fun h => y2 h⟩
/-- The root of a whole number, and nought and it. -/
theorem root_whole {x : Nat} {n : Int} (hx : Wh x n) (h0 : 0 ≤ n) (hn : n ≤ 9007199254740000) : ∃ y z, fsqrt x = some y ∧ Ieee.double.add 0 y = some z ∧ feq z y = true := by
  have hn0 : (0 : Rat) ≤ (n : Rat) := by
    have : ((0 : Int) : Rat) = 0 := rfl
    rw [← this]; exact intCast_le.2 h0
  have hb : fv x < P2 1022 := by
    rw [hx.2]
    have h1 : (n : Rat) ≤ ((9007199254740992 : Int) : Rat) := intCast_le.2 (by omega)
    have h2 : ((9007199254740992 : Int) : Rat) = P2 53 := (P2_nat 53).symm
    have h3 : P2 53 < P2 1022 := P2_lt_iff.2 (by decide)
    grind
  obtain ⟨y, y1, y2⟩ := sqrt_sqr hx.1 (by rw [hx.2]; exact hn0) hb
  have hle : fv y ≤ ((n + 1 : Int) : Rat) := by
    apply y2.hi _ (rep_int (by omega))
    · have : ((0 : Int) : Rat) = 0 := rfl
      rw [← this]; exact intCast_le.2 (by omega)
    · rw [hx.2, ← Rat.intCast_mul]
      apply intCast_le.2
      have : (n + 1) * (n + 1) = n * n + 2 * n + 1 := by grind
      have := Int.mul_nonneg h0 h0
      omega
  have hlt : ab (fv 0 + fv y) < P2 1023 := by
    have z0 : fv 0 = 0 := by rw [wh_zero.2]; rfl
    rw [z0, Rat.zero_add, ab_of_nonneg y2.nn]
    have h1 := ab_int_lt (n := n + 1) (by
      refine le53 ?_
      omega)
    have h2 : ab ((n + 1 : Int) : Rat) = ((n + 1 : Int) : Rat) := ab_of_nonneg (by
      have : ((0 : Int) : Rat) = 0 := rfl
      rw [← this]; exact intCast_le.2 (by omega))
    rw [h2] at h1
    grind
  obtain ⟨z, z1, z2⟩ := add_rnd (x := 0) (y := y) wh_zero.1 y2.fin hlt
  refine ⟨y, z, y1, z1, ?_⟩
  have z0 : fv 0 + fv y = fv y := by rw [wh_zero.2]; have : ((0 : Int) : Rat) = 0 := rfl
                                     rw [this]; grind
  rw [z0] at z2
  have hrep : Rep (fv y) := fin_rep y2.fin
  rw [feq_fv z2.fin y2.fin, z2.exact hrep]
  simp
section
variable {N : Nat} (hN : 0 < N) (hNl : 9223372036854775808 ≤ N)
include hN hNl
theorem law (lay : Int) (a b : List Nat) : laws_FnLengthSegment N lay a b = some true := by
  unfold laws_FnLengthSegment laws_FnLengthSegment_g
  simp only [laws_FnLengthSegment_j0, laws_FnLengthSegment_g0, gate_pos hN, Bool.cond_decide, laws_gCoord, laws_gCoord_g, stride_spec]
  by_cases f1 : (a.length : Int) > 2147483647
  · rw [if_pos f1]
  rw [if_neg f1]
  by_cases f2 : (b.length : Int) > 2147483647
  · rw [if_pos f2]
  rw [if_neg f2]
  by_cases g1 : lay ≥ 1
  rotate_left
  · rw [if_neg g1]; rfl
  rw [if_pos g1]
  by_cases g2 : lay ≤ 9
  rotate_left
  · rw [if_neg g2]; rfl
  rw [if_pos g2]
  simp only [Option.bind_some]
  cases g3 : ((a.length : Int) == strd lay) with
  | false => rfl
  | true =>
  simp only [Bool.not_true, cond_false]
  rw [if_pos g1, if_pos g2]
  simp only [Option.bind_some]
  cases g4 : ((b.length : Int) == strd lay) with
  | false => rfl
  | true =>
  simp only [Bool.not_true, cond_false]
  have ha : (a.length : Int) = strd lay := by simpa using g3
  have hb : (b.length : Int) = strd lay := by simpa using g4
  have hs := strd_le ⟨g1, g2⟩
  have a0 : nth a 0 = some a[0] := nth_get (i := 0) (by omega)
  have a1 : nth a 1 = some a[1] := nth_get (i := 1) (by omega)
  have b0 : nth b 0 = some b[0] := nth_get (i := 0) (by omega)
  have b1 : nth b 1 = some b[1] := nth_get (i := 1) (by omega)
  rw [a0, a1, b0, b1]
  simp only [Option.bind_some]
  obtain ⟨t1, e1, w1⟩ := gwhole N a[0]
  rw [e1]
  simp only [Option.bind_some]
  cases t1 with
  | false => rfl
  | true =>
  simp only [Bool.not_true, cond_false]
  obtain ⟨t2, e2, w2⟩ := gwhole N a[1]
  rw [e2]
  simp only [Option.bind_some]
  cases t2 with
  | false => rfl
  | true =>
  simp only [Bool.not_true, cond_false]
  obtain ⟨t3, e3, w3⟩ := gwhole N b[0]
  rw [e3]
  simp only [Option.bind_some]
  cases t3 with
  | false => rfl
  | true =>
  simp only [Bool.not_true, cond_false]
  obtain ⟨t4, e4, w4⟩ := gwhole N b[1]
  rw [e4]
  simp only [Option.bind_some]
  cases t4 with
  | false => rfl
  | true =>
  simp only [Bool.not_true, cond_false]
  obtain ⟨x0, hx0, x0a, x0b⟩ := w1 rfl
  obtain ⟨y0, hy0, y0a, y0b⟩ := w2 rfl
  obtain ⟨x1, hx1, x1a, x1b⟩ := w3 rfl
  obtain ⟨y1, hy1, y1a, y1b⟩ := w4 rfl
  obtain ⟨dx, d1, d2⟩ := sub_wh hx1 hx0 (by omega)
  obtain ⟨dy, d3, d4⟩ := sub_wh hy1 hy0 (by omega)
  have bx : ((x1 - x0) * (x1 - x0)).natAbs ≤ 4398046511104 := by
    rw [Int.natAbs_mul]
    exact Nat.mul_le_mul (show _ ≤ 2097152 by omega) (show _ ≤ 2097152 by omega)
  have bY : ((y1 - y0) * (y1 - y0)).natAbs ≤ 4398046511104 := by
    rw [Int.natAbs_mul]
    exact Nat.mul_le_mul (show _ ≤ 2097152 by omega) (show _ ≤ 2097152 by omega)
  have nx : 0 ≤ (x1 - x0) * (x1 - x0) := by
    rcases Int.le_total 0 (x1 - x0) with h | h
    · exact Int.mul_nonneg h h
    · exact Int.mul_nonneg_of_nonpos_of_nonpos h h
  have ny : 0 ≤ (y1 - y0) * (y1 - y0) := by
    rcases Int.le_total 0 (y1 - y0) with h | h
    · exact Int.mul_nonneg h h
    · exact Int.mul_nonneg_of_nonpos_of_nonpos h h
  obtain ⟨mx, m1, m2⟩ := mul_wh d2 d2 (by omega)
  obtain ⟨my, m3, m4⟩ := mul_wh d4 d4 (by omega)
  obtain ⟨sm, s1, s2⟩ := add_wh m2 m4 (by omega)
  obtain ⟨rt, z, r1, r2, r3⟩ := root_whole s2 (by omega) (by omega)
  rw [d1]
  simp only [Option.bind_some, d3, m1, m3, s1]
  rw [lim_le (by simp; omega)]
  simp only [Option.bind_some]
  rw [lim_le (by simp; omega)]
  simp only [Option.bind_some]
  have hlen : (a ++ b).length = a.length + b.length := List.length_append
  have ab0 : nth (a ++ b) (strd lay) = some b[0] := by
    rw [← ha, nth_nat, List.getElem?_append_right (Nat.le_refl _), Nat.sub_self, List.getElem?_eq_getElem (by omega)]
  have ab1 : nth (a ++ b) (IntKind.i64.wrap (strd lay + 1)) = some b[1] := by
    rw [wrap_in (by omega), ← ha, show (a.length : Int) + 1 = ((a.length + 1 : Nat) : Int) by omega, nth_nat, List.getElem?_append_right (by omega), show a.length + 1 - a.length = 1 by omega, List.getElem?_eq_getElem (by omega)]
  have ab2 : nth (a ++ b) (IntKind.i64.wrap (strd lay - strd lay)) = some a[0] := by
    rw [Int.sub_self, wrap_in (by omega), show (0 : Int) = ((0 : Nat) : Int) from rfl, nth_nat, List.getElem?_append_left (by omega), List.getElem?_eq_getElem (by omega)]
  have ab3 : nth (a ++ b) (IntKind.i64.wrap (IntKind.i64.wrap (strd lay + 1) - strd lay)) = some a[1] := by
    rw [wrap_in (n := strd lay + 1) (by omega), show strd lay + 1 - strd lay = 1 by omega, wrap_in (by omega), show (1 : Int) = ((1 : Nat) : Int) from rfl, nth_nat, List.getElem?_append_left (by omega), List.getElem?_eq_getElem (by omega)]
  have len : gogeom_length1 N (a ++ b) 0 ((a ++ b).length : Int) (strd lay) = some z := by
    unfold gogeom_length1 gogeom_length1_g
    obtain ⟨n, hn⟩ : ∃ n, N = n + 2 := ⟨N - 2, by omega⟩
    rw [show gogeom_length1_l0 N N = gogeom_length1_l0 N (n + 2) by rw [← hn]]
    rw [show (0 : Int) + strd lay = strd lay by omega, wrap_in (n := strd lay) (by omega)]
    have last : ∀ v, gogeom_length1_l0 N (n + 1) (a ++ b) ((a ++ b).length : Int) (strd lay) v (IntKind.i64.wrap (strd lay + strd lay)) = some v := by
      intro v
      simp only [gogeom_length1_l0, gogeom_length1_g0, Bool.cond_decide]
      rw [wrap_in (by omega), if_neg (by omega)]
    have first : gogeom_length1_l0 N (n + 2) (a ++ b) ((a ++ b).length : Int) (strd lay) 0 (strd lay) = gogeom_length1_l0 N (n + 1) (a ++ b) ((a ++ b).length : Int) (strd lay) z (IntKind.i64.wrap (strd lay + strd lay)) := by
      rw [show gogeom_length1_l0 N (n + 2) (a ++ b) ((a ++ b).length : Int) (strd lay) 0 (strd lay) = gogeom_length1_g0 N (a ++ b) ((a ++ b).length : Int) (strd lay) (gogeom_length1_l0 N (n + 1) (a ++ b) ((a ++ b).length : Int) (strd lay)) 0 (strd lay) from rfl]
      simp only [gogeom_length1_g0, Bool.cond_decide, math_Sqrt, math_Sqrt_g, math_sqrt]
      rw [if_pos (by omega), ab0, ab2, ab1, ab3]
      simp only [Option.bind_some, d1, d3, m1, m3, s1, r1, r2]
    rw [first, last]
  have hl : impl_Length N (Geo.mk 2 lay 0 (([] ++ a) ++ b) [] [] []) = some (z, true) := by
    rw [List.nil_append]
    unfold impl_Length impl_Length_g impl_geometry impl_geometry_g
    simp only [Geo.kind, Geo.layout, Geo.flat, Geo.srid, Geo.ends, Geo.endss, Geo.kids, impl_floats, impl_floats_g]
    rw [lim_le (n := (a ++ b).length * 8) (by omega)]
    simp only [Option.bind_some]
    rw [show ((2 : Int) == 1) = false from rfl, show ((2 : Int) == 2) = true from rfl]
    simp only [cond_false, cond_true, gogeom_NewLineStringFlat_b, gogeom_NewLineStringFlat_b_g, stride_geom N lay g1, Option.bind_some, gogeom_LineString_SetSRID, gogeom_LineString_SetSRID_g, Sum.elim_inl, Sum.elim_inr, gogeom_LineString_Length, gogeom_LineString_Length_g]
    rw [len]
    rfl
  rw [hl]
  simp only [Option.bind_some, cond_true, math_Sqrt, math_Sqrt_g, math_sqrt, r1, r3]
end
end Go.Proofs.Ytfhplocmlmmnoaa.PvLen
