/- The plain laws of FnBoxUnion2 and FnBoxUnion3. -/
import Derived.Test.YtgipjhgnnppjgaaPvGridFB
set_option linter.unusedVariables false
set_option linter.unusedSimpArgs false
namespace Go.Proofs.Ytgipjhgnnppjgaa.PvBoxUnion
open Go.Av Go
open Go.Proofs.Ytgipjhgnnppjgaa.FB
open Go.Proofs.Ytgipjhgnnppjgaa.PvGridFB
theorem whole2 {N : Nat} (hN : 100 ≤ N) (hN2 : N ≤ 18446744073709551616) (v1 : List (Nat × Nat × Unit)) (hv : v1.length ≤ 50) : ∀ (c i n : Nat), i + c = v1.length → c + 1 ≤ n →
    ∃ t, laws_whole2_l0 N n v1 (i : Int) = some t ∧ (t = true → ∀ (j : Nat) p, i ≤ j → v1[j]? = some p → In 1048576 p.1 ∧ In 1048576 p.2.1)
  | 0, i, n, hi, hn => by
    obtain ⟨n, rfl⟩ : ∃ m, n = m + 1 := ⟨n - 1, by omega⟩
    simp only [laws_whole2_l0, laws_whole2_g0, Bool.cond_decide]
    rw [if_neg (by omega)]
    exact ⟨_, rfl, fun h j l hj hx => by rw [List.getElem?_eq_none (by omega)] at hx; cases hx⟩
  | c + 1, i, n, hi, hn => by
    obtain ⟨n, rfl⟩ : ∃ m, n = m + 1 := ⟨n - 1, by omega⟩
    have hlt : i < v1.length := by omega
    obtain ⟨t, h1, h2⟩ := whole2 hN hN2 v1 hv c (i + 1) n (by omega) (by omega)
    simp only [laws_whole2_l0, laws_whole2_g0, Bool.cond_decide]
    rw [if_pos (by omega), nth_nat, List.getElem?_eq_getElem hlt]
    simp only [Option.bind_some, laws_off2, laws_off2_g]
    obtain ⟨s, g1, g2⟩ := grid (N := N) bound20 (by decide) (v2 := 2) [[v1[i].1, v1[i].2.1]] (by simp; omega) (by simp; omega) hN2 (by simp) (by simp)
    rw [g1]
    simp only [Option.bind_some]
    cases s with
    | false => exact ⟨false, rfl, fun h => by cases h⟩
    | true =>
      simp only [Bool.not_true, cond_false]
      rw [wrap_in (n := (i : Int) + 1) (by omega), show (i : Int) + 1 = ((i + 1 : Nat) : Int) by omega, h1]
      refine ⟨t, rfl, fun ht j p hj hx => ?_⟩
      rcases Nat.lt_or_ge i j with hij | hij
      · exact h2 ht j p (by omega) hx
      · have : j = i := by omega
        subst this
        rw [List.getElem?_eq_getElem hlt] at hx
        simp only [Option.some.injEq] at hx
        subst hx
        have := (g2 rfl).2 _ (List.mem_singleton.2 rfl)
        exact ⟨this.2 _ (by simp), this.2 _ (by simp)⟩
theorem whole3 {N : Nat} (hN : 100 ≤ N) (hN2 : N ≤ 18446744073709551616) (v1 : List (Nat × Nat × Nat × Unit)) (hv : v1.length ≤ 50) : ∀ (c i n : Nat), i + c = v1.length → c + 1 ≤ n →
    ∃ t, laws_whole3_l0 N n v1 (i : Int) = some t ∧ (t = true → ∀ (j : Nat) p, i ≤ j → v1[j]? = some p → In 1048576 p.1 ∧ In 1048576 p.2.1 ∧ In 1048576 p.2.2.1)
  | 0, i, n, hi, hn => by
    obtain ⟨n, rfl⟩ : ∃ m, n = m + 1 := ⟨n - 1, by omega⟩
    simp only [laws_whole3_l0, laws_whole3_g0, Bool.cond_decide]
    rw [if_neg (by omega)]
    exact ⟨_, rfl, fun h j l hj hx => by rw [List.getElem?_eq_none (by omega)] at hx; cases hx⟩
  | c + 1, i, n, hi, hn => by
    obtain ⟨n, rfl⟩ : ∃ m, n = m + 1 := ⟨n - 1, by omega⟩
    have hlt : i < v1.length := by omega
    obtain ⟨t, h1, h2⟩ := whole3 hN hN2 v1 hv c (i + 1) n (by omega) (by omega)
    simp only [laws_whole3_l0, laws_whole3_g0, Bool.cond_decide]
    rw [if_pos (by omega), nth_nat, List.getElem?_eq_getElem hlt]
    simp only [Option.bind_some, laws_off3, laws_off3_g]
    obtain ⟨s, g1, g2⟩ := grid (N := N) bound20 (by decide) (v2 := 3) [[v1[i].1, v1[i].2.1, v1[i].2.2.1]] (by simp; omega) (by simp; omega) hN2 (by simp) (by simp)
    rw [g1]
    simp only [Option.bind_some]
    cases s with
    | false => exact ⟨false, rfl, fun h => by cases h⟩
    | true =>
      simp only [Bool.not_true, cond_false]
      rw [wrap_in (n := (i : Int) + 1) (by omega), show (i : Int) + 1 = ((i + 1 : Nat) : Int) by omega, h1]
      refine ⟨t, rfl, fun ht j p hj hx => ?_⟩
      rcases Nat.lt_or_ge i j with hij | hij
      · exact h2 ht j p (by omega) hx
      · have : j = i := by omega
        subst this
        rw [List.getElem?_eq_getElem hlt] at hx
        simp only [Option.some.injEq] at hx
        subst hx
        have := (g2 rfl).2 _ (List.mem_singleton.2 rfl)
        exact ⟨this.2 _ (by simp), this.2 _ (by simp), this.2 _ (by simp)⟩
theorem fmm_com {x y : Nat} {m n : Int} (hx : Wh x m) (hy : Wh y n) (mx : Bool) : ∃ z, fmm mx x y = some z ∧ Wh z (bif mx then max m n else min m n) := fmm_wh hx hy mx
theorem law2 (v1 v2 v3 v4 : Nat × (Nat × Unit)) : laws_FnBoxUnion2 18446744073709551616 v1 v2 v3 v4 = some true := by
  generalize hN : 18446744073709551616 = N
  have hN0 : 0 < N := by omega
  obtain ⟨a1, a2, ⟨⟩⟩ := v1
  obtain ⟨b1, b2, ⟨⟩⟩ := v2
  obtain ⟨c1, c2, ⟨⟩⟩ := v3
  obtain ⟨d1, d2, ⟨⟩⟩ := v4
  unfold laws_FnBoxUnion2 laws_FnBoxUnion2_g laws_FnBoxUnion2_j0 laws_FnBoxUnion2_g0 laws_whole2 laws_whole2_g
  simp only [gate_pos hN0]
  obtain ⟨t, h1, h2⟩ := whole2 (N := N) (by omega) (by omega) [(a1, a2, ()), (b1, b2, ()), (c1, c2, ()), (d1, d2, ())] (by simp) 4 0 N (by simp) (by omega)
  rw [show ((0 : Nat) : Int) = 0 from rfl] at h1
  rw [h1]
  cases t with
  | false => rfl
  | true =>
    obtain ⟨⟨A1, x1, _⟩, ⟨A2, x2, _⟩⟩ := h2 rfl 0 _ (by omega) rfl
    obtain ⟨⟨B1, y1, _⟩, ⟨B2, y2, _⟩⟩ := h2 rfl 1 _ (by omega) rfl
    obtain ⟨⟨C1, z1, _⟩, ⟨C2, z2, _⟩⟩ := h2 rfl 2 _ (by omega) rfl
    obtain ⟨⟨D1, u1, _⟩, ⟨D2, u2, _⟩⟩ := h2 rfl 3 _ (by omega) rfl
    dsimp only at x1 x2 y1 y2 z1 z2 u1 u2
    obtain ⟨p1, e1, w1⟩ := fmm_wh x1 z1 false
    obtain ⟨p2, e2, w2⟩ := fmm_wh x2 z2 false
    obtain ⟨p3, e3, w3⟩ := fmm_wh y1 u1 true
    obtain ⟨p4, e4, w4⟩ := fmm_wh y2 u2 true
    simp only [cond_true, cond_false] at w1 w2 w3 w4
    simp only [Option.bind_some, Bool.not_true, cond_false, laws_box2, laws_box2_g, impl_Empty2, impl_Empty2_g, impl_vec2, impl_vec2_g, r2_Box_Empty, r2_Box_Empty_g, impl_Union2, impl_Union2_g, r2_Box_Union, r2_Box_Union_g, impl_plainBox2, impl_plainBox2_g, impl_plainP2, impl_plainP2_g,
      r2_minElem, r2_minElem_g, r2_maxElem, r2_maxElem_g, math_Min, math_Min_g, math_archMin, math_Max, math_Max_g, math_archMax, e1, e2, e3, e4, fge_wh x1 y1, fge_wh x2 y2, fge_wh z1 u1, fge_wh z2 u2]
    by_cases q1 : B1 ≤ A1 <;> by_cases q2 : B2 ≤ A2 <;> by_cases q3 : D1 ≤ C1 <;> by_cases q4 : D2 ≤ C2 <;>
      simp [q1, q2, q3, q4, feq_wh x1 x1, feq_wh x2 x2, feq_wh y1 y1, feq_wh y2 y2, feq_wh z1 z1, feq_wh z2 z2, feq_wh u1 u1, feq_wh u2 u2,
        feq_wh (fmin_wh x1 z1) w1, feq_wh (fmin_wh x2 z2) w2, feq_wh (fmax_wh y1 u1) w3, feq_wh (fmax_wh y2 u2) w4,
        feq_wh (fmin_wh z1 x1) w1, feq_wh (fmin_wh z2 x2) w2, feq_wh (fmax_wh u1 y1) w3, feq_wh (fmax_wh u2 y2) w4] <;>
      omega
theorem law3 (v1 v2 v3 v4 : Nat × (Nat × (Nat × Unit))) : laws_FnBoxUnion3 18446744073709551616 v1 v2 v3 v4 = some true := by
  generalize hN : 18446744073709551616 = N
  have hN0 : 0 < N := by omega
  obtain ⟨a1, a2, a3, ⟨⟩⟩ := v1
  obtain ⟨b1, b2, b3, ⟨⟩⟩ := v2
  obtain ⟨c1, c2, c3, ⟨⟩⟩ := v3
  obtain ⟨d1, d2, d3, ⟨⟩⟩ := v4
  unfold laws_FnBoxUnion3 laws_FnBoxUnion3_g laws_FnBoxUnion3_j0 laws_FnBoxUnion3_g0 laws_whole3 laws_whole3_g
  simp only [gate_pos hN0]
  obtain ⟨t, h1, h2⟩ := whole3 (N := N) (by omega) (by omega) [(a1, a2, a3, ()), (b1, b2, b3, ()), (c1, c2, c3, ()), (d1, d2, d3, ())] (by simp) 4 0 N (by simp) (by omega)
  rw [show ((0 : Nat) : Int) = 0 from rfl] at h1
  rw [h1]
  cases t with
  | false => rfl
  | true =>
    obtain ⟨⟨A1, x1, _⟩, ⟨A2, x2, _⟩, ⟨A3, x3, _⟩⟩ := h2 rfl 0 _ (by omega) rfl
    obtain ⟨⟨B1, y1, _⟩, ⟨B2, y2, _⟩, ⟨B3, y3, _⟩⟩ := h2 rfl 1 _ (by omega) rfl
    obtain ⟨⟨C1, z1, _⟩, ⟨C2, z2, _⟩, ⟨C3, z3, _⟩⟩ := h2 rfl 2 _ (by omega) rfl
    obtain ⟨⟨D1, u1, _⟩, ⟨D2, u2, _⟩, ⟨D3, u3, _⟩⟩ := h2 rfl 3 _ (by omega) rfl
    dsimp only at x1 x2 x3 y1 y2 y3 z1 z2 z3 u1 u2 u3
    obtain ⟨p1, e1, w1⟩ := fmm_wh x1 z1 false
    obtain ⟨p2, e2, w2⟩ := fmm_wh x2 z2 false
    obtain ⟨p5, e5, w5⟩ := fmm_wh x3 z3 false
    obtain ⟨p3, e3, w3⟩ := fmm_wh y1 u1 true
    obtain ⟨p4, e4, w4⟩ := fmm_wh y2 u2 true
    obtain ⟨p6, e6, w6⟩ := fmm_wh y3 u3 true
    simp only [cond_true, cond_false] at w1 w2 w3 w4 w5 w6
    simp only [Option.bind_some, Bool.not_true, cond_false, laws_box3, laws_box3_g, impl_Empty3, impl_Empty3_g, impl_vec3, impl_vec3_g, r3_Box_Empty, r3_Box_Empty_g, impl_Union3, impl_Union3_g, r3_Box_Union, r3_Box_Union_g, impl_plainBox3, impl_plainBox3_g, impl_plainP3, impl_plainP3_g,
      r3_minElem, r3_minElem_g, r3_maxElem, r3_maxElem_g, math_Min, math_Min_g, math_archMin, math_Max, math_Max_g, math_archMax, e1, e2, e3, e4, e5, e6, fge_wh x1 y1, fge_wh x2 y2, fge_wh x3 y3, fge_wh z1 u1, fge_wh z2 u2, fge_wh z3 u3]
    have f1 : (decide (B1 ≤ A1) || decide (B2 ≤ A2) || decide (B3 ≤ A3)) = true ∨ (decide (B1 ≤ A1) || decide (B2 ≤ A2) || decide (B3 ≤ A3)) = false := by cases (decide (B1 ≤ A1) || decide (B2 ≤ A2) || decide (B3 ≤ A3)) <;> simp
    by_cases q1 : B1 ≤ A1 <;> by_cases q2 : B2 ≤ A2 <;> by_cases q5 : B3 ≤ A3 <;> by_cases q3 : D1 ≤ C1 <;> by_cases q4 : D2 ≤ C2 <;> by_cases q6 : D3 ≤ C3 <;>
      simp [q1, q2, q3, q4, q5, q6, feq_wh x1 x1, feq_wh x2 x2, feq_wh x3 x3, feq_wh y1 y1, feq_wh y2 y2, feq_wh y3 y3, feq_wh z1 z1, feq_wh z2 z2, feq_wh z3 z3, feq_wh u1 u1, feq_wh u2 u2, feq_wh u3 u3,
        feq_wh (fmin_wh x1 z1) w1, feq_wh (fmin_wh x2 z2) w2, feq_wh (fmin_wh x3 z3) w5, feq_wh (fmax_wh y1 u1) w3, feq_wh (fmax_wh y2 u2) w4, feq_wh (fmax_wh y3 u3) w6,
        feq_wh (fmin_wh z1 x1) w1, feq_wh (fmin_wh z2 x2) w2, feq_wh (fmin_wh z3 x3) w5, feq_wh (fmax_wh u1 y1) w3, feq_wh (fmax_wh u2 y2) w4, feq_wh (fmax_wh u3 y3) w6] <;>
      omega
end Go.Proofs.Ytgipjhgnnppjgaa.PvBoxUnion
