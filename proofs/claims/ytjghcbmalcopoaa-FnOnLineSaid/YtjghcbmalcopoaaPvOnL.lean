/- The law of OnLine: a place is told to be on a line just if it is on one of its segments. -/
import Derived.Test.YtjghcbmalcopoaaPvOn
import Derived.Test.YtjghcbmalcopoaaPv2
set_option linter.unusedVariables false
set_option linter.unusedSectionVars false
set_option linter.unusedSimpArgs false
namespace Go.Proofs.Ytjghcbmalcopoaa.PvOnL
open Go.Av Go
open Go.Proofs.Ytjghcbmalcopoaa.PO
open Go.Proofs.Ytjghcbmalcopoaa.PvWholeToPO
open Go.Proofs.Ytjghcbmalcopoaa.PvPlaneToPO
open Go.Proofs.Ytjghcbmalcopoaa.PvWholePO
open Go.Proofs.Ytjghcbmalcopoaa.PvWhole2PO
open Go.Proofs.Ytjghcbmalcopoaa.PvDyadicPO
open Go.Proofs.Ytjghcbmalcopoaa.PvOrientPO
open Go.Proofs.Ytjghcbmalcopoaa.PvOn
theorem b24 : Wh 4715268809856909312 16777216 := wh_lit _ _ (by decide +kernel) (by decide +kernel) (by decide +kernel) (by decide)
/-- The places of a row. -/
def pts (s : Nat) (flat : List Nat) (k : Nat) : List Pt := (List.range k).map fun t => (flat.getD (t * s) 0, flat.getD (t * s + 1) 0, ())
theorem getD_get {flat : List Nat} {i : Nat} (h : i < flat.length) : flat.getD i 0 = flat[i] := by rw [List.getD_eq_getElem?_getD, List.getElem?_eq_getElem h]; rfl
theorem pts_len (s : Nat) (flat : List Nat) (k : Nat) : (pts s flat k).length = k := by simp [pts]
theorem pts_succ (s : Nat) (flat : List Nat) (k : Nat) : pts s flat (k + 1) = pts s flat k ++ [(flat.getD (k * s) 0, flat.getD (k * s + 1) 0, ())] := by
  unfold pts; rw [List.range_succ, List.map_append]; rfl
theorem pts_get {s : Nat} {flat : List Nat} {k t : Nat} (h : t < (pts s flat k).length) : (pts s flat k)[t] = (flat.getD (t * s) 0, flat.getD (t * s + 1) 0, ()) := by simp [pts]
section
variable {N : Nat} (hN : 0 < N) (hNl : 9223372036854775808 ≤ N)
include hN hNl
theorem strides {ly : Int} (h : 1 ≤ ly ∧ ly ≤ 8) : ∃ s : Nat, 2 ≤ s ∧ s ≤ 8 ∧ spec_Stride N ly = some (s : Int) ∧ gogeom_Layout_Stride N ly = some (s : Int) := by
  have : ly = 1 ∨ ly = 2 ∨ ly = 3 ∨ ly = 4 ∨ ly = 5 ∨ ly = 6 ∨ ly = 7 ∨ ly = 8 := by omega
  rcases this with rfl | rfl | rfl | rfl | rfl | rfl | rfl | rfl
  · exact ⟨2, by decide, by decide, rfl, rfl⟩
  · exact ⟨3, by decide, by decide, rfl, rfl⟩
  · exact ⟨3, by decide, by decide, rfl, rfl⟩
  · exact ⟨4, by decide, by decide, rfl, rfl⟩
  · exact ⟨5, by decide, by decide, rfl, rfl⟩
  · exact ⟨6, by decide, by decide, rfl, rfl⟩
  · exact ⟨7, by decide, by decide, rfl, rfl⟩
  · exact ⟨8, by decide, by decide, rfl, rfl⟩
theorem flat_loop {s K : Nat} (hs : 2 ≤ s) {flat : List Nat} (hl : flat.length = K * s) (hK : K ≤ 1000000) (hs2 : s ≤ 8) (m : Nat) : ∀ (c k n : Nat), k + c = K → c + 1 ≤ n →
    laws_flatTo_l0 N n flat m (s : Int) ((k * s : Nat) : Int) (pts s flat k) = (laws_planeTo N m (pts s flat K)).bind fun b => some (pts s flat K, b, ())
  | 0, k, n, hk, hn => by
    obtain ⟨n, rfl⟩ : ∃ m, n = m + 1 := ⟨n - 1, by omega⟩
    have hk : k = K := by omega
    subst hk
    simp only [laws_flatTo_l0, laws_flatTo_g0]
    have : decide (((k * s : Nat) : Int) < (flat.length : Int)) = false := by simp; omega
    rw [this, cond_false]
  | c + 1, k, n, hk, hn => by
    obtain ⟨n, rfl⟩ : ∃ m, n = m + 1 := ⟨n - 1, by omega⟩
    have ih := flat_loop hs hl hK hs2 m c (k + 1) n (by omega) (by omega)
    have hks : (k + 1) * s ≤ K * s := Nat.mul_le_mul_right s (by omega)
    have hks2 : (k + 1) * s = k * s + s := by rw [Nat.add_mul, Nat.one_mul]
    have hKs : K * s ≤ 1000000 * 8 := Nat.mul_le_mul hK hs2
    have h1 : k * s < flat.length := by omega
    have h2 : k * s + 1 < flat.length := by omega
    simp only [laws_flatTo_l0, laws_flatTo_g0]
    have : decide (((k * s : Nat) : Int) < (flat.length : Int)) = true := by simp; omega
    rw [this, cond_true, wrap_in (n := ((k * s : Nat) : Int) + 1) (by omega), wrap_in (n := ((k * s : Nat) : Int) + (s : Int)) (by omega)]
    rw [show ((k * s : Nat) : Int) + 1 = ((k * s + 1 : Nat) : Int) by omega, show ((k * s : Nat) : Int) + (s : Int) = (((k + 1) * s : Nat) : Int) by rw [hks2]; omega]
    rw [nth_get h1, nth_get h2]
    simp only [Option.bind_some]
    rw [lim_le (by rw [pts_len]; simp; omega)]
    simp only [Option.bind_some]
    rw [← ih, pts_succ, getD_get h1, getD_get h2]
theorem flatTo_spec (ly : Int) (flat : List Nat) (hf : flat.length ≤ 9223372036854775807) :
    (∃ l, laws_flatTo N ly flat 4715268809856909312 200 = some (l, false, ())) ∨
    ∃ s K : Nat, 2 ≤ s ∧ s ≤ 8 ∧ flat.length = K * s ∧ K ≤ 200 ∧ gogeom_Layout_Stride N ly = some (s : Int) ∧ laws_flatTo N ly flat 4715268809856909312 200 = some (pts s flat K, true, ()) ∧ ∀ x ∈ pts s flat K, In 16777216 x.1 ∧ In 16777216 x.2.1 := by
  unfold laws_flatTo laws_flatTo_g
  cases h1 : decide (ly < 1) with
  | true => exact .inl ⟨_, rfl⟩
  | false =>
    cases h2 : decide (ly > 8) with
    | true => exact .inl ⟨_, rfl⟩
    | false =>
      simp only [decide_eq_false_iff_not] at h1 h2
      obtain ⟨s, hs, hs2, e1, e2⟩ := strides hN hNl (ly := ly) ⟨by omega, by omega⟩
      simp only [cond_false, e1, Option.bind_some]
      rw [if_neg (by omega)]
      cases h3 : (Int.tmod (flat.length : Int) (s : Int) != 0) with
      | true => exact .inl ⟨_, rfl⟩
      | false =>
        simp only [cond_false]
        rw [wrap_in (n := (s : Int) * 200) (by omega)]
        cases h4 : decide ((flat.length : Int) > (s : Int) * 200) with
        | true => exact .inl ⟨_, rfl⟩
        | false =>
          simp only [cond_false]
          simp only [decide_eq_false_iff_not] at h4
          have hmod : flat.length % s = 0 := by
            simp only [bne_eq_false_iff_eq] at h3
            rw [Int.tmod_eq_emod_of_nonneg (by omega)] at h3
            omega
          have hl : flat.length = (flat.length / s) * s := by
            have := Nat.div_add_mod flat.length s
            rw [hmod, Nat.mul_comm] at this
            omega
          generalize flat.length / s = K at hl
          have hK : K ≤ 200 := by
            refine Nat.le_of_not_lt fun h => ?_
            have : 201 * s ≤ K * s := Nat.mul_le_mul_right s h
            omega
          have hloop := flat_loop hN hNl hs hl (by omega) hs2 4715268809856909312 K 0 N (by omega) (by omega)
          rw [show ((0 * s : Nat) : Int) = 0 by simp, show pts s flat 0 = [] from rfl] at hloop
          rw [hloop]
          rcases planeTo b24 (by decide) (N := N) (by omega) (pts s flat K) (by rw [pts_len]; omega) (by rw [pts_len]; omega) with h | ⟨h, hin⟩
          · rw [h]; exact .inl ⟨_, rfl⟩
          · rw [h]; exact .inr ⟨s, K, hs, hs2, hl, hK, e2, rfl, hin⟩

end
structure At (p : Pt) (X Y : Int) : Prop where
  wx : Wh p.1 X
  wy : Wh p.2.1 Y
  bx : -33554432 ≤ X ∧ X ≤ 33554432
  by' : -33554432 ≤ Y ∧ Y ≤ 33554432
  lx : p.1 < 18446744073709551616
  ly : p.2.1 < 18446744073709551616
theorem take2 {flat : List Nat} {a : Nat} (h : a + 1 < flat.length) : (flat.drop a).take 2 = [flat.getD a 0, flat.getD (a + 1) 0] := by
  rw [List.drop_eq_getElem_cons (by omega), List.drop_eq_getElem_cons (by omega), getD_get (by omega), getD_get h]
  rfl
/-- Is it on the k-th segment? -/
def onK (px py : Int) (X Y : Nat → Int) (k : Nat) : Bool := onS px py (X k) (Y k) (X (k + 1)) (Y (k + 1))
/-- Is it on one of the next c segments? -/
def anyK (px py : Int) (X Y : Nat → Int) : Nat → Nat → Bool
  | _, 0 => false
  | k, c + 1 => onK px py X Y k || anyK px py X Y (k + 1) c
section
variable {N : Nat} (hN : 0 < N) (hNl : 9223372036854775808 ≤ N) {px py : Int} {X Y : Nat → Int} {p : Pt} {s K : Nat} {flat : List Nat} (hp : At p px py)
  (hl : ∀ (k : Nat) (h : k < (pts s flat K).length), At (pts s flat K)[k] (X k) (Y k)) (hs : 2 ≤ s) (hs2 : s ≤ 8) (hfl : flat.length = K * s) (hK : 2 ≤ K) (hK2 : K ≤ 200)
include hN hNl hp hl hs hs2 hfl hK hK2
theorem at_k {k : Nat} (h : k < K) : At (flat.getD (k * s) 0, flat.getD (k * s + 1) 0, ()) (X k) (Y k) ∧ k * s + 1 < flat.length := by
  have := hl k (by rw [pts_len]; exact h)
  rw [pts_get] at this
  refine ⟨this, ?_⟩
  have h1 : (k + 1) * s ≤ K * s := Nat.mul_le_mul_right s (by omega)
  rw [Nat.add_mul, Nat.one_mul] at h1
  omega
theorem code_loop : ∀ (c t n : Nat), t + 1 + c = K → c + 1 ≤ n →
    xy_IsOnLine_l0 N n [p.1, p.2.1] flat (s : Int) (((t + 1) * s : Nat) : Int) = some (anyK px py X Y t c)
  | 0, t, n, ht, hn => by
    obtain ⟨n, rfl⟩ : ∃ m, n = m + 1 := ⟨n - 1, by omega⟩
    have ht : t + 1 = K := by omega
    rw [ht]
    unfold xy_IsOnLine_l0
    simp only [xy_IsOnLine_g0]
    rw [show decide (((K * s : Nat) : Int) < (flat.length : Int)) = false by simp; omega, cond_false]
    rfl
  | c + 1, t, n, ht, hn => by
    obtain ⟨n, rfl⟩ : ∃ m, n = m + 1 := ⟨n - 1, by omega⟩
    have hb : K * s ≤ 200 * 8 := Nat.mul_le_mul hK2 hs2
    obtain ⟨a1, l1⟩ := at_k hN hNl hp hl hs hs2 hfl hK hK2 (k := t) (by omega)
    obtain ⟨a2, l2⟩ := at_k hN hNl hp hl hs hs2 hfl hK hK2 (k := t + 1) (by omega)
    have e1 : (t + 1) * s = t * s + s := by rw [Nat.add_mul, Nat.one_mul]
    have e2 : (t + 1 + 1) * s = (t + 1) * s + s := by rw [Nat.add_mul (t + 1), Nat.one_mul]
    have ih := code_loop c (t + 1) n (by omega) (by omega)
    have hr := robust hN hNl hp.wx hp.wy a1.wx a1.wy a2.wx a2.wy hp.bx hp.by' a1.bx a1.by' a2.bx a2.by'
    unfold xy_IsOnLine_l0
    simp only [xy_IsOnLine_g0]
    rw [show decide ((((t + 1) * s : Nat) : Int) < (flat.length : Int)) = true by simp only [decide_eq_true_eq]; omega, cond_true]
    rw [wrap_in (n := (((t + 1) * s : Nat) : Int) - (s : Int)) (by omega), wrap_in (n := (((t + 1) * s : Nat) : Int) - (s : Int) + 2) (by omega), wrap_in (n := (((t + 1) * s : Nat) : Int) + 2) (by omega), wrap_in (n := (((t + 1) * s : Nat) : Int) + (s : Int)) (by omega)]
    rw [chk2_int (by omega), chk2_int (by omega)]
    simp only [Option.bind_some]
    rw [show ((((t + 1) * s : Nat) : Int) - (s : Int)).toNat = t * s by omega, show ((((t + 1) * s : Nat) : Int) - (s : Int) + 2).toNat - t * s = 2 by omega, show ((((t + 1) * s : Nat) : Int)).toNat = (t + 1) * s by omega,
      show ((((t + 1) * s : Nat) : Int) + 2).toNat - (t + 1) * s = 2 by omega, take2 l1, take2 l2, hr, show (((t + 1) * s : Nat) : Int) + (s : Int) = (((t + 1 + 1) * s : Nat) : Int) by omega, ih]
    simp only [Option.bind_some, anyK, onK]
    cases onS px py (X t) (Y t) (X (t + 1)) (Y (t + 1)) <;> rfl
theorem code {ly : Int} (hst : gogeom_Layout_Stride N ly = some (s : Int)) : impl_OnLine N ly p flat = some (anyK px py X Y 0 (K - 1), true) := by
  have hb : K * s ≤ 200 * 8 := Nat.mul_le_mul hK2 hs2
  have hb2 : 2 * s ≤ K * s := Nat.mul_le_mul_right s hK
  have hloop := code_loop hN hNl hp hl hs hs2 hfl hK hK2 (K - 1) 0 N (by omega) (by omega)
  rw [show (((0 + 1) * s : Nat) : Int) = (s : Int) by simp] at hloop
  simp only [impl_OnLine, impl_OnLine_g, impl_coord, impl_coord_g, Option.bind_some, xy_IsOnLine, xy_IsOnLine_g, hst]
  rw [wrap_in (n := 2 * (s : Int)) (by omega), show decide ((flat.length : Int) < 2 * (s : Int)) = false by simp; omega, cond_false, hloop]
  rfl
theorem law_loop (v1 : Int) : ∀ (c t n : Nat) (w : Bool), t + 1 + c = K → c + 1 ≤ n →
    laws_FnOnLine_l1 N n v1 flat p (pts s flat K, true, ()) w ((t + 1 : Nat) : Int) = (impl_OnLine N v1 p flat).bind fun v25 => bif v25.2 then some (v25.1 == (w || anyK px py X Y t c)) else some false
  | 0, t, n, w, ht, hn => by
    obtain ⟨n, rfl⟩ : ∃ m, n = m + 1 := ⟨n - 1, by omega⟩
    unfold laws_FnOnLine_l1
    simp only [laws_FnOnLine_g1]
    rw [show decide (((t + 1 : Nat) : Int) < ((pts s flat K).length : Int)) = false by rw [pts_len]; simp; omega, cond_false]
    simp only [anyK, Bool.or_false]
  | c + 1, t, n, w, ht, hn => by
    obtain ⟨n, rfl⟩ : ∃ m, n = m + 1 := ⟨n - 1, by omega⟩
    have hk : t + 1 < (pts s flat K).length := by rw [pts_len]; omega
    have a1 := hl t (by omega)
    have a2 := hl (t + 1) hk
    have ih := fun w => law_loop v1 c (t + 1) n w (by omega) (by omega)
    obtain ⟨P, eP, p1, p2⟩ := exact2 hN hNl hp.wx hp.wy hp.lx hp.ly
    obtain ⟨A, eA, q1, q2⟩ := exact2 hN hNl a1.wx a1.wy a1.lx a1.ly
    obtain ⟨B, eB, r1, r2⟩ := exact2 hN hNl a2.wx a2.wy a2.lx a2.ly
    have hon := on_spec hN hNl q1 q2 r1 r2 p1 p2
    have eta : ∀ p : Pt, (p.1, p.2.1, ()) = p := fun _ => rfl
    rw [eta] at eA eB
    have step : ∀ b, laws_FnOnLine_j2 N (laws_FnOnLine_l1 N n v1 flat p (pts s flat K, true, ())) v1 flat p (pts s flat K, true, ()) ((t + 1 : Nat) : Int) b = laws_FnOnLine_l1 N n v1 flat p (pts s flat K, true, ()) b ((t + 1 + 1 : Nat) : Int) := fun b => by
      unfold laws_FnOnLine_j2 laws_FnOnLine_g2
      rw [gate_pos hN, wrap_in (n := ((t + 1 : Nat) : Int) + 1) (by rw [pts_len] at hk; omega), show ((t + 1 : Nat) : Int) + 1 = ((t + 1 + 1 : Nat) : Int) by omega]
    conv => lhs; unfold laws_FnOnLine_l1
    simp only [laws_FnOnLine_g1]
    rw [show decide (((t + 1 : Nat) : Int) < ((pts s flat K).length : Int)) = true by simp; omega, cond_true]
    cases w with
    | true => rw [cond_true, step, ih]; simp only [Bool.true_or]
    | false =>
      rw [cond_false, eP, Option.bind_some, wrap_in (n := ((t + 1 : Nat) : Int) - 1) (by rw [pts_len] at hk; omega), show ((t + 1 : Nat) : Int) - 1 = ((t : Nat) : Int) by omega, chk_nat (show t < (pts s flat K).length by omega), Option.bind_some,
        List.getElem?_eq_getElem (show t < (pts s flat K).length by omega), Option.bind_some, eA, Option.bind_some, chk_nat hk, Option.bind_some, List.getElem?_eq_getElem hk, Option.bind_some, eB, Option.bind_some, hon, Option.bind_some, step, ih]
      simp only [Bool.false_or, anyK, onK]
end
/-- The law, whatever the variable holds. -/
theorem law {N : Nat} (hNl : 18446744073709551616 ≤ N) (ly : Int) (p : Pt) (flat : List Nat) (lp : p.1 < 18446744073709551616 ∧ p.2.1 < 18446744073709551616) (lf : ∀ x ∈ flat, x < 18446744073709551616) :
    laws_FnOnLine N ly p flat = some true := by
  have hN : 0 < N := by omega
  have hN2 : 9223372036854775808 ≤ N := by omega
  unfold laws_FnOnLine laws_FnOnLine_g
  cases h1 : decide (((flat.length : Int) : Int) > 2147483647) with
  | true => rfl
  | false =>
    simp only [decide_eq_false_iff_not] at h1
    have hj : ∀ v4, laws_FnOnLine_j0 N ly flat p v4 = some true := fun v4 => by unfold laws_FnOnLine_j0 laws_FnOnLine_g0; rw [gate_pos hN]
    rw [cond_false]
    rcases flatTo_spec hN hN2 ly flat (by omega) with ⟨l, h⟩ | ⟨s, K, hs, hs2, hfl, hK2, hst, h, hin⟩
    · rw [h, Option.bind_some]; exact hj _
    · rw [h, Option.bind_some, Bool.not_true, cond_false]
      cases h2 : decide ((((pts s flat K).length : Int) : Int) < 2) with
      | true => rw [cond_true]; exact hj _
      | false =>
        rw [cond_false]
        simp only [decide_eq_false_iff_not, pts_len] at h2
        have eta : (p.1, p.2.1, ()) = p := rfl
        rw [eta]
        rcases planeTo b24 (by decide) (N := N) (by omega) [p] (by simp; omega) (by simp) with h3 | ⟨h3, hp⟩
        · rw [h3, Option.bind_some, gate_pos hN]; rfl
        · rw [h3, Option.bind_some, gate_pos hN, Bool.not_true, cond_false]
          obtain ⟨⟨px, w1, b1, b2⟩, ⟨py, w2, b3, b4⟩⟩ := hp p (by simp)
          have hp : At p px py := ⟨w1, w2, by omega, by omega, lp.1, lp.2⟩
          have ex : ∀ k, ∃ xy : Int × Int, ∀ (h : k < (pts s flat K).length), At (pts s flat K)[k] xy.1 xy.2 := fun k => by
            by_cases hk : k < (pts s flat K).length
            · obtain ⟨⟨x, u1, c1, c2⟩, ⟨y, u2, c3, c4⟩⟩ := hin _ (List.getElem_mem hk)
              refine ⟨(x, y), fun _ => ⟨u1, u2, by omega, by omega, ?_, ?_⟩⟩
              all_goals
                rw [pts_get]
                have hk2 : k < K := by rw [pts_len] at hk; exact hk
                have h5 : (k + 1) * s ≤ K * s := Nat.mul_le_mul_right s (by omega)
                rw [Nat.add_mul, Nat.one_mul] at h5
              · show flat.getD (k * s) 0 < _
                rw [getD_get (by omega)]
                exact lf _ (List.getElem_mem _)
              · show flat.getD (k * s + 1) 0 < _
                rw [getD_get (by omega)]
                exact lf _ (List.getElem_mem _)
            · exact ⟨(0, 0), fun h => absurd h hk⟩
          obtain ⟨XY, hl⟩ : ∃ XY : Nat → Int × Int, ∀ k (h : k < (pts s flat K).length), At (pts s flat K)[k] (XY k).1 (XY k).2 := ⟨fun k => Classical.choose (ex k), fun k => Classical.choose_spec (ex k)⟩
          have hK : 2 ≤ K := by omega
          have hloop := law_loop hN hN2 hp (X := fun k => (XY k).1) (Y := fun k => (XY k).2) hl hs hs2 hfl hK hK2 ly (K - 1) 0 N false (by omega) (by omega)
          rw [show ((0 + 1 : Nat) : Int) = 1 from rfl] at hloop
          rw [hloop, code hN hN2 hp (X := fun k => (XY k).1) (Y := fun k => (XY k).2) hl hs hs2 hfl hK hK2 hst, Option.bind_some, cond_true, Bool.false_or]
          cases anyK px py (fun k => (XY k).1) (fun k => (XY k).2) 0 (K - 1) <;> rfl
end Go.Proofs.Ytjghcbmalcopoaa.PvOnL
