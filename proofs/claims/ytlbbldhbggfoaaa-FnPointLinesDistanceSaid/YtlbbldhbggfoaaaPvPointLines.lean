/- The law of PointLinesDistance: the distance of a place from a line is the least of those from its segments. -/
import Derived.Test.YtlbbldhbggfoaaaPvPointLine
import Derived.Test.YtlbbldhbggfoaaaPv2
set_option linter.unusedVariables false
set_option linter.unusedSectionVars false
set_option linter.unusedSimpArgs false
namespace Go.Proofs.Ytlbbldhbggfoaaa.PvPointLines
open Go.Av Go
open Go.Proofs.Ytlbbldhbggfoaaa.UL
open Go.Proofs.Ytlbbldhbggfoaaa.PvWholeToUL
open Go.Proofs.Ytlbbldhbggfoaaa.PvPlaneToUL
open Go.Proofs.Ytlbbldhbggfoaaa.PvWholeUL
open Go.Proofs.Ytlbbldhbggfoaaa.PvWhole2UL
open Go.Proofs.Ytlbbldhbggfoaaa.PvDyadicUL
open Go.Proofs.Ytlbbldhbggfoaaa.PvFloatUL
open Go.Proofs.Ytlbbldhbggfoaaa.PvPointLine
abbrev RT := DY × (DY × Unit)
/-- The places of a row. -/
def pts (s : Nat) (flat : List Nat) (k : Nat) : List Pt := (List.range k).map fun t => (flat.getD (t * s) 0, flat.getD (t * s + 1) 0, ())
theorem getD_get {flat : List Nat} {i : Nat} (h : i < flat.length) : flat.getD i 0 = flat[i] := by rw [List.getD_eq_getElem?_getD, List.getElem?_eq_getElem h]; rfl
theorem pts_len (s : Nat) (flat : List Nat) (k : Nat) : (pts s flat k).length = k := by simp [pts]
theorem pts_succ (s : Nat) (flat : List Nat) (k : Nat) : pts s flat (k + 1) = pts s flat k ++ [(flat.getD (k * s) 0, flat.getD (k * s + 1) 0, ())] := by
  unfold pts; rw [List.range_succ, List.map_append]; rfl
theorem pts_get {s : Nat} {flat : List Nat} {k t : Nat} (h : t < (pts s flat k).length) : (pts s flat k)[t] = (flat.getD (t * s) 0, flat.getD (t * s + 1) 0, ()) := by simp [pts]
section
variable {N : Nat} (hN : 0 < N) (hNl : 9223372036854775808 ≤ N)
include hN hNl
theorem strides {ly : Int} (h : 1 ≤ ly ∧ ly ≤ 8) : ∃ s : Nat, 2 ≤ s ∧ s ≤ 8 ∧ spec_Stride N ly = some (s : Int) ∧ gogeom_Layout_Stride N ly = some (s : Int) := by
  have : ly = 1 ∨ ly = 2 ∨ ly = 3 ∨ ly = 4 ∨ ly = 5 ∨ ly = 6 ∨ ly = 7 ∨ ly = 8 := by omega
  rcases this with rfl | rfl | rfl | rfl | rfl | rfl | rfl | rfl
  · exact ⟨2, by decide, by decide, rfl, rfl⟩
  · exact ⟨3, by decide, by decide, rfl, rfl⟩
  · exact ⟨3, by decide, by decide, rfl, rfl⟩
  · exact ⟨4, by decide, by decide, rfl, rfl⟩
  · exact ⟨5, by decide, by decide, rfl, rfl⟩
  · exact ⟨6, by decide, by decide, rfl, rfl⟩
  · exact ⟨7, by decide, by decide, rfl, rfl⟩
  · exact ⟨8, by decide, by decide, rfl, rfl⟩
theorem flat_loop {s K : Nat} (hs : 2 ≤ s) {flat : List Nat} (hl : flat.length = K * s) (hK : K ≤ 1000000) (hs2 : s ≤ 8) (m : Nat) : ∀ (c k n : Nat), k + c = K → c + 1 ≤ n →
    laws_flatTo_l0 N n flat m (s : Int) ((k * s : Nat) : Int) (pts s flat k) = (laws_planeTo N m (pts s flat K)).bind fun b => some (pts s flat K, b, ())
  | 0, k, n, hk, hn => by
    obtain ⟨n, rfl⟩ : ∃ m, n = m + 1 := ⟨n - 1, by omega⟩
    have hk : k = K := by omega
    subst hk
    simp only [laws_flatTo_l0, laws_flatTo_g0]
    have : decide (((k * s : Nat) : Int) < (flat.length : Int)) = false := by simp; omega
    rw [this, cond_false]
  | c + 1, k, n, hk, hn => by
    obtain ⟨n, rfl⟩ : ∃ m, n = m + 1 := ⟨n - 1, by omega⟩
    have ih := flat_loop hs hl hK hs2 m c (k + 1) n (by omega) (by omega)
    have hks : (k + 1) * s ≤ K * s := Nat.mul_le_mul_right s (by omega)
    have hks2 : (k + 1) * s = k * s + s := by rw [Nat.add_mul, Nat.one_mul]
    have hKs : K * s ≤ 1000000 * 8 := Nat.mul_le_mul hK hs2
    have h1 : k * s < flat.length := by omega
    have h2 : k * s + 1 < flat.length := by omega
    simp only [laws_flatTo_l0, laws_flatTo_g0]
    have : decide (((k * s : Nat) : Int) < (flat.length : Int)) = true := by simp; omega
    rw [this, cond_true, wrap_in (n := ((k * s : Nat) : Int) + 1) (by omega), wrap_in (n := ((k * s : Nat) : Int) + (s : Int)) (by omega)]
    rw [show ((k * s : Nat) : Int) + 1 = ((k * s + 1 : Nat) : Int) by omega, show ((k * s : Nat) : Int) + (s : Int) = (((k + 1) * s : Nat) : Int) by rw [hks2]; omega]
    rw [nth_get h1, nth_get h2]
    simp only [Option.bind_some]
    rw [lim_le (by rw [pts_len]; simp; omega)]
    simp only [Option.bind_some]
    rw [← ih, pts_succ, getD_get h1, getD_get h2]
theorem flatTo_spec (ly : Int) (flat : List Nat) (hf : flat.length ≤ 9223372036854775807) :
    (∃ l, laws_flatTo N ly flat 4665729213955833856 200 = some (l, false, ())) ∨
    ∃ s K : Nat, 2 ≤ s ∧ s ≤ 8 ∧ flat.length = K * s ∧ K ≤ 200 ∧ gogeom_Layout_Stride N ly = some (s : Int) ∧ laws_flatTo N ly flat 4665729213955833856 200 = some (pts s flat K, true, ()) ∧ ∀ x ∈ pts s flat K, In 8192 x.1 ∧ In 8192 x.2.1 := by
  unfold laws_flatTo laws_flatTo_g
  cases h1 : decide (ly < 1) with
  | true => exact .inl ⟨_, rfl⟩
  | false =>
    cases h2 : decide (ly > 8) with
    | true => exact .inl ⟨_, rfl⟩
    | false =>
      simp only [decide_eq_false_iff_not] at h1 h2
      obtain ⟨s, hs, hs2, e1, e2⟩ := strides hN hNl (ly := ly) ⟨by omega, by omega⟩
      simp only [cond_false, e1, Option.bind_some]
      rw [if_neg (by omega)]
      cases h3 : (Int.tmod (flat.length : Int) (s : Int) != 0) with
      | true => exact .inl ⟨_, rfl⟩
      | false =>
        simp only [cond_false]
        rw [wrap_in (n := (s : Int) * 200) (by omega)]
        cases h4 : decide ((flat.length : Int) > (s : Int) * 200) with
        | true => exact .inl ⟨_, rfl⟩
        | false =>
          simp only [cond_false]
          simp only [decide_eq_false_iff_not] at h4
          have hmod : flat.length % s = 0 := by
            simp only [bne_eq_false_iff_eq] at h3
            rw [Int.tmod_eq_emod_of_nonneg (by omega)] at h3
            omega
          have hl : flat.length = (flat.length / s) * s := by
            have := Nat.div_add_mod flat.length s
            rw [hmod, Nat.mul_comm] at this
            omega
          generalize flat.length / s = K at hl
          have hK : K ≤ 200 := by
            refine Nat.le_of_not_lt fun h => ?_
            have : 201 * s ≤ K * s := Nat.mul_le_mul_right s h
            omega
          have hloop := flat_loop hN hNl hs hl (by omega) hs2 4665729213955833856 K 0 N (by omega) (by omega)
          rw [show ((0 * s : Nat) : Int) = 0 by simp, show pts s flat 0 = [] from rfl] at hloop
          rw [hloop]
          rcases planeTo b13 (by decide) (N := N) (by omega) (pts s flat K) (by rw [pts_len]; omega) (by rw [pts_len]; omega) with h | ⟨h, hin⟩
          · rw [h]; exact .inl ⟨_, rfl⟩
          · rw [h]; exact .inr ⟨s, K, hs, hs2, hl, hK, e2, rfl, hin⟩
/-- The lesser of two fractions. -/
theorem least_loop (m : Nat) {R1 R2 : RT} {A1 B1 A2 B2 : Int} (a1 : Dn 4 R1.1 (A1 : Rat)) (b1 : Dn 4 R1.2.1 (B1 : Rat)) (a2 : Dn 4 R2.1 (A2 : Rat)) (b2 : Dn 4 R2.2.1 (B2 : Rat)) :
    spec_LeastRatio_l0 N (m + 3) [R1, R2] 0 R1.1.1.1 R1.1.1.2.1 R1.1.2.1 R1.2.1.1.1 R1.2.1.1.2.1 R1.2.1.2.1 = some (if A2 * B1 < A1 * B2 then R2 else R1) := by
  obtain ⟨x, e1, h1⟩ := dmul hN hNl a1 b1 (by decide)
  obtain ⟨y, e2, h2⟩ := dmul hN hNl a2 b1 (by decide)
  obtain ⟨z, e3, h3⟩ := dmul hN hNl a1 b2 (by decide)
  have c1 := dcmp hN hNl h1 h1 (by decide)
  have c2 := dcmp hN hNl h2 h3 (by decide)
  have t1 : spec_Ratio_Cmp N R1 R1 = some 0 := by
    simp only [spec_Ratio_Cmp, spec_Ratio_Cmp_g, etaY, e1, Option.bind_some, c1]
    rw [← Rat.intCast_mul, cmpq_int hN hNl, if_neg (by omega), if_pos rfl]
  have t2 : spec_Ratio_Cmp N R2 R1 = some (if A2 * B1 < A1 * B2 then -1 else if A2 * B1 = A1 * B2 then 0 else 1) := by
    simp only [spec_Ratio_Cmp, spec_Ratio_Cmp_g, etaY, e2, e3, Option.bind_some, c2]
    rw [← Rat.intCast_mul, ← Rat.intCast_mul, cmpq_int hN hNl]
  have eR : ∀ R : RT, (((R.1.1.1, R.1.1.2.1, ()), R.1.2.1, ()), ((R.2.1.1.1, R.2.1.1.2.1, ()), R.2.1.2.1, ()), ()) = R := fun _ => rfl
  have n0 : nth [R1, R2] 0 = some R1 := rfl
  have n1 : nth [R1, R2] 1 = some R2 := rfl
  have w1 : IntKind.i64.wrap (0 + 1) = 1 := wrap_in (by decide)
  have w2 : IntKind.i64.wrap (1 + 1) = 2 := wrap_in (by decide)
  have last : ∀ R : RT, spec_LeastRatio_l0 N (m + 1) [R1, R2] 2 R.1.1.1 R.1.1.2.1 R.1.2.1 R.2.1.1.1 R.2.1.1.2.1 R.2.1.2.1 = some R := fun R => rfl
  have snd : spec_LeastRatio_l0 N (m + 2) [R1, R2] 1 R1.1.1.1 R1.1.1.2.1 R1.1.2.1 R1.2.1.1.1 R1.2.1.1.2.1 R1.2.1.2.1 = some (if A2 * B1 < A1 * B2 then R2 else R1) := by
    unfold spec_LeastRatio_l0
    simp only [spec_LeastRatio_g0, spec_LeastRatio_j1, spec_LeastRatio_g1, gate_pos hN, n1, Option.bind_some, eR, t2, w2, last]
    rw [show decide ((1 : Int) < (([R1, R2] : List RT).length : Int)) = true from rfl, cond_true]
    by_cases h : A2 * B1 < A1 * B2
    · rw [if_pos h, if_pos h]; rfl
    · rw [if_neg h, if_neg h]
      split <;> rfl
  unfold spec_LeastRatio_l0
  simp only [spec_LeastRatio_g0, spec_LeastRatio_j1, spec_LeastRatio_g1, gate_pos hN, n0, Option.bind_some, eR, t1, w1, snd]
  rfl
theorem least2 {R1 R2 : RT} {A1 B1 A2 B2 : Int} (a1 : Dn 4 R1.1 (A1 : Rat)) (b1 : Dn 4 R1.2.1 (B1 : Rat)) (a2 : Dn 4 R2.1 (A2 : Rat)) (b2 : Dn 4 R2.2.1 (B2 : Rat)) :
    spec_LeastRatio N [R1, R2] = some (if A2 * B1 < A1 * B2 then R2 else R1) := by
  have h := least_loop hN hNl (N - 3) a1 b1 a2 b2
  rw [show N - 3 + 3 = N by omega] at h
  unfold spec_LeastRatio spec_LeastRatio_g
  rw [show nth [R1, R2] 0 = some R1 from rfl]
  exact h
end
/-- The fraction at a segment. -/
def nu (px py : Int) (X Y : Nat → Int) (k : Nat) : Int := num px py (X k) (Y k) (X (k + 1)) (Y (k + 1))
def de (px py : Int) (X Y : Nat → Int) (k : Nat) : Int := den px py (X k) (Y k) (X (k + 1)) (Y (k + 1))
/-- The least of the first segments' fractions. -/
def Least (px py : Int) (X Y : Nat → Int) (i : Nat) (A B : Int) : Prop := (∃ k, k + 1 < i ∧ A = nu px py X Y k ∧ B = de px py X Y k) ∧ ∀ k, k + 1 < i → A * de px py X Y k ≤ nu px py X Y k * B
section
variable {N : Nat} (hN : 0 < N) (hNl : 9223372036854775808 ≤ N) {px py : Int} {X Y : Nat → Int} {p : Pt} {l : List Pt} (hp : At p px py) (hl : ∀ (k : Nat) (h : k < l.length), At l[k] (X k) (Y k))
include hN hNl hp hl
theorem nd_ok {k : Nat} (hk : k + 1 < l.length) : 0 ≤ nu px py X Y k ∧ nu px py X Y k ≤ 1152921504606846976 ∧ 0 < de px py X Y k ∧ de px py X Y k ≤ 536870912 ∧ nu px py X Y k ≤ 536870912 * de px py X Y k := by
  have ha := hl k (by omega)
  have hb := hl (k + 1) hk
  exact numden hN hNl ha.bx ha.bY hb.bx hb.bY hp.bx hp.bY
theorem seg {k : Nat} (hk : k + 1 < l.length) {P : DP} (hP : Ex P px py) : ∃ A B R, laws_exactly N l[k] = some A ∧ laws_exactly N l[k + 1] = some B ∧ spec_SquareTo N P A B = some R ∧ Dn 4 R.1 (nu px py X Y k : Rat) ∧ Dn 4 R.2.1 (de px py X Y k : Rat) := by
  obtain ⟨A, e1, h1⟩ := exact2 hN hNl (hl k (by omega))
  obtain ⟨B, e2, h2⟩ := exact2 hN hNl (hl (k + 1) hk)
  obtain ⟨R, e3, h3, h4⟩ := squareTo hN hNl hP h1 h2
  exact ⟨A, B, R, e1, e2, e3, h3, h4⟩
/-- The law's loop over the segments. -/
theorem law_loop {P : DP} (eP : laws_exactly N p = some P) (hP : Ex P px py) (v1 : Int) (flat : List Nat) (hlen : l.length ≤ 1000000) : ∀ (c i n : Nat) (R : RT) (A B : Int), i + c = l.length → 2 ≤ i → c + 1 ≤ n →
    Dn 4 R.1 (A : Rat) → Dn 4 R.2.1 (B : Rat) → Least px py X Y i A B →
    ∃ (R' : RT) (A' B' : Int), Dn 4 R'.1 (A' : Rat) ∧ Dn 4 R'.2.1 (B' : Rat) ∧ Least px py X Y l.length A' B' ∧
      laws_FnPointLinesDistance_l1 N n v1 flat p (l, true, ()) (i : Int) R.1.1.1 R.1.1.2.1 R.1.2.1 R.2.1.1.1 R.2.1.1.2.1 R.2.1.2.1 =
        ((impl_PointLinesDistance N v1 p flat).bind fun v39 => bif v39.2 then ((laws_rootOf N R').bind fun v40 => (laws_nearTo N v39.1 v40).bind fun v41 => some v41) else some false)
  | 0, i, n, R, A, B, hi, h2, hn, hA, hB, hL => by
    obtain ⟨n, rfl⟩ : ∃ m, n = m + 1 := ⟨n - 1, by omega⟩
    have hi : i = l.length := by omega
    subst hi
    refine ⟨R, A, B, hA, hB, hL, ?_⟩
    unfold laws_FnPointLinesDistance_l1
    simp only [laws_FnPointLinesDistance_g1]
    rw [show decide ((l.length : Int) < (l.length : Int)) = false by simp, cond_false]
  | c + 1, i, n, R, A, B, hi, h2, hn, hA, hB, hL => by
    obtain ⟨n, rfl⟩ : ∃ m, n = m + 1 := ⟨n - 1, by omega⟩
    obtain ⟨k, rfl⟩ : ∃ k, i = k + 2 := ⟨i - 2, by omega⟩
    have hk : k + 1 + 1 < l.length := by omega
    obtain ⟨A1, B1, R1, e1, e2, e3, r1, r2⟩ := seg hN hNl hp hl hk hP
    have hle := least2 hN hNl hA hB r1 r2
    have b0 := (nd_ok hN hNl hp hl hk).2.2.1
    have hstep : laws_FnPointLinesDistance_l1 N (n + 1) v1 flat p (l, true, ()) ((k + 2 : Nat) : Int) R.1.1.1 R.1.1.2.1 R.1.2.1 R.2.1.1.1 R.2.1.1.2.1 R.2.1.2.1 =
        (fun S : RT => laws_FnPointLinesDistance_l1 N n v1 flat p (l, true, ()) ((k + 2 + 1 : Nat) : Int) S.1.1.1 S.1.1.2.1 S.1.2.1 S.2.1.1.1 S.2.1.1.2.1 S.2.1.2.1) (if nu px py X Y (k + 1) * B < A * de px py X Y (k + 1) then R1 else R) := by
      conv => lhs; unfold laws_FnPointLinesDistance_l1
      simp only [laws_FnPointLinesDistance_g1]
      rw [show decide (((k + 2 : Nat) : Int) < (l.length : Int)) = true by simp; omega, cond_true]
      have eta : (p.1, p.2.1, ()) = p := rfl
      rw [eta, eP, wrap_in (n := ((k + 2 : Nat) : Int) - 1) (by omega), wrap_in (n := ((k + 2 : Nat) : Int) + 1) (by omega), show ((k + 2 : Nat) : Int) - 1 = ((k + 1 : Nat) : Int) by omega, show ((k + 2 : Nat) : Int) + 1 = ((k + 2 + 1 : Nat) : Int) by omega,
        chk_nat (show k + 1 < l.length by omega), chk_nat (show k + 2 < l.length by omega)]
      simp only [Option.bind_some]
      rw [List.getElem?_eq_getElem (show k + 1 < l.length by omega), List.getElem?_eq_getElem (show k + 2 < l.length by omega)]
      simp only [Option.bind_some, e1]
      rw [show l[k + 2] = l[k + 1 + 1] from rfl, e2]
      simp only [Option.bind_some, e3]
      have eR : (((R.1.1.1, R.1.1.2.1, ()), R.1.2.1, ()), ((R.2.1.1.1, R.2.1.1.2.1, ()), R.2.1.2.1, ()), ()) = R := rfl
      rw [eR, hle]
      rfl
    rw [hstep]
    by_cases hlt : nu px py X Y (k + 1) * B < A * de px py X Y (k + 1)
    · rw [if_pos hlt]
      refine law_loop eP hP v1 flat hlen c (k + 2 + 1) n R1 (nu px py X Y (k + 1)) (de px py X Y (k + 1)) (by omega) (by omega) (by omega) r1 r2 ⟨⟨k + 1, by omega, rfl, rfl⟩, fun j hj => ?_⟩
      rcases Nat.lt_or_ge (j + 1) (k + 2) with hj2 | hj2
      · have h1 := hL.2 j hj2
        obtain ⟨⟨k0, hk0, ea, eb⟩, _⟩ := hL
        have bB : 0 < B := by rw [eb]; exact (nd_ok hN hNl hp hl (k := k0) (by omega)).2.2.1
        have dj := (nd_ok hN hNl hp hl (k := j) (by omega)).2.2.1
        -- n' B < A d', A dj <= nj B  ==>  n' dj <= nj d'
        refine Int.not_lt.1 fun hbad => ?_
        have s1 := Int.mul_lt_mul_of_pos_right hlt dj
        have s2 := Int.mul_le_mul_of_nonneg_right h1 (Int.le_of_lt b0)
        have s3 := Int.mul_lt_mul_of_pos_right hbad bB
        have t1 : nu px py X Y (k + 1) * B * de px py X Y j = nu px py X Y (k + 1) * de px py X Y j * B := by grind
        have t2 : A * de px py X Y (k + 1) * de px py X Y j = A * de px py X Y j * de px py X Y (k + 1) := by grind
        have t3 : nu px py X Y j * B * de px py X Y (k + 1) = nu px py X Y j * de px py X Y (k + 1) * B := by grind
        omega
      · have : j = k + 1 := by omega
        subst this
        exact Int.le_refl _
    · rw [if_neg hlt]
      refine law_loop eP hP v1 flat hlen c (k + 2 + 1) n R A B (by omega) (by omega) (by omega) hA hB ⟨?_, fun j hj => ?_⟩
      · obtain ⟨⟨k0, hk0, ea, eb⟩, _⟩ := hL
        exact ⟨k0, by omega, ea, eb⟩
      · rcases Nat.lt_or_ge (j + 1) (k + 2) with hj2 | hj2
        · exact hL.2 j hj2
        · have : j = k + 1 := by omega
          subst this
          omega
end
/-- The ratio, as a number. -/
def Qk (px py : Int) (X Y : Nat → Int) (k : Nat) : Rat := (nu px py X Y k : Rat) / (de px py X Y k : Rat)
theorem ratio_le {a b c d : Int} (hb : 0 < b) (hd : 0 < d) (h : a * d ≤ c * b) : (a : Rat) / (b : Rat) ≤ (c : Rat) / (d : Rat) := by
  have b0 : (0 : Rat) < (b : Rat) := by have := (intCast_lt (a := 0) (b := b)).2 hb; exact this
  have d0 : (0 : Rat) < (d : Rat) := by have := (intCast_lt (a := 0) (b := d)).2 hd; exact this
  have e1 : (a : Rat) / (b : Rat) * (b : Rat) = (a : Rat) := Rat.div_mul_cancel (by grind)
  have e2 : (c : Rat) / (d : Rat) * (d : Rat) = (c : Rat) := Rat.div_mul_cancel (by grind)
  have h' : (a : Rat) * (d : Rat) ≤ (c : Rat) * (b : Rat) := by
    have := (intCast_le (a := a * d) (b := c * b)).2 h
    rw [Rat.intCast_mul, Rat.intCast_mul] at this
    exact this
  generalize (a : Rat) / (b : Rat) = u at *
  generalize (c : Rat) / (d : Rat) = v at *
  refine Rat.not_lt.1 fun hlt => ?_
  have h1 := (ratmul_lt b0).2 hlt
  have h2 := (ratmul_lt d0).2 h1
  rw [← e1, ← e2] at h'
  grind
theorem num_le_start (px py ax ay bx bY : Int) : num px py ax ay bx bY ≤ sq ax ay px py * den px py ax ay bx bY := by
  have g3 := sq_ge ax ay bx bY
  unfold num den
  split
  · omega
  · rename_i q
    split
    · rename_i q2
      have e : sq bx bY px py = sq ax ay px py - 2 * dt ax ay bx bY ax ay px py + sq ax ay bx bY := by unfold sq dt; grind
      omega
    · have hl : cr ax ay bx bY px py * cr ax ay bx bY px py + dt ax ay bx bY ax ay px py * dt ax ay bx bY ax ay px py = sq ax ay bx bY * sq ax ay px py := by unfold cr sq dt; grind
      have hd := sq_nn (dt ax ay bx bY ax ay px py)
      rw [Int.mul_comm (sq ax ay px py)]
      omega
/-- What the code's loop keeps. -/
def InvV (px py : Int) (X Y : Nat → Int) (t : Nat) (V : Rat) : Prop :=
  (NearR V (sq (X 0) (Y 0) px py : Rat) ∨ ∃ k, k < t ∧ NearR V (Qk px py X Y k)) ∧ ∀ k, k < t → ∃ d, NearR d (Qk px py X Y k) ∧ V ≤ d
theorem co_take {flat : List Nat} {a : Nat} (h : a + 1 < flat.length) (b : Nat) (hb : b = 2) : Co ((flat.drop a).take b) (flat.getD a 0, flat.getD (a + 1) 0, ()) := by
  subst hb
  constructor
  · rw [show (0 : Int) = ((0 : Nat) : Int) from rfl, nth_nat, List.getElem?_take_of_lt (by decide), List.getElem?_drop, List.getElem?_eq_getElem (by omega)]
    show some flat[a + 0] = some (flat.getD a 0)
    rw [getD_get (by omega)]; rfl
  · rw [show (1 : Int) = ((1 : Nat) : Int) from rfl, nth_nat, List.getElem?_take_of_lt (by decide), List.getElem?_drop, List.getElem?_eq_getElem (by omega)]
    show some flat[a + 1] = some (flat.getD (a + 1) 0)
    rw [getD_get (by omega)]
section
variable {N : Nat} (hN : 0 < N) (hNl : 9223372036854775808 ≤ N) {px py : Int} {X Y : Nat → Int} {p : Pt} {s K : Nat} {flat : List Nat} (hp : At p px py)
  (hl : ∀ (k : Nat) (h : k < (pts s flat K).length), At (pts s flat K)[k] (X k) (Y k)) (hs : 2 ≤ s) (hs2 : s ≤ 8) (hfl : flat.length = K * s) (hK : 2 ≤ K) (hK2 : K ≤ 200)
include hN hNl hp hl hs hs2 hfl hK hK2
theorem at_k {k : Nat} (h : k < K) : At (flat.getD (k * s) 0, flat.getD (k * s + 1) 0, ()) (X k) (Y k) ∧ k * s + 1 < flat.length := by
  have := hl k (by rw [pts_len]; exact h)
  rw [pts_get] at this
  refine ⟨this, ?_⟩
  have h1 : (k + 1) * s ≤ K * s := Nat.mul_le_mul_right s (by omega)
  rw [Nat.add_mul, Nat.one_mul] at h1
  omega
theorem line_loop {m : List Nat} (hm : Co m p) : ∀ (c t n : Nat) (V : Nat), t + c + 1 = K → c + 1 ≤ n → fin V = true → InvV px py X Y t (fv V) →
    ∃ V', xy_DistanceFromPointToLineString_l0 N n m flat (s : Int) V ((t * s : Nat) : Int) = some V' ∧ fin V' = true ∧ InvV px py X Y (K - 1) (fv V')
  | 0, t, n, V, ht, hn, fV, hI => by
    obtain ⟨n, rfl⟩ : ∃ m, n = m + 1 := ⟨n - 1, by omega⟩
    have ht : t = K - 1 := by omega
    subst ht
    refine ⟨V, ?_, fV, hI⟩
    have e : (K - 1) * s + s = K * s := by rw [← Nat.succ_mul]; congr 1 <;> omega
    have hb : K * s ≤ 200 * 8 := Nat.mul_le_mul hK2 hs2
    unfold xy_DistanceFromPointToLineString_l0
    simp only [xy_DistanceFromPointToLineString_g0]
    rw [wrap_in (n := (flat.length : Int) - (s : Int)) (by omega)]
    have : decide ((((K - 1) * s : Nat) : Int) < (flat.length : Int) - (s : Int)) = false := by simp only [decide_eq_false_iff_not]; omega
    rw [this, cond_false]
  | c + 1, t, n, V, ht, hn, fV, hI => by
    obtain ⟨n, rfl⟩ : ∃ m, n = m + 1 := ⟨n - 1, by omega⟩
    have hb : K * s ≤ 200 * 8 := Nat.mul_le_mul hK2 hs2
    obtain ⟨a1, l1⟩ := at_k hN hNl hp hl hs hs2 hfl hK hK2 (k := t) (by omega)
    obtain ⟨a2, l2⟩ := at_k hN hNl hp hl hs hs2 hfl hK hK2 (k := t + 1) (by omega)
    have e1 : (t + 1) * s = t * s + s := by rw [Nat.add_mul, Nat.one_mul]
    obtain ⟨d, ed, fd, nd⟩ := toLine hN hNl hm (co_take l1 2 rfl) (co_take l2 2 rfl) hp a1 a2
    have hstep : xy_DistanceFromPointToLineString_l0 N (n + 1) m flat (s : Int) V ((t * s : Nat) : Int) = xy_DistanceFromPointToLineString_l0 N n m flat (s : Int) (if fv d < fv V then d else V) (((t + 1) * s : Nat) : Int) := by
      conv => lhs; unfold xy_DistanceFromPointToLineString_l0
      simp only [xy_DistanceFromPointToLineString_g0, xy_DistanceFromPointToLineString_j1, xy_DistanceFromPointToLineString_g1, gate_pos hN]
      rw [wrap_in (n := (flat.length : Int) - (s : Int)) (by omega), wrap_in (n := ((t * s : Nat) : Int) + 2) (by omega), wrap_in (n := ((t * s : Nat) : Int) + (s : Int)) (by omega), wrap_in (n := ((t * s : Nat) : Int) + (s : Int) + 2) (by omega)]
      have : decide (((t * s : Nat) : Int) < (flat.length : Int) - (s : Int)) = true := by simp only [decide_eq_true_eq]; omega
      rw [this, cond_true, chk2_int (by omega), chk2_int (by omega)]
      simp only [Option.bind_some]
      rw [show (((t * s : Nat) : Int)).toNat = t * s by omega, show (((t * s : Nat) : Int) + 2).toNat - t * s = 2 by omega, show (((t * s : Nat) : Int) + (s : Int)).toNat = (t + 1) * s by omega,
        show (((t * s : Nat) : Int) + (s : Int) + 2).toNat - (t + 1) * s = 2 by omega, ed]
      simp only [Option.bind_some]
      rw [flt_fv fd fV, show ((t * s : Nat) : Int) + (s : Int) = (((t + 1) * s : Nat) : Int) by omega]
      by_cases hlt : fv d < fv V
      · simp only [hlt, decide_true, cond_true, if_true]
      · simp only [hlt, decide_false, cond_false, if_false]
    rw [hstep]
    have ndq : NearR (fv d) (Qk px py X Y t) := nd
    by_cases hlt : fv d < fv V
    · rw [if_pos hlt]
      refine line_loop hm c (t + 1) n d (by omega) (by omega) fd ⟨.inr ⟨t, by omega, ndq⟩, fun k hk => ?_⟩
      rcases Nat.lt_or_ge k t with h | h
      · obtain ⟨d', h1, h2⟩ := hI.2 k h
        exact ⟨d', h1, by grind⟩
      · have : k = t := by omega
        subst this
        exact ⟨fv d, ndq, Rat.le_refl⟩
    · rw [if_neg hlt]
      refine line_loop hm c (t + 1) n V (by omega) (by omega) fV ⟨?_, fun k hk => ?_⟩
      · rcases hI.1 with h | ⟨k, hk, h⟩
        · exact .inl h
        · exact .inr ⟨k, by omega, h⟩
      · rcases Nat.lt_or_ge k t with h | h
        · exact hI.2 k h
        · have : k = t := by omega
          subst this
          exact ⟨fv d, ndq, by grind⟩
theorem near_least {V : Rat} {A B : Int} (hI : InvV px py X Y (K - 1) V) (hL : Least px py X Y K A B) : NearR V ((A : Rat) / (B : Rat)) := by
  have ok := fun {k : Nat} (h : k + 1 < K) => nd_ok hN hNl hp hl (k := k) (by rw [pts_len]; exact h)
  obtain ⟨⟨k0, hk0, ea, eb⟩, hmin⟩ := hL
  have bB : 0 < B := by rw [eb]; exact (ok hk0).2.2.1
  have le_q : ∀ k, k + 1 < K → (A : Rat) / (B : Rat) ≤ Qk px py X Y k := fun k hk => ratio_le bB (ok hk).2.2.1 (hmin k hk)
  have q0 : Qk px py X Y 0 ≤ (sq (X 0) (Y 0) px py : Rat) := by
    have h := num_le_start px py (X 0) (Y 0) (X 1) (Y 1)
    have := ratio_le (a := nu px py X Y 0) (b := de px py X Y 0) (c := sq (X 0) (Y 0) px py) (d := 1) (ok (by omega)).2.2.1 (by decide) (by rw [Int.mul_one]; exact h)
    rw [show ((1 : Int) : Rat) = 1 from rfl, Rat.div_def (sq (X 0) (Y 0) px py : Rat)] at this
    have e : (1 : Rat)⁻¹ = 1 := by decide +kernel
    rw [e, Rat.mul_one] at this
    exact this
  have hnn : 0 ≤ V := by
    rcases hI.1 with h | ⟨_, _, h⟩ <;> exact h.1
  refine ⟨hnn, fun j hj => ⟨fun h => ?_, fun h => ?_⟩⟩
  · rcases hI.1 with hv | ⟨k, hk, hv⟩
    · exact (hv.2 j hj).1 (Rat.le_trans h (Rat.le_trans (le_q 0 (by omega)) q0))
    · exact (hv.2 j hj).1 (Rat.le_trans h (le_q k (by omega)))
  · obtain ⟨d, hd, hle⟩ := hI.2 k0 (by omega)
    have e : Qk px py X Y k0 = (A : Rat) / (B : Rat) := by rw [ea, eb]; rfl
    have := (hd.2 j hj).2 (by rw [e]; exact h)
    grind
theorem code {ly : Int} (hst : gogeom_Layout_Stride N ly = some (s : Int)) : ∃ V, impl_PointLinesDistance N ly p flat = some (V, true) ∧ fin V = true ∧ InvV px py X Y (K - 1) (fv V) := by
  have hb : K * s ≤ 200 * 8 := Nat.mul_le_mul hK2 hs2
  have hb2 : 2 * 2 ≤ K * s := Nat.mul_le_mul hK hs
  obtain ⟨a1, l1⟩ := at_k hN hNl hp hl hs hs2 hfl hK hK2 (k := 0) (by omega)
  have hm : Co [p.1, p.2.1] p := ⟨rfl, rfl⟩
  rw [Nat.zero_mul] at a1 l1
  obtain ⟨v, ev, fv', nv⟩ := dist2 hN hNl hm (co_take l1 2 rfl) hp a1
  obtain ⟨V, eV, fV, hI⟩ := line_loop hN hNl hp hl hs hs2 hfl hK hK2 hm (K - 1) 0 N v (by omega) (by omega) fv' ⟨.inl nv, fun k hk => by omega⟩
  refine ⟨V, ?_, fV, hI⟩
  rw [show ((0 * s : Nat) : Int) = 0 by simp] at eV
  have hlt : decide (((flat.length : Int) : Int) < 2) = false := by simp only [decide_eq_false_iff_not]; omega
  simp only [impl_PointLinesDistance, impl_PointLinesDistance_g, impl_coord, impl_coord_g, Option.bind_some, xy_DistanceFromPointToLineString, xy_DistanceFromPointToLineString_g, hlt, cond_false]
  rw [chk2_int (l := 0) (h := 2) (by omega)]
  simp only [Option.bind_some]
  rw [show ((0 : Int)).toNat = 0 from rfl, show ((2 : Int)).toNat - 0 = 2 from rfl, ev]
  simp only [Option.bind_some, hst, eV]
end
theorem law2 {N : Nat} (hN : 0 < N) (hNl : 9223372036854775808 ≤ N) (ly : Int) (p : Pt) (flat : List Nat) (lp : p.1 < 18446744073709551616 ∧ p.2.1 < 18446744073709551616) (lf : ∀ x ∈ flat, x < 18446744073709551616) :
    laws_FnPointLinesDistance N ly p flat = some true := by
  unfold laws_FnPointLinesDistance laws_FnPointLinesDistance_g
  cases h1 : decide (((flat.length : Int) : Int) > 2147483647) with
  | true => rfl
  | false =>
    simp only [decide_eq_false_iff_not] at h1
    simp only [cond_false, laws_FnPointLinesDistance_j0, laws_FnPointLinesDistance_g0, gate_pos hN]
    rcases flatTo_spec hN hNl ly flat (by omega) with ⟨l, h⟩ | ⟨s, K, hs, hs2, hfl, hK2, hst, h, hin⟩
    · rw [h]; rfl
    · rw [h]
      simp only [Option.bind_some, Bool.not_true, cond_false]
      cases h2 : decide ((((pts s flat K).length : Int) : Int) < 2) with
      | true => rfl
      | false =>
        simp only [cond_false]
        simp only [decide_eq_false_iff_not, pts_len] at h2
        have eta : (p.1, p.2.1, ()) = p := rfl
        rw [eta]
        rcases planeTo b13 (by decide) (N := N) (by omega) [p] (by simp; omega) (by simp) with h3 | ⟨h3, hp⟩
        · rw [h3]; rfl
        · rw [h3]
          obtain ⟨⟨px, w1, b1, b2⟩, ⟨py, w2, b3, b4⟩⟩ := hp p (by simp)
          have hp : At p px py := ⟨w1, w2, by omega, by omega, lp.1, lp.2⟩
          have ex : ∀ k, ∃ xy : Int × Int, ∀ (h : k < (pts s flat K).length), At (pts s flat K)[k] xy.1 xy.2 := fun k => by
            by_cases hk : k < (pts s flat K).length
            · obtain ⟨⟨x, u1, c1, c2⟩, ⟨y, u2, c3, c4⟩⟩ := hin _ (List.getElem_mem hk)
              refine ⟨(x, y), fun _ => ⟨u1, u2, by omega, by omega, ?_, ?_⟩⟩
              all_goals
                rw [pts_get]
                have hk2 : k < K := by rw [pts_len] at hk; exact hk
                have h5 : (k + 1) * s ≤ K * s := Nat.mul_le_mul_right s (by omega)
                rw [Nat.add_mul, Nat.one_mul] at h5
              · show flat.getD (k * s) 0 < _
                rw [getD_get (by omega)]
                exact lf _ (List.getElem_mem _)
              · show flat.getD (k * s + 1) 0 < _
                rw [getD_get (by omega)]
                exact lf _ (List.getElem_mem _)
            · exact ⟨(0, 0), fun h => absurd h hk⟩
          obtain ⟨XY, hl⟩ : ∃ XY : Nat → Int × Int, ∀ k (h : k < (pts s flat K).length), At (pts s flat K)[k] (XY k).1 (XY k).2 := ⟨fun k => Classical.choose (ex k), fun k => Classical.choose_spec (ex k)⟩
          have hK : 2 ≤ K := by omega
          obtain ⟨P, eP, hP⟩ := exact2 hN hNl hp
          obtain ⟨A, B, R, e1, e2, e3, r1, r2⟩ := seg hN hNl hp (X := fun k => (XY k).1) (Y := fun k => (XY k).2) hl (k := 0) (by rw [pts_len]; omega) hP
          have hL0 : Least px py (fun k => (XY k).1) (fun k => (XY k).2) 2 (nu px py (fun k => (XY k).1) (fun k => (XY k).2) 0) (de px py (fun k => (XY k).1) (fun k => (XY k).2) 0) := by
            refine ⟨⟨0, by omega, rfl, rfl⟩, fun k hk => ?_⟩
            have : k = 0 := by omega
            subst this
            exact Int.le_refl _
          obtain ⟨R', A', B', d1, d2, hL, hloop⟩ := law_loop hN hNl hp (X := fun k => (XY k).1) (Y := fun k => (XY k).2) hl eP hP ly flat (by rw [pts_len]; omega) (K - 2) 2 N R _ _ (by rw [pts_len]; omega) (by omega) (by omega) r1 r2
            hL0
          obtain ⟨V, eV, fV, hI⟩ := code hN hNl hp (X := fun k => (XY k).1) (Y := fun k => (XY k).2) hl hs hs2 hfl hK hK2 hst
          rw [pts_len] at hL
          have hnear := near_least hN hNl hp (X := fun k => (XY k).1) (Y := fun k => (XY k).2) hl hs hs2 hfl hK hK2 hI hL
          obtain ⟨⟨k0, hk0, ea, eb⟩, _⟩ := hL
          have ok := nd_ok hN hNl hp (X := fun k => (XY k).1) (Y := fun k => (XY k).2) hl (k := k0) (by rw [pts_len]; exact hk0)
          rw [← ea, ← eb] at ok
          obtain ⟨w, ew, fw, nw⟩ := rootOf hN hNl (by decide) d1 d2 ⟨ok.1, ok.2.1⟩ ⟨ok.2.2.1, by omega⟩
          obtain ⟨q1, q2⟩ := ratio_ok hN hNl ok.1 ok.2.2.1 ok.2.2.2.2
          have hnt := near_of hN hNl fV fw hnear nw q1 q2
          simp only [Option.bind_some, Bool.not_true, cond_false, eP]
          rw [chk_int (i := 0) (by rw [pts_len]; omega), chk_int (i := 1) (by rw [pts_len]; omega)]
          simp only [Option.bind_some]
          rw [show ((0 : Int)).toNat = 0 from rfl, show ((1 : Int)).toNat = 1 from rfl, List.getElem?_eq_getElem (by rw [pts_len]; omega), List.getElem?_eq_getElem (by rw [pts_len]; omega)]
          simp only [Option.bind_some, e1]
          rw [e2]
          simp only [Option.bind_some, e3]
          rw [show (2 : Int) = ((2 : Nat) : Int) from rfl]
          refine hloop.trans ?_
          simp only [eV, Option.bind_some, cond_true, ew, hnt]
end Go.Proofs.Ytlbbldhbggfoaaa.PvPointLines
