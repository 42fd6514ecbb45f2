/- The long side of two short ones, and unit vectors: how near they are. -/
import Derived.Test.YtgipjhgnnppjgaaAv32
import Derived.Test.YtgipjhgnnppjgaaFl10
import Derived.Test.YtgipjhgnnppjgaaFl14
set_option linter.unusedVariables false
set_option linter.unusedSectionVars false
namespace Go.Av
open Go
theorem one_wh : Wh 4607182418800017408 1 := wh_lit _ _ (by decide +kernel) (by decide +kernel) (by decide +kernel) (by decide)
theorem rep_P2 {i : Int} (h : -1074 ≤ i) : Rep (P2 i) := ⟨1, i, by decide, h, by grind⟩
theorem rep_nat {n : Nat} (h : n ≤ 9007199254740992) : Rep (n : Rat) := by
  have := rep_int (n := (n : Int)) (by omega)
  exact this
theorem P2m1 : P2 (-1) = 1 / 2 := by unfold P2; decide +kernel
theorem P2_big {i : Int} (hi : 100 ≤ i) : (1267650600228229401496703205376 : Rat) ≤ P2 i := by
  have h : P2 100 = ((2 ^ 100 : Nat) : Rat) := P2_nat 100
  have h2 : ((2 ^ 100 : Nat) : Rat) = 1267650600228229401496703205376 := by decide +kernel
  rw [← h2, ← h]
  exact P2_le hi
theorem lt_of_big {v : Rat} {i : Int} (h : v ≤ 633825300114114700748351602688) (hi : 100 ≤ i) : v < P2 i := by
  have := P2_big hi
  grind
theorem P2_lit {i : Int} {q : Rat} (h : (2 : Rat) ^ i = q) : P2 i = q := h
theorem rep_lit {q : Rat} (i : Int) (hi : -1074 ≤ i) (h : (2 : Rat) ^ i = q) : Rep q := by
  rw [← P2_lit h]; exact rep_P2 hi
/-- A literal that is a power of two. -/
theorem lit_P2 {x : Nat} (n : Nat) (e : Int) (h : ival x = ((2 ^ n : Nat) : Int)) (he : (n : Int) + -1074 = e) : fv x = P2 e := by
  unfold fv
  rw [h, ← he, P2_add, P2_nat]
  rfl
theorem Ap.up2 {x v k : Rat} (h : Ap x v k) (hk : k ≤ 100) : ab x ≤ 2 * ab v := by
  have h1 := h.up
  have m : k * dl ≤ 1 := by
    have := Rat.mul_le_mul_of_nonneg_right hk (Rat.le_of_lt dl_pos)
    have := dl_small; have := dl_pos; grind
  have := Rat.mul_le_mul_of_nonneg_right m (ab_nonneg v)
  grind
theorem Ap.down2 {x v k : Rat} (h : Ap x v k) (hk : k ≤ 100) : ab v ≤ 2 * ab x := by
  have h1 := h.down
  have m : k * dl ≤ 1 / 2 := by
    have := Rat.mul_le_mul_of_nonneg_right hk (Rat.le_of_lt dl_pos)
    have := dl_small; have := dl_pos; grind
  have := Rat.mul_le_mul_of_nonneg_right m (ab_nonneg v)
  grind
theorem hyp_core {big small : Nat} (hb : fin big = true) (hs : fin small = true) (h0 : 0 ≤ fv small) (h1 : fv small ≤ fv big) (h2 : 1 / 2 ≤ fv big) (h3 : fv big ≤ 2147483648) (h4 : fv small = 0 ∨ 1 / 2 ≤ fv small) :
    ∃ h, ((Ieee.double.div small big).bind fun r => (Ieee.double.mul r r).bind fun m => (Ieee.double.add m 0x3FF0000000000000).bind fun a => (fsqrt a).bind fun s => Ieee.double.mul s big) = some h ∧ fin h = true ∧
      1 / 2 ≤ fv h ∧ fv h ≤ 4294967296 ∧ Ap (fv h * fv h) (fv small * fv small + fv big * fv big) 14 := by
  have hbne : fv big ≠ 0 := by grind
  have hV : fv small / fv big * fv big = fv small := Rat.div_mul_cancel hbne
  generalize fv small / fv big = V at hV
  have V0 : 0 ≤ V := by
    refine Rat.not_lt.1 fun h => ?_
    have := (ratmul_lt (show (0 : Rat) < fv big by grind)).2 h
    grind
  have V1 : V ≤ 1 := by
    refine Rat.not_lt.1 fun h => ?_
    have := (ratmul_lt (show (0 : Rat) < fv big by grind)).2 h
    grind
  have p32 : P2 (-32) = 1 / 4294967296 := P2_lit (by decide +kernel)
  have V2 : V = 0 ∨ P2 (-32) ≤ V := by
    rcases h4 with h4 | h4
    · left
      rw [h4] at hV
      rcases Rat.mul_eq_zero.1 hV with h | h
      · exact h
      · exact absurd h hbne
    · right
      refine Rat.not_lt.1 fun h => ?_
      have := (ratmul_lt (show (0 : Rat) < fv big by grind)).2 h
      rw [p32] at this
      grind
  have rep0 : Rep 0 := ⟨0, 0, by decide, by decide, by rw [P2_zero]; grind⟩
  have rep1 : Rep 1 := rep_nat (n := 1) (by decide)
  have rep2 : Rep 2 := rep_nat (n := 2) (by decide)
  have pm : ∀ i : Int, -900 ≤ i → P2 (-900) ≤ P2 i := fun i hi => P2_le hi
  obtain ⟨r, er, hr⟩ := div_rnq hs hb hbne hV (by rw [ab_of_nonneg V0]; exact lt_of_big (by grind) (by decide))
  have r0 := hr.lo 0 rep0 V0
  have r1 := hr.hi 1 rep1 V1
  have r2 : fv r = 0 ∨ P2 (-32) ≤ fv r := by
    rcases V2 with h | h
    · left; rw [h] at hr; exact hr.exact rep0
    · right; exact hr.lo _ (rep_P2 (by decide)) h
  have ar := hr.ap (by rcases V2 with h | h; · exact .inl h
                       · right; rw [ab_of_nonneg V0]; exact Rat.le_trans (pm _ (by decide)) h)
  have rr0 : 0 ≤ fv r * fv r := Rat.mul_nonneg r0 r0
  have rr1 : fv r * fv r ≤ 1 := by have := Rat.mul_le_mul_of_nonneg_left r1 r0; grind
  obtain ⟨m, em, hm⟩ := mul_rnd hr.fin hr.fin (by rw [ab_of_nonneg rr0]; exact lt_of_big (by grind) (by decide))
  have m0 := hm.lo 0 rep0 rr0
  have m1 := hm.hi 1 rep1 rr1
  have am := hm.ap (by
    rcases r2 with h | h
    · left; rw [h]; grind
    · right
      rw [ab_of_nonneg rr0]
      have q1 := Rat.mul_le_mul_of_nonneg_left h r0
      have q2 := Rat.mul_le_mul_of_nonneg_right h (Rat.le_of_lt (P2_pos (-32)))
      rw [← P2_add] at q2
      exact Rat.le_trans (pm _ (by decide)) (Rat.le_trans q2 q1))
  have o1 : fv 4607182418800017408 = 1 := one_wh.2
  obtain ⟨a, ea, ha⟩ := add_rnd hm.fin one_wh.1 (by rw [o1, ab_of_nonneg (by grind)]; exact lt_of_big (by grind) (by decide))
  rw [o1] at ha
  have a0 := ha.lo 1 rep1 (by grind)
  have a1 := ha.hi 2 rep2 (by grind)
  have aa := ha.ap (by right; rw [ab_of_nonneg (by grind)]; have : P2 (-900) ≤ P2 0 := pm _ (by decide); rw [P2_zero] at this; grind)
  obtain ⟨s, es, hsq⟩ := sqrt_sqr ha.fin (by grind) (lt_of_big (by grind) (by decide))
  have s0 := hsq.lo 1 rep1 (by decide) (by grind)
  have s1 := hsq.hi 2 rep2 (by decide) (by grind)
  have as := hsq.ap a0
  have sb0 : 1 / 2 ≤ fv s * fv big := by have := Rat.mul_le_mul_of_nonneg_right s0 (show (0 : Rat) ≤ fv big by grind); grind
  have sb1 : fv s * fv big ≤ 4294967296 := by
    have q1 := Rat.mul_le_mul_of_nonneg_right s1 (show (0 : Rat) ≤ fv big by grind)
    grind
  obtain ⟨h, eh, hh⟩ := mul_rnd hsq.fin hb (by rw [ab_of_nonneg (by grind)]; exact lt_of_big (by grind) (by decide))
  have hhalf : Rep (1 / 2) := rep_lit (-1) (by decide) (by decide +kernel)
  have b0 := hh.lo _ hhalf sb0
  have b1 := hh.hi 4294967296 (rep_nat (n := 4294967296) (by decide)) sb1
  have ah := hh.ap (by right; rw [ab_of_nonneg (by grind)]; have : P2 (-900) ≤ P2 (-1) := pm _ (by decide); rw [P2m1] at this; grind)
  refine ⟨h, ?_, hh.fin, b0, b1, ?_⟩
  · simp only [er, em, ea, es, Option.bind_some]
    exact eh
  · have c1 : Ap (fv r * fv r) (V * V) 3 := (ar.mul ar (by decide) (by decide) (by decide) (by decide)).mono (by decide +kernel)
    have c2 : Ap (fv m) (V * V) 5 := (am.trans c1 (by decide) (by decide +kernel) (by decide +kernel) (by decide +kernel)).mono (by decide +kernel)
    have c3 : Ap (fv m + 1) (V * V + 1) 5 := c2.add ((Ap.refl 1).mono (by decide +kernel)) (Rat.mul_nonneg V0 V0) (by decide)
    have c4 : Ap (fv a) (V * V + 1) 7 := (aa.trans c3 (by decide) (by decide +kernel) (by decide +kernel) (by decide +kernel)).mono (by decide +kernel)
    have c5 : Ap (fv s * fv s) (V * V + 1) 9 := (as.trans c4 (by decide) (by decide +kernel) (by decide +kernel) (by decide +kernel)).mono (by decide +kernel)
    have c6 : Ap (fv s * fv s * (fv big * fv big)) ((V * V + 1) * (fv big * fv big)) 10 := (c5.mul (Ap.refl _) (by decide +kernel) (by decide +kernel) (by decide +kernel) (by decide +kernel)).mono (by decide +kernel)
    have c7 : Ap (fv h * fv h) (fv s * fv big * (fv s * fv big)) 3 := (ah.mul ah (by decide) (by decide) (by decide) (by decide)).mono (by decide +kernel)
    rw [show fv s * fv big * (fv s * fv big) = fv s * fv s * (fv big * fv big) by grind] at c7
    have c8 := (c7.trans c6 (by decide +kernel) (by decide +kernel) (by decide +kernel) (by decide +kernel)).mono (show (3 : Rat) + 10 + 1 ≤ 14 by decide +kernel)
    have e : (V * V + 1) * (fv big * fv big) = fv small * fv small + fv big * fv big := by rw [← hV]; grind
    rw [e] at c8
    exact c8
theorem zero_of_fv {x : Nat} (h : fv x = 0) : x % 9223372036854775808 = 0 := by
  have h0 : fv x = fv 0 := by rw [h]; exact wh_zero.2.symm
  have hk := fv_inj.1 h0
  have e : ikey 0 = 0 := rfl
  rw [e] at hk
  unfold ikey rung at hk
  split at hk <;> omega
theorem hypot_ap {x y : Nat} (hx : fin x = true) (hy : fin y = true) (b1 : fv x = 0 ∨ 1 / 2 ≤ ab (fv x)) (b2 : ab (fv x) ≤ 2147483648) (b3 : fv y = 0 ∨ 1 / 2 ≤ ab (fv y)) (b4 : ab (fv y) ≤ 2147483648)
    (h0 : ¬ (fv x = 0 ∧ fv y = 0)) : ∃ h, fhypot x y = some h ∧ fin h = true ∧ 1 / 2 ≤ fv h ∧ fv h ≤ 4294967296 ∧ Ap (fv h * fv h) (fv x * fv x + fv y * fv y) 14 := by
  have e1 : x % 2 ^ 63 = fabs x := rfl
  have e2 : y % 2 ^ 63 = fabs y := rfl
  have l1 : fabs x < 0x7FF0000000000000 := by unfold fin rung at hx; unfold fabs; simp at hx; omega
  have l2 : fabs y < 0x7FF0000000000000 := by unfold fin rung at hy; unfold fabs; simp at hy; omega
  have z1 : ∀ v : Nat, fabs v = 0 → fv v = 0 := fun v h => by
    have := fabs_fv v
    rw [h, wh_zero.2] at this
    exact ab_zero_iff.1 (by rw [← this]; rfl)
  have f1 : fin (fabs x) = true := by rw [fabs_fin]; exact hx
  have f2 : fin (fabs y) = true := by rw [fabs_fin]; exact hy
  have v1 := fabs_fv x
  have v2 := fabs_fv y
  have n1 := ab_nonneg (fv x)
  have n2 := ab_nonneg (fv y)
  have sq : ∀ v : Rat, ab v * ab v = v * v := fun v => by unfold ab; split <;> grind
  unfold fhypot
  simp only [e1, e2]
  rw [if_neg (by simp only [Bool.or_eq_true, beq_iff_eq]; omega), if_neg (by simp only [Bool.or_eq_true, decide_eq_true_eq]; omega), if_neg (by
    simp only [Bool.and_eq_true, beq_iff_eq]
    intro h
    exact h0 ⟨z1 x h.1, z1 y h.2⟩)]
  rw [flt_fv f1 f2]
  by_cases hlt : fv (fabs x) < fv (fabs y)
  · simp only [hlt, decide_true, if_true]
    obtain ⟨h, q1, q2, q3, q4, q5⟩ := hyp_core f2 f1 (by grind) (by grind) (by
      rcases b3 with h | h
      · exfalso; rw [v1, v2, h] at hlt; unfold ab at hlt; grind
      · grind) (by grind) (by
      rcases b1 with h | h
      · left; rw [v1, h]; unfold ab; grind
      · right; grind)
    refine ⟨h, q1, q2, q3, q4, ?_⟩
    rw [v1, v2, sq, sq] at q5
    exact q5
  · simp only [hlt, decide_false, Bool.false_eq_true, if_false]
    obtain ⟨h, q1, q2, q3, q4, q5⟩ := hyp_core f1 f2 (by grind) (by grind) (by
      rcases b1 with h | h
      · exfalso
        rcases b3 with h' | h'
        · exact h0 ⟨h, h'⟩
        · rw [v1, v2, h] at hlt; unfold ab at hlt h'; grind
      · grind) (by grind) (by
      rcases b3 with h | h
      · left; rw [v2, h]; unfold ab; grind
      · right; grind)
    refine ⟨h, q1, q2, q3, q4, ?_⟩
    rw [v1, v2, sq, sq, Rat.add_comm] at q5
    exact q5
theorem hypot_zero {x y : Nat} (hx : fv x = 0) (hy : fv y = 0) : fhypot x y = some 0 := by
  have e1 : x % 2 ^ 63 = 0 := zero_of_fv hx
  have e2 : y % 2 ^ 63 = 0 := zero_of_fv hy
  unfold fhypot
  simp [e1, e2]
end Go.Av
