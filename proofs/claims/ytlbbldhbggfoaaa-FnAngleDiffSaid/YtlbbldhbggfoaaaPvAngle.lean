/- The law of AngleDiff: how far two angles are apart. -/
import Derived.Test.YtlbbldhbggfoaaaU9
import Derived.Test.YtlbbldhbggfoaaaPvLdexpU9
set_option linter.unusedVariables false
set_option linter.unusedSectionVars false
set_option linter.unusedSimpArgs false
namespace Go.Proofs.Ytlbbldhbggfoaaa.PvAngle
open Go.Av Go
open Go.Proofs.Ytlbbldhbggfoaaa.U9
open Go.Proofs.Ytlbbldhbggfoaaa.PvLdexpU9
/-- The double of pi. -/
def pi : Rat := 884279719003555 / 281474976710656
theorem fv_pi : fv 4614256656552045848 = pi := by
  have := (norm_fv (B := 1024) (f := 2570638124657944) (by decide) (by decide) (by decide)).2.2
  rw [show 1024 * 4503599627370496 + 2570638124657944 = 4614256656552045848 by decide, show ((1024 : Nat) : Int) - 1075 = -51 by decide, P2_lit (i := -51) (q := 1 / 2251799813685248) (by decide +kernel)] at this
  rw [this]; decide +kernel
theorem fv_2pi : fv 4618760256179416344 = 2 * pi := by
  have := (norm_fv (B := 1025) (f := 2570638124657944) (by decide) (by decide) (by decide)).2.2
  rw [show 1025 * 4503599627370496 + 2570638124657944 = 4618760256179416344 by decide, show ((1025 : Nat) : Int) - 1075 = -50 by decide, P2_lit (i := -50) (q := 1 / 1125899906842624) (by decide +kernel)] at this
  rw [this]; decide +kernel
theorem fv_4pi : fv 4623263855806786840 = 4 * pi := by
  have := (norm_fv (B := 1026) (f := 2570638124657944) (by decide) (by decide) (by decide)).2.2
  rw [show 1026 * 4503599627370496 + 2570638124657944 = 4623263855806786840 by decide, show ((1026 : Nat) : Int) - 1075 = -49 by decide, P2_lit (i := -49) (q := 1 / 562949953421312) (by decide +kernel)] at this
  rw [this]; decide +kernel
theorem fv_most : fv 4614256656554143000 = 884279719003555 / 281474976710656 + 1 / 1073741824 := by
  have := (norm_fv (B := 1024) (f := 2570638126755096) (by decide) (by decide) (by decide)).2.2
  rw [show 1024 * 4503599627370496 + 2570638126755096 = 4614256656554143000 by decide, show ((1024 : Nat) : Int) - 1075 = -51 by decide, P2_lit (i := -51) (q := 1 / 2251799813685248) (by decide +kernel)] at this
  rw [this]; decide +kernel
theorem tol30 : fin 4472074429978902528 = true ∧ fv 4472074429978902528 = 1 / 1073741824 :=
  ⟨by decide +kernel, (lit_P2 1044 (-30) (by decide +kernel) (by decide)).trans (P2_lit (by decide +kernel))⟩
theorem fin_pi : fin 4614256656552045848 = true := by decide +kernel
theorem fin_2pi : fin 4618760256179416344 = true := by decide +kernel
theorem fin_4pi : fin 4623263855806786840 = true := by decide +kernel
/-- A rounding of what is not great. -/
theorem err16 {z : Nat} {v : Rat} (h : Rnd z v) (hv : ab v ≤ 16) : ab (fv z - v) ≤ 1 / 140737488355328 := by
  have h1 := h.e1
  have h2 := h.e2
  have e1 : P2 (-52) = 1 / 4503599627370496 := P2_lit (by decide +kernel)
  have e2 : P2 (-1074) ≤ P2 (-52) := P2_le (by decide)
  rw [e1] at h1 h2 e2
  have h3 := Rat.mul_le_mul_of_nonneg_right hv (show (0 : Rat) ≤ 1 / 4503599627370496 by decide +kernel)
  unfold ab at h1 h2 h3 ⊢
  grind
theorem rep_eps : Rep (1 / 1099511627776) := rep_lit (-40) (by decide) (by decide +kernel)
theorem rnd_eps {z : Nat} {v : Rat} (h : Rnd z v) (hv : ab v ≤ 1 / 1099511627776) : ab (fv z) ≤ 1 / 1099511627776 := by
  have h1 := h.hi _ rep_eps (by unfold ab at hv; grind)
  have h2 := h.lo _ (rep_neg rep_eps) (by unfold ab at hv; grind)
  unfold ab; grind
section
variable {N : Nat} (hN : 0 < N)
include hN
theorem inf_no {v : Nat} (hf : fin v = true) (hb : ab (fv v) ≤ P2 53) : math_IsInf N v 0 = some false := by
  simp only [math_IsInf, math_IsInf_g, math_IsInf_j0, math_IsInf_g0, gate_pos hN, abs_def, Option.bind_some]
  show some (fgt _ _) = _
  rw [fgt_fv (by rw [fabs_fin]; exact hf) (show fin 9218868437227405311 = true by decide +kernel), fabs_fv]
  congr 1
  simp only [decide_eq_false_iff_not]
  exact Rat.not_lt.2 (Rat.le_trans hb big_1000)
theorem nan_no {v : Nat} (hf : fin v = true) : math_IsNaN N v = some false := by
  simp only [math_IsNaN, math_IsNaN_g]
  rw [fne_not, feq_self, fin_not_nan hf]
  rfl
theorem le53 {v : Rat} (h : v ≤ 100) : v ≤ P2 53 := by
  rw [P2_lit (i := 53) (q := 9007199254740992) (by decide +kernel)]
  grind
theorem frexp_4pi : ∃ p, math_Frexp N 4623263855806786840 = some p := by
  have k1 : feq 4623263855806786840 0 = false := by decide +kernel
  have k2 := inf_no hN fin_4pi (le53 hN (by rw [fv_4pi]; decide +kernel))
  have k3 := nan_no hN fin_4pi
  have k4 : flt (fabs 4623263855806786840) 4503599627370496 = false := by decide +kernel
  simp only [math_Frexp, math_Frexp_g, math_frexp, math_frexp_g, k1, cond_false, k2, k3, Option.bind_some, math_normalize, math_normalize_g, abs_def, k4, math_Float64bits, math_Float64frombits]
  exact ⟨_, rfl⟩
theorem mod_same {x : Nat} (hx : fin x = true) (h0 : 0 ≤ fv x) (h1 : fv x ≤ 12) : math_Mod N x 4623263855806786840 = some x := by
  obtain ⟨p, hp⟩ := frexp_4pi hN
  have k1 : feq 4623263855806786840 0 = false := by decide +kernel
  have k2 := inf_no hN hx (le53 hN (by rw [ab_of_nonneg h0]; grind))
  have k3 := nan_no hN hx
  have k4 := nan_no hN fin_4pi
  have k5 : flt x 0 = false := by
    rw [flt_fv hx wh_zero.1, wh_zero.2]
    simp only [decide_eq_false_iff_not]
    exact Rat.not_lt.2 h0
  have k6 : fabs 4623263855806786840 = 4623263855806786840 := by decide +kernel
  have k7 : fge x 4623263855806786840 = false := by
    rw [fge_fv hx fin_4pi, fv_4pi]
    simp only [decide_eq_false_iff_not]
    have : (12 : Rat) < 4 * pi := by decide +kernel
    grind
  simp only [math_Mod, math_Mod_g, math_mod, math_mod_g, k1, cond_false, k2, k3, k4, Option.bind_some, gate_pos hN, abs_def, k6, hp, k5, math_mod_j1, math_mod_g1]
  obtain ⟨n, rfl⟩ : ∃ n, N = n + 1 := ⟨N - 1, by omega⟩
  simp only [math_mod_l2, math_mod_g2, k7, k5, cond_false, math_mod_j4, math_mod_g4, gate_pos hN, Option.bind_some]
theorem rem_pos {X : Nat} (s : Bool) (hX : fin X = true) (h0 : 0 ≤ fv X) (h1 : fv X ≤ 12) :
    ∃ r, math_remainder_j1 N 4618760256179416344 X s = some r ∧ fin r = true ∧ (fv X ≤ 1 / 1099511627776 → ab (fv r) ≤ 1 / 1099511627776) ∧ (ab (fv X - 2 * pi) ≤ 1 / 1099511627776 → ab (fv r) ≤ 1 / 1099511627776) := by
  have k1 : flt 4618760256179416344 0 = false := by decide +kernel
  have k2 : fle 4618760256179416344 9214364837600034815 = true := by decide +kernel
  have k3 : Ieee.double.add 4618760256179416344 4618760256179416344 = some 4623263855806786840 := by decide +kernel
  have k4 : flt 4618760256179416344 9007199254740992 = false := by decide +kernel
  have k5 : Ieee.double.mul 4602678819172646912 4618760256179416344 = some 4614256656552045848 := by decide +kernel
  have pv : pi = 884279719003555 / 281474976710656 := rfl
  simp only [math_remainder_j1, math_remainder_g1, gate_pos hN, k1, cond_false, math_remainder_j2, math_remainder_g2, k2, cond_true, k3, Option.bind_some, mod_same hN hX h0 h1, math_remainder_j3, math_remainder_g3, k4, k5]
  -- the end: the sign
  have fin4 : ∀ {v : Nat}, fin v = true → ∃ r, math_remainder_j4 N s v = some r ∧ fin r = true ∧ ab (fv r) = ab (fv v) := fun {v} hv => by
    simp only [math_remainder_j4, math_remainder_g4, gate_pos hN, math_remainder_j5, math_remainder_g5]
    cases s with
    | true => exact ⟨fneg v, rfl, by rw [fneg_fin]; exact hv, by rw [fneg_fv, ab_neg]⟩
    | false => exact ⟨v, rfl, hv, rfl⟩
  cases he : feq X 4618760256179416344 with
  | true =>
    simp only [cond_true]
    have z : fv 0 = 0 := wh_zero.2
    have a0 : ab (0 : Rat) ≤ 1 / 1099511627776 := by decide +kernel
    cases s with
    | true => exact ⟨fneg 0, rfl, by rw [fneg_fin]; exact wh_zero.1, fun _ => by rw [fneg_fv, ab_neg, z]; exact a0, fun _ => by rw [fneg_fv, ab_neg, z]; exact a0⟩
    | false => exact ⟨0, rfl, wh_zero.1, fun _ => by rw [z]; exact a0, fun _ => by rw [z]; exact a0⟩
  | false =>
    simp only [cond_false]
    rw [fgt_fv hX fin_pi, fv_pi]
    by_cases hg : pi < fv X
    · have : decide (pi < fv X) = true := by simp [hg]
      rw [this, cond_true]
      obtain ⟨d, ed, hd⟩ := sub_rnd hX fin_2pi (by rw [fv_2pi]; exact lt_of_big (by unfold ab; grind) (by decide))
      rw [fv_2pi] at hd
      rw [ed]
      simp only [Option.bind_some]
      rw [fge_fv hd.fin fin_pi, fv_pi]
      by_cases hh : pi ≤ fv d
      · have : decide (pi ≤ fv d) = true := by simp [hh]
        rw [this, cond_true]
        have dd := err16 hd (by unfold ab; grind)
        obtain ⟨c, ec, hc⟩ := sub_rnd hd.fin fin_2pi (by rw [fv_2pi]; exact lt_of_big (by unfold ab at dd ⊢; grind) (by decide))
        rw [ec]
        simp only [Option.bind_some]
        obtain ⟨r, er, fr, ar⟩ := fin4 hc.fin
        refine ⟨r, er, fr, fun hs => ?_, fun hs => ?_⟩
        · exfalso; grind
        · exfalso
          have := rnd_eps hd hs
          unfold ab at this
          grind
      · have : decide (pi ≤ fv d) = false := by simp [hh]
        rw [this, cond_false]
        obtain ⟨r, er, fr, ar⟩ := fin4 hd.fin
        refine ⟨r, er, fr, fun hs => ?_, fun hs => ?_⟩
        · exfalso; grind
        · rw [ar]; exact rnd_eps hd hs
    · have : decide (pi < fv X) = false := by simp [hg]
      rw [this, cond_false]
      obtain ⟨r, er, fr, ar⟩ := fin4 hX
      refine ⟨r, er, fr, fun hs => ?_, fun hs => ?_⟩
      · rw [ar, ab_of_nonneg h0]; exact hs
      · exfalso; unfold ab at hs; grind
theorem rem_spec {x : Nat} (hx : fin x = true) (h1 : ab (fv x) ≤ 12) :
    ∃ r, math_Remainder N x 4618760256179416344 = some r ∧ fin r = true ∧ (ab (fv x) ≤ 1 / 1099511627776 → ab (fv r) ≤ 1 / 1099511627776) ∧ (ab (ab (fv x) - 2 * pi) ≤ 1 / 1099511627776 → ab (fv r) ≤ 1 / 1099511627776) := by
  have k1 := nan_no hN hx
  have k2 := nan_no hN fin_2pi
  have k3 := inf_no hN hx (le53 hN (by grind))
  have k4 : feq 4618760256179416344 0 = false := by decide +kernel
  have k5 := inf_no hN fin_2pi (le53 hN (by rw [fv_2pi]; decide +kernel))
  simp only [math_Remainder, math_Remainder_g, math_remainder, math_remainder_g, k1, k2, k3, k4, k5, cond_false, Option.bind_some, gate_pos hN]
  have z0 : fv 0 = 0 := wh_zero.2
  rw [flt_fv hx wh_zero.1, z0]
  by_cases hneg : fv x < 0
  · have : decide (fv x < 0) = true := by simp [hneg]
    rw [this, cond_true]
    have e : fv (fneg x) = ab (fv x) := by rw [fneg_fv]; unfold ab; grind
    obtain ⟨r, er, fr, a1, a2⟩ := rem_pos hN true (X := fneg x) (by rw [fneg_fin]; exact hx) (by rw [e]; exact ab_nonneg _) (by rw [e]; exact h1)
    rw [e] at a1 a2
    exact ⟨r, by rw [er]; rfl, fr, a1, a2⟩
  · have : decide (fv x < 0) = false := by simp [hneg]
    rw [this, cond_false]
    have e : fv x = ab (fv x) := by unfold ab; grind
    obtain ⟨r, er, fr, a1, a2⟩ := rem_pos hN false (X := x) hx (by grind) (by grind)
    rw [e] at a1 a2
    exact ⟨r, by rw [er]; rfl, fr, by rw [← e] at a1 ⊢; exact a1, by rw [← e] at a2 ⊢; exact a2⟩
/-- Two numbers that are a turn apart, or alike. -/
theorem round_spec {x y : Nat} (hx : fin x = true) (hy : fin y = true) (h1 : ab (fv x) ≤ 7) (h2 : ab (fv y) ≤ 4) :
    ∃ t, laws_round N x y = some t ∧ (ab (fv x - fv y) ≤ 1 / 2199023255552 → t = true) ∧ (ab (ab (fv x - fv y) - 2 * pi) ≤ 1 / 2199023255552 → t = true) := by
  have hb : ab (fv x - fv y) ≤ 11 := by unfold ab at h1 h2 ⊢; grind
  obtain ⟨d, ed, hd⟩ := sub_rnd hx hy (lt_of_big (by grind) (by decide))
  have dd := err16 hd (by grind)
  have hd11 : ab (fv d) ≤ 12 := by unfold ab at dd hb ⊢; grind
  obtain ⟨r, er, fr, a1, a2⟩ := rem_spec hN hd.fin hd11
  refine ⟨flt (fabs r) 4472074429978902528, ?_, fun h => ?_, fun h => ?_⟩
  · simp only [laws_round, laws_round_g, ed, er, Option.bind_some, abs_def]
  · have := a1 (rnd_eps hd (by grind))
    rw [flt_fv (by rw [fabs_fin]; exact fr) tol30.1, fabs_fv, tol30.2]
    simp only [decide_eq_true_eq]; grind
  · have := a2 (by unfold ab at dd h ⊢; grind)
    rw [flt_fv (by rw [fabs_fin]; exact fr) tol30.1, fabs_fv, tol30.2]
    simp only [decide_eq_true_eq]; grind
/-- How far two angles are apart. -/
theorem diff_spec {a b : Nat} (ha : fin a = true) (hb : fin b = true) (h1 : ab (fv a) ≤ pi) (h2 : ab (fv b) ≤ pi) :
    ∃ D v, impl_AngleDiff N a b = some v ∧ fin v = true ∧ Rnd D (ab (fv a - fv b)) ∧ 0 ≤ fv v ∧ fv v ≤ pi ∧ (fv D ≤ pi ∧ fv v = fv D ∨ pi < fv D ∧ ab (fv v - (2 * pi - fv D)) ≤ 1 / 140737488355328 ∧ Rnd v (2 * pi - fv D)) := by
  have pv : pi = 884279719003555 / 281474976710656 := rfl
  have rep0 : Rep 0 := rep_nat (n := 0) (by decide)
  have reppi : Rep pi := by rw [← fv_pi]; exact fin_rep fin_pi
  have rep2pi : Rep (2 * pi) := by rw [← fv_2pi]; exact fin_rep fin_2pi
  have core : ∀ D, fin D = true → Rnd D (ab (fv a - fv b)) → ∃ v, xy_Diff_j0 N D = some v ∧ fin v = true ∧ 0 ≤ fv v ∧ fv v ≤ pi ∧ (fv D ≤ pi ∧ fv v = fv D ∨ pi < fv D ∧ ab (fv v - (2 * pi - fv D)) ≤ 1 / 140737488355328 ∧ Rnd v (2 * pi - fv D)) := by
    intro D hf hr
    have d0 := hr.lo 0 rep0 (ab_nonneg _)
    have d1 := hr.hi (2 * pi) rep2pi (by unfold ab at h1 h2 ⊢; grind)
    simp only [xy_Diff_j0, xy_Diff_g0, gate_pos hN, xy_Diff_j1, xy_Diff_g1]
    rw [fgt_fv hf fin_pi, fv_pi]
    by_cases hg : pi < fv D
    · have : decide (pi < fv D) = true := by simp [hg]
      rw [this, cond_true]
      obtain ⟨v, ev, hv⟩ := sub_rnd fin_2pi hf (by rw [fv_2pi]; exact lt_of_big (by unfold ab; grind) (by decide))
      rw [fv_2pi] at hv
      rw [ev]
      exact ⟨v, rfl, hv.fin, hv.lo 0 rep0 (by grind), hv.hi pi reppi (by grind), .inr ⟨hg, err16 hv (by unfold ab; grind), hv⟩⟩
    · have : decide (pi < fv D) = false := by simp [hg]
      rw [this, cond_false]
      exact ⟨D, rfl, hf, d0, by grind, .inl ⟨by grind, rfl⟩⟩
  have hbig : ab (fv a - fv b) < P2 1023 := lt_of_big (by unfold ab at h1 h2 ⊢; grind) (by decide)
  by_cases hlt : fv a < fv b
  · obtain ⟨D, ed, hd⟩ := sub_rnd hb ha (by rw [ab_sub_comm]; exact hbig)
    have e : fv b - fv a = ab (fv a - fv b) := by unfold ab; grind
    rw [e] at hd
    obtain ⟨v, ev, c⟩ := core D hd.fin hd
    refine ⟨D, v, ?_, c.1, hd, c.2.1, c.2.2⟩
    simp only [impl_AngleDiff, impl_AngleDiff_g, xy_Diff, xy_Diff_g]
    rw [flt_fv ha hb]
    simp only [hlt, decide_true, cond_true, ed, Option.bind_some, ev]
  · obtain ⟨D, ed, hd⟩ := sub_rnd ha hb hbig
    have e : fv a - fv b = ab (fv a - fv b) := by unfold ab; grind
    rw [e] at hd
    obtain ⟨v, ev, c⟩ := core D hd.fin hd
    refine ⟨D, v, ?_, c.1, hd, c.2.1, c.2.2⟩
    simp only [impl_AngleDiff, impl_AngleDiff_g, xy_Diff, xy_Diff_g]
    rw [flt_fv ha hb]
    simp only [hlt, decide_false, cond_false, ed, Option.bind_some, ev]
theorem diff_comm {a b v v' : Nat} (ha : fin a = true) (hb : fin b = true) (h1 : ab (fv a) ≤ pi) (h2 : ab (fv b) ≤ pi) (e : impl_AngleDiff N a b = some v) (e' : impl_AngleDiff N b a = some v') : fv v = fv v' := by
  by_cases hlt : fv a < fv b
  · have hn : ¬ fv b < fv a := by grind
    simp only [impl_AngleDiff, impl_AngleDiff_g, xy_Diff, xy_Diff_g] at e e'
    rw [flt_fv ha hb] at e
    rw [flt_fv hb ha] at e'
    simp only [hlt, hn, decide_true, decide_false, cond_true, cond_false] at e e'
    rw [e] at e'
    cases e'
    rfl
  · by_cases hgt : fv b < fv a
    · simp only [impl_AngleDiff, impl_AngleDiff_g, xy_Diff, xy_Diff_g] at e e'
      rw [flt_fv ha hb] at e
      rw [flt_fv hb ha] at e'
      simp only [hlt, hgt, decide_true, decide_false, cond_true, cond_false] at e e'
      rw [e] at e'
      cases e'
      rfl
    · have he : fv a = fv b := by grind
      have pp : (0 : Rat) < pi := by decide +kernel
      have a0 : ab (0 : Rat) = 0 := by unfold ab; grind
      have rep0 : Rep 0 := rep_nat (n := 0) (by decide)
      have zero : ∀ {a b v : Nat}, fin a = true → fin b = true → ab (fv a) ≤ pi → ab (fv b) ≤ pi → fv a = fv b → impl_AngleDiff N a b = some v → fv v = 0 := by
        intro a b v ha hb h1 h2 he e
        obtain ⟨D, v0, e0, _, hD, _, _, c⟩ := diff_spec hN ha hb h1 h2
        rw [e] at e0
        cases e0
        rw [he, Rat.sub_self, a0] at hD
        have d0 := hD.exact rep0
        rcases c with ⟨_, c⟩ | ⟨c, _⟩
        · rw [c, d0]
        · rw [d0] at c; grind
      rw [zero ha hb h1 h2 he e, zero hb ha h2 h1 he.symm e']
omit hN in
theorem small_of {a : Nat} (h : fle (fabs a) 4614256656552045848 = true) : fin a = true ∧ ab (fv a) ≤ pi := by
  have hf : fin (fabs a) = true := by
    rw [fle_eq] at h
    simp only [Bool.and_eq_true, Bool.not_eq_true', Bool.or_eq_false_iff, decide_eq_true_eq] at h
    have hk : ikey (fabs a) = (rung a : Int) := by unfold ikey; rw [fabs_sgn, fabs_rung]; rfl
    have := fin_key fin_pi
    rw [hk] at h
    unfold fin
    rw [fabs_rung]
    simp only [decide_eq_true_eq]
    omega
  have h2 := h
  rw [fle_fv hf fin_pi, fv_pi, fabs_fv] at h2
  rw [fabs_fin] at hf
  exact ⟨hf, by simpa using h2⟩
theorem law (a b : Nat) : laws_FnAngleDiff N a b = some true := by
  unfold laws_FnAngleDiff laws_FnAngleDiff_g
  simp only [abs_def, Option.bind_some]
  cases h1 : fle (fabs a) 4614256656552045848 with
  | false => rfl
  | true =>
    cases h2 : fle (fabs b) 4614256656552045848 with
    | false => rfl
    | true =>
      obtain ⟨ha, la⟩ := small_of h1
      obtain ⟨hb, lb⟩ := small_of h2
      obtain ⟨D, v, ev, fvv, hD, v0, v1, hc⟩ := diff_spec hN ha hb la lb
      obtain ⟨D', v', ev', fvv', _⟩ := diff_spec hN hb ha lb la
      have hcomm := diff_comm hN ha hb la lb ev ev'
      have pv : pi = 884279719003555 / 281474976710656 := rfl
      have rep2pi : Rep (2 * pi) := by rw [← fv_2pi]; exact fin_rep fin_2pi
      have g1 : fge v 0 = true := by rw [fge_fv fvv wh_zero.1, wh_zero.2]; simp only [decide_eq_true_eq]; exact v0
      have g2 : fle v 4614256656554143000 = true := by
        rw [fle_fv fvv (by decide +kernel), fv_most]; simp only [decide_eq_true_eq]; grind
      have g3 : feq v v' = true := by rw [feq_fv fvv fvv', hcomm]; simp
      have bs : ∀ t : Rat, ab t ≤ pi → ab (fv a + t) ≤ 2 * pi := fun t ht => by unfold ab at la ht ⊢; grind
      have va : ab (fv v) ≤ pi := by rw [ab_of_nonneg v0]; exact v1
      have p1 := bs _ va
      have p2 := bs (- fv v) (by rw [ab_neg]; exact va)
      rw [← Rat.sub_eq_add_neg] at p2
      obtain ⟨s1, e1, r1⟩ := add_rnd ha fvv (lt_of_big (by grind) (by decide))
      obtain ⟨s2, e2, r2⟩ := sub_rnd ha fvv (lt_of_big (by grind) (by decide))
      have d1 := err16 r1 (by grind)
      have d2 := err16 r2 (by grind)
      have b1 : ab (fv s1) ≤ 7 := by unfold ab at d1 p1 ⊢; grind
      have b2 : ab (fv s2) ≤ 7 := by unfold ab at d2 p2 ⊢; grind
      obtain ⟨t1, q1, i1, j1⟩ := round_spec hN r1.fin hb b1 (by grind)
      obtain ⟨t2, q2, i2, j2⟩ := round_spec hN r2.fin hb b2 (by grind)
      have dd := err16 hD (by unfold ab at la lb ⊢; grind)
      have main : t1 = true ∨ t2 = true := by
        rcases hc with ⟨c1, c2⟩ | ⟨c1, c2, _⟩
        · by_cases hlt : fv a < fv b
          · left; apply i1
            rw [show ab (fv a - fv b) = fv b - fv a by unfold ab; grind] at dd
            unfold ab at dd d1 ⊢; grind
          · right; apply i2
            rw [show ab (fv a - fv b) = fv a - fv b by unfold ab; grind] at dd
            unfold ab at dd d2 ⊢; grind
        · by_cases hlt : fv a < fv b
          · right; apply j2
            rw [show ab (fv a - fv b) = fv b - fv a by unfold ab; grind] at dd
            have x1 : fv s2 - fv b ≤ -(2 * pi) + 1 / 4398046511104 := by unfold ab at dd d2 c2; grind
            have x2 : -(2 * pi) - 1 / 4398046511104 ≤ fv s2 - fv b := by unfold ab at dd d2 c2; grind
            rw [show ab (fv s2 - fv b) = -(fv s2 - fv b) by unfold ab; grind]
            unfold ab; grind
          · left; apply j1
            rw [show ab (fv a - fv b) = fv a - fv b by unfold ab; grind] at dd
            have x1 : fv s1 - fv b ≤ 2 * pi + 1 / 4398046511104 := by unfold ab at dd d1 c2; grind
            have x2 : 2 * pi - 1 / 4398046511104 ≤ fv s1 - fv b := by unfold ab at dd d1 c2; grind
            rw [show ab (fv s1 - fv b) = fv s1 - fv b by unfold ab; grind]
            unfold ab; grind
      simp only [cond_true, Bool.not_true, cond_false, ev, Option.bind_some, g1, g2, e1, q1, e2, q2, ev', g3]
      rcases main with h | h
      · subst h; rfl
      · subst h; cases t1 <;> rfl
end
end Go.Proofs.Ytlbbldhbggfoaaa.PvAngle
