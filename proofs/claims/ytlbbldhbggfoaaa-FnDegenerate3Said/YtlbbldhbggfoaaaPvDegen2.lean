/- The law of Degenerate2. -/
import Derived.Test.YtlbbldhbggfoaaaD2
import Derived.Test.YtlbbldhbggfoaaaPv1
import Derived.Test.YtlbbldhbggfoaaaFl7
import Derived.Test.YtlbbldhbggfoaaaFl16
import Derived.KernelRfl
set_option linter.unusedVariables false
set_option linter.unusedSectionVars false
set_option linter.unusedSimpArgs false
namespace Go.Proofs.Ytlbbldhbggfoaaa.PvGridD2
open Go.Av Go
open Go.Proofs.Ytlbbldhbggfoaaa.D2
theorem bound20 : Wh 4697254411347427328 1048576 := wh_lit _ _ (by decide +kernel) (by decide +kernel) (by decide +kernel) (by decide)
/-- A whole number within bounds. -/
def In (B : Int) (x : Nat) : Prop := ∃ k : Int, Wh x k ∧ -B ≤ k ∧ k ≤ B
section
variable {N : Nat} {m : Nat} {B : Int} (hm : Wh m B) (hB : B ≤ 9007199254740992)
include hm hB
theorem inner {r0 : Int → Option Bool} {v2 v10 : Int} {v1 : List (List Nat)} (hN : 0 < N) (l : List Nat) (hl : l.length ≤ 9223372036854775806) : ∀ (c i n : Nat), i + c = l.length → c + 1 ≤ n →
    spec_Grid_l1 N r0 v2 m v1 n v10 l (i : Int) = some false ∨ (spec_Grid_l1 N r0 v2 m v1 n v10 l (i : Int) = r0 (IntKind.i64.wrap (v10 + 1)) ∧ ∀ (j : Nat) x, i ≤ j → l[j]? = some x → In B x)
  | 0, i, n, hi, hn => by
    obtain ⟨n, rfl⟩ : ∃ m, n = m + 1 := ⟨n - 1, by omega⟩
    simp only [spec_Grid_l1, spec_Grid_g1, Bool.cond_decide]
    rw [if_neg (by omega)]
    exact .inr ⟨rfl, fun j x hj hx => by rw [List.getElem?_eq_none (by omega)] at hx; cases hx⟩
  | c + 1, i, n, hi, hn => by
    obtain ⟨n, rfl⟩ : ∃ m, n = m + 1 := ⟨n - 1, by omega⟩
    have hlt : i < l.length := by omega
    have ih := inner (r0 := r0) (v2 := v2) (v10 := v10) (v1 := v1) hN l hl c (i + 1) n (by omega) (by omega)
    simp only [spec_Grid_l1, spec_Grid_g1, spec_Grid_j2, spec_Grid_g2, Bool.cond_decide, gate_pos hN]
    rw [if_pos (by omega), nth_nat, List.getElem?_eq_getElem hlt]
    simp only [Option.bind_some]
    cases h1 : fge l[i] (fneg m) with
    | false => exact .inl rfl
    | true =>
      cases h2 : fle l[i] m with
      | false => exact .inl rfl
      | true =>
        obtain ⟨y, hy, hw⟩ := whole_between hm hB h1 h2
        simp only [math_Trunc, math_Trunc_g, math_archTrunc, hy, Option.bind_some, fne_not, Bool.not_true, cond_false, cond_true]
        cases he : feq l[i] y with
        | false => exact .inl rfl
        | true =>
          simp only [Bool.not_true, cond_false]
          rw [wrap_in (n := (i : Int) + 1) (by omega), show (i : Int) + 1 = ((i + 1 : Nat) : Int) by omega]
          rcases ih with ih | ⟨ih, ih2⟩
          · exact .inl ih
          · refine .inr ⟨ih, fun j x hj hx => ?_⟩
            rcases Nat.lt_or_ge i j with hij | hij
            · exact ih2 j x (by omega) hx
            · have : j = i := by omega
              subst this
              rw [List.getElem?_eq_getElem hlt] at hx
              simp only [Option.some.injEq] at hx
              subst hx
              exact hw he
theorem outer {v2 : Int} (v1 : List (List Nat)) (hv : v1.length ≤ 9223372036854775806) (hl : ∀ l ∈ v1, l.length + 1 ≤ N) (hN : N ≤ 18446744073709551616) (hl2 : ∀ l ∈ v1, l.length ≤ 9223372036854775806) : ∀ (c i n : Nat), i + c = v1.length → c + 1 ≤ n →
    ∃ t, spec_Grid_l0 N n v2 m v1 (i : Int) = some t ∧ (t = true → 0 < v2 ∧ ∀ (j : Nat) l, i ≤ j → v1[j]? = some l → (l.length : Int) = v2 ∧ ∀ x ∈ l, In B x)
  | 0, i, n, hi, hn => by
    obtain ⟨n, rfl⟩ : ∃ m, n = m + 1 := ⟨n - 1, by omega⟩
    simp only [spec_Grid_l0, spec_Grid_g0, Bool.cond_decide]
    rw [if_neg (by omega)]
    exact ⟨_, rfl, fun h => ⟨of_decide_eq_true h, fun j l hj hx => by rw [List.getElem?_eq_none (by omega)] at hx; cases hx⟩⟩
  | c + 1, i, n, hi, hn => by
    obtain ⟨n, rfl⟩ : ∃ m, n = m + 1 := ⟨n - 1, by omega⟩
    have hlt : i < v1.length := by omega
    obtain ⟨t, h1, h2⟩ := outer (v2 := v2) v1 hv hl hN hl2 c (i + 1) n (by omega) (by omega)
    have hb := hl _ (List.getElem_mem hlt)
    have hb2 := hl2 _ (List.getElem_mem hlt)
    simp only [spec_Grid_l0, spec_Grid_g0, Bool.cond_decide]
    rw [if_pos (by omega), nth_nat, List.getElem?_eq_getElem hlt]
    simp only [Option.bind_some]
    cases hq : ((v1[i].length : Int) != v2) with
    | true => exact ⟨false, rfl, fun h => by cases h⟩
    | false =>
      simp only [cond_false]
      have hin := inner (N := N) hm hB (r0 := spec_Grid_l0 N n v2 m v1) (v2 := v2) (v10 := (i : Int)) (v1 := v1) (by omega) v1[i] hb2 v1[i].length 0 N (by omega) hb
      rw [show ((0 : Nat) : Int) = 0 from rfl, wrap_in (n := (i : Int) + 1) (by omega), show (i : Int) + 1 = ((i + 1 : Nat) : Int) by omega] at hin
      rcases hin with h | ⟨h, hall⟩
      · rw [h]; exact ⟨false, rfl, fun h => by cases h⟩
      · rw [h, h1]
        refine ⟨t, rfl, fun ht => ⟨(h2 ht).1, fun j l hj hx => ?_⟩⟩
        rcases Nat.lt_or_ge i j with hij | hij
        · exact (h2 ht).2 j l (by omega) hx
        · have : j = i := by omega
          subst this
          rw [List.getElem?_eq_getElem hlt] at hx
          simp only [Option.some.injEq] at hx
          subst hx
          refine ⟨by simpa using hq, fun x hx => ?_⟩
          obtain ⟨q, hq'⟩ := List.mem_iff_getElem?.1 hx
          exact hall q x (by omega) hq'
theorem grid {v2 : Int} (v1 : List (List Nat)) (hv : v1.length + 1 ≤ N) (hl : ∀ l ∈ v1, l.length + 1 ≤ N) (hN : N ≤ 18446744073709551616) (hv2 : v1.length ≤ 9223372036854775806) (hl2 : ∀ l ∈ v1, l.length ≤ 9223372036854775806) :
    ∃ t, spec_Grid N v1 v2 m = some t ∧ (t = true → 0 < v2 ∧ ∀ l ∈ v1, (l.length : Int) = v2 ∧ ∀ x ∈ l, In B x) := by
  obtain ⟨t, h1, h2⟩ := outer (N := N) hm hB (v2 := v2) v1 hv2 hl hN hl2 v1.length 0 N (by omega) hv
  refine ⟨t, h1, fun ht => ⟨(h2 ht).1, fun l hll => ?_⟩⟩
  obtain ⟨q, hq⟩ := List.mem_iff_getElem?.1 hll
  exact (h2 ht).2 q l (by omega) hq
end
end Go.Proofs.Ytlbbldhbggfoaaa.PvGridD2
namespace Go.Proofs.Ytlbbldhbggfoaaa.PvHeight
open Go.Av Go
theorem four_wh : Wh 4616189618054758400 4 := wh_lit _ _ (by decide +kernel) (by decide +kernel) (by decide +kernel) (by decide)
theorem two_wh : Wh 4611686018427387904 2 := wh_lit _ _ (by decide +kernel) (by decide +kernel) (by decide +kernel) (by decide)
theorem lit15 : fin 4539628424389459968 = true ∧ fv 4539628424389459968 = P2 (-15) :=
  ⟨by decide +kernel, lit_P2 1059 _ (by decide +kernel) (by decide)⟩
theorem cast_le {a b : Int} {c : Rat} (h : a ≤ b) (e : (b : Rat) = c) : (a : Rat) ≤ c := e ▸ intCast_le.2 h
theorem sq_nonneg (v : Rat) : 0 ≤ v * v := by
  by_cases h : 0 ≤ v
  · exact Rat.mul_nonneg h h
  · have := Rat.mul_nonneg (a := - v) (b := - v) (by grind) (by grind); grind
section
variable {x v y w a b k : Rat}
theorem small2 (ha : 0 ≤ a) (ha2 : a ≤ 100) (hb : 0 ≤ b) (hb2 : b ≤ 100) : a * b * dl ≤ 1 / 1000 := by
  have h1 : a * b ≤ 100 * 100 := Rat.le_trans (Rat.mul_le_mul_of_nonneg_right ha2 hb) (Rat.mul_le_mul_of_nonneg_left hb2 (by decide))
  have h2 := Rat.mul_le_mul_of_nonneg_right h1 (Rat.le_of_lt dl_pos)
  have e : dl = 1 / 281474976710656 := by unfold dl; exact P2_lit (by decide +kernel)
  rw [e] at h2 ⊢
  grind
theorem trans2 (h1 : Ap x v a) (h2 : Ap v w b) (ha : 0 ≤ a) (ha2 : a ≤ 100) (hb : 0 ≤ b) (hb2 : b ≤ 100) : Ap x w (a + b + 1 / 1000) := by
  have hv := h2.up
  unfold Ap at *
  have e : x - w = (x - v) + (v - w) := by grind
  have t := ab_add (x - v) (v - w)
  rw [← e] at t
  have hp := small2 ha ha2 hb hb2
  have had : 0 ≤ a * dl := Rat.mul_nonneg ha (Rat.le_of_lt dl_pos)
  have m1 := Rat.mul_le_mul_of_nonneg_left hv had
  have hdw : 0 ≤ dl * ab w := Rat.mul_nonneg (Rat.le_of_lt dl_pos) (ab_nonneg w)
  have m2 := Rat.mul_le_mul_of_nonneg_right hp hdw
  grind
theorem symm2 (h : Ap x v a) (ha : 0 ≤ a) (ha2 : a ≤ 99) : Ap v x (a + 1 / 1000) := by
  have hd := h.down
  unfold Ap at *
  rw [ab_sub_comm]
  have hp : a * (a + 1 / 1000) * dl ≤ 1 / 1000 := small2 ha (by grind) (by grind) (by grind)
  have had : 0 ≤ (a + 1 / 1000) * dl := Rat.mul_nonneg (by grind) (Rat.le_of_lt dl_pos)
  have m1 := Rat.mul_le_mul_of_nonneg_left hd had
  have hdv : 0 ≤ dl * ab v := Rat.mul_nonneg (Rat.le_of_lt dl_pos) (ab_nonneg v)
  have m2 := Rat.mul_le_mul_of_nonneg_right hp hdv
  grind
theorem mul2 (h1 : Ap x v a) (h2 : Ap y w b) (ha : 0 ≤ a) (ha2 : a ≤ 100) (hb : 0 ≤ b) (hb2 : b ≤ 100) : Ap (x * y) (v * w) (a + b + 1 / 1000) := by
  have hy := h2.up
  unfold Ap at *
  have e : x * y - v * w = (x - v) * y + v * (y - w) := by grind
  have t := ab_add ((x - v) * y) (v * (y - w))
  rw [← e, ab_mul, ab_mul] at t
  rw [ab_mul v w]
  have hA := ab_nonneg v
  have hB := ab_nonneg w
  have hAB := Rat.mul_nonneg hA hB
  have hp := small2 ha ha2 hb hb2
  have had : 0 ≤ a * dl * ab v := Rat.mul_nonneg (Rat.mul_nonneg ha (Rat.le_of_lt dl_pos)) hA
  have m0 := Rat.mul_le_mul_of_nonneg_right h1 (ab_nonneg y)
  have m1 := Rat.mul_le_mul_of_nonneg_left hy had
  have m3 := Rat.mul_le_mul_of_nonneg_left h2 hA
  have hd : 0 ≤ dl * (ab v * ab w) := Rat.mul_nonneg (Rat.le_of_lt dl_pos) hAB
  have m2 := Rat.mul_le_mul_of_nonneg_right hp hd
  grind
theorem scale (h : Ap x v k) (c : Rat) : Ap (x * c) (v * c) k := by
  unfold Ap at *
  rw [show x * c - v * c = (x - v) * c by grind, ab_mul, ab_mul]
  have := Rat.mul_le_mul_of_nonneg_right h (ab_nonneg c)
  grind
theorem unscale {c : Rat} (hc : 0 < c) (h : Ap (x * c) (v * c) k) : Ap x v k := by
  unfold Ap at *
  rw [show x * c - v * c = (x - v) * c by grind, ab_mul, ab_mul, ab_of_nonneg (v := c) (by grind), show k * dl * (ab v * c) = k * dl * ab v * c by grind] at h
  exact (mul_le hc).1 h
end
/-- A quotient of whole numbers is no tiny one. -/
theorem quot_low {S L : Int} {q : Rat} (hL : 1 ≤ L) (hL2 : L ≤ 16777216) (hS : 0 ≤ S) (hq : q * (L : Rat) = (S : Rat)) : 0 ≤ q ∧ (q = 0 ∨ 1 / 16777216 ≤ q) := by
  have l1 : (1 : Rat) ≤ (L : Rat) := by exact_mod_cast hL
  have l2 : (L : Rat) ≤ 16777216 := cast_le hL2 (by decide +kernel)
  have s0 : (0 : Rat) ≤ (S : Rat) := by exact_mod_cast hS
  have q0 : 0 ≤ q := by
    refine Rat.not_lt.1 fun h => ?_
    have := (ratmul_lt (c := (L : Rat)) (by grind)).2 h
    grind
  refine ⟨q0, ?_⟩
  by_cases h0 : S = 0
  · left
    have e : (S : Rat) = 0 := by rw [h0]; rfl
    rw [e] at hq
    rcases Rat.mul_eq_zero.1 hq with h | h
    · exact h
    · grind
  · right
    have s1 : (1 : Rat) ≤ (S : Rat) := by
      have : 1 ≤ S := by omega
      exact_mod_cast this
    have := Rat.mul_le_mul_of_nonneg_left l2 q0
    grind
theorem height {S L : Int} {m l num den tol : Nat} {k : Rat} (hS : 0 ≤ S) (hS2 : S ≤ 4503599627370496) (hL : 1 ≤ L) (hL2 : L ≤ 16777216) (hSL : S ≤ L * L) (hm : Wh m S) (hl : Wh l L)
    (hk : 0 ≤ k) (hk2 : k ≤ 57 / 2)
    (hn : fin num = true) (hn0 : 0 ≤ fv num) (hn1 : fv num = 0 ∨ 1 / 4 ≤ fv num) (hn2 : fv num ≤ 1099511627776) (hna : Ap (fv num * fv num) (S : Rat) k)
    (hd : fin den = true) (hd1 : 1 / 2 ≤ fv den) (hd2 : fv den ≤ 4294967296) (hda : Ap (fv den * fv den) (L : Rat) k)
    (ht : fin tol = true) (ht1 : 0 ≤ fv tol) (ht2 : fv tol ≤ 2000) :
    ∃ a b c h e x, Ieee.double.div m 4616189618054758400 = some a ∧ Ieee.double.div a l = some b ∧ fsqrt b = some c ∧ Ieee.double.mul 4611686018427387904 c = some h ∧
      Ieee.double.sub h tol = some e ∧ Ieee.double.div num den = some x ∧ (flt (fabs e) 4539628424389459968 = false → fle x tol = flt h tol) := by
  have l1 : (1 : Rat) ≤ (L : Rat) := by exact_mod_cast hL
  have l2 : (L : Rat) ≤ 16777216 := cast_le hL2 (by decide +kernel)
  have s0 : (0 : Rat) ≤ (S : Rat) := by exact_mod_cast hS
  have s2 : (S : Rat) ≤ 4503599627370496 := cast_le hS2 (by decide +kernel)
  have sl : (S : Rat) ≤ (L : Rat) * (L : Rat) := by rw [← Rat.intCast_mul]; exact intCast_le.2 hSL
  have lne : (L : Rat) ≠ 0 := by grind
  have f4 : fv 4616189618054758400 = 4 := four_wh.2
  have f2 : fv 4611686018427387904 = 2 := two_wh.2
  have pm : ∀ i : Int, -900 ≤ i → P2 (-900) ≤ P2 i := fun i hi => P2_le hi
  have p24 : P2 (-24) = 1 / 16777216 := P2_lit (by decide +kernel)
  have p26 : P2 (-26) = 1 / 67108864 := P2_lit (by decide +kernel)
  -- a quarter
  obtain ⟨a, ea, ha⟩ := div_rnq (V := (S : Rat) / 4) hm.1 four_wh.1 (by rw [f4]; decide) (by rw [f4, hm.2]; grind) (by rw [ab_of_nonneg (by grind)]; exact lt_of_big (by grind) (by decide))
  have av : fv a = (S : Rat) / 4 := ha.exact ⟨S, -2, by omega, by decide, by
    have : P2 (-2) = 1 / 4 := P2_lit (by decide +kernel)
    rw [this]; grind⟩
  -- over the length
  obtain ⟨q, hq⟩ : ∃ q : Rat, q * (L : Rat) = (S : Rat) := ⟨(S : Rat) / (L : Rat), Rat.div_mul_cancel lne⟩
  obtain ⟨q0, q1⟩ := quot_low hL hL2 hS hq
  have qL : q ≤ (L : Rat) := by
    refine Rat.not_lt.1 fun h => ?_
    have := (ratmul_lt (c := (L : Rat)) (by grind)).2 h
    grind
  obtain ⟨b, eb, hb⟩ := div_rnq (V := q / 4) ha.fin hl.1 (by rw [hl.2]; exact lne) (by rw [av, hl.2]; grind) (by rw [ab_of_nonneg (by grind)]; exact lt_of_big (by grind) (by decide))
  have bap := hb.ap (by
    rcases q1 with h | h
    · left; rw [h]; grind
    · right
      rw [ab_of_nonneg (by grind)]
      exact Rat.le_trans (pm (-26) (by decide)) (by rw [p26]; grind))
  have rep0 : Rep 0 := rep_nat (n := 0) (by decide)
  have b0 : 0 ≤ fv b := hb.lo 0 rep0 (by grind)
  have b1 : fv b ≤ 4194304 := hb.hi 4194304 (rep_nat (n := 4194304) (by decide)) (by grind)
  obtain ⟨c, ec, hc⟩ := sqrt_sqr hb.fin b0 (by
    have := lt_of_big (v := fv b) (i := 1022) (by grind) (by decide)
    exact this)
  have c0 := hc.nn
  have c1 : fv c ≤ 2048 := hc.hi 2048 (rep_nat (n := 2048) (by decide)) (by decide) (by grind)
  have nrc : NearR (fv c) (q / 4) := nearR_sqr bap (by grind) (by decide) hc
  -- doubled
  obtain ⟨h, eh, hh⟩ := mul_rnd two_wh.1 hc.fin (by rw [f2, ab_of_nonneg (by grind)]; exact lt_of_big (by grind) (by decide))
  rw [f2] at hh
  have hhi := hh.hi 4096 (rep_nat (n := 4096) (by decide)) (by grind)
  have hlo := hh.lo 0 rep0 (by grind)
  have he1 := hh.e1
  have he2 := hh.e2
  obtain ⟨e, ee, he⟩ := sub_rnd hh.fin ht (by
    refine lt_of_big ?_ (by decide)
    unfold ab; split <;> grind)
  -- the other way
  have dne : fv den ≠ 0 := by grind
  obtain ⟨V, hV⟩ : ∃ V : Rat, V * fv den = fv num := ⟨fv num / fv den, Rat.div_mul_cancel dne⟩
  have V0 : 0 ≤ V := by
    refine Rat.not_lt.1 fun h => ?_
    have := (ratmul_lt (c := fv den) (by grind)).2 h
    grind
  have V1 : V ≤ 2199023255552 := by
    refine Rat.not_lt.1 fun h => ?_
    have := (ratmul_lt (c := fv den) (by grind)).2 h
    grind
  have p34 : P2 (-34) = 1 / 17179869184 := P2_lit (by decide +kernel)
  have V2 : V = 0 ∨ 1 / 17179869184 ≤ V := by
    rcases hn1 with h | h
    · left
      rw [h] at hV
      rcases Rat.mul_eq_zero.1 hV with h | h
      · exact h
      · exact absurd h dne
    · right
      have := Rat.mul_le_mul_of_nonneg_left hd2 V0
      grind
  obtain ⟨x, ex, hx⟩ := div_rnq hn hd dne hV (by rw [ab_of_nonneg V0]; exact lt_of_big (by grind) (by decide))
  have xap := hx.ap (by
    rcases V2 with h | h
    · exact .inl h
    · right
      rw [ab_of_nonneg V0]
      exact Rat.le_trans (pm (-34) (by decide)) (by rw [p34]; exact h))
  have x0 : 0 ≤ fv x := hx.lo 0 rep0 V0
  have xx : Ap (fv x * fv x) (V * V) (1 + 1 + 1 / 1000) := mul2 xap xap (by decide) (by decide) (by decide) (by decide)
  -- V * V is near q
  have dd0 : 0 < fv den * fv den := by
    have := Rat.mul_le_mul_of_nonneg_left hd1 (show 0 ≤ fv den by grind)
    grind
  have vv : Ap (V * V) q (k + (k + 1 / 1000) + 1 / 1000) := by
    have d1 : Ap (V * V * (fv den * fv den)) (S : Rat) k := by
      have : V * V * (fv den * fv den) = fv num * fv num := by rw [← hV]; grind
      rw [this]; exact hna
    have d2 : Ap (fv den * fv den * q) ((L : Rat) * q) k := scale hda q
    have d3 : (L : Rat) * q = (S : Rat) := by rw [← hq]; grind
    rw [d3] at d2
    have d4 : Ap (S : Rat) (fv den * fv den * q) (k + 1 / 1000) := symm2 d2 hk (by grind)
    have d5 := trans2 d1 d4 hk (by grind) (by grind) (by grind)
    rw [show fv den * fv den * q = q * (fv den * fv den) by grind] at d5
    exact unscale dd0 d5
  have xq : Ap (fv x / 2 * (fv x / 2)) (q / 4) 60 := by
    have x1 := scale (trans2 xx vv (by grind) (by grind) (by grind) (by grind)) (1 / 4)
    rw [show fv x * fv x * (1 / 4) = fv x / 2 * (fv x / 2) by grind, show q * (1 / 4) = q / 4 by grind] at x1
    exact x1.mono (by grind)
  have nrx : NearR (fv x / 2) (q / 4) := nearR_ap xq (by grind) (by decide) (by grind)
  have close := nearR_close nrx nrc (by grind) (by grind)
  refine ⟨a, b, c, h, e, x, ea, eb, ec, eh, ee, ex, fun hf => ?_⟩
  rw [flt_fv (by rw [fabs_fin]; exact he.fin) lit15.1, fabs_fv, lit15.2, decide_eq_false_iff_not, Rat.not_lt] at hf
  have p15 : P2 (-15) = 1 / 32768 := P2_lit (by decide +kernel)
  have p16 : P2 (-16) = 1 / 65536 := P2_lit (by decide +kernel)
  rw [p15] at hf
  have r16 : Rep (1 / 65536) := rep_lit (-16) (by decide) (by decide +kernel)
  have r16n : Rep (-(1 / 65536)) := ⟨-1, -16, by decide, by decide, by rw [p16]; grind⟩
  rw [fle_fv hx.fin ht, flt_fv hh.fin ht]
  have p52 : P2 (-52) = 1 / 4503599627370496 := P2_lit (by decide +kernel)
  have p74 : P2 (-1074) ≤ P2 (-52) := P2_le (by decide)
  rw [ab_of_nonneg (show 0 ≤ 2 * fv c by grind)] at he1 he2
  have mc := Rat.mul_le_mul_of_nonneg_right (show 2 * fv c ≤ 4096 by grind) (Rat.le_of_lt (P2_pos (-52)))
  rw [p52] at p74 mc he1 he2
  have hx1 : ab (fv x - fv h) ≤ 1 / 1000000 := by
    unfold ab at close ⊢
    split at close <;> split <;> grind
  have far : ¬ (-(1 / 65536) ≤ fv h - fv tol ∧ fv h - fv tol ≤ 1 / 65536) := fun ⟨u, v⟩ => by
    have k1 := he.hi _ r16 v
    have k2 := he.lo _ r16n u
    unfold ab at hf
    split at hf <;> grind
  rw [decide_eq_decide]
  unfold ab at hx1
  constructor
  · intro hle
    refine Rat.not_le.1 fun hge => ?_
    apply far
    split at hx1 <;> constructor <;> grind
  · intro hlt
    refine Rat.not_lt.1 fun hge => ?_
    apply far
    split at hx1 <;> constructor <;> grind
end Go.Proofs.Ytlbbldhbggfoaaa.PvHeight
namespace Go.Proofs.Ytlbbldhbggfoaaa.PvDegen2
open Go.Av Go
open Go.Proofs.Ytlbbldhbggfoaaa.D2
open Go.Proofs.Ytlbbldhbggfoaaa.PvGridD2
open Go.Proofs.Ytlbbldhbggfoaaa.PvHeight
theorem abs_def {N x : Nat} : math_Abs N x = some (fabs x) := by
  simp only [math_Abs, math_Abs_g, math_Float64bits, math_Float64frombits, Option.bind_some, abs_bits, Int.toNat_natCast, fabs]
theorem b1000 : Wh 4652007308841189376 1000 := wh_lit _ _ (by decide +kernel) (by decide +kernel) (by decide +kernel) (by decide)
theorem tol0 : fin 4562146422526312448 = true ∧ fv 4562146422526312448 = P2 (-10) := ⟨by decide +kernel, lit_P2 1064 _ (by decide +kernel) (by decide)⟩
theorem b2000 : Wh 4656510908468559872 2000 := wh_lit _ _ (by decide +kernel) (by decide +kernel) (by decide +kernel) (by decide)
/-- A whole number that is at most so big. -/
def W (B : Nat) (x : Nat) (X : Int) : Prop := Wh x X ∧ X.natAbs ≤ B
theorem W.sub {A B x y : Nat} {X Y : Int} (hx : W A x X) (hy : W B y Y) (h : A + B ≤ 9007199254740992) : ∃ z, Ieee.double.sub x y = some z ∧ W (A + B) z (X - Y) := by
  obtain ⟨h1, h2⟩ := hx
  obtain ⟨h3, h4⟩ := hy
  obtain ⟨z, e, hz⟩ := sub_wh h1 h3 (by omega)
  exact ⟨z, e, hz, by omega⟩
theorem W.add {A B x y : Nat} {X Y : Int} (hx : W A x X) (hy : W B y Y) (h : A + B ≤ 9007199254740992) : ∃ z, Ieee.double.add x y = some z ∧ W (A + B) z (X + Y) := by
  obtain ⟨h1, h2⟩ := hx
  obtain ⟨h3, h4⟩ := hy
  obtain ⟨z, e, hz⟩ := add_wh h1 h3 (by omega)
  exact ⟨z, e, hz, by omega⟩
theorem W.mul {A B x y : Nat} {X Y : Int} (hx : W A x X) (hy : W B y Y) (h : A * B ≤ 9007199254740992) : ∃ z, Ieee.double.mul x y = some z ∧ W (A * B) z (X * Y) := by
  obtain ⟨h1, h2⟩ := hx
  obtain ⟨h3, h4⟩ := hy
  have : (X * Y).natAbs ≤ A * B := by rw [Int.natAbs_mul]; exact Nat.mul_le_mul h2 h4
  obtain ⟨z, e, hz⟩ := mul_wh h1 h3 (by omega)
  exact ⟨z, e, hz, this⟩
theorem W.mono {A B x : Nat} {X : Int} (hx : W A x X) (h : A ≤ B) : W B x X := ⟨hx.1, Nat.le_trans hx.2 h⟩
theorem W.zero : W 0 0 0 := ⟨wh_zero, by decide⟩
theorem W.int {B x : Nat} {X : Int} (hx : W B x X) : -(B : Int) ≤ X ∧ X ≤ B := by have := hx.2; omega
/-- Half at least, or nothing. -/
theorem W.half {B x : Nat} {X : Int} (hx : W B x X) (hB : B ≤ 2147483648) : (fv x = 0 ∨ 1 / 2 ≤ ab (fv x)) ∧ ab (fv x) ≤ 2147483648 := by
  obtain ⟨h1, h2⟩ := hx
  rw [h1.2, ab_int]
  constructor
  · by_cases h : X = 0
    · left; rw [h]; rfl
    · right
      have : ((1 : Nat) : Rat) ≤ ((X.natAbs : Nat) : Rat) := natCast_le.2 (by omega)
      have e : ((1 : Nat) : Rat) = 1 := rfl
      grind
  · have : ((X.natAbs : Nat) : Rat) ≤ ((2147483648 : Nat) : Rat) := natCast_le.2 (by omega)
    have e : ((2147483648 : Nat) : Rat) = 2147483648 := by decide +kernel
    grind
theorem mul_self_nn (a : Int) : 0 ≤ a * a := by
  rcases Int.le_total 0 a with h | h
  · exact Int.mul_nonneg h h
  · have := Int.mul_nonneg (a := -a) (b := -a) (by omega) (by omega)
    rwa [Int.neg_mul_neg] at this
/-- The square of twice an area is at most the fourth power of the longest side. -/
theorem lagr {a b c d L : Int} (h1 : a * a + b * b ≤ L) (h2 : c * c + d * d ≤ L) : (a * d - b * c) * (a * d - b * c) ≤ L * L := by
  have e : (a * d - b * c) * (a * d - b * c) + (a * c + b * d) * (a * c + b * d) = (a * a + b * b) * (c * c + d * d) := by grind
  have h0 := mul_self_nn (a * c + b * d)
  have k0 : 0 ≤ c * c + d * d := by have := mul_self_nn c; have := mul_self_nn d; omega
  have k1 : 0 ≤ a * a + b * b := by have := mul_self_nn a; have := mul_self_nn b; omega
  have := Int.mul_le_mul h1 h2 k0 (by omega)
  omega
section
variable {M : Nat}
theorem square_eq {x y u v : Nat} {X Y U V : Int} (hx : W 1000 x X) (hy : W 1000 y Y) (hu : W 1000 u U) (hv : W 1000 v V) :
    ∃ z, spec_SquareN (M + 8) [x, y] [u, v] = some z ∧ W 8000000 z ((X - U) * (X - U) + (Y - V) * (Y - V)) := by
  obtain ⟨a, e1, h1⟩ := hx.sub hu (by decide)
  obtain ⟨b, e2, h2⟩ := h1.mul h1 (by decide)
  obtain ⟨c, e3, h3⟩ := W.zero.add h2 (by decide)
  obtain ⟨d, e4, h4⟩ := hy.sub hv (by decide)
  obtain ⟨f, e5, h5⟩ := h4.mul h4 (by decide)
  obtain ⟨g, e6, h6⟩ := h3.add h5 (by decide)
  refine ⟨g, ?_, ?_⟩
  · have k : spec_SquareN (M + 8) [x, y] [u, v] = (Ieee.double.sub x u).bind fun v14 => (Ieee.double.sub x u).bind fun v16 => (Ieee.double.mul v14 v16).bind fun v17 => (Ieee.double.add 0 v17).bind fun v18 =>
        (Ieee.double.sub y v).bind fun v14 => (Ieee.double.sub y v).bind fun v16 => (Ieee.double.mul v14 v16).bind fun v17 => (Ieee.double.add v18 v17).bind fun v18 => some v18 := by kernel_rfl
    rw [k]
    simp only [e1, e2, e3, e4, e5, e6, Option.bind_some]
  · rw [Int.zero_add] at h6
    exact h6.mono (by decide)
theorem same_eq {x y u v : Nat} {X Y U V : Int} (hx : W 1000 x X) (hy : W 1000 y Y) (hu : W 1000 u U) (hv : W 1000 v V) :
    spec_SamePoint (M + 8) [x, y] [u, v] = some (decide (X = U ∧ Y = V)) := by
  have k : spec_SamePoint (M + 8) [x, y] [u, v] = bif fne x u then some false else bif fne y v then some false else some true := by kernel_rfl
  rw [k, fne_wh hx.1 hu.1, fne_wh hy.1 hv.1]
  by_cases h1 : X = U <;> by_cases h2 : Y = V <;> simp [h1, h2]
theorem differ_eq {ax ay bx bY cx cy : Nat} {AX AY BX BY CX CY : Int} (h1 : W 1000 ax AX) (h2 : W 1000 ay AY) (h3 : W 1000 bx BX) (h4 : W 1000 bY BY) (h5 : W 1000 cx CX) (h6 : W 1000 cy CY) :
    ∃ t, spec_Differ (M + 8) [[ax, ay], [bx, bY], [cx, cy]] = some t ∧ (t = true → ¬ (BX = AX ∧ BY = AY) ∧ ¬ (CX = AX ∧ CY = AY) ∧ ¬ (CX = BX ∧ CY = BY)) := by
  have k : spec_Differ (M + 8) [[ax, ay], [bx, bY], [cx, cy]] = (spec_SamePoint (M + 8) [bx, bY] [ax, ay]).bind fun v16 => bif v16 then some false else
      (spec_SamePoint (M + 8) [cx, cy] [ax, ay]).bind fun v16 => bif v16 then some false else (spec_SamePoint (M + 8) [cx, cy] [bx, bY]).bind fun v16 => bif v16 then some false else some true := by kernel_rfl
  rw [k, same_eq h3 h4 h1 h2, same_eq h5 h6 h1 h2, same_eq h5 h6 h3 h4]
  simp only [Option.bind_some]
  by_cases q1 : BX = AX ∧ BY = AY
  · rw [decide_eq_true q1]; exact ⟨false, rfl, fun h => by cases h⟩
  · by_cases q2 : CX = AX ∧ CY = AY
    · rw [decide_eq_false q1, decide_eq_true q2]; exact ⟨false, rfl, fun h => by cases h⟩
    · by_cases q3 : CX = BX ∧ CY = BY
      · rw [decide_eq_false q1, decide_eq_false q2, decide_eq_true q3]; exact ⟨false, rfl, fun h => by cases h⟩
      · rw [decide_eq_false q1, decide_eq_false q2, decide_eq_false q3]; exact ⟨true, rfl, fun _ => ⟨q1, q2, q3⟩⟩
theorem area_eq {N ax ay bx bY cx cy : Nat} {AX AY BX BY CX CY : Int} (h1 : W 1000 ax AX) (h2 : W 1000 ay AY) (h3 : W 1000 bx BX) (h4 : W 1000 bY BY) (h5 : W 1000 cx CX) (h6 : W 1000 cy CY) :
    ∃ m, laws_squareArea2 N (ax, ay, ()) (bx, bY, ()) (cx, cy, ()) = (Ieee.double.div m 4616189618054758400).bind (fun z => some z) ∧
      W 64000000000000 m (((BX - AX) * (CY - AY) - (BY - AY) * (CX - AX)) * ((BX - AX) * (CY - AY) - (BY - AY) * (CX - AX))) := by
  obtain ⟨a, e1, k1⟩ := h3.sub h1 (by decide)
  obtain ⟨b, e2, k2⟩ := h6.sub h2 (by decide)
  obtain ⟨c, e3, k3⟩ := k1.mul k2 (by decide)
  obtain ⟨d, e4, k4⟩ := h4.sub h2 (by decide)
  obtain ⟨f, e5, k5⟩ := h5.sub h1 (by decide)
  obtain ⟨g, e6, k6⟩ := k4.mul k5 (by decide)
  obtain ⟨p, e7, k7⟩ := k3.sub k6 (by decide)
  obtain ⟨m, e8, k8⟩ := k7.mul k7 (by decide)
  refine ⟨m, ?_, k8⟩
  simp only [laws_squareArea2, laws_squareArea2_g, e1, e2, e3, e4, e5, e6, e7, e8, Option.bind_some]
/-- How far a place lies from a line. -/
theorem dist_eq {N px py qx qy rx ry : Nat} {PX PY QX QY RX RY : Int} (h1 : W 1000 px PX) (h2 : W 1000 py PY) (h3 : W 1000 qx QX) (h4 : W 1000 qy QY) (h5 : W 1000 rx RX) (h6 : W 1000 ry RY) (hne : ¬ (QX = PX ∧ QY = PY)) {S L : Int}
    (hS : S = ((QX - PX) * (PY - RY) - (PX - RX) * (QY - PY)) * ((QX - PX) * (PY - RY) - (PX - RX) * (QY - PY))) (hL : L = (QX - PX) * (QX - PX) + (QY - PY) * (QY - PY)) :
    ∃ num den, r2_line_distance N ((px, py, ()), (qx, qy, ()), ()) (rx, ry, ()) = (Ieee.double.div num den).bind (fun z => some z) ∧
      fin num = true ∧ 0 ≤ fv num ∧ (fv num = 0 ∨ 1 / 4 ≤ fv num) ∧ fv num ≤ 1099511627776 ∧ Ap (fv num * fv num) (S : Rat) 14 ∧
      fin den = true ∧ 1 / 2 ≤ fv den ∧ fv den ≤ 4294967296 ∧ Ap (fv den * fv den) (L : Rat) 14 := by
  obtain ⟨a, e1, k1⟩ := h3.sub h1 (by decide)
  obtain ⟨b, e2, k2⟩ := h2.sub h6 (by decide)
  obtain ⟨c, e3, k3⟩ := k1.mul k2 (by decide)
  obtain ⟨d, e4, k4⟩ := h1.sub h5 (by decide)
  obtain ⟨f, e5, k5⟩ := h4.sub h2 (by decide)
  obtain ⟨g, e6, k6⟩ := k4.mul k5 (by decide)
  obtain ⟨p, e7, k7⟩ := k3.sub k6 (by decide)
  obtain ⟨p1, p2⟩ := k1.half (by decide)
  obtain ⟨p3, p4⟩ := k5.half (by decide)
  have hz : ¬ (fv a = 0 ∧ fv f = 0) := by
    rw [k1.1.2, k5.1.2]
    rintro ⟨q1, q2⟩
    have q1 := (intCast_eq (a := QX - PX) (b := 0)).1 q1
    have q2 := (intCast_eq (a := QY - PY) (b := 0)).1 q2
    exact hne ⟨by omega, by omega⟩
  obtain ⟨n, en, fn, n1, n2, na⟩ := hypot_ap k1.1.1 k5.1.1 p1 p2 p3 p4 hz
  obtain ⟨p5, p6⟩ := k7.half (by decide)
  refine ⟨fabs p, n, ?_, ?_, ?_, ?_, ?_, ?_, fn, n1, n2, ?_⟩
  · simp only [r2_line_distance, r2_line_distance_g, e1, e2, e3, e4, e5, e6, e7, math_Hypot, math_Hypot_g, math_archHypot, en, abs_def, Option.bind_some]
  · rw [fabs_fin]; exact k7.1.1
  · rw [fabs_fv]; exact ab_nonneg _
  · rw [fabs_fv]
    rcases p5 with h | h
    · left; rw [h]; unfold ab; grind
    · right; grind
  · rw [fabs_fv]; grind
  · rw [fabs_fv, k7.1.2, ← ab_mul, ← Rat.intCast_mul, ← hS, ab_of_nonneg (by rw [hS]; exact (intCast_le (a := 0)).2 (mul_self_nn _))]
    exact (Ap.refl _).mono (by decide)
  · rw [hL, Rat.intCast_add, Rat.intCast_mul, Rat.intCast_mul, ← k1.1.2, ← k5.1.2]
    exact na
theorem sub_eq {N x y u v : Nat} {X Y U V : Int} (hx : W 1000 x X) (hy : W 1000 y Y) (hu : W 1000 u U) (hv : W 1000 v V) :
    ∃ a b z, r2_Sub N (x, y, ()) (u, v, ()) = some (a, b, ()) ∧ r2_Norm2 N (a, b, ()) = some z ∧ W 8000000 z ((X - U) * (X - U) + (Y - V) * (Y - V)) := by
  obtain ⟨a, e1, h1⟩ := hx.sub hu (by decide)
  obtain ⟨b, e2, h2⟩ := h1.mul h1 (by decide)
  obtain ⟨d, e4, h4⟩ := hy.sub hv (by decide)
  obtain ⟨f, e5, h5⟩ := h4.mul h4 (by decide)
  obtain ⟨g, e6, h6⟩ := h2.add h5 (by decide)
  refine ⟨a, d, g, ?_, ?_, h6.mono (by decide)⟩
  · simp only [r2_Sub, r2_Sub_g, e1, e4, Option.bind_some]
  · simp only [r2_Norm2, r2_Norm2_g, e2, e5, e6, Option.bind_some]
/-- Of the three sides the code takes the longest. -/
def onSide (N : Nat) (a b c : Nat × Nat × Unit) (tol : Nat) : Option Bool := (r2_line_distance N (a, b, ()) c).bind fun d => some (fle d tol)
theorem j1_0 (ax ay bx bY cx cy tol : Nat) : r2_Triangle_IsDegenerate_j1 (M + 8) tol ((ax, ay, ()), (bx, bY, ()), (cx, cy, ()), ()) 0 = onSide (M + 8) (ax, ay, ()) (bx, bY, ()) (cx, cy, ()) tol := by kernel_rfl
theorem j1_1 (ax ay bx bY cx cy tol : Nat) : r2_Triangle_IsDegenerate_j1 (M + 8) tol ((ax, ay, ()), (bx, bY, ()), (cx, cy, ()), ()) 1 = onSide (M + 8) (bx, bY, ()) (cx, cy, ()) (ax, ay, ()) tol := by kernel_rfl
theorem j1_2 (ax ay bx bY cx cy tol : Nat) : r2_Triangle_IsDegenerate_j1 (M + 8) tol ((ax, ay, ()), (bx, bY, ()), (cx, cy, ()), ()) 2 = onSide (M + 8) (cx, cy, ()) (ax, ay, ()) (bx, bY, ()) tol := by kernel_rfl
theorem degen_eq {tol ax ay bx bY cx cy : Nat} {AX AY BX BY CX CY : Int} (h1 : W 1000 ax AX) (h2 : W 1000 ay AY) (h3 : W 1000 bx BX) (h4 : W 1000 bY BY) (h5 : W 1000 cx CX) (h6 : W 1000 cy CY) {s0 s1 s2 : Int}
    (e0 : s0 = (BX - CX) * (BX - CX) + (BY - CY) * (BY - CY)) (e1 : s1 = (CX - AX) * (CX - AX) + (CY - AY) * (CY - AY)) (e2 : s2 = (AX - BX) * (AX - BX) + (AY - BY) * (AY - BY)) :
    (s1 < s0 → s2 < s0 → impl_Degenerate2 (M + 8) (ax, ay, ()) (bx, bY, ()) (cx, cy, ()) tol = onSide (M + 8) (bx, bY, ()) (cx, cy, ()) (ax, ay, ()) tol) ∧
    (s0 < s1 → s2 < s1 → impl_Degenerate2 (M + 8) (ax, ay, ()) (bx, bY, ()) (cx, cy, ()) tol = onSide (M + 8) (cx, cy, ()) (ax, ay, ()) (bx, bY, ()) tol) ∧
    (s0 < s2 → s1 < s2 → impl_Degenerate2 (M + 8) (ax, ay, ()) (bx, bY, ()) (cx, cy, ()) tol = onSide (M + 8) (ax, ay, ()) (bx, bY, ()) (cx, cy, ()) tol) := by
  obtain ⟨a, b, z, g1, g2, g3⟩ := sub_eq (N := M + 8) h3 h4 h1 h2
  obtain ⟨a', b', z', g1', g2', g3'⟩ := sub_eq (N := M + 8) h5 h6 h3 h4
  obtain ⟨a'', b'', z'', g1'', g2'', g3''⟩ := sub_eq (N := M + 8) h1 h2 h5 h6
  rw [show (BX - AX) * (BX - AX) + (BY - AY) * (BY - AY) = s2 by rw [e2]; grind] at g3
  rw [show (CX - BX) * (CX - BX) + (CY - BY) * (CY - BY) = s0 by rw [e0]; grind] at g3'
  rw [show (AX - CX) * (AX - CX) + (AY - CY) * (AY - CY) = s1 by rw [e1]; grind] at g3''
  have hN0 : 0 < M + 8 := by omega
  have hbind : ∀ {x : Option Bool}, x.bind (fun v8 => some v8) = x := fun {x} => by cases x <;> rfl
  simp only [impl_Degenerate2, impl_Degenerate2_g, impl_vec2, impl_vec2_g, Option.bind_some, r2_Triangle_IsDegenerate, r2_Triangle_IsDegenerate_g, g1, g2, g1', g2', g1'', g2'', r2_Triangle_IsDegenerate_j0, r2_Triangle_IsDegenerate_g0, gate_pos hN0,
    fgt_wh g3'.1 g3.1, fgt_wh g3''.1 g3.1, fgt_wh g3''.1 g3'.1, hbind, j1_0, j1_1, j1_2]
  clear e0 e1 e2 g3 g3' g3''
  refine ⟨fun q1 q2 => ?_, fun q1 q2 => ?_, fun q1 q2 => ?_⟩
  · rw [decide_eq_true (show s2 < s0 from q2), decide_eq_false (show ¬ s0 < s1 by omega)]; rfl
  · rw [decide_eq_true (show s2 < s1 from q2), decide_eq_true (show s0 < s1 from q1)]
    cases decide (s2 < s0) <;> rfl
  · rw [decide_eq_false (show ¬ s2 < s0 by omega), decide_eq_false (show ¬ s2 < s1 by omega)]; rfl
/-- The three sides are asked in turn. -/
theorem ties (v4 v20 v12 v15 v18 : Nat) (v1 v2 v3 : Nat × Nat × Unit) : ∃ k : Int, laws_FnDegenerate2_l1 (M + 8) (M + 8) v4 v20 v12 v15 v18 v1 v2 v3 0 0 = laws_FnDegenerate2_g1 (M + 8) v4 v20 v12 v15 v18 v1 v2 v3 (fun _ _ => none) (fun _ _ => none) k 3 ∧
    (¬ 1 < k → (feq v12 v20 = true → feq v15 v20 = false ∧ feq v18 v20 = false) ∧ (feq v15 v20 = true → feq v12 v20 = false ∧ feq v18 v20 = false) ∧ (feq v18 v20 = true → feq v12 v20 = false ∧ feq v15 v20 = false)) := by
  have k : laws_FnDegenerate2_l1 (M + 8) (M + 8) v4 v20 v12 v15 v18 v1 v2 v3 0 0 =
      bif feq v12 v20 then (bif feq v15 v20 then (bif feq v18 v20 then laws_FnDegenerate2_g1 (M + 8) v4 v20 v12 v15 v18 v1 v2 v3 (fun _ _ => none) (fun _ _ => none) 3 3 else laws_FnDegenerate2_g1 (M + 8) v4 v20 v12 v15 v18 v1 v2 v3 (fun _ _ => none) (fun _ _ => none) 2 3)
          else (bif feq v18 v20 then laws_FnDegenerate2_g1 (M + 8) v4 v20 v12 v15 v18 v1 v2 v3 (fun _ _ => none) (fun _ _ => none) 2 3 else laws_FnDegenerate2_g1 (M + 8) v4 v20 v12 v15 v18 v1 v2 v3 (fun _ _ => none) (fun _ _ => none) 1 3))
        else (bif feq v15 v20 then (bif feq v18 v20 then laws_FnDegenerate2_g1 (M + 8) v4 v20 v12 v15 v18 v1 v2 v3 (fun _ _ => none) (fun _ _ => none) 2 3 else laws_FnDegenerate2_g1 (M + 8) v4 v20 v12 v15 v18 v1 v2 v3 (fun _ _ => none) (fun _ _ => none) 1 3)
          else (bif feq v18 v20 then laws_FnDegenerate2_g1 (M + 8) v4 v20 v12 v15 v18 v1 v2 v3 (fun _ _ => none) (fun _ _ => none) 1 3 else laws_FnDegenerate2_g1 (M + 8) v4 v20 v12 v15 v18 v1 v2 v3 (fun _ _ => none) (fun _ _ => none) 0 3)) := by kernel_rfl
  rw [k]
  cases h1 : feq v12 v20 <;> cases h2 : feq v15 v20 <;> cases h3 : feq v18 v20 <;> simp only [cond_true, cond_false]
  · exact ⟨0, rfl, by simp⟩
  · exact ⟨1, rfl, by simp⟩
  · exact ⟨1, rfl, by simp⟩
  · exact ⟨2, rfl, by simp⟩
  · exact ⟨1, rfl, by simp⟩
  · exact ⟨2, rfl, by simp⟩
  · exact ⟨2, rfl, by simp⟩
  · exact ⟨3, rfl, by simp⟩
/-- What is asked at last. -/
theorem tail {tol l v12 v15 v18 m num den : Nat} {v1 v2 v3 P Q R : Nat × Nat × Unit} {S L k : Int} (hm : W 64000000000000 m S) (hS : 0 ≤ S) (hl : W 8000000 l L) (hL : 1 ≤ L) (hSL : S ≤ L * L)
    (ht : fin tol = true) (ht1 : 0 ≤ fv tol) (ht2 : fv tol ≤ 2000)
    (ha : laws_squareArea2 (M + 8) (v1.1, v1.2.1, ()) (v2.1, v2.2.1, ()) (v3.1, v3.2.1, ()) = (Ieee.double.div m 4616189618054758400).bind (fun z => some z))
    (hd : r2_line_distance (M + 8) (P, Q, ()) R = (Ieee.double.div num den).bind (fun z => some z))
    (hf : fin num = true ∧ 0 ≤ fv num ∧ (fv num = 0 ∨ 1 / 4 ≤ fv num) ∧ fv num ≤ 1099511627776 ∧ Ap (fv num * fv num) (S : Rat) 14 ∧
      fin den = true ∧ 1 / 2 ≤ fv den ∧ fv den ≤ 4294967296 ∧ Ap (fv den * fv den) (L : Rat) 14)
    (hi : ¬ 1 < k → impl_Degenerate2 (M + 8) (v1.1, v1.2.1, ()) (v2.1, v2.2.1, ()) (v3.1, v3.2.1, ()) tol = onSide (M + 8) P Q R tol) :
    laws_FnDegenerate2_g1 (M + 8) tol l v12 v15 v18 v1 v2 v3 (fun _ _ => none) (fun _ _ => none) k 3 = some true := by
  obtain ⟨f1, f2, f3, f4, f5, f6, f7, f8, f9⟩ := hf
  have := hm.int
  have := hl.int
  obtain ⟨a, b, c, h, e, x, ea, eb, ec, eh, ee, ex, hfin⟩ := height hS (by omega) hL (by omega) hSL hm.1 hl.1 (show (0 : Rat) ≤ 14 by decide) (show (14 : Rat) ≤ 57 / 2 by decide +kernel) f1 f2 f3 f4 f5 f6 f7 f8 f9 ht ht1 ht2
  have hs : math_Sqrt (M + 8) b = some c := by simp only [math_Sqrt, math_Sqrt_g, math_sqrt, ec, Option.bind_some]
  simp only [laws_FnDegenerate2_g1, show decide ((3 : Int) < 3) = false from rfl, cond_false, ha, ea, eb, hs, eh, ee, abs_def, Option.bind_some]
  by_cases hk : 1 < k
  · rw [show decide (k > 1) = true from decide_eq_true hk, cond_true]
  · rw [show decide (k > 1) = false from decide_eq_false hk, cond_false]
    cases hq : flt (fabs e) 4539628424389459968 with
    | true => rfl
    | false =>
      simp only [cond_false, hi hk, onSide, hd, ex, Option.bind_some, hfin hq, beq_self_eq_true]
theorem fge_down {x a b : Nat} (h : fge x a = true) (hb : isnan b = false) (hab : ikey b ≤ ikey a) : fge x b = true := by
  rw [fge_eq] at h ⊢
  simp only [Bool.and_eq_true, Bool.not_eq_true', Bool.or_eq_false_iff, decide_eq_true_eq] at h ⊢
  exact ⟨⟨h.1.1, hb⟩, by omega⟩
theorem tolf {v4 : Nat} (t1 : fge v4 4562146422526312448 = true) (t2 : fle v4 4656510908468559872 = true) : fin v4 = true ∧ 0 ≤ fv v4 ∧ fv v4 ≤ 2000 := by
  have n1 : fge v4 (fneg 4656510908468559872) = true := fge_down t1 (by decide +kernel) (by decide +kernel)
  have tf : fin v4 = true := fin_between b2000 n1 t2
  rw [fge_fv tf tol0.1, tol0.2, decide_eq_true_eq] at t1
  rw [fle_fv tf b2000.1, b2000.2, decide_eq_true_eq] at t2
  exact ⟨tf, Rat.le_trans (Rat.le_of_lt (P2_pos _)) t1, t2⟩
theorem pos {a b c d : Int} (h : ¬ (a = b ∧ c = d)) : 1 ≤ (a - b) * (a - b) + (c - d) * (c - d) := by
  have h1 := mul_self_nn (a - b)
  have h2 := mul_self_nn (c - d)
  refine Int.not_lt.1 fun h3 => h ?_
  have z1 : (a - b) * (a - b) = 0 := by omega
  have z2 : (c - d) * (c - d) = 0 := by omega
  have k1 : a - b = 0 := by rcases Int.mul_eq_zero.1 z1 with h | h <;> exact h
  have k2 : c - d = 0 := by rcases Int.mul_eq_zero.1 z2 with h | h <;> exact h
  constructor <;> omega
theorem sides {AX AY BX BY CX CY s0 s1 s2 S L : Int} (d1 : ¬ (BX = AX ∧ BY = AY)) (e1 : s1 = (CX - AX) * (CX - AX) + (CY - AY) * (CY - AY)) (e2 : s2 = (AX - BX) * (AX - BX) + (AY - BY) * (AY - BY))
    (hL : L = max (max s0 s1) s2) (hS : S = ((BX - AX) * (CY - AY) - (BY - AY) * (CX - AX)) * ((BX - AX) * (CY - AY) - (BY - AY) * (CX - AX))) : 0 ≤ S ∧ S ≤ L * L ∧ 1 ≤ L := by
  have u2 : (BX - AX) * (BX - AX) + (BY - AY) * (BY - AY) = s2 := by rw [e2]; grind
  have p := pos d1
  rw [u2] at p
  refine ⟨by rw [hS]; exact mul_self_nn _, ?_, by clear e1 e2 hS u2; omega⟩
  rw [hS]
  refine lagr ?_ ?_
  · rw [u2]; clear e1 e2 hS u2; omega
  · rw [← e1]; clear e1 e2 hS u2; omega
theorem twist1 {AX AY BX BY CX CY : Int} : ((BX - AX) * (CY - AY) - (BY - AY) * (CX - AX)) * ((BX - AX) * (CY - AY) - (BY - AY) * (CX - AX)) = ((CX - BX) * (BY - AY) - (BX - AX) * (CY - BY)) * ((CX - BX) * (BY - AY) - (BX - AX) * (CY - BY)) := by grind
theorem twist2 {AX AY BX BY CX CY : Int} : ((BX - AX) * (CY - AY) - (BY - AY) * (CX - AX)) * ((BX - AX) * (CY - AY) - (BY - AY) * (CX - AX)) = ((AX - CX) * (CY - BY) - (CX - BX) * (AY - CY)) * ((AX - CX) * (CY - BY) - (CX - BX) * (AY - CY)) := by grind
theorem twist3 {AX AY BX BY CX CY : Int} : ((BX - AX) * (CY - AY) - (BY - AY) * (CX - AX)) * ((BX - AX) * (CY - AY) - (BY - AY) * (CX - AX)) = ((BX - AX) * (AY - CY) - (AX - CX) * (BY - AY)) * ((BX - AX) * (AY - CY) - (AX - CX) * (BY - AY)) := by grind
theorem flip {a b c d : Int} : (a - b) * (a - b) + (c - d) * (c - d) = (b - a) * (b - a) + (d - c) * (d - c) := by grind
theorem core {v4 ax ay bx bY cx cy z0 z1 z2 l2 : Nat} {AX AY BX BY CX CY s0 s1 s2 L : Int} (w1 : W 1000 ax AX) (w2 : W 1000 ay AY) (w3 : W 1000 bx BX) (w4 : W 1000 bY BY) (w5 : W 1000 cx CX) (w6 : W 1000 cy CY)
    (d1 : ¬ (BX = AX ∧ BY = AY)) (d2 : ¬ (CX = AX ∧ CY = AY)) (d3 : ¬ (CX = BX ∧ CY = BY)) (tf : fin v4 = true) (t3 : 0 ≤ fv v4) (t4 : fv v4 ≤ 2000)
    (e0 : s0 = (BX - CX) * (BX - CX) + (BY - CY) * (BY - CY)) (e1 : s1 = (CX - AX) * (CX - AX) + (CY - AY) * (CY - AY)) (e2 : s2 = (AX - BX) * (AX - BX) + (AY - BY) * (AY - BY))
    (r0 : W 8000000 z0 s0) (r1 : W 8000000 z1 s1) (r2 : W 8000000 z2 s2) (n2 : Wh l2 L) (hL : L = max (max s0 s1) s2) :
    laws_FnDegenerate2_l1 (M + 8) (M + 8) v4 l2 z0 z1 z2 (ax, ay, ()) (bx, bY, ()) (cx, cy, ()) 0 0 = some true := by
  have lw : W 8000000 l2 L := ⟨n2, by have := r0.int; have := r1.int; have := r2.int; clear e0 e1 e2; omega⟩
  obtain ⟨k, ek, hk⟩ := ties (M := M) v4 l2 z0 z1 z2 (ax, ay, ()) (bx, bY, ()) (cx, cy, ())
  rw [ek]
  rw [feq_wh r0.1 n2, feq_wh r1.1 n2, feq_wh r2.1 n2] at hk
  simp only [decide_eq_true_eq, decide_eq_false_iff_not] at hk
  obtain ⟨m, am, wm⟩ := area_eq (N := M + 8) w1 w2 w3 w4 w5 w6
  obtain ⟨g0, g1, g2⟩ := degen_eq (M := M) (tol := v4) w1 w2 w3 w4 w5 w6 e0 e1 e2
  obtain ⟨S, hS⟩ : ∃ S, S = ((BX - AX) * (CY - AY) - (BY - AY) * (CX - AX)) * ((BX - AX) * (CY - AY) - (BY - AY) * (CX - AX)) := ⟨_, rfl⟩
  obtain ⟨hS0, hSL, L1⟩ := sides d1 e1 e2 hL hS
  rw [← hS] at wm
  have cases3 : L = s0 ∨ L = s1 ∨ L = s2 := by clear e0 e1 e2 hS; omega
  rcases cases3 with hc | hc | hc
  · obtain ⟨num, den, ed, hf⟩ := dist_eq (N := M + 8) w3 w4 w5 w6 w1 w2 (by rintro ⟨u, v⟩; exact d3 ⟨u, v⟩) (S := S) (L := L) (by rw [hS]; exact twist1) (by rw [hc, e0]; exact flip)
    refine tail wm hS0 lw L1 hSL tf t3 t4 am ed hf fun hk1 => g0 ?_ ?_
    · have := (hk hk1).1 hc.symm; clear e0 e1 e2 hS; omega
    · have := (hk hk1).1 hc.symm; clear e0 e1 e2 hS; omega
  · obtain ⟨num, den, ed, hf⟩ := dist_eq (N := M + 8) w5 w6 w1 w2 w3 w4 (by rintro ⟨u, v⟩; exact d2 ⟨u.symm, v.symm⟩) (S := S) (L := L) (by rw [hS]; exact twist2) (by rw [hc, e1]; exact flip)
    refine tail wm hS0 lw L1 hSL tf t3 t4 am ed hf fun hk1 => g1 ?_ ?_
    · have := (hk hk1).2.1 hc.symm; clear e0 e1 e2 hS; omega
    · have := (hk hk1).2.1 hc.symm; clear e0 e1 e2 hS; omega
  · obtain ⟨num, den, ed, hf⟩ := dist_eq (N := M + 8) w1 w2 w3 w4 w5 w6 (by rintro ⟨u, v⟩; exact d1 ⟨u, v⟩) (S := S) (L := L) (by rw [hS]; exact twist3) (by rw [hc, e2]; exact flip)
    refine tail wm hS0 lw L1 hSL tf t3 t4 am ed hf fun hk1 => g2 ?_ ?_
    · have := (hk hk1).2.2 hc.symm; clear e0 e1 e2 hS; omega
    · have := (hk hk1).2.2 hc.symm; clear e0 e1 e2 hS; omega
end
end Go.Proofs.Ytlbbldhbggfoaaa.PvDegen2
namespace Go.Proofs.Ytlbbldhbggfoaaa.PvDegen2L
open Go.Av Go
open Go.Proofs.Ytlbbldhbggfoaaa.D2
open Go.Proofs.Ytlbbldhbggfoaaa.PvGridD2
open Go.Proofs.Ytlbbldhbggfoaaa.PvHeight
open Go.Proofs.Ytlbbldhbggfoaaa.PvDegen2
theorem law (v1 v2 v3 : Nat × Nat × Unit) (v4 : Nat) : laws_FnDegenerate2 18446744073709551616 v1 v2 v3 v4 = some true := by
  generalize hN : 18446744073709551616 = N
  obtain ⟨M, rfl⟩ : ∃ M, N = M + 8 := ⟨N - 8, by omega⟩
  have hN0 : 0 < M + 8 := by omega
  obtain ⟨ax, ay, ⟨⟩⟩ := v1
  obtain ⟨bx, bY, ⟨⟩⟩ := v2
  obtain ⟨cx, cy, ⟨⟩⟩ := v3
  unfold laws_FnDegenerate2 laws_FnDegenerate2_g laws_off2_b laws_off2_b_g
  simp only [Option.bind_some, laws_FnDegenerate2_j0, laws_FnDegenerate2_g0, gate_pos hN0]
  generalize hG : laws_FnDegenerate2_l1 (M + 8) (M + 8) = G
  obtain ⟨t, h1, h2⟩ := grid (N := M + 8) b1000 (by decide) (v2 := 2) [[ax, ay], [bx, bY], [cx, cy]] (by simp) (by intro l hl; simp at hl; rcases hl with rfl | rfl | rfl <;> simp) (by omega) (by simp) (by intro l hl; simp at hl; rcases hl with rfl | rfl | rfl <;> simp)
  rw [h1, Option.bind_some]
  cases t with
  | false => simp only [Bool.not_false, cond_true, cond_false]
  | true =>
    have h2 := (h2 rfl).2
    have ww : ∀ {x : Nat}, In 1000 x → ∃ X, W 1000 x X := fun {x} ⟨X, h, h3, h4⟩ => ⟨X, h, by omega⟩
    obtain ⟨AX, w1⟩ := ww ((h2 [ax, ay] (by simp)).2 ax (by simp))
    obtain ⟨AY, w2⟩ := ww ((h2 [ax, ay] (by simp)).2 ay (by simp))
    obtain ⟨BX, w3⟩ := ww ((h2 [bx, bY] (by simp)).2 bx (by simp))
    obtain ⟨BY, w4⟩ := ww ((h2 [bx, bY] (by simp)).2 bY (by simp))
    obtain ⟨CX, w5⟩ := ww ((h2 [cx, cy] (by simp)).2 cx (by simp))
    obtain ⟨CY, w6⟩ := ww ((h2 [cx, cy] (by simp)).2 cy (by simp))
    clear h1 h2
    simp only [Bool.not_true, cond_false]
    obtain ⟨t, h1, h2⟩ := differ_eq (M := M) w1 w2 w3 w4 w5 w6
    rw [h1, Option.bind_some]
    cases t with
    | false => simp only [Bool.not_false, cond_true, cond_false]
    | true =>
      obtain ⟨d1, d2, d3⟩ := h2 rfl
      simp only [Bool.not_true, cond_false]
      cases t1 : fge v4 4562146422526312448 with
      | false => simp only [Bool.not_false, cond_true, cond_false]
      | true =>
        cases t2 : fle v4 4656510908468559872 with
        | false => simp only [Bool.not_false, cond_true, cond_false]
        | true =>
          have key : ∀ (x : Option Bool), (bif true then (bif !true then some true else x) else some true) = x := fun _ => rfl
          refine (key _).trans ?_
          obtain ⟨tf, t3, t4⟩ := tolf t1 t2
          obtain ⟨z0, q0, r0⟩ := square_eq (M := M) w3 w4 w5 w6
          obtain ⟨z1, q1, r1⟩ := square_eq (M := M) w5 w6 w1 w2
          obtain ⟨z2, q2, r2⟩ := square_eq (M := M) w1 w2 w3 w4
          have n0 : ∀ (a b c : List Nat), nth [a, b, c] 0 = some a := fun _ _ _ => rfl
          have n1 : ∀ (a b c : List Nat), nth [a, b, c] 1 = some b := fun _ _ _ => rfl
          have n2 : ∀ (a b c : List Nat), nth [a, b, c] 2 = some c := fun _ _ _ => rfl
          rw [n1, n2, n0, Option.bind_some, Option.bind_some, q0, Option.bind_some, Option.bind_some, Option.bind_some, q1, Option.bind_some, Option.bind_some, Option.bind_some, q2, Option.bind_some]
          clear n0 n1 n2
          obtain ⟨s0, e0⟩ : ∃ s, s = (BX - CX) * (BX - CX) + (BY - CY) * (BY - CY) := ⟨_, rfl⟩
          obtain ⟨s1, e1⟩ : ∃ s, s = (CX - AX) * (CX - AX) + (CY - AY) * (CY - AY) := ⟨_, rfl⟩
          obtain ⟨s2, e2⟩ : ∃ s, s = (AX - BX) * (AX - BX) + (AY - BY) * (AY - BY) := ⟨_, rfl⟩
          rw [← e0] at r0
          rw [← e1] at r1
          rw [← e2] at r2
          obtain ⟨l1, m1, n1⟩ := fmm_wh r0.1 r1.1 true
          obtain ⟨l2, m2, n2⟩ := fmm_wh n1 r2.1 true
          rw [m1, Option.bind_some, m2, Option.bind_some]
          simp only [cond_true] at n2
          obtain ⟨L, hL⟩ : ∃ L, L = max (max s0 s1) s2 := ⟨_, rfl⟩
          rw [← hL] at n2
          rw [← hG]
          exact core w1 w2 w3 w4 w5 w6 d1 d2 d3 tf t3 t4 e0 e1 e2 r0 r1 r2 n2 hL
end Go.Proofs.Ytlbbldhbggfoaaa.PvDegen2L
