/- Rounding sums, products: what comes of finite numbers, as rational numbers. -/
import Derived.Test.YtjabjnkiddldeaaGreatFl3
set_option linter.unusedVariables false
set_option linter.unusedSimpArgs false
namespace Go.Av
open Go
/-- z is v, rounded. -/
structure Rnd (z : Nat) (v : Rat) : Prop where
  fin : fin z = true
  hi : ∀ r, Rep r → v ≤ r → fv z ≤ r
  lo : ∀ r, Rep r → r ≤ v → r ≤ fv z
  e1 : fv z - v ≤ ab v * P2 (-52) + P2 (-1074)
  e2 : v - fv z ≤ ab v * P2 (-52) + P2 (-1074)
theorem Rnd.exact {z : Nat} {v : Rat} (h : Rnd z v) (hr : Rep v) : fv z = v := Rat.le_antisymm (h.hi v hr Rat.le_refl) (h.lo v hr Rat.le_refl)
theorem natCast_le {a b : Nat} : (a : Rat) ≤ (b : Rat) ↔ a ≤ b := by exact_mod_cast Iff.rfl
theorem natCast_nonneg (a : Nat) : (0 : Rat) ≤ (a : Rat) := by exact_mod_cast Nat.zero_le a
theorem mul_le {a b c : Rat} (hc : 0 < c) : a * c ≤ b * c ↔ a ≤ b := by
  constructor
  · intro h
    rcases (Rat.le_total : a ≤ b ∨ b ≤ a) with h' | h'
    · exact h'
    · have := Rat.mul_le_mul_of_nonneg_right h' (Rat.le_of_lt hc)
      have e : a * c = b * c := Rat.le_antisymm h this
      have : a = b := by
        have : (a - b) * c = 0 := by grind
        rcases Rat.mul_eq_zero.1 this with h1 | h1 <;> grind
      grind
  · intro h; exact Rat.mul_le_mul_of_nonneg_right h (Rat.le_of_lt hc)
theorem P2_split (E : Int) (d : Nat) : P2 E = ((2 ^ d : Nat) : Rat) * P2 (E - d) := by
  rw [← P2_nat, ← P2_add]; congr 1; omega
theorem lin_up {A N D P E X : Rat} (h : 2 * (A * D) * P ≤ (2 * N + D) * P) (hs : E = D * P) (hu : E ≤ X) : 2 * (A * E) ≤ 2 * (N * P) + X := by
  subst hs
  have e1 : 2 * (A * D) * P = 2 * (A * (D * P)) := by grind
  have e2 : (2 * N + D) * P = 2 * (N * P) + D * P := by grind
  rw [e1, e2] at h
  generalize A * (D * P) = a at *; generalize D * P = b at *; generalize N * P = c at *
  grind
theorem lin_dn {A N D P E X : Rat} (h : 2 * N * P ≤ (2 * (A * D) + D) * P) (hs : E = D * P) (hu : E ≤ X) : 2 * (N * P) ≤ 2 * (A * E) + X := by
  subst hs
  have e1 : 2 * N * P = 2 * (N * P) := by grind
  have e2 : (2 * (A * D) + D) * P = 2 * (A * (D * P)) + D * P := by grind
  rw [e1, e2] at h
  generalize A * (D * P) = a at *; generalize D * P = b at *; generalize N * P = c at *
  grind
/-- The sides of a rounding. -/
theorem rne_rnd (L n d : Nat) (h1 : n < 9007199254740992 * 2 ^ d) (h2 : L = 0 ∨ 4503599627370496 * 2 ^ d ≤ n) :
    (∀ r, Rep r → (n : Rat) * P2 (L - 1074 - d) ≤ r → (rne n d : Rat) * P2 (L - 1074) ≤ r) ∧
    (∀ r, Rep r → r ≤ (n : Rat) * P2 (L - 1074 - d) → r ≤ (rne n d : Rat) * P2 (L - 1074)) ∧
    2 * ((rne n d : Rat) * P2 (L - 1074)) ≤ 2 * ((n : Rat) * P2 (L - 1074 - d)) + (((n : Rat) * P2 (L - 1074 - d)) * P2 (-52) + P2 (-1074)) ∧
    2 * ((n : Rat) * P2 (L - 1074 - d)) ≤ 2 * ((rne n d : Rat) * P2 (L - 1074)) + (((n : Rat) * P2 (L - 1074 - d)) * P2 (-52) + P2 (-1074)) := by
  generalize hE : (L : Int) - 1074 = E
  have hp : 0 < P2 (E - d) := P2_pos _
  have hpE : 0 < P2 E := P2_pos _
  have hs := P2_split E d
  have h52 : P2 (-52) * 4503599627370496 = 1 := by
    have : P2 (((52 : Nat) : Int)) = ((2 ^ 52 : Nat) : Rat) := P2_nat 52
    have h2 : P2 (-52) * P2 (((52 : Nat) : Int)) = 1 := by rw [← P2_add]; exact P2_zero
    rw [this] at h2; exact h2
  have hulp : P2 E ≤ ((n : Rat) * P2 (E - d)) * P2 (-52) + P2 (-1074) := by
    have h52p : 0 < P2 (-52) := P2_pos _
    have h1074p : 0 < P2 (-1074) := P2_pos _
    have hn : (0 : Rat) ≤ (n : Rat) * P2 (E - d) := Rat.mul_nonneg (natCast_nonneg n) (Rat.le_of_lt hp)
    have hn2 : (0 : Rat) ≤ ((n : Rat) * P2 (E - d)) * P2 (-52) := Rat.mul_nonneg hn (Rat.le_of_lt h52p)
    rcases h2 with h2 | h2
    · have : E = -1074 := by omega
      subst this; grind
    · have h3 : ((4503599627370496 * 2 ^ d : Nat) : Rat) ≤ (n : Rat) := natCast_le.2 h2
      rw [Rat.natCast_mul] at h3
      have h4 := (mul_le hp).2 h3
      have h5 : (4503599627370496 : Rat) * P2 E ≤ (n : Rat) * P2 (E - d) := by
        rw [hs]; have : ((4503599627370496 : Nat) : Rat) = 4503599627370496 := rfl
        grind
      have h6 := (mul_le h52p).2 h5
      have h7 : (4503599627370496 : Rat) * P2 E * P2 (-52) = P2 E := by
        rw [Rat.mul_comm 4503599627370496 (P2 E), Rat.mul_assoc, Rat.mul_comm 4503599627370496 (P2 (-52)), h52, Rat.mul_one]
      rw [h7] at h6
      exact Rat.le_trans h6 (by generalize (n : Rat) * P2 (E - d) * P2 (-52) = C; generalize P2 (-1074) = B at *; clear hs h5 h4 h3 hn hn2 h7 h6; grind)
  have both : ∀ (K : Nat), ((n : Rat) * P2 (E - d) ≤ (K : Rat) * P2 E → (rne n d : Rat) * P2 E ≤ (K : Rat) * P2 E) ∧ ((K : Rat) * P2 E ≤ (n : Rat) * P2 (E - d) → (K : Rat) * P2 E ≤ (rne n d : Rat) * P2 E) := by
    intro K
    have e : (K : Rat) * P2 E = ((K * 2 ^ d : Nat) : Rat) * P2 (E - d) := by rw [hs, Rat.natCast_mul]; grind
    constructor
    · intro h
      rw [e, mul_le hp, natCast_le] at h
      exact (mul_le hpE).2 (natCast_le.2 (rne_le h))
    · intro h
      rw [e, mul_le hp, natCast_le] at h
      exact (mul_le hpE).2 (natCast_le.2 (le_rne h))
  have hn0 : (0 : Rat) ≤ (n : Rat) * P2 (E - d) := Rat.mul_nonneg (natCast_nonneg n) (Rat.le_of_lt hp)
  have ha0 : (0 : Rat) ≤ (rne n d : Rat) * P2 E := Rat.mul_nonneg (natCast_nonneg _) (Rat.le_of_lt hpE)
  have rep : ∀ r, Rep r → (∃ K : Nat, r = (K : Rat) * P2 E) ∨ r ≤ 0 ∨ (r ≤ ((4503599627370496 : Nat) : Rat) * P2 E ∧ ((4503599627370496 : Nat) : Rat) * P2 E ≤ (n : Rat) * P2 (E - d)) := by
    rintro r ⟨k, q, hk, hq, rfl⟩
    have hq0 := P2_pos q
    rcases Int.le_total k 0 with hk0 | hk0
    · right; left
      have : (k : Rat) ≤ 0 := by exact_mod_cast hk0
      have := (mul_le hq0).2 this
      grind
    · obtain ⟨k, rfl⟩ := Int.eq_ofNat_of_zero_le hk0
      rcases Int.lt_or_le q E with hqE | hqE
      · right; right
        constructor
        · have e1 : P2 E = P2 (E - 1) * 2 := by
            have := P2_of (i := E) (j := E - 1) (k := ((1 : Nat) : Int)) (by omega)
            rw [this, P2_nat]; rfl
          have h3 := P2_le (i := q) (j := E - 1) (by omega)
          have h4 : (k : Rat) ≤ ((9007199254740992 : Nat) : Rat) := natCast_le.2 (by omega)
          have h5 := (mul_le hq0).2 h4
          have h6 := Rat.mul_le_mul_of_nonneg_left h3 (natCast_nonneg 9007199254740992)
          have c1 : ((9007199254740992 : Nat) : Rat) = 9007199254740992 := rfl
          have c2 : ((4503599627370496 : Nat) : Rat) = 4503599627370496 := rfl
          have c3 : (((k : Nat) : Int) : Rat) = ((k : Nat) : Rat) := rfl
          rw [e1]
          grind
        · rcases h2 with h2 | h2
          · omega
          · have h3 : ((4503599627370496 * 2 ^ d : Nat) : Rat) ≤ (n : Rat) := natCast_le.2 h2
            rw [Rat.natCast_mul] at h3
            have h4 := (mul_le hp).2 h3
            rw [hs]; grind
      · left
        refine ⟨k * 2 ^ (q - E).toNat, ?_⟩
        rw [Rat.natCast_mul, ← P2_nat, P2_of (i := q) (j := E) (k := ((q - E).toNat : Int)) (by omega)]
        have c3 : (((k : Nat) : Int) : Rat) = ((k : Nat) : Rat) := rfl
        rw [c3]; grind
  refine ⟨fun r hr h => ?_, fun r hr h => ?_, ?_, ?_⟩
  · rcases rep r hr with ⟨K, rfl⟩ | h' | ⟨h', h''⟩
    · exact (both K).1 h
    · have : (n : Rat) * P2 (E - d) = 0 := by grind
      have := (both 0).1 (by rw [this]; have : ((0 : Nat) : Rat) = 0 := rfl; grind)
      have z : ((0 : Nat) : Rat) = 0 := rfl
      grind
    · have := (both 4503599627370496).1 (Rat.le_trans h h')
      exact Rat.le_trans this (Rat.le_trans h'' h)
  · rcases rep r hr with ⟨K, rfl⟩ | h' | ⟨h', h''⟩
    · exact (both K).2 h
    · grind
    · have := (both 4503599627370496).2 h''
      grind
  · have h3 := (rne_err n d).1
    have h4 : ((2 * (rne n d * 2 ^ d) : Nat) : Rat) ≤ ((2 * n + 2 ^ d : Nat) : Rat) := natCast_le.2 h3
    rw [Rat.natCast_mul, Rat.natCast_mul, Rat.natCast_add, Rat.natCast_mul] at h4
    have h5 := (mul_le hp).2 h4
    have c1 : ((2 : Nat) : Rat) = 2 := rfl
    rw [c1] at h5
    exact lin_up h5 hs hulp
  · have h3 := (rne_err n d).2
    have h4 : ((2 * n : Nat) : Rat) ≤ ((2 * (rne n d * 2 ^ d) + 2 ^ d : Nat) : Rat) := natCast_le.2 h3
    rw [Rat.natCast_add, Rat.natCast_mul, Rat.natCast_mul, Rat.natCast_mul] at h4
    have h5 := (mul_le hp).2 h4
    have c1 : ((2 : Nat) : Rat) = 2 := rfl
    rw [c1] at h5
    exact lin_dn h5 hs hulp
def sg (s : Bool) (v : Rat) : Rat := if s then -v else v
theorem fv_eq (x : Nat) : fv x = sg (sgn x) ((val (rung x) : Rat) * P2 (-1074)) := by
  unfold fv ival sg
  cases sgn x
  · rfl
  · simp only [if_true, Rat.intCast_neg]
    have : (((val (rung x) : Nat) : Int) : Rat) = ((val (rung x) : Nat) : Rat) := rfl
    rw [this]; grind
theorem nearest_rnd (s : Bool) (m : Nat) (p : Int) (hb : m = 0 ∨ p + m.log2 ≤ 1022) : Rnd (Ieee.double.nearest s m p) (sg s ((m : Rat) * P2 p)) ∧ sgn (Ieee.double.nearest s m p) = s := by
  have u0 : 0 < P2 (-1074) := P2_pos _
  have u1 : 0 < P2 (-52) := P2_pos _
  by_cases hm : m = 0
  · subst hm
    have e : Ieee.double.nearest s 0 p = Ieee.double.word s 0 := by unfold Ieee.Format.nearest; rw [if_pos rfl]
    have hw := rung_word s (r := 0) (by omega)
    have z : sg s (((0 : Nat) : Rat) * P2 p) = 0 := by
      have z : ((0 : Nat) : Rat) = 0 := rfl
      unfold sg; grind
    have f0 : fv (Ieee.double.word s 0) = 0 := by
      rw [fv_eq, hw.1, hw.2, val_zero]
      have z : ((0 : Nat) : Rat) = 0 := rfl
      unfold sg; grind
    rw [e, z]
    refine ⟨⟨by unfold Go.Av.fin; rw [hw.1]; rfl, fun r _ h => by rw [f0]; exact h, fun r _ h => by rw [f0]; exact h, ?_, ?_⟩, hw.2⟩
    · rw [f0]; have := Rat.mul_nonneg (ab_nonneg 0) (Rat.le_of_lt u1); grind
    · rw [f0]; have := Rat.mul_nonneg (ab_nonneg 0) (Rat.le_of_lt u1); grind
  · obtain ⟨L, n, d, h1, h2, h3, h4, h5, h6⟩ := nearest_parts s m p hm (hb.resolve_left hm)
    have hr := rne_rnd L n d h4 h5
    have h7 := rne_le (K := 9007199254740992) (Nat.le_of_lt h4)
    have hv : L = 0 ∨ 4503599627370496 ≤ rne n d := h5.imp id le_rne
    have hval := val_rung L (rne n d) h7 hv
    have ha : (val (rung (Ieee.double.nearest s m p)) : Rat) * P2 (-1074) = (rne n d : Rat) * P2 (L - 1074) := by
      rw [h1, hval, Rat.natCast_mul, ← P2_nat, P2_of (i := (L : Int) - 1074) (j := (L : Int)) (k := -1074) (by omega)]; grind
    have hf : fv (Ieee.double.nearest s m p) = sg s ((rne n d : Rat) * P2 (L - 1074)) := by rw [fv_eq, h3, ha]
    have hfin : Go.Av.fin (Ieee.double.nearest s m p) = true := by
      unfold Go.Av.fin; rw [h1]; have := small_rung h2 h7; simp only [decide_eq_true_eq]; omega
    rw [h6] at hr
    obtain ⟨r1, r2, r3, r4⟩ := hr
    have hV : (0 : Rat) ≤ (m : Rat) * P2 p := Rat.mul_nonneg (natCast_nonneg m) (Rat.le_of_lt (P2_pos p))
    have hVe := Rat.mul_nonneg hV (Rat.le_of_lt u1)
    have hab : ab (sg s ((m : Rat) * P2 p)) = (m : Rat) * P2 p := by
      unfold sg; cases s
      · exact ab_of_nonneg hV
      · simp only [if_true]; rw [ab_neg]; exact ab_of_nonneg hV
    generalize (m : Rat) * P2 p = V at *
    generalize (rne n d : Rat) * P2 (L - 1074) = A at *
    refine ⟨⟨hfin, ?_, ?_, ?_, ?_⟩, h3⟩
    · intro r hr h
      rw [hf]; unfold sg at h ⊢
      cases s
      · exact r1 r hr h
      · have := r2 (-r) (rep_neg hr) (by simp only [if_true] at h; grind)
        simp only [if_true]; grind
    · intro r hr h
      rw [hf]; unfold sg at h ⊢
      cases s
      · exact r2 r hr h
      · have := r1 (-r) (rep_neg hr) (by simp only [if_true] at h; grind)
        simp only [if_true]; grind
    · rw [hf, hab]; unfold sg; cases s <;> simp only [Bool.false_eq_true, if_true, if_false] <;> grind
    · rw [hf, hab]; unfold sg; cases s <;> simp only [Bool.false_eq_true, if_true, if_false] <;> grind
end Go.Av
