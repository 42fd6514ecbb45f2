/- Rounding, in rational numbers. -/
import Derived.Test.YtjabjnkiddldeaaGreatFl2
set_option linter.unusedVariables false
set_option linter.unusedSimpArgs false
namespace Go.Av
open Go
/-- A power of two. -/
def P2 (i : Int) : Rat := (2 : Rat) ^ i
theorem P2_pos (i : Int) : 0 < P2 i := Rat.zpow_pos (by decide)
theorem P2_add (i j : Int) : P2 (i + j) = P2 i * P2 j := Rat.zpow_add (by decide) i j
theorem P2_zero : P2 0 = 1 := by unfold P2; exact Rat.zpow_zero 2
theorem P2_nat (n : Nat) : P2 (n : Int) = ((2 ^ n : Nat) : Rat) := by
  unfold P2; rw [Rat.zpow_natCast, Rat.natCast_pow]; rfl
theorem P2_of {i j k : Int} (h : i = j + k) : P2 i = P2 j * P2 k := by rw [h, P2_add]
theorem P2_le {i j : Int} (h : i ≤ j) : P2 i ≤ P2 j := by
  have e : P2 j = P2 i * P2 ((j - i).toNat : Int) := P2_of (by omega)
  rw [e, P2_nat]
  have h1 := P2_pos i
  have h2 : (1 : Rat) ≤ ((2 ^ (j - i).toNat : Nat) : Rat) := by
    have : (1 : Nat) ≤ 2 ^ (j - i).toNat := Nat.two_pow_pos _
    exact_mod_cast this
  have h3 := Rat.mul_le_mul_of_nonneg_left h2 (Rat.le_of_lt h1)
  grind
theorem P2_lt_iff {i j : Int} : P2 i < P2 j ↔ i < j := by
  constructor
  · intro h
    rcases Int.lt_or_le i j with h' | h'
    · exact h'
    · have := P2_le h'; grind
  · intro h
    have e : P2 j = P2 (j - 1) * P2 1 := P2_of (by omega)
    have e1 : P2 1 = 2 := by rw [show (1 : Int) = ((1 : Nat) : Int) from rfl, P2_nat]; rfl
    have h1 := P2_le (i := i) (j := j - 1) (by omega)
    have h2 := P2_pos (j - 1)
    rw [e, e1]; grind
/-- What a double stands for. -/
def fv (x : Nat) : Rat := (ival x : Rat) * P2 (-1074)
/-- Numbers that a double can stand for. -/
def Rep (r : Rat) : Prop := ∃ (k q : Int), k.natAbs ≤ 9007199254740992 ∧ -1074 ≤ q ∧ r = (k : Rat) * P2 q
def ab (v : Rat) : Rat := if 0 ≤ v then v else -v
theorem ab_nonneg (v : Rat) : 0 ≤ ab v := by unfold ab; grind
theorem ab_neg (v : Rat) : ab (-v) = ab v := by unfold ab; grind
theorem ab_of_nonneg {v : Rat} (h : 0 ≤ v) : ab v = v := by unfold ab; grind
theorem rep_neg {r : Rat} (h : Rep r) : Rep (-r) := by
  obtain ⟨k, q, h1, h2, rfl⟩ := h
  refine ⟨-k, q, by omega, h2, ?_⟩
  rw [Rat.intCast_neg]; grind

/-! ### to the nearest whole number -/
def rne (n d : Nat) : Nat := n / 2 ^ d + (decide (2 ^ d < 2 * (n % 2 ^ d)) || (2 ^ d == 2 * (n % 2 ^ d) && n / 2 ^ d % 2 == 1)).toNat
theorem cut_eq (s : Bool) (n d : Nat) : Ieee.Toward.even.cut s n d = rne n d := by
  unfold Ieee.Toward.cut rne
  simp only [Nat.one_shiftLeft]
  rcases Nat.le_total d (n.log2 + 2) with h | h
  · rw [Nat.min_eq_left h]
  · rw [Nat.min_eq_right h]
    have h1 : n < 2 ^ (n.log2 + 1) := Nat.lt_log2_self
    have h2 : 2 ^ (n.log2 + 2) ≤ 2 ^ d := Nat.pow_le_pow_right (by decide) h
    have h3 : 2 ^ (n.log2 + 2) = 2 * 2 ^ (n.log2 + 1) := by rw [Nat.pow_succ, Nat.mul_comm]
    rw [Nat.div_eq_of_lt (show n < 2 ^ d by omega), Nat.mod_eq_of_lt (show n < 2 ^ d by omega), Nat.div_eq_of_lt (show n < 2 ^ (n.log2 + 2) by omega), Nat.mod_eq_of_lt (show n < 2 ^ (n.log2 + 2) by omega)]
    rw [show decide (2 ^ (n.log2 + 2) < 2 * n) = false by simp; omega, show decide (2 ^ d < 2 * n) = false by simp; omega]
    simp
theorem rne_two (n d : Nat) : rne n d = n / 2 ^ d ∧ 2 * (n % 2 ^ d) ≤ 2 ^ d ∨ rne n d = n / 2 ^ d + 1 ∧ 2 ^ d ≤ 2 * (n % 2 ^ d) := by
  unfold rne
  by_cases h1 : 2 ^ d < 2 * (n % 2 ^ d)
  · right; rw [decide_eq_true h1]; exact ⟨rfl, by omega⟩
  · rw [decide_eq_false h1]
    cases h2 : (2 ^ d == 2 * (n % 2 ^ d) && n / 2 ^ d % 2 == 1) with
    | false => left; exact ⟨rfl, by omega⟩
    | true => right; simp at h2; exact ⟨rfl, by omega⟩
theorem rne_err (n d : Nat) : 2 * (rne n d * 2 ^ d) ≤ 2 * n + 2 ^ d ∧ 2 * n ≤ 2 * (rne n d * 2 ^ d) + 2 ^ d := by
  have h := Nat.div_add_mod n (2 ^ d)
  rw [Nat.mul_comm] at h
  rcases rne_two n d with ⟨e, h'⟩ | ⟨e, h'⟩
  · rw [e]; omega
  · have := Nat.mod_lt n (Nat.two_pow_pos d)
    rw [e, Nat.add_mul, Nat.one_mul]; omega
theorem rne_le {n d K : Nat} (h : n ≤ K * 2 ^ d) : rne n d ≤ K := by
  have hm := Nat.div_add_mod n (2 ^ d)
  rw [Nat.mul_comm] at hm
  have hp := Nat.two_pow_pos d
  rcases rne_two n d with ⟨e, h'⟩ | ⟨e, h'⟩
  · rw [e]; exact Nat.div_le_of_le_mul (by rw [Nat.mul_comm]; exact h)
  · rw [e]
    rcases Nat.lt_or_ge (n / 2 ^ d) K with h1 | h1
    · exact h1
    · have := Nat.mul_le_mul_right (2 ^ d) h1
      omega
theorem le_rne {n d K : Nat} (h : K * 2 ^ d ≤ n) : K ≤ rne n d := by
  have h1 : K ≤ n / 2 ^ d := (Nat.le_div_iff_mul_le (Nat.two_pow_pos d)).2 h
  rcases rne_two n d with ⟨e, h'⟩ | ⟨e, h'⟩ <;> omega

/-! ### to the nearest double -/
theorem val_rung (L kept : Nat) (h1 : kept ≤ 9007199254740992) (h2 : L = 0 ∨ 4503599627370496 ≤ kept) : val (L * 4503599627370496 + kept) = kept * 2 ^ L := by
  unfold val
  by_cases h : L * 4503599627370496 + kept < 4503599627370496
  · rw [if_pos h]
    have : L = 0 := by omega
    subst this; simp
  · rw [if_neg h]
    rcases Nat.lt_or_ge kept 9007199254740992 with h3 | h3
    · have e1 : (L * 4503599627370496 + kept) / 4503599627370496 - 1 = L := by omega
      have e2 : 4503599627370496 + (L * 4503599627370496 + kept) % 4503599627370496 = kept := by omega
      rw [e1, e2]
    · have e0 : kept = 9007199254740992 := by omega
      have e1 : (L * 4503599627370496 + kept) / 4503599627370496 - 1 = L + 1 := by omega
      have e2 : 4503599627370496 + (L * 4503599627370496 + kept) % 4503599627370496 = 4503599627370496 := by omega
      rw [e1, e2, e0, Nat.pow_succ]; omega
theorem rung_word (s : Bool) {r : Nat} (h : r < 9223372036854775808) : rung (Ieee.double.word s r) = r ∧ sgn (Ieee.double.word s r) = s := by
  have e1 : Ieee.double.signWeight = 9223372036854775808 := by decide +kernel
  unfold rung sgn Ieee.Format.word
  rw [e1]
  cases s
  · simp; omega
  · simp; omega
theorem small_rung {L k : Nat} (h1 : L ≤ 2044) (h2 : k ≤ 9007199254740992) : min (L * 4503599627370496 + k) 9218868437227405312 = L * 4503599627370496 + k ∧ L * 4503599627370496 + k < 9223372036854775808 := by
  constructor
  · exact Nat.min_eq_left (by omega)
  · omega
/-- The parts of a rounding: n / 2 ^ d units of the last place that is kept. -/
theorem nearest_parts (s : Bool) (m : Nat) (p : Int) (hm : m ≠ 0) (hb : p + m.log2 ≤ 1022) : ∃ (L n d : Nat),
    rung (Ieee.double.nearest s m p) = L * 4503599627370496 + rne n d ∧ L ≤ 2044 ∧ sgn (Ieee.double.nearest s m p) = s ∧ n < 9007199254740992 * 2 ^ d ∧ (L = 0 ∨ 4503599627370496 * 2 ^ d ≤ n) ∧ (n : Rat) * P2 (L - 1074 - d) = (m : Rat) * P2 p := by
  have e2 : Ieee.double.binade = 4503599627370496 := by decide +kernel
  have e3 : Ieee.double.infRung = 9218868437227405312 := by decide +kernel
  have e4 : Ieee.double.leastPlace = -1074 := by decide +kernel
  have e5 : ((Ieee.double.fractionBits : Nat) : Int) = 52 := by decide +kernel
  unfold Ieee.Format.nearest
  rw [if_neg hm]
  simp only [e2, e3, e4, e5, cut_eq]
  have hl1 := Nat.log2_self_le hm
  have hl2 : m < 2 ^ (m.log2 + 1) := Nat.lt_log2_self
  generalize hL : m.log2 = l at *
  generalize hla : max (p + (l : Int) - 52) (-1074) = last
  have hlast : -1074 ≤ last ∧ last ≤ 970 ∧ p + l - 52 ≤ last := by omega
  have hor : last = -1074 ∨ last = p + l - 52 := by omega
  have key : ∀ n d : Nat, n < 9007199254740992 * 2 ^ d → ∃ L : Nat, (L = (last - -1074).toNat) ∧ rne n d ≤ 9007199254740992 ∧ L ≤ 2044 := by
    intro n d h
    exact ⟨_, rfl, rne_le (by omega), by omega⟩
  refine ⟨(last - -1074).toNat, m <<< (p - last).toNat, (last - p).toNat, ?_⟩
  have hnat : (((last - -1074).toNat : Nat) : Int) - 1074 = last := by omega
  have c1 : m <<< (p - last).toNat < 9007199254740992 * 2 ^ (last - p).toNat := by
    rw [Nat.shiftLeft_eq]
    rcases Int.le_total p last with h | h
    · have : (p - last).toNat = 0 := by omega
      rw [this, Nat.pow_zero, Nat.mul_one]
      have : 2 ^ (l + 1) ≤ 2 ^ (53 + (last - p).toNat) := Nat.pow_le_pow_right (by decide) (by omega)
      rw [Nat.pow_add 2 53] at this
      omega
    · have e : (last - p).toNat = 0 := by omega
      rw [e, Nat.pow_zero, Nat.mul_one]
      have h1 : m * 2 ^ (p - last).toNat < 2 ^ (l + 1) * 2 ^ (p - last).toNat := Nat.mul_lt_mul_of_pos_right hl2 (Nat.two_pow_pos _)
      rw [← Nat.pow_add] at h1
      have : 2 ^ (l + 1 + (p - last).toNat) ≤ 2 ^ 53 := Nat.pow_le_pow_right (by decide) (by omega)
      omega
  have c2 : (last - -1074).toNat = 0 ∨ 4503599627370496 * 2 ^ (last - p).toNat ≤ m <<< (p - last).toNat := by
    rcases hor with h | h
    · left; omega
    · right
      rw [Nat.shiftLeft_eq]
      rcases Int.le_total p last with h' | h'
      · have : (p - last).toNat = 0 := by omega
        rw [this, Nat.pow_zero, Nat.mul_one]
        have : 2 ^ (52 + (last - p).toNat) ≤ 2 ^ l := Nat.pow_le_pow_right (by decide) (by omega)
        rw [Nat.pow_add 2 52] at this
        omega
      · have e : (last - p).toNat = 0 := by omega
        rw [e, Nat.pow_zero, Nat.mul_one]
        have h1 : 2 ^ l * 2 ^ (p - last).toNat ≤ m * 2 ^ (p - last).toNat := Nat.mul_le_mul_right _ hl1
        rw [← Nat.pow_add] at h1
        have : 2 ^ 52 ≤ 2 ^ (l + (p - last).toNat) := Nat.pow_le_pow_right (by decide) (by omega)
        omega
  have c3 := rne_le (K := 9007199254740992) (Nat.le_of_lt c1)
  have c0 : (last - -1074).toNat ≤ 2044 := by omega
  have c4 := small_rung c0 c3
  rw [c4.1]
  have c5 := rung_word s c4.2
  refine ⟨c5.1, c0, c5.2, c1, c2, ?_⟩
  rw [hnat, Nat.shiftLeft_eq, Rat.natCast_mul, ← P2_nat]
  rw [P2_of (i := last - ((last - p).toNat : Int)) (j := p) (k := -((p - last).toNat : Int)) (by omega)]
  have : P2 ((p - last).toNat : Int) * P2 (-((p - last).toNat : Int)) = 1 := by rw [← P2_add, show ((p - last).toNat : Int) + -((p - last).toNat : Int) = 0 by omega, P2_zero]
  grind
end Go.Av
