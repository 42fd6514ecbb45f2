/- Comparing doubles is comparing whole numbers: the rung with its sign. -/
import Derived.Test.YtnoamanjajighaaAv1
set_option linter.unusedVariables false
set_option linter.unusedSimpArgs false
namespace Go.Av
open Go

def rung (x : Nat) : Nat := x % 9223372036854775808
def sgn (x : Nat) : Bool := x / 9223372036854775808 % 2 == 1
def isnan (x : Nat) : Bool := decide (9218868437227405312 < rung x)
def fin (x : Nat) : Bool := decide (rung x < 9218868437227405312)
/-- The rung with its sign. -/
def ikey (x : Nat) : Int := if sgn x then -(rung x : Int) else (rung x : Int)
/-- What a rung stands for, in units of the least number. -/
def val (r : Nat) : Nat := if r < 4503599627370496 then r else (4503599627370496 + r % 4503599627370496) * 2 ^ (r / 4503599627370496 - 1)
def ival (x : Nat) : Int := if sgn x then -(val (rung x) : Int) else (val (rung x) : Int)

theorem val_succ (r : Nat) : val r < val (r + 1) := by
  unfold val
  by_cases h1 : r + 1 < 4503599627370496
  · rw [if_pos (by omega), if_pos h1]; omega
  · by_cases h2 : r < 4503599627370496
    · have : r = 4503599627370495 := by omega
      subst this; decide
    · rw [if_neg h2, if_neg h1]
      have hp : 0 < 2 ^ (r / 4503599627370496 - 1) := Nat.two_pow_pos _
      by_cases h3 : r % 4503599627370496 + 1 < 4503599627370496
      · have e1 : (r + 1) / 4503599627370496 = r / 4503599627370496 := by omega
        have e2 : (r + 1) % 4503599627370496 = r % 4503599627370496 + 1 := by omega
        rw [e1, e2]
        exact Nat.mul_lt_mul_of_pos_right (by omega) hp
      · have e1 : (r + 1) / 4503599627370496 - 1 = (r / 4503599627370496 - 1) + 1 := by omega
        have e2 : (r + 1) % 4503599627370496 = 0 := by omega
        rw [e1, e2, Nat.pow_succ, Nat.mul_comm (2 ^ _) 2, ← Nat.mul_assoc]
        exact Nat.mul_lt_mul_of_pos_right (by omega) hp
theorem val_lt : ∀ {r s : Nat}, r < s → val r < val s := by
  intro r s h
  induction s with
  | zero => omega
  | succ s ih =>
    rcases Nat.lt_or_ge r s with h' | h'
    · exact Nat.lt_trans (ih h') (val_succ s)
    · have : r = s := by omega
      subst this; exact val_succ r
theorem val_lt_iff {r s : Nat} : val r < val s ↔ r < s := by
  refine ⟨fun h => ?_, val_lt⟩
  rcases Nat.lt_or_ge r s with h' | h'
  · exact h'
  · rcases Nat.eq_or_lt_of_le h' with h' | h'
    · rw [h'] at h; omega
    · have := val_lt h'; omega
theorem val_inj {r s : Nat} : val r = val s ↔ r = s := by
  refine ⟨fun h => ?_, fun h => by rw [h]⟩
  rcases Nat.lt_trichotomy r s with h' | h' | h'
  · have := val_lt h'; omega
  · exact h'
  · have := val_lt h'; omega
theorem val_zero : val 0 = 0 := rfl

theorem read_eq (x : Nat) : Ieee.double.read x =
    if isnan x then .nan (sgn x) (rung x - 9218868437227405312)
    else if fin x then .number (sgn x) (if rung x < 4503599627370496 then rung x else 4503599627370496 + rung x % 4503599627370496)
        (-1074 + ((if rung x < 4503599627370496 then 0 else rung x / 4503599627370496 - 1 : Nat) : Int))
    else .infinity (sgn x) := by
  have e1 : Ieee.double.signWeight = 9223372036854775808 := by decide +kernel
  have e2 : Ieee.double.binade = 4503599627370496 := by decide +kernel
  have e3 : Ieee.double.infRung = 9218868437227405312 := by decide +kernel
  have e4 : Ieee.double.leastPlace = -1074 := by decide +kernel
  unfold Ieee.Format.read isnan fin
  rw [e1, e2, e3, e4]
  simp only [decide_eq_true_eq]
  show (if rung x < 4503599627370496 then _ else if rung x < 9218868437227405312 then _ else if rung x = 9218868437227405312 then _ else _) = _
  by_cases h1 : rung x < 4503599627370496
  · rw [if_pos h1, if_neg (by omega), if_pos (by omega), if_pos h1, if_pos h1]; rfl
  · rw [if_neg h1]
    by_cases h2 : rung x < 9218868437227405312
    · rw [if_pos h2, if_neg (by omega), if_pos h2, if_neg h1, if_neg h1]; rfl
    · rw [if_neg h2]
      by_cases h3 : rung x = 9218868437227405312
      · rw [if_pos h3, if_neg (by omega), if_neg h2]; rfl
      · rw [if_neg h3, if_pos (by omega)]; rfl

theorem signed_eq (s : Bool) (m k : Nat) : Ieee.signed s m k = if s then -((m * 2 ^ k : Nat) : Int) else ((m * 2 ^ k : Nat) : Int) := by
  unfold Ieee.signed; rw [Nat.shiftLeft_eq]
/-- The value of a number, in units of the least number. -/
theorem mag_val (r : Nat) : (if r < 4503599627370496 then r else 4503599627370496 + r % 4503599627370496) * 2 ^ (if r < 4503599627370496 then 0 else r / 4503599627370496 - 1) = val r := by
  unfold val; split <;> simp
theorem icmp (a b : Int) : compare a b = if a < b then .lt else if a = b then .eq else .gt := rfl
theorem compare_mul (a b : Int) (k : Nat) : compare (a * 2 ^ k) (b * 2 ^ k) = compare a b := by
  have hk : (0 : Int) < 2 ^ k := by exact_mod_cast Nat.two_pow_pos k
  simp only [icmp]
  rcases Int.lt_trichotomy a b with h | h | h
  · rw [if_pos h, if_pos (Int.mul_lt_mul_of_pos_right h hk)]
  · subst h; simp
  · have h' := Int.mul_lt_mul_of_pos_right h hk
    rw [if_neg (by omega), if_neg (by omega), if_neg (by omega), if_neg (by omega)]
theorem compare_sgn (s t : Bool) (m n : Nat) (f : Nat → Nat) (f0 : f 0 = 0) (hf : ∀ {a b : Nat}, f a < f b ↔ a < b) (hj : ∀ {a b : Nat}, f a = f b ↔ a = b) :
    compare (if s then -(f m : Int) else f m) (if t then -(f n : Int) else f n) = compare (if s then -(m : Int) else m) (if t then -(n : Int) else n) := by
  have hz : ∀ a, f a = 0 ↔ a = 0 := fun a => ⟨fun h => hj.1 (h.trans f0.symm), fun h => by rw [h, f0]⟩
  have hm := hz m
  have hn := hz n
  have h1 := @hf m n
  have h2 := @hf n m
  have h3 := @hj m n
  simp only [icmp]
  cases s <;> cases t <;> simp only [Bool.false_eq_true, if_false, if_true] <;> (repeat' split) <;> first | rfl | omega
/-- COMPARING. -/
theorem order_key (x y : Nat) : Ieee.double.order x y = if isnan x || isnan y then none else some (compare (ikey x) (ikey y)) := by
  unfold Ieee.Format.order
  rw [read_eq x, read_eq y]
  cases hx : isnan x
  · cases hy : isnan y
    · simp only [Bool.false_eq_true, if_false, Bool.or_self]
      have hx' : rung x ≤ 9218868437227405312 := by simpa [isnan] using hx
      have hy' : rung y ≤ 9218868437227405312 := by simpa [isnan] using hy
      cases fx : fin x
      · have fx' : rung x = 9218868437227405312 := by have : ¬ rung x < 9218868437227405312 := by simpa [fin] using fx
                                                      omega
        cases fy : fin y
        · have fy' : rung y = 9218868437227405312 := by have : ¬ rung y < 9218868437227405312 := by simpa [fin] using fy
                                                        omega
          simp only [Bool.false_eq_true, if_false, Ieee.Datum.order, ikey, fx', fy']
          cases sgn x <;> cases sgn y <;> rfl
        · have fy' : rung y < 9218868437227405312 := by simpa [fin] using fy
          simp only [Bool.false_eq_true, if_false, if_true, Ieee.Datum.order, ikey, fx']
          congr 1
          simp only [icmp]
          cases sgn x <;> cases sgn y <;> simp only [Bool.false_eq_true, if_false, if_true] <;> (repeat' split) <;> first | rfl | omega
      · have fx' : rung x < 9218868437227405312 := by simpa [fin] using fx
        cases fy : fin y
        · have fy' : rung y = 9218868437227405312 := by have : ¬ rung y < 9218868437227405312 := by simpa [fin] using fy
                                                        omega
          simp only [Bool.false_eq_true, if_false, if_true, Ieee.Datum.order, ikey, fy']
          congr 1
          simp only [icmp]
          cases sgn x <;> cases sgn y <;> simp only [Bool.false_eq_true, if_false, if_true] <;> (repeat' split) <;> first | rfl | omega
        · simp only [Bool.false_eq_true, if_false, if_true, Ieee.Datum.order]
          congr 1
          rw [signed_eq, signed_eq]
          have key : ∀ (kx ky : Nat), ((-1074 + (kx : Int)) - min (-1074 + (kx : Int)) (-1074 + ky)).toNat = kx - min kx ky := by intro kx ky; omega
          have key' : ∀ (kx ky : Nat), ((-1074 + (ky : Int)) - min (-1074 + (kx : Int)) (-1074 + ky)).toNat = ky - min kx ky := by intro kx ky; omega
          rw [key, key']
          have vx := mag_val (rung x)
          have vy := mag_val (rung y)
          generalize (if rung x < 4503599627370496 then rung x else 4503599627370496 + rung x % 4503599627370496) = mx at *
          generalize (if rung x < 4503599627370496 then 0 else rung x / 4503599627370496 - 1) = kx at *
          generalize (if rung y < 4503599627370496 then rung y else 4503599627370496 + rung y % 4503599627370496) = my at *
          generalize (if rung y < 4503599627370496 then 0 else rung y / 4503599627370496 - 1) = ky at *
          rw [← compare_mul _ _ (min kx ky)]
          have ex : (if sgn x then -((mx * 2 ^ (kx - min kx ky) : Nat) : Int) else ((mx * 2 ^ (kx - min kx ky) : Nat) : Int)) * 2 ^ (min kx ky) = if sgn x then -(val (rung x) : Int) else val (rung x) := by
            have e : (((mx * 2 ^ (kx - min kx ky) : Nat) : Int)) * 2 ^ (min kx ky) = (val (rung x) : Int) := by
              rw [← vx]
              have : mx * 2 ^ (kx - min kx ky) * 2 ^ (min kx ky) = mx * 2 ^ kx := by rw [Nat.mul_assoc, ← Nat.pow_add, Nat.sub_add_cancel (Nat.min_le_left _ _)]
              exact_mod_cast this
            split
            · rw [Int.neg_mul, e]
            · exact e
          have ey : (if sgn y then -((my * 2 ^ (ky - min kx ky) : Nat) : Int) else ((my * 2 ^ (ky - min kx ky) : Nat) : Int)) * 2 ^ (min kx ky) = if sgn y then -(val (rung y) : Int) else val (rung y) := by
            have e : (((my * 2 ^ (ky - min kx ky) : Nat) : Int)) * 2 ^ (min kx ky) = (val (rung y) : Int) := by
              rw [← vy]
              have : my * 2 ^ (ky - min kx ky) * 2 ^ (min kx ky) = my * 2 ^ ky := by rw [Nat.mul_assoc, ← Nat.pow_add, Nat.sub_add_cancel (Nat.min_le_right _ _)]
              exact_mod_cast this
            split
            · rw [Int.neg_mul, e]
            · exact e
          rw [ex, ey]
          exact compare_sgn _ _ _ _ val val_zero val_lt_iff val_inj
    · simp only [Bool.false_eq_true, if_false, if_true, Bool.or_true]
      cases fin x <;> rfl
  · simp only [if_true, Bool.true_or, Ieee.Datum.order]

/-! ### the six comparisons -/
theorem cmp_lt {a b : Int} : (compare a b == Ordering.lt) = decide (a < b) := by
  simp only [icmp]; (repeat' split) <;> simp_all <;> omega
theorem cmp_eq {a b : Int} : (compare a b == Ordering.eq) = decide (a = b) := by
  simp only [icmp]; (repeat' split) <;> simp_all <;> omega
theorem cmp_gt {a b : Int} : (compare a b == Ordering.gt) = decide (b < a) := by
  simp only [icmp]; (repeat' split) <;> simp_all <;> omega
theorem feq_eq (x y : Nat) : feq x y = (!(isnan x || isnan y) && decide (ikey x = ikey y)) := by
  unfold feq; rw [order_key]; cases (isnan x || isnan y) <;> simp [← cmp_eq]
theorem fne_eq (x y : Nat) : fne x y = ((isnan x || isnan y) || decide (ikey x ≠ ikey y)) := by
  unfold fne; rw [order_key]; cases (isnan x || isnan y) <;> simp [← cmp_eq, bne]
theorem flt_eq (x y : Nat) : flt x y = (!(isnan x || isnan y) && decide (ikey x < ikey y)) := by
  unfold flt; rw [order_key]; cases (isnan x || isnan y) <;> simp [← cmp_lt]
theorem fgt_eq (x y : Nat) : fgt x y = (!(isnan x || isnan y) && decide (ikey y < ikey x)) := by
  unfold fgt; rw [order_key]; cases (isnan x || isnan y) <;> simp [← cmp_gt]
theorem fle_eq (x y : Nat) : fle x y = (!(isnan x || isnan y) && decide (ikey x ≤ ikey y)) := by
  unfold fle; rw [order_key]
  cases (isnan x || isnan y)
  · simp only [Bool.false_eq_true, if_false, Option.some_beq_some, cmp_lt, cmp_eq, Bool.not_false, Bool.true_and]
    rw [← Bool.decide_or]; congr 1; simp only [eq_iff_iff]; omega
  · simp
theorem fge_eq (x y : Nat) : fge x y = (!(isnan x || isnan y) && decide (ikey y ≤ ikey x)) := by
  unfold fge; rw [order_key]
  cases (isnan x || isnan y)
  · simp only [Bool.false_eq_true, if_false, Option.some_beq_some, cmp_gt, cmp_eq, Bool.not_false, Bool.true_and]
    rw [← Bool.decide_or]; congr 1; simp only [eq_iff_iff]; omega
  · simp
theorem ikey_zero : ikey 0 = 0 := rfl
theorem isnan_zero : isnan 0 = false := rfl
end Go.Av
