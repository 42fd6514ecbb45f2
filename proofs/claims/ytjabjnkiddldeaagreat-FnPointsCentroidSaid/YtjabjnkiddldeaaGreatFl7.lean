/- Whole doubles between bounds; the lesser and the greater. -/
import Derived.Test.YtjabjnkiddldeaaGreatFl6
set_option linter.unusedVariables false
set_option linter.unusedSimpArgs false
namespace Go.Av
open Go
theorem fne_not (x y : Nat) : fne x y = !feq x y := by
  unfold fne feq
  cases Ieee.double.order x y with
  | none => rfl
  | some o => cases o <;> rfl
theorem fneg_key (x : Nat) : ikey (fneg x) = - ikey x := by
  unfold ikey
  rw [(fneg_parts x).1, (fneg_parts x).2]
  cases sgn x <;> simp
theorem fin_key {x : Nat} (h : fin x = true) : ikey x < 9218868437227405312 := by
  unfold fin at h; unfold ikey
  simp only [decide_eq_true_eq] at h
  split <;> omega
/-- What lies between whole bounds is a number. -/
theorem fin_between {x m : Nat} {B : Int} (hm : Wh m B) (h1 : fge x (fneg m) = true) (h2 : fle x m = true) : fin x = true :=
  fin_of_between (fin_key hm.1) (fneg_key m) h1 h2
/-- A number between whole bounds: cutting it gives a number; and if that is the number itself, it is whole. -/
theorem whole_between {x m : Nat} {B : Int} (hm : Wh m B) (hB : B ≤ 9007199254740992) (h1 : fge x (fneg m) = true) (h2 : fle x m = true) :
    ∃ y, fwhole .zero x = some y ∧ (feq x y = true → ∃ n, Wh x n ∧ -B ≤ n ∧ n ≤ B) := by
  have hf := fin_between hm h1 h2
  obtain ⟨y, hy⟩ := fwhole_some (way := .zero) (fin_not_nan hf)
  have hn := fneg_wh hm
  rw [fge_fv hf hn.1, hn.2, decide_eq_true_eq] at h1
  rw [fle_fv hf hm.1, hm.2, decide_eq_true_eq] at h2
  rw [Rat.intCast_neg] at h1
  exact ⟨y, hy, fun e => wh_of_trunc hf hy e h2 h1 hB⟩
theorem read_fin {x : Nat} (h : fin x = true) : ∃ m i, Ieee.double.read x = .number (sgn x) m i ∧ (m = 0 ↔ fv x = 0) := by
  obtain ⟨m, i, r, _, v⟩ := read_num h
  refine ⟨m, i, r, ?_⟩
  have hp := P2_pos i
  constructor
  · intro hm; rw [v, hm]
    have z : ((0 : Nat) : Rat) = 0 := rfl
    unfold sg; grind
  · intro h0
    rw [v] at h0
    have : (m : Rat) * P2 i = 0 := by unfold sg at h0; grind
    rcases Rat.mul_eq_zero.1 this with h | h
    · have z : ((0 : Nat) : Rat) = 0 := rfl
      exact nat_inj.1 (h.trans z.symm)
    · grind
theorem order_fin {x y : Nat} (hx : fin x = true) (hy : fin y = true) : Ieee.double.order x y = some (if fv x < fv y then .lt else if fv x = fv y then .eq else .gt) := by
  rw [order_key, fin_not_nan hx, fin_not_nan hy]
  simp only [Bool.or_self, Bool.false_eq_true, if_false, icmp]
  congr 1
  have h1 := @fv_lt x y
  have h2 := @fv_inj x y
  by_cases a : ikey x < ikey y
  · rw [if_pos a, if_pos (h1.2 a)]
  · rw [if_neg a, if_neg (fun h => a (h1.1 h))]
    by_cases b : ikey x = ikey y
    · rw [if_pos b, if_pos (h2.2 b)]
    · rw [if_neg b, if_neg (fun h => b (h2.1 h))]
section
variable {x y : Nat} {m n : Int} (hx : Wh x m) (hy : Wh y n)
include hx hy
theorem order_wh : Ieee.double.order x y = some (if m < n then .lt else if m = n then .eq else .gt) := by
  rw [order_fin hx.1 hy.1, hx.2, hy.2]
  simp only [intCast_lt, intCast_eq]
theorem fpick_fin (neg : Bool) (win : Ordering) : fpick neg win x y = x ∨ fpick neg win x y = y := by
  obtain ⟨m1, i1, r1, _⟩ := read_fin hx.1
  obtain ⟨m2, i2, r2, _⟩ := read_fin hy.1
  unfold fpick
  rw [r1, r2]
  have a1 : (Ieee.Datum.number (sgn x) m1 i1 == .infinity neg) = false := rfl
  have a2 : (Ieee.Datum.number (sgn y) m2 i2 == .infinity neg) = false := rfl
  simp only [a1, a2, Bool.or_self, Bool.false_eq_true, if_false, Ieee.Datum.isNaN]
  split
  · split
    · exact .inl rfl
    · exact .inr rfl
  · split
    · exact .inl rfl
    · exact .inr rfl
theorem fpick_wh (neg : Bool) (win : Ordering) (hw : win ≠ .eq) : Wh (fpick neg win x y) (if (if m < n then Ordering.lt else if m = n then .eq else .gt) = win then m else n) := by
  obtain ⟨m1, i1, r1, z1⟩ := read_fin hx.1
  obtain ⟨m2, i2, r2, z2⟩ := read_fin hy.1
  have ho := order_wh hx hy
  unfold Ieee.Format.order at ho
  rw [r1, r2] at ho
  unfold fpick
  rw [r1, r2]
  have a1 : (Ieee.Datum.number (sgn x) m1 i1 == .infinity neg) = false := rfl
  have a2 : (Ieee.Datum.number (sgn y) m2 i2 == .infinity neg) = false := rfl
  simp only [a1, a2, Bool.or_self, Bool.false_eq_true, if_false, Ieee.Datum.isNaN]
  have zz : ∀ m i s, (Ieee.Datum.number s m i).isZero = true ↔ m = 0 := by
    intro m i s; cases m <;> simp [Ieee.Datum.isZero]
  have q0 : ((0 : Int) : Rat) = 0 := rfl
  have wx : m1 = 0 → m = 0 := fun h => intCast_eq.1 (by rw [← hx.2, z1.1 h, q0])
  have wy : m2 = 0 → n = 0 := fun h => intCast_eq.1 (by rw [← hy.2, z2.1 h, q0])
  split
  · rename_i h
    simp only [Bool.and_eq_true, zz] at h
    have e1 := wx h.1
    have e2 := wy h.2
    subst e1 e2
    simp only [Int.lt_irrefl, if_false, if_true]
    rw [ite_self]
    split
    · exact hx
    · exact hy
  · rw [ho]
    generalize (if m < n then Ordering.lt else if m = n then .eq else .gt) = o
    by_cases h : o = win
    · subst h; simpa using hx
    · rw [if_neg h]
      have : (some o == some win) = false := by simp [h]
      rw [this]
      simpa using hy
theorem fmin_wh : Wh (fpick true .lt x y) (min m n) := by
  have h := fpick_wh hx hy true .lt (by decide)
  have e : (if (if m < n then Ordering.lt else if m = n then .eq else .gt) = .lt then m else n) = min m n := by
    by_cases a : m < n
    · simp [a]; omega
    · by_cases b : m = n
      · simp [a, b]
      · simp [a, b]; omega
  rwa [e] at h
theorem fmax_wh : Wh (fpick false .gt x y) (max m n) := by
  have h := fpick_wh hx hy false .gt (by decide)
  have e : (if (if m < n then Ordering.lt else if m = n then .eq else .gt) = .gt then m else n) = max m n := by
    by_cases a : m < n
    · simp [a]; omega
    · by_cases b : m = n
      · simp [a, b]
      · simp [a, b]; omega
  rwa [e] at h
theorem fmm_wh (mx : Bool) : ∃ z, fmm mx x y = some z ∧ Wh z (bif mx then max m n else min m n) := by
  unfold fmm
  rw [order_wh hx hy]
  rcases Int.lt_trichotomy m n with h | h | h
  · rw [if_pos h]
    cases mx
    · exact ⟨x, rfl, by rw [cond_false, Int.min_eq_left (by omega)]; exact hx⟩
    · exact ⟨y, rfl, by rw [cond_true, Int.max_eq_right (by omega)]; exact hy⟩
  · subst h
    rw [if_neg (Int.lt_irrefl m), if_pos rfl]
    have e : (bif mx then max m m else min m m) = m := by cases mx <;> simp
    rw [e]
    cases mx <;> (simp only [cond_true, cond_false]; split <;> exact ⟨_, rfl, by assumption⟩)
  · rw [if_neg (by omega), if_neg (by omega)]
    cases mx
    · exact ⟨y, rfl, by rw [cond_false, Int.min_eq_right (by omega)]; exact hy⟩
    · exact ⟨x, rfl, by rw [cond_true, Int.max_eq_left (by omega)]; exact hx⟩
end
/-- A word that is the whole number n, found by reckoning. -/
theorem wh_lit (x : Nat) (n : Int) (h1 : fin x = true) (h2 : (Ieee.double.read x).toInt .zero = some n) (h3 : feq x (i2f n) = true) (hn : n.natAbs ≤ 9007199254740992) : Wh x n := by
  have hi := i2f_wh n hn
  rw [feq_fv h1 hi.1, hi.2, decide_eq_true_eq] at h3
  exact ⟨h1, h3⟩
end Go.Av
