/- The operations on finite doubles, as rational numbers; on whole ones, exact. -/
import Derived.Test.YtjabjnkiddldeaaGreatFl4
set_option linter.unusedVariables false
set_option linter.unusedSimpArgs false
namespace Go.Av
open Go
theorem read_num {x : Nat} (h : fin x = true) : ∃ (m : Nat) (i : Int), Ieee.double.read x = .number (sgn x) m i ∧ -1074 ≤ i ∧ fv x = sg (sgn x) ((m : Rat) * P2 i) := by
  rw [read_eq, fin_not_nan h, h]
  simp only [Bool.false_eq_true, if_false, if_true]
  refine ⟨_, _, rfl, by omega, ?_⟩
  rw [fv_eq, ← mag_val (rung x), Rat.natCast_mul]
  generalize (if rung x < 4503599627370496 then rung x else 4503599627370496 + rung x % 4503599627370496) = m
  generalize (if rung x < 4503599627370496 then 0 else rung x / 4503599627370496 - 1) = k
  rw [← P2_nat, P2_add]
  congr 1
  grind
theorem signed_rat (s : Bool) (m k : Nat) (b : Int) : ((Ieee.signed s m k : Int) : Rat) * P2 b = sg s ((m : Rat) * P2 (b + k)) := by
  rw [signed_eq, P2_add, P2_nat]
  have c : (((m * 2 ^ k : Nat) : Int) : Rat) = (m : Rat) * ((2 ^ k : Nat) : Rat) := by
    have : (((m * 2 ^ k : Nat) : Int) : Rat) = ((m * 2 ^ k : Nat) : Rat) := rfl
    rw [this, Rat.natCast_mul]
  unfold sg
  cases s
  · simp only [Bool.false_eq_true, if_false]; rw [c]; grind
  · simp only [if_true]; rw [Rat.intCast_neg, c]; grind
theorem log_small {m : Nat} {p : Int} (h : (m : Rat) * P2 p < P2 1023) : m = 0 ∨ p + m.log2 ≤ 1022 := by
  by_cases hm : m = 0
  · exact .inl hm
  · right
    have h1 := natCast_le.2 (Nat.log2_self_le hm)
    have h2 := (mul_le (P2_pos p)).2 h1
    rw [← P2_nat, ← P2_add] at h2
    have h3 : P2 ((m.log2 : Int) + p) < P2 1023 := by grind
    have := P2_lt_iff.1 h3
    omega
theorem ab_sg (s : Bool) {v : Rat} (h : 0 ≤ v) : ab (sg s v) = v := by
  unfold sg; cases s
  · exact ab_of_nonneg h
  · simp only [if_true]; rw [ab_neg]; exact ab_of_nonneg h
theorem mP2_nonneg (m : Nat) (p : Int) : (0 : Rat) ≤ (m : Rat) * P2 p := Rat.mul_nonneg (natCast_nonneg m) (Rat.le_of_lt (P2_pos p))
theorem nearest_of {s : Bool} {m : Nat} {p : Int} {v : Rat} (e : sg s ((m : Rat) * P2 p) = v) (h : ab v < P2 1023) : Rnd (Ieee.double.nearest s m p) v := by
  subst e
  rw [ab_sg s (mP2_nonneg m p)] at h
  exact (nearest_rnd s m p (log_small h)).1
theorem int_sg (n : Int) (s : Bool) (hs : n ≠ 0 → s = decide (n < 0)) : sg s ((n.natAbs : Nat) : Rat) = (n : Rat) := by
  have c : ((n.natAbs : Nat) : Rat) = (((n.natAbs : Nat) : Int) : Rat) := rfl
  by_cases h : n = 0
  · subst h; cases s <;> rfl
  · rw [hs h]; unfold sg
    by_cases h' : n < 0
    · rw [decide_eq_true h', if_pos rfl, c, show ((n.natAbs : Nat) : Int) = -n by omega, Rat.intCast_neg]; grind
    · rw [decide_eq_false h', if_neg (by decide), c, show ((n.natAbs : Nat) : Int) = n by omega]
/-- A sum of two numbers, written. -/
theorem sum_rnd (s t : Bool) (m n : Nat) (i j : Int) (h : ab (sg s ((m : Rat) * P2 i) + sg t ((n : Rat) * P2 j)) < P2 1023) :
    ∃ z, (((Ieee.Datum.number s m i).sum (.number t n j)).map Ieee.double.write) = some z ∧ Rnd z (sg s ((m : Rat) * P2 i) + sg t ((n : Rat) * P2 j)) := by
  simp only [Ieee.Datum.sum, Option.map_some]
  refine ⟨_, rfl, ?_⟩
  show Rnd (Ieee.double.nearest _ _ _) _
  refine nearest_of ?_ h
  generalize hT : Ieee.signed s m (i - min i j).toNat + Ieee.signed t n (j - min i j).toNat = T
  have e1 := signed_rat s m (i - min i j).toNat (min i j)
  have e2 := signed_rat t n (j - min i j).toNat (min i j)
  rw [show min i j + ((i - min i j).toNat : Int) = i by omega] at e1
  rw [show min i j + ((j - min i j).toNat : Int) = j by omega] at e2
  rw [← e1, ← e2, ← Rat.add_mul, ← Rat.intCast_add, hT]
  have e3 := int_sg T (if T = 0 then s && t else decide (T < 0)) (fun hne => by rw [if_neg hne])
  rw [← e3]
  unfold sg
  split <;> grind
theorem add_rnd {x y : Nat} (hx : fin x = true) (hy : fin y = true) (h : ab (fv x + fv y) < P2 1023) : ∃ z, Ieee.double.add x y = some z ∧ Rnd z (fv x + fv y) := by
  obtain ⟨m, i, r1, _, v1⟩ := read_num hx
  obtain ⟨n, j, r2, _, v2⟩ := read_num hy
  rw [v1, v2] at h ⊢
  unfold Ieee.Format.add
  rw [r1, r2]
  exact sum_rnd _ _ _ _ _ _ h
theorem sg_not (s : Bool) (v : Rat) : sg (!s) v = - sg s v := by unfold sg; cases s <;> simp
theorem sub_rnd {x y : Nat} (hx : fin x = true) (hy : fin y = true) (h : ab (fv x - fv y) < P2 1023) : ∃ z, Ieee.double.sub x y = some z ∧ Rnd z (fv x - fv y) := by
  obtain ⟨m, i, r1, _, v1⟩ := read_num hx
  obtain ⟨n, j, r2, _, v2⟩ := read_num hy
  unfold Ieee.Format.sub
  rw [r1, r2]
  have e : fv x - fv y = sg (sgn x) ((m : Rat) * P2 i) + sg (!(sgn y)) ((n : Rat) * P2 j) := by rw [v1, v2, sg_not]; grind
  rw [e] at h ⊢
  exact sum_rnd _ _ _ _ _ _ h
theorem sg_mul (s t : Bool) (u v : Rat) : sg s u * sg t v = sg (s ^^ t) (u * v) := by
  unfold sg; cases s <;> cases t <;> simp <;> grind
theorem mul_rnd {x y : Nat} (hx : fin x = true) (hy : fin y = true) (h : ab (fv x * fv y) < P2 1023) : ∃ z, Ieee.double.mul x y = some z ∧ Rnd z (fv x * fv y) := by
  obtain ⟨m, i, r1, _, v1⟩ := read_num hx
  obtain ⟨n, j, r2, _, v2⟩ := read_num hy
  unfold Ieee.Format.mul
  rw [r1, r2]
  simp only [Ieee.Datum.product, Option.map_some]
  refine ⟨_, rfl, ?_⟩
  refine nearest_of ?_ h
  rw [v1, v2, sg_mul, Rat.natCast_mul, P2_add]
  congr 1
  grind
/-! ### whole numbers -/
/-- x is the whole number n. -/
def Wh (x : Nat) (n : Int) : Prop := fin x = true ∧ fv x = (n : Rat)
theorem rep_int {n : Int} (h : n.natAbs ≤ 9007199254740992) : Rep (n : Rat) := ⟨n, 0, h, by decide, by rw [P2_zero]; grind⟩
theorem intCast_le {a b : Int} : (a : Rat) ≤ (b : Rat) ↔ a ≤ b := by exact_mod_cast Iff.rfl
theorem ab_int (n : Int) : ab (n : Rat) = ((n.natAbs : Nat) : Rat) := by
  have e := int_sg n (decide (n < 0)) (fun _ => rfl)
  rw [← e, ab_sg _ (natCast_nonneg _)]
theorem ab_int_lt {n : Int} (h : n.natAbs ≤ 2 ^ 250) : ab (n : Rat) < P2 1023 := by
  rw [ab_int]
  have h1 := natCast_le.2 h
  rw [← P2_nat] at h1
  have h2 : P2 ((250 : Nat) : Int) < P2 1023 := P2_lt_iff.2 (by decide)
  grind
theorem le53 {n : Nat} (h : n ≤ 9007199254740992) : n ≤ 2 ^ 250 := Nat.le_trans h (by have : 2 ^ 53 ≤ 2 ^ 250 := Nat.pow_le_pow_right (by decide) (by decide); exact this)
theorem Rnd.whole {z : Nat} {n : Int} (h : Rnd z (n : Rat)) (hn : n.natAbs ≤ 9007199254740992) : Wh z n := ⟨h.fin, h.exact (rep_int hn)⟩
theorem add_wh {x y : Nat} {m n : Int} (hx : Wh x m) (hy : Wh y n) (h : (m + n).natAbs ≤ 9007199254740992) : ∃ z, Ieee.double.add x y = some z ∧ Wh z (m + n) := by
  have e : fv x + fv y = ((m + n : Int) : Rat) := by rw [hx.2, hy.2, Rat.intCast_add]
  obtain ⟨z, h1, h2⟩ := add_rnd hx.1 hy.1 (by rw [e]; exact ab_int_lt (le53 h))
  rw [e] at h2
  exact ⟨z, h1, h2.whole h⟩
theorem sub_wh {x y : Nat} {m n : Int} (hx : Wh x m) (hy : Wh y n) (h : (m - n).natAbs ≤ 9007199254740992) : ∃ z, Ieee.double.sub x y = some z ∧ Wh z (m - n) := by
  have e : fv x - fv y = ((m - n : Int) : Rat) := by rw [hx.2, hy.2, Rat.intCast_sub]
  obtain ⟨z, h1, h2⟩ := sub_rnd hx.1 hy.1 (by rw [e]; exact ab_int_lt (le53 h))
  rw [e] at h2
  exact ⟨z, h1, h2.whole h⟩
theorem mul_wh {x y : Nat} {m n : Int} (hx : Wh x m) (hy : Wh y n) (h : (m * n).natAbs ≤ 9007199254740992) : ∃ z, Ieee.double.mul x y = some z ∧ Wh z (m * n) := by
  have e : fv x * fv y = ((m * n : Int) : Rat) := by rw [hx.2, hy.2, Rat.intCast_mul]
  obtain ⟨z, h1, h2⟩ := mul_rnd hx.1 hy.1 (by rw [e]; exact ab_int_lt (le53 h))
  rw [e] at h2
  exact ⟨z, h1, h2.whole h⟩
/-! ### comparing -/
theorem ival_lt {x y : Nat} : ival x < ival y ↔ ikey x < ikey y := by
  unfold ival ikey
  have h1 := @val_lt_iff (rung x) (rung y)
  have h2 := @val_lt_iff (rung y) (rung x)
  have a0 : val (rung x) = 0 ↔ rung x = 0 := by have := @val_inj (rung x) 0; rw [val_zero] at this; exact this
  have b0 : val (rung y) = 0 ↔ rung y = 0 := by have := @val_inj (rung y) 0; rw [val_zero] at this; exact this
  cases sgn x <;> cases sgn y <;> simp only [Bool.false_eq_true, if_false, if_true] <;> omega
theorem fv_lt {x y : Nat} : fv x < fv y ↔ ikey x < ikey y := by
  rw [← ival_lt]
  unfold fv
  have h := @mul_le (ival y : Rat) (ival x : Rat) (P2 (-1074)) (P2_pos _)
  have h2 : (ival y : Rat) ≤ (ival x : Rat) ↔ ival y ≤ ival x := intCast_le
  rw [h2] at h
  rw [← Rat.not_le, h]; omega
theorem fv_le {x y : Nat} : fv x ≤ fv y ↔ ikey x ≤ ikey y := by
  have := @fv_lt y x
  rw [← Rat.not_lt, this]; omega
theorem fv_inj {x y : Nat} : fv x = fv y ↔ ikey x = ikey y := by
  constructor
  · intro h
    have h1 := fv_le.1 (show fv x ≤ fv y by rw [h]; exact Rat.le_refl)
    have h2 := fv_le.1 (show fv y ≤ fv x by rw [h]; exact Rat.le_refl)
    omega
  · intro h
    exact Rat.le_antisymm (fv_le.2 (by omega)) (fv_le.2 (by omega))
section
variable {x y : Nat} (hx : fin x = true) (hy : fin y = true)
include hx hy
theorem flt_fv : flt x y = decide (fv x < fv y) := by
  rw [flt_eq, fin_not_nan hx, fin_not_nan hy, decide_eq_decide.2 fv_lt]; rfl
theorem fgt_fv : fgt x y = decide (fv y < fv x) := by
  rw [fgt_eq, fin_not_nan hx, fin_not_nan hy, decide_eq_decide.2 fv_lt]; rfl
theorem fle_fv : fle x y = decide (fv x ≤ fv y) := by
  rw [fle_eq, fin_not_nan hx, fin_not_nan hy, decide_eq_decide.2 fv_le]; rfl
theorem fge_fv : fge x y = decide (fv y ≤ fv x) := by
  rw [fge_eq, fin_not_nan hx, fin_not_nan hy, decide_eq_decide.2 fv_le]; rfl
theorem feq_fv : feq x y = decide (fv x = fv y) := by
  rw [feq_eq, fin_not_nan hx, fin_not_nan hy, decide_eq_decide.2 fv_inj]; rfl
theorem fne_fv : fne x y = !decide (fv x = fv y) := by
  rw [← feq_fv hx hy]; unfold fne feq
  cases Ieee.double.order x y with
  | none => rfl
  | some o => cases o <;> rfl
end
theorem intCast_lt {a b : Int} : (a : Rat) < (b : Rat) ↔ a < b := by exact_mod_cast Iff.rfl
theorem intCast_eq {a b : Int} : (a : Rat) = (b : Rat) ↔ a = b := by exact_mod_cast Iff.rfl
section
variable {x y : Nat} {m n : Int} (hx : Wh x m) (hy : Wh y n)
include hx hy
theorem flt_wh : flt x y = decide (m < n) := by rw [flt_fv hx.1 hy.1, hx.2, hy.2, decide_eq_decide.2 intCast_lt]
theorem fgt_wh : fgt x y = decide (n < m) := by rw [fgt_fv hx.1 hy.1, hx.2, hy.2, decide_eq_decide.2 intCast_lt]
theorem fle_wh : fle x y = decide (m ≤ n) := by rw [fle_fv hx.1 hy.1, hx.2, hy.2, decide_eq_decide.2 intCast_le]
theorem fge_wh : fge x y = decide (n ≤ m) := by rw [fge_fv hx.1 hy.1, hx.2, hy.2, decide_eq_decide.2 intCast_le]
theorem feq_wh : feq x y = decide (m = n) := by rw [feq_fv hx.1 hy.1, hx.2, hy.2, decide_eq_decide.2 intCast_eq]
theorem fne_wh : fne x y = !decide (m = n) := by rw [fne_fv hx.1 hy.1, hx.2, hy.2, decide_eq_decide.2 intCast_eq]
end
end Go.Av
