/- The law of SimplifyLarge: with a great threshold the first and the last place alone are kept. -/
import Derived.Test.YtgipjhgnnppjgaaSI
import Derived.Test.YtgipjhgnnppjgaaPv3
import Derived.Test.YtgipjhgnnppjgaaFl7
import Derived.Test.YtgipjhgnnppjgaaPv1
import Derived.Test.YtgipjhgnnppjgaaFl12
import Derived.Test.YtgipjhgnnppjgaaFl15
import Derived.Test.YtgipjhgnnppjgaaPv2
import Derived.KernelRfl
set_option linter.unusedVariables false
set_option linter.unusedSectionVars false
set_option linter.unusedSimpArgs false
namespace Go.Proofs.Ytgipjhgnnppjgaa.PvWholeSI
open Go.Av Go
open Go.Proofs.Ytgipjhgnnppjgaa.SI
/-- t is l without zeros at its end. -/
def Tr (l t : List Int) : Prop := lv t = lv l ∧ (Lim l → Lim t) ∧ Nrm t ∧ t.length ≤ l.length
theorem Tr.snoc {r t : List Int} (h : Tr r t) : Tr (r ++ [0]) t := by
  obtain ⟨h1, h2, h3, h4⟩ := h
  refine ⟨by rw [lv_snoc, h1]; omega, fun hl => h2 hl.left, h3, by rw [List.length_append]; omega⟩
section
variable {N : Nat} (hN : 0 < N) (hNl : 9223372036854775808 ≤ N)
include hN hNl
theorem trim_loop : ∀ (n : Nat) (l : List Int), l.length + 1 ≤ n → l.length ≤ 4611686018427387904 → ∃ t, spec_trim_l0 N n l = some t ∧ Tr l t
  | 0, l, h, _ => by omega
  | n + 1, l, h, hm => by
    rcases snoc_cases l with rfl | ⟨r, x, rfl⟩
    · refine ⟨[], ?_, rfl, id, Nrm.nil, Nat.le_refl _⟩
      simp only [spec_trim_l0, spec_trim_g0, spec_trim_j1, spec_trim_g1, gate_pos hN]
      rfl
    · rw [List.length_append, List.length_singleton] at h hm
      have hlen : ((r ++ [x]).length : Int) = (r.length : Int) + 1 := by rw [List.length_append, List.length_singleton]; omega
      have hg : nth (r ++ [x]) (r.length : Int) = some x := by rw [nth_nat, List.getElem?_append_right (Nat.le_refl _), Nat.sub_self]; rfl
      simp only [spec_trim_l0, spec_trim_g0, spec_trim_j1, spec_trim_g1, gate_pos hN, Bool.cond_decide]
      rw [hlen, if_pos (by omega), show (r.length : Int) + 1 - 1 = r.length by omega, wrap_in (by omega), hg]
      simp only [Option.bind_some]
      by_cases hx : x = 0
      · subst hx
        obtain ⟨t, h1, h2⟩ := trim_loop n r (by omega) (by omega)
        refine ⟨t, ?_, h2.snoc⟩
        rw [chk2_int (by rw [List.length_append, List.length_singleton]; omega)]
        simp only [beq_self_eq_true, cond_true, Option.bind_some, Int.toNat_zero, List.drop_zero, Int.toNat_natCast, Nat.sub_zero]
        rw [List.take_left', h1]
        rfl
      · have hb : (x == 0) = false := by simpa using hx
        rw [hb]
        refine ⟨r ++ [x], rfl, rfl, id, ?_, Nat.le_refl _⟩
        intro r' x' e
        have := List.append_inj_right' e rfl
        simp only [List.cons.injEq, and_true] at this
        rw [← this]; exact hx
theorem trim_spec (l : List Int) (h : l.length ≤ 4611686018427387904) : ∃ t, spec_trim N l = some t ∧ Tr l t := trim_loop hN hNl N l (by omega) h
--B trim_b
end
end Go.Proofs.Ytgipjhgnnppjgaa.PvWholeSI
namespace Go.Proofs.Ytgipjhgnnppjgaa.PvWhole2SI
open Go.Av Go
open Go.Proofs.Ytgipjhgnnppjgaa.SI
open Go.Proofs.Ytgipjhgnnppjgaa.PvWholeSI
/-- A number as the laws hold it. -/
abbrev WH := Bool × (List Int × Unit)
/-- What a number as the laws hold it stands for. -/
def Wv (w : WH) (z : Int) : Prop := Lim w.2.1 ∧ Nrm w.2.1 ∧ (w.2.1 = [] → w.1 = false) ∧ z = bif w.1 then - lv w.2.1 else lv w.2.1
theorem Wv.abs {w : WH} {z : Int} (h : Wv w z) : lv w.2.1 = (z.natAbs : Int) := by
  obtain ⟨h1, _, _, h4⟩ := h
  have := lv_nonneg h1
  subst h4
  cases w.1 <;> simp <;> omega
theorem Wv.len {w : WH} {z : Int} (h : Wv w z) {k : Nat} (hz : z.natAbs < 2 ^ k) : w.2.1.length ≤ k := by
  refine len_le h.1 h.2.1 ?_
  rw [h.abs, Bp_two]
  have : 2 ^ k ≤ 2 ^ (32 * k) := Nat.pow_le_pow_right (by decide) (by omega)
  omega
theorem Wv.nil {w : WH} {z : Int} (h : Wv w z) : w.2.1 = [] ↔ z = 0 := by
  constructor
  · intro e
    have := h.abs
    rw [e] at this
    simp only [lv] at this
    omega
  · intro e
    have := h.abs
    subst e
    rcases Classical.em (w.2.1 = []) with h1 | h1
    · exact h1
    · have := lv_pos h.1 h.2.1 h1
      omega
theorem Wv.sgn {w : WH} {z : Int} (h : Wv w z) : w.1 = decide (z < 0) := by
  obtain ⟨h1, h2, h3, h4⟩ := h
  have := lv_nonneg h1
  cases hb : w.1 with
  | false =>
    rw [hb] at h4
    simp only [cond_false] at h4
    exact (decide_eq_false (by omega)).symm
  | true =>
    rw [hb] at h4
    simp only [cond_true] at h4
    have : w.2.1 ≠ [] := fun e => by rw [h3 e] at hb; cases hb
    have := lv_pos h1 h2 this
    exact (decide_eq_true (by omega)).symm
theorem Wv.mk' {l : List Int} {b : Bool} {z : Int} (h1 : Lim l) (h2 : Nrm l) (h3 : lv l = (z.natAbs : Int)) (h4 : z ≠ 0 → b = decide (z < 0)) (h5 : z = 0 → b = false) : Wv (b, l, ()) z := by
  refine ⟨h1, h2, fun e => ?_, ?_⟩
  · apply h5
    have e : l = [] := e
    rw [e] at h3
    simp only [lv] at h3
    omega
  · show z = bif b then - lv l else lv l
    rw [h3]
    by_cases hz : z = 0
    · rw [h5 hz]; simp; omega
    · rw [h4 hz]
      by_cases hn : z < 0
      · rw [decide_eq_true hn]; simp; omega
      · rw [decide_eq_false hn]; simp; omega
section
variable {N : Nat} (hN : 0 < N) (hNl : 9223372036854775808 ≤ N)
include hN hNl
theorem wholeOf_spec (z : Int) (hz : -9223372036854775808 ≤ z ∧ z ≤ 9223372036854775807) : ∃ c, spec_WholeOf N z = some c ∧ Wv c z := by
  unfold spec_WholeOf spec_WholeOf_g
  have key : ∀ u : Int, u = (z.natAbs : Int) → ∃ c, spec_WholeOf_j0 N z u = some c ∧ Wv c z := by
    intro u hu
    simp only [spec_WholeOf_j0, spec_WholeOf_g0, gate_pos hN]
    rw [shr32, w32_eq, w32_eq]
    obtain ⟨t, t1, t2, t3, t4, t5⟩ := trim_spec hN hNl [u % 4294967296, u / 4294967296 % 4294967296] (by simp)
    rw [t1]
    refine ⟨_, rfl, Wv.mk' (t3 (fun x hx => ?_)) t4 ?_ (fun _ => rfl) (fun h => by rw [h]; rfl)⟩
    · simp only [List.mem_cons, List.mem_nil_iff, or_false] at hx
      omega
    · rw [t2]
      simp only [lv]
      omega
  simp only [Bool.cond_decide]
  by_cases h : z < 0
  · rw [if_pos h]
    apply key
    rw [w64_eq, w64_eq]
    omega
  · rw [if_neg h]
    apply key
    rw [w64_eq]
    omega
end
end Go.Proofs.Ytgipjhgnnppjgaa.PvWhole2SI
namespace Go.Proofs.Ytgipjhgnnppjgaa.PvDyadicSI
open Go.Av Go
open Go.Proofs.Ytgipjhgnnppjgaa.SI
open Go.Proofs.Ytgipjhgnnppjgaa.PvWholeSI
open Go.Proofs.Ytgipjhgnnppjgaa.PvWhole2SI
abbrev DY := WH × (Int × Unit)
theorem eta3 {α β : Type} (w : α × (β × Unit)) : (w.1, w.2.1, ()) = w := rfl
theorem eta4 {α β γ : Type} (w : α × (β × (γ × Unit))) : (w.1, w.2.1, w.2.2.1, ()) = w := rfl
/-- How big the numbers of a depth may be. -/
def sk (k : Nat) : Nat := 2000 * 4 ^ k
theorem sk_succ (k : Nat) : sk (k + 1) = 4 * sk k := by unfold sk; rw [Nat.pow_succ]; omega
theorem sk_pos (k : Nat) : 2000 ≤ sk k := by
  unfold sk
  have := Nat.pow_pos (n := k) (show 0 < 4 by decide)
  omega
theorem sk_le {k : Nat} (h : k ≤ 9) : sk k ≤ 524288000 := by
  unfold sk
  have : 4 ^ k ≤ 4 ^ 9 := Nat.pow_le_pow_right (by decide) h
  have e : 4 ^ 9 = 262144 := by decide
  omega
/-- d stands for q, and is not too big for a depth. -/
def Dn (k : Nat) (d : DY) (q : Rat) : Prop := ∃ z : Int, Wv d.1 z ∧ z.natAbs < 2 ^ sk k ∧ (-(sk k : Int) ≤ d.2.1 ∧ d.2.1 ≤ (sk k : Int)) ∧ q = (z : Rat) * P2 d.2.1
theorem Dn.up {k : Nat} {d : DY} {q : Rat} (h : Dn k d q) : Dn (k + 1) d q := by
  obtain ⟨z, h1, h2, h3, h4⟩ := h
  have := sk_succ k
  have : 2 ^ sk k ≤ 2 ^ sk (k + 1) := Nat.pow_le_pow_right (by decide) (by omega)
  exact ⟨z, h1, by omega, by omega, h4⟩
theorem Dn.upto {k m : Nat} {d : DY} {q : Rat} (h : Dn k d q) (hm : k ≤ m) : Dn m d q := by
  induction m with
  | zero => obtain rfl : k = 0 := by omega
            exact h
  | succ m ih =>
    rcases Nat.lt_or_ge m k with h1 | h1
    · obtain rfl : k = m + 1 := by omega
      exact h
    · exact (ih h1).up
/-- The sign of a difference. -/
def cmpq (x y : Rat) : Int := if x < y then -1 else if x = y then 0 else 1
theorem intCast_zero_lt {z : Int} : (z : Rat) < 0 ↔ z < 0 := by
  have : ((0 : Int) : Rat) = 0 := rfl
  rw [← this]; exact intCast_lt
theorem intCast_eq_zero {z : Int} : (z : Rat) = 0 ↔ z = 0 := by
  have : ((0 : Int) : Rat) = 0 := rfl
  rw [← this]; exact intCast_eq
theorem mulP2_neg {v : Rat} {e : Int} : v * P2 e < 0 ↔ v < 0 := by
  have hp := P2_pos e
  constructor
  · intro h
    apply Rat.not_le.1
    intro hv
    exact absurd h (Rat.not_lt.2 (Rat.mul_nonneg hv (Rat.le_of_lt hp)))
  · intro h
    apply Rat.not_le.1
    intro hv
    have h0 : 0 * P2 e ≤ v * P2 e := by rw [Rat.zero_mul]; exact hv
    exact absurd h (Rat.not_lt.2 ((mul_le hp).1 h0))
theorem mulP2_zero {v : Rat} {e : Int} : v * P2 e = 0 ↔ v = 0 := by
  have hp := P2_pos e
  constructor
  · intro h
    rcases Rat.mul_eq_zero.1 h with h | h
    · exact h
    · rw [h] at hp; exact absurd hp (by decide)
  · intro h; rw [h, Rat.zero_mul]
theorem Dn.sign {k : Nat} {d : DY} {q : Rat} (h : Dn k d q) : ∃ z : Int, Wv d.1 z ∧ cmpv z 0 = cmpq q 0 ∧ (z = 0 ↔ q = 0) := by
  obtain ⟨z, h1, h2, h3, h4⟩ := h
  have e1 : q < 0 ↔ z < 0 := by rw [h4, mulP2_neg, intCast_zero_lt]
  have e2 : q = 0 ↔ z = 0 := by rw [h4, mulP2_zero, intCast_eq_zero]
  refine ⟨z, h1, ?_, e2.symm⟩
  unfold cmpv cmpq
  simp only [e1, e2]
theorem int2pow (n : Nat) : (((2 ^ n : Nat) : Int) : Rat) = P2 (n : Int) := by
  rw [P2_nat]; rfl
section
variable {N : Nat} (hN : 0 < N) (hNl : 9223372036854775808 ≤ N)
include hN hNl
theorem dofm (m e : Int) (x : Rat) (hm : -9007199254740992 ≤ m ∧ m ≤ 9007199254740992) (he : 0 ≤ e ∧ e ≤ 2047) (hx : x = (m : Rat) * P2 (e - 1075)) : ∃ c, spec_DyadicOf_j1 N e m = some c ∧ Dn 0 c x := by
  simp only [spec_DyadicOf_j1, spec_DyadicOf_g1, gate_pos hN]
  obtain ⟨c, c1, c2⟩ := wholeOf_spec hN hNl m (by omega)
  rw [c1, wrap_in (by omega)]
  refine ⟨_, rfl, m, c2, ?_, ⟨?_, ?_⟩, hx⟩
  · have : 2 ^ 64 ≤ 2 ^ sk 0 := Nat.pow_le_pow_right (by decide) (by have := sk_pos 0; omega)
    have e : 2 ^ 64 = 18446744073709551616 := by decide
    omega
  · dsimp only; have := sk_pos 0; omega
  · dsimp only; have := sk_pos 0; omega
theorem dof {x : Nat} (hx : fin x = true) (h64 : x < 18446744073709551616) : ∃ c, spec_DyadicOf N x = some c ∧ Dn 0 c (fv x) := by
  have hr : rung x < 9218868437227405312 := of_decide_eq_true hx
  have hmod : rung x = x % 9223372036854775808 := rfl
  have e52 : Int.fdiv ((x : Nat) : Int) (2 ^ (min (52 : Int).toNat (IntKind.bits .u64))) = ((x / 4503599627370496 : Nat) : Int) := by
    rw [show min (52 : Int).toNat (IntKind.bits .u64) = 52 by decide, Int.fdiv_eq_ediv_of_nonneg _ (by decide)]; omega
  have e63 : Int.fdiv ((x : Nat) : Int) (2 ^ (min (63 : Int).toNat (IntKind.bits .u64))) = ((x / 9223372036854775808 : Nat) : Int) := by
    rw [show min (63 : Int).toNat (IntKind.bits .u64) = 63 by decide, Int.fdiv_eq_ediv_of_nonneg _ (by decide)]; omega
  have b1 : bits .and .u64 ((x / 4503599627370496 : Nat) : Int) 2047 = ((x / 4503599627370496 % 2048 : Nat) : Int) := and_low (k := 11) (by decide) (by omega)
  have b2 : bits .and .u64 ((x : Nat) : Int) 4503599627370495 = ((x % 4503599627370496 : Nat) : Int) := and_low (k := 52) (by decide) (by omega)
  have key : ∀ (m e : Nat), m ≤ 9007199254740992 → e ≤ 2047 → (val (rung x) : Rat) * P2 (-1074) = (m : Rat) * P2 ((e : Int) - 1075) →
      ∃ c, spec_DyadicOf_j0 N ((x : Nat) : Int) (m : Int) (e : Int) = some c ∧ Dn 0 c (fv x) := by
    intro m e hm he hv
    simp only [spec_DyadicOf_j0, spec_DyadicOf_g0, gate_pos hN]
    rw [e63]
    by_cases hs : x / 9223372036854775808 = 1
    · have hb : (((x / 9223372036854775808 : Nat) : Int) == 1) = true := by rw [hs]; rfl
      rw [hb, cond_true, wrap_in (by omega)]
      apply dofm hN hNl _ _ _ (by omega) (by omega)
      have hsg : sgn x = true := by unfold sgn; rw [hs]; rfl
      rw [fv_eq, hsg]
      unfold sg
      rw [if_pos rfl, hv, show (0 : Int) - (m : Int) = -(m : Int) by omega, Rat.intCast_neg]
      have : (((m : Nat) : Int) : Rat) = (m : Rat) := rfl
      rw [this]; grind
    · have hb : (((x / 9223372036854775808 : Nat) : Int) == 1) = false := by simp; omega
      rw [hb, cond_false]
      apply dofm hN hNl _ _ _ (by omega) (by omega)
      have hsg : sgn x = false := by
        unfold sgn
        have : x / 9223372036854775808 = 0 := by omega
        rw [this]; rfl
      rw [fv_eq, hsg]
      unfold sg
      rw [if_neg (by decide), hv]
      rfl
  unfold spec_DyadicOf spec_DyadicOf_g math_Float64bits
  simp only [Option.bind_some]
  rw [e52, b1, b2, wrap_in (n := ((x / 4503599627370496 % 2048 : Nat) : Int)) (by omega), wrap_in (n := ((x % 4503599627370496 : Nat) : Int)) (by omega), wrap_in (n := ((x % 4503599627370496 : Nat) : Int) + 4503599627370496) (by omega)]
  have h2047 : (((x / 4503599627370496 % 2048 : Nat) : Int) == 2047) = false := by simp; omega
  rw [h2047, cond_false]
  by_cases h0 : x / 4503599627370496 % 2048 = 0
  · have hb : (((x / 4503599627370496 % 2048 : Nat) : Int) == 0) = true := by rw [h0]; rfl
    rw [hb, cond_true]
    apply key (x % 4503599627370496) 1 (by omega) (by omega)
    have hlt : rung x < 4503599627370496 := by omega
    unfold val
    rw [if_pos hlt, show rung x = x % 4503599627370496 by omega]
    rfl
  · have hb : (((x / 4503599627370496 % 2048 : Nat) : Int) == 0) = false := by simp; omega
    rw [hb, cond_false]
    have := key (x % 4503599627370496 + 4503599627370496) (x / 4503599627370496 % 2048) (by omega) (by omega) (by
      unfold val
      rw [if_neg (by omega)]
      have e1 : rung x % 4503599627370496 = x % 4503599627370496 := by omega
      have e2 : rung x / 4503599627370496 = x / 4503599627370496 % 2048 := by omega
      rw [e1, e2, Rat.natCast_mul, ← P2_nat, Nat.add_comm]
      have : P2 ((x / 4503599627370496 % 2048 : Nat) - 1075) = P2 ((x / 4503599627370496 % 2048 - 1 : Nat)) * P2 (-1074) := P2_of (by omega)
      rw [this]; grind)
    exact this
end
end Go.Proofs.Ytgipjhgnnppjgaa.PvDyadicSI
namespace Go.Proofs.Ytgipjhgnnppjgaa.PvWholeToSI
open Go.Av Go
open Go.Proofs.Ytgipjhgnnppjgaa.SI
/-- A whole number within bounds. -/
def In (B : Int) (x : Nat) : Prop := ∃ k : Int, Wh x k ∧ -B ≤ k ∧ k ≤ B
theorem abs_def {N x : Nat} : math_Abs N x = some (fabs x) := by
  simp only [math_Abs, math_Abs_g, math_Float64bits, math_Float64frombits, Option.bind_some, abs_bits, Int.toNat_natCast, fabs]
section
variable {N : Nat} {m : Nat} {B : Int} (hm : Wh m B) (hB : B ≤ 9007199254740992)
include hm hB
theorem in_of {x y : Nat} (hw : fwhole .zero x = some y) (he : feq x y = true) (hf : fgt (fabs x) m = false) : In B x := by
  have hn : isnan x = false := by
    rw [feq_eq] at he
    cases h : isnan x with
    | false => rfl
    | true => rw [h] at he; simp at he
  obtain ⟨h1, h2⟩ := fin_of_abs hm hn hf
  have h3 : fv x ≤ (B : Rat) := by unfold ab at h2; grind
  have h4 : -(B : Rat) ≤ fv x := by unfold ab at h2; grind
  exact wh_of_trunc h1 hw he h3 h4 hB
theorem wholes (hN : 0 < N) (l : List Nat) (hl : l.length ≤ 9223372036854775806) : ∀ (c i n : Nat), i + c = l.length → c + 1 ≤ n →
    laws_wholeTo_l0 N n m l (i : Int) = some false ∨ (laws_wholeTo_l0 N n m l (i : Int) = some true ∧ ∀ (j : Nat) x, i ≤ j → l[j]? = some x → In B x)
  | 0, i, n, hi, hn => by
    obtain ⟨n, rfl⟩ : ∃ m, n = m + 1 := ⟨n - 1, by omega⟩
    simp only [laws_wholeTo_l0, laws_wholeTo_g0, Bool.cond_decide]
    rw [if_neg (by omega)]
    exact .inr ⟨rfl, fun j x hj hx => by rw [List.getElem?_eq_none (by omega)] at hx; cases hx⟩
  | c + 1, i, n, hi, hn => by
    obtain ⟨n, rfl⟩ : ∃ m, n = m + 1 := ⟨n - 1, by omega⟩
    have hlt : i < l.length := by omega
    have ih := wholes hN l hl c (i + 1) n (by omega) (by omega)
    simp only [laws_wholeTo_l0, laws_wholeTo_g0, laws_wholeTo_j1, laws_wholeTo_g1, Bool.cond_decide, gate_pos hN]
    rw [if_pos (by omega), nth_nat, List.getElem?_eq_getElem hlt]
    simp only [Option.bind_some, math_Trunc, math_Trunc_g, math_archTrunc, fwholeN]
    cases hw : fwhole .zero l[i] with
    | none => exact .inl rfl
    | some y =>
      simp only [Sum.elim_inl, Option.bind_some, fne_not]
      cases he : feq l[i] y with
      | false => exact .inl rfl
      | true =>
        simp only [Bool.not_true, cond_false, abs_def, Option.bind_some]
        cases hf : fgt (fabs l[i]) m with
        | true => exact .inl rfl
        | false =>
          simp only [cond_false]
          rw [wrap_in (n := (i : Int) + 1) (by omega), show (i : Int) + 1 = ((i + 1 : Nat) : Int) by omega]
          rcases ih with ih | ⟨ih, ih2⟩
          · exact .inl ih
          · refine .inr ⟨ih, fun j x hj hx => ?_⟩
            rcases Nat.lt_or_ge i j with hij | hij
            · exact ih2 j x (by omega) hx
            · have : j = i := by omega
              subst this
              rw [List.getElem?_eq_getElem hlt] at hx
              simp only [Option.some.injEq] at hx
              subst hx
              exact in_of hm hB hw he hf
theorem wholeTo (l : List Nat) (hN : l.length + 1 ≤ N) (hl : l.length ≤ 9223372036854775806) :
    laws_wholeTo N m l = some false ∨ (laws_wholeTo N m l = some true ∧ ∀ x ∈ l, In B x) := by
  rcases wholes hm hB (N := N) (by omega) l hl l.length 0 N (by omega) hN with h | ⟨h, h2⟩
  · exact .inl h
  · refine .inr ⟨h, fun x hx => ?_⟩
    obtain ⟨i, hi, rfl⟩ := List.getElem_of_mem hx
    exact h2 i _ (by omega) (List.getElem?_eq_getElem hi)
end
end Go.Proofs.Ytgipjhgnnppjgaa.PvWholeToSI
namespace Go.Proofs.Ytgipjhgnnppjgaa.PvSeg
open Go.Av Go
open Go.Proofs.Ytgipjhgnnppjgaa.SI
theorem cast_le {a b : Int} {c : Rat} (h : a ≤ b) (e : (b : Rat) = c) : (a : Rat) ≤ c := e ▸ intCast_le.2 h
theorem le_cast {a b : Int} {c : Rat} (h : a ≤ b) (e : (a : Rat) = c) : c ≤ (b : Rat) := e ▸ intCast_le.2 h
/-- A whole number that is at most so big. -/
def W (B : Nat) (x : Nat) (X : Int) : Prop := Wh x X ∧ X.natAbs ≤ B
theorem W.sub {A B x y : Nat} {X Y : Int} (hx : W A x X) (hy : W B y Y) (h : A + B ≤ 9007199254740992) : ∃ z, Ieee.double.sub x y = some z ∧ W (A + B) z (X - Y) := by
  obtain ⟨h1, h2⟩ := hx
  obtain ⟨h3, h4⟩ := hy
  obtain ⟨z, e, hz⟩ := sub_wh h1 h3 (by omega)
  exact ⟨z, e, hz, by omega⟩
theorem W.add {A B x y : Nat} {X Y : Int} (hx : W A x X) (hy : W B y Y) (h : A + B ≤ 9007199254740992) : ∃ z, Ieee.double.add x y = some z ∧ W (A + B) z (X + Y) := by
  obtain ⟨h1, h2⟩ := hx
  obtain ⟨h3, h4⟩ := hy
  obtain ⟨z, e, hz⟩ := add_wh h1 h3 (by omega)
  exact ⟨z, e, hz, by omega⟩
theorem W.mul {A B x y : Nat} {X Y : Int} (hx : W A x X) (hy : W B y Y) (h : A * B ≤ 9007199254740992) : ∃ z, Ieee.double.mul x y = some z ∧ W (A * B) z (X * Y) := by
  obtain ⟨h1, h2⟩ := hx
  obtain ⟨h3, h4⟩ := hy
  have : (X * Y).natAbs ≤ A * B := by rw [Int.natAbs_mul]; exact Nat.mul_le_mul h2 h4
  obtain ⟨z, e, hz⟩ := mul_wh h1 h3 (by omega)
  exact ⟨z, e, hz, this⟩
/-- A number between bounds. -/
structure Bd (x : Nat) (l u : Rat) : Prop where
  fin : fin x = true
  lo : l ≤ fv x
  hi : fv x ≤ u
theorem W.bd {x : Nat} {X : Int} (h : W 8192 x X) : Bd x (-8192) 8192 :=
  ⟨h.1.1, by rw [h.1.2]; exact le_cast (a := -8192) (by have := h.2; omega) (by decide +kernel), by rw [h.1.2]; exact cast_le (b := 8192) (by have := h.2; omega) (by decide +kernel)⟩
theorem repz (n : Int) (h : n.natAbs ≤ 9007199254740992) : Rep (n : Rat) := rep_int h
theorem big {v : Rat} (h1 : -1073741824 ≤ v) (h2 : v ≤ 1073741824) : ab v < P2 1023 := by
  refine lt_of_big ?_ (by decide)
  unfold ab; split <;> grind
/-- The squared distance of a place from one within bounds. -/
theorem sqd {N : Nat} {l3 : List Nat} {px py x y : Nat} {PX PY : Int} (n0 : nth l3 0 = some px) (n1 : nth l3 1 = some py) (wx : W 8192 px PX) (wy : W 8192 py PY) (hx : Bd x (-8192) 8192) (hy : Bd y (-8192) 8192) :
    ∃ z, xy_distanceFromSegmentSquared_g0 N l3 x y = some z ∧ Bd z 0 536870912 := by
  have bx := wx.bd
  have bY := wy.bd
  have c : ((16384 : Int) : Rat) = 16384 := by decide +kernel
  have cn : ((-16384 : Int) : Rat) = -16384 := by decide +kernel
  have one : ∀ {p x : Nat}, Bd p (-8192) 8192 → Bd x (-8192) 8192 → ∃ s m, Ieee.double.sub p x = some s ∧ Ieee.double.mul s s = some m ∧ Bd m 0 268435456 := by
    intro p x hp hx
    have h1 := hp.lo
    have h2 := hp.hi
    have h3 := hx.lo
    have h4 := hx.hi
    obtain ⟨s, es, hs⟩ := sub_rnd hp.fin hx.fin (big (by grind) (by grind))
    have s1 := hs.hi 16384 (by rw [← c]; exact repz _ (by decide)) (by grind)
    have s2 := hs.lo (-16384) (by rw [← cn]; exact repz _ (by decide)) (by grind)
    have q0 : 0 ≤ fv s * fv s := by
      by_cases h : 0 ≤ fv s
      · exact Rat.mul_nonneg h h
      · have := Rat.mul_nonneg (a := - fv s) (b := - fv s) (by grind) (by grind); grind
    have q1 : fv s * fv s ≤ 268435456 := by
      by_cases h : 0 ≤ fv s
      · have m1 := Rat.mul_le_mul_of_nonneg_left s1 h; grind
      · have m1 := Rat.mul_le_mul_of_nonneg_left (show - fv s ≤ 16384 by grind) (show 0 ≤ - fv s by grind); grind
    obtain ⟨m, em, hm⟩ := mul_rnd hs.fin hs.fin (big (by grind) (by grind))
    exact ⟨s, m, es, em, hm.fin, hm.lo 0 (rep_nat (n := 0) (by decide)) q0, hm.hi 268435456 (rep_nat (n := 268435456) (by decide)) q1⟩
  obtain ⟨s, m, e1, e2, b1⟩ := one bx hx
  obtain ⟨s', m', e3, e4, b2⟩ := one bY hy
  have h1 := b1.lo
  have h2 := b1.hi
  have h3 := b2.lo
  have h4 := b2.hi
  obtain ⟨z, ez, hz⟩ := add_rnd b1.fin b2.fin (big (by grind) (by grind))
  refine ⟨z, ?_, hz.fin, hz.lo 0 (rep_nat (n := 0) (by decide)) (by grind), hz.hi 536870912 (rep_nat (n := 536870912) (by decide)) (by grind)⟩
  simp only [xy_distanceFromSegmentSquared_g0, n0, n1, e1, e2, e3, e4, ez, Option.bind_some]
/-- A place on the way from one number to another. -/
theorem onway {a d t : Nat} {A D : Int} (ha : W 8192 a A) (hd : W 16384 d D) (hb : -8192 ≤ A + D ∧ A + D ≤ 8192) (ht : Bd t 0 1) : ∃ m x, Ieee.double.mul d t = some m ∧ Ieee.double.add a m = some x ∧ Bd x (-8192) 8192 := by
  have t0 := ht.lo
  have t1 := ht.hi
  have a1 := ha.bd.lo
  have a2 := ha.bd.hi
  have d1 : -16384 ≤ (D : Rat) := le_cast (a := -16384) (by have := hd.2; omega) (by decide +kernel)
  have d2 : (D : Rat) ≤ 16384 := cast_le (b := 16384) (by have := hd.2; omega) (by decide +kernel)
  have s1 : -8192 ≤ (A : Rat) + (D : Rat) := by rw [← Rat.intCast_add]; exact le_cast (a := -8192) hb.1 (by decide +kernel)
  have s2 : (A : Rat) + (D : Rat) ≤ 8192 := by rw [← Rat.intCast_add]; exact cast_le (b := 8192) hb.2 (by decide +kernel)
  have av : fv a = (A : Rat) := ha.1.2
  have dv : fv d = (D : Rat) := hd.1.2
  have c : ((8192 : Int) : Rat) = 8192 := by decide +kernel
  have cn : ((-8192 : Int) : Rat) = -8192 := by decide +kernel
  have rD : Rep (D : Rat) := repz D (by have := hd.2; omega)
  have r0 : Rep 0 := rep_nat (n := 0) (by decide)
  by_cases hD : 0 ≤ (D : Rat)
  · have m1 := Rat.mul_le_mul_of_nonneg_left t1 hD
    have m0 := Rat.mul_nonneg hD t0
    obtain ⟨m, em, hm⟩ := mul_rnd hd.1.1 ht.fin (by rw [dv]; exact big (by grind) (by grind))
    rw [dv] at hm
    have k1 := hm.hi _ rD (by grind)
    have k0 := hm.lo 0 r0 m0
    obtain ⟨x, ex, hx⟩ := add_rnd ha.1.1 hm.fin (by rw [av]; exact big (by grind) (by grind))
    rw [av] at hx
    exact ⟨m, x, em, ex, hx.fin, hx.lo (-8192) (by rw [← cn]; exact repz _ (by decide)) (by grind), hx.hi 8192 (by rw [← c]; exact repz _ (by decide)) (by grind)⟩
  · have m1 := Rat.mul_le_mul_of_nonneg_left t1 (show 0 ≤ -(D : Rat) by grind)
    have m0 := Rat.mul_nonneg (show 0 ≤ -(D : Rat) by grind) t0
    obtain ⟨m, em, hm⟩ := mul_rnd hd.1.1 ht.fin (by rw [dv]; exact big (by grind) (by grind))
    rw [dv] at hm
    have k1 := hm.lo _ rD (by grind)
    have k0 := hm.hi 0 r0 (by grind)
    obtain ⟨x, ex, hx⟩ := add_rnd ha.1.1 hm.fin (by rw [av]; exact big (by grind) (by grind))
    rw [av] at hx
    exact ⟨m, x, em, ex, hx.fin, hx.lo (-8192) (by rw [← cn]; exact repz _ (by decide)) (by grind), hx.hi 8192 (by rw [← c]; exact repz _ (by decide)) (by grind)⟩
section
variable {N : Nat} (hN : 0 < N) {l1 l2 l3 : List Nat} {ax ay bx bY px py : Nat} {AX AY BX BY PX PY : Int}
  (a0 : nth l1 0 = some ax) (a1 : nth l1 1 = some ay) (b0 : nth l2 0 = some bx) (b1 : nth l2 1 = some bY) (p0 : nth l3 0 = some px) (p1 : nth l3 1 = some py)
  (wax : W 8192 ax AX) (way : W 8192 ay AY) (wbx : W 8192 bx BX) (wby : W 8192 bY BY) (wpx : W 8192 px PX) (wpy : W 8192 py PY)
include hN a0 a1 b0 b1 p0 p1 wax way wbx wby wpx wpy
theorem seg : ∃ z, xy_distanceFromSegmentSquared N l1 l2 l3 = some z ∧ Bd z 0 536870912 := by
  obtain ⟨dx, e7, k7⟩ := wbx.sub wax (by decide)
  obtain ⟨dy, e9, k9⟩ := wby.sub way (by decide)
  obtain ⟨q, e11, k11⟩ := wpx.sub wax (by decide)
  obtain ⟨r, e12, k12⟩ := k11.mul k7 (by decide)
  obtain ⟨q', e14, k14⟩ := wpy.sub way (by decide)
  obtain ⟨r', e15, k15⟩ := k14.mul k9 (by decide)
  obtain ⟨num, e16, k16⟩ := k12.add k15 (by decide)
  obtain ⟨x2, e17, k17⟩ := k7.mul k7 (by decide)
  obtain ⟨y2, e18, k18⟩ := k9.mul k9 (by decide)
  obtain ⟨den, e19, k19⟩ := k17.add k18 (by decide)
  have j : ∀ {x y : Nat}, Bd x (-8192) 8192 → Bd y (-8192) 8192 → ∃ z, xy_distanceFromSegmentSquared_j0 N l3 x y = some z ∧ Bd z 0 536870912 := fun {x y} hx hy => by
    unfold xy_distanceFromSegmentSquared_j0
    rw [gate_pos hN]
    exact sqd p0 p1 wpx wpy hx hy
  -- the share of the way
  have quo : ¬ (BX - AX = 0 ∧ BY - AY = 0) → ∃ t, Ieee.double.div num den = some t ∧ fin t = true := fun h => by
    have h1 : 0 ≤ (BX - AX) * (BX - AX) := by
      rcases Int.le_total 0 (BX - AX) with h | h
      · exact Int.mul_nonneg h h
      · exact Int.mul_nonneg_of_nonpos_of_nonpos h h
    have h2 : 0 ≤ (BY - AY) * (BY - AY) := by
      rcases Int.le_total 0 (BY - AY) with h | h
      · exact Int.mul_nonneg h h
      · exact Int.mul_nonneg_of_nonpos_of_nonpos h h
    have h3 : 1 ≤ (BX - AX) * (BX - AX) + (BY - AY) * (BY - AY) := by
      refine Int.not_lt.1 fun hlt => h ?_
      have z1 : (BX - AX) * (BX - AX) = 0 := by omega
      have z2 : (BY - AY) * (BY - AY) = 0 := by omega
      constructor
      · rcases Int.mul_eq_zero.1 z1 with h | h <;> exact h
      · rcases Int.mul_eq_zero.1 z2 with h | h <;> exact h
    generalize (BX - AX) * (BX - AX) + (BY - AY) * (BY - AY) = D at h3 k19
    generalize (PX - AX) * (BX - AX) + (PY - AY) * (BY - AY) = M at k16
    have r1 : (1 : Rat) ≤ (D : Rat) := le_cast (a := 1) h3 (by decide +kernel)
    have dne : (D : Rat) ≠ 0 := by grind
    obtain ⟨V, hV⟩ : ∃ V : Rat, V * (D : Rat) = (M : Rat) := ⟨(M : Rat) / (D : Rat), Rat.div_mul_cancel dne⟩
    have nb : ab (M : Rat) ≤ 1073741824 := by
      rw [ab_int]
      have : ((M.natAbs : Nat) : Rat) ≤ ((536870912 : Nat) : Rat) := natCast_le.2 k16.2
      have e : ((536870912 : Nat) : Rat) = 536870912 := by decide +kernel
      grind
    have hb : ab V ≤ 1073741824 := by
      rw [← hV, ab_mul, ab_of_nonneg (v := (D : Rat)) (by grind)] at nb
      have := Rat.mul_le_mul_of_nonneg_left r1 (ab_nonneg V)
      grind
    obtain ⟨t, et, ht⟩ := div_rnq (V := V) k16.1.1 k19.1.1 (by rw [k19.1.2]; exact dne) (by rw [k16.1.2, k19.1.2]; exact hV) (lt_of_big (by grind) (by decide))
    exact ⟨t, et, ht.fin⟩
  have rest : ∀ t, fin t = true → ∃ z, (bif (fgt t 4607182418800017408) then xy_distanceFromSegmentSquared_j0 N l3 bx bY else (bif (fgt t 0) then ((Ieee.double.mul dx t).bind fun v23 => (Ieee.double.add ax v23).bind fun v24 => ((Ieee.double.mul dy t).bind fun v25 => (Ieee.double.add ay v25).bind fun v26 => (xy_distanceFromSegmentSquared_j0 N l3 v24 v26))) else xy_distanceFromSegmentSquared_j0 N l3 ax ay)) = some z ∧ Bd z 0 536870912 := fun t ft => by
    cases h1 : fgt t 4607182418800017408 with
    | true => exact j wbx.bd wby.bd
    | false =>
      cases h0 : fgt t 0 with
      | false => exact j wax.bd way.bd
      | true =>
        rw [fgt_fv ft one_wh.1, one_wh.2, decide_eq_false_iff_not] at h1
        rw [fgt_fv ft wh_zero.1, wh_zero.2, decide_eq_true_eq] at h0
        have e1 : ((1 : Int) : Rat) = 1 := rfl
        have e0 : ((0 : Int) : Rat) = 0 := rfl
        have ht : Bd t 0 1 := ⟨ft, by grind, by grind⟩
        have i1 := wbx.2
        have i2 := wby.2
        obtain ⟨m, x, f1, f2, hx⟩ := onway wax k7 (by omega) ht
        obtain ⟨m', y, f3, f4, hy⟩ := onway way k9 (by omega) ht
        rw [cond_false, cond_true, f1, Option.bind_some, f2, Option.bind_some, f3, Option.bind_some, f4, Option.bind_some]
        exact j hx hy
  unfold xy_distanceFromSegmentSquared xy_distanceFromSegmentSquared_g
  simp only [a0, a1, b0, b1, p0, p1, e7, e9, Option.bind_some]
  rw [fne_wh k7.1 wh_zero, fne_wh k9.1 wh_zero]
  by_cases hx : BX - AX = 0
  · by_cases hy : BY - AY = 0
    · rw [decide_eq_true hx, decide_eq_true hy]
      exact j wax.bd way.bd
    · obtain ⟨t, et, ft⟩ := quo (fun h => hy h.2)
      rw [decide_eq_true hx, decide_eq_false hy]
      simp only [Bool.not_true, Bool.not_false, cond_false, cond_true, e11, e12, e14, e15, e16, e17, e18, e19, et, Option.bind_some]
      exact rest t ft
  · obtain ⟨t, et, ft⟩ := quo (fun h => hx h.1)
    rw [decide_eq_false hx]
    simp only [Bool.not_false, cond_true, e11, e12, e14, e15, e16, e17, e18, e19, et, Option.bind_some]
    exact rest t ft
end
end Go.Proofs.Ytgipjhgnnppjgaa.PvSeg
namespace Go.Proofs.Ytgipjhgnnppjgaa.PvSimp
open Go.Av Go
open Go.Proofs.Ytgipjhgnnppjgaa.SI
open Go.Proofs.Ytgipjhgnnppjgaa.PvSeg
theorem getD_get {flat : List Nat} {i : Nat} (h : i < flat.length) : flat.getD i 0 = flat[i] := by rw [List.getD_eq_getElem?_getD, List.getElem?_eq_getElem h]; rfl
theorem nth_cut {flat : List Nat} {a b : Nat} (hb : 2 ≤ b) (h : a + b ≤ flat.length) : nth ((flat.drop a).take b) 0 = some (flat.getD a 0) ∧ nth ((flat.drop a).take b) 1 = some (flat.getD (a + 1) 0) := by
  constructor
  · rw [show (0 : Int) = ((0 : Nat) : Int) from rfl, nth_nat, List.getElem?_take_of_lt (by omega), List.getElem?_drop, List.getElem?_eq_getElem (by omega), getD_get (by omega)]
    rfl
  · rw [show (1 : Int) = ((1 : Nat) : Int) from rfl, nth_nat, List.getElem?_take_of_lt (by omega), List.getElem?_drop, List.getElem?_eq_getElem (by omega), getD_get (by omega)]
section
variable {N : Nat} (hN : 2 ≤ N) (hNl : 9223372036854775808 ≤ N) {s K : Nat} {flat : List Nat} {thr m : Nat}
  (hl : ∀ k, k < K → (∃ X, W 8192 (flat.getD (k * s) 0) X) ∧ ∃ Y, W 8192 (flat.getD (k * s + 1) 0) Y) (hs : 2 ≤ s) (hs2 : s ≤ 8) (hfl : flat.length = K * s) (hK : 3 ≤ K) (hK2 : K ≤ 60)
  (hm : Ieee.double.mul thr thr = some m) (fm : fin m = true) (hm2 : 1073741824 ≤ fv m)
include hN hNl hl hs hs2 hfl hK hK2 hm fm hm2
theorem room {k : Nat} (h : k < K) : k * s + s ≤ flat.length := by
  have h1 : (k + 1) * s ≤ K * s := Nat.mul_le_mul_right s (by omega)
  rw [Nat.add_mul, Nat.one_mul] at h1
  omega
theorem distk {i j k : Nat} (hi : i < K) (hj : j < K) (hk : k < K) : ∃ z, xy_distanceFromSegmentSquared N ((flat.drop (i * s)).take s) ((flat.drop (j * s)).take s) ((flat.drop (k * s)).take s) = some z ∧ Bd z 0 536870912 := by
  obtain ⟨a0, a1⟩ := nth_cut hs (room hN hNl hl hs hs2 hfl hK hK2 hm fm hm2 hi)
  obtain ⟨b0, b1⟩ := nth_cut hs (room hN hNl hl hs hs2 hfl hK hK2 hm fm hm2 hj)
  obtain ⟨c0, c1⟩ := nth_cut hs (room hN hNl hl hs hs2 hfl hK hK2 hm fm hm2 hk)
  obtain ⟨⟨_, w1⟩, _, w2⟩ := hl i hi
  obtain ⟨⟨_, w3⟩, _, w4⟩ := hl j hj
  obtain ⟨⟨_, w5⟩, _, w6⟩ := hl k hk
  exact seg (by omega) a0 a1 b0 b1 c0 c1 w1 w2 w3 w4 w5 w6
theorem inner (r0 : Int → Int → List Int → List Int → Option (Int × List Int × Unit)) (mask : List Int) : ∀ (c i n V : Nat) (idx : Int), i + c = K - 1 → 1 ≤ i → c + 1 ≤ n → Bd V 0 536870912 →
    xy_dpWorker_l1 N r0 flat thr (s : Int) n 2 2 ((K - 1 : Nat) : Int) (0 * s, 0 * s + s) ((K - 1) * s, (K - 1) * s + s) [0, ((K - 1 : Nat) : Int)] mask V idx (i : Int) = r0 2 0 [] mask
  | 0, i, n, V, idx, hi, h1, hn, hV => by
    obtain ⟨n, rfl⟩ : ∃ m, n = m + 1 := ⟨n - 1, by omega⟩
    have hlo := hV.lo
    have hhi := hV.hi
    unfold xy_dpWorker_l1
    simp only [xy_dpWorker_g1]
    rw [show decide ((i : Int) < ((K - 1 : Nat) : Int)) = false by simp only [decide_eq_false_iff_not]; omega, cond_false, hm, Option.bind_some, fgt_fv hV.fin fm, decide_eq_false (show ¬ fv m < fv V by grind), cond_false]
    rfl
  | c + 1, i, n, V, idx, hi, h1, hn, hV => by
    obtain ⟨n, rfl⟩ : ∃ m, n = m + 1 := ⟨n - 1, by omega⟩
    have hb : K * s ≤ 60 * 8 := Nat.mul_le_mul hK2 hs2
    have hr := room hN hNl hl hs hs2 hfl hK hK2 hm fm hm2 (k := i) (by omega)
    obtain ⟨z, ez, hz⟩ := distk hN hNl hl hs hs2 hfl hK hK2 hm fm hm2 (i := 0) (j := K - 1) (k := i) (by omega) (by omega) (by omega)
    have ih := fun V idx hV => inner r0 mask c (i + 1) n V idx (by omega) (by omega) (by omega) hV
    have step : ∀ V idx, xy_dpWorker_j2 N (xy_dpWorker_l1 N r0 flat thr (s : Int) n 2 2 ((K - 1 : Nat) : Int) (0 * s, 0 * s + s) ((K - 1) * s, (K - 1) * s + s) [0, ((K - 1 : Nat) : Int)] mask) r0 flat thr (s : Int) 2 2 ((K - 1 : Nat) : Int) (0 * s, 0 * s + s) ((K - 1) * s, (K - 1) * s + s) [0, ((K - 1 : Nat) : Int)] mask (i : Int) V idx =
        xy_dpWorker_l1 N r0 flat thr (s : Int) n 2 2 ((K - 1 : Nat) : Int) (0 * s, 0 * s + s) ((K - 1) * s, (K - 1) * s + s) [0, ((K - 1 : Nat) : Int)] mask V idx ((i + 1 : Nat) : Int) := fun V idx => by
      unfold xy_dpWorker_j2 xy_dpWorker_g2
      rw [gate_pos (by omega), wrap_in (n := (i : Int) + 1) (by omega), show (i : Int) + 1 = ((i + 1 : Nat) : Int) by omega]
    conv => lhs; unfold xy_dpWorker_l1
    simp only [xy_dpWorker_g1]
    rw [show decide ((i : Int) < ((K - 1 : Nat) : Int)) = true by simp only [decide_eq_true_eq]; omega, cond_true, show (i : Int) * (s : Int) = ((i * s : Nat) : Int) by rw [Int.natCast_mul], wrap_in (n := ((i * s : Nat) : Int)) (by omega), wrap_in (n := ((i * s : Nat) : Int) + (s : Int)) (by omega), chk2_int (by omega)]
    rw [Option.bind_some]
    rw [show (((i * s : Nat) : Int)).toNat = i * s by omega, show (((i * s : Nat) : Int) + (s : Int)).toNat = i * s + s by omega]
    rw [show 0 * s + s - 0 * s = s by omega, show (K - 1) * s + s - (K - 1) * s = s by omega, show i * s + s - i * s = s by omega, ez, Option.bind_some]
    cases fgt z V with
    | true => rw [cond_true, step, ih _ _ hz]
    | false => rw [cond_false, step, ih _ _ hV]
theorem worker (mask : List Int) : xy_dpWorker N flat thr mask (s : Int) = some (2, mask, ()) := by
  have hb : K * s ≤ 60 * 8 := Nat.mul_le_mul hK2 hs2
  have hd : Int.tdiv (flat.length : Int) (s : Int) = (K : Int) := by
    rw [hfl, Int.natCast_mul]
    exact Int.mul_tdiv_cancel _ (by omega)
  obtain ⟨n, hn⟩ : ∃ n, N = n + 1 + 1 := ⟨N - 2, by omega⟩
  unfold xy_dpWorker xy_dpWorker_g
  rw [if_neg (by omega), hd, wrap_in (n := (K : Int)) (by omega), wrap_in (n := (K : Int) - 1) (by omega), show (K : Int) - 1 = ((K - 1 : Nat) : Int) by omega]
  rw [lim_le (by simp), Option.bind_some]
  have last : ∀ n, xy_dpWorker_l0 N (n + 1) flat thr (s : Int) 2 0 [] mask = some (2, mask, ()) := fun n => rfl
  have hl1 := inner hN hNl hl hs hs2 hfl hK hK2 hm fm hm2 (xy_dpWorker_l0 N (n + 1) flat thr (s : Int)) mask (K - 2) 1 N 0 0 (by omega) (by omega) (by omega) ⟨wh_zero.1, by rw [wh_zero.2]; decide, by rw [wh_zero.2]; decide⟩
  have h0 : xy_dpWorker_l0 N (n + 1 + 1) flat thr (s : Int) 2 2 [0, ((K - 1 : Nat) : Int)] mask = xy_dpWorker_l0 N (n + 1) flat thr (s : Int) 2 0 [] mask := by
    conv => lhs; unfold xy_dpWorker_l0
    simp only [xy_dpWorker_g0]
    have hr := room hN hNl hl hs hs2 hfl hK hK2 hm fm hm2 (k := K - 1) (by omega)
    have hr0 := room hN hNl hl hs hs2 hfl hK hK2 hm fm hm2 (k := 0) (by omega)
    have c0 : chk (IntKind.i64.wrap (2 - 2)) ([0, ((K - 1 : Nat) : Int)] : List Int).length = some 0 := rfl
    have c1 : chk (IntKind.i64.wrap (2 - 1)) ([0, ((K - 1 : Nat) : Int)] : List Int).length = some 1 := rfl
    rw [show decide ((2 : Int) > 0) = true from rfl, cond_true, c0, Option.bind_some, show ([0, ((K - 1 : Nat) : Int)] : List Int)[0]? = some 0 from rfl, Option.bind_some, c1, Option.bind_some, show ([0, ((K - 1 : Nat) : Int)] : List Int)[1]? = some ((K - 1 : Nat) : Int) from rfl, Option.bind_some]
    rw [show (0 : Int) * (s : Int) = ((0 * s : Nat) : Int) by simp, show ((K - 1 : Nat) : Int) * (s : Int) = (((K - 1) * s : Nat) : Int) by rw [Int.natCast_mul]]
    rw [wrap_in (n := ((0 * s : Nat) : Int)) (by omega), wrap_in (n := ((0 * s : Nat) : Int) + (s : Int)) (by omega), chk2_int (by omega), Option.bind_some, wrap_in (n := (((K - 1) * s : Nat) : Int)) (by omega), wrap_in (n := (((K - 1) * s : Nat) : Int) + (s : Int)) (by omega), chk2_int (by omega), Option.bind_some]
    rw [show (((0 * s : Nat) : Int)).toNat = 0 * s by omega, show (((0 * s : Nat) : Int) + (s : Int)).toNat = 0 * s + s by omega, show ((((K - 1) * s : Nat) : Int)).toNat = (K - 1) * s by omega, show ((((K - 1) * s : Nat) : Int) + (s : Int)).toNat = (K - 1) * s + s by omega]
    rw [show IntKind.i64.wrap (0 + 1) = ((1 : Nat) : Int) from rfl]
    exact hl1
  rw [show (([0, ((K - 1 : Nat) : Int)] : List Int).length : Int) = 2 from rfl]
  rw [show xy_dpWorker_l0 N N = xy_dpWorker_l0 N (n + 1 + 1) by rw [← hn]]
  rw [h0, last]
end
end Go.Proofs.Ytgipjhgnnppjgaa.PvSimp
namespace Go.Proofs.Ytgipjhgnnppjgaa.PvSimpL
open Go.Av Go
open Go.Proofs.Ytgipjhgnnppjgaa.SI
open Go.Proofs.Ytgipjhgnnppjgaa.PvWholeToSI
open Go.Proofs.Ytgipjhgnnppjgaa.PvWholeSI
open Go.Proofs.Ytgipjhgnnppjgaa.PvWhole2SI
open Go.Proofs.Ytgipjhgnnppjgaa.PvDyadicSI
open Go.Proofs.Ytgipjhgnnppjgaa.PvSeg
open Go.Proofs.Ytgipjhgnnppjgaa.PvSimp
theorem b13 : Wh 4665729213955833856 8192 := wh_lit _ _ (by decide +kernel) (by decide +kernel) (by decide +kernel) (by decide)
theorem t15 : Wh 4674736413210574848 32768 := wh_lit _ _ (by decide +kernel) (by decide +kernel) (by decide +kernel) (by decide)
theorem t20 : Wh 4697254411347427328 1048576 := wh_lit _ _ (by decide +kernel) (by decide +kernel) (by decide +kernel) (by decide)
def mk (K : Nat) : List Int := ((List.replicate K (0 : Int)).set 0 1).set (K - 1) 1
theorem mk_len (K : Nat) : (mk K).length = K := by simp [mk]
theorem mk_get {K i : Nat} (h : i < K) : (mk K)[i]? = some (if i = 0 ∨ i = K - 1 then 1 else 0) := by
  unfold mk
  rw [List.getElem?_set, List.getElem?_set, List.getElem?_replicate]
  simp only [List.length_set, List.length_replicate]
  by_cases h1 : K - 1 = i
  · rw [if_pos h1, if_pos (by omega), if_pos (by omega)]
  · rw [if_neg h1]
    by_cases h2 : 0 = i
    · rw [if_pos h2, if_pos (by omega), if_pos (by omega)]
    · rw [if_neg h2, if_pos h, if_neg (by omega)]
section
variable {N : Nat} (hN : 2 ≤ N) (hNl : 9223372036854775808 ≤ N)
include hN hNl
/-- What is kept is told in turn. -/
theorem collect {K : Nat} (hK : 3 ≤ K) (hK2 : K ≤ 60) : ∀ (c i n : Nat), i + c + 1 = K → 1 ≤ i → c + 2 ≤ n → xy_SimplifyFlatCoords_l1 N n (2, mk K, ()) (i : Int) [0] = some ([0, ((K - 1 : Nat) : Int)], ())
  | 0, i, n, hi, h1, hn => by
    obtain ⟨n, rfl⟩ : ∃ m, n = m + 1 + 1 := ⟨n - 2, by omega⟩
    have hi : i = K - 1 := by omega
    conv => lhs; unfold xy_SimplifyFlatCoords_l1
    simp only [xy_SimplifyFlatCoords_g1]
    rw [show decide ((i : Int) < ((mk K).length : Int)) = true by rw [mk_len]; simp only [decide_eq_true_eq]; omega, cond_true, chk_nat (by rw [mk_len]; omega), Option.bind_some, mk_get (by omega), Option.bind_some, if_pos (by omega)]
    rw [show ((1 : Int) == 1) = true from rfl, cond_true, lim_le (by simp), Option.bind_some, wrap_in (n := (i : Int) + 1) (by omega)]
    unfold xy_SimplifyFlatCoords_l1
    simp only [xy_SimplifyFlatCoords_g1]
    rw [show decide ((i : Int) + 1 < ((mk K).length : Int)) = false by rw [mk_len]; simp only [decide_eq_false_iff_not]; omega, cond_false, hi]
    rfl
  | c + 1, i, n, hi, h1, hn => by
    obtain ⟨n, rfl⟩ : ∃ m, n = m + 1 := ⟨n - 1, by omega⟩
    have ih := collect hK hK2 c (i + 1) n (by omega) (by omega) (by omega)
    conv => lhs; unfold xy_SimplifyFlatCoords_l1
    simp only [xy_SimplifyFlatCoords_g1]
    rw [show decide ((i : Int) < ((mk K).length : Int)) = true by rw [mk_len]; simp only [decide_eq_true_eq]; omega, cond_true, chk_nat (by rw [mk_len]; omega), Option.bind_some, mk_get (by omega), Option.bind_some, if_neg (by omega)]
    rw [show ((0 : Int) == 1) = false from rfl, cond_false, wrap_in (n := (i : Int) + 1) (by omega), show (i : Int) + 1 = ((i + 1 : Nat) : Int) by omega, ih]
theorem simplify {s K : Nat} {flat : List Nat} {thr m : Nat}
    (hl : ∀ k, k < K → (∃ X, W 8192 (flat.getD (k * s) 0) X) ∧ ∃ Y, W 8192 (flat.getD (k * s + 1) 0) Y) (hs : 2 ≤ s) (hs2 : s ≤ 8) (hfl : flat.length = K * s) (hK : 3 ≤ K) (hK2 : K ≤ 60)
    (hm : Ieee.double.mul thr thr = some m) (fm : fin m = true) (hm2 : 1073741824 ≤ fv m) : impl_Simplify N flat thr (s : Int) = some ([0, ((K - 1 : Nat) : Int)], true, ()) := by
  have hb : K * s ≤ 60 * 8 := Nat.mul_le_mul hK2 hs2
  have hd : Int.tdiv (flat.length : Int) (s : Int) = (K : Int) := by
    rw [hfl, Int.natCast_mul]
    exact Int.mul_tdiv_cancel _ (by omega)
  have hw := worker hN hNl hl hs hs2 hfl hK hK2 hm fm hm2 (mk K)
  obtain ⟨n, hn⟩ : ∃ n, N = n + 1 := ⟨N - 1, by omega⟩
  have hc := collect hN hNl hK hK2 (K - 2) 1 n (by omega) (by omega) (by omega)
  have m1 : mkn (K : Int) (K : Int) 1 = some K := by unfold mkn; rw [if_pos (by omega)]; simp
  have m2 : mkn 0 2 8 = some 0 := rfl
  have c0 : chk 0 (List.replicate K (0 : Int)).length = some 0 := by rw [show (0 : Int) = ((0 : Nat) : Int) from rfl, chk_nat (by simp; omega)]
  have c1 : chk (IntKind.i64.wrap ((((List.replicate K (0 : Int)).set 0 1).length : Int) - 1)) ((List.replicate K (0 : Int)).set 0 1).length = some (K - 1) := by
    rw [List.length_set, List.length_replicate, wrap_in (n := (K : Int) - 1) (by omega), show (K : Int) - 1 = ((K - 1 : Nat) : Int) by omega, chk_nat (by omega)]
  have hx : xy_SimplifyFlatCoords N flat thr (s : Int) = some ([0, ((K - 1 : Nat) : Int)], ()) := by
    unfold xy_SimplifyFlatCoords xy_SimplifyFlatCoords_g
    rw [if_neg (by omega), hd, wrap_in (n := (K : Int)) (by omega), show decide ((K : Int) < 3) = false by simp only [decide_eq_false_iff_not]; omega, cond_false, m1, Option.bind_some, c0, Option.bind_some, c1, Option.bind_some]
    rw [show ((List.replicate K (0 : Int)).set 0 1).set (K - 1) 1 = mk K from rfl, hw, Option.bind_some, m2, Option.bind_some]
    rw [show xy_SimplifyFlatCoords_l1 N N = xy_SimplifyFlatCoords_l1 N (n + 1) by rw [← hn]]
    conv => lhs; unfold xy_SimplifyFlatCoords_l1
    simp only [xy_SimplifyFlatCoords_g1]
    rw [show decide ((0 : Int) < ((mk K).length : Int)) = true by rw [mk_len]; simp only [decide_eq_true_eq]; omega, cond_true, show (0 : Int) = ((0 : Nat) : Int) from rfl, chk_nat (by rw [mk_len]; omega), Option.bind_some, mk_get (by omega), Option.bind_some, if_pos (by omega)]
    rw [show ((1 : Int) == 1) = true from rfl, cond_true, lim_le (by simp), Option.bind_some]
    exact hc
  unfold impl_Simplify impl_Simplify_g impl_ints impl_ints_g
  rw [hx, Option.bind_some, lim_le (by simp)]
  rfl
abbrev DP := DY × (DY × Unit)
/-- The exact places of a row. -/
theorem places {s K : Nat} {flat : List Nat} (hs : 2 ≤ s) (hs2 : s ≤ 8) (hfl : flat.length = K * s) (hK2 : K ≤ 60) (lf : ∀ x ∈ flat, x < 18446744073709551616)
    (hl : ∀ k, k < K → (∃ X, W 8192 (flat.getD (k * s) 0) X) ∧ ∃ Y, W 8192 (flat.getD (k * s + 1) 0) Y) : ∀ (c k n : Nat) (out : List DP), k + c = K → out.length = k → c + 1 ≤ n → ∃ l : List DP, spec_Places_l0 N n flat (s : Int) ((k * s : Nat) : Int) out = some (l, ()) ∧ l.length = K
  | 0, k, n, out, hk, ho, hn => by
    obtain ⟨n, rfl⟩ : ∃ m, n = m + 1 := ⟨n - 1, by omega⟩
    have hb : K * s ≤ 60 * 8 := Nat.mul_le_mul hK2 hs2
    have hk : k = K := by omega
    subst hk
    refine ⟨out, ?_, ho⟩
    unfold spec_Places_l0
    simp only [spec_Places_g0]
    rw [show decide ((s : Int) > 1) = true by simp only [decide_eq_true_eq]; omega, cond_true, wrap_in (n := ((k * s : Nat) : Int) + (s : Int)) (by omega), show decide (((k * s : Nat) : Int) + (s : Int) ≤ (flat.length : Int)) = false by simp only [decide_eq_false_iff_not]; omega, cond_false]
    unfold spec_Places_j1 spec_Places_g1
    rw [gate_pos (by omega)]
  | c + 1, k, n, out, hk, ho, hn => by
    obtain ⟨n, rfl⟩ : ∃ m, n = m + 1 := ⟨n - 1, by omega⟩
    have hb : K * s ≤ 60 * 8 := Nat.mul_le_mul hK2 hs2
    have h1 : (k + 1) * s ≤ K * s := Nat.mul_le_mul_right s (by omega)
    have e1 : (k + 1) * s = k * s + s := by rw [Nat.add_mul, Nat.one_mul]
    obtain ⟨⟨X, wx⟩, Y, wy⟩ := hl k (by omega)
    have i1 : k * s < flat.length := by omega
    have i2 : k * s + 1 < flat.length := by omega
    rw [getD_get i1] at wx
    rw [getD_get i2] at wy
    obtain ⟨a, ea, _⟩ := dof (by omega) hNl wx.1.1 (lf _ (List.getElem_mem i1))
    obtain ⟨b, eb, _⟩ := dof (by omega) hNl wy.1.1 (lf _ (List.getElem_mem i2))
    obtain ⟨l, el, hll⟩ := places hs hs2 hfl hK2 lf hl c (k + 1) n (out ++ [((((a.1.1, a.1.2.1, ()), a.2.1, ()), ((b.1.1, b.1.2.1, ()), b.2.1, ()), ()) : DP)]) (by omega) (by simp; omega) (by omega)
    refine ⟨l, ?_, hll⟩
    conv => lhs; unfold spec_Places_l0
    simp only [spec_Places_g0]
    rw [show decide ((s : Int) > 1) = true by simp only [decide_eq_true_eq]; omega, cond_true, wrap_in (n := ((k * s : Nat) : Int) + (s : Int)) (by omega), show decide (((k * s : Nat) : Int) + (s : Int) ≤ (flat.length : Int)) = true by simp only [decide_eq_true_eq]; omega, cond_true,
      wrap_in (n := ((k * s : Nat) : Int) + 1) (by omega), show ((k * s : Nat) : Int) + 1 = ((k * s + 1 : Nat) : Int) by omega, nth_get i1, nth_get i2, Option.bind_some, Option.bind_some]
    have hp : spec_PointOf N flat[k * s] flat[k * s + 1] = some ((((a.1.1, a.1.2.1, ()), a.2.1, ()), ((b.1.1, b.1.2.1, ()), b.2.1, ()), ()) : DP) := by
      simp only [spec_PointOf, spec_PointOf_g, ea, eb, Option.bind_some]
    rw [hp, Option.bind_some, lim_le (by simp; omega), Option.bind_some, show ((k * s : Nat) : Int) + (s : Int) = (((k + 1) * s : Nat) : Int) by omega, el]
theorem flat_loop {s K : Nat} {flat : List Nat} (hs : 2 ≤ s) (hs2 : s ≤ 8) (hfl : flat.length = K * s) (hK2 : K ≤ 60) : ∀ (c k n : Nat), k + c = K → c + 1 ≤ n →
    (∃ l, laws_flatPoints_l1 N n (s : Int) flat ((k * s : Nat) : Int) = some (l, false, ())) ∨
    (laws_flatPoints_l1 N n (s : Int) flat ((k * s : Nat) : Int) = ((spec_Places N flat (s : Int)).bind fun v10 => some (v10.1, true, ())) ∧ ∀ j, k ≤ j → j < K → (∃ X, W 8192 (flat.getD (j * s) 0) X) ∧ ∃ Y, W 8192 (flat.getD (j * s + 1) 0) Y)
  | 0, k, n, hk, hn => by
    obtain ⟨n, rfl⟩ : ∃ m, n = m + 1 := ⟨n - 1, by omega⟩
    have hk : k = K := by omega
    subst hk
    right
    refine ⟨?_, fun j h1 h2 => by omega⟩
    unfold laws_flatPoints_l1
    simp only [laws_flatPoints_g1]
    rw [show decide (((k * s : Nat) : Int) < (flat.length : Int)) = false by simp only [decide_eq_false_iff_not]; omega, cond_false]
  | c + 1, k, n, hk, hn => by
    obtain ⟨n, rfl⟩ : ∃ m, n = m + 1 := ⟨n - 1, by omega⟩
    have hb : K * s ≤ 60 * 8 := Nat.mul_le_mul hK2 hs2
    have h1 : (k + 1) * s ≤ K * s := Nat.mul_le_mul_right s (by omega)
    have e1 : (k + 1) * s = k * s + s := by rw [Nat.add_mul, Nat.one_mul]
    have i1 : k * s < flat.length := by omega
    have i2 : k * s + 1 < flat.length := by omega
    have ih := flat_loop hs hs2 hfl hK2 c (k + 1) n (by omega) (by omega)
    unfold laws_flatPoints_l1
    simp only [laws_flatPoints_g1]
    rw [show decide (((k * s : Nat) : Int) < (flat.length : Int)) = true by simp only [decide_eq_true_eq]; omega, cond_true, wrap_in (n := ((k * s : Nat) : Int) + 1) (by omega), show ((k * s : Nat) : Int) + 1 = ((k * s + 1 : Nat) : Int) by omega, nth_get i1, nth_get i2, Option.bind_some, Option.bind_some]
    rcases wholeTo b13 (by decide) (N := N) [flat[k * s], flat[k * s + 1]] (by simp; omega) (by simp) with h | ⟨h, hin⟩
    · rw [h, Option.bind_some]; exact .inl ⟨_, rfl⟩
    · rw [h, Option.bind_some, Bool.not_true, cond_false, wrap_in (n := ((k * s : Nat) : Int) + (s : Int)) (by omega), show ((k * s : Nat) : Int) + (s : Int) = (((k + 1) * s : Nat) : Int) by omega]
      rcases ih with ih | ⟨ih, hj⟩
      · exact .inl ih
      · refine .inr ⟨ih, fun j h3 h4 => ?_⟩
        rcases Nat.lt_or_ge k j with h5 | h5
        · exact hj j h5 h4
        · have : j = k := by omega
          subst this
          obtain ⟨X, wx, x1, x2⟩ := hin flat[j * s] (by simp)
          obtain ⟨Y, wy, y1, y2⟩ := hin flat[j * s + 1] (by simp)
          rw [getD_get i1, getD_get i2]
          exact ⟨⟨X, wx, by omega⟩, Y, wy, by omega⟩
theorem flat_spec (v : Int) (flat : List Nat) (lf : ∀ x ∈ flat, x < 18446744073709551616) (hf : flat.length ≤ 9223372036854775807) :
    (∃ l, laws_flatPoints N v flat = some (l, false, ())) ∨ ∃ (s K : Nat) (l : List DP), v = (s : Int) ∧ 2 ≤ s ∧ s ≤ 8 ∧ flat.length = K * s ∧ K ≤ 60 ∧ laws_flatPoints N v flat = some (l, true, ()) ∧ l.length = K ∧
      ∀ j, j < K → (∃ X, W 8192 (flat.getD (j * s) 0) X) ∧ ∃ Y, W 8192 (flat.getD (j * s + 1) 0) Y := by
  have hj : laws_flatPoints_j0 N v flat = some ([], false, ()) := by unfold laws_flatPoints_j0 laws_flatPoints_g0; rw [gate_pos (by omega)]
  unfold laws_flatPoints laws_flatPoints_g
  cases h1 : decide (v < 2) with
  | true => rw [cond_true, hj]; exact .inl ⟨_, rfl⟩
  | false =>
    cases h2 : decide (v > 8) with
    | true => rw [cond_false, cond_true, hj]; exact .inl ⟨_, rfl⟩
    | false =>
      simp only [decide_eq_false_iff_not] at h1 h2
      obtain ⟨s, rfl⟩ : ∃ s : Nat, v = (s : Int) := ⟨v.toNat, by omega⟩
      rw [cond_false, cond_false, if_neg (by omega)]
      cases h3 : (Int.tmod (flat.length : Int) (s : Int) != 0) with
      | true => rw [cond_true, hj]; exact .inl ⟨_, rfl⟩
      | false =>
        rw [cond_false, gate_pos (by omega), wrap_in (n := 60 * (s : Int)) (by omega)]
        cases h4 : decide ((flat.length : Int) > 60 * (s : Int)) with
        | true => exact .inl ⟨_, rfl⟩
        | false =>
          rw [cond_false]
          simp only [decide_eq_false_iff_not] at h4
          have hmod : flat.length % s = 0 := by
            simp only [bne_eq_false_iff_eq] at h3
            rw [Int.tmod_eq_emod_of_nonneg (by omega)] at h3
            omega
          have hl : flat.length = (flat.length / s) * s := by
            have := Nat.div_add_mod flat.length s
            rw [hmod, Nat.mul_comm] at this
            omega
          generalize flat.length / s = K at hl
          have hK : K ≤ 60 := by
            refine Nat.le_of_not_lt fun h => ?_
            have : 61 * s ≤ K * s := Nat.mul_le_mul_right s h
            omega
          have hloop := flat_loop hN hNl (by omega) (by omega) hl hK K 0 N (by omega) (by omega)
          rw [show ((0 * s : Nat) : Int) = 0 by simp] at hloop
          rcases hloop with h | ⟨h, hw⟩
          · exact .inl h
          · obtain ⟨l, el, hll⟩ := places hN hNl (by omega) (by omega) hl hK lf (fun k hk => hw k (by omega) hk) K 0 N [] (by omega) rfl (by omega)
            rw [show ((0 * s : Nat) : Int) = 0 by simp] at el
            have hp : spec_Places N flat (s : Int) = some (l, ()) := el
            rw [hp, Option.bind_some] at h
            exact .inr ⟨s, K, l, rfl, by omega, by omega, hl, hK, h, hll, fun j hj => hw j (by omega) hj⟩
end
theorem fge_down {x a b : Nat} (h : fge x a = true) (hb : isnan b = false) (hab : ikey b ≤ ikey a) : fge x b = true := by
  rw [fge_eq] at h ⊢
  simp only [Bool.and_eq_true, Bool.not_eq_true', Bool.or_eq_false_iff, decide_eq_true_eq] at h ⊢
  exact ⟨⟨h.1.1, hb⟩, by omega⟩
theorem same2 {M : Nat} (a b c d : Int) : laws_sameInts (M + 8) [a, b] [c, d] = bif a != c then some false else bif b != d then some false else some true := by kernel_rfl
theorem law (flat : List Nat) (thr : Nat) (v : Int) (lf : ∀ x ∈ flat, x < 18446744073709551616) : laws_FnSimplifyLarge 18446744073709551616 flat thr v = some true := by
  generalize hN : 18446744073709551616 = N at lf
  have hN2 : 2 ≤ N := by omega
  have hNl : 9223372036854775808 ≤ N := by omega
  rw [← hN] at lf
  have hj : ∀ v4, laws_FnSimplifyLarge_j0 N flat thr v v4 = some true := fun v4 => by unfold laws_FnSimplifyLarge_j0 laws_FnSimplifyLarge_g0; rw [gate_pos (by omega)]
  unfold laws_FnSimplifyLarge laws_FnSimplifyLarge_g
  cases h1 : decide (((flat.length : Int) : Int) > 2147483647) with
  | true => rfl
  | false =>
    simp only [decide_eq_false_iff_not] at h1
    rw [cond_false]
    rcases flat_spec hN2 hNl v flat lf (by omega) with ⟨l, h⟩ | ⟨s, K, l, rfl, hs, hs2, hfl, hK2, h, hll, hw⟩
    · rw [h, Option.bind_some]; exact hj _
    · rw [h, Option.bind_some, Bool.not_true, cond_false]
      cases h2 : decide (((l.length : Int) : Int) < 3) with
      | true => rw [cond_true]; exact hj _
      | false =>
        rw [cond_false]
        simp only [decide_eq_false_iff_not] at h2
        cases t1 : fge thr 4674736413210574848 with
        | false => rw [cond_false]; exact hj _
        | true =>
          rw [cond_true, gate_pos (by omega)]
          cases t2 : fle thr 4697254411347427328 with
          | false => rfl
          | true =>
            rw [Bool.not_true, cond_false]
            have tf : fin thr = true := fin_between t20 (fge_down t1 (by decide +kernel) (by decide +kernel)) t2
            rw [fge_fv tf t15.1, t15.2, decide_eq_true_eq] at t1
            rw [fle_fv tf t20.1, t20.2, decide_eq_true_eq] at t2
            have c1 : ((32768 : Int) : Rat) = 32768 := by decide +kernel
            have c2 : ((1048576 : Int) : Rat) = 1048576 := by decide +kernel
            rw [c1] at t1
            rw [c2] at t2
            have q1 := Rat.mul_le_mul_of_nonneg_left t1 (show 0 ≤ fv thr by grind)
            have q2 := Rat.mul_le_mul_of_nonneg_left t2 (show 0 ≤ fv thr by grind)
            obtain ⟨m, hm, rm⟩ := mul_rnd tf tf (lt_of_big (by rw [ab_of_nonneg (by grind)]; grind) (by decide))
            have hm2 := rm.lo 1073741824 (rep_nat (n := 1073741824) (by decide)) (by grind)
            have hK : 3 ≤ K := by omega
            have hsim := simplify hN2 hNl hw hs hs2 hfl hK hK2 hm rm.fin hm2
            rw [hsim, Option.bind_some, cond_true, hll, wrap_in (n := (K : Int) - 1) (by omega), show (K : Int) - 1 = ((K - 1 : Nat) : Int) by omega]
            obtain ⟨M, hM⟩ : ∃ M, N = M + 8 := ⟨N - 8, by omega⟩
            rw [hM, same2]
            simp
end Go.Proofs.Ytgipjhgnnppjgaa.PvSimpL
