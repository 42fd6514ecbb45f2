/- Exact numbers, as the laws reckon them: what each function gives. -/
import Derived.Test.YtjabjnkiddldeaaGreatPvWhole2PC
import Derived.Test.YtjabjnkiddldeaaGreatFl7
set_option linter.unusedVariables false
set_option linter.unusedSectionVars false
set_option linter.unusedSimpArgs false
namespace Go.Proofs.YtjabjnkiddldeaaGreat.PvDyadicPC
open Go.Av Go
open Go.Proofs.YtjabjnkiddldeaaGreat.PC
open Go.Proofs.YtjabjnkiddldeaaGreat.PvWholePC
open Go.Proofs.YtjabjnkiddldeaaGreat.PvWhole2PC
abbrev DY := WH × (Int × Unit)
theorem eta3 {α β : Type} (w : α × (β × Unit)) : (w.1, w.2.1, ()) = w := rfl
theorem eta4 {α β γ : Type} (w : α × (β × (γ × Unit))) : (w.1, w.2.1, w.2.2.1, ()) = w := rfl
/-- How big the numbers of a depth may be. -/
def sk (k : Nat) : Nat := 2000 * 4 ^ k
theorem sk_succ (k : Nat) : sk (k + 1) = 4 * sk k := by unfold sk; rw [Nat.pow_succ]; omega
theorem sk_pos (k : Nat) : 2000 ≤ sk k := by
  unfold sk
  have := Nat.pow_pos (n := k) (show 0 < 4 by decide)
  omega
theorem sk_le {k : Nat} (h : k ≤ 9) : sk k ≤ 524288000 := by
  unfold sk
  have : 4 ^ k ≤ 4 ^ 9 := Nat.pow_le_pow_right (by decide) h
  have e : 4 ^ 9 = 262144 := by decide
  omega
/-- d stands for q, and is not too big for a depth. -/
def Dn (k : Nat) (d : DY) (q : Rat) : Prop := ∃ z : Int, Wv d.1 z ∧ z.natAbs < 2 ^ sk k ∧ (-(sk k : Int) ≤ d.2.1 ∧ d.2.1 ≤ (sk k : Int)) ∧ q = (z : Rat) * P2 d.2.1
theorem Dn.up {k : Nat} {d : DY} {q : Rat} (h : Dn k d q) : Dn (k + 1) d q := by
  obtain ⟨z, h1, h2, h3, h4⟩ := h
  have := sk_succ k
  have : 2 ^ sk k ≤ 2 ^ sk (k + 1) := Nat.pow_le_pow_right (by decide) (by omega)
  exact ⟨z, h1, by omega, by omega, h4⟩
theorem Dn.upto {k m : Nat} {d : DY} {q : Rat} (h : Dn k d q) (hm : k ≤ m) : Dn m d q := by
  induction m with
  | zero => obtain rfl : k = 0 := by omega
            exact h
  | succ m ih =>
    rcases Nat.lt_or_ge m k with h1 | h1
    · obtain rfl : k = m + 1 := by omega
      exact h
    · exact (ih h1).up
/-- The sign of a difference. -/
def cmpq (x y : Rat) : Int := if x < y then -1 else if x = y then 0 else 1
theorem intCast_zero_lt {z : Int} : (z : Rat) < 0 ↔ z < 0 := by
  have : ((0 : Int) : Rat) = 0 := rfl
  rw [← this]; exact intCast_lt
theorem intCast_eq_zero {z : Int} : (z : Rat) = 0 ↔ z = 0 := by
  have : ((0 : Int) : Rat) = 0 := rfl
  rw [← this]; exact intCast_eq
theorem mulP2_neg {v : Rat} {e : Int} : v * P2 e < 0 ↔ v < 0 := by
  have hp := P2_pos e
  constructor
  · intro h
    apply Rat.not_le.1
    intro hv
    exact absurd h (Rat.not_lt.2 (Rat.mul_nonneg hv (Rat.le_of_lt hp)))
  · intro h
    apply Rat.not_le.1
    intro hv
    have h0 : 0 * P2 e ≤ v * P2 e := by rw [Rat.zero_mul]; exact hv
    exact absurd h (Rat.not_lt.2 ((mul_le hp).1 h0))
theorem mulP2_zero {v : Rat} {e : Int} : v * P2 e = 0 ↔ v = 0 := by
  have hp := P2_pos e
  constructor
  · intro h
    rcases Rat.mul_eq_zero.1 h with h | h
    · exact h
    · rw [h] at hp; exact absurd hp (by decide)
  · intro h; rw [h, Rat.zero_mul]
theorem Dn.sign {k : Nat} {d : DY} {q : Rat} (h : Dn k d q) : ∃ z : Int, Wv d.1 z ∧ cmpv z 0 = cmpq q 0 ∧ (z = 0 ↔ q = 0) := by
  obtain ⟨z, h1, h2, h3, h4⟩ := h
  have e1 : q < 0 ↔ z < 0 := by rw [h4, mulP2_neg, intCast_zero_lt]
  have e2 : q = 0 ↔ z = 0 := by rw [h4, mulP2_zero, intCast_eq_zero]
  refine ⟨z, h1, ?_, e2.symm⟩
  unfold cmpv cmpq
  simp only [e1, e2]
theorem int2pow (n : Nat) : (((2 ^ n : Nat) : Int) : Rat) = P2 (n : Int) := by
  rw [P2_nat]; rfl
section
variable {N : Nat} (hN : 0 < N) (hNl : 9223372036854775808 ≤ N)
include hN hNl
theorem dsign {k : Nat} {d : DY} {q : Rat} (h : Dn k d q) : spec_Dyadic_Sign N d = some (cmpq q 0) := by
  obtain ⟨z, h1, h2, h3⟩ := h.sign
  unfold spec_Dyadic_Sign spec_Dyadic_Sign_g
  rw [eta3, wsign_spec hN hNl h1, h2]; rfl
theorem dminus {k : Nat} {d : DY} {q : Rat} (h : Dn k d q) : ∃ c, spec_Dyadic_Minus N d = some c ∧ Dn k c (-q) := by
  obtain ⟨z, h1, h2, h3, h4⟩ := h
  obtain ⟨w, w1, w2⟩ := wminus_spec hN hNl h1
  unfold spec_Dyadic_Minus spec_Dyadic_Minus_g
  rw [eta3, w1]
  refine ⟨_, rfl, -z, w2, by omega, h3, ?_⟩
  rw [h4, Rat.intCast_neg]
  dsimp only
  grind
theorem dup {k : Nat} {a : WH} {x : Int} (ha : Wv a x) (hx : x.natAbs < 2 ^ sk k) (hk : k ≤ 8) (sh : Nat) (hs : sh ≤ 2 * sk k) : ∃ c, spec_Whole_Up N a (sh : Int) = some c ∧ Wv c (x * ((2 ^ sh : Nat) : Int)) ∧ (x * ((2 ^ sh : Nat) : Int)).natAbs < 2 ^ (3 * sk k) := by
  have h1 := sk_le (show k ≤ 9 by omega)
  obtain ⟨c, c1, c2⟩ := up_spec hN hNl ha sh (by omega) (by have := ha.len hx; omega)
  refine ⟨c, c1, c2, ?_⟩
  rw [Int.natAbs_mul, Int.natAbs_natCast]
  have e : 2 ^ (3 * sk k) = 2 ^ sk k * 2 ^ (2 * sk k) := by rw [← Nat.pow_add]; congr 1; omega
  have : 2 ^ sh ≤ 2 ^ (2 * sk k) := Nat.pow_le_pow_right (by decide) hs
  rw [e]
  exact Nat.lt_of_le_of_lt (Nat.mul_le_mul_left _ this) (Nat.mul_lt_mul_of_pos_right hx (Nat.two_pow_pos _))
theorem daddw {k : Nat} {a b : WH} {x y : Int} {ea eb : Int} (ha : Wv a x) (hb : Wv b y) (hx : x.natAbs < 2 ^ sk k) (hy : y.natAbs < 2 ^ sk k) (hk : k ≤ 8) (h1 : -(sk k : Int) ≤ ea ∧ ea ≤ (sk k : Int)) (h2 : -(sk k : Int) ≤ eb ∧ eb ≤ (sk k : Int)) (hle : eb ≤ ea) :
    ∃ u c, spec_Whole_Up N a (IntKind.i64.wrap (ea - eb)) = some u ∧ spec_Whole_Add N u b = some c ∧ Dn (k + 1) (c, eb, ()) ((x : Rat) * P2 ea + (y : Rat) * P2 eb) := by
  have s1 := sk_le (show k ≤ 9 by omega)
  have s2 := sk_succ k
  have s3 := sk_pos k
  have en : ea - eb = (((ea - eb).toNat : Nat) : Int) := by omega
  obtain ⟨u, u1, u2, u3⟩ := dup hN hNl ha hx hk (ea - eb).toNat (by omega)
  obtain ⟨c, c1, c2⟩ := wadd_spec hN hNl u2 hb (by have := u2.len u3; omega) (by have := hb.len hy; omega)
  refine ⟨u, c, by rw [wrap_in (by omega), en]; exact u1, c1, _, c2, ?_, ⟨by dsimp only; omega, by dsimp only; omega⟩, ?_⟩
  · have e : 2 ^ sk (k + 1) = 2 ^ (3 * sk k) * 2 ^ sk k := by rw [← Nat.pow_add, s2]; congr 1; omega
    have p1 : 2 ^ 1 ≤ 2 ^ sk k := Nat.pow_le_pow_right (by decide) (by omega)
    have p2 : 2 ^ sk k ≤ 2 ^ (3 * sk k) := Nat.pow_le_pow_right (by decide) (by omega)
    have p3 : 2 ^ (3 * sk k) * 2 ^ 1 ≤ 2 ^ (3 * sk k) * 2 ^ sk k := Nat.mul_le_mul_left _ p1
    omega
  · dsimp only
    rw [Rat.intCast_add, Rat.intCast_mul, int2pow, ← en]
    have : P2 ea = P2 (ea - eb) * P2 eb := P2_of (by omega)
    rw [this]
    grind
theorem dadd {k : Nat} {a b : DY} {x y : Rat} (ha : Dn k a x) (hb : Dn k b y) (hk : k ≤ 8) : ∃ c, spec_Dyadic_Add N a b = some c ∧ Dn (k + 1) c (x + y) := by
  unfold spec_Dyadic_Add spec_Dyadic_Add_g
  simp only [eta3]
  rw [dsign hN hNl ha, dsign hN hNl hb]
  simp only [Option.bind_some]
  have cz : ∀ q : Rat, (cmpq q 0 == 0) = decide (q = 0) := by
    intro q
    unfold cmpq
    by_cases h1 : q < 0
    · rw [if_pos h1, decide_eq_false (fun h => by rw [h] at h1; exact absurd h1 (by decide))]; rfl
    · rw [if_neg h1]
      by_cases h2 : q = 0
      · rw [if_pos h2, decide_eq_true h2]; rfl
      · rw [if_neg h2, decide_eq_false h2]; rfl
  rw [cz, cz]
  by_cases hx : x = 0
  · rw [decide_eq_true hx, cond_true]
    refine ⟨b, rfl, ?_⟩
    rw [hx, Rat.zero_add]; exact hb.up
  · rw [decide_eq_false hx, cond_false]
    by_cases hy : y = 0
    · rw [decide_eq_true hy, cond_true]
      refine ⟨a, rfl, ?_⟩
      rw [hy, Rat.add_zero]; exact ha.up
    · rw [decide_eq_false hy, cond_false]
      obtain ⟨za, a1, a2, a3, a4⟩ := ha
      obtain ⟨zb, b1, b2, b3, b4⟩ := hb
      simp only [Bool.cond_decide]
      by_cases hlt : a.2.1 > b.2.1
      · rw [if_pos hlt]
        obtain ⟨u, c, c1, c2, c3⟩ := daddw hN hNl a1 b1 a2 b2 hk a3 b3 (by omega)
        rw [c1]
        simp only [Option.bind_some]
        rw [c2]
        refine ⟨_, rfl, ?_⟩
        rw [a4, b4]; exact c3
      · rw [if_neg hlt]
        obtain ⟨u, c, c1, c2, c3⟩ := daddw hN hNl b1 a1 b2 a2 hk b3 a3 (by omega)
        rw [c1]
        simp only [Option.bind_some]
        rw [c2]
        refine ⟨_, rfl, ?_⟩
        rw [a4, b4, Rat.add_comm]; exact c3
theorem dsub {k : Nat} {a b : DY} {x y : Rat} (ha : Dn k a x) (hb : Dn k b y) (hk : k ≤ 8) : ∃ c, spec_Dyadic_Sub N a b = some c ∧ Dn (k + 1) c (x - y) := by
  unfold spec_Dyadic_Sub spec_Dyadic_Sub_g
  simp only [eta3]
  obtain ⟨m, m1, m2⟩ := dminus hN hNl hb
  obtain ⟨c, c1, c2⟩ := dadd hN hNl ha m2 hk
  rw [m1]
  simp only [Option.bind_some]
  rw [c1]
  refine ⟨c, rfl, ?_⟩
  rw [Rat.sub_eq_add_neg]; exact c2
theorem dmul {k : Nat} {a b : DY} {x y : Rat} (ha : Dn k a x) (hb : Dn k b y) (hk : k ≤ 8) : ∃ c, spec_Dyadic_Mul N a b = some c ∧ Dn (k + 1) c (x * y) := by
  unfold spec_Dyadic_Mul spec_Dyadic_Mul_g
  simp only [eta3]
  obtain ⟨za, a1, a2, a3, a4⟩ := ha
  obtain ⟨zb, b1, b2, b3, b4⟩ := hb
  have s1 := sk_le (show k ≤ 9 by omega)
  have s2 := sk_succ k
  have s3 := sk_pos k
  obtain ⟨c, c1, c2⟩ := mul_spec hN hNl a1 b1 (by have := a1.len a2; omega) (by have := b1.len b2; omega)
  rw [c1]
  simp only [Option.bind_some]
  rw [wrap_in (by omega)]
  refine ⟨_, rfl, za * zb, c2, ?_, ⟨by dsimp only; omega, by dsimp only; omega⟩, ?_⟩
  · rw [Int.natAbs_mul]
    have e : 2 ^ sk k * 2 ^ sk k ≤ 2 ^ sk (k + 1) := by rw [← Nat.pow_add]; exact Nat.pow_le_pow_right (by decide) (by omega)
    exact Nat.lt_of_lt_of_le (Nat.mul_lt_mul'' a2 b2) e
  · dsimp only
    rw [a4, b4, Rat.intCast_mul, P2_add]
    grind
theorem dabs {k : Nat} {d : DY} {q : Rat} (h : Dn k d q) : ∃ c, spec_Dyadic_Abs N d = some c ∧ Dn k c (ab q) := by
  unfold spec_Dyadic_Abs spec_Dyadic_Abs_g
  simp only [eta3]
  rw [dsign hN hNl h]
  simp only [Option.bind_some, Bool.cond_decide]
  unfold cmpq ab
  by_cases hq : q < 0
  · rw [if_pos hq, if_pos (by decide), if_neg (Rat.not_le.2 hq)]
    obtain ⟨c, c1, c2⟩ := dminus hN hNl h
    rw [c1]
    exact ⟨c, rfl, c2⟩
  · rw [if_neg hq, if_pos (Rat.not_lt.1 hq)]
    rw [if_neg (by split <;> decide)]
    exact ⟨d, rfl, h⟩
theorem dcmp {k : Nat} {a b : DY} {x y : Rat} (ha : Dn k a x) (hb : Dn k b y) (hk : k ≤ 8) : spec_Dyadic_Cmp N a b = some (cmpq x y) := by
  unfold spec_Dyadic_Cmp spec_Dyadic_Cmp_g
  simp only [eta3]
  obtain ⟨c, c1, c2⟩ := dsub hN hNl ha hb hk
  rw [c1]
  simp only [Option.bind_some]
  rw [dsign hN hNl c2]
  simp only [Option.bind_some]
  congr 1
  unfold cmpq
  have e1 : x - y < 0 ↔ x < y := by constructor <;> intro h <;> grind
  have e2 : x - y = 0 ↔ x = y := by constructor <;> intro h <;> grind
  simp only [e1, e2]
theorem dint (n : Int) (hn : -9223372036854775808 ≤ n ∧ n ≤ 9223372036854775807) : ∃ c, spec_IntOf N n = some c ∧ Dn 0 c (n : Rat) := by
  unfold spec_IntOf spec_IntOf_g
  obtain ⟨c, c1, c2⟩ := wholeOf_spec hN hNl n hn
  rw [c1]
  refine ⟨_, rfl, n, c2, ?_, ⟨by dsimp only; have := sk_pos 0; omega, by dsimp only; omega⟩, ?_⟩
  · have : 2 ^ 64 ≤ 2 ^ sk 0 := Nat.pow_le_pow_right (by decide) (by have := sk_pos 0; omega)
    have e : 2 ^ 64 = 18446744073709551616 := by decide
    omega
  · dsimp only
    rw [P2_zero, Rat.mul_one]
theorem dofm (m e : Int) (x : Rat) (hm : -9007199254740992 ≤ m ∧ m ≤ 9007199254740992) (he : 0 ≤ e ∧ e ≤ 2047) (hx : x = (m : Rat) * P2 (e - 1075)) : ∃ c, spec_DyadicOf_j1 N e m = some c ∧ Dn 0 c x := by
  simp only [spec_DyadicOf_j1, spec_DyadicOf_g1, gate_pos hN]
  obtain ⟨c, c1, c2⟩ := wholeOf_spec hN hNl m (by omega)
  rw [c1, wrap_in (by omega)]
  refine ⟨_, rfl, m, c2, ?_, ⟨?_, ?_⟩, hx⟩
  · have : 2 ^ 64 ≤ 2 ^ sk 0 := Nat.pow_le_pow_right (by decide) (by have := sk_pos 0; omega)
    have e : 2 ^ 64 = 18446744073709551616 := by decide
    omega
  · dsimp only; have := sk_pos 0; omega
  · dsimp only; have := sk_pos 0; omega
theorem dof {x : Nat} (hx : fin x = true) (h64 : x < 18446744073709551616) : ∃ c, spec_DyadicOf N x = some c ∧ Dn 0 c (fv x) := by
  have hr : rung x < 9218868437227405312 := of_decide_eq_true hx
  have hmod : rung x = x % 9223372036854775808 := rfl
  have e52 : Int.fdiv ((x : Nat) : Int) (2 ^ (min (52 : Int).toNat (IntKind.bits .u64))) = ((x / 4503599627370496 : Nat) : Int) := by
    rw [show min (52 : Int).toNat (IntKind.bits .u64) = 52 by decide, Int.fdiv_eq_ediv_of_nonneg _ (by decide)]; omega
  have e63 : Int.fdiv ((x : Nat) : Int) (2 ^ (min (63 : Int).toNat (IntKind.bits .u64))) = ((x / 9223372036854775808 : Nat) : Int) := by
    rw [show min (63 : Int).toNat (IntKind.bits .u64) = 63 by decide, Int.fdiv_eq_ediv_of_nonneg _ (by decide)]; omega
  have b1 : bits .and .u64 ((x / 4503599627370496 : Nat) : Int) 2047 = ((x / 4503599627370496 % 2048 : Nat) : Int) := and_low (k := 11) (by decide) (by omega)
  have b2 : bits .and .u64 ((x : Nat) : Int) 4503599627370495 = ((x % 4503599627370496 : Nat) : Int) := and_low (k := 52) (by decide) (by omega)
  have key : ∀ (m e : Nat), m ≤ 9007199254740992 → e ≤ 2047 → (val (rung x) : Rat) * P2 (-1074) = (m : Rat) * P2 ((e : Int) - 1075) →
      ∃ c, spec_DyadicOf_j0 N ((x : Nat) : Int) (m : Int) (e : Int) = some c ∧ Dn 0 c (fv x) := by
    intro m e hm he hv
    simp only [spec_DyadicOf_j0, spec_DyadicOf_g0, gate_pos hN]
    rw [e63]
    by_cases hs : x / 9223372036854775808 = 1
    · have hb : (((x / 9223372036854775808 : Nat) : Int) == 1) = true := by rw [hs]; rfl
      rw [hb, cond_true, wrap_in (by omega)]
      apply dofm hN hNl _ _ _ (by omega) (by omega)
      have hsg : sgn x = true := by unfold sgn; rw [hs]; rfl
      rw [fv_eq, hsg]
      unfold sg
      rw [if_pos rfl, hv, show (0 : Int) - (m : Int) = -(m : Int) by omega, Rat.intCast_neg]
      have : (((m : Nat) : Int) : Rat) = (m : Rat) := rfl
      rw [this]; grind
    · have hb : (((x / 9223372036854775808 : Nat) : Int) == 1) = false := by simp; omega
      rw [hb, cond_false]
      apply dofm hN hNl _ _ _ (by omega) (by omega)
      have hsg : sgn x = false := by
        unfold sgn
        have : x / 9223372036854775808 = 0 := by omega
        rw [this]; rfl
      rw [fv_eq, hsg]
      unfold sg
      rw [if_neg (by decide), hv]
      rfl
  unfold spec_DyadicOf spec_DyadicOf_g math_Float64bits
  simp only [Option.bind_some]
  rw [e52, b1, b2, wrap_in (n := ((x / 4503599627370496 % 2048 : Nat) : Int)) (by omega), wrap_in (n := ((x % 4503599627370496 : Nat) : Int)) (by omega), wrap_in (n := ((x % 4503599627370496 : Nat) : Int) + 4503599627370496) (by omega)]
  have h2047 : (((x / 4503599627370496 % 2048 : Nat) : Int) == 2047) = false := by simp; omega
  rw [h2047, cond_false]
  by_cases h0 : x / 4503599627370496 % 2048 = 0
  · have hb : (((x / 4503599627370496 % 2048 : Nat) : Int) == 0) = true := by rw [h0]; rfl
    rw [hb, cond_true]
    apply key (x % 4503599627370496) 1 (by omega) (by omega)
    have hlt : rung x < 4503599627370496 := by omega
    unfold val
    rw [if_pos hlt, show rung x = x % 4503599627370496 by omega]
    rfl
  · have hb : (((x / 4503599627370496 % 2048 : Nat) : Int) == 0) = false := by simp; omega
    rw [hb, cond_false]
    have := key (x % 4503599627370496 + 4503599627370496) (x / 4503599627370496 % 2048) (by omega) (by omega) (by
      unfold val
      rw [if_neg (by omega)]
      have e1 : rung x % 4503599627370496 = x % 4503599627370496 := by omega
      have e2 : rung x / 4503599627370496 = x / 4503599627370496 % 2048 := by omega
      rw [e1, e2, Rat.natCast_mul, ← P2_nat, Nat.add_comm]
      have : P2 ((x / 4503599627370496 % 2048 : Nat) - 1075) = P2 ((x / 4503599627370496 % 2048 - 1 : Nat)) * P2 (-1074) := P2_of (by omega)
      rw [this]; grind)
    exact this
theorem dfinite {x : Nat} (hx : fin x = true) : spec_Finite N x = some true := by
  unfold spec_Finite spec_Finite_g
  obtain ⟨z, z1, z2⟩ := sub_rnd hx hx (by rw [show fv x - fv x = 0 by grind]; unfold ab; rw [if_pos Rat.le_refl]; exact P2_pos _)
  rw [z1]
  simp only [Option.bind_some]
  have hz : Wh z 0 := by
    have e : fv x - fv x = ((0 : Int) : Rat) := by
      have : ((0 : Int) : Rat) = 0 := rfl
      rw [this]; grind
    rw [e] at z2
    exact z2.whole (by decide)
  rw [feq_wh hz wh_zero]; rfl
end
end Go.Proofs.YtjabjnkiddldeaaGreat.PvDyadicPC
