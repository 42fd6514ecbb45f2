/- Hilbert curves over natural numbers: how the steps of a position's digits turn a place, and how they are taken back. -/
import Derived.Test.YtjabjnkiddldeaaDoorAv1
set_option linter.unusedVariables false
namespace Go.Av.Hil
open Go
inductive O where
  | sw (i j : Nat)
  | fl (i j : Nat)
  | iv (i j : Nat)
def actO (M : Nat) : O → (Nat → Nat) → (Nat → Nat)
  | .sw i j, f => fun k => if k = j then f i else if k = i then f j else f k
  | .fl i j, f => fun k => if k = j then f i ^^^ M else if k = i then f j ^^^ M else f k
  | .iv i j, f => fun k => if k = j then f j ^^^ M else if k = i then f i ^^^ M else f k
def act (M : Nat) : List O → (Nat → Nat) → (Nat → Nat)
  | [], f => f
  | o :: l, f => act M l (actO M o f)
theorem xx (a M : Nat) : a ^^^ M ^^^ M = a := by rw [Nat.xor_assoc, Nat.xor_self, Nat.xor_zero]
theorem actO_inv (M : Nat) (o : O) (f : Nat → Nat) : actO M o (actO M o f) = f := by
  funext k
  cases o <;> simp only [actO] <;> (repeat' split) <;> simp_all [xx]
theorem act_append (M : Nat) : ∀ (l m : List O) (f : Nat → Nat), act M (l ++ m) f = act M m (act M l f)
  | [], _, _ => rfl
  | o :: l, m, f => by simp only [List.cons_append, act]; exact act_append M l m _
theorem act_inv (M : Nat) : ∀ (l : List O) (f : Nat → Nat), act M l (act M l.reverse f) = f
  | [], _ => rfl
  | o :: l, f => by
    rw [List.reverse_cons, act_append]
    simp only [act]
    rw [actO_inv, act_inv M l f]
theorem ones_mod {n m : Nat} (h : n ≤ m) : (2 ^ m - 1) % 2 ^ n = 2 ^ n - 1 := by
  apply Nat.eq_of_testBit_eq
  intro i
  rw [Nat.testBit_mod_two_pow, Nat.testBit_two_pow_sub_one, Nat.testBit_two_pow_sub_one]
  by_cases h1 : i < n <;> by_cases h2 : i < m <;> simp [h1, h2]
  omega
theorem xor_mod (a : Nat) {n m : Nat} (h : n ≤ m) : (a ^^^ (2 ^ m - 1)) % 2 ^ n = a % 2 ^ n ^^^ (2 ^ n - 1) := by
  rw [Nat.xor_mod_two_pow, ones_mod h]
theorem actO_mod {n m : Nat} (h : n ≤ m) (o : O) (f : Nat → Nat) (k : Nat) : actO (2 ^ m - 1) o f k % 2 ^ n = actO (2 ^ n - 1) o (fun k => f k % 2 ^ n) k := by
  cases o <;> simp only [actO] <;> (repeat' split) <;> first | rfl | exact xor_mod _ h
theorem act_mod {n m : Nat} (h : n ≤ m) : ∀ (l : List O) (f : Nat → Nat) (k : Nat), act (2 ^ m - 1) l f k % 2 ^ n = act (2 ^ n - 1) l (fun k => f k % 2 ^ n) k
  | [], _, _ => rfl
  | o :: l, f, k => by
    simp only [act]
    rw [act_mod h l]
    congr 1
    funext k
    exact actO_mod h o f k
theorem actO_lt {n : Nat} (o : O) {f : Nat → Nat} (h : ∀ k, f k < 2 ^ n) (k : Nat) : actO (2 ^ n - 1) o f k < 2 ^ n := by
  have hx : ∀ a, a < 2 ^ n → a ^^^ (2 ^ n - 1) < 2 ^ n := fun a ha => Nat.xor_lt_two_pow ha (by have := Nat.two_pow_pos n; omega)
  cases o <;> simp only [actO] <;> (repeat' split) <;> first | exact h _ | exact hx _ (h _)
theorem act_lt {n : Nat} : ∀ (l : List O) {f : Nat → Nat}, (∀ k, f k < 2 ^ n) → ∀ k, act (2 ^ n - 1) l f k < 2 ^ n
  | [], _, h => h
  | o :: l, f, h => act_lt l (actO_lt o h)
/-- A digit of a position. -/
def dig (d p n : Nat) : Nat := p / 2 ^ (d * n) % 2 ^ d
/-- Gray's code. -/
def gr (e k : Nat) : Nat := (e / 2 ^ k + e / 2 ^ (k + 1)) % 2
theorem gr_lt (e k : Nat) : gr e k < 2 := Nat.mod_lt _ (by decide)
section
variable (d : Nat) (T : Nat → List O) (p : Nat)
/-- The place after some steps. -/
def C : Nat → (Nat → Nat)
  | 0 => fun _ => 0
  | n + 1 => fun k => act (2 ^ n - 1) (T (dig d p n)).reverse (C n) k + gr (dig d p n) k * 2 ^ n
theorem C_lt : ∀ (n k : Nat), C d T p n k < 2 ^ n
  | 0, _ => by simp [C]
  | n + 1, k => by
    have h1 := act_lt (T (dig d p n)).reverse (C_lt n) k
    have h2 := gr_lt (dig d p n) k
    have h3 : gr (dig d p n) k * 2 ^ n ≤ 1 * 2 ^ n := Nat.mul_le_mul_right _ (by omega)
    simp only [C]
    rw [Nat.pow_succ]
    omega
theorem C_div (n k : Nat) : C d T p (n + 1) k / 2 ^ n = gr (dig d p n) k := by
  have h1 := act_lt (T (dig d p n)).reverse (C_lt d T p n) k
  simp only [C]
  rw [Nat.add_mul_div_right _ _ (Nat.two_pow_pos n), Nat.div_eq_of_lt h1, Nat.zero_add]
theorem C_mod (n k : Nat) : C d T p (n + 1) k % 2 ^ n = act (2 ^ n - 1) (T (dig d p n)).reverse (C d T p n) k := by
  have h1 := act_lt (T (dig d p n)).reverse (C_lt d T p n) k
  simp only [C]
  rw [Nat.add_mul_mod_self_right, Nat.mod_eq_of_lt h1]
theorem bit_of {f : Nat → Nat} {n : Nat} (h : ∀ k, f k % 2 ^ (n + 1) = C d T p (n + 1) k) (k : Nat) : f k / 2 ^ n % 2 = gr (dig d p n) k := by
  rw [← C_div d T p n k, ← h k, Nat.pow_succ, Nat.mod_mul_right_div_self]
theorem back {f : Nat → Nat} {n m : Nat} (hm : n ≤ m) (h : ∀ k, f k % 2 ^ (n + 1) = C d T p (n + 1) k) (k : Nat) : act (2 ^ m - 1) (T (dig d p n)) f k % 2 ^ n = C d T p n k := by
  rw [act_mod hm]
  have : (fun k => f k % 2 ^ n) = act (2 ^ n - 1) (T (dig d p n)).reverse (C d T p n) := by
    funext k
    rw [← C_mod d T p n k, ← h k, Nat.pow_succ, Nat.mod_mul_right_mod]
  rw [this, act_inv]
theorem dig_sum (n : Nat) : p / 2 ^ (d * n) * 2 ^ (d * n) = p / 2 ^ (d * (n + 1)) * 2 ^ (d * (n + 1)) + dig d p n * 2 ^ (d * n) := by
  unfold dig
  have e : p / 2 ^ (d * (n + 1)) = p / 2 ^ (d * n) / 2 ^ d := by rw [Nat.div_div_eq_div_mul, ← Nat.pow_add]; rfl
  rw [e, show d * (n + 1) = d * n + d from rfl, Nat.pow_add]
  have := Nat.div_add_mod (p / 2 ^ (d * n)) (2 ^ d)
  generalize p / 2 ^ (d * n) = q at *
  have e2 : q / 2 ^ d * (2 ^ (d * n) * 2 ^ d) = 2 ^ d * (q / 2 ^ d) * 2 ^ (d * n) := by rw [Nat.mul_comm (2 ^ (d * n)), ← Nat.mul_assoc, Nat.mul_comm (q / 2 ^ d)]
  rw [e2, ← Nat.add_mul, this]
end
end Go.Av.Hil
