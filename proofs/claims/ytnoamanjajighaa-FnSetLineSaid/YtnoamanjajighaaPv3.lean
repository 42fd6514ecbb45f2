/- Whole numbers as limbs of 32 bits: words for plain laws. -/
import Derived.Test.YtnoamanjajighaaPv2
set_option linter.unusedVariables false
set_option linter.unusedSectionVars false
set_option linter.unusedSimpArgs false
namespace Go.Av
open Go
theorem take_snoc {α : Type} {xs : List α} {i : Nat} (h : i < xs.length) : xs.take (i + 1) = xs.take i ++ [xs[i]] := by
  rw [List.take_add_one, List.getElem?_eq_getElem h]; rfl
theorem w32_eq (n : Int) : IntKind.u32.wrap n = n % 4294967296 := by simp [IntKind.wrap, IntKind.signed, IntKind.bits]
theorem w64_eq (n : Int) : IntKind.u64.wrap n = n % 18446744073709551616 := by simp [IntKind.wrap, IntKind.signed, IntKind.bits]
theorem w64_in {n : Int} (h : 0 ≤ n ∧ n < 18446744073709551616) : IntKind.u64.wrap n = n := by rw [w64_eq]; omega
theorem min32 : min (32 : Int).toNat (IntKind.bits .u64) = 32 := by decide
theorem shr32 (s : Int) : Int.fdiv s (2 ^ (min (32 : Int).toNat (IntKind.bits .u64))) = s / 4294967296 := by
  rw [min32, Int.fdiv_eq_ediv_of_nonneg _ (by decide)]; rfl
/-- 2^32 to the n. -/
def Bp (n : Nat) : Int := 4294967296 ^ n
theorem Bp_pos (n : Nat) : 0 < Bp n := Int.pow_pos (by decide)
theorem Bp_zero : Bp 0 = 1 := rfl
theorem Bp_succ (n : Nat) : Bp (n + 1) = 4294967296 * Bp n := by unfold Bp; rw [Int.pow_succ, Int.mul_comm]
theorem Bp_add (m n : Nat) : Bp (m + n) = Bp m * Bp n := by unfold Bp; rw [Int.pow_add]
theorem Bp_two (n : Nat) : Bp n = ((2 ^ (32 * n) : Nat) : Int) := by
  unfold Bp
  rw [Nat.pow_mul, Int.natCast_pow]
  rfl
theorem Bp_mono {m n : Nat} (h : m ≤ n) : Bp m ≤ Bp n := by
  obtain ⟨k, rfl⟩ := Nat.exists_eq_add_of_le h
  rw [Bp_add]
  have h1 := Bp_pos m
  have h2 := Bp_pos k
  have := Int.mul_le_mul_of_nonneg_left (show (1 : Int) ≤ Bp k by omega) (Int.le_of_lt h1)
  omega
def lv : List Int → Int
  | [] => 0
  | x :: r => x + 4294967296 * lv r
def Lim (l : List Int) : Prop := ∀ x ∈ l, 0 ≤ x ∧ x < 4294967296
theorem Lim.app {a b : List Int} (ha : Lim a) (hb : Lim b) : Lim (a ++ b) := fun x hx => (List.mem_append.1 hx).elim (ha x) (hb x)
theorem Lim.one {x : Int} (h : 0 ≤ x ∧ x < 4294967296) : Lim [x] := fun y hy => by simp at hy; subst hy; exact h
theorem Lim.nil : Lim [] := fun y hy => by simp at hy
theorem Lim.left {a b : List Int} (h : Lim (a ++ b)) : Lim a := fun x hx => h x (List.mem_append_left _ hx)
theorem Lim.take {a : List Int} (n : Nat) (h : Lim a) : Lim (a.take n) := fun x hx => h x (List.mem_of_mem_take hx)
theorem Lim.drop {a : List Int} (n : Nat) (h : Lim a) : Lim (a.drop n) := fun x hx => h x (List.mem_of_mem_drop hx)
theorem lv_append : ∀ (a b : List Int), lv (a ++ b) = lv a + Bp a.length * lv b
  | [], b => by simp [lv, Bp_zero]
  | x :: r, b => by
    simp only [List.cons_append, lv, lv_append r b, List.length_cons, Bp_succ]
    grind
theorem lv_one (x : Int) : lv [x] = x := by simp [lv]
theorem lv_snoc (a : List Int) (x : Int) : lv (a ++ [x]) = lv a + Bp a.length * x := by rw [lv_append, lv_one]
theorem lv_take {a : List Int} {i : Nat} (h : i < a.length) : lv (a.take (i + 1)) = lv (a.take i) + Bp i * a[i] := by
  rw [take_snoc h, lv_snoc, List.length_take, Nat.min_eq_left (by omega)]
theorem lv_split {a : List Int} {k : Nat} (h : k < a.length) : lv a = lv (a.take k) + Bp k * (a[k] + 4294967296 * lv (a.drop (k + 1))) := by
  conv => lhs; rw [← List.take_append_drop k a, lv_append, List.drop_eq_getElem_cons h]
  rw [List.length_take, Nat.min_eq_left (by omega)]
  rfl
theorem lv_nonneg : ∀ {a : List Int}, Lim a → 0 ≤ lv a
  | [], _ => by simp [lv]
  | x :: r, h => by
    have h1 := h x (by simp)
    have h2 := lv_nonneg (a := r) (fun y hy => h y (by simp [hy]))
    simp only [lv]; omega
theorem lv_lt : ∀ {a : List Int}, Lim a → lv a < Bp a.length
  | [], _ => by simp [lv, Bp_zero]
  | x :: r, h => by
    have h1 := h x (by simp)
    have h2 := lv_lt (a := r) (fun y hy => h y (by simp [hy]))
    simp only [lv, List.length_cons, Bp_succ]; omega
theorem lv_rep (n : Nat) : lv (List.replicate n 0) = 0 := by
  induction n with
  | zero => rfl
  | succ n ih => simp only [List.replicate_succ, lv, ih]; rfl
theorem Lim.rep (n : Nat) : Lim (List.replicate n 0) := fun x hx => by
  rw [List.mem_replicate] at hx
  omega
/-- The last limb is not 0. -/
def Nrm (l : List Int) : Prop := ∀ r x, l = r ++ [x] → x ≠ 0
theorem Nrm.nil : Nrm [] := fun r x h => by simp at h
theorem snoc_cases {α : Type} (l : List α) : l = [] ∨ ∃ r x, l = r ++ [x] := by
  rcases List.eq_nil_or_concat l with h | ⟨r, x, h⟩
  · exact .inl h
  · exact .inr ⟨r, x, by rw [h, List.concat_eq_append]⟩
theorem lv_ge {r : List Int} {x : Int} (hl : Lim (r ++ [x])) (hx : x ≠ 0) : Bp r.length ≤ lv (r ++ [x]) := by
  rw [lv_snoc]
  have h1 := hl x (by simp)
  have h2 := lv_nonneg hl.left
  have h3 := Bp_pos r.length
  have := Int.mul_le_mul_of_nonneg_left (show (1 : Int) ≤ x by omega) (Int.le_of_lt h3)
  omega
theorem lv_pos {a : List Int} (hl : Lim a) (hn : Nrm a) (h : a ≠ []) : 0 < lv a := by
  rcases snoc_cases a with rfl | ⟨r, x, rfl⟩
  · exact absurd rfl h
  · have := lv_ge hl (hn r x rfl)
    have := Bp_pos r.length
    omega
theorem len_le {a : List Int} (hl : Lim a) (hn : Nrm a) {k : Nat} (h : lv a < Bp k) : a.length ≤ k := by
  rcases snoc_cases a with rfl | ⟨r, x, rfl⟩
  · simp
  · have h1 := lv_ge hl (hn r x rfl)
    rw [List.length_append, List.length_singleton]
    rcases Nat.lt_or_ge r.length k with h2 | h2
    · omega
    · have := Bp_mono h2; omega
theorem lv_lt_of_len {a b : List Int} (ha : Lim a) (hb : Lim b) (nb : Nrm b) (h : a.length < b.length) : lv a < lv b := by
  rcases snoc_cases b with rfl | ⟨r, x, rfl⟩
  · simp at h
  · have h1 := lv_ge hb (nb r x rfl)
    have h2 := lv_lt ha
    rw [List.length_append, List.length_singleton] at h
    have := Bp_mono (show a.length ≤ r.length by omega)
    omega
/-- Where the limbs from one on are 0. -/
theorem limb_zero {a : List Int} (ha : Lim a) {m : Nat} (hm : m < a.length) (h : lv a < Bp m) : a[m] = 0 := by
  have h1 := lv_split hm
  have h2 := lv_nonneg (ha.take m)
  have h3 := lv_nonneg (ha.drop (m + 1))
  have h4 := ha _ (List.getElem_mem hm)
  have h5 := Bp_pos m
  rcases Int.lt_or_le 0 a[m] with hp | hp
  · have := Int.mul_le_mul_of_nonneg_left (show (1 : Int) ≤ a[m] + 4294967296 * lv (a.drop (m + 1)) by omega) (Int.le_of_lt h5)
    omega
  · omega
theorem lv_set {a : List Int} {m : Nat} (hm : m < a.length) (d : Int) : lv (a.set m d) = lv a + Bp m * (d - a[m]) := by
  rw [lv_split hm, lv_split (a := a.set m d) (k := m) (by rw [List.length_set]; exact hm)]
  rw [List.getElem_set_self, List.take_set_of_le (Nat.le_refl m), List.drop_set_of_lt (by omega)]
  grind
theorem Lim.set {a : List Int} (ha : Lim a) (m : Nat) {d : Int} (hd : 0 ≤ d ∧ d < 4294967296) : Lim (a.set m d) := fun x hx => by
  rcases List.mem_or_eq_of_mem_set hx with h | rfl
  · exact ha x h
  · exact hd
theorem mkn_ok {n m : Int} {b : Nat} (h1 : 0 ≤ n) (h2 : n ≤ m) (h3 : (b : Int) * m ≤ 281474976710656) (h4 : m ≤ 9223372036854775807) : mkn n m b = some n.toNat := by
  unfold mkn; rw [if_pos ⟨h1, h2, h3, h4⟩]
/-- Whether limbs agree. -/
def cmpv (a b : Int) : Int := if a < b then -1 else if a = b then 0 else 1
/-- Low bits of one and high bits of the other, put together. -/
theorem or_add {s : Nat} {a c : Int} (hs : s ≤ 32) (ha : 0 ≤ a ∧ a < 4294967296) (hd : ((2 ^ s : Nat) : Int) ∣ a) (hc : 0 ≤ c ∧ c < ((2 ^ s : Nat) : Int)) : bits .or .u32 a c = a + c ∧ a + c < 4294967296 := by
  obtain ⟨A, rfl⟩ := Int.eq_ofNat_of_zero_le ha.1
  obtain ⟨C, rfl⟩ := Int.eq_ofNat_of_zero_le hc.1
  have hC : C < 2 ^ s := by omega
  have hD : 2 ^ s ∣ A := by exact_mod_cast hd
  obtain ⟨q, rfl⟩ := hD
  have hp : 2 ^ s * 2 ^ (32 - s) = 4294967296 := by rw [← Nat.pow_add, show s + (32 - s) = 32 by omega]
  have hq : q < 2 ^ (32 - s) := by
    have h1 : 2 ^ s * q < 2 ^ s * 2 ^ (32 - s) := by rw [hp]; omega
    exact Nat.lt_of_mul_lt_mul_left h1
  have hsum : 2 ^ s * q + C < 4294967296 := by
    have h1 : 2 ^ s * (q + 1) ≤ 2 ^ s * 2 ^ (32 - s) := Nat.mul_le_mul_left _ (by omega)
    rw [hp, Nat.mul_add, Nat.mul_one] at h1
    omega
  have hor : 2 ^ s * q ||| C = 2 ^ s * q + C := (Nat.two_pow_add_eq_or_of_lt hC q).symm
  refine ⟨?_, by omega⟩
  unfold bits
  have e1 : BitVec.ofInt (IntKind.bits .u32) ((2 ^ s * q : Nat) : Int) = BitVec.ofNat 32 (2 ^ s * q) := by
    rw [BitVec.ofInt_natCast]; rfl
  have e2 : BitVec.ofInt (IntKind.bits .u32) ((C : Nat) : Int) = BitVec.ofNat 32 C := by
    rw [BitVec.ofInt_natCast]; rfl
  simp only [Int.ofNat_eq_natCast]
  rw [e1, e2, w32_eq]
  have e3 : (BitVec.ofNat 32 (2 ^ s * q) ||| BitVec.ofNat 32 C).toNat = 2 ^ s * q + C := by
    rw [BitVec.toNat_or, BitVec.toNat_ofNat, BitVec.toNat_ofNat, Nat.mod_eq_of_lt (by omega), Nat.mod_eq_of_lt (by omega), hor]
  have e4 : ((BitVec.ofNat 32 (2 ^ s * q) ||| BitVec.ofNat 32 C : BitVec (IntKind.bits .u32)).toNat : Int) = ((2 ^ s * q + C : Nat) : Int) := by exact_mod_cast e3
  show ((BitVec.ofNat 32 (2 ^ s * q) ||| BitVec.ofNat 32 C : BitVec (IntKind.bits .u32)).toNat : Int) % 4294967296 = _
  rw [e4]
  omega
/-- The low bits of a number. -/
theorem and_low {k : Nat} (hk : k ≤ 64) {a : Nat} (ha : a < 18446744073709551616) : bits .and .u64 (a : Int) ((2 ^ k - 1 : Nat) : Int) = ((a % 2 ^ k : Nat) : Int) := by
  have hp : 2 ^ k ≤ 2 ^ 64 := Nat.pow_le_pow_right (by decide) hk
  have h64 : 2 ^ 64 = 18446744073709551616 := by decide
  unfold bits
  have e1 : BitVec.ofInt (IntKind.bits .u64) ((a : Nat) : Int) = BitVec.ofNat 64 a := by rw [BitVec.ofInt_natCast]; rfl
  have e2 : BitVec.ofInt (IntKind.bits .u64) ((2 ^ k - 1 : Nat) : Int) = BitVec.ofNat 64 (2 ^ k - 1) := by rw [BitVec.ofInt_natCast]; rfl
  rw [e1, e2, w64_eq]
  have e3 : (BitVec.ofNat 64 a &&& BitVec.ofNat 64 (2 ^ k - 1)).toNat = a % 2 ^ k := by
    rw [BitVec.toNat_and, BitVec.toNat_ofNat, BitVec.toNat_ofNat, Nat.mod_eq_of_lt (by omega), Nat.mod_eq_of_lt (by omega), Nat.and_two_pow_sub_one_eq_mod]
  have e4 : ((BitVec.ofNat 64 a &&& BitVec.ofNat 64 (2 ^ k - 1) : BitVec (IntKind.bits .u64)).toNat : Int) = ((a % 2 ^ k : Nat) : Int) := by exact_mod_cast e3
  show ((BitVec.ofNat 64 a &&& BitVec.ofNat 64 (2 ^ k - 1) : BitVec (IntKind.bits .u64)).toNat : Int) % 18446744073709551616 = _
  rw [e4]
  have := Nat.mod_le a (2 ^ k)
  omega
end Go.Av
