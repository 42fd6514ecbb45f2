/- Bits of whole numbers from 0 on: words for the law of the Hilbert curves. -/
import Derived.Test.YtjabjnkiddldeaaDoorPvHil
import Derived.Test.YtjabjnkiddldeaaDoorPv1
set_option linter.unusedVariables false
namespace Go.Av.Hil
open Go
def B63 : Nat := 9223372036854775808
theorem wrapn {a : Nat} (h : a < 9223372036854775808) : IntKind.i64.wrap (a : Int) = (a : Int) := wrap_in (by omega)
theorem bv64 (a : Nat) : BitVec.ofInt (IntKind.bits .i64) ((a : Nat) : Int) = BitVec.ofNat 64 a := by rw [BitVec.ofInt_natCast]; rfl
theorem and_n {a b : Nat} (ha : a < 9223372036854775808) (hb : b < 9223372036854775808) : bits .and .i64 (a : Int) (b : Int) = ((a &&& b : Nat) : Int) := by
  unfold bits
  rw [bv64, bv64]
  have e3 : (BitVec.ofNat 64 a &&& BitVec.ofNat 64 b).toNat = a &&& b := by
    rw [BitVec.toNat_and, BitVec.toNat_ofNat, BitVec.toNat_ofNat, Nat.mod_eq_of_lt (by omega), Nat.mod_eq_of_lt (by omega)]
  have hl : a &&& b < 9223372036854775808 := Nat.lt_of_le_of_lt Nat.and_le_left ha
  have e4 : ((BitVec.ofNat 64 a &&& BitVec.ofNat 64 b : BitVec (IntKind.bits .i64)).toNat : Int) = ((a &&& b : Nat) : Int) := by exact_mod_cast e3
  show IntKind.i64.wrap ((BitVec.ofNat 64 a &&& BitVec.ofNat 64 b : BitVec (IntKind.bits .i64)).toNat : Int) = _
  rw [e4]; exact wrapn hl
theorem xor_n {a b : Nat} (ha : a < 9223372036854775808) (hb : b < 9223372036854775808) : bits .xor .i64 (a : Int) (b : Int) = ((a ^^^ b : Nat) : Int) := by
  unfold bits
  rw [bv64, bv64]
  have e3 : (BitVec.ofNat 64 a ^^^ BitVec.ofNat 64 b).toNat = a ^^^ b := by
    rw [BitVec.toNat_xor, BitVec.toNat_ofNat, BitVec.toNat_ofNat, Nat.mod_eq_of_lt (by omega), Nat.mod_eq_of_lt (by omega)]
  have hl : a ^^^ b < 9223372036854775808 := Nat.xor_lt_two_pow (n := 63) ha hb
  have e4 : ((BitVec.ofNat 64 a ^^^ BitVec.ofNat 64 b : BitVec (IntKind.bits .i64)).toNat : Int) = ((a ^^^ b : Nat) : Int) := by exact_mod_cast e3
  show IntKind.i64.wrap ((BitVec.ofNat 64 a ^^^ BitVec.ofNat 64 b : BitVec (IntKind.bits .i64)).toNat : Int) = _
  rw [e4]; exact wrapn hl
theorem or_n {a b : Nat} (ha : a < 9223372036854775808) (hb : b < 9223372036854775808) : bits .or .i64 (a : Int) (b : Int) = ((a ||| b : Nat) : Int) := by
  unfold bits
  rw [bv64, bv64]
  have e3 : (BitVec.ofNat 64 a ||| BitVec.ofNat 64 b).toNat = a ||| b := by
    rw [BitVec.toNat_or, BitVec.toNat_ofNat, BitVec.toNat_ofNat, Nat.mod_eq_of_lt (by omega), Nat.mod_eq_of_lt (by omega)]
  have hl : a ||| b < 9223372036854775808 := Nat.or_lt_two_pow (n := 63) ha hb
  have e4 : ((BitVec.ofNat 64 a ||| BitVec.ofNat 64 b : BitVec (IntKind.bits .i64)).toNat : Int) = ((a ||| b : Nat) : Int) := by exact_mod_cast e3
  show IntKind.i64.wrap ((BitVec.ofNat 64 a ||| BitVec.ofNat 64 b : BitVec (IntKind.bits .i64)).toNat : Int) = _
  rw [e4]; exact wrapn hl
theorem min_n {n : Nat} (h : n < 64) : min (n : Int).toNat (IntKind.bits .i64) = n := by
  rw [Int.toNat_natCast]
  show min n 64 = n
  omega
theorem shr_n (a : Nat) {n : Nat} (h : n < 64) : Int.fdiv (a : Int) (2 ^ (min (n : Int).toNat (IntKind.bits .i64))) = ((a / 2 ^ n : Nat) : Int) := by
  rw [min_n h, Int.fdiv_eq_ediv_of_nonneg _ (Int.le_of_lt (Int.pow_pos (by decide)))]
  rw [Int.natCast_ediv, Int.natCast_pow]
  rfl
theorem shl_n {a n : Nat} (h : n < 64) (hl : a * 2 ^ n < 9223372036854775808) : IntKind.i64.wrap ((a : Int) * 2 ^ (min (n : Int).toNat (IntKind.bits .i64))) = ((a * 2 ^ n : Nat) : Int) := by
  rw [min_n h, ← wrapn hl, Int.natCast_mul, Int.natCast_pow]
  rfl
theorem ones_n {n : Nat} (h : n < 63) : IntKind.i64.wrap ((IntKind.i64.wrap (1 * 2 ^ (min (n : Int).toNat (IntKind.bits .i64)))) - 1) = ((2 ^ n - 1 : Nat) : Int) := by
  have h2 : 2 ^ n < 2 ^ 63 := Nat.pow_lt_pow_right (a := 2) (by decide) h
  have h3 : 2 ^ 63 = 9223372036854775808 := by decide
  rw [h3] at h2
  have := Nat.two_pow_pos n
  rw [show (1 : Int) = ((1 : Nat) : Int) from rfl, shl_n (by omega) (by omega), Nat.one_mul, ← Int.natCast_sub (by omega), wrapn (by omega)]
theorem and_ones (a n : Nat) : a &&& (2 ^ n - 1) = a % 2 ^ n := Nat.and_two_pow_sub_one_eq_mod a n
end Go.Av.Hil
