/- What comes out of a reckoning is a word of 64 bits. -/
import Derived.Test.YtjabjnkiddldeaaGreatFl12
set_option linter.unusedVariables false
namespace Go.Av
open Go
theorem word_lt {s : Bool} {r : Nat} (h : r ≤ 9223372036854775807) : Ieee.double.word s r < 18446744073709551616 := by
  have h1 : Ieee.double.signWeight = 9223372036854775808 := by decide +kernel
  unfold Ieee.Format.word
  rw [h1]
  split <;> omega
theorem nearest_lt (s : Bool) (m : Nat) (p : Int) : Ieee.double.nearest s m p < 18446744073709551616 := by
  have h2 : Ieee.double.infRung = 9218868437227405312 := by decide +kernel
  unfold Ieee.Format.nearest
  split
  · exact word_lt (by decide)
  · exact word_lt (Nat.le_trans (Nat.min_le_right _ _) (by rw [h2]; decide))
theorem write_lt (d : Ieee.Datum) : Ieee.double.write d < 18446744073709551616 := by
  have h2 : Ieee.double.infRung = 9218868437227405312 := by decide +kernel
  have h3 : Ieee.double.binade = 4503599627370496 := by decide +kernel
  cases d with
  | number s m p => exact nearest_lt s m p
  | infinity s => exact word_lt (by rw [h2]; decide)
  | nan s t =>
    refine word_lt ?_
    rw [h2, h3]
    have := Nat.mod_lt t (show 0 < 4503599627370496 by decide)
    omega
theorem map_lt {o : Option Ieee.Datum} {z : Nat} (h : o.map Ieee.double.write = some z) : z < 18446744073709551616 := by
  cases o with
  | none => cases h
  | some d => simp only [Option.map_some, Option.some.injEq] at h; subst h; exact write_lt d
theorem add_lt {x y z : Nat} (h : Ieee.double.add x y = some z) : z < 18446744073709551616 := map_lt h
theorem sub_lt {x y z : Nat} (h : Ieee.double.sub x y = some z) : z < 18446744073709551616 := map_lt h
theorem mul_lt {x y z : Nat} (h : Ieee.double.mul x y = some z) : z < 18446744073709551616 := map_lt h
theorem div_lt {x y z : Nat} (h : Ieee.double.div x y = some z) : z < 18446744073709551616 := map_lt h
theorem fsqrt_lt {x z : Nat} (h : fsqrt x = some z) : z < 18446744073709551616 := map_lt h
theorem i2f_lt (n : Int) : i2f n < 18446744073709551616 := nearest_lt _ _ _
theorem fabs_lt (x : Nat) : fabs x < 18446744073709551616 := Nat.lt_trans (Nat.mod_lt x (by decide)) (by decide)
end Go.Av
