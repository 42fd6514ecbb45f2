/- What comes of finite numbers is a number. -/
import Derived.Test.YtjabjnkiddldeaaGreatFl1
import Derived.Test.YtjabjnkiddldeaaGreatAv21
set_option linter.unusedVariables false
namespace Go.Av
open Go
theorem write_ok (s : Bool) (m : Nat) (p : Int) : isnan (Ieee.double.write (.number s m p)) = false := by
  have e1 : Ieee.double.signWeight = 9223372036854775808 := by decide +kernel
  have e3 : Ieee.double.infRung = 9218868437227405312 := by decide +kernel
  have key : ∀ (r : Nat), r ≤ 9218868437227405312 → isnan (Ieee.double.word s r) = false := by
    intro r hr
    unfold isnan rung Ieee.Format.word
    rw [e1]
    cases s <;> simp <;> omega
  show isnan (Ieee.double.nearest s m p) = false
  unfold Ieee.Format.nearest
  split
  · exact key 0 (by omega)
  · refine key _ ?_
    rw [e3]
    exact Nat.min_le_right _ _
theorem fin_not_nan {x : Nat} (h : fin x = true) : isnan x = false := by
  unfold fin at h; unfold isnan; simp at h ⊢; omega
theorem sub_fin {x y : Nat} (hx : fin x = true) (hy : fin y = true) : ∃ z, Ieee.double.sub x y = some z ∧ isnan z = false := by
  unfold Ieee.Format.sub
  rw [read_eq x, read_eq y, fin_not_nan hx, fin_not_nan hy, hx, hy]
  simp only [Bool.false_eq_true, if_false, if_true, Ieee.Datum.opposite, Ieee.Datum.sum, Option.map_some]
  exact ⟨_, rfl, write_ok _ _ _⟩
theorem add_fin {x y : Nat} (hx : fin x = true) (hy : fin y = true) : ∃ z, Ieee.double.add x y = some z ∧ isnan z = false := by
  unfold Ieee.Format.add
  rw [read_eq x, read_eq y, fin_not_nan hx, fin_not_nan hy, hx, hy]
  simp only [Bool.false_eq_true, if_false, if_true, Ieee.Datum.sum, Option.map_some]
  exact ⟨_, rfl, write_ok _ _ _⟩
theorem mul_fin {x y : Nat} (hx : fin x = true) (hy : fin y = true) : ∃ z, Ieee.double.mul x y = some z ∧ isnan z = false := by
  unfold Ieee.Format.mul
  rw [read_eq x, read_eq y, fin_not_nan hx, fin_not_nan hy, hx, hy]
  simp only [Bool.false_eq_true, if_false, if_true, Ieee.Datum.product, Option.map_some]
  exact ⟨_, rfl, write_ok _ _ _⟩
theorem fwhole_some {way : Ieee.Toward} {x : Nat} (h : isnan x = false) : ∃ y, fwhole way x = some y := by
  unfold fwhole
  rw [read_eq x, h]
  cases fin x <;> exact ⟨_, rfl⟩
/-- Between a number and its opposite. -/
theorem fin_of_between {x m : Nat} (hm : ikey m < 9218868437227405312) (hm' : ikey (fneg m) = - ikey m) (h1 : fge x (fneg m) = true) (h2 : fle x m = true) : fin x = true := by
  rw [fge_eq] at h1
  rw [fle_eq] at h2
  simp only [Bool.and_eq_true, decide_eq_true_eq] at h1 h2
  have a := h1.2
  have b := h2.2
  rw [hm'] at a
  unfold fin
  unfold ikey at a b
  simp only [decide_eq_true_eq]
  cases hs : sgn x with
  | true => rw [hs] at a b; simp only [if_true] at a b; unfold ikey at hm; omega
  | false => rw [hs] at a b; simp only [Bool.false_eq_true, if_false] at a b; unfold ikey at hm; omega
end Go.Av
