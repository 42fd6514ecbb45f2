/- What 'laws.wholeTo' tells: whole numbers within bounds; what is not a number is none. -/
import Derived.Test.YtjabjnkiddldeaaGreatPC
import Derived.Test.YtjabjnkiddldeaaGreatPv1
import Derived.Test.YtjabjnkiddldeaaGreatFl12
set_option linter.unusedVariables false
set_option linter.unusedSectionVars false
set_option linter.unusedSimpArgs false
namespace Go.Proofs.YtjabjnkiddldeaaGreat.PvWholeToPC
open Go.Av Go
open Go.Proofs.YtjabjnkiddldeaaGreat.PC
/-- A whole number within bounds. -/
def In (B : Int) (x : Nat) : Prop := ∃ k : Int, Wh x k ∧ -B ≤ k ∧ k ≤ B
theorem abs_def {N x : Nat} : math_Abs N x = some (fabs x) := by
  simp only [math_Abs, math_Abs_g, math_Float64bits, math_Float64frombits, Option.bind_some, abs_bits, Int.toNat_natCast, fabs]
section
variable {N : Nat} {m : Nat} {B : Int} (hm : Wh m B) (hB : B ≤ 9007199254740992)
include hm hB
theorem in_of {x y : Nat} (hw : fwhole .zero x = some y) (he : feq x y = true) (hf : fgt (fabs x) m = false) : In B x := by
  have hn : isnan x = false := by
    rw [feq_eq] at he
    cases h : isnan x with
    | false => rfl
    | true => rw [h] at he; simp at he
  obtain ⟨h1, h2⟩ := fin_of_abs hm hn hf
  have h3 : fv x ≤ (B : Rat) := by unfold ab at h2; grind
  have h4 : -(B : Rat) ≤ fv x := by unfold ab at h2; grind
  exact wh_of_trunc h1 hw he h3 h4 hB
theorem wholes (hN : 0 < N) (l : List Nat) (hl : l.length ≤ 9223372036854775806) : ∀ (c i n : Nat), i + c = l.length → c + 1 ≤ n →
    laws_wholeTo_l0 N n m l (i : Int) = some false ∨ (laws_wholeTo_l0 N n m l (i : Int) = some true ∧ ∀ (j : Nat) x, i ≤ j → l[j]? = some x → In B x)
  | 0, i, n, hi, hn => by
    obtain ⟨n, rfl⟩ : ∃ m, n = m + 1 := ⟨n - 1, by omega⟩
    simp only [laws_wholeTo_l0, laws_wholeTo_g0, Bool.cond_decide]
    rw [if_neg (by omega)]
    exact .inr ⟨rfl, fun j x hj hx => by rw [List.getElem?_eq_none (by omega)] at hx; cases hx⟩
  | c + 1, i, n, hi, hn => by
    obtain ⟨n, rfl⟩ : ∃ m, n = m + 1 := ⟨n - 1, by omega⟩
    have hlt : i < l.length := by omega
    have ih := wholes hN l hl c (i + 1) n (by omega) (by omega)
    simp only [laws_wholeTo_l0, laws_wholeTo_g0, laws_wholeTo_j1, laws_wholeTo_g1, Bool.cond_decide, gate_pos hN]
    rw [if_pos (by omega), nth_nat, List.getElem?_eq_getElem hlt]
    simp only [Option.bind_some, math_Trunc, math_Trunc_g, math_archTrunc, fwholeN]
    cases hw : fwhole .zero l[i] with
    | none => exact .inl rfl
    | some y =>
      simp only [Sum.elim_inl, Option.bind_some, fne_not]
      cases he : feq l[i] y with
      | false => exact .inl rfl
      | true =>
        simp only [Bool.not_true, cond_false, abs_def, Option.bind_some]
        cases hf : fgt (fabs l[i]) m with
        | true => exact .inl rfl
        | false =>
          simp only [cond_false]
          rw [wrap_in (n := (i : Int) + 1) (by omega), show (i : Int) + 1 = ((i + 1 : Nat) : Int) by omega]
          rcases ih with ih | ⟨ih, ih2⟩
          · exact .inl ih
          · refine .inr ⟨ih, fun j x hj hx => ?_⟩
            rcases Nat.lt_or_ge i j with hij | hij
            · exact ih2 j x (by omega) hx
            · have : j = i := by omega
              subst this
              rw [List.getElem?_eq_getElem hlt] at hx
              simp only [Option.some.injEq] at hx
              subst hx
              exact in_of hm hB hw he hf
theorem wholeTo (l : List Nat) (hN : l.length + 1 ≤ N) (hl : l.length ≤ 9223372036854775806) :
    laws_wholeTo N m l = some false ∨ (laws_wholeTo N m l = some true ∧ ∀ x ∈ l, In B x) := by
  rcases wholes hm hB (N := N) (by omega) l hl l.length 0 N (by omega) hN with h | ⟨h, h2⟩
  · exact .inl h
  · refine .inr ⟨h, fun x hx => ?_⟩
    obtain ⟨i, hi, rfl⟩ := List.getElem_of_mem hx
    exact h2 i _ (by omega) (List.getElem?_eq_getElem hi)
end
end Go.Proofs.YtjabjnkiddldeaaGreat.PvWholeToPC
