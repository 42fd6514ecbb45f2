/- What 'laws.planeTo' tells: places with whole X and Y within bounds. -/
import Derived.Test.YtjabjnkiddldeaaGreatPvWholeToPC
set_option linter.unusedVariables false
set_option linter.unusedSectionVars false
set_option linter.unusedSimpArgs false
namespace Go.Proofs.YtjabjnkiddldeaaGreat.PvPlaneToPC
open Go.Av Go
open Go.Proofs.YtjabjnkiddldeaaGreat.PC
open Go.Proofs.YtjabjnkiddldeaaGreat.PvWholeToPC
section
variable {N : Nat} {m : Nat} {B : Int} (hm : Wh m B) (hB : B ≤ 9007199254740992)
include hm hB
theorem planes (hN : 3 ≤ N) (l : List (Nat × (Nat × Unit))) (hl : l.length ≤ 9223372036854775806) : ∀ (c i n : Nat), i + c = l.length → c + 1 ≤ n →
    laws_planeTo_l0 N n m l (i : Int) = some false ∨ (laws_planeTo_l0 N n m l (i : Int) = some true ∧ ∀ (j : Nat) x, i ≤ j → l[j]? = some x → In B x.1 ∧ In B x.2.1)
  | 0, i, n, hi, hn => by
    obtain ⟨n, rfl⟩ : ∃ m, n = m + 1 := ⟨n - 1, by omega⟩
    simp only [laws_planeTo_l0, laws_planeTo_g0, Bool.cond_decide]
    rw [if_neg (by omega)]
    exact .inr ⟨rfl, fun j x hj hx => by rw [List.getElem?_eq_none (by omega)] at hx; cases hx⟩
  | c + 1, i, n, hi, hn => by
    obtain ⟨n, rfl⟩ : ∃ m, n = m + 1 := ⟨n - 1, by omega⟩
    have hlt : i < l.length := by omega
    have ih := planes hN l hl c (i + 1) n (by omega) (by omega)
    simp only [laws_planeTo_l0, laws_planeTo_g0, Bool.cond_decide]
    rw [if_pos (by omega), nth_nat, List.getElem?_eq_getElem hlt]
    simp only [Option.bind_some]
    rcases wholeTo hm hB (N := N) [l[i].1, l[i].2.1] (by simp; omega) (by simp) with h | ⟨h, h2⟩
    · rw [h]; exact .inl rfl
    · rw [h]
      simp only [Option.bind_some, Bool.not_true, cond_false]
      rw [wrap_in (n := (i : Int) + 1) (by omega), show (i : Int) + 1 = ((i + 1 : Nat) : Int) by omega]
      rcases ih with ih | ⟨ih, ih2⟩
      · exact .inl ih
      · refine .inr ⟨ih, fun j x hj hx => ?_⟩
        rcases Nat.lt_or_ge i j with hij | hij
        · exact ih2 j x (by omega) hx
        · have : j = i := by omega
          subst this
          rw [List.getElem?_eq_getElem hlt] at hx
          simp only [Option.some.injEq] at hx
          subst hx
          exact ⟨h2 _ (by simp), h2 _ (by simp)⟩
theorem planeTo (hN : 3 ≤ N) (l : List (Nat × (Nat × Unit))) (hN2 : l.length + 1 ≤ N) (hl : l.length ≤ 9223372036854775806) :
    laws_planeTo N m l = some false ∨ (laws_planeTo N m l = some true ∧ ∀ x ∈ l, In B x.1 ∧ In B x.2.1) := by
  rcases planes hm hB hN l hl l.length 0 N (by omega) hN2 with h | ⟨h, h2⟩
  · exact .inl h
  · refine .inr ⟨h, fun x hx => ?_⟩
    obtain ⟨i, hi, rfl⟩ := List.getElem_of_mem hx
    exact h2 i _ (by omega) (List.getElem?_eq_getElem hi)
end
end Go.Proofs.YtjabjnkiddldeaaGreat.PvPlaneToPC
