/- What 'laws.whole2' and 'laws.whole3' tell: vectors of whole numbers within bounds. -/
import Derived.Test.YtlbbldhbggfoaaaPvGridU34
set_option linter.unusedVariables false
set_option linter.unusedSectionVars false
set_option linter.unusedSimpArgs false
namespace Go.Proofs.Ytlbbldhbggfoaaa.PvWhole23U34
open Go.Av Go
open Go.Proofs.Ytlbbldhbggfoaaa.U34
open Go.Proofs.Ytlbbldhbggfoaaa.PvGridU34
theorem whole2 {N : Nat} (hN : 100 ≤ N) (hN2 : N ≤ 18446744073709551616) (v1 : List (Nat × Nat × Unit)) (hv : v1.length ≤ 50) : ∀ (c i n : Nat), i + c = v1.length → c + 1 ≤ n →
    ∃ t, laws_whole2_l0 N n v1 (i : Int) = some t ∧ (t = true → ∀ (j : Nat) p, i ≤ j → v1[j]? = some p → In 1048576 p.1 ∧ In 1048576 p.2.1)
  | 0, i, n, hi, hn => by
    obtain ⟨n, rfl⟩ : ∃ m, n = m + 1 := ⟨n - 1, by omega⟩
    simp only [laws_whole2_l0, laws_whole2_g0, Bool.cond_decide]
    rw [if_neg (by omega)]
    exact ⟨_, rfl, fun h j l hj hx => by rw [List.getElem?_eq_none (by omega)] at hx; cases hx⟩
  | c + 1, i, n, hi, hn => by
    obtain ⟨n, rfl⟩ : ∃ m, n = m + 1 := ⟨n - 1, by omega⟩
    have hlt : i < v1.length := by omega
    obtain ⟨t, h1, h2⟩ := whole2 hN hN2 v1 hv c (i + 1) n (by omega) (by omega)
    simp only [laws_whole2_l0, laws_whole2_g0, Bool.cond_decide]
    rw [if_pos (by omega), nth_nat, List.getElem?_eq_getElem hlt]
    simp only [Option.bind_some, laws_off2, laws_off2_g]
    obtain ⟨s, g1, g2⟩ := grid (N := N) bound20 (by decide) (v2 := 2) [[v1[i].1, v1[i].2.1]] (by simp; omega) (by simp; omega) hN2 (by simp) (by simp)
    rw [g1]
    simp only [Option.bind_some]
    cases s with
    | false => exact ⟨false, rfl, fun h => by cases h⟩
    | true =>
      simp only [Bool.not_true, cond_false]
      rw [wrap_in (n := (i : Int) + 1) (by omega), show (i : Int) + 1 = ((i + 1 : Nat) : Int) by omega, h1]
      refine ⟨t, rfl, fun ht j p hj hx => ?_⟩
      rcases Nat.lt_or_ge i j with hij | hij
      · exact h2 ht j p (by omega) hx
      · have : j = i := by omega
        subst this
        rw [List.getElem?_eq_getElem hlt] at hx
        simp only [Option.some.injEq] at hx
        subst hx
        have := (g2 rfl).2 _ (List.mem_singleton.2 rfl)
        exact ⟨this.2 _ (by simp), this.2 _ (by simp)⟩
theorem whole3 {N : Nat} (hN : 100 ≤ N) (hN2 : N ≤ 18446744073709551616) (v1 : List (Nat × Nat × Nat × Unit)) (hv : v1.length ≤ 50) : ∀ (c i n : Nat), i + c = v1.length → c + 1 ≤ n →
    ∃ t, laws_whole3_l0 N n v1 (i : Int) = some t ∧ (t = true → ∀ (j : Nat) p, i ≤ j → v1[j]? = some p → In 1048576 p.1 ∧ In 1048576 p.2.1 ∧ In 1048576 p.2.2.1)
  | 0, i, n, hi, hn => by
    obtain ⟨n, rfl⟩ : ∃ m, n = m + 1 := ⟨n - 1, by omega⟩
    simp only [laws_whole3_l0, laws_whole3_g0, Bool.cond_decide]
    rw [if_neg (by omega)]
    exact ⟨_, rfl, fun h j l hj hx => by rw [List.getElem?_eq_none (by omega)] at hx; cases hx⟩
  | c + 1, i, n, hi, hn => by
    obtain ⟨n, rfl⟩ : ∃ m, n = m + 1 := ⟨n - 1, by omega⟩
    have hlt : i < v1.length := by omega
    obtain ⟨t, h1, h2⟩ := whole3 hN hN2 v1 hv c (i + 1) n (by omega) (by omega)
    simp only [laws_whole3_l0, laws_whole3_g0, Bool.cond_decide]
    rw [if_pos (by omega), nth_nat, List.getElem?_eq_getElem hlt]
    simp only [Option.bind_some, laws_off3, laws_off3_g]
    obtain ⟨s, g1, g2⟩ := grid (N := N) bound20 (by decide) (v2 := 3) [[v1[i].1, v1[i].2.1, v1[i].2.2.1]] (by simp; omega) (by simp; omega) hN2 (by simp) (by simp)
    rw [g1]
    simp only [Option.bind_some]
    cases s with
    | false => exact ⟨false, rfl, fun h => by cases h⟩
    | true =>
      simp only [Bool.not_true, cond_false]
      rw [wrap_in (n := (i : Int) + 1) (by omega), show (i : Int) + 1 = ((i + 1 : Nat) : Int) by omega, h1]
      refine ⟨t, rfl, fun ht j p hj hx => ?_⟩
      rcases Nat.lt_or_ge i j with hij | hij
      · exact h2 ht j p (by omega) hx
      · have : j = i := by omega
        subst this
        rw [List.getElem?_eq_getElem hlt] at hx
        simp only [Option.some.injEq] at hx
        subst hx
        have := (g2 rfl).2 _ (List.mem_singleton.2 rfl)
        exact ⟨this.2 _ (by simp), this.2 _ (by simp), this.2 _ (by simp)⟩
end Go.Proofs.Ytlbbldhbggfoaaa.PvWhole23U34
