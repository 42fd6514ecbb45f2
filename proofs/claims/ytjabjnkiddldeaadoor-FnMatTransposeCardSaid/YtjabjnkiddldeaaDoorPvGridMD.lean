/- What 'spec.Grid' tells: rows of a length, of whole numbers within bounds. -/
import Derived.Test.YtjabjnkiddldeaaDoorMD
import Derived.Test.YtjabjnkiddldeaaDoorPv1
import Derived.Test.YtjabjnkiddldeaaDoorFl7
set_option linter.unusedVariables false
set_option linter.unusedSectionVars false
set_option linter.unusedSimpArgs false
namespace Go.Proofs.YtjabjnkiddldeaaDoor.PvGridMD
open Go.Av Go
open Go.Proofs.YtjabjnkiddldeaaDoor.MD
theorem bound20 : Wh 4697254411347427328 1048576 := wh_lit _ _ (by decide +kernel) (by decide +kernel) (by decide +kernel) (by decide)
/-- A whole number within bounds. -/
def In (B : Int) (x : Nat) : Prop := ∃ k : Int, Wh x k ∧ -B ≤ k ∧ k ≤ B
section
variable {N : Nat} {m : Nat} {B : Int} (hm : Wh m B) (hB : B ≤ 9007199254740992)
include hm hB
theorem inner {r0 : Int → Option Bool} {v2 v10 : Int} {v1 : List (List Nat)} (hN : 0 < N) (l : List Nat) (hl : l.length ≤ 9223372036854775806) : ∀ (c i n : Nat), i + c = l.length → c + 1 ≤ n →
    spec_Grid_l1 N r0 v2 m v1 n v10 l (i : Int) = some false ∨ (spec_Grid_l1 N r0 v2 m v1 n v10 l (i : Int) = r0 (IntKind.i64.wrap (v10 + 1)) ∧ ∀ (j : Nat) x, i ≤ j → l[j]? = some x → In B x)
  | 0, i, n, hi, hn => by
    obtain ⟨n, rfl⟩ : ∃ m, n = m + 1 := ⟨n - 1, by omega⟩
    simp only [spec_Grid_l1, spec_Grid_g1, Bool.cond_decide]
    rw [if_neg (by omega)]
    exact .inr ⟨rfl, fun j x hj hx => by rw [List.getElem?_eq_none (by omega)] at hx; cases hx⟩
  | c + 1, i, n, hi, hn => by
    obtain ⟨n, rfl⟩ : ∃ m, n = m + 1 := ⟨n - 1, by omega⟩
    have hlt : i < l.length := by omega
    have ih := inner (r0 := r0) (v2 := v2) (v10 := v10) (v1 := v1) hN l hl c (i + 1) n (by omega) (by omega)
    simp only [spec_Grid_l1, spec_Grid_g1, spec_Grid_j2, spec_Grid_g2, Bool.cond_decide, gate_pos hN]
    rw [if_pos (by omega), nth_nat, List.getElem?_eq_getElem hlt]
    simp only [Option.bind_some]
    cases h1 : fge l[i] (fneg m) with
    | false => exact .inl rfl
    | true =>
      cases h2 : fle l[i] m with
      | false => exact .inl rfl
      | true =>
        obtain ⟨y, hy, hw⟩ := whole_between hm hB h1 h2
        simp only [math_Trunc, math_Trunc_g, math_archTrunc, hy, Option.bind_some, fne_not, Bool.not_true, cond_false, cond_true]
        cases he : feq l[i] y with
        | false => exact .inl rfl
        | true =>
          simp only [Bool.not_true, cond_false]
          rw [wrap_in (n := (i : Int) + 1) (by omega), show (i : Int) + 1 = ((i + 1 : Nat) : Int) by omega]
          rcases ih with ih | ⟨ih, ih2⟩
          · exact .inl ih
          · refine .inr ⟨ih, fun j x hj hx => ?_⟩
            rcases Nat.lt_or_ge i j with hij | hij
            · exact ih2 j x (by omega) hx
            · have : j = i := by omega
              subst this
              rw [List.getElem?_eq_getElem hlt] at hx
              simp only [Option.some.injEq] at hx
              subst hx
              exact hw he
theorem outer {v2 : Int} (v1 : List (List Nat)) (hv : v1.length ≤ 9223372036854775806) (hl : ∀ l ∈ v1, l.length + 1 ≤ N) (hN : N ≤ 18446744073709551616) (hl2 : ∀ l ∈ v1, l.length ≤ 9223372036854775806) : ∀ (c i n : Nat), i + c = v1.length → c + 1 ≤ n →
    ∃ t, spec_Grid_l0 N n v2 m v1 (i : Int) = some t ∧ (t = true → 0 < v2 ∧ ∀ (j : Nat) l, i ≤ j → v1[j]? = some l → (l.length : Int) = v2 ∧ ∀ x ∈ l, In B x)
  | 0, i, n, hi, hn => by
    obtain ⟨n, rfl⟩ : ∃ m, n = m + 1 := ⟨n - 1, by omega⟩
    simp only [spec_Grid_l0, spec_Grid_g0, Bool.cond_decide]
    rw [if_neg (by omega)]
    exact ⟨_, rfl, fun h => ⟨of_decide_eq_true h, fun j l hj hx => by rw [List.getElem?_eq_none (by omega)] at hx; cases hx⟩⟩
  | c + 1, i, n, hi, hn => by
    obtain ⟨n, rfl⟩ : ∃ m, n = m + 1 := ⟨n - 1, by omega⟩
    have hlt : i < v1.length := by omega
    obtain ⟨t, h1, h2⟩ := outer (v2 := v2) v1 hv hl hN hl2 c (i + 1) n (by omega) (by omega)
    have hb := hl _ (List.getElem_mem hlt)
    have hb2 := hl2 _ (List.getElem_mem hlt)
    simp only [spec_Grid_l0, spec_Grid_g0, Bool.cond_decide]
    rw [if_pos (by omega), nth_nat, List.getElem?_eq_getElem hlt]
    simp only [Option.bind_some]
    cases hq : ((v1[i].length : Int) != v2) with
    | true => exact ⟨false, rfl, fun h => by cases h⟩
    | false =>
      simp only [cond_false]
      have hin := inner (N := N) hm hB (r0 := spec_Grid_l0 N n v2 m v1) (v2 := v2) (v10 := (i : Int)) (v1 := v1) (by omega) v1[i] hb2 v1[i].length 0 N (by omega) hb
      rw [show ((0 : Nat) : Int) = 0 from rfl, wrap_in (n := (i : Int) + 1) (by omega), show (i : Int) + 1 = ((i + 1 : Nat) : Int) by omega] at hin
      rcases hin with h | ⟨h, hall⟩
      · rw [h]; exact ⟨false, rfl, fun h => by cases h⟩
      · rw [h, h1]
        refine ⟨t, rfl, fun ht => ⟨(h2 ht).1, fun j l hj hx => ?_⟩⟩
        rcases Nat.lt_or_ge i j with hij | hij
        · exact (h2 ht).2 j l (by omega) hx
        · have : j = i := by omega
          subst this
          rw [List.getElem?_eq_getElem hlt] at hx
          simp only [Option.some.injEq] at hx
          subst hx
          refine ⟨by simpa using hq, fun x hx => ?_⟩
          obtain ⟨q, hq'⟩ := List.mem_iff_getElem?.1 hx
          exact hall q x (by omega) hq'
theorem grid {v2 : Int} (v1 : List (List Nat)) (hv : v1.length + 1 ≤ N) (hl : ∀ l ∈ v1, l.length + 1 ≤ N) (hN : N ≤ 18446744073709551616) (hv2 : v1.length ≤ 9223372036854775806) (hl2 : ∀ l ∈ v1, l.length ≤ 9223372036854775806) :
    ∃ t, spec_Grid N v1 v2 m = some t ∧ (t = true → 0 < v2 ∧ ∀ l ∈ v1, (l.length : Int) = v2 ∧ ∀ x ∈ l, In B x) := by
  obtain ⟨t, h1, h2⟩ := outer (N := N) hm hB (v2 := v2) v1 hv2 hl hN hl2 v1.length 0 N (by omega) hv
  refine ⟨t, h1, fun ht => ⟨(h2 ht).1, fun l hll => ?_⟩⟩
  obtain ⟨q, hq⟩ := List.mem_iff_getElem?.1 hll
  exact (h2 ht).2 q l (by omega) hq
end
end Go.Proofs.YtjabjnkiddldeaaDoor.PvGridMD
