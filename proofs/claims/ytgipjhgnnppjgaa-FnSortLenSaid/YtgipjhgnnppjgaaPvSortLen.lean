/- The plain law of FnSortLen. -/
import Derived.Test.YtgipjhgnnppjgaaFA
import Derived.Test.YtgipjhgnnppjgaaPv1
set_option linter.unusedVariables false
set_option linter.unusedSimpArgs false
namespace Go.Proofs.Ytgipjhgnnppjgaa.PvSortLen
open Go.Av Go
open Go.Proofs.Ytgipjhgnnppjgaa.FA
def strd (l : Int) : Int := if l < 1 then 0 else if l = 1 then 2 else if l = 2 then 3 else if l = 3 then 3 else l
theorem stride_spec (N : Nat) (l : Int) : spec_Stride N l = some (strd l) := by
  simp only [spec_Stride, spec_Stride_g, strd, beq_iff_eq, decide_eq_true_eq, Bool.cond_eq_ite, apply_ite some]
theorem stride_geom (N : Nat) (l : Int) (h : 1 ≤ l) : gogeom_Layout_Stride N l = some (strd l) := by
  simp only [gogeom_Layout_Stride, gogeom_Layout_Stride_g, strd, beq_iff_eq, Bool.cond_eq_ite, apply_ite some]
  repeat' split
  all_goals first | rfl | omega | (subst_vars; rfl) | skip
theorem strd_pos {l : Int} (h : 1 ≤ l) : 2 ≤ strd l := by
  unfold strd; repeat' split
  all_goals omega
theorem each {N d : Nat} (hN : 0 < N) (a : List Nat) (hl : a.length ≤ 9223372036854775806) : ∀ (k i n : Nat), i + k = a.length → k + 1 ≤ n →
    ∃ t, laws_gEach_l0 N (laws_gEach N d) n (Geo.mk 0 0 0 a [] [] []) (i : Int) = some t
  | 0, i, n, hi, hn => by
    obtain ⟨n, rfl⟩ : ∃ m, n = m + 1 := ⟨n - 1, by omega⟩
    obtain ⟨M, rfl⟩ : ∃ m, N = m + 1 := ⟨N - 1, by omega⟩
    simp only [laws_gEach_l0, laws_gEach_g0, laws_gEach_l1, laws_gEach_g1, Bool.cond_decide]
    rw [if_neg (by show ¬ ((i : Int) < (a.length : Int)); omega), if_neg (by show ¬ ((0 : Int) < (([] : List Geo).length : Int)); simp)]
    exact ⟨_, rfl⟩
  | k + 1, i, n, hi, hn => by
    obtain ⟨n, rfl⟩ : ∃ m, n = m + 1 := ⟨n - 1, by omega⟩
    have hlt : i < a.length := by omega
    have e : ((i : Int) + 1) = ((i + 1 : Nat) : Int) := by omega
    have hf : (Geo.mk 0 0 0 a [] [] []).flat = a := rfl
    obtain ⟨t, ht⟩ := each hN (d := d) a hl k (i + 1) n (by omega) (by omega)
    simp only [laws_gEach_l0, laws_gEach_g0, Bool.cond_decide]
    rw [if_pos (by show ((i : Int) < (a.length : Int)); omega), hf, nth_nat, List.getElem?_eq_getElem hlt, wrap_in (by omega), e, ht]
    simp only [Option.bind_some, laws_gNumber, laws_gNumber_g]
    cases feq a[i] a[i] <;> exact ⟨_, rfl⟩
theorem each_all {N : Nat} (a : List Nat) (hl : a.length ≤ 9223372036854775806) (hN : a.length + 1 ≤ N) : ∃ t, laws_gEach N N (Geo.mk 0 0 0 a [] [] []) = some t := by
  obtain ⟨d, e⟩ : ∃ m, N = m + 1 := ⟨N - 1, by omega⟩
  rw [show laws_gEach N N = laws_gEach N (d + 1) by rw [← e]]
  simp only [laws_gEach, laws_gEach_g]
  exact each (N := N) (d := d) (by omega) a hl a.length 0 N (by omega) hN
theorem row {N : Nat} (hN : 2147483649 ≤ N) (v1 : Int) (v2 : List Nat) : laws_sRow N v1 v2 = some false ∨ (laws_sRow N v1 v2 = some true ∧ 1 ≤ v1 ∧ v1 ≤ 9) := by
  simp only [laws_sRow, laws_sRow_g, stride_spec, Option.bind_some, Bool.cond_decide]
  by_cases a1 : v1 ≥ 1
  · by_cases a2 : v1 ≤ 9
    · by_cases a3 : (v2.length : Int) ≤ 1000
      · have hs := strd_pos (l := v1) a1
        rw [if_pos a1, if_pos a2, if_pos a3, if_neg (by omega)]
        obtain ⟨t, ht⟩ := each_all (N := N) v2 (by omega) (by omega)
        rw [ht]
        cases (Int.tmod (v2.length : Int) (strd v1) == 0) with
        | false => exact .inl rfl
        | true => 
          cases t with
          | false => exact .inl rfl
          | true => exact .inr ⟨rfl, a1, a2⟩
      · rw [if_pos a1, if_pos a2, if_neg a3]; exact .inl rfl
    · rw [if_pos a1, if_neg a2]; exact .inl rfl
  · rw [if_neg a1]; exact .inl rfl
theorem law (v1 : Int) (v2 : List Nat) : laws_FnSortLen 18446744073709551616 v1 v2 = some true := by
  generalize hN : 18446744073709551616 = N
  simp only [laws_FnSortLen, laws_FnSortLen_g, Bool.cond_decide]
  by_cases a1 : (v2.length : Int) > 2147483647
  · rw [if_pos a1]
  rw [if_neg a1]
  rcases row (N := N) (by omega) v1 v2 with h | ⟨h, h1, h2⟩
  · rw [h]; rfl
  · have hs := strd_pos (l := v1) h1
    rw [h]
    simp only [Option.bind_some, Bool.not_true, cond_false, impl_SortLen, impl_SortLen_g, sorting_NewFlatCoordSorting2D, sorting_NewFlatCoordSorting2D_g, sorting_NewFlatCoordSorting, sorting_NewFlatCoordSorting_g, stride_geom N v1 h1, stride_spec, sorting_FlatCoord_Len, sorting_FlatCoord_Len_g]
    rw [if_neg (by omega)]
    simp
    omega
end Go.Proofs.Ytgipjhgnnppjgaa.PvSortLen
