/- The plain law of FnBoxOverlapsTurn: to overlap is the same either way about. -/
import Derived.Test.YtcppjdjimmnlkabFBox
import Derived.Test.YtcppjdjimmnlkabPv1
set_option linter.unusedVariables false
set_option linter.unusedSimpArgs false
namespace Go.Proofs.Ytcppjdjimmnlkab.PvBoxTurn
open Go.Av Go
open Go.Proofs.Ytcppjdjimmnlkab.FBox
theorem fgt_flt (x y : Nat) : fgt x y = flt y x := by rw [fgt_eq, flt_eq, Bool.or_comm]
abbrev Bx := Int × (List Nat × (List Nat × Unit))
def strd (l : Int) : Int := if l < 1 then 0 else if l = 1 then 2 else if l = 2 then 3 else if l = 3 then 3 else l
theorem stride_spec (N : Nat) (l : Int) : spec_Stride N l = some (strd l) := by
  simp only [spec_Stride, spec_Stride_g, strd, beq_iff_eq, decide_eq_true_eq, Bool.cond_eq_ite, apply_ite some]
theorem stride_geom (N : Nat) (l : Int) (h : 1 ≤ l) : gogeom_Layout_Stride N l = some (strd l) := by
  simp only [gogeom_Layout_Stride, gogeom_Layout_Stride_g, strd, beq_iff_eq, Bool.cond_eq_ite, apply_ite some]
  repeat' split
  all_goals first | rfl | omega | (subst_vars; rfl) | skip
theorem inner {N : Nat} {r0 : Int → Option Bool} (l : List Bx) (k : Int) (b : Bx) (hb : b.2.2.1.length = b.2.1.length) (hl : b.2.1.length ≤ 2147483647) : ∀ (c i n : Nat), i + c = b.2.1.length → c + 1 ≤ n →
    laws_bBox_l2 N r0 l n k b (i : Int) = some false ∨ laws_bBox_l2 N r0 l n k b (i : Int) = r0 (IntKind.i64.wrap (k + 1))
  | 0, i, n, hi, hn => by
    obtain ⟨n, rfl⟩ : ∃ m, n = m + 1 := ⟨n - 1, by omega⟩
    simp only [laws_bBox_l2, laws_bBox_g2, Bool.cond_decide]
    rw [if_neg (by omega)]
    exact .inr rfl
  | c + 1, i, n, hi, hn => by
    obtain ⟨n, rfl⟩ : ∃ m, n = m + 1 := ⟨n - 1, by omega⟩
    simp only [laws_bBox_l2, laws_bBox_g2, Bool.cond_decide]
    rw [if_pos (by omega), nth_nat, nth_nat, List.getElem?_eq_getElem (by omega), List.getElem?_eq_getElem (by omega)]
    simp only [Option.bind_some, laws_gNumber, laws_gNumber_g]
    rw [wrap_in (n := (i : Int) + 1) (by omega), show (i : Int) + 1 = ((i + 1 : Nat) : Int) by omega]
    have ih := inner (N := N) (r0 := r0) l k b hb hl c (i + 1) n (by omega) (by omega)
    cases feq b.2.1[i] b.2.1[i] with
    | false => exact .inl rfl
    | true =>
      cases feq b.2.2.1[i] b.2.2.1[i] with
      | false => exact .inl rfl
      | true => exact ih
theorem boxes {N : Nat} (hN : 4294967296 ≤ N) (l : List Bx) (hl : ∀ b ∈ l, b.2.1.length ≤ 2147483647 ∧ b.2.2.1.length ≤ 2147483647) (hll : l.length ≤ 1000) : ∀ (c i n : Nat), i + c = l.length → c + 1 ≤ n →
    ∃ t, laws_bBox_l0 N n l (i : Int) = some t ∧ (t = true → ∀ (j : Nat) b, i ≤ j → l[j]? = some b → b.2.2.1.length = b.2.1.length)
  | 0, i, n, hi, hn => by
    obtain ⟨n, rfl⟩ : ∃ m, n = m + 1 := ⟨n - 1, by omega⟩
    simp only [laws_bBox_l0, laws_bBox_g0, Bool.cond_decide]
    rw [if_neg (by omega)]
    refine ⟨true, rfl, fun _ j b hj hb => ?_⟩
    rw [List.getElem?_eq_none (by omega)] at hb; cases hb
  | c + 1, i, n, hi, hn => by
    obtain ⟨n, rfl⟩ : ∃ m, n = m + 1 := ⟨n - 1, by omega⟩
    have hN0 : 0 < N := by omega
    obtain ⟨t, h1, h2⟩ := boxes hN l hl hll c (i + 1) n (by omega) (by omega)
    have hlt : i < l.length := by omega
    simp only [laws_bBox_l0, laws_bBox_g0, laws_bBox_j1, laws_bBox_g1, gate_pos hN0, Bool.cond_decide]
    rw [if_pos (by omega), nth_nat, List.getElem?_eq_getElem hlt]
    have hb := hl l[i] (List.getElem_mem hlt)
    generalize hbe : l[i] = b at hb
    simp only [Option.bind_some, stride_spec]
    by_cases a1 : b.1 < 0
    · rw [if_pos a1]; exact ⟨false, rfl, fun h => by cases h⟩
    by_cases a2 : b.1 > 9
    · rw [if_neg a1, if_pos a2]; exact ⟨false, rfl, fun h => by cases h⟩
    rw [if_neg a1, if_neg a2]
    cases a3 : ((b.2.1.length : Int) != strd b.1) with
    | true => exact ⟨false, rfl, fun h => by cases h⟩
    | false =>
      cases a4 : ((b.2.2.1.length : Int) != (b.2.1.length : Int)) with
      | true => exact ⟨false, rfl, fun h => by cases h⟩
      | false =>
        simp only [cond_false]
        have a5 : b.2.2.1.length = b.2.1.length := by simp at a4; omega
        have hin := inner (N := N) (r0 := laws_bBox_l0 N n l) l (i : Int) b a5 hb.1 b.2.1.length 0 N (by omega) (by omega)
        rw [show ((0 : Nat) : Int) = 0 from rfl, wrap_in (n := (i : Int) + 1) (by omega), show (i : Int) + 1 = ((i + 1 : Nat) : Int) by omega] at hin
        rcases hin with h | h
        · rw [h]; exact ⟨false, rfl, fun h => by cases h⟩
        · rw [h, h1]
          refine ⟨t, rfl, fun ht j b' hj hb' => ?_⟩
          rcases Nat.lt_or_ge i j with hij | hij
          · exact h2 ht j b' (by omega) hb'
          · have : j = i := by omega
            subst this
            rw [List.getElem?_eq_getElem hlt, hbe] at hb'
            simp only [Option.some.injEq] at hb'
            subst hb'
            exact a5
theorem turn {N : Nat} (a b : Bx) (s : Nat) (ha : s ≤ a.2.1.length ∧ s ≤ a.2.2.1.length) (hb : s ≤ b.2.1.length ∧ s ≤ b.2.2.1.length) (hs : s ≤ 2147483647) : ∀ (c i n : Nat), i + c = s → c + 1 ≤ n →
    ∃ t, gogeom_Bounds_Overlaps_l0 N n a b (s : Int) (i : Int) = some (t, ()) ∧ gogeom_Bounds_Overlaps_l0 N n b a (s : Int) (i : Int) = some (t, ())
  | 0, i, n, hi, hn => by
    obtain ⟨n, rfl⟩ : ∃ m, n = m + 1 := ⟨n - 1, by omega⟩
    simp only [gogeom_Bounds_Overlaps_l0, gogeom_Bounds_Overlaps_g0, Bool.cond_decide]
    rw [if_neg (by omega), if_neg (by omega)]
    exact ⟨true, rfl, rfl⟩
  | c + 1, i, n, hi, hn => by
    obtain ⟨n, rfl⟩ : ∃ m, n = m + 1 := ⟨n - 1, by omega⟩
    obtain ⟨t, h1, h2⟩ := turn (N := N) a b s ha hb hs c (i + 1) n (by omega) (by omega)
    simp only [gogeom_Bounds_Overlaps_l0, gogeom_Bounds_Overlaps_g0, Bool.cond_decide]
    rw [if_pos (by omega), if_pos (by omega)]
    simp only [nth_nat]
    rw [List.getElem?_eq_getElem (show i < a.2.1.length by omega), List.getElem?_eq_getElem (show i < a.2.2.1.length by omega), List.getElem?_eq_getElem (show i < b.2.1.length by omega), List.getElem?_eq_getElem (show i < b.2.2.1.length by omega)]
    simp only [Option.bind_some]
    rw [wrap_in (n := (i : Int) + 1) (by omega), show (i : Int) + 1 = ((i + 1 : Nat) : Int) by omega, h1, h2, fgt_flt, fgt_flt]
    cases flt b.2.2.1[i] a.2.1[i] <;> cases flt a.2.2.1[i] b.2.1[i]
    · exact ⟨t, rfl, rfl⟩
    all_goals exact ⟨false, rfl, rfl⟩
theorem law (v1 : Int) (v2 v3 : Bx) : laws_FnBoxOverlapsTurn 18446744073709551616 v1 v2 v3 = some true := by
  generalize hN : 18446744073709551616 = N
  have hN0 : 0 < N := by omega
  obtain ⟨l1, m1, x1, ⟨⟩⟩ := v2
  obtain ⟨l2, m2, x2, ⟨⟩⟩ := v3
  simp only [laws_FnBoxOverlapsTurn, laws_FnBoxOverlapsTurn_g, laws_FnBoxOverlapsTurn_j0, laws_FnBoxOverlapsTurn_g0, gate_pos hN0, laws_zzFits1, laws_zzFits1_g, Bool.cond_decide]
  by_cases a1 : (m1.length : Int) > 2147483647
  · rw [if_pos a1]; rfl
  by_cases a2 : (x1.length : Int) > 2147483647
  · rw [if_neg a1, if_pos a2]; rfl
  by_cases a3 : (m2.length : Int) > 2147483647
  · rw [if_neg a1, if_neg a2, if_pos a3]; rfl
  by_cases a4 : (x2.length : Int) > 2147483647
  · rw [if_neg a1, if_neg a2, if_neg a3, if_pos a4]; rfl
  rw [if_neg a1, if_neg a2, if_neg a3, if_neg a4]
  simp only [Option.bind_some, Bool.not_true, cond_false]
  obtain ⟨t, h1, h2⟩ := boxes (N := N) (by omega) [(l1, m1, x1, ()), (l2, m2, x2, ())] (by
    intro b hb
    simp only [List.mem_cons, List.not_mem_nil, or_false] at hb
    rcases hb with rfl | rfl <;> exact ⟨by simp only; omega, by simp only; omega⟩) (by simp) 2 0 N rfl (by omega)
  simp only [laws_bBox, laws_bBox_g]
  rw [show ((0 : Nat) : Int) = 0 from rfl] at h1
  rw [h1]
  cases t with
  | false => rfl
  | true =>
    have e1 := h2 rfl 0 _ (by omega) rfl
    have e2 := h2 rfl 1 _ (by omega) rfl
    simp only at e1 e2
    simp only [Option.bind_some, Bool.not_true, cond_false, stride_spec]
    by_cases b1 : v1 < 1
    · rw [if_pos b1]
    rw [if_neg b1]
    by_cases b2 : strd v1 > imm false (m1.length : Int) (m2.length : Int)
    · rw [if_pos b2]
    rw [if_neg b2]
    simp only [imm, cond_false] at b2
    have b3 : 0 ≤ strd v1 := by unfold strd; repeat' split <;> omega
    obtain ⟨s, hs⟩ : ∃ s : Nat, strd v1 = (s : Int) := ⟨(strd v1).toNat, by omega⟩
    have b4 : s ≤ m1.length ∧ s ≤ m2.length := by
      rw [hs] at b2
      split at b2 <;> omega
    obtain ⟨t, q1, q2⟩ := turn (N := N) (l1, m1, x1, ()) (l2, m2, x2, ()) s ⟨by simp only; omega, by simp only; omega⟩ ⟨by simp only; omega, by simp only; omega⟩ (by omega) s 0 N (by omega) (by omega)
    rw [show ((0 : Nat) : Int) = 0 from rfl] at q1 q2
    simp only [impl_BoxOverlaps, impl_BoxOverlaps_g, impl_box, impl_box_g, impl_floats, impl_floats_g, gogeom_DoorBounds_b, gogeom_DoorBounds_b_g, gogeom_Bounds_Overlaps, gogeom_Bounds_Overlaps_g]
    rw [lim_le (by omega), lim_le (by omega), lim_le (by omega), lim_le (by omega)]
    simp only [Option.bind_some, stride_geom N v1 (by omega), hs, q1, q2, cond_true]
    simp
end Go.Proofs.Ytcppjdjimmnlkab.PvBoxTurn
