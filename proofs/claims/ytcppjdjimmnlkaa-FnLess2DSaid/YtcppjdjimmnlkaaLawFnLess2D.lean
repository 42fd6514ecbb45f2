import Derived.Test.YtcppjdjimmnlkaaRows
import Derived.Test.YtcppjdjimmnlkaaFLess2D
import Derived.Test.YtcppjdjimmnlkaaPv1
import Derived.Test.YtcppjdjimmnlkaaAv16
import Derived.WalkKit
import Derived.ProofKit
import Derived.OpenShut
import Derived.ChangeOld
import Derived.SizedLaws
set_option linter.unusedVariables false
namespace Go.Proofs.Ytcppjdjimmnlkaa.fnLess2D
open Go.Av Go.ChangeShapes Go.RowKit
open Go.Proofs.Ytcppjdjimmnlkaa.FLess2D
/-! ### the plain law -/
theorem each {N d : Nat} (hN : 0 < N) (a : List Nat) (hl : a.length ≤ 9223372036854775806) : ∀ (k i n : Nat), i + k = a.length → k + 1 ≤ n →
    f18_l0 N (f18 N d) n (Geo.mk 0 0 0 a [] [] []) (i : Int) = some ((a.drop i).all fun x => feq x x) := by
  intro k
  induction k with
  | zero =>
    intro i n hi hn
    obtain ⟨n, rfl⟩ : ∃ m, n = m + 1 := ⟨n - 1, by omega⟩
    obtain ⟨M, rfl⟩ : ∃ m, N = m + 1 := ⟨N - 1, by omega⟩
    simp only [f18_l0, f18_g0, f18_l1, f18_g1, Bool.cond_decide]
    rw [if_neg (by show ¬ ((i : Int) < (a.length : Int)); omega), if_neg (by show ¬ ((0 : Int) < (([] : List Geo).length : Int)); simp), List.drop_eq_nil_of_le (by omega)]
    rfl
  | succ k ih =>
    intro i n hi hn
    obtain ⟨n, rfl⟩ : ∃ m, n = m + 1 := ⟨n - 1, by omega⟩
    have hlt : i < a.length := by omega
    have e : ((i : Int) + 1) = ((i + 1 : Nat) : Int) := by omega
    have hf : (Geo.mk 0 0 0 a [] [] []).flat = a := rfl
    simp only [f18_l0, f18_g0, Bool.cond_decide]
    rw [if_pos (by show ((i : Int) < (a.length : Int)); omega), hf, nth_nat, List.getElem?_eq_getElem hlt, wrap_in (by omega), e, ih (i + 1) n (by omega) (by omega), List.drop_eq_getElem_cons hlt]
    simp only [Option.bind_some, List.all_cons, f19, f19_g]
    cases feq a[i] a[i] <;> rfl
theorem each_all {N : Nat} (a : List Nat) (hl : a.length ≤ 9223372036854775806) (hN : a.length + 1 ≤ N) : f18 N N (Geo.mk 0 0 0 a [] [] []) = some (a.all fun x => feq x x) := by
  obtain ⟨d, e⟩ : ∃ m, N = m + 1 := ⟨N - 1, by omega⟩
  rw [show f18 N N = f18 N (d + 1) by rw [← e]]
  simp only [f18, f18_g]
  have := each (N := N) (d := d) (by omega) a hl a.length 0 N (by omega) hN
  simpa using this
theorem law (a b : List Nat) : f7 18446744073709551616 a b = some true := by
  generalize hN : 18446744073709551616 = N
  have hN0 : 0 < N := by omega
  unfold f7 f7_g f7_j0
  simp only [gate_pos hN0, f7_g0]
  by_cases h1 : ((a.length : Int) : Int) > 2147483647
  · simp [h1]
  by_cases h2 : ((b.length : Int) : Int) > 2147483647
  · simp [h2]
  rw [each_all a (by omega) (by omega), each_all b (by omega) (by omega)]
  simp only [h1, h2, decide_false, cond_false, Option.bind_some]
  by_cases h3 : (a.length : Int) < 2
  · simp [h3]
  by_cases h4 : (b.length : Int) < 2
  · simp [h4]
  simp only [h3, h4, decide_false, cond_false]
  match a, b, h3, h4 with
  | a0 :: a1 :: a, b0 :: b1 :: b, _, _ =>
    cases ha : ((a0 :: a1 :: a).all fun x => feq x x) with
    | false => simp
    | true =>
      cases hb : ((b0 :: b1 :: b).all fun x => feq x x) with
      | false => simp
      | true =>
        simp only [List.all_cons, Bool.and_eq_true, feq_eq, Bool.or_self, decide_true, Bool.and_true, Bool.not_eq_true'] at ha hb
        obtain ⟨na0, na1, _⟩ := ha
        obtain ⟨nb0, nb1, _⟩ := hb
        have e0 : ∀ (x y : Nat) (l : List Nat), nth (x :: y :: l) 0 = some x := fun x y l => rfl
        have e1 : ∀ (x y : Nat) (l : List Nat), nth (x :: y :: l) 1 = some y := fun x y l => rfl
        simp only [f20, f20_g, f35, f35_g, f21, f21_g, e0, e1, Option.bind_some, flt_eq, fgt_eq, feq_eq, na0, na1, nb0, nb1, Bool.or_self, Bool.not_false, Bool.true_and]
        generalize ikey a0 = p
        generalize ikey b0 = q
        generalize ikey a1 = r
        generalize ikey b1 = s
        have z1 : ((0 : Int) == 1) = false := rfl
        have z2 : ((0 : Int) == 2) = false := rfl
        have z3 : ((0 : Int) == 3) = false := rfl
        simp only [z1, z2, z3, cond_false, Bool.not_true]
        rcases Int.lt_trichotomy p q with h | h | h
        · simp [h]
        · subst h
          by_cases h' : r < s <;> simp [h']
        · have h5 : ¬ p < q := by omega
          have h6 : ¬ p = q := by omega
          simp [h, h5, h6]
  | [], _, h, _ => simp at h
  | [_], _, h, _ => simp at h
  | _ :: _ :: _, [], _, h => simp at h
  | _ :: _ :: _, [_], _, h => simp at h
theorem own : ownKnob Try.prog.godebug = none := by kernel_rfl
set_option maxRecDepth 100000 in
theorem lifted (os : Os) (started : os.Started) (H : Type) (enc : TypeId × Value → H) :
    ReturnsInHanded {} Try.checked os 7 .any (Rows.fnLess2DSpec.pre6 enc Try.prog Try.f7 Rows.fnLess2DRow.domain false) (Rows.fnLess2DSpec.post enc Try.prog Try.f7 false true false false) :=
  row_of (C := Try.checked) (c := f7_con 18446744073709551616) 8 own started (by kernel_rfl) Try.func7
    (ChangeSpec.witness6 (enc := enc) (C := Try.checked) false ⟨#[], #[.slice none 0 0, .slice none 0 0], []⟩ 8 (by kernel_rfl) (by kernel_rfl) (by kernel_rfl) (by kernel_rfl))
    rfl (fun ds h => match ds, h with | [_, _], _ => rfl) (by kernel_rfl) (by kernel_rfl) rfl (by kernel_rfl) (by kernel_rfl) rfl (f7_s _) (bt := 4) (by kernel_rfl) (by kernel_rfl) (by kernel_rfl)
    (fun x _ => ⟨true, law x.1 x.2.1, fun w Fz v h => by simpa [resV, resL, RV, Kd.isAgg, RP, f7_con] using h⟩)
theorem over : Rows.fnLess2DRow.holds Try.pinned (OpenSpec.ofChange Rows.fnLess2DSpec) :=
  OpenClaim.holds_of_wide 7 Try.f7 rfl rfl rfl rfl rfl rfl rfl ⟨rfl, rfl, rfl, rfl, rfl⟩ rfl rfl rfl rfl rfl (by kernel_rfl) Try.func7 (by kernel_rfl)
    (of_decide_eq_true (by kernel_rfl)) (by unfold Func.isWrapper; first | (rw [if_pos (by decide +kernel)]; kernel_rfl) | (rw [if_neg (by decide +kernel)]; exact ⟨rfl, rfl⟩))
    (fun os started H enc _ => lifted os started H enc)
theorem proved : Rows.FnLess2DSaid := over
#print axioms proved
end Go.Proofs.Ytcppjdjimmnlkaa.fnLess2D
namespace Go.Proofs.Ytcppjdjimmnlkaa
/-- The row, under a short name, for the claim. -/
theorem fnLess2D_holds : Rows.FnLess2DSaid := fnLess2D.proved
end Go.Proofs.Ytcppjdjimmnlkaa
