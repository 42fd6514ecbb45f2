import Derived.Test.YtcppjdjimmnlkaaRows
import Derived.Test.YtcppjdjimmnlkaaFKCompare
import Derived.Test.YtcppjdjimmnlkaaPv1
import Derived.Test.YtcppjdjimmnlkaaFl2
import Derived.Test.YtcppjdjimmnlkaaAv16
import Derived.WalkKit
import Derived.ProofKit
import Derived.OpenShut
import Derived.ChangeOld
import Derived.SizedLaws
set_option linter.unusedVariables false
namespace Go.Proofs.Ytcppjdjimmnlkaa.fnKCompare
open Go.Av Go.ChangeShapes Go.RowKit
open Go.Proofs.Ytcppjdjimmnlkaa.FKCompare
/-! ### the plain law -/
theorem inner {N : Nat} (hN : 0 < N) (r0 : Int → Option Bool) (d : Int) (m : Nat) (a : List Nat) (v : Int) (hl : a.length ≤ 2147483647) : ∀ (k i n : Nat), i + k = a.length → k + 1 ≤ n →
    ∃ b : Bool, f36_l1 N r0 d m [a] n v a (i : Int) = (bif b then r0 (IntKind.i64.wrap (v + 1)) else some false) ∧ (b = true → ∀ x ∈ a.drop i, fge x (fneg m) = true ∧ fle x m = true) := by
  intro k
  induction k with
  | zero =>
    intro i n hi hn
    obtain ⟨n, rfl⟩ : ∃ m, n = m + 1 := ⟨n - 1, by omega⟩
    simp only [f36_l1, f36_g1, Bool.cond_decide]
    rw [if_neg (by omega), List.drop_eq_nil_of_le (by omega)]
    exact ⟨true, rfl, fun _ x hx => by simp at hx⟩
  | succ k ih =>
    intro i n hi hn
    obtain ⟨n, rfl⟩ : ∃ m, n = m + 1 := ⟨n - 1, by omega⟩
    have hlt : i < a.length := by omega
    have e : ((i : Int) + 1) = ((i + 1 : Nat) : Int) := by omega
    obtain ⟨b, hb, hb2⟩ := ih (i + 1) n (by omega) (by omega)
    simp only [f36_l1, f36_g1, Bool.cond_decide]
    rw [if_pos (by omega), nth_nat, List.getElem?_eq_getElem hlt, wrap_in (by omega), e, hb, List.drop_eq_getElem_cons hlt]
    simp only [Option.bind_some, f36_j2, f36_g2, gate_pos hN]
    cases h1 : fge a[i] (fneg m) with
    | false => exact ⟨false, rfl, fun h => by cases h⟩
    | true =>
      cases h2 : fle a[i] m with
      | false => exact ⟨false, rfl, fun h => by cases h⟩
      | true =>
        have hn : isnan a[i] = false := by
          rw [fle_eq] at h2
          simp only [Bool.and_eq_true, Bool.not_eq_true', Bool.or_eq_false_iff] at h2
          exact h2.1.1
        obtain ⟨y, hy⟩ := fwhole_some (way := .zero) hn
        simp only [f43, f43_g, f48, hy, Option.bind_some, cond_true, Bool.not_true, cond_false]
        cases fne a[i] y with
        | true => exact ⟨false, rfl, fun h => by cases h⟩
        | false =>
          refine ⟨b, rfl, fun hbt x hx => ?_⟩
          rcases List.mem_cons.1 hx with rfl | hx
          · exact ⟨h1, h2⟩
          · exact hb2 hbt x hx
theorem grid {N : Nat} (d : Int) (m : Nat) (a : List Nat) (hl : a.length ≤ 2147483647) (hN : a.length + 2 ≤ N) :
    ∃ b : Bool, f36 N [a] d m = some b ∧ (b = true → (a.length : Int) = d ∧ ∀ x ∈ a, fge x (fneg m) = true ∧ fle x m = true) := by
  obtain ⟨M, rfl⟩ : ∃ m, N = m + 2 := ⟨N - 2, by omega⟩
  have h0 : 0 < M + 2 := by omega
  obtain ⟨b, hb, hb2⟩ := inner h0 (f36_l0 (M + 2) (M + 1) d m [a]) d m a 0 hl a.length 0 (M + 2) (by omega) (by omega)
  unfold f36 f36_g
  have e1 : f36_l0 (M + 2) (M + 2) d m [a] 0 = (bif ((a.length : Int) != d) then some false else f36_l1 (M + 2) (f36_l0 (M + 2) (M + 1) d m [a]) d m [a] (M + 2) 0 a ((0 : Nat) : Int)) := rfl
  have e2 : f36_l0 (M + 2) (M + 1) d m [a] (IntKind.i64.wrap (0 + 1)) = some (decide (d > 0)) := by rw [wrap_in (by omega)]; rfl
  rw [e1, hb, e2]
  cases hd : ((a.length : Int) != d) with
  | true => exact ⟨false, rfl, fun h => by cases h⟩
  | false =>
    have hd' : (a.length : Int) = d := by simpa using hd
    cases b with
    | false => exact ⟨false, rfl, fun h => by cases h⟩
    | true => exact ⟨_, rfl, fun _ => ⟨hd', by simpa using hb2 rfl⟩⟩
theorem law (a b : List Nat) (d : Int) : f8 18446744073709551616 a b d = some true := by
  generalize hN : 18446744073709551616 = N
  have hN0 : 0 < N := by omega
  unfold f8 f8_g f8_j0
  simp only [gate_pos hN0, f8_g0]
  by_cases h1 : ((a.length : Int) : Int) > 2147483647
  · simp [h1]
  by_cases h2 : ((b.length : Int) : Int) > 2147483647
  · simp [h2]
  obtain ⟨p, hp, hp2⟩ := grid (N := N) (b.length : Int) 4697254411347427328 a (by omega) (by omega)
  obtain ⟨q, hq, hq2⟩ := grid (N := N) (b.length : Int) 4697254411347427328 b (by omega) (by omega)
  simp only [h1, h2, decide_false, cond_false, f22, f22_g, hp, hq, Option.bind_some]
  have fl : ∀ x, fge x (fneg 4697254411347427328) = true ∧ fle x 4697254411347427328 = true → fin x = true := fun x h => fin_of_between (by decide) (by decide) h.1 h.2
  cases p with
  | false => simp only [Bool.cond_decide]; (repeat' split) <;> rfl
  | true =>
    cases q with
    | false => simp only [Bool.cond_decide]; (repeat' split) <;> rfl
    | true =>
      obtain ⟨hl, ha⟩ := hp2 rfl
      obtain ⟨_, hb⟩ := hq2 rfl
      by_cases h3 : d < 0
      · simp only [Bool.cond_decide, h3]; (repeat' split) <;> first | rfl | (simp_all; done)
      by_cases h4 : d ≥ (a.length : Int)
      · simp only [Bool.cond_decide, h3, h4]; (repeat' split) <;> first | rfl | (simp_all; done)
      obtain ⟨i, rfl⟩ : ∃ i : Nat, d = (i : Int) := ⟨d.toNat, by omega⟩
      have i1 : i < a.length := by omega
      have i2 : i < b.length := by omega
      obtain ⟨z, hz, hz2⟩ := sub_fin (fl _ (ha _ (List.getElem_mem i1))) (fl _ (hb _ (List.getElem_mem i2)))
      have hfeq : feq z z = true := by rw [feq_eq, hz2]; simp
      simp only [Bool.cond_decide, h3, h4, f23, f23_g, f38, f38_g, nth_nat, List.getElem?_eq_getElem i1, List.getElem?_eq_getElem i2, Option.bind_some, hz, hfeq, cond_true]
      (repeat' split) <;> first | rfl | (simp_all; done)
theorem own : ownKnob Try.prog.godebug = none := by kernel_rfl
set_option maxRecDepth 100000 in
theorem lifted (os : Os) (started : os.Started) (H : Type) (enc : TypeId × Value → H) :
    ReturnsInHanded {} Try.checked os 8 .any (Rows.fnKCompareSpec.pre6 enc Try.prog Try.f8 Rows.fnKCompareRow.domain false) (Rows.fnKCompareSpec.post enc Try.prog Try.f8 false true false false) :=
  row_of (C := Try.checked) (c := f8_con 18446744073709551616) 8 own started (by kernel_rfl) Try.func8
    (ChangeSpec.witness6 (enc := enc) (C := Try.checked) false ⟨#[], #[.slice none 0 0, .slice none 0 0, .int .i64 0], []⟩ 8 (by kernel_rfl) (by kernel_rfl) (by kernel_rfl) (by kernel_rfl))
    rfl (fun ds h => match ds, h with | [_, _, _], _ => rfl) (by kernel_rfl) (by kernel_rfl) rfl (by kernel_rfl) (by kernel_rfl) rfl (f8_s _) (bt := 4) (by kernel_rfl) (by kernel_rfl) (by kernel_rfl)
    (fun x _ => ⟨true, law x.1 x.2.1 x.2.2.1, fun w Fz v h => by simpa [resV, resL, RV, Kd.isAgg, RP, f8_con] using h⟩)
theorem over : Rows.fnKCompareRow.holds Try.pinned (OpenSpec.ofChange Rows.fnKCompareSpec) :=
  OpenClaim.holds_of_wide 8 Try.f8 rfl rfl rfl rfl rfl rfl rfl ⟨rfl, rfl, rfl, rfl, rfl⟩ rfl rfl rfl rfl rfl (by kernel_rfl) Try.func8 (by kernel_rfl)
    (of_decide_eq_true (by kernel_rfl)) (by unfold Func.isWrapper; first | (rw [if_pos (by decide +kernel)]; kernel_rfl) | (rw [if_neg (by decide +kernel)]; exact ⟨rfl, rfl⟩))
    (fun os started H enc _ => lifted os started H enc)
theorem proved : Rows.FnKCompareSaid := over
#print axioms proved
end Go.Proofs.Ytcppjdjimmnlkaa.fnKCompare
namespace Go.Proofs.Ytcppjdjimmnlkaa
/-- The row, under a short name, for the claim. -/
theorem fnKCompare_holds : Rows.FnKCompareSaid := fnKCompare.proved
end Go.Proofs.Ytcppjdjimmnlkaa
