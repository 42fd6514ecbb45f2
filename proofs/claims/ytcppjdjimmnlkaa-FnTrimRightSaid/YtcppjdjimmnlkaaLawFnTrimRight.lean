import Derived.Test.YtcppjdjimmnlkaaRows
import Derived.Test.YtcppjdjimmnlkaaFTrimRight
import Derived.Test.YtcppjdjimmnlkaaPv1
import Derived.Test.YtcppjdjimmnlkaaAv16
import Derived.WalkKit
import Derived.ProofKit
import Derived.OpenShut
import Derived.ChangeOld
import Derived.SizedLaws
set_option linter.unusedVariables false
set_option linter.unusedSectionVars false
namespace Go.Proofs.Ytcppjdjimmnlkaa.fnTrimRight
open Go.Av Go.ChangeShapes Go.RowKit
open Go.Proofs.Ytcppjdjimmnlkaa.FTrimRight
/-! ### the plain law -/
/-- Among the last m of the set is the letter at the end. -/
def hit (a0 a1 : ByteArray) (j : Nat) : Nat → Bool
  | 0 => false
  | m + 1 => (sbyte a1 (a1.size - (m + 1)) == sbyte a0 (j - 1)) || hit a0 a1 j m
/-- How much is left. -/
def T (a0 a1 : ByteArray) : Nat → Nat
  | 0 => 0
  | j + 1 => bif hit a0 a1 (j + 1) a1.size then T a0 a1 j else j + 1
section
variable {N : Nat} {a0 a1 : ByteArray} (hN : 0 < N) (h0 : a0.size ≤ 2147483647) (h1 : a1.size ≤ 2147483647)
include hN h0 h1
theorem cut_at (j : Nat) (hj : j ≤ a0.size) : f39_j3 N a0 (j : Int) = some (a0.extract 0 j) := by
  unfold f39_j3 f39_g3
  rw [gate_pos hN, chk2_int (by omega)]
  simp
theorem lA (r0 : Int → Option ByteArray) (j : Nat) (hj : 0 < j) (hj2 : j ≤ a0.size) : ∀ (m k : Nat) (x : Bool), m ≤ a1.size → m + 1 ≤ k →
    f39_l1 N r0 a0 a1 k (j : Int) x ((a1.size - m : Nat) : Int) = bif (x || hit a0 a1 j m) then r0 ((j - 1 : Nat) : Int) else f39_j3 N a0 (j : Int) := by
  have ew : IntKind.i64.wrap ((j : Int) - 1) = ((j - 1 : Nat) : Int) := by rw [wrap_in (by omega)]; omega
  intro m
  induction m with
  | zero =>
    intro k x _ hk
    obtain ⟨k, rfl⟩ : ∃ q, k = q + 1 := ⟨k - 1, by omega⟩
    simp only [f39_l1, f39_g1, Bool.cond_decide]
    rw [if_neg (by omega), ew]
    cases x <;> simp [hit]
  | succ m ih =>
    intro k x hm hk
    obtain ⟨k, rfl⟩ : ∃ q, k = q + 1 := ⟨k - 1, by omega⟩
    have e2 : IntKind.i64.wrap (((a1.size - (m + 1) : Nat) : Int) + 1) = ((a1.size - m : Nat) : Int) := by rw [wrap_in (by omega)]; omega
    simp only [f39_l1, f39_g1, Bool.cond_decide, f39_j2, f39_g2, gate_pos hN]
    rw [if_pos (by omega), ew, chk_nat (by omega), chk_nat (by omega), e2, ih k true (by omega) (by omega), ih k x (by omega) (by omega)]
    simp only [Option.bind_some, hit]
    cases sbyte a1 (a1.size - (m + 1)) == sbyte a0 (j - 1) <;> simp
theorem lB (hN1 : a1.size + 1 ≤ N) : ∀ (j : Nat), j ≤ a0.size → ∀ k, j + 1 ≤ k → f39_l0 N k a0 a1 (j : Int) = some (a0.extract 0 (T a0 a1 j)) := by
  intro j
  induction j with
  | zero =>
    intro hj k hk
    obtain ⟨k, rfl⟩ : ∃ q, k = q + 1 := ⟨k - 1, by omega⟩
    simp only [f39_l0, f39_g0, Bool.cond_decide]
    rw [if_neg (by omega), cut_at hN h0 h1 0 hj]
    rfl
  | succ j ih =>
    intro hj k hk
    obtain ⟨k, rfl⟩ : ∃ q, k = q + 1 := ⟨k - 1, by omega⟩
    have hA := lA hN h0 h1 (f39_l0 N k a0 a1) (j + 1) (by omega) hj a1.size N false (Nat.le_refl _) (by omega)
    rw [Nat.sub_self] at hA
    simp only [f39_l0, f39_g0, Bool.cond_decide]
    rw [if_pos (by omega)]
    refine Eq.trans hA ?_
    simp only [Bool.false_or, T]
    cases hit a0 a1 (j + 1) a1.size with
    | true => exact ih (by omega) k (by omega)
    | false => exact cut_at hN h0 h1 (j + 1) hj
theorem fB (hN1 : a1.size + 1 ≤ N) (hN2 : a0.size + 1 ≤ N) : f13 N a0 a1 = some (a0.extract 0 (T a0 a1 a0.size)) := by
  simp only [f13, f13_g, f26, f26_g, f39, f39_g]
  rw [lB hN h0 h1 hN1 a0.size (Nat.le_refl _) N hN2]
  rfl
end
theorem ten {N : Nat} (hN : 7 ≤ N) : f13 N (⟨#[49, 48]⟩ : ByteArray) (⟨#[48]⟩ : ByteArray) = some ⟨#[49]⟩ := by
  rw [fB (by omega) (by decide) (by decide) (by show 1 + 1 ≤ N; omega) (by show 2 + 1 ≤ N; omega)]
  have : T ⟨#[49, 48]⟩ ⟨#[48]⟩ (ByteArray.mk #[49, 48]).size = 1 := by decide +kernel
  rw [this]
  rfl
section
variable {N : Nat} {a0 a1 : ByteArray} (hN : 7 ≤ N) (h0 : a0.size ≤ 2147483647) (h1 : a1.size ≤ 2147483647) (hN1 : a1.size + 1 ≤ N) (hN2 : a0.size + 1 ≤ N)
include hN h0 h1 hN1 hN2
theorem lE (j : Nat) (hj : j ≤ a0.size) (hT : T a0 a1 a0.size = j) : f5_j4 N a0 a1 (j : Int) = some true := by
  unfold f5_j4 f5_g4
  rw [gate_pos (by omega), fB (by omega) h0 h1 hN1 hN2, hT, chk2_int (by omega), ten hN]
  simp
theorem lA' (r0 : Int → Option Bool) (j : Nat) (hj : 0 < j) (hj2 : j ≤ a0.size) : ∀ (m k : Nat) (x : Bool), m ≤ a1.size → m + 1 ≤ k →
    f5_l2 N r0 a0 a1 k (j : Int) x ((a1.size - m : Nat) : Int) = bif (x || hit a0 a1 j m) then r0 ((j - 1 : Nat) : Int) else f5_j4 N a0 a1 (j : Int) := by
  have hp : 0 < N := by omega
  have ew : IntKind.i64.wrap ((j : Int) - 1) = ((j - 1 : Nat) : Int) := by rw [wrap_in (by omega)]; omega
  intro m
  induction m with
  | zero =>
    intro k x _ hk
    obtain ⟨k, rfl⟩ : ∃ q, k = q + 1 := ⟨k - 1, by omega⟩
    simp only [f5_l2, f5_g2, Bool.cond_decide]
    rw [if_neg (by omega), ew]
    cases x <;> simp [hit]
  | succ m ih =>
    intro k x hm hk
    obtain ⟨k, rfl⟩ : ∃ q, k = q + 1 := ⟨k - 1, by omega⟩
    have e2 : IntKind.i64.wrap (((a1.size - (m + 1) : Nat) : Int) + 1) = ((a1.size - m : Nat) : Int) := by rw [wrap_in (by omega)]; omega
    simp only [f5_l2, f5_g2, Bool.cond_decide, f5_j3, f5_g3, gate_pos hp]
    rw [if_pos (by omega), ew, chk_nat (by omega), chk_nat (by omega), e2, ih k true (by omega) (by omega)]
    simp only [Option.bind_some, hit]
    rw [ih k _ (by omega) (by omega)]
    cases x <;> simp
theorem lB' : ∀ (j : Nat), j ≤ a0.size → T a0 a1 a0.size = T a0 a1 j → ∀ k, j + 1 ≤ k → f5_l1 N k a0 a1 (j : Int) = some true := by
  intro j
  induction j with
  | zero =>
    intro hj hT k hk
    obtain ⟨k, rfl⟩ : ∃ q, k = q + 1 := ⟨k - 1, by omega⟩
    simp only [f5_l1, f5_g1, Bool.cond_decide]
    rw [if_neg (by omega)]
    exact lE hN h0 h1 hN1 hN2 0 hj hT
  | succ j ih =>
    intro hj hT k hk
    obtain ⟨k, rfl⟩ : ∃ q, k = q + 1 := ⟨k - 1, by omega⟩
    have hA := lA' hN h0 h1 hN1 hN2 (f5_l1 N k a0 a1) (j + 1) (by omega) hj a1.size N false (Nat.le_refl _) (by omega)
    rw [Nat.sub_self] at hA
    simp only [f5_l1, f5_g1, Bool.cond_decide]
    rw [if_pos (by omega)]
    refine Eq.trans hA ?_
    simp only [Bool.false_or]
    simp only [T] at hT
    cases hh : hit a0 a1 (j + 1) a1.size with
    | true => rw [hh] at hT; exact ih (by omega) hT k (by omega)
    | false => rw [hh] at hT; exact lE hN h0 h1 hN1 hN2 (j + 1) hj hT
theorem lC : ∀ (m : Nat), m ≤ a0.size + a1.size → ∀ k, m + 1 ≤ k → f5_l0 N k a0 a1 ((a0.size + a1.size - m : Nat) : Int) = some true := by
  intro m
  induction m with
  | zero =>
    intro _ k hk
    obtain ⟨k, rfl⟩ : ∃ q, k = q + 1 := ⟨k - 1, by omega⟩
    simp only [f5_l0, f5_g0, Bool.cond_decide]
    rw [if_neg (by rw [wrap_in (by omega)]; omega)]
    exact lB' hN h0 h1 hN1 hN2 a0.size (Nat.le_refl _) rfl N hN2
  | succ m ih =>
    intro hm k hk
    obtain ⟨k, rfl⟩ : ∃ q, k = q + 1 := ⟨k - 1, by omega⟩
    have e2 : IntKind.i64.wrap (((a0.size + a1.size - (m + 1) : Nat) : Int) + 1) = ((a0.size + a1.size - m : Nat) : Int) := by rw [wrap_in (by omega)]; omega
    simp only [f5_l0, f5_g0, Bool.cond_decide]
    have hs : sadd a0 a1 = some (a0 ++ a1) := by unfold sadd; rw [if_pos (by omega)]
    rw [if_pos (by rw [wrap_in (by omega)]; omega), hs, e2, ih (by omega) k (by omega)]
    simp only [Option.bind_some]
    rw [chk_nat (by rw [ByteArray.size_append]; omega)]
    simp only [Option.bind_some]
    split <;> rfl
end
theorem law (a b : ByteArray) : f5 18446744073709551616 a b = some true := by
  generalize hN : 18446744073709551616 = N
  unfold f5 f5_g
  by_cases h1 : (a.size : Int) > 2147483647
  · simp [h1]
  by_cases h2 : (b.size : Int) > 2147483647
  · simp [h2]
  have := lC (N := N) (a0 := a) (a1 := b) (by omega) (by omega) (by omega) (by omega) (by omega) (a.size + b.size) (Nat.le_refl _) N (by omega)
  rw [Nat.sub_self] at this
  simp only [Bool.cond_decide]
  (repeat' split) <;> first | rfl | exact this
theorem own : ownKnob Try.prog.godebug = none := by kernel_rfl
set_option maxRecDepth 100000 in
theorem lifted (os : Os) (started : os.Started) (H : Type) (enc : TypeId × Value → H) :
    ReturnsInHanded {} Try.checked os 5 .any (Rows.fnTrimRightSpec.pre6 enc Try.prog Try.f5 Rows.fnTrimRightRow.domain false) (Rows.fnTrimRightSpec.post enc Try.prog Try.f5 false true false false) :=
  row_of (C := Try.checked) (c := f5_con 18446744073709551616) 8 own started (by kernel_rfl) Try.func5
    (ChangeSpec.witness6 (enc := enc) (C := Try.checked) false ⟨#[], #[.string ⟨#[]⟩, .string ⟨#[]⟩], []⟩ 8 (by kernel_rfl) (by kernel_rfl) (by kernel_rfl) (by kernel_rfl))
    rfl (fun ds h => match ds, h with | [_, _], _ => rfl) (by kernel_rfl) (by kernel_rfl) rfl (by kernel_rfl) (by kernel_rfl) rfl (f5_s _) (bt := 4) (by kernel_rfl) (by kernel_rfl) (by kernel_rfl)
    (fun x _ => ⟨true, law x.1 x.2.1, fun w Fz v h => by simpa [resV, resL, RV, Kd.isAgg, RP, f5_con] using h⟩)
theorem over : Rows.fnTrimRightRow.holds Try.pinned (OpenSpec.ofChange Rows.fnTrimRightSpec) :=
  OpenClaim.holds_of_wide 5 Try.f5 rfl rfl rfl rfl rfl rfl rfl ⟨rfl, rfl, rfl, rfl, rfl⟩ rfl rfl rfl rfl rfl (by kernel_rfl) Try.func5 (by kernel_rfl)
    (of_decide_eq_true (by kernel_rfl)) (by unfold Func.isWrapper; first | (rw [if_pos (by decide +kernel)]; kernel_rfl) | (rw [if_neg (by decide +kernel)]; exact ⟨rfl, rfl⟩))
    (fun os started H enc _ => lifted os started H enc)
theorem proved : Rows.FnTrimRightSaid := over
#print axioms proved
end Go.Proofs.Ytcppjdjimmnlkaa.fnTrimRight
namespace Go.Proofs.Ytcppjdjimmnlkaa
/-- The row, under a short name, for the claim. -/
theorem fnTrimRight_holds : Rows.FnTrimRightSaid := fnTrimRight.proved
end Go.Proofs.Ytcppjdjimmnlkaa
