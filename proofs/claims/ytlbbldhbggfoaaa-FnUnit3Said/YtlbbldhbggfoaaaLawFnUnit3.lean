/- The unit vector has nearly the length 1, and times the vector's length it is nearly the vector (whole numbers within bounds). -/
import Derived.Test.YtlbbldhbggfoaaaRows
import Derived.Test.YtlbbldhbggfoaaaU34
import Derived.Test.YtlbbldhbggfoaaaPvUnit
import Derived.Test.YtlbbldhbggfoaaaAv16
import Derived.WalkKit
import Derived.ProofKit
import Derived.OpenShut
import Derived.ChangeOld
import Derived.SizedLaws
set_option linter.unusedVariables false
set_option linter.unusedSectionVars false
namespace Go.Proofs.Ytlbbldhbggfoaaa.fnUnit3
open Go.Av Go.ChangeShapes Go.RowKit
open Go.Proofs.Ytlbbldhbggfoaaa.U34
theorem own : ownKnob Try.prog.godebug = none := by kernel_rfl
set_option maxRecDepth 100000 in
theorem lifted (os : Os) (started : os.Started) (H : Type) (enc : TypeId × Value → H) :
    ReturnsInHanded {} Try.checked os 4 .any (Rows.fnUnit3Spec.pre6 enc Try.prog Try.f4 Rows.fnUnit3Row.domain false) (Rows.fnUnit3Spec.post enc Try.prog Try.f4 false true false false) :=
  row_of (C := Try.checked) (c := laws_FnUnit3_con 18446744073709551616) 12 own started (by kernel_rfl) Try.func4
    (ChangeSpec.witness6 (enc := enc) (C := Try.checked) false ⟨#[], #[.agg #[.float .f64 0, .float .f64 0, .float .f64 0]], []⟩ 12 (by kernel_rfl) (by kernel_rfl) (by kernel_rfl) (by kernel_rfl))
    rfl (fun ds h => match ds, h with | [_], _ => rfl) (by kernel_rfl) (by kernel_rfl) rfl (by kernel_rfl) (by kernel_rfl) rfl (laws_FnUnit3_s _) (bt := 4) (by kernel_rfl) (by kernel_rfl) (by kernel_rfl)
    (fun x hx => ⟨true, PvUnit.law3 x.1, fun w Fz v h => by simpa [resV, resL, RV, Kd.isAgg, RP, laws_FnUnit3_con] using h⟩)
theorem over : Rows.fnUnit3Row.holds Try.pinned (OpenSpec.ofChange Rows.fnUnit3Spec) :=
  OpenClaim.holds_of_wide 4 Try.f4 rfl rfl rfl rfl rfl rfl rfl ⟨rfl, rfl, rfl, rfl, rfl⟩ rfl rfl rfl rfl rfl (by kernel_rfl) Try.func4 (by kernel_rfl)
    (of_decide_eq_true (by kernel_rfl)) (by unfold Func.isWrapper; first | (rw [if_pos (by decide +kernel)]; kernel_rfl) | (rw [if_neg (by decide +kernel)]; exact ⟨rfl, rfl⟩))
    (fun os started H enc _ => lifted os started H enc)
theorem proved : Rows.FnUnit3Said := over
#print axioms proved
end Go.Proofs.Ytlbbldhbggfoaaa.fnUnit3
namespace Go.Proofs.Ytlbbldhbggfoaaa
/-- The row, under a short name, for the claim. -/
theorem fnUnit3_holds : Rows.FnUnit3Said := fnUnit3.proved
end Go.Proofs.Ytlbbldhbggfoaaa
