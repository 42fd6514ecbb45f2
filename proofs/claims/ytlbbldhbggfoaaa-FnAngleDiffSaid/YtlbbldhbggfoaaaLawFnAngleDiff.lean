/- How far two angles from -pi to pi are apart is from 0 to pi, and is what one of them has to be turned to become the other one. -/
import Derived.Test.YtlbbldhbggfoaaaRows
import Derived.Test.YtlbbldhbggfoaaaU9
import Derived.Test.YtlbbldhbggfoaaaPvAngle
import Derived.Test.YtlbbldhbggfoaaaAv16
import Derived.WalkKit
import Derived.ProofKit
import Derived.OpenShut
import Derived.ChangeOld
import Derived.SizedLaws
set_option linter.unusedVariables false
set_option linter.unusedSectionVars false
namespace Go.Proofs.Ytlbbldhbggfoaaa.fnAngleDiff
open Go.Av Go.ChangeShapes Go.RowKit
open Go.Proofs.Ytlbbldhbggfoaaa.U9
theorem own : ownKnob Try.prog.godebug = none := by kernel_rfl
set_option maxRecDepth 100000 in
theorem lifted (os : Os) (started : os.Started) (H : Type) (enc : TypeId × Value → H) :
    ReturnsInHanded {} Try.checked os 9 .any (Rows.fnAngleDiffSpec.pre6 enc Try.prog Try.f9 Rows.fnAngleDiffRow.domain false) (Rows.fnAngleDiffSpec.post enc Try.prog Try.f9 false true false false) :=
  row_of (C := Try.checked) (c := laws_FnAngleDiff_con 18446744073709551616) 12 own started (by kernel_rfl) Try.func9
    (ChangeSpec.witness6 (enc := enc) (C := Try.checked) false ⟨#[], #[.float .f64 0, .float .f64 0], []⟩ 12 (by kernel_rfl) (by kernel_rfl) (by kernel_rfl) (by kernel_rfl))
    rfl (fun ds h => match ds, h with | [_, _], _ => rfl) (by kernel_rfl) (by kernel_rfl) rfl (by kernel_rfl) (by kernel_rfl) rfl (laws_FnAngleDiff_s _) (bt := 4) (by kernel_rfl) (by kernel_rfl) (by kernel_rfl)
    (fun x hx => ⟨true, PvAngle.law (by decide) x.1 x.2.1, fun w Fz v h => by simpa [resV, resL, RV, Kd.isAgg, RP, laws_FnAngleDiff_con] using h⟩)
theorem over : Rows.fnAngleDiffRow.holds Try.pinned (OpenSpec.ofChange Rows.fnAngleDiffSpec) :=
  OpenClaim.holds_of_wide 9 Try.f9 rfl rfl rfl rfl rfl rfl rfl ⟨rfl, rfl, rfl, rfl, rfl⟩ rfl rfl rfl rfl rfl (by kernel_rfl) Try.func9 (by kernel_rfl)
    (of_decide_eq_true (by kernel_rfl)) (by unfold Func.isWrapper; first | (rw [if_pos (by decide +kernel)]; kernel_rfl) | (rw [if_neg (by decide +kernel)]; exact ⟨rfl, rfl⟩))
    (fun os started H enc _ => lifted os started H enc)
theorem proved : Rows.FnAngleDiffSaid := over
#print axioms proved
end Go.Proofs.Ytlbbldhbggfoaaa.fnAngleDiff
namespace Go.Proofs.Ytlbbldhbggfoaaa
/-- The row, under a short name, for the claim. -/
theorem fnAngleDiff_holds : Rows.FnAngleDiffSaid := fnAngleDiff.proved
end Go.Proofs.Ytlbbldhbggfoaaa
