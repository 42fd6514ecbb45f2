/- The distance of two places in space is near the root of the sum of the squares of their differences, and the same whichever comes first. -/
import Derived.Test.YtlbbldhbggfoaaaRows
import Derived.Test.YtlbbldhbggfoaaaU6
import Derived.Test.YtlbbldhbggfoaaaPvSpaceDist
import Derived.Test.YtlbbldhbggfoaaaAv16
import Derived.WalkKit
import Derived.ProofKit
import Derived.OpenShut
import Derived.ChangeOld
import Derived.SizedLaws
set_option linter.unusedVariables false
set_option linter.unusedSectionVars false
namespace Go.Proofs.Ytlbbldhbggfoaaa.fnSpaceDistance
open Go.Av Go.ChangeShapes Go.RowKit
open Go.Proofs.Ytlbbldhbggfoaaa.U6
theorem own : ownKnob Try.prog.godebug = none := by kernel_rfl
set_option maxRecDepth 100000 in
theorem lifted (os : Os) (started : os.Started) (H : Type) (enc : TypeId × Value → H) :
    ReturnsInHanded {} Try.checked os 6 .any (Rows.fnSpaceDistanceSpec.pre6 enc Try.prog Try.f6 Rows.fnSpaceDistanceRow.domain false) (Rows.fnSpaceDistanceSpec.post enc Try.prog Try.f6 false true false false) :=
  row_of (C := Try.checked) (c := laws_FnSpaceDistance_con 18446744073709551616) 12 own started (by kernel_rfl) Try.func6
    (ChangeSpec.witness6 (enc := enc) (C := Try.checked) false ⟨#[], #[.agg #[.float .f64 0, .float .f64 0, .float .f64 0], .agg #[.float .f64 0, .float .f64 0, .float .f64 0]], []⟩ 12 (by kernel_rfl) (by kernel_rfl) (by kernel_rfl) (by kernel_rfl))
    rfl (fun ds h => match ds, h with | [_, _], _ => rfl) (by kernel_rfl) (by kernel_rfl) rfl (by kernel_rfl) (by kernel_rfl) rfl (laws_FnSpaceDistance_s _) (bt := 4) (by kernel_rfl) (by kernel_rfl) (by kernel_rfl)
    (fun x hx => ⟨true, PvSpaceDist.law (by decide) (by decide) x.1 x.2.1 ⟨hx.1.1, hx.1.2.1, hx.1.2.2.1⟩ ⟨hx.2.1.1, hx.2.1.2.1, hx.2.1.2.2.1⟩, fun w Fz v h => by simpa [resV, resL, RV, Kd.isAgg, RP, laws_FnSpaceDistance_con] using h⟩)
theorem over : Rows.fnSpaceDistanceRow.holds Try.pinned (OpenSpec.ofChange Rows.fnSpaceDistanceSpec) :=
  OpenClaim.holds_of_wide 6 Try.f6 rfl rfl rfl rfl rfl rfl rfl ⟨rfl, rfl, rfl, rfl, rfl⟩ rfl rfl rfl rfl rfl (by kernel_rfl) Try.func6 (by kernel_rfl)
    (of_decide_eq_true (by kernel_rfl)) (by unfold Func.isWrapper; first | (rw [if_pos (by decide +kernel)]; kernel_rfl) | (rw [if_neg (by decide +kernel)]; exact ⟨rfl, rfl⟩))
    (fun os started H enc _ => lifted os started H enc)
theorem proved : Rows.FnSpaceDistanceSaid := over
#print axioms proved
end Go.Proofs.Ytlbbldhbggfoaaa.fnSpaceDistance
namespace Go.Proofs.Ytlbbldhbggfoaaa
/-- The row, under a short name, for the claim. -/
theorem fnSpaceDistance_holds : Rows.FnSpaceDistanceSaid := fnSpaceDistance.proved
end Go.Proofs.Ytlbbldhbggfoaaa
