/- A triangle of space is degenerate just if the place opposite its longest side is nearer than the tolerance to this side's line (whole numbers within bounds). -/
import Derived.Test.YtlbbldhbggfoaaaRows
import Derived.Test.YtlbbldhbggfoaaaD2
import Derived.Test.YtlbbldhbggfoaaaPvDegen3
import Derived.Test.YtlbbldhbggfoaaaAv16
import Derived.WalkKit
import Derived.ProofKit
import Derived.OpenShut
import Derived.ChangeOld
import Derived.SizedLaws
set_option linter.unusedVariables false
namespace Go.Proofs.Ytlbbldhbggfoaaa.fnDegenerate3
open Go.Av Go.ChangeShapes Go.RowKit
open Go.Proofs.Ytlbbldhbggfoaaa.D2
theorem own : ownKnob Try.prog.godebug = none := by kernel_rfl
set_option maxRecDepth 100000 in
theorem lifted (os : Os) (started : os.Started) (H : Type) (enc : TypeId × Value → H) :
    ReturnsInHanded {} Try.checked os 7 .any (Rows.fnDegenerate3Spec.pre6 enc Try.prog Try.f7 Rows.fnDegenerate3Row.domain false) (Rows.fnDegenerate3Spec.post enc Try.prog Try.f7 false true false false) :=
  row_of (C := Try.checked) (c := laws_FnDegenerate3_con 18446744073709551616) 12 own started (by kernel_rfl) Try.func7
    (ChangeSpec.witness6 (enc := enc) (C := Try.checked) false ⟨#[], #[.agg #[.float .f64 0, .float .f64 0, .float .f64 0], .agg #[.float .f64 0, .float .f64 0, .float .f64 0], .agg #[.float .f64 0, .float .f64 0, .float .f64 0], .float .f64 0], []⟩ 12 (by kernel_rfl) (by kernel_rfl) (by kernel_rfl) (by kernel_rfl))
    rfl (fun ds h => match ds, h with | [_, _, _, _], _ => rfl) (by kernel_rfl) (by kernel_rfl) rfl (by kernel_rfl) (by kernel_rfl) rfl (laws_FnDegenerate3_s _) (bt := 4) (by kernel_rfl) (by kernel_rfl) (by kernel_rfl)
    (fun x hx => ⟨true, PvDegen3.law x.1 x.2.1 x.2.2.1 x.2.2.2.1, fun w Fz v h => by simpa [resV, resL, RV, Kd.isAgg, RP, laws_FnDegenerate3_con] using h⟩)
theorem over : Rows.fnDegenerate3Row.holds Try.pinned (OpenSpec.ofChange Rows.fnDegenerate3Spec) :=
  OpenClaim.holds_of_wide 7 Try.f7 rfl rfl rfl rfl rfl rfl rfl ⟨rfl, rfl, rfl, rfl, rfl⟩ rfl rfl rfl rfl rfl (by kernel_rfl) Try.func7 (by kernel_rfl)
    (of_decide_eq_true (by kernel_rfl)) (by unfold Func.isWrapper; first | (rw [if_pos (by decide +kernel)]; kernel_rfl) | (rw [if_neg (by decide +kernel)]; exact ⟨rfl, rfl⟩))
    (fun os started H enc _ => lifted os started H enc)
theorem proved : Rows.FnDegenerate3Said := over
#print axioms proved
end Go.Proofs.Ytlbbldhbggfoaaa.fnDegenerate3
namespace Go.Proofs.Ytlbbldhbggfoaaa
/-- The row, under a short name, for the claim. -/
theorem fnDegenerate3_holds : Rows.FnDegenerate3Said := fnDegenerate3.proved
end Go.Proofs.Ytlbbldhbggfoaaa
