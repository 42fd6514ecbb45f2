/- A triangle of the plane is degenerate just if the place opposite its longest side is nearer than the tolerance to this side's line (whole numbers within bounds). -/
import Derived.Test.YtlbbldhbggfoaaaRows
import Derived.Test.YtlbbldhbggfoaaaD2
import Derived.Test.YtlbbldhbggfoaaaPvDegen2
import Derived.Test.YtlbbldhbggfoaaaAv16
import Derived.WalkKit
import Derived.ProofKit
import Derived.OpenShut
import Derived.ChangeOld
import Derived.SizedLaws
set_option linter.unusedVariables false
namespace Go.Proofs.Ytlbbldhbggfoaaa.fnDegenerate2
open Go.Av Go.ChangeShapes Go.RowKit
open Go.Proofs.Ytlbbldhbggfoaaa.D2
theorem own : ownKnob Try.prog.godebug = none := by kernel_rfl
set_option maxRecDepth 100000 in
theorem lifted (os : Os) (started : os.Started) (H : Type) (enc : TypeId × Value → H) :
    ReturnsInHanded {} Try.checked os 5 .any (Rows.fnDegenerate2Spec.pre6 enc Try.prog Try.f5 Rows.fnDegenerate2Row.domain false) (Rows.fnDegenerate2Spec.post enc Try.prog Try.f5 false true false false) :=
  row_of (C := Try.checked) (c := laws_FnDegenerate2_con 18446744073709551616) 12 own started (by kernel_rfl) Try.func5
    (ChangeSpec.witness6 (enc := enc) (C := Try.checked) false ⟨#[], #[.agg #[.float .f64 0, .float .f64 0], .agg #[.float .f64 0, .float .f64 0], .agg #[.float .f64 0, .float .f64 0], .float .f64 0], []⟩ 12 (by kernel_rfl) (by kernel_rfl) (by kernel_rfl) (by kernel_rfl))
    rfl (fun ds h => match ds, h with | [_, _, _, _], _ => rfl) (by kernel_rfl) (by kernel_rfl) rfl (by kernel_rfl) (by kernel_rfl) rfl (laws_FnDegenerate2_s _) (bt := 4) (by kernel_rfl) (by kernel_rfl) (by kernel_rfl)
    (fun x hx => ⟨true, PvDegen2L.law x.1 x.2.1 x.2.2.1 x.2.2.2.1, fun w Fz v h => by simpa [resV, resL, RV, Kd.isAgg, RP, laws_FnDegenerate2_con] using h⟩)
theorem over : Rows.fnDegenerate2Row.holds Try.pinned (OpenSpec.ofChange Rows.fnDegenerate2Spec) :=
  OpenClaim.holds_of_wide 5 Try.f5 rfl rfl rfl rfl rfl rfl rfl ⟨rfl, rfl, rfl, rfl, rfl⟩ rfl rfl rfl rfl rfl (by kernel_rfl) Try.func5 (by kernel_rfl)
    (of_decide_eq_true (by kernel_rfl)) (by unfold Func.isWrapper; first | (rw [if_pos (by decide +kernel)]; kernel_rfl) | (rw [if_neg (by decide +kernel)]; exact ⟨rfl, rfl⟩))
    (fun os started H enc _ => lifted os started H enc)
theorem proved : Rows.FnDegenerate2Said := over
#print axioms proved
end Go.Proofs.Ytlbbldhbggfoaaa.fnDegenerate2
namespace Go.Proofs.Ytlbbldhbggfoaaa
/-- The row, under a short name, for the claim. -/
theorem fnDegenerate2_holds : Rows.FnDegenerate2Said := fnDegenerate2.proved
end Go.Proofs.Ytlbbldhbggfoaaa
