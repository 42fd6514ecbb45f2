/- The length of a line string of two places with whole X and Y is the root of the sum of the squares of their differences in X and Y, rounded once; for all layouts and places. -/
import Derived.Test.YtfhplocmlmmnoaaRows
import Derived.Test.YtfhplocmlmmnoaaG9
import Derived.Test.YtfhplocmlmmnoaaPvLen
import Derived.Test.YtfhplocmlmmnoaaAv16
import Derived.WalkKit
import Derived.ProofKit
import Derived.OpenShut
import Derived.ChangeOld
import Derived.SizedLaws
set_option linter.unusedVariables false
namespace Go.Proofs.Ytfhplocmlmmnoaa.fnLengthSegment
open Go.Av Go.ChangeShapes Go.RowKit
open Go.Proofs.Ytfhplocmlmmnoaa.G9
theorem own : ownKnob Try.prog.godebug = none := by kernel_rfl
set_option maxRecDepth 100000 in
theorem lifted (os : Os) (started : os.Started) (H : Type) (enc : TypeId × Value → H) :
    ReturnsInHanded {} Try.checked os 9 .any (Rows.fnLengthSegmentSpec.pre6 enc Try.prog Try.f9 Rows.fnLengthSegmentRow.domain false) (Rows.fnLengthSegmentSpec.post enc Try.prog Try.f9 false true false false) :=
  row_of (C := Try.checked) (c := laws_FnLengthSegment_con 18446744073709551616) 12 own started (by kernel_rfl) Try.func9
    (ChangeSpec.witness6 (enc := enc) (C := Try.checked) false ⟨#[], #[.int .i64 0, .slice none 0 0, .slice none 0 0], []⟩ 12 (by kernel_rfl) (by kernel_rfl) (by kernel_rfl) (by kernel_rfl))
    rfl (fun ds h => match ds, h with | [_, _, _], _ => rfl) (by kernel_rfl) (by kernel_rfl) rfl (by kernel_rfl) (by kernel_rfl) rfl (laws_FnLengthSegment_s _) (bt := 4) (by kernel_rfl) (by kernel_rfl) (by kernel_rfl)
    (fun x hx => ⟨true, PvLen.law (by decide) (by decide) x.1 x.2.1 x.2.2.1, fun w Fz v h => by simpa [resV, resL, RV, Kd.isAgg, RP, laws_FnLengthSegment_con] using h⟩)
theorem over : Rows.fnLengthSegmentRow.holds Try.pinned (OpenSpec.ofChange Rows.fnLengthSegmentSpec) :=
  OpenClaim.holds_of_wide 9 Try.f9 rfl rfl rfl rfl rfl rfl rfl ⟨rfl, rfl, rfl, rfl, rfl⟩ rfl rfl rfl rfl rfl (by kernel_rfl) Try.func9 (by kernel_rfl)
    (of_decide_eq_true (by kernel_rfl)) (by unfold Func.isWrapper; first | (rw [if_pos (by decide +kernel)]; kernel_rfl) | (rw [if_neg (by decide +kernel)]; exact ⟨rfl, rfl⟩))
    (fun os started H enc _ => lifted os started H enc)
theorem proved : Rows.FnLengthSegmentSaid := over
#print axioms proved
end Go.Proofs.Ytfhplocmlmmnoaa.fnLengthSegment
namespace Go.Proofs.Ytfhplocmlmmnoaa
/-- The row, under a short name, for the claim. -/
theorem fnLengthSegment_holds : Rows.FnLengthSegmentSaid := fnLengthSegment.proved
end Go.Proofs.Ytfhplocmlmmnoaa
