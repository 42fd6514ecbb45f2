/- The place of a point of good data that is not empty has its numbers, bit by bit; for all geometries. -/
import Derived.Test.YtfhplocmlmmnoaaRows
import Derived.Test.YtfhplocmlmmnoaaG5
import Derived.Test.YtfhplocmlmmnoaaPvPoint
import Derived.Test.YtfhplocmlmmnoaaAv30
import Derived.WalkKit
import Derived.ProofKit
import Derived.OpenShut
import Derived.ChangeOld
import Derived.SizedLaws
set_option linter.unusedVariables false
namespace Go.Proofs.Ytfhplocmlmmnoaa.fnPointCoords
open Go.Av Go.ChangeShapes Go.RowKit
open Go.Proofs.Ytfhplocmlmmnoaa.G5
theorem own : ownKnob Try.prog.godebug = none := by kernel_rfl
set_option maxRecDepth 100000 in
theorem lifted (os : Os) (started : os.Started) (H : Type) (enc : TypeId × Value → H) :
    ReturnsInHanded {} Try.checked os 5 .any (Rows.fnPointCoordsSpec.pre6 enc Try.prog Try.f5 Rows.fnPointCoordsRow.domain false) (Rows.fnPointCoordsSpec.post enc Try.prog Try.f5 false true false false) :=
  rowN_of (C := Try.checked) (ps := [.k .geo]) (rs := [.bool]) (fnN := fun N x => laws_FnPointCoords N x.1) 12 own started (by kernel_rfl) Try.func5
    (ChangeSpec.witness6 (enc := enc) (C := Try.checked) false ⟨#[], #[.agg #[.int .i64 0, .int .i64 0, .int .i64 0, .slice none 0 0, .slice none 0 0, .slice none 0 0, .slice none 0 0]], []⟩ 12 (by kernel_rfl) (by kernel_rfl) (by kernel_rfl) (by kernel_rfl))
    rfl (fun ds h => match ds, h with | [_], _ => rfl) (by kernel_rfl) (by kernel_rfl) (by kernel_rfl) (by kernel_rfl) rfl (fun N => laws_FnPointCoords_s N) (bt := 4) (by kernel_rfl) (by kernel_rfl) (by kernel_rfl)
    (fun x hx => ⟨(18446744073709551616 + PvGeoG5.dep x.1), true, PvPoint.law (by omega) (by omega) x.1 (by omega) hx.1, fun w Fz v h => by simpa [resV, resL, RV, Kd.isAgg, RP] using h⟩)
theorem over : Rows.fnPointCoordsRow.holds Try.pinned (OpenSpec.ofChange Rows.fnPointCoordsSpec) :=
  OpenClaim.holds_of_wide 5 Try.f5 rfl rfl rfl rfl rfl rfl rfl ⟨rfl, rfl, rfl, rfl, rfl⟩ rfl rfl rfl rfl rfl (by kernel_rfl) Try.func5 (by kernel_rfl)
    (of_decide_eq_true (by kernel_rfl)) (by unfold Func.isWrapper; first | (rw [if_pos (by decide +kernel)]; kernel_rfl) | (rw [if_neg (by decide +kernel)]; exact ⟨rfl, rfl⟩))
    (fun os started H enc _ => lifted os started H enc)
theorem proved : Rows.FnPointCoordsSaid := over
#print axioms proved
end Go.Proofs.Ytfhplocmlmmnoaa.fnPointCoords
namespace Go.Proofs.Ytfhplocmlmmnoaa
/-- The row, under a short name, for the claim. -/
theorem fnPointCoords_holds : Rows.FnPointCoordsSaid := fnPointCoords.proved
end Go.Proofs.Ytfhplocmlmmnoaa
