/- The bounds of the polygon of a box of the layout XY that is not empty are the box; for all boxes. -/
import Derived.Test.YtfhplocmlmmnoaaRows
import Derived.Test.YtfhplocmlmmnoaaG11
import Derived.Test.YtfhplocmlmmnoaaPvBoxBack
import Derived.Test.YtfhplocmlmmnoaaAv16
import Derived.WalkKit
import Derived.ProofKit
import Derived.OpenShut
import Derived.ChangeOld
import Derived.SizedLaws
set_option linter.unusedVariables false
namespace Go.Proofs.Ytfhplocmlmmnoaa.fnBoxPolygonBack
open Go.Av Go.ChangeShapes Go.RowKit
open Go.Proofs.Ytfhplocmlmmnoaa.G11
theorem own : ownKnob Try.prog.godebug = none := by kernel_rfl
set_option maxRecDepth 100000 in
theorem lifted (os : Os) (started : os.Started) (H : Type) (enc : TypeId × Value → H) :
    ReturnsInHanded {} Try.checked os 11 .any (Rows.fnBoxPolygonBackSpec.pre6 enc Try.prog Try.f11 Rows.fnBoxPolygonBackRow.domain false) (Rows.fnBoxPolygonBackSpec.post enc Try.prog Try.f11 false true false false) :=
  row_of (C := Try.checked) (c := laws_FnBoxPolygonBack_con 18446744073709551616) 12 own started (by kernel_rfl) Try.func11
    (ChangeSpec.witness6 (enc := enc) (C := Try.checked) false ⟨#[], #[.agg #[.int .i64 0, .slice none 0 0, .slice none 0 0]], []⟩ 12 (by kernel_rfl) (by kernel_rfl) (by kernel_rfl) (by kernel_rfl))
    rfl (fun ds h => match ds, h with | [_], _ => rfl) (by kernel_rfl) (by kernel_rfl) rfl (by kernel_rfl) (by kernel_rfl) rfl (laws_FnBoxPolygonBack_s _) (bt := 4) (by kernel_rfl) (by kernel_rfl) (by kernel_rfl)
    (fun x hx => ⟨true, PvBoxBack.law (by decide) (by decide) x.1, fun w Fz v h => by simpa [resV, resL, RV, Kd.isAgg, RP, laws_FnBoxPolygonBack_con] using h⟩)
theorem over : Rows.fnBoxPolygonBackRow.holds Try.pinned (OpenSpec.ofChange Rows.fnBoxPolygonBackSpec) :=
  OpenClaim.holds_of_wide 11 Try.f11 rfl rfl rfl rfl rfl rfl rfl ⟨rfl, rfl, rfl, rfl, rfl⟩ rfl rfl rfl rfl rfl (by kernel_rfl) Try.func11 (by kernel_rfl)
    (of_decide_eq_true (by kernel_rfl)) (by unfold Func.isWrapper; first | (rw [if_pos (by decide +kernel)]; kernel_rfl) | (rw [if_neg (by decide +kernel)]; exact ⟨rfl, rfl⟩))
    (fun os started H enc _ => lifted os started H enc)
theorem proved : Rows.FnBoxPolygonBackSaid := over
#print axioms proved
end Go.Proofs.Ytfhplocmlmmnoaa.fnBoxPolygonBack
namespace Go.Proofs.Ytfhplocmlmmnoaa
/-- The row, under a short name, for the claim. -/
theorem fnBoxPolygonBack_holds : Rows.FnBoxPolygonBackSaid := fnBoxPolygonBack.proved
end Go.Proofs.Ytfhplocmlmmnoaa
