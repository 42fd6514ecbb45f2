/- A box of a layout from XY to 9 that is set to two places of its layout has for each axis the lesser and the greater of their numbers; for all boxes and places. -/
import Derived.Test.YtfhplocmlmmnoaaRows
import Derived.Test.YtfhplocmlmmnoaaG3
import Derived.Test.YtfhplocmlmmnoaaPvBoxSet
import Derived.Test.YtfhplocmlmmnoaaAv16
import Derived.WalkKit
import Derived.ProofKit
import Derived.OpenShut
import Derived.ChangeOld
import Derived.SizedLaws
set_option linter.unusedVariables false
namespace Go.Proofs.Ytfhplocmlmmnoaa.fnBoxSetCoords
open Go.Av Go.ChangeShapes Go.RowKit
open Go.Proofs.Ytfhplocmlmmnoaa.G3
theorem own : ownKnob Try.prog.godebug = none := by kernel_rfl
set_option maxRecDepth 100000 in
theorem lifted (os : Os) (started : os.Started) (H : Type) (enc : TypeId × Value → H) :
    ReturnsInHanded {} Try.checked os 3 .any (Rows.fnBoxSetCoordsSpec.pre6 enc Try.prog Try.f3 Rows.fnBoxSetCoordsRow.domain false) (Rows.fnBoxSetCoordsSpec.post enc Try.prog Try.f3 false true false false) :=
  row_of (C := Try.checked) (c := laws_FnBoxSetCoords_con 18446744073709551616) 12 own started (by kernel_rfl) Try.func3
    (ChangeSpec.witness6 (enc := enc) (C := Try.checked) false ⟨#[], #[.agg #[.int .i64 0, .slice none 0 0, .slice none 0 0], .slice none 0 0, .slice none 0 0], []⟩ 12 (by kernel_rfl) (by kernel_rfl) (by kernel_rfl) (by kernel_rfl))
    rfl (fun ds h => match ds, h with | [_, _, _], _ => rfl) (by kernel_rfl) (by kernel_rfl) rfl (by kernel_rfl) (by kernel_rfl) rfl (laws_FnBoxSetCoords_s _) (bt := 4) (by kernel_rfl) (by kernel_rfl) (by kernel_rfl)
    (fun x hx => ⟨true, PvBoxSet.law (by decide) (by decide) x.1 x.2.1 x.2.2.1, fun w Fz v h => by simpa [resV, resL, RV, Kd.isAgg, RP, laws_FnBoxSetCoords_con] using h⟩)
theorem over : Rows.fnBoxSetCoordsRow.holds Try.pinned (OpenSpec.ofChange Rows.fnBoxSetCoordsSpec) :=
  OpenClaim.holds_of_wide 3 Try.f3 rfl rfl rfl rfl rfl rfl rfl ⟨rfl, rfl, rfl, rfl, rfl⟩ rfl rfl rfl rfl rfl (by kernel_rfl) Try.func3 (by kernel_rfl)
    (of_decide_eq_true (by kernel_rfl)) (by unfold Func.isWrapper; first | (rw [if_pos (by decide +kernel)]; kernel_rfl) | (rw [if_neg (by decide +kernel)]; exact ⟨rfl, rfl⟩))
    (fun os started H enc _ => lifted os started H enc)
theorem proved : Rows.FnBoxSetCoordsSaid := over
#print axioms proved
end Go.Proofs.Ytfhplocmlmmnoaa.fnBoxSetCoords
namespace Go.Proofs.Ytfhplocmlmmnoaa
/-- The row, under a short name, for the claim. -/
theorem fnBoxSetCoords_holds : Rows.FnBoxSetCoordsSaid := fnBoxSetCoords.proved
end Go.Proofs.Ytfhplocmlmmnoaa
