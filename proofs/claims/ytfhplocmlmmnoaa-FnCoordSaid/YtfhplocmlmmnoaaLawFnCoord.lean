/- The i-th coordinate of a line string, a linear ring, a polygon, a multi line string or a multi polygon of good data is its i-th place, bit by bit. -/
import Derived.Test.YtfhplocmlmmnoaaRows
import Derived.Test.YtfhplocmlmmnoaaG8
import Derived.Test.YtfhplocmlmmnoaaPvCoord
import Derived.Test.YtfhplocmlmmnoaaAv30
import Derived.WalkKit
import Derived.ProofKit
import Derived.OpenShut
import Derived.ChangeOld
import Derived.SizedLaws
set_option linter.unusedVariables false
set_option linter.unusedSectionVars false
namespace Go.Proofs.Ytfhplocmlmmnoaa.fnCoord
open Go.Av Go.ChangeShapes Go.RowKit
open Go.Proofs.Ytfhplocmlmmnoaa.G8
theorem own : ownKnob Try.prog.godebug = none := by kernel_rfl
set_option maxRecDepth 100000 in
theorem lifted (os : Os) (started : os.Started) (H : Type) (enc : TypeId × Value → H) :
    ReturnsInHanded {} Try.checked os 8 .any (Rows.fnCoordSpec.pre6 enc Try.prog Try.f8 Rows.fnCoordRow.domain false) (Rows.fnCoordSpec.post enc Try.prog Try.f8 false true false false) :=
  rowN_of (C := Try.checked) (ps := [.k .geo, .k (.int .i64)]) (rs := [.bool]) (fnN := fun N x => laws_FnCoord N x.1 x.2.1) 12 own started (by kernel_rfl) Try.func8
    (ChangeSpec.witness6 (enc := enc) (C := Try.checked) false ⟨#[], #[.agg #[.int .i64 0, .int .i64 0, .int .i64 0, .slice none 0 0, .slice none 0 0, .slice none 0 0, .slice none 0 0], .int .i64 0], []⟩ 12 (by kernel_rfl) (by kernel_rfl) (by kernel_rfl) (by kernel_rfl))
    rfl (fun ds h => match ds, h with | [_, _], _ => rfl) (by kernel_rfl) (by kernel_rfl) (by kernel_rfl) (by kernel_rfl) rfl (fun N => laws_FnCoord_s N) (bt := 4) (by kernel_rfl) (by kernel_rfl) (by kernel_rfl)
    (fun x hx => ⟨(18446744073709551616 + PvGeoG8.dep x.1), true, PvCoord.law (by omega) (by omega) x.1 x.2.1 (by omega) hx.1 hx.2.1, fun w Fz v h => by simpa [resV, resL, RV, Kd.isAgg, RP] using h⟩)
theorem over : Rows.fnCoordRow.holds Try.pinned (OpenSpec.ofChange Rows.fnCoordSpec) :=
  OpenClaim.holds_of_wide 8 Try.f8 rfl rfl rfl rfl rfl rfl rfl ⟨rfl, rfl, rfl, rfl, rfl⟩ rfl rfl rfl rfl rfl (by kernel_rfl) Try.func8 (by kernel_rfl)
    (of_decide_eq_true (by kernel_rfl)) (by unfold Func.isWrapper; first | (rw [if_pos (by decide +kernel)]; kernel_rfl) | (rw [if_neg (by decide +kernel)]; exact ⟨rfl, rfl⟩))
    (fun os started H enc _ => lifted os started H enc)
theorem proved : Rows.FnCoordSaid := over
#print axioms proved
end Go.Proofs.Ytfhplocmlmmnoaa.fnCoord
namespace Go.Proofs.Ytfhplocmlmmnoaa
/-- The row, under a short name, for the claim. -/
theorem fnCoord_holds : Rows.FnCoordSaid := fnCoord.proved
end Go.Proofs.Ytfhplocmlmmnoaa
