/- A geometry of good data (at most 2000 parts, ends and numbers; layouts up to 9) is empty just if it has no numbers; a collection, if all its parts are empty. -/
import Derived.Test.YtjabjnkiddldeaaRows
import Derived.Test.YtjabjnkiddldeaaIE
import Derived.Test.YtjabjnkiddldeaaPvIsEmpty
import Derived.Test.YtjabjnkiddldeaaAv30
import Derived.WalkKit
import Derived.ProofKit
import Derived.OpenShut
import Derived.ChangeOld
import Derived.SizedLaws
set_option linter.unusedVariables false
namespace Go.Proofs.Ytjabjnkiddldeaa.fnIsEmpty
open Go.Av Go.ChangeShapes Go.RowKit
open Go.Proofs.Ytjabjnkiddldeaa.IE
theorem own : ownKnob Try.prog.godebug = none := by kernel_rfl
set_option maxRecDepth 100000 in
theorem lifted (os : Os) (started : os.Started) (H : Type) (enc : TypeId × Value → H) :
    ReturnsInHanded {} Try.checked os 5 .any (Rows.fnIsEmptySpec.pre6 enc Try.prog Try.f5 Rows.fnIsEmptyRow.domain false) (Rows.fnIsEmptySpec.post enc Try.prog Try.f5 false true false false) :=
  rowN_of (C := Try.checked) (ps := [.k .geo]) (rs := [.bool]) (fnN := fun N x => laws_FnIsEmpty N x.1) 12 own started (by kernel_rfl) Try.func5
    (ChangeSpec.witness6 (enc := enc) (C := Try.checked) false ⟨#[], #[.agg #[.int .i64 0, .int .i64 0, .int .i64 0, .slice none 0 0, .slice none 0 0, .slice none 0 0, .slice none 0 0]], []⟩ 12 (by kernel_rfl) (by kernel_rfl) (by kernel_rfl) (by kernel_rfl))
    rfl (fun ds h => match ds, h with | [_], _ => rfl) (by kernel_rfl) (by kernel_rfl) (by kernel_rfl) (by kernel_rfl) rfl (fun N => laws_FnIsEmpty_s N) (bt := 4) (by kernel_rfl) (by kernel_rfl) (by kernel_rfl)
    (fun x hx => ⟨(18446744073709551616 + PvGeoIE.dep x.1), true, PvIsEmpty.law (by omega) (by omega) x.1 (by omega) hx.1, fun w Fz v h => by simpa [resV, resL, RV, Kd.isAgg, RP] using h⟩)
theorem over : Rows.fnIsEmptyRow.holds Try.pinned (OpenSpec.ofChange Rows.fnIsEmptySpec) :=
  OpenClaim.holds_of_wide 5 Try.f5 rfl rfl rfl rfl rfl rfl rfl ⟨rfl, rfl, rfl, rfl, rfl⟩ rfl rfl rfl rfl rfl (by kernel_rfl) Try.func5 (by kernel_rfl)
    (of_decide_eq_true (by kernel_rfl)) (by unfold Func.isWrapper; first | (rw [if_pos (by decide +kernel)]; kernel_rfl) | (rw [if_neg (by decide +kernel)]; exact ⟨rfl, rfl⟩))
    (fun os started H enc _ => lifted os started H enc)
theorem proved : Rows.FnIsEmptySaid := over
#print axioms proved
end Go.Proofs.Ytjabjnkiddldeaa.fnIsEmpty
namespace Go.Proofs.Ytjabjnkiddldeaa
/-- The row, under a short name, for the claim. -/
theorem fnIsEmpty_holds : Rows.FnIsEmptySaid := fnIsEmpty.proved
end Go.Proofs.Ytjabjnkiddldeaa
