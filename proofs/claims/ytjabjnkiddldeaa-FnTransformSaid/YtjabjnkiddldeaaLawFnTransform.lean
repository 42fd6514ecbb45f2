/- A geometry of good data that is no collection, transformed in place: the i-th number of each place becomes its multiple and then its sum with numbers of a map. -/
import Derived.Test.YtjabjnkiddldeaaRows
import Derived.Test.YtjabjnkiddldeaaTR
import Derived.Test.YtjabjnkiddldeaaPvTransform
import Derived.Test.YtjabjnkiddldeaaAv30
import Derived.WalkKit
import Derived.ProofKit
import Derived.OpenShut
import Derived.ChangeOld
import Derived.SizedLaws
set_option linter.unusedVariables false
namespace Go.Proofs.Ytjabjnkiddldeaa.fnTransform
open Go.Av Go.ChangeShapes Go.RowKit
open Go.Proofs.Ytjabjnkiddldeaa.TR
theorem own : ownKnob Try.prog.godebug = none := by kernel_rfl
set_option maxRecDepth 100000 in
theorem lifted (os : Os) (started : os.Started) (H : Type) (enc : TypeId × Value → H) :
    ReturnsInHanded {} Try.checked os 4 .any (Rows.fnTransformSpec.pre6 enc Try.prog Try.f4 Rows.fnTransformRow.domain false) (Rows.fnTransformSpec.post enc Try.prog Try.f4 false true false false) :=
  rowN_of (C := Try.checked) (ps := [.k .geo, .k (.pair (.list .float) (.pair (.list .float) .unit))]) (rs := [.bool]) (fnN := fun N x => laws_FnTransform N x.1 x.2.1) 12 own started (by kernel_rfl) Try.func4
    (ChangeSpec.witness6 (enc := enc) (C := Try.checked) false ⟨#[], #[.agg #[.int .i64 0, .int .i64 0, .int .i64 0, .slice none 0 0, .slice none 0 0, .slice none 0 0, .slice none 0 0], .agg #[.slice none 0 0, .slice none 0 0]], []⟩ 12 (by kernel_rfl) (by kernel_rfl) (by kernel_rfl) (by kernel_rfl))
    rfl (fun ds h => match ds, h with | [_, _], _ => rfl) (by kernel_rfl) (by kernel_rfl) (by kernel_rfl) (by kernel_rfl) rfl (fun N => laws_FnTransform_s N) (bt := 4) (by kernel_rfl) (by kernel_rfl) (by kernel_rfl)
    (fun x hx => ⟨(18446744073709551616 + PvGeoTR.dep x.1), true, PvTransform.law (by omega) (by omega) x.1 x.2.1 (by omega) hx.1, fun w Fz v h => by simpa [resV, resL, RV, Kd.isAgg, RP] using h⟩)
theorem over : Rows.fnTransformRow.holds Try.pinned (OpenSpec.ofChange Rows.fnTransformSpec) :=
  OpenClaim.holds_of_wide 4 Try.f4 rfl rfl rfl rfl rfl rfl rfl ⟨rfl, rfl, rfl, rfl, rfl⟩ rfl rfl rfl rfl rfl (by kernel_rfl) Try.func4 (by kernel_rfl)
    (of_decide_eq_true (by kernel_rfl)) (by unfold Func.isWrapper; first | (rw [if_pos (by decide +kernel)]; kernel_rfl) | (rw [if_neg (by decide +kernel)]; exact ⟨rfl, rfl⟩))
    (fun os started H enc _ => lifted os started H enc)
theorem proved : Rows.FnTransformSaid := over
#print axioms proved
end Go.Proofs.Ytjabjnkiddldeaa.fnTransform
namespace Go.Proofs.Ytjabjnkiddldeaa
/-- The row, under a short name, for the claim. -/
theorem fnTransform_holds : Rows.FnTransformSaid := fnTransform.proved
end Go.Proofs.Ytjabjnkiddldeaa
