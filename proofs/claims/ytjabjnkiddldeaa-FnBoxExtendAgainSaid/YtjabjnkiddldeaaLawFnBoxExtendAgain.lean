/- A box of a layout from none to XYZM that is extended to include a geometry of good data that is no collection (a layout from XY to XYZM, at most 2000 parts, ends and numbers, no NaN) is not changed if it is extended by it once more. -/
import Derived.Test.YtjabjnkiddldeaaRows
import Derived.Test.YtjabjnkiddldeaaBE
import Derived.Test.YtjabjnkiddldeaaPvExt
import Derived.Test.YtjabjnkiddldeaaAv30
import Derived.WalkKit
import Derived.ProofKit
import Derived.OpenShut
import Derived.ChangeOld
import Derived.SizedLaws
set_option linter.unusedVariables false
namespace Go.Proofs.Ytjabjnkiddldeaa.fnBoxExtendAgain
open Go.Av Go.ChangeShapes Go.RowKit
open Go.Proofs.Ytjabjnkiddldeaa.BE
theorem own : ownKnob Try.prog.godebug = none := by kernel_rfl
set_option maxRecDepth 100000 in
theorem lifted (os : Os) (started : os.Started) (H : Type) (enc : TypeId × Value → H) :
    ReturnsInHanded {} Try.checked os 3 .any (Rows.fnBoxExtendAgainSpec.pre6 enc Try.prog Try.f3 Rows.fnBoxExtendAgainRow.domain false) (Rows.fnBoxExtendAgainSpec.post enc Try.prog Try.f3 false true false false) :=
  rowN_of (C := Try.checked) (ps := [.k (.pair (.int .i64) (.pair (.list .float) (.pair (.list .float) .unit))), .k .geo]) (rs := [.bool]) (fnN := fun N x => laws_FnBoxExtendAgain N x.1 x.2.1) 12 own started (by kernel_rfl) Try.func3
    (ChangeSpec.witness6 (enc := enc) (C := Try.checked) false ⟨#[], #[.agg #[.int .i64 0, .slice none 0 0, .slice none 0 0], .agg #[.int .i64 0, .int .i64 0, .int .i64 0, .slice none 0 0, .slice none 0 0, .slice none 0 0, .slice none 0 0]], []⟩ 12 (by kernel_rfl) (by kernel_rfl) (by kernel_rfl) (by kernel_rfl))
    rfl (fun ds h => match ds, h with | [_, _], _ => rfl) (by kernel_rfl) (by kernel_rfl) (by kernel_rfl) (by kernel_rfl) rfl (fun N => laws_FnBoxExtendAgain_s N) (bt := 4) (by kernel_rfl) (by kernel_rfl) (by kernel_rfl)
    (fun x hx => ⟨(18446744073709551616 + PvGeoBE.dep x.2.1), true, PvExt.law (by omega) (by omega) x.1 x.2.1 (by omega) hx.2.1, fun w Fz v h => by simpa [resV, resL, RV, Kd.isAgg, RP] using h⟩)
theorem over : Rows.fnBoxExtendAgainRow.holds Try.pinned (OpenSpec.ofChange Rows.fnBoxExtendAgainSpec) :=
  OpenClaim.holds_of_wide 3 Try.f3 rfl rfl rfl rfl rfl rfl rfl ⟨rfl, rfl, rfl, rfl, rfl⟩ rfl rfl rfl rfl rfl (by kernel_rfl) Try.func3 (by kernel_rfl)
    (of_decide_eq_true (by kernel_rfl)) (by unfold Func.isWrapper; first | (rw [if_pos (by decide +kernel)]; kernel_rfl) | (rw [if_neg (by decide +kernel)]; exact ⟨rfl, rfl⟩))
    (fun os started H enc _ => lifted os started H enc)
theorem proved : Rows.FnBoxExtendAgainSaid := over
#print axioms proved
end Go.Proofs.Ytjabjnkiddldeaa.fnBoxExtendAgain
namespace Go.Proofs.Ytjabjnkiddldeaa
/-- The row, under a short name, for the claim. -/
theorem fnBoxExtendAgain_holds : Rows.FnBoxExtendAgainSaid := fnBoxExtendAgain.proved
end Go.Proofs.Ytjabjnkiddldeaa
