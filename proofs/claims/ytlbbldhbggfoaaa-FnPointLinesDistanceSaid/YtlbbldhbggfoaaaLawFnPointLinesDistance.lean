/- The distance of a place from a line is nearer than 2^-20 to the least of those from its segments. -/
import Derived.Test.YtlbbldhbggfoaaaRows
import Derived.Test.YtlbbldhbggfoaaaUL
import Derived.Test.YtlbbldhbggfoaaaPvPointLines
import Derived.Test.YtlbbldhbggfoaaaAv16
import Derived.WalkKit
import Derived.ProofKit
import Derived.OpenShut
import Derived.ChangeOld
import Derived.SizedLaws
set_option linter.unusedVariables false
set_option linter.unusedSectionVars false
namespace Go.Proofs.Ytlbbldhbggfoaaa.fnPointLinesDistance
open Go.Av Go.ChangeShapes Go.RowKit
open Go.Proofs.Ytlbbldhbggfoaaa.UL
theorem own : ownKnob Try.prog.godebug = none := by kernel_rfl
set_option maxRecDepth 100000 in
theorem lifted (os : Os) (started : os.Started) (H : Type) (enc : TypeId × Value → H) :
    ReturnsInHanded {} Try.checked os 10 .any (Rows.fnPointLinesDistanceSpec.pre6 enc Try.prog Try.f10 Rows.fnPointLinesDistanceRow.domain false) (Rows.fnPointLinesDistanceSpec.post enc Try.prog Try.f10 false true false false) :=
  row_of (C := Try.checked) (c := laws_FnPointLinesDistance_con 18446744073709551616) 12 own started (by kernel_rfl) Try.func10
    (ChangeSpec.witness6 (enc := enc) (C := Try.checked) false ⟨#[], #[.int .i64 0, .agg #[.float .f64 0, .float .f64 0], .slice none 0 0], []⟩ 12 (by kernel_rfl) (by kernel_rfl) (by kernel_rfl) (by kernel_rfl))
    rfl (fun ds h => match ds, h with | [_, _, _], _ => rfl) (by kernel_rfl) (by kernel_rfl) rfl (by kernel_rfl) (by kernel_rfl) rfl (laws_FnPointLinesDistance_s _) (bt := 4) (by kernel_rfl) (by kernel_rfl) (by kernel_rfl)
    (fun x hx => ⟨true, PvPointLines.law2 (by decide) (by decide) x.1 x.2.1 x.2.2.1 ⟨hx.2.1.1, hx.2.1.2.1⟩ hx.2.2.1.2, fun w Fz v h => by simpa [resV, resL, RV, Kd.isAgg, RP, laws_FnPointLinesDistance_con] using h⟩)
theorem over : Rows.fnPointLinesDistanceRow.holds Try.pinned (OpenSpec.ofChange Rows.fnPointLinesDistanceSpec) :=
  OpenClaim.holds_of_wide 10 Try.f10 rfl rfl rfl rfl rfl rfl rfl ⟨rfl, rfl, rfl, rfl, rfl⟩ rfl rfl rfl rfl rfl (by kernel_rfl) Try.func10 (by kernel_rfl)
    (of_decide_eq_true (by kernel_rfl)) (by unfold Func.isWrapper; first | (rw [if_pos (by decide +kernel)]; kernel_rfl) | (rw [if_neg (by decide +kernel)]; exact ⟨rfl, rfl⟩))
    (fun os started H enc _ => lifted os started H enc)
theorem proved : Rows.FnPointLinesDistanceSaid := over
#print axioms proved
end Go.Proofs.Ytlbbldhbggfoaaa.fnPointLinesDistance
namespace Go.Proofs.Ytlbbldhbggfoaaa
/-- The row, under a short name, for the claim. -/
theorem fnPointLinesDistance_holds : Rows.FnPointLinesDistanceSaid := fnPointLinesDistance.proved
end Go.Proofs.Ytlbbldhbggfoaaa
