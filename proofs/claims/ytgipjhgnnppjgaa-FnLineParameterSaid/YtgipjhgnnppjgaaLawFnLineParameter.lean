/- Of a place that is j n-ths of the way from one place to another the share of the way is nearer than 2^-30 to that. -/
import Derived.Test.YtgipjhgnnppjgaaRows
import Derived.Test.YtgipjhgnnppjgaaFN3
import Derived.Test.YtgipjhgnnppjgaaPvLineParam
import Derived.Test.YtgipjhgnnppjgaaAv16
import Derived.WalkKit
import Derived.ProofKit
import Derived.OpenShut
import Derived.ChangeOld
import Derived.SizedLaws
set_option linter.unusedVariables false
set_option linter.unusedSectionVars false
namespace Go.Proofs.Ytgipjhgnnppjgaa.fnLineParameter
open Go.Av Go.ChangeShapes Go.RowKit
open Go.Proofs.Ytgipjhgnnppjgaa.FN3
theorem own : ownKnob Try.prog.godebug = none := by kernel_rfl
set_option maxRecDepth 100000 in
theorem lifted (os : Os) (started : os.Started) (H : Type) (enc : TypeId × Value → H) :
    ReturnsInHanded {} Try.checked os 3 .any (Rows.fnLineParameterSpec.pre6 enc Try.prog Try.f3 Rows.fnLineParameterRow.domain false) (Rows.fnLineParameterSpec.post enc Try.prog Try.f3 false true false false) :=
  row_of (C := Try.checked) (c := laws_FnLineParameter_con 18446744073709551616) 12 own started (by kernel_rfl) Try.func3
    (ChangeSpec.witness6 (enc := enc) (C := Try.checked) false ⟨#[], #[.agg #[.float .f64 0, .float .f64 0], .agg #[.float .f64 0, .float .f64 0], .int .i64 0, .int .i64 0], []⟩ 12 (by kernel_rfl) (by kernel_rfl) (by kernel_rfl) (by kernel_rfl))
    rfl (fun ds h => match ds, h with | [_, _, _, _], _ => rfl) (by kernel_rfl) (by kernel_rfl) rfl (by kernel_rfl) (by kernel_rfl) rfl (laws_FnLineParameter_s _) (bt := 4) (by kernel_rfl) (by kernel_rfl) (by kernel_rfl)
    (fun x hx => ⟨true, PvLineParam.law (by decide) (by decide) x.1 x.2.1 x.2.2.1 x.2.2.2.1, fun w Fz v h => by simpa [resV, resL, RV, Kd.isAgg, RP, laws_FnLineParameter_con] using h⟩)
theorem over : Rows.fnLineParameterRow.holds Try.pinned (OpenSpec.ofChange Rows.fnLineParameterSpec) :=
  OpenClaim.holds_of_wide 3 Try.f3 rfl rfl rfl rfl rfl rfl rfl ⟨rfl, rfl, rfl, rfl, rfl⟩ rfl rfl rfl rfl rfl (by kernel_rfl) Try.func3 (by kernel_rfl)
    (of_decide_eq_true (by kernel_rfl)) (by unfold Func.isWrapper; first | (rw [if_pos (by decide +kernel)]; kernel_rfl) | (rw [if_neg (by decide +kernel)]; exact ⟨rfl, rfl⟩))
    (fun os started H enc _ => lifted os started H enc)
theorem proved : Rows.FnLineParameterSaid := over
#print axioms proved
end Go.Proofs.Ytgipjhgnnppjgaa.fnLineParameter
namespace Go.Proofs.Ytgipjhgnnppjgaa
/-- The row, under a short name, for the claim. -/
theorem fnLineParameter_holds : Rows.FnLineParameterSaid := fnLineParameter.proved
end Go.Proofs.Ytgipjhgnnppjgaa
