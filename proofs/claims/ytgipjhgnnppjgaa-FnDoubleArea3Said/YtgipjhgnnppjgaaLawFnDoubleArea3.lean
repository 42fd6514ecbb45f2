/- Twice the area of rings in a row; for all rows, ends and strides. -/
import Derived.Test.YtgipjhgnnppjgaaRows
import Derived.Test.YtgipjhgnnppjgaaFA
import Derived.Test.YtgipjhgnnppjgaaPvDoubleArea3
import Derived.Test.YtgipjhgnnppjgaaAv16
import Derived.WalkKit
import Derived.ProofKit
import Derived.OpenShut
import Derived.ChangeOld
import Derived.SizedLaws
set_option linter.unusedVariables false
set_option linter.unusedSectionVars false
namespace Go.Proofs.Ytgipjhgnnppjgaa.fnDoubleArea3
open Go.Av Go.ChangeShapes Go.RowKit
open Go.Proofs.Ytgipjhgnnppjgaa.FA
theorem own : ownKnob Try.prog.godebug = none := by kernel_rfl
set_option maxRecDepth 100000 in
theorem lifted (os : Os) (started : os.Started) (H : Type) (enc : TypeId × Value → H) :
    ReturnsInHanded {} Try.checked os 5 .any (Rows.fnDoubleArea3Spec.pre6 enc Try.prog Try.f5 Rows.fnDoubleArea3Row.domain false) (Rows.fnDoubleArea3Spec.post enc Try.prog Try.f5 false true false false) :=
  row_of (C := Try.checked) (c := laws_FnDoubleArea3_con 18446744073709551616) 12 own started (by kernel_rfl) Try.func5
    (ChangeSpec.witness6 (enc := enc) (C := Try.checked) false ⟨#[], #[.slice none 0 0, .slice none 0 0, .int .i64 0], []⟩ 12 (by kernel_rfl) (by kernel_rfl) (by kernel_rfl) (by kernel_rfl))
    rfl (fun ds h => match ds, h with | [_, _, _], _ => rfl) (by kernel_rfl) (by kernel_rfl) rfl (by kernel_rfl) (by kernel_rfl) rfl (laws_FnDoubleArea3_s _) (bt := 4) (by kernel_rfl) (by kernel_rfl) (by kernel_rfl)
    (fun x hx => ⟨true, PvDoubleArea3.law x.1 x.2.1 x.2.2.1 (fun l hl y hy => ((hx.2.1.2 l hl).2 y hy).2), fun w Fz v h => by simpa [resV, resL, RV, Kd.isAgg, RP, laws_FnDoubleArea3_con] using h⟩)
theorem over : Rows.fnDoubleArea3Row.holds Try.pinned (OpenSpec.ofChange Rows.fnDoubleArea3Spec) :=
  OpenClaim.holds_of_wide 5 Try.f5 rfl rfl rfl rfl rfl rfl rfl ⟨rfl, rfl, rfl, rfl, rfl⟩ rfl rfl rfl rfl rfl (by kernel_rfl) Try.func5 (by kernel_rfl)
    (of_decide_eq_true (by kernel_rfl)) (by unfold Func.isWrapper; first | (rw [if_pos (by decide +kernel)]; kernel_rfl) | (rw [if_neg (by decide +kernel)]; exact ⟨rfl, rfl⟩))
    (fun os started H enc _ => lifted os started H enc)
theorem proved : Rows.FnDoubleArea3Said := over
#print axioms proved
end Go.Proofs.Ytgipjhgnnppjgaa.fnDoubleArea3
namespace Go.Proofs.Ytgipjhgnnppjgaa
/-- The row, under a short name, for the claim. -/
theorem fnDoubleArea3_holds : Rows.FnDoubleArea3Said := fnDoubleArea3.proved
end Go.Proofs.Ytgipjhgnnppjgaa
