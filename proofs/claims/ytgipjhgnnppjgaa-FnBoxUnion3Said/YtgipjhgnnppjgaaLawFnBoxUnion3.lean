/- The union of two boxes of space; for all boxes. -/
import Derived.Test.YtgipjhgnnppjgaaRows
import Derived.Test.YtgipjhgnnppjgaaFB
import Derived.Test.YtgipjhgnnppjgaaPvBoxUnion
import Derived.Test.YtgipjhgnnppjgaaAv16
import Derived.WalkKit
import Derived.ProofKit
import Derived.OpenShut
import Derived.ChangeOld
import Derived.SizedLaws
set_option linter.unusedVariables false
namespace Go.Proofs.Ytgipjhgnnppjgaa.fnBoxUnion3
open Go.Av Go.ChangeShapes Go.RowKit
open Go.Proofs.Ytgipjhgnnppjgaa.FB
theorem own : ownKnob Try.prog.godebug = none := by kernel_rfl
set_option maxRecDepth 100000 in
theorem lifted (os : Os) (started : os.Started) (H : Type) (enc : TypeId × Value → H) :
    ReturnsInHanded {} Try.checked os 10 .any (Rows.fnBoxUnion3Spec.pre6 enc Try.prog Try.f10 Rows.fnBoxUnion3Row.domain false) (Rows.fnBoxUnion3Spec.post enc Try.prog Try.f10 false true false false) :=
  row_of (C := Try.checked) (c := laws_FnBoxUnion3_con 18446744073709551616) 12 own started (by kernel_rfl) Try.func10
    (ChangeSpec.witness6 (enc := enc) (C := Try.checked) false ⟨#[], #[.agg #[.float .f64 0, .float .f64 0, .float .f64 0], .agg #[.float .f64 0, .float .f64 0, .float .f64 0], .agg #[.float .f64 0, .float .f64 0, .float .f64 0], .agg #[.float .f64 0, .float .f64 0, .float .f64 0]], []⟩ 12 (by kernel_rfl) (by kernel_rfl) (by kernel_rfl) (by kernel_rfl))
    rfl (fun ds h => match ds, h with | [_, _, _, _], _ => rfl) (by kernel_rfl) (by kernel_rfl) rfl (by kernel_rfl) (by kernel_rfl) rfl (laws_FnBoxUnion3_s _) (bt := 4) (by kernel_rfl) (by kernel_rfl) (by kernel_rfl)
    (fun x hx => ⟨true, PvBoxUnion.law3 x.1 x.2.1 x.2.2.1 x.2.2.2.1, fun w Fz v h => by simpa [resV, resL, RV, Kd.isAgg, RP, laws_FnBoxUnion3_con] using h⟩)
theorem over : Rows.fnBoxUnion3Row.holds Try.pinned (OpenSpec.ofChange Rows.fnBoxUnion3Spec) :=
  OpenClaim.holds_of_wide 10 Try.f10 rfl rfl rfl rfl rfl rfl rfl ⟨rfl, rfl, rfl, rfl, rfl⟩ rfl rfl rfl rfl rfl (by kernel_rfl) Try.func10 (by kernel_rfl)
    (of_decide_eq_true (by kernel_rfl)) (by unfold Func.isWrapper; first | (rw [if_pos (by decide +kernel)]; kernel_rfl) | (rw [if_neg (by decide +kernel)]; exact ⟨rfl, rfl⟩))
    (fun os started H enc _ => lifted os started H enc)
theorem proved : Rows.FnBoxUnion3Said := over
#print axioms proved
end Go.Proofs.Ytgipjhgnnppjgaa.fnBoxUnion3
namespace Go.Proofs.Ytgipjhgnnppjgaa
/-- The row, under a short name, for the claim. -/
theorem fnBoxUnion3_holds : Rows.FnBoxUnion3Said := fnBoxUnion3.proved
end Go.Proofs.Ytgipjhgnnppjgaa
