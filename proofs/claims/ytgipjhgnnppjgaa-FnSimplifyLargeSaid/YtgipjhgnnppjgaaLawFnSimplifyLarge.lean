/- With a great threshold the first and the last place alone are kept (whole numbers within bounds). -/
import Derived.Test.YtgipjhgnnppjgaaRows
import Derived.Test.YtgipjhgnnppjgaaSI
import Derived.Test.YtgipjhgnnppjgaaPvSimpL
import Derived.Test.YtgipjhgnnppjgaaAv16
import Derived.WalkKit
import Derived.ProofKit
import Derived.OpenShut
import Derived.ChangeOld
import Derived.SizedLaws
set_option linter.unusedVariables false
namespace Go.Proofs.Ytgipjhgnnppjgaa.fnSimplifyLarge
open Go.Av Go.ChangeShapes Go.RowKit
open Go.Proofs.Ytgipjhgnnppjgaa.SI
theorem own : ownKnob Try.prog.godebug = none := by kernel_rfl
set_option maxRecDepth 100000 in
theorem lifted (os : Os) (started : os.Started) (H : Type) (enc : TypeId × Value → H) :
    ReturnsInHanded {} Try.checked os 8 .any (Rows.fnSimplifyLargeSpec.pre6 enc Try.prog Try.f8 Rows.fnSimplifyLargeRow.domain false) (Rows.fnSimplifyLargeSpec.post enc Try.prog Try.f8 false true false false) :=
  row_of (C := Try.checked) (c := laws_FnSimplifyLarge_con 18446744073709551616) 12 own started (by kernel_rfl) Try.func8
    (ChangeSpec.witness6 (enc := enc) (C := Try.checked) false ⟨#[], #[.slice none 0 0, .float .f64 0, .int .i64 0], []⟩ 12 (by kernel_rfl) (by kernel_rfl) (by kernel_rfl) (by kernel_rfl))
    rfl (fun ds h => match ds, h with | [_, _, _], _ => rfl) (by kernel_rfl) (by kernel_rfl) rfl (by kernel_rfl) (by kernel_rfl) rfl (laws_FnSimplifyLarge_s _) (bt := 4) (by kernel_rfl) (by kernel_rfl) (by kernel_rfl)
    (fun x hx => ⟨true, PvSimpL.law x.1 x.2.1 x.2.2.1 hx.1.2, fun w Fz v h => by simpa [resV, resL, RV, Kd.isAgg, RP, laws_FnSimplifyLarge_con] using h⟩)
theorem over : Rows.fnSimplifyLargeRow.holds Try.pinned (OpenSpec.ofChange Rows.fnSimplifyLargeSpec) :=
  OpenClaim.holds_of_wide 8 Try.f8 rfl rfl rfl rfl rfl rfl rfl ⟨rfl, rfl, rfl, rfl, rfl⟩ rfl rfl rfl rfl rfl (by kernel_rfl) Try.func8 (by kernel_rfl)
    (of_decide_eq_true (by kernel_rfl)) (by unfold Func.isWrapper; first | (rw [if_pos (by decide +kernel)]; kernel_rfl) | (rw [if_neg (by decide +kernel)]; exact ⟨rfl, rfl⟩))
    (fun os started H enc _ => lifted os started H enc)
theorem proved : Rows.FnSimplifyLargeSaid := over
#print axioms proved
end Go.Proofs.Ytgipjhgnnppjgaa.fnSimplifyLarge
namespace Go.Proofs.Ytgipjhgnnppjgaa
/-- The row, under a short name, for the claim. -/
theorem fnSimplifyLarge_holds : Rows.FnSimplifyLargeSaid := fnSimplifyLarge.proved
end Go.Proofs.Ytgipjhgnnppjgaa
