/- The product of the ways from one place in space to another and from a third to a fourth is exact, and the same if the two ways change places. -/
import Derived.Test.YtgipjhgnnppjgaaRows
import Derived.Test.YtgipjhgnnppjgaaFN7
import Derived.Test.YtgipjhgnnppjgaaPvSpaceDot
import Derived.Test.YtgipjhgnnppjgaaAv16
import Derived.WalkKit
import Derived.ProofKit
import Derived.OpenShut
import Derived.ChangeOld
import Derived.SizedLaws
set_option linter.unusedVariables false
set_option linter.unusedSectionVars false
namespace Go.Proofs.Ytgipjhgnnppjgaa.fnSpaceDot
open Go.Av Go.ChangeShapes Go.RowKit
open Go.Proofs.Ytgipjhgnnppjgaa.FN7
theorem own : ownKnob Try.prog.godebug = none := by kernel_rfl
set_option maxRecDepth 100000 in
theorem lifted (os : Os) (started : os.Started) (H : Type) (enc : TypeId × Value → H) :
    ReturnsInHanded {} Try.checked os 7 .any (Rows.fnSpaceDotSpec.pre6 enc Try.prog Try.f7 Rows.fnSpaceDotRow.domain false) (Rows.fnSpaceDotSpec.post enc Try.prog Try.f7 false true false false) :=
  row_of (C := Try.checked) (c := laws_FnSpaceDot_con 18446744073709551616) 12 own started (by kernel_rfl) Try.func7
    (ChangeSpec.witness6 (enc := enc) (C := Try.checked) false ⟨#[], #[.agg #[.float .f64 0, .float .f64 0, .float .f64 0], .agg #[.float .f64 0, .float .f64 0, .float .f64 0], .agg #[.float .f64 0, .float .f64 0, .float .f64 0], .agg #[.float .f64 0, .float .f64 0, .float .f64 0]], []⟩ 12 (by kernel_rfl) (by kernel_rfl) (by kernel_rfl) (by kernel_rfl))
    rfl (fun ds h => match ds, h with | [_, _, _, _], _ => rfl) (by kernel_rfl) (by kernel_rfl) rfl (by kernel_rfl) (by kernel_rfl) rfl (laws_FnSpaceDot_s _) (bt := 4) (by kernel_rfl) (by kernel_rfl) (by kernel_rfl)
    (fun x hx => ⟨true, PvSpaceDot.law (by decide) (by decide) x.1 x.2.1 x.2.2.1 x.2.2.2.1 ⟨hx.1.1, hx.1.2.1, hx.1.2.2.1⟩ ⟨hx.2.1.1, hx.2.1.2.1, hx.2.1.2.2.1⟩ ⟨hx.2.2.1.1, hx.2.2.1.2.1, hx.2.2.1.2.2.1⟩ ⟨hx.2.2.2.1.1, hx.2.2.2.1.2.1, hx.2.2.2.1.2.2.1⟩, fun w Fz v h => by simpa [resV, resL, RV, Kd.isAgg, RP, laws_FnSpaceDot_con] using h⟩)
theorem over : Rows.fnSpaceDotRow.holds Try.pinned (OpenSpec.ofChange Rows.fnSpaceDotSpec) :=
  OpenClaim.holds_of_wide 7 Try.f7 rfl rfl rfl rfl rfl rfl rfl ⟨rfl, rfl, rfl, rfl, rfl⟩ rfl rfl rfl rfl rfl (by kernel_rfl) Try.func7 (by kernel_rfl)
    (of_decide_eq_true (by kernel_rfl)) (by unfold Func.isWrapper; first | (rw [if_pos (by decide +kernel)]; kernel_rfl) | (rw [if_neg (by decide +kernel)]; exact ⟨rfl, rfl⟩))
    (fun os started H enc _ => lifted os started H enc)
theorem proved : Rows.FnSpaceDotSaid := over
#print axioms proved
end Go.Proofs.Ytgipjhgnnppjgaa.fnSpaceDot
namespace Go.Proofs.Ytgipjhgnnppjgaa
/-- The row, under a short name, for the claim. -/
theorem fnSpaceDot_holds : Rows.FnSpaceDotSaid := fnSpaceDot.proved
end Go.Proofs.Ytgipjhgnnppjgaa
