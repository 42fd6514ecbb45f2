/- A row of whole places that is turned about by the inner reversal has its places from the last one to the first; for every row and every stride. -/
import Derived.Test.YtcppjdjimmnlkaaRows
import Derived.Test.YtcppjdjimmnlkaaFRev
import Derived.Test.YtcppjdjimmnlkaaPvReverse
import Derived.Test.YtcppjdjimmnlkaaAv16
import Derived.WalkKit
import Derived.ProofKit
import Derived.OpenShut
import Derived.ChangeOld
import Derived.SizedLaws
set_option linter.unusedVariables false
namespace Go.Proofs.Ytcppjdjimmnlkaa.fnReverseFlat1
open Go.Av Go.ChangeShapes Go.RowKit
open Go.Proofs.Ytcppjdjimmnlkaa.FRev
theorem own : ownKnob Try.prog.godebug = none := by kernel_rfl
set_option maxRecDepth 100000 in
theorem lifted (os : Os) (started : os.Started) (H : Type) (enc : TypeId × Value → H) :
    ReturnsInHanded {} Try.checked os 6 .any (Rows.fnReverseFlat1Spec.pre6 enc Try.prog Try.f6 Rows.fnReverseFlat1Row.domain false) (Rows.fnReverseFlat1Spec.post enc Try.prog Try.f6 false true false false) :=
  row_of (C := Try.checked) (c := laws_FnReverseFlat1_con 18446744073709551616) 12 own started (by kernel_rfl) Try.func6
    (ChangeSpec.witness6 (enc := enc) (C := Try.checked) false ⟨#[], #[.slice none 0 0, .int .i64 0], []⟩ 12 (by kernel_rfl) (by kernel_rfl) (by kernel_rfl) (by kernel_rfl))
    rfl (fun ds h => match ds, h with | [_, _], _ => rfl) (by kernel_rfl) (by kernel_rfl) rfl (by kernel_rfl) (by kernel_rfl) rfl (laws_FnReverseFlat1_s _) (bt := 4) (by kernel_rfl) (by kernel_rfl) (by kernel_rfl)
    (fun x hx => ⟨true, PvReverse.law x.1 x.2.1, fun w Fz v h => by simpa [resV, resL, RV, Kd.isAgg, RP, laws_FnReverseFlat1_con] using h⟩)
theorem over : Rows.fnReverseFlat1Row.holds Try.pinned (OpenSpec.ofChange Rows.fnReverseFlat1Spec) :=
  OpenClaim.holds_of_wide 6 Try.f6 rfl rfl rfl rfl rfl rfl rfl ⟨rfl, rfl, rfl, rfl, rfl⟩ rfl rfl rfl rfl rfl (by kernel_rfl) Try.func6 (by kernel_rfl)
    (of_decide_eq_true (by kernel_rfl)) (by unfold Func.isWrapper; first | (rw [if_pos (by decide +kernel)]; kernel_rfl) | (rw [if_neg (by decide +kernel)]; exact ⟨rfl, rfl⟩))
    (fun os started H enc _ => lifted os started H enc)
theorem proved : Rows.FnReverseFlat1Said := over
#print axioms proved
end Go.Proofs.Ytcppjdjimmnlkaa.fnReverseFlat1
namespace Go.Proofs.Ytcppjdjimmnlkaa
/-- The row, under a short name, for the claim. -/
theorem fnReverseFlat1_holds : Rows.FnReverseFlat1Said := fnReverseFlat1.proved
end Go.Proofs.Ytcppjdjimmnlkaa
