import Derived.Test.YtcppjdjimmnlkaaRows
import Derived.Test.YtcppjdjimmnlkaaFSameSign
import Derived.Test.YtcppjdjimmnlkaaAv16
import Derived.WalkKit
import Derived.ProofKit
import Derived.OpenShut
import Derived.ChangeOld
import Derived.SizedLaws
namespace Go.Proofs.Ytcppjdjimmnlkaa.fnSameSign
open Go.Av Go.ChangeShapes Go.RowKit
open Go.Proofs.Ytcppjdjimmnlkaa.FSameSign
theorem own : ownKnob Try.prog.godebug = none := by kernel_rfl
set_option maxRecDepth 100000 in
theorem lifted (os : Os) (started : os.Started) (H : Type) (enc : TypeId × Value → H) :
    ReturnsInHanded {} Try.checked os 3 .any (Rows.fnSameSignSpec.pre6 enc Try.prog Try.f3 Rows.fnSameSignRow.domain false) (Rows.fnSameSignSpec.post enc Try.prog Try.f3 false true false false) :=
  row_of (C := Try.checked) (c := c3) 8 own started (by kernel_rfl) Try.func3
    (ChangeSpec.witness6 (enc := enc) (C := Try.checked) false ⟨#[], #[.float .f64 0, .float .f64 0], []⟩ 8 (by kernel_rfl) (by kernel_rfl) (by kernel_rfl) (by kernel_rfl))
    rfl (fun ds h => match ds, h with | [_, _], _ => rfl) (by kernel_rfl) (by kernel_rfl) rfl (by kernel_rfl) (by kernel_rfl) rfl s3 (bt := 4) (by kernel_rfl) (by kernel_rfl) (by kernel_rfl)
    (fun x _ => ⟨true, law x.1 x.2.1, fun w Fz v h => by simpa [resV, resL, RV, Kd.isAgg, RP, c3] using h⟩)
theorem over : Rows.fnSameSignRow.holds Try.pinned (OpenSpec.ofChange Rows.fnSameSignSpec) :=
  OpenClaim.holds_of_wide 3 Try.f3 rfl rfl rfl rfl rfl rfl rfl ⟨rfl, rfl, rfl, rfl, rfl⟩ rfl rfl rfl rfl rfl (by kernel_rfl) Try.func3 (by kernel_rfl)
    (of_decide_eq_true (by kernel_rfl)) (by unfold Func.isWrapper; first | (rw [if_pos (by decide +kernel)]; kernel_rfl) | (rw [if_neg (by decide +kernel)]; exact ⟨rfl, rfl⟩))
    (fun os started H enc _ => lifted os started H enc)
theorem proved : Rows.FnSameSignSaid := over
#print axioms proved
end Go.Proofs.Ytcppjdjimmnlkaa.fnSameSign
namespace Go.Proofs.Ytcppjdjimmnlkaa
/-- The row, under a short name, for the claim. -/
theorem fnSameSign_holds : Rows.FnSameSignSaid := fnSameSign.proved
end Go.Proofs.Ytcppjdjimmnlkaa
