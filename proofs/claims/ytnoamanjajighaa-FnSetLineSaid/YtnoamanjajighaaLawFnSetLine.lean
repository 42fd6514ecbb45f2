/- Setting the places of a line string, a linear ring or a multi point takes them just if each has as many numbers as the layout says (nil in a multi point is an empty point), and the geometry has these then; for every kind, layout and list of places. -/
import Derived.Test.YtnoamanjajighaaRows
import Derived.Test.YtnoamanjajighaaSL
import Derived.Test.YtnoamanjajighaaPvSetLine
import Derived.Test.YtnoamanjajighaaAv16
import Derived.WalkKit
import Derived.ProofKit
import Derived.OpenShut
import Derived.ChangeOld
import Derived.SizedLaws
set_option linter.unusedVariables false
namespace Go.Proofs.Ytnoamanjajighaa.fnSetLine
open Go.Av Go.ChangeShapes Go.RowKit
open Go.Proofs.Ytnoamanjajighaa.SL
theorem own : ownKnob Try.prog.godebug = none := by kernel_rfl
set_option maxRecDepth 100000 in
theorem lifted (os : Os) (started : os.Started) (H : Type) (enc : TypeId × Value → H) :
    ReturnsInHanded {} Try.checked os 3 .any (Rows.fnSetLineSpec.pre6 enc Try.prog Try.f3 Rows.fnSetLineRow.domain false) (Rows.fnSetLineSpec.post enc Try.prog Try.f3 false true false false) :=
  row_of (C := Try.checked) (c := laws_FnSetLine_con 18446744073709551616) 12 own started (by kernel_rfl) Try.func3
    (ChangeSpec.witness6 (enc := enc) (C := Try.checked) false ⟨#[], #[.int .i64 0, .int .i64 0, .slice none 0 0], []⟩ 12 (by kernel_rfl) (by kernel_rfl) (by kernel_rfl) (by kernel_rfl))
    rfl (fun ds h => match ds, h with | [_, _, _], _ => rfl) (by kernel_rfl) (by kernel_rfl) rfl (by kernel_rfl) (by kernel_rfl) rfl (laws_FnSetLine_s _) (bt := 4) (by kernel_rfl) (by kernel_rfl) (by kernel_rfl)
    (fun x hx => ⟨true, PvSetLine.law (N := 18446744073709551616) (by omega) x.1 x.2.1 x.2.2.1, fun w Fz v h => by simpa [resV, resL, RV, Kd.isAgg, RP, laws_FnSetLine_con] using h⟩)
theorem over : Rows.fnSetLineRow.holds Try.pinned (OpenSpec.ofChange Rows.fnSetLineSpec) :=
  OpenClaim.holds_of_wide 3 Try.f3 rfl rfl rfl rfl rfl rfl rfl ⟨rfl, rfl, rfl, rfl, rfl⟩ rfl rfl rfl rfl rfl (by kernel_rfl) Try.func3 (by kernel_rfl)
    (of_decide_eq_true (by kernel_rfl)) (by unfold Func.isWrapper; first | (rw [if_pos (by decide +kernel)]; kernel_rfl) | (rw [if_neg (by decide +kernel)]; exact ⟨rfl, rfl⟩))
    (fun os started H enc _ => lifted os started H enc)
theorem proved : Rows.FnSetLineSaid := over
#print axioms proved
end Go.Proofs.Ytnoamanjajighaa.fnSetLine
namespace Go.Proofs.Ytnoamanjajighaa
/-- The row, under a short name, for the claim. -/
theorem fnSetLine_holds : Rows.FnSetLineSaid := fnSetLine.proved
end Go.Proofs.Ytnoamanjajighaa
