/- One box overlaps another in a layout just if the other overlaps it; for all boxes and layouts. -/
import Derived.Test.YtcppjdjimmnlkabRows
import Derived.Test.YtcppjdjimmnlkabFBox
import Derived.Test.YtcppjdjimmnlkabPvBoxTurn
import Derived.Test.YtcppjdjimmnlkabAv16
import Derived.WalkKit
import Derived.ProofKit
import Derived.OpenShut
import Derived.ChangeOld
import Derived.SizedLaws
set_option linter.unusedVariables false
namespace Go.Proofs.Ytcppjdjimmnlkab.fnBoxOverlapsTurn
open Go.Av Go.ChangeShapes Go.RowKit
open Go.Proofs.Ytcppjdjimmnlkab.FBox
theorem own : ownKnob Try.prog.godebug = none := by kernel_rfl
set_option maxRecDepth 100000 in
theorem lifted (os : Os) (started : os.Started) (H : Type) (enc : TypeId × Value → H) :
    ReturnsInHanded {} Try.checked os 3 .any (Rows.fnBoxOverlapsTurnSpec.pre6 enc Try.prog Try.f3 Rows.fnBoxOverlapsTurnRow.domain false) (Rows.fnBoxOverlapsTurnSpec.post enc Try.prog Try.f3 false true false false) :=
  row_of (C := Try.checked) (c := laws_FnBoxOverlapsTurn_con 18446744073709551616) 12 own started (by kernel_rfl) Try.func3
    (ChangeSpec.witness6 (enc := enc) (C := Try.checked) false ⟨#[], #[.int .i64 0, .agg #[.int .i64 0, .slice none 0 0, .slice none 0 0], .agg #[.int .i64 0, .slice none 0 0, .slice none 0 0]], []⟩ 12 (by kernel_rfl) (by kernel_rfl) (by kernel_rfl) (by kernel_rfl))
    rfl (fun ds h => match ds, h with | [_, _, _], _ => rfl) (by kernel_rfl) (by kernel_rfl) rfl (by kernel_rfl) (by kernel_rfl) rfl (laws_FnBoxOverlapsTurn_s _) (bt := 4) (by kernel_rfl) (by kernel_rfl) (by kernel_rfl)
    (fun x hx => ⟨true, PvBoxTurn.law x.1 x.2.1 x.2.2.1, fun w Fz v h => by simpa [resV, resL, RV, Kd.isAgg, RP, laws_FnBoxOverlapsTurn_con] using h⟩)
theorem over : Rows.fnBoxOverlapsTurnRow.holds Try.pinned (OpenSpec.ofChange Rows.fnBoxOverlapsTurnSpec) :=
  OpenClaim.holds_of_wide 3 Try.f3 rfl rfl rfl rfl rfl rfl rfl ⟨rfl, rfl, rfl, rfl, rfl⟩ rfl rfl rfl rfl rfl (by kernel_rfl) Try.func3 (by kernel_rfl)
    (of_decide_eq_true (by kernel_rfl)) (by unfold Func.isWrapper; first | (rw [if_pos (by decide +kernel)]; kernel_rfl) | (rw [if_neg (by decide +kernel)]; exact ⟨rfl, rfl⟩))
    (fun os started H enc _ => lifted os started H enc)
theorem proved : Rows.FnBoxOverlapsTurnSaid := over
#print axioms proved
end Go.Proofs.Ytcppjdjimmnlkab.fnBoxOverlapsTurn
namespace Go.Proofs.Ytcppjdjimmnlkab
/-- The row, under a short name, for the claim. -/
theorem fnBoxOverlapsTurn_holds : Rows.FnBoxOverlapsTurnSaid := fnBoxOverlapsTurn.proved
end Go.Proofs.Ytcppjdjimmnlkab
