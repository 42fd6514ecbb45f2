/- A polygon, a multi or a collection of good data is built out of the empty one of its kind and layout by pushing each of its parts in turn, all numbers bit by bit. -/
import Derived.Test.YtmjcojdafeaiaaaGreatRows
import Derived.Test.YtmjcojdafeaiaaaGreatPA
import Derived.Test.YtmjcojdafeaiaaaGreatPvPA
import Derived.Test.YtmjcojdafeaiaaaGreatAv30
import Derived.WalkKit
import Derived.ProofKit
import Derived.OpenShut
import Derived.ChangeOld
import Derived.SizedLaws
set_option linter.unusedVariables false
namespace Go.Proofs.YtmjcojdafeaiaaaGreat.fnPushAll
open Go.Av Go.ChangeShapes Go.RowKit
open Go.Proofs.YtmjcojdafeaiaaaGreat.PA
theorem own : ownKnob Tryz.prog.godebug = none := by kernel_rfl
set_option maxRecDepth 100000 in
theorem lifted (os : Os) (started : os.Started) (H : Type) (enc : TypeId × Value → H) :
    ReturnsInHanded {} Tryz.checked os 3 .any (Rows.fnPushAllSpec.pre6 enc Tryz.prog Tryz.f3 Rows.fnPushAllRow.domain false) (Rows.fnPushAllSpec.post enc Tryz.prog Tryz.f3 false true false false) :=
  rowN_of (C := Tryz.checked) (ps := [.k .geo]) (rs := [.bool]) (fnN := fun N x => laws_FnPushAll N x.1) 12 own started (by kernel_rfl) Tryz.func3
    (ChangeSpec.witness6 (enc := enc) (C := Tryz.checked) false ⟨#[], #[.agg #[.int .i64 0, .int .i64 0, .int .i64 0, .slice none 0 0, .slice none 0 0, .slice none 0 0, .slice none 0 0]], []⟩ 12 (by kernel_rfl) (by kernel_rfl) (by kernel_rfl) (by kernel_rfl))
    rfl (fun ds h => match ds, h with | [_], _ => rfl) (by kernel_rfl) (by kernel_rfl) (by kernel_rfl) (by kernel_rfl) rfl (fun N => laws_FnPushAll_s N) (bt := 4) (by kernel_rfl) (by kernel_rfl) (by kernel_rfl)
    (fun x hx => ⟨(18446744073709551616 + PvGeoPA.dep x.1), true, PvPA.law (by omega) (by omega) x.1 (by omega) hx.1, fun w Fz v h => by simpa [resV, resL, RV, Kd.isAgg, RP] using h⟩)
theorem over : Rows.fnPushAllRow.holds Tryz.pinned (OpenSpec.ofChange Rows.fnPushAllSpec) :=
  OpenClaim.holds_of_wide 3 Tryz.f3 rfl rfl rfl rfl rfl rfl rfl ⟨rfl, rfl, rfl, rfl, rfl⟩ rfl rfl rfl rfl rfl (by kernel_rfl) Tryz.func3 (by kernel_rfl)
    (of_decide_eq_true (by kernel_rfl)) (by unfold Func.isWrapper; first | (rw [if_pos (by decide +kernel)]; kernel_rfl) | (rw [if_neg (by decide +kernel)]; exact ⟨rfl, rfl⟩))
    (fun os started H enc _ => lifted os started H enc)
theorem proved : Rows.FnPushAllSaid := over
#print axioms proved
end Go.Proofs.YtmjcojdafeaiaaaGreat.fnPushAll
namespace Go.Proofs.YtmjcojdafeaiaaaGreat
/-- The row, under a short name, for the claim. -/
theorem fnPushAll_holds : Rows.FnPushAllSaid := fnPushAll.proved
end Go.Proofs.YtmjcojdafeaiaaaGreat
