/- The centre of at most 20 points with whole places of at most 64: the implementation's two numbers lie within 2^-20 of the exact mean. -/
import Derived.Test.YtjabjnkiddldeaaGreatRows
import Derived.Test.YtjabjnkiddldeaaGreatPC
import Derived.Test.YtjabjnkiddldeaaGreatPvPC
import Derived.Test.YtjabjnkiddldeaaGreatAv30
import Derived.WalkKit
import Derived.ProofKit
import Derived.OpenShut
import Derived.ChangeOld
import Derived.SizedLaws
set_option linter.unusedVariables false
namespace Go.Proofs.YtjabjnkiddldeaaGreat.fnPointsCentroid
open Go.Av Go.ChangeShapes Go.RowKit
open Go.Proofs.YtjabjnkiddldeaaGreat.PC
theorem own : ownKnob Tryz.prog.godebug = none := by kernel_rfl
set_option maxRecDepth 100000 in
theorem lifted (os : Os) (started : os.Started) (H : Type) (enc : TypeId × Value → H) :
    ReturnsInHanded {} Tryz.checked os 3 .any (Rows.fnPointsCentroidSpec.pre6 enc Tryz.prog Tryz.f3 Rows.fnPointsCentroidRow.domain false) (Rows.fnPointsCentroidSpec.post enc Tryz.prog Tryz.f3 false true false false) :=
  rowN_of (C := Tryz.checked) (ps := [.k (.int .i64), .k (.list .geo)]) (rs := [.bool]) (fnN := fun N x => laws_FnPointsCentroid N x.1 x.2.1) 12 own started (by kernel_rfl) Tryz.func3
    (ChangeSpec.witness6 (enc := enc) (C := Tryz.checked) false ⟨#[], #[.int .i64 0, .slice none 0 0], []⟩ 12 (by kernel_rfl) (by kernel_rfl) (by kernel_rfl) (by kernel_rfl))
    rfl (fun ds h => match ds, h with | [_, _], _ => rfl) (by kernel_rfl) (by kernel_rfl) (by kernel_rfl) (by kernel_rfl) rfl (fun N => laws_FnPointsCentroid_s N) (bt := 4) (by kernel_rfl) (by kernel_rfl) (by kernel_rfl)
    (fun x hx => ⟨(18446744073709551616 + PvGeoPC.deps x.2.1), true, PvPC.top (by omega) (by omega) x.1 x.2.1 hx.2.1 (by omega), fun w Fz v h => by simpa [resV, resL, RV, Kd.isAgg, RP] using h⟩)
theorem over : Rows.fnPointsCentroidRow.holds Tryz.pinned (OpenSpec.ofChange Rows.fnPointsCentroidSpec) :=
  OpenClaim.holds_of_wide 3 Tryz.f3 rfl rfl rfl rfl rfl rfl rfl ⟨rfl, rfl, rfl, rfl, rfl⟩ rfl rfl rfl rfl rfl (by kernel_rfl) Tryz.func3 (by kernel_rfl)
    (of_decide_eq_true (by kernel_rfl)) (by unfold Func.isWrapper; first | (rw [if_pos (by decide +kernel)]; kernel_rfl) | (rw [if_neg (by decide +kernel)]; exact ⟨rfl, rfl⟩))
    (fun os started H enc _ => lifted os started H enc)
theorem proved : Rows.FnPointsCentroidSaid := over
#print axioms proved
end Go.Proofs.YtjabjnkiddldeaaGreat.fnPointsCentroid
namespace Go.Proofs.YtjabjnkiddldeaaGreat
/-- The row, under a short name, for the claim. -/
theorem fnPointsCentroid_holds : Rows.FnPointsCentroidSaid := fnPointsCentroid.proved
end Go.Proofs.YtjabjnkiddldeaaGreat
