/- A geometry of good data that is no collection and no empty point (at most 2000 parts, ends and numbers; layouts up to 9) is well formed. It rests on the given tie of eight package variables (errors), which the law's run does not read. -/
import Derived.Test.YtjabjnkiddldeaaDoorCards
import Derived.Test.YtjabjnkiddldeaaDoorTie
import Derived.Test.YtjabjnkiddldeaaDoorVE
import Derived.Test.YtjabjnkiddldeaaDoorPvVerify
import Derived.Test.YtjabjnkiddldeaaDoorAv37
import Derived.WalkKit
import Derived.ProofKit
import Derived.OpenShut
import Derived.ChangeOld
import Derived.SizedLaws
set_option linter.unusedVariables false
namespace Go.Proofs.YtjabjnkiddldeaaDoor.fnVerify
open Go.Av Go.ChangeShapes Go.RowKit Go.WideShapes Go.ChangeAt
open Go.Proofs.YtjabjnkiddldeaaDoor.VE
theorem own : ownKnob Tryd.prog.godebug = none := by kernel_rfl
noncomputable def laidL : List (Nat × ByteArray) := [(14, ⟨#[103, 101, 111, 109, 58, 32, 105, 110, 99, 111, 114, 114, 101, 99, 116, 32, 101, 110, 100]⟩), (10, ⟨#[103, 101, 111, 109, 58, 32, 108, 101, 110, 103, 116, 104, 47, 115, 116, 114, 105, 100, 101, 32, 109, 105, 115, 109, 97, 116, 99, 104]⟩), (12, ⟨#[103, 101, 111, 109, 58, 32, 109, 105, 115, 97, 108, 105, 103, 110, 101, 100, 32, 101, 110, 100]⟩), (11, ⟨#[103, 101, 111, 109, 58, 32, 110, 111, 110, 45, 101, 109, 112, 116, 121, 32, 101, 110, 100, 115]⟩), (15, ⟨#[103, 101, 111, 109, 58, 32, 110, 111, 110, 45, 101, 109, 112, 116, 121, 32, 101, 110, 100, 115, 115]⟩), (9, ⟨#[103, 101, 111, 109, 58, 32, 110, 111, 110, 45, 101, 109, 112, 116, 121, 32, 102, 108, 97, 116, 67, 111, 111, 114, 100, 115]⟩), (13, ⟨#[103, 101, 111, 109, 58, 32, 111, 117, 116, 45, 111, 102, 45, 111, 114, 100, 101, 114, 32, 101, 110, 100]⟩), (8, ⟨#[103, 101, 111, 109, 58, 32, 115, 116, 114, 105, 100, 101, 47, 108, 97, 121, 111, 117, 116, 32, 109, 105, 115, 109, 97, 116, 99, 104]⟩)]
theorem laid_met (os : Os) : laidMet Tryd.prog Rows.fnVerifyRow.laid ((laidW Tryd.prog os 292 323 laidL).forCall (fun _ _ => 0) ⟨#[], #[.agg #[.int .i64 0, .int .i64 0, .int .i64 0, .slice none 0 0, .slice none 0 0, .slice none 0 0, .slice none 0 0]], []⟩).memory :=
  laidMet_of_run' 12 (by kernel_rfl) (by kernel_rfl)
theorem reads (os : Os) {H : Type} (enc : TypeId × Value → H) : ∃ places, DataW.whole enc Tryd.prog ((laidW Tryd.prog os 292 323 laidL).forCall (fun _ _ => 0) ⟨#[], #[.agg #[.int .i64 0, .int .i64 0, .int .i64 0, .slice none 0 0, .slice none 0 0, .slice none 0 0, .slice none 0 0]], []⟩).memory Tryd.f8.params.toList Rows.fnVerifySpec.vars false #[(.agg #[.int .i64 0, .int .i64 0, .int .i64 0, .slice none 0 0, .slice none 0 0, .slice none 0 0, .slice none 0 0] : Value)].toList 12 = some ([.agg [.lit (.int .i64 0), .lit (.int .i64 0), .lit (.int .i64 0), .nil, .nil, .nil, .nil]], [], places) :=
  ⟨[], by kernel_rfl⟩
set_option maxRecDepth 100000 in
theorem lifted (os : Os) (started : os.Started) (H : Type) (enc : TypeId × Value → H) (F : Stop.Interp) :
    ReturnsInHanded {} Tryd.checked os 8 .any ((OpenSpec.ofChange Rows.fnVerifySpec).preRow enc Tryd.prog Tryd.f8 Rows.fnVerifyRow.domain false Rows.fnVerifyRow.laid) (((OpenSpec.ofChange Rows.fnVerifySpec).at F).post enc Tryd.prog Tryd.f8 false true false false) := by
  obtain ⟨places, hx⟩ := reads os enc
  exact rowlN_of (C := Tryd.checked) (ps := [.k .geo]) (rs := [.bool]) (fnN := fun N x => laws_FnVerify N x.1) 12 own started (by kernel_rfl) Tryd.func8
    (witness_row_at (enc := enc) (C := Tryd.checked) false (laidW Tryd.prog os 292 323 laidL) #[.agg #[.int .i64 0, .int .i64 0, .int .i64 0, .slice none 0 0, .slice none 0 0, .slice none 0 0, .slice none 0 0]] rfl (by kernel_rfl) (by kernel_rfl) (by kernel_rfl)
      (OpenSpec.preRow_of_cond 12 hx (by kernel_rfl) (fun k hk => by cases hk) (by kernel_rfl) (laid_met os)))
    rfl (fun ds h => match ds, h with | [_], _ => rfl) (by kernel_rfl) (by kernel_rfl) (by kernel_rfl) (by kernel_rfl) rfl (fun N => laws_FnVerify_s N) (bt := 4) (by kernel_rfl) (by kernel_rfl) (by kernel_rfl)
    (fun x hx => ⟨(18446744073709551616 + PvGeoVE.dep x.1), true, PvVerify.law (by omega) (by omega) x.1 (by omega) hx.1, fun w Fz v h => by simpa [resV, resL, RV, Kd.isAgg, RP] using h⟩)
theorem said : Rows.FnVerifySaid :=
  OpenClaim.holds_of_cond 8 Tryd.f8 rfl rfl rfl rfl rfl rfl rfl ⟨rfl, rfl, rfl, rfl, rfl⟩ rfl rfl rfl rfl rfl (by kernel_rfl) Tryd.func8 (by kernel_rfl)
    (of_decide_eq_true (by kernel_rfl)) (by unfold Func.isWrapper; first | (rw [if_pos (by decide +kernel)]; kernel_rfl) | (rw [if_neg (by decide +kernel)]; exact ⟨rfl, rfl⟩))
    (fun os started H enc _ F => by rw [OpenClaim.pre_eq_preRow]; exact lifted os started H enc F)
theorem plain (f : FuncId) (fn : Func) (hf : Tryd.pinned.checked.prog.funcNamed "pub-orthodrome/laws.FnVerify" = some f) (hfn : Tryd.pinned.checked.prog.funcs[f]? = some fn) :
    true = Tryd.pinned.checked.prog.looks [] ∧ ∀ (j : Nat) t, fn.params[j]? = some t → Tryd.pinned.checked.prog.wantsStandIn t = false := by
  obtain rfl : f = 8 := Option.some.inj ((show Tryd.prog.funcNamed "pub-orthodrome/laws.FnVerify" = some 8 by kernel_rfl).symm.trans hf) |>.symm
  obtain rfl : fn = Tryd.f8 := (Option.some.inj (Tryd.func8.symm.trans hfn)).symm
  refine ⟨by kernel_rfl, fun j t ht => ?_⟩
  have hall : (Tryd.f8.params.toList.all fun t => !Tryd.prog.wantsStandIn t) = true := by kernel_rfl
  have := List.all_eq_true.1 hall t (Array.mem_toList_iff.2 (Array.mem_of_getElem? ht))
  show Tryd.prog.wantsStandIn t = false
  simpa using this
theorem card : Rows.FnVerifyCardSaid :=
  Claim7.holds_tied_plain_at .later [] _ _ _ _ said (fun _ h => by cases h) (by kernel_rfl) (fun _ h => by cases h) fnVerify_row_tie rfl ⟨rfl, rfl⟩ (by kernel_rfl) rfl plain (by kernel_rfl)
#print axioms card
end Go.Proofs.YtjabjnkiddldeaaDoor.fnVerify
namespace Go.Proofs.YtjabjnkiddldeaaDoor
/-- The card, under a short name, for the claim. -/
theorem fnVerify_holds : Rows.FnVerifyCardSaid := fnVerify.card
end Go.Proofs.YtjabjnkiddldeaaDoor
