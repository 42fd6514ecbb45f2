/- Within each of the cubes of half the side, a Hilbert curve is the curve whose order is less by 1, turned or mirrored, in the same way as at the order 2 (2, 3 or 4 dimensions, orders from 2 to 31, 20 and 15). It rests on the given tie of two package variables (errors), which the law's run does not read. -/
import Derived.Test.YtjabjnkiddldeaaDoorCards
import Derived.Test.YtjabjnkiddldeaaDoorTie
import Derived.Test.YtjabjnkiddldeaaDoorHC
import Derived.Test.YtjabjnkiddldeaaDoorPvCopies
import Derived.Test.YtjabjnkiddldeaaDoorAv33
import Derived.WalkKit
import Derived.ProofKit
import Derived.OpenShut
import Derived.ChangeOld
import Derived.SizedLaws
set_option linter.unusedVariables false
namespace Go.Proofs.YtjabjnkiddldeaaDoor.fnHilbertCopies
open Go.Av Go.ChangeShapes Go.RowKit Go.WideShapes Go.ChangeAt
open Go.Proofs.YtjabjnkiddldeaaDoor.HC
theorem own : ownKnob Tryd.prog.godebug = none := by kernel_rfl
noncomputable def laidL : List (Nat × ByteArray) := [(4, ⟨#[111, 114, 100, 101, 114, 32, 105, 115, 32, 108, 101, 115, 115, 32, 116, 104, 97, 110, 32, 49]⟩), (5, ⟨#[111, 118, 101, 114, 102, 108, 111, 119, 32, 105, 110, 116]⟩)]
theorem laid_met (os : Os) : laidMet Tryd.prog Rows.fnHilbertCopiesRow.laid ((laidW Tryd.prog os 292 323 laidL).forCall (fun _ _ => 0) ⟨#[], #[.int .i64 0, .int .i64 0, .int .i64 0], []⟩).memory :=
  laidMet_of_run' 12 (by kernel_rfl) (by kernel_rfl)
theorem reads (os : Os) {H : Type} (enc : TypeId × Value → H) : ∃ places, DataW.whole enc Tryd.prog ((laidW Tryd.prog os 292 323 laidL).forCall (fun _ _ => 0) ⟨#[], #[.int .i64 0, .int .i64 0, .int .i64 0], []⟩).memory Tryd.f7.params.toList Rows.fnHilbertCopiesSpec.vars false #[(.int .i64 0 : Value), (.int .i64 0 : Value), (.int .i64 0 : Value)].toList 12 = some ([.lit (.int .i64 0), .lit (.int .i64 0), .lit (.int .i64 0)], [], places) :=
  ⟨[], by kernel_rfl⟩
set_option maxRecDepth 100000 in
theorem lifted (os : Os) (started : os.Started) (H : Type) (enc : TypeId × Value → H) (F : Stop.Interp) :
    ReturnsInHanded {} Tryd.checked os 7 .any ((OpenSpec.ofChange Rows.fnHilbertCopiesSpec).preRow enc Tryd.prog Tryd.f7 Rows.fnHilbertCopiesRow.domain false Rows.fnHilbertCopiesRow.laid) (((OpenSpec.ofChange Rows.fnHilbertCopiesSpec).at F).post enc Tryd.prog Tryd.f7 false true false false) := by
  obtain ⟨places, hx⟩ := reads os enc
  exact rowl_of (C := Tryd.checked) (c := laws_FnHilbertCopies_con 18446744073709551616) 12 own started (by kernel_rfl) Tryd.func7
    (witness_row_at (enc := enc) (C := Tryd.checked) false (laidW Tryd.prog os 292 323 laidL) #[.int .i64 0, .int .i64 0, .int .i64 0] rfl (by kernel_rfl) (by kernel_rfl) (by kernel_rfl)
      (OpenSpec.preRow_of_cond 12 hx (by kernel_rfl) (fun k hk => by cases hk) (by kernel_rfl) (laid_met os)))
    rfl (fun ds h => match ds, h with | [_, _, _], _ => rfl) (by kernel_rfl) (by kernel_rfl) rfl (by kernel_rfl) (by kernel_rfl) rfl (laws_FnHilbertCopies_s _) (bt := 4) (by kernel_rfl) (by kernel_rfl) (by kernel_rfl)
    (fun x hx => ⟨true, PvCopies.law x.1 x.2.1 x.2.2.1, fun w Fz v h => by simpa [resV, resL, RV, Kd.isAgg, RP, laws_FnHilbertCopies_con] using h⟩)
theorem said : Rows.FnHilbertCopiesSaid :=
  OpenClaim.holds_of_cond 7 Tryd.f7 rfl rfl rfl rfl rfl rfl rfl ⟨rfl, rfl, rfl, rfl, rfl⟩ rfl rfl rfl rfl rfl (by kernel_rfl) Tryd.func7 (by kernel_rfl)
    (of_decide_eq_true (by kernel_rfl)) (by unfold Func.isWrapper; first | (rw [if_pos (by decide +kernel)]; kernel_rfl) | (rw [if_neg (by decide +kernel)]; exact ⟨rfl, rfl⟩))
    (fun os started H enc _ F => by rw [OpenClaim.pre_eq_preRow]; exact lifted os started H enc F)
theorem plain (f : FuncId) (fn : Func) (hf : Tryd.pinned.checked.prog.funcNamed "pub-orthodrome/laws.FnHilbertCopies" = some f) (hfn : Tryd.pinned.checked.prog.funcs[f]? = some fn) :
    true = Tryd.pinned.checked.prog.looks [] ∧ ∀ (j : Nat) t, fn.params[j]? = some t → Tryd.pinned.checked.prog.wantsStandIn t = false := by
  obtain rfl : f = 7 := Option.some.inj ((show Tryd.prog.funcNamed "pub-orthodrome/laws.FnHilbertCopies" = some 7 by kernel_rfl).symm.trans hf) |>.symm
  obtain rfl : fn = Tryd.f7 := (Option.some.inj (Tryd.func7.symm.trans hfn)).symm
  refine ⟨by kernel_rfl, fun j t ht => ?_⟩
  have hall : (Tryd.f7.params.toList.all fun t => !Tryd.prog.wantsStandIn t) = true := by kernel_rfl
  have := List.all_eq_true.1 hall t (Array.mem_toList_iff.2 (Array.mem_of_getElem? ht))
  show Tryd.prog.wantsStandIn t = false
  simpa using this
theorem card : Rows.FnHilbertCopiesCardSaid :=
  Claim7.holds_tied_plain_at .later [] _ _ _ _ said (fun _ h => by cases h) (by kernel_rfl) (fun _ h => by cases h) fnHilbertCopies_row_tie rfl ⟨rfl, rfl⟩ (by kernel_rfl) rfl plain (by kernel_rfl)
#print axioms card
end Go.Proofs.YtjabjnkiddldeaaDoor.fnHilbertCopies
namespace Go.Proofs.YtjabjnkiddldeaaDoor
/-- The card, under a short name, for the claim. -/
theorem fnHilbertCopies_holds : Rows.FnHilbertCopiesCardSaid := fnHilbertCopies.card
end Go.Proofs.YtjabjnkiddldeaaDoor
