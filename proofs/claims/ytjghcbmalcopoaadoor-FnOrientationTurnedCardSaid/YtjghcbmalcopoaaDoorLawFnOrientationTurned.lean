/- The turn of any three places with whole coordinates from -2^25 to 2^25 is the same whichever of them comes first, the other one if two are exchanged, and 0 just if they lie on one line. It rests on the given tie of one package variable (a number). -/
import Derived.Test.YtjghcbmalcopoaaDoorCards
import Derived.Test.YtjghcbmalcopoaaDoorTie
import Derived.Test.YtjghcbmalcopoaaDoorOT
import Derived.Test.YtjghcbmalcopoaaDoorPvTurned
import Derived.Test.YtjghcbmalcopoaaDoorAv34
import Derived.WalkKit
import Derived.ProofKit
import Derived.OpenShut
import Derived.ChangeOld
import Derived.SizedLaws
set_option linter.unusedVariables false
namespace Go.Proofs.YtjghcbmalcopoaaDoor.fnOrientationTurned
open Go.Av Go.ChangeShapes Go.RowKit Go.WideShapes Go.ChangeAt
open Go.Proofs.YtjghcbmalcopoaaDoor.OT
theorem own : ownKnob Tryd.prog.godebug = none := by kernel_rfl
theorem laid_met (os : Os) : laidMet Tryd.prog Rows.fnOrientationTurnedRow.laid ((laidF Tryd.prog os [(1, 4382569440205035030)]).forCall (fun _ _ => 0) ⟨#[], #[.agg #[.float .f64 0, .float .f64 0], .agg #[.float .f64 0, .float .f64 0], .agg #[.float .f64 0, .float .f64 0]], []⟩).memory :=
  laidMet_of_run' 12 (by kernel_rfl) (by kernel_rfl)
theorem reads (os : Os) {H : Type} (enc : TypeId × Value → H) : ∃ places, DataW.whole enc Tryd.prog ((laidF Tryd.prog os [(1, 4382569440205035030)]).forCall (fun _ _ => 0) ⟨#[], #[.agg #[.float .f64 0, .float .f64 0], .agg #[.float .f64 0, .float .f64 0], .agg #[.float .f64 0, .float .f64 0]], []⟩).memory Tryd.f3.params.toList Rows.fnOrientationTurnedSpec.vars false #[(.agg #[.float .f64 0, .float .f64 0] : Value), (.agg #[.float .f64 0, .float .f64 0] : Value), (.agg #[.float .f64 0, .float .f64 0] : Value)].toList 12 = some ([.agg [.lit (.float .f64 0), .lit (.float .f64 0)], .agg [.lit (.float .f64 0), .lit (.float .f64 0)], .agg [.lit (.float .f64 0), .lit (.float .f64 0)]], [], places) :=
  ⟨[], by kernel_rfl⟩
set_option maxRecDepth 100000 in
theorem lifted (os : Os) (started : os.Started) (H : Type) (enc : TypeId × Value → H) (F : Stop.Interp) :
    ReturnsInHanded {} Tryd.checked os 3 .any ((OpenSpec.ofChange Rows.fnOrientationTurnedSpec).preRow enc Tryd.prog Tryd.f3 Rows.fnOrientationTurnedRow.domain false Rows.fnOrientationTurnedRow.laid) (((OpenSpec.ofChange Rows.fnOrientationTurnedSpec).at F).post enc Tryd.prog Tryd.f3 false true false false) := by
  obtain ⟨places, hx⟩ := reads os enc
  exact rowg_of (C := Tryd.checked) (c := laws_FnOrientationTurned_con 18446744073709551616) 12 (gl := GL _) (fun W h => gok_float (name := "pub-orthodrome/pub/gogeom/bigxy.dpSafeEpsilon") (g := 1) (t := 22) (b := 4382569440205035030) (rest := []) (by kernel_rfl) (by kernel_rfl) (by kernel_rfl) h) own started (by kernel_rfl) Tryd.func3
    (witness_row_at (enc := enc) (C := Tryd.checked) false (laidF Tryd.prog os [(1, 4382569440205035030)]) #[.agg #[.float .f64 0, .float .f64 0], .agg #[.float .f64 0, .float .f64 0], .agg #[.float .f64 0, .float .f64 0]] rfl (by kernel_rfl) (by kernel_rfl) (by kernel_rfl)
      (OpenSpec.preRow_of_cond 12 hx (by kernel_rfl) (fun k hk => by cases hk) (by kernel_rfl) (laid_met os)))
    rfl (fun ds h => match ds, h with | [_, _, _], _ => rfl) (by kernel_rfl) (by kernel_rfl) rfl (by kernel_rfl) (by kernel_rfl) rfl (laws_FnOrientationTurned_s _) (bt := 4) (by kernel_rfl) (by kernel_rfl) (by kernel_rfl)
    (fun x hx => ⟨true, PvTurned.law (by decide) (by decide) x.1 x.2.1 x.2.2.1 ⟨hx.1.1, hx.1.2.1⟩ ⟨hx.2.1.1, hx.2.1.2.1⟩ ⟨hx.2.2.1.1, hx.2.2.1.2.1⟩, fun w Fz v h => by simpa [resV, resL, RV, Kd.isAgg, RP, laws_FnOrientationTurned_con] using h⟩)
theorem said : Rows.FnOrientationTurnedSaid :=
  OpenClaim.holds_of_cond 3 Tryd.f3 rfl rfl rfl rfl rfl rfl rfl ⟨rfl, rfl, rfl, rfl, rfl⟩ rfl rfl rfl rfl rfl (by kernel_rfl) Tryd.func3 (by kernel_rfl)
    (of_decide_eq_true (by kernel_rfl)) (by unfold Func.isWrapper; first | (rw [if_pos (by decide +kernel)]; kernel_rfl) | (rw [if_neg (by decide +kernel)]; exact ⟨rfl, rfl⟩))
    (fun os started H enc _ F => by rw [OpenClaim.pre_eq_preRow]; exact lifted os started H enc F)
theorem plain (f : FuncId) (fn : Func) (hf : Tryd.pinned.checked.prog.funcNamed "pub-orthodrome/laws.FnOrientationTurned" = some f) (hfn : Tryd.pinned.checked.prog.funcs[f]? = some fn) :
    false = Tryd.pinned.checked.prog.looks [] ∧ ∀ (j : Nat) t, fn.params[j]? = some t → Tryd.pinned.checked.prog.wantsStandIn t = false := by
  obtain rfl : f = 3 := Option.some.inj ((show Tryd.prog.funcNamed "pub-orthodrome/laws.FnOrientationTurned" = some 3 by kernel_rfl).symm.trans hf) |>.symm
  obtain rfl : fn = Tryd.f3 := (Option.some.inj (Tryd.func3.symm.trans hfn)).symm
  refine ⟨by kernel_rfl, fun j t ht => ?_⟩
  have hall : (Tryd.f3.params.toList.all fun t => !Tryd.prog.wantsStandIn t) = true := by kernel_rfl
  have := List.all_eq_true.1 hall t (Array.mem_toList_iff.2 (Array.mem_of_getElem? ht))
  show Tryd.prog.wantsStandIn t = false
  simpa using this
theorem card : Rows.FnOrientationTurnedCardSaid :=
  Claim7.holds_tied_plain_at .later [] _ _ _ _ said (fun _ h => by cases h) (by kernel_rfl) (fun _ h => by cases h) fnOrientationTurned_row_tie rfl ⟨rfl, rfl⟩ (by kernel_rfl) rfl plain (by kernel_rfl)
#print axioms card
end Go.Proofs.YtjghcbmalcopoaaDoor.fnOrientationTurned
namespace Go.Proofs.YtjghcbmalcopoaaDoor
/-- The card, under a short name, for the claim. -/
theorem fnOrientationTurned_holds : Rows.FnOrientationTurnedCardSaid := fnOrientationTurned.card
end Go.Proofs.YtjghcbmalcopoaaDoor
