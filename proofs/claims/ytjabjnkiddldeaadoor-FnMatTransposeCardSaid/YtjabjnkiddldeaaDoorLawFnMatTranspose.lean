/- The transposed matrix has, of one with whole numbers from -1024 to 1024, the rows as its columns, and the transposed product of two is the product of the transposed ones the other way about. It rests on the given tie of three package variables (errors), which the law's run does not read. -/
import Derived.Test.YtjabjnkiddldeaaDoorCards
import Derived.Test.YtjabjnkiddldeaaDoorTie
import Derived.Test.YtjabjnkiddldeaaDoorMD
import Derived.Test.YtjabjnkiddldeaaDoorPvMat
import Derived.Test.YtjabjnkiddldeaaDoorAv36
import Derived.WalkKit
import Derived.ProofKit
import Derived.OpenShut
import Derived.ChangeOld
import Derived.SizedLaws
set_option linter.unusedVariables false
namespace Go.Proofs.YtjabjnkiddldeaaDoor.fnMatTranspose
open Go.Av Go.ChangeShapes Go.RowKit Go.WideShapes Go.ChangeAt
open Go.Proofs.YtjabjnkiddldeaaDoor.MD
theorem own : ownKnob Tryd.prog.godebug = none := by kernel_rfl
noncomputable def laidL : List (Nat × ByteArray) := [(6, ⟨#[109, 97, 116, 58, 32, 114, 111, 119, 32, 105, 110, 100, 101, 120, 32, 111, 117, 116, 32, 111, 102, 32, 114, 97, 110, 103, 101]⟩), (7, ⟨#[109, 97, 116, 58, 32, 99, 111, 108, 117, 109, 110, 32, 105, 110, 100, 101, 120, 32, 111, 117, 116, 32, 111, 102, 32, 114, 97, 110, 103, 101]⟩), (1, ⟨#[109, 97, 116, 58, 32, 100, 105, 109, 101, 110, 115, 105, 111, 110, 32, 109, 105, 115, 109, 97, 116, 99, 104]⟩)]
theorem laid_met (os : Os) : laidMet Tryd.prog Rows.fnMatTransposeRow.laid ((laidS Tryd.prog os laidL).forCall (fun _ _ => 0) ⟨#[], #[.agg #[.float .f64 0, .float .f64 0, .float .f64 0, .float .f64 0, .float .f64 0, .float .f64 0, .float .f64 0, .float .f64 0, .float .f64 0], .agg #[.float .f64 0, .float .f64 0, .float .f64 0, .float .f64 0, .float .f64 0, .float .f64 0, .float .f64 0, .float .f64 0, .float .f64 0]], []⟩).memory :=
  laidMet_of_run' 12 (by kernel_rfl) (by kernel_rfl)
theorem reads (os : Os) {H : Type} (enc : TypeId × Value → H) : ∃ places, DataW.whole enc Tryd.prog ((laidS Tryd.prog os laidL).forCall (fun _ _ => 0) ⟨#[], #[.agg #[.float .f64 0, .float .f64 0, .float .f64 0, .float .f64 0, .float .f64 0, .float .f64 0, .float .f64 0, .float .f64 0, .float .f64 0], .agg #[.float .f64 0, .float .f64 0, .float .f64 0, .float .f64 0, .float .f64 0, .float .f64 0, .float .f64 0, .float .f64 0, .float .f64 0]], []⟩).memory Tryd.f4.params.toList Rows.fnMatTransposeSpec.vars false #[(.agg #[.float .f64 0, .float .f64 0, .float .f64 0, .float .f64 0, .float .f64 0, .float .f64 0, .float .f64 0, .float .f64 0, .float .f64 0] : Value), (.agg #[.float .f64 0, .float .f64 0, .float .f64 0, .float .f64 0, .float .f64 0, .float .f64 0, .float .f64 0, .float .f64 0, .float .f64 0] : Value)].toList 12 = some ([.agg [.lit (.float .f64 0), .lit (.float .f64 0), .lit (.float .f64 0), .lit (.float .f64 0), .lit (.float .f64 0), .lit (.float .f64 0), .lit (.float .f64 0), .lit (.float .f64 0), .lit (.float .f64 0)], .agg [.lit (.float .f64 0), .lit (.float .f64 0), .lit (.float .f64 0), .lit (.float .f64 0), .lit (.float .f64 0), .lit (.float .f64 0), .lit (.float .f64 0), .lit (.float .f64 0), .lit (.float .f64 0)]], [], places) :=
  ⟨[], by kernel_rfl⟩
set_option maxRecDepth 100000 in
theorem lifted (os : Os) (started : os.Started) (H : Type) (enc : TypeId × Value → H) (F : Stop.Interp) :
    ReturnsInHanded {} Tryd.checked os 4 .any ((OpenSpec.ofChange Rows.fnMatTransposeSpec).preRow enc Tryd.prog Tryd.f4 Rows.fnMatTransposeRow.domain false Rows.fnMatTransposeRow.laid) (((OpenSpec.ofChange Rows.fnMatTransposeSpec).at F).post enc Tryd.prog Tryd.f4 false true false false) := by
  obtain ⟨places, hx⟩ := reads os enc
  exact rowl_of (C := Tryd.checked) (c := laws_FnMatTranspose_con 18446744073709551616) 12 own started (by kernel_rfl) Tryd.func4
    (witness_row_at (enc := enc) (C := Tryd.checked) false (laidS Tryd.prog os laidL) #[.agg #[.float .f64 0, .float .f64 0, .float .f64 0, .float .f64 0, .float .f64 0, .float .f64 0, .float .f64 0, .float .f64 0, .float .f64 0], .agg #[.float .f64 0, .float .f64 0, .float .f64 0, .float .f64 0, .float .f64 0, .float .f64 0, .float .f64 0, .float .f64 0, .float .f64 0]] rfl (by kernel_rfl) (by kernel_rfl) (by kernel_rfl)
      (OpenSpec.preRow_of_cond 12 hx (by kernel_rfl) (fun k hk => by cases hk) (by kernel_rfl) (laid_met os)))
    rfl (fun ds h => match ds, h with | [_, _], _ => rfl) (by kernel_rfl) (by kernel_rfl) rfl (by kernel_rfl) (by kernel_rfl) rfl (laws_FnMatTranspose_s _) (bt := 4) (by kernel_rfl) (by kernel_rfl) (by kernel_rfl)
    (fun x hx => ⟨true, PvMat.law_tr x.1 x.2.1, fun w Fz v h => by simpa [resV, resL, RV, Kd.isAgg, RP, laws_FnMatTranspose_con] using h⟩)
theorem said : Rows.FnMatTransposeSaid :=
  OpenClaim.holds_of_cond 4 Tryd.f4 rfl rfl rfl rfl rfl rfl rfl ⟨rfl, rfl, rfl, rfl, rfl⟩ rfl rfl rfl rfl rfl (by kernel_rfl) Tryd.func4 (by kernel_rfl)
    (of_decide_eq_true (by kernel_rfl)) (by unfold Func.isWrapper; first | (rw [if_pos (by decide +kernel)]; kernel_rfl) | (rw [if_neg (by decide +kernel)]; exact ⟨rfl, rfl⟩))
    (fun os started H enc _ F => by rw [OpenClaim.pre_eq_preRow]; exact lifted os started H enc F)
theorem plain (f : FuncId) (fn : Func) (hf : Tryd.pinned.checked.prog.funcNamed "pub-orthodrome/laws.FnMatTranspose" = some f) (hfn : Tryd.pinned.checked.prog.funcs[f]? = some fn) :
    true = Tryd.pinned.checked.prog.looks [] ∧ ∀ (j : Nat) t, fn.params[j]? = some t → Tryd.pinned.checked.prog.wantsStandIn t = false := by
  obtain rfl : f = 4 := Option.some.inj ((show Tryd.prog.funcNamed "pub-orthodrome/laws.FnMatTranspose" = some 4 by kernel_rfl).symm.trans hf) |>.symm
  obtain rfl : fn = Tryd.f4 := (Option.some.inj (Tryd.func4.symm.trans hfn)).symm
  refine ⟨by kernel_rfl, fun j t ht => ?_⟩
  have hall : (Tryd.f4.params.toList.all fun t => !Tryd.prog.wantsStandIn t) = true := by kernel_rfl
  have := List.all_eq_true.1 hall t (Array.mem_toList_iff.2 (Array.mem_of_getElem? ht))
  show Tryd.prog.wantsStandIn t = false
  simpa using this
theorem card : Rows.FnMatTransposeCardSaid :=
  Claim7.holds_tied_plain_at .later [] _ _ _ _ said (fun _ h => by cases h) (by kernel_rfl) (fun _ h => by cases h) fnMatTranspose_row_tie rfl ⟨rfl, rfl⟩ (by kernel_rfl) rfl plain (by kernel_rfl)
#print axioms card
end Go.Proofs.YtjabjnkiddldeaaDoor.fnMatTranspose
namespace Go.Proofs.YtjabjnkiddldeaaDoor
/-- The card, under a short name, for the claim. -/
theorem fnMatTranspose_holds : Rows.FnMatTransposeCardSaid := fnMatTranspose.card
end Go.Proofs.YtjabjnkiddldeaaDoor
