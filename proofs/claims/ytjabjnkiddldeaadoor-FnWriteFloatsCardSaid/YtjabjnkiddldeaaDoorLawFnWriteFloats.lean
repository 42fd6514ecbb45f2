/- Numbers, at most 300, are written as the eight bytes of each, the greatest first (big) or the least, and are read back from them, bit by bit. It rests on the given tie of three package variables (errors). -/
import Derived.Test.YtjabjnkiddldeaaDoorCards
import Derived.Test.YtjabjnkiddldeaaDoorTie
import Derived.Test.YtjabjnkiddldeaaDoorWF
import Derived.Test.YtjabjnkiddldeaaDoorPvWriteF
import Derived.Test.YtjabjnkiddldeaaDoorAv34
import Derived.Test.YtjabjnkiddldeaaDoorAv38
import Derived.WalkKit
import Derived.ProofKit
import Derived.OpenShut
import Derived.ChangeOld
import Derived.SizedLaws
set_option linter.unusedVariables false
namespace Go.Proofs.YtjabjnkiddldeaaDoor.fnWriteFloats
open Go.Av Go.ChangeShapes Go.RowKit Go.WideShapes Go.ChangeAt
open Go.Proofs.YtjabjnkiddldeaaDoor.WF
theorem own : ownKnob Tryd.prog.godebug = none := by kernel_rfl
noncomputable def laidL : List (Nat × ByteArray) := [(17, ⟨#[115, 104, 111, 114, 116, 32, 98, 117, 102, 102, 101, 114]⟩), (18, ⟨#[69, 79, 70]⟩), (19, ⟨#[117, 110, 101, 120, 112, 101, 99, 116, 101, 100, 32, 69, 79, 70]⟩)]
theorem laid_met (os : Os) : laidMet Tryd.prog Rows.fnWriteFloatsRow.laid ((laidW Tryd.prog os 292 323 laidL).forCall (fun _ _ => 0) ⟨#[], #[.slice none 0 0, .bool false], []⟩).memory :=
  laidMet_of_run' 12 (by kernel_rfl) (by kernel_rfl)
theorem reads (os : Os) {H : Type} (enc : TypeId × Value → H) : ∃ places, DataW.whole enc Tryd.prog ((laidW Tryd.prog os 292 323 laidL).forCall (fun _ _ => 0) ⟨#[], #[.slice none 0 0, .bool false], []⟩).memory Tryd.f6.params.toList Rows.fnWriteFloatsSpec.vars false #[(.slice none 0 0 : Value), (.bool false : Value)].toList 12 = some ([.nil, .lit (.bool false)], [], places) :=
  ⟨[], by kernel_rfl⟩
theorem star : "*" ++ "errors.errorString" = "*errors.errorString" := by decide
theorem row292 (u : TypeId) (h : Tryd.prog.typeName? 3 u = some "*errors.errorString") : u = 292 :=
  typeName_ptr_named (nm := "errors.errorString") (by rw [star]; kernel_rfl) (by kernel_rfl) (by decide) u (by rw [star]; exact h)
theorem nohandle : (Rows.fnWriteFloatsRow.laid.filter fun x => x.2.handleName?.isSome) = [] := by kernel_rfl
theorem gok (N : Nat) (W : World) (h : laidMetH Tryd.prog Rows.fnWriteFloatsRow.laid W) : GOK (GL N) (Old W) W := by
  have h0 : laidMet Tryd.prog [("io.ErrShortBuffer", Rows.laid_io_ErrShortBuffer), ("io.EOF", Rows.laid_io_EOF), ("io.ErrUnexpectedEOF", Rows.laid_io_ErrUnexpectedEOF)] W := by
    unfold laidMetH at h
    rw [nohandle] at h
    exact h
  have g17 : GE W ⟨17, .unit, (), some 292⟩ := ge_sent (ti := 99) h0 (by kernel_rfl) (by kernel_rfl) row292 (by kernel_rfl)
  have g18 : GE W ⟨18, .unit, (), some 292⟩ := ge_sent (ti := 99) h0.tail (by kernel_rfl) (by kernel_rfl) row292 (by kernel_rfl)
  have g19 : GE W ⟨19, .unit, (), some 292⟩ := ge_sent (ti := 99) h0.tail.tail (by kernel_rfl) (by kernel_rfl) row292 (by kernel_rfl)
  refine gok_all fun a ha => ?_
  simp only [GL, List.mem_cons, List.not_mem_nil, or_false] at ha
  rcases ha with rfl | rfl | rfl | rfl | rfl
  · exact ge_unit (Nat.lt_trans (by decide) (show 17 < W.heap.size from g17.2.1))
  · exact ge_unit (Nat.lt_trans (by decide) (show 17 < W.heap.size from g17.2.1))
  · exact g17
  · exact g18
  · exact g19
set_option maxRecDepth 100000 in
theorem lifted (os : Os) (started : os.Started) (H : Type) (enc : TypeId × Value → H) (F : Stop.Interp) :
    ReturnsInHanded {} Tryd.checked os 6 .any ((OpenSpec.ofChange Rows.fnWriteFloatsSpec).preRow enc Tryd.prog Tryd.f6 Rows.fnWriteFloatsRow.domain false Rows.fnWriteFloatsRow.laid) (((OpenSpec.ofChange Rows.fnWriteFloatsSpec).at F).post enc Tryd.prog Tryd.f6 false true false false) := by
  obtain ⟨places, hx⟩ := reads os enc
  exact rowg_of (C := Tryd.checked) (c := laws_FnWriteFloats_con 18446744073709551616) (gl := GL 18446744073709551616) 12 (gok _) own started (by kernel_rfl) Tryd.func6
    (witness_row_at (enc := enc) (C := Tryd.checked) false (laidW Tryd.prog os 292 323 laidL) #[.slice none 0 0, .bool false] rfl (by kernel_rfl) (by kernel_rfl) (by kernel_rfl)
      (OpenSpec.preRow_of_cond 12 hx (by kernel_rfl) (fun k hk => by cases hk) (by kernel_rfl) (laid_met os)))
    rfl (fun ds h => match ds, h with | [_, _], _ => rfl) (by kernel_rfl) (by kernel_rfl) rfl (by kernel_rfl) (by kernel_rfl) rfl (laws_FnWriteFloats_s _) (bt := 4) (by kernel_rfl) (by kernel_rfl) (by kernel_rfl)
    (fun x hx => ⟨true, PvWriteF.law (by decide) (by decide) x.1 x.2.1 (fun y hy => hx.1.2 y hy), fun w Fz v h => by simpa [resV, resL, RV, Kd.isAgg, RP, laws_FnWriteFloats_con] using h⟩)
theorem said : Rows.FnWriteFloatsSaid :=
  OpenClaim.holds_of_cond 6 Tryd.f6 rfl rfl rfl rfl rfl rfl rfl ⟨rfl, rfl, rfl, rfl, rfl⟩ rfl rfl rfl rfl rfl (by kernel_rfl) Tryd.func6 (by kernel_rfl)
    (of_decide_eq_true (by kernel_rfl)) (by unfold Func.isWrapper; first | (rw [if_pos (by decide +kernel)]; kernel_rfl) | (rw [if_neg (by decide +kernel)]; exact ⟨rfl, rfl⟩))
    (fun os started H enc _ F => by rw [OpenClaim.pre_eq_preRow]; exact lifted os started H enc F)
theorem plain (f : FuncId) (fn : Func) (hf : Tryd.pinned.checked.prog.funcNamed "pub-orthodrome/laws.FnWriteFloats" = some f) (hfn : Tryd.pinned.checked.prog.funcs[f]? = some fn) :
    true = Tryd.pinned.checked.prog.looks [] ∧ ∀ (j : Nat) t, fn.params[j]? = some t → Tryd.pinned.checked.prog.wantsStandIn t = false := by
  obtain rfl : f = 6 := Option.some.inj ((show Tryd.prog.funcNamed "pub-orthodrome/laws.FnWriteFloats" = some 6 by kernel_rfl).symm.trans hf) |>.symm
  obtain rfl : fn = Tryd.f6 := (Option.some.inj (Tryd.func6.symm.trans hfn)).symm
  refine ⟨by kernel_rfl, fun j t ht => ?_⟩
  have hall : (Tryd.f6.params.toList.all fun t => !Tryd.prog.wantsStandIn t) = true := by kernel_rfl
  have := List.all_eq_true.1 hall t (Array.mem_toList_iff.2 (Array.mem_of_getElem? ht))
  show Tryd.prog.wantsStandIn t = false
  simpa using this
theorem card : Rows.FnWriteFloatsCardSaid :=
  Claim7.holds_tied_plain_at .later [] _ _ _ _ said (fun _ h => by cases h) (by kernel_rfl) (fun _ h => by cases h) fnWriteFloats_row_tie rfl ⟨rfl, rfl⟩ (by kernel_rfl) rfl plain (by kernel_rfl)
#print axioms card
end Go.Proofs.YtjabjnkiddldeaaDoor.fnWriteFloats
namespace Go.Proofs.YtjabjnkiddldeaaDoor
/-- The card, under a short name, for the claim. -/
theorem fnWriteFloats_holds : Rows.FnWriteFloatsCardSaid := fnWriteFloats.card
end Go.Proofs.YtjabjnkiddldeaaDoor
