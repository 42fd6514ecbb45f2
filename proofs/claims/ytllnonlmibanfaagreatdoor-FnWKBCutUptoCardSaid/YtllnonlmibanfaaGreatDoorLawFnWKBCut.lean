/- What is written of a geometry of good data as well known binary is read no longer if it is cut off anywhere ahead of its end (where what it takes is of bulk at most 1048576). It rests on the given tie of four package variables (three errors, and the limits of elements). -/
import Derived.Test.YtllnonlmibanfaaGreatDoorM7
import Derived.Test.YtllnonlmibanfaaGreatDoorCards
import Derived.Test.YtllnonlmibanfaaGreatDoorTie
import Derived.WalkKit
import Derived.ProofKit
import Derived.OpenShut
import Derived.ChangeOld
import Derived.SizedLaws
set_option linter.unusedVariables false
namespace Go.Proofs.YtllnonlmibanfaaGreatDoor.fnWKBCut
open Go.Av Go.ChangeShapes Go.RowKit Go.WideShapes Go.ChangeAt
open WC
theorem one_le{H:Type}(d:DataW H):1≤Rows.uptoBulk d:=by
 cases d with
 |lit l=>cases l<;>simp[Rows.uptoBulk]
 |nil=>simp[Rows.uptoBulk]
 |ptr d=>simp[Rows.uptoBulk]
 |slice elems spare=>simp[Rows.uptoBulk]
 |agg parts=>simp[Rows.uptoBulk]
 |iface t d=>simp[Rows.uptoBulk]
 |map entries=>simp[Rows.uptoBulk]
 |held h=>simp[Rows.uptoBulk]
def bulk(H:Type):BulkG H where
 one:=Rows.uptoBulk
 all:=Rows.uptoBulkAll
 nil:=by simp only[Rows.uptoBulkAll]
 cons d r:=by simp only[Rows.uptoBulkAll]
 pos:=one_le
 slice e s:=by simp only[Rows.uptoBulk]
 agg l:=by simp only[Rows.uptoBulk]
theorem own:ownKnob Tryz.prog.godebug=none:=by kernel_rfl
noncomputable def laidL:List (Nat×ByteArray):=[(4,⟨#[115,104,111,114,116,32,98,117,102,102,101,114]⟩),(5,⟨#[69,79,70]⟩),(6,⟨#[117,110,101,120,112,101,99,116,101,100,32,69,79,70]⟩)]
noncomputable def W0(os:Os):World:=laidWA Tryz.prog os 222 224 laidL 2 #[.int .i64 0, .int .i64 (-1), .int .i64 (-1), .int .i64 (-1)]
def A0:Array Value:= #[.agg #[.int .i64 0, .int .i64 0, .int .i64 0, .slice none 0 0, .slice none 0 0, .slice none 0 0, .slice none 0 0], .bool false, .int .i64 0]
theorem laid_met(os:Os):laidMet Tryz.prog Rows.fnWKBCutUptoRow.laid ((W0 os).forCall (fun _ _=>0) ⟨#[],A0,[]⟩).memory:=
 laidMet_of_run' 12 (by kernel_rfl) (by kernel_rfl)
theorem reads(os:Os){H:Type}(enc:TypeId×Value→H):∃places,DataW.whole enc Tryz.prog ((W0 os).forCall (fun _ _=>0) ⟨#[],A0,[]⟩).memory Tryz.f4.params.toList Rows.fnWKBCutSpec.vars false A0.toList 12=some ([.agg [.lit (.int .i64 0), .lit (.int .i64 0), .lit (.int .i64 0), .nil, .nil, .nil, .nil], .lit (.bool false), .lit (.int .i64 0)],[],places):=
 ⟨[],by kernel_rfl⟩
theorem star : "*" ++ "errors.errorString" = "*errors.errorString" := by decide
theorem row222 (u : TypeId) (h : Tryz.prog.typeName? 3 u = some "*errors.errorString") : u = 222 :=
 typeName_ptr_named (nm := "errors.errorString") (by rw [star]; kernel_rfl) (by kernel_rfl) (by decide) u (by rw [star]; exact h)
theorem nohandle:(Rows.fnWKBCutUptoRow.laid.filter fun x=>x.2.handleName?.isSome)=[]:=by kernel_rfl
theorem gok(N:Nat)(W:World)(h:laidMetH Tryz.prog Rows.fnWKBCutUptoRow.laid W):GOK (GL N) (Old W) W:=by
 have h0 : laidMet Tryz.prog [("io.ErrShortBuffer", Rows.laid_io_ErrShortBuffer), ("io.EOF", Rows.laid_io_EOF), ("io.ErrUnexpectedEOF", Rows.laid_io_ErrUnexpectedEOF), ("pub-orthodrome/pub/gogeom/encoding/wkbcommon.MaxGeometryElements", Rows.laid_pub_orthodrome_pub_gogeom_encoding_wkbcommon_MaxGeometryElements)] W := by
  unfold laidMetH at h
  rw[nohandle]at h
  exact h
 have g4:GE W ⟨4, .unit,(),some 222⟩:=ge_sent (ti:=46) h0 (by kernel_rfl) (by kernel_rfl) row222 (by kernel_rfl)
 have g5:GE W ⟨5, .unit,(),some 222⟩:=ge_sent (ti:=46) h0.tail (by kernel_rfl) (by kernel_rfl) row222 (by kernel_rfl)
 have g6:GE W ⟨6, .unit,(),some 222⟩:=ge_sent (ti:=46) h0.tail.tail (by kernel_rfl) (by kernel_rfl) row222 (by kernel_rfl)
 have g2:=ge_arr4 (t:=184) (e:=3) (by kernel_rfl) (by kernel_rfl) (by kernel_rfl) (by kernel_rfl) (by kernel_rfl) (by kernel_rfl) h0.tail.tail.tail (g:=2)
 refine gok_all fun a ha=> ?_
 simp only[GL,List.mem_cons,List.not_mem_nil,or_false]at ha
 rcases ha with rfl|rfl|rfl|rfl|rfl|rfl
 ·exact ge_unit (Nat.lt_trans (by decide) (show 4<W.heap.size from g4.2.1))
 ·exact ge_unit (Nat.lt_trans (by decide) (show 4<W.heap.size from g4.2.1))
 ·exact g2
 ·exact g4
 ·exact g5
 ·exact g6
set_option maxRecDepth 100000 in
theorem lifted(os:Os)(started:os.Started)(H:Type)(enc:TypeId×Value→H)(F:Stop.Interp):
 ReturnsInHanded {} Tryz.checked os 4 .any ((Rows.OpenSpec.upto Rows.fnWKBCutSpec).preRow enc Tryz.prog Tryz.f4 Rows.fnWKBCutUptoRow.domain false Rows.fnWKBCutUptoRow.laid) (((Rows.OpenSpec.upto Rows.fnWKBCutSpec).at F).post enc Tryz.prog Tryz.f4 false true false false):=by
 obtain⟨places,hx⟩:=reads os enc
 exact rowz_of (C:=Tryz.checked) (s:=Rows.fnWKBCutSpec) (c:=F141_con 18446744073709551616) (bound:=1048576) (gl:=GL 18446744073709551616) (bulk H) 12 (k:=Rows.uptoSmall) (S:=Rows.OpenSpec.upto Rows.fnWKBCutSpec) rfl (fun ds h=>of_decide_eq_true h) (gok _) own started (by kernel_rfl) Tryz.func4
  (witness_row_at (enc:=enc) (C:=Tryz.checked) (s:=Rows.OpenSpec.upto Rows.fnWKBCutSpec) false (W0 os) A0 rfl (by kernel_rfl) (by kernel_rfl) (by kernel_rfl)
   (OpenSpec.preRow_of_cond 12 hx (by kernel_rfl) (fun k hk=>by cases hk;rfl) (by kernel_rfl) (laid_met os)))
  rfl (fun ds h=>match ds,h with|[_,_,_],_=>rfl) (by kernel_rfl) (by kernel_rfl) rfl (by kernel_rfl) (by kernel_rfl) rfl (F141_s _) (bt:=4) (by kernel_rfl) (by kernel_rfl) (by kernel_rfl)
  (fun x hx hk=>⟨true,law 18446744073709551608 (by decide) x.1 x.2.1 x.2.2.1 hx.1 (by
   have h2:gsz x.1+(0+(0+0))≤1048576:=hk
   exact h2),fun w Fz v h=>by simpa[resV,resL,RV,Kd.isAgg,RP,F141_con]using h⟩)
theorem said:Rows.FnWKBCutUptoSaid:=
 OpenClaim.holds_of_cond 4 Tryz.f4 rfl rfl rfl rfl rfl rfl rfl ⟨rfl,rfl,rfl,rfl,rfl⟩ rfl rfl rfl rfl rfl (by kernel_rfl) Tryz.func4 (by kernel_rfl)
  (of_decide_eq_true (by kernel_rfl)) (by unfold Func.isWrapper;first|(rw[if_pos (by decide+kernel)];kernel_rfl)|(rw[if_neg (by decide+kernel)];exact⟨rfl,rfl⟩))
  (fun os started H enc _ F=>by rw[OpenClaim.pre_eq_preRow];exact lifted os started H enc F)
theorem plain (f : FuncId) (fn : Func) (hf : Tryz.pinned.checked.prog.funcNamed "pub-orthodrome/laws.FnWKBCut" = some f) (hfn : Tryz.pinned.checked.prog.funcs[f]? = some fn) :
 true=Tryz.pinned.checked.prog.looks []∧∀(j:Nat) t,fn.params[j]?=some t→Tryz.pinned.checked.prog.wantsStandIn t=false:=by
 obtain rfl : f = 4 := Option.some.inj ((show Tryz.prog.funcNamed "pub-orthodrome/laws.FnWKBCut" = some 4 by kernel_rfl).symm.trans hf) |>.symm
 obtain rfl:fn=Tryz.f4:=(Option.some.inj (Tryz.func4.symm.trans hfn)).symm
 refine⟨by kernel_rfl,fun j t ht=> ?_⟩
 have hall:(Tryz.f4.params.toList.all fun t=> !Tryz.prog.wantsStandIn t)=true:=by kernel_rfl
 have:=List.all_eq_true.1 hall t (Array.mem_toList_iff.2 (Array.mem_of_getElem? ht))
 show Tryz.prog.wantsStandIn t=false
 simpa using this
theorem card:Rows.FnWKBCutUptoCardSaid:=
 Claim7.holds_tied_plain_at .later [] _ _ _ _ said (fun _ h=>by cases h) (by kernel_rfl) (fun _ h=>by cases h) fnWKBCutUpto_row_tie rfl ⟨rfl,rfl⟩ (by kernel_rfl) rfl plain (by kernel_rfl)
#print axioms card
end Go.Proofs.YtllnonlmibanfaaGreatDoor.fnWKBCut
namespace Go.Proofs.YtllnonlmibanfaaGreatDoor
theorem fnWKBCut_holds:Rows.FnWKBCutUptoCardSaid:=fnWKBCut.card
end Go.Proofs.YtllnonlmibanfaaGreatDoor
