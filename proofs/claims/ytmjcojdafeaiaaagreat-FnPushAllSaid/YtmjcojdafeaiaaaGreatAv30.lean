/- From contracts to a given row,where the fuel may hang on the arguments. -/
import Derived.Test.YtmjcojdafeaiaaaGreatAv16
set_option linter.unusedVariables false
set_option linter.unusedSimpArgs false
namespace Go.Av
open Go Go.RowKit Go.ChangeShapes
section
variable {H:Type} {enc:TypeId×Value→H} {P:Program} {W:World}
/-- THE ROW's CONTRACT,where the fuel may hang on the arguments. -/
theorem rowN_of {C:Checked} {os:Os} {f:FuncId} {fn:Func} {s:ChangeSpec} {ps:List Par} {rs:List Kd} {fnN:Nat→HL ps→Option (HR rs)} (n:Nat)
    (own:ownKnob C.prog.godebug = none) (started:os.Started) (noInit:C.prog.inits.idxOf? f = none) (hfn:C.prog.funcs[f]? = some fn)
    (witness:∃ (w:World) (tape:Tape) (i:Input),w.os = os ∧ (w.forCall tape i).Shaped C.prog ∧ i.vars = [] ∧ Input.okWide C.prog (w.forCall tape i) .any w.heap.size f i ∧
      s.pre6 enc C.prog fn [] false (w.forCall tape i).memory i.args ∧ ({}:Assume).holds C.prog (lone (Frame.enter C.prog f i.args .normal) [] (w.forCall tape i)))
    (hsv:s.vars = []) (hs:∀ ds:List (DataW H),ds.length = fn.params.toList.length→s.fn H ds = { results:=[.lit (.bool true)],args:=ds })
    (hlay : laidOutB C.prog = true) (hkinds : kindsB C.prog n fn.params.toList ps = true) (hname : (fn.name == "runtime.NumGoroutine") = false) (hbody : fn.body.isSome = true)
    (hrs:rs = [.bool]) (sound:∀ N,Con.Sound C.prog [] ⟨f,ps,rs,fnN N⟩) {bt:TypeId} (hres:fn.resultTypes.toList = [bt]) (hrn:fn.resultTypes.size = 1) (hbt:C.prog.underlying bt = some .bool)
    (law:∀ x:HL ps,wfL ps x→∃ (N:Nat) (y:HR rs),fnN N x = some y ∧ ∀ w Fz v,RV ι0 Fz w (resV rs y) v→v = .bool true) :
    ReturnsInHanded {} C os f .any (s.pre6 enc C.prog fn [] false) (s.post enc C.prog fn false true false false):=by
  refine returnsInHanded_of_change_sized own started noInit hfn witness ?_
  intro W base args ds gs before hval hW hcnd hsz _
  have hW':=hW
  obtain ⟨p,q,hA,hV,rfl,hfz,hnd⟩:=hW
  rw [hsv] at hV
  obtain ⟨rfl,rfl⟩:=trodVars_none hV
  have hlt:=hW'.lt
  have hvt:s.plain.varTypes C.prog = []:=by
    have:s.plain.vars = []:=by show s.vars = []; exact hsv
    unfold DataSpec.varTypes
    rw [this]; rfl
  rw [hvt] at hsz
  simp only [List.append_nil] at hsz hlt
  obtain ⟨x,hx,wx⟩:=args_of fn.params.toList ps args.toList ds p hkinds (fun j t v h1 h2=>hval j t v (by simpa using h1) (by simpa using h2)) hA (fun m hm=>by
    have:=List.all_eq_true.1 hsz m hm
    exact of_decide_eq_true this)
  obtain ⟨N,y,hy,hyv⟩:=law x wx
  have hc:=(sound N).law hfn hname hbody hrs (fun b hb=>hb) (fun g hg=>by simp at hg) hx hy (fun v hv=>hyv _ _ v hv)
  rw [Array.toArray_toList] at hc
  refine hc.mono fun e W' ⟨he,bel⟩=>?_
  subst he
  have hd:=trodAll_lens hA
  have e1:s.fn H (ds ++ []) = { results:=[.lit (.bool true)],args:=ds }:=by rw [List.append_nil]; exact hs ds hd
  refine ⟨_,rfl,ds,[],p ++ [],[],p,[],hW',?_,?_,?_,bel.frame _,fun h=>by cases h⟩
  · rw [e1,hres,hrn]
    exact trodAll_mk1 (shut_bool hbt _)
  · rw [e1]
    exact args_stay hlay bel _ _ _ _ _ hkinds hA hlt
  · rw [hsv,e1]; rfl
end
end Go.Av
