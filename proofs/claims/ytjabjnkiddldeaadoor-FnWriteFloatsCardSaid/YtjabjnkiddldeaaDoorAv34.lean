/- From a contract to a given row that lists package variables which the law's run reads. -/
import Derived.Test.YtjabjnkiddldeaaDoorAv33
import Derived.ChangeArms
set_option linter.unusedVariables false
set_option linter.unusedSimpArgs false
namespace Go.Av
open Go Go.RowKit Go.ChangeShapes
section
variable {H : Type} {enc : TypeId × Value → H}
theorem rowg_of {C : Checked} {os : Os} {f : FuncId} {fn : Func} {s : ChangeSpec} {c : Con} {F : Stop.Interp} {laid : List (String × DataW Unit)} {gl : List Gl} (n : Nat) (hgl : ∀ W : World, laidMetH C.prog laid W → GOK gl (Old W) W)
    (own : ownKnob C.prog.godebug = none) (started : os.Started) (noInit : C.prog.inits.idxOf? f = none) (hfn : C.prog.funcs[f]? = some fn)
    (witness : ∃ (w : World) (tape : Tape) (i : Input), w.os = os ∧ (w.forCall tape i).Shaped C.prog ∧ i.vars = [] ∧ Input.okWide C.prog (w.forCall tape i) .any w.heap.size f i ∧
      (OpenSpec.ofChange s).preRow enc C.prog fn [] false laid (w.forCall tape i).memory i.args ∧ ({} : Assume).holds C.prog (lone (Frame.enter C.prog f i.args .normal) [] (w.forCall tape i)))
    (hsv : s.vars = []) (hs : ∀ ds : List (DataW H), ds.length = fn.params.toList.length → s.fn H ds = { results := [.lit (.bool true)], args := ds })
    (hlay : laidOutB C.prog = true) (hkinds : kindsB C.prog n fn.params.toList c.ps = true) (hcf : c.fid = f) (hname : (fn.name == "runtime.NumGoroutine") = false) (hbody : fn.body.isSome = true)
    (hrs : c.rs = [.bool]) (sound : c.Sound C.prog gl) {bt : TypeId} (hres : fn.resultTypes.toList = [bt]) (hrn : fn.resultTypes.size = 1) (hbt : C.prog.underlying bt = some .bool)
    (law : ∀ x : HL c.ps, wfL c.ps x → ∃ y : HR c.rs, c.fn x = some y ∧ ∀ w Fz v, RV ι0 Fz w (resV c.rs y) v → v = .bool true) :
    ReturnsInHanded {} C os f .any ((OpenSpec.ofChange s).preRow enc C.prog fn [] false laid) (((OpenSpec.ofChange s).at F).post enc C.prog fn false true false false) := by
  refine returnsInHanded_of_row (s := OpenSpec.ofChange s) own started noInit hfn witness ?_
  intro W base args ds gs before hval hW hcnd _ hsz hlaid _ _
  have hW' := hW
  obtain ⟨p, q, hA, hV, rfl, hfz, hnd⟩ := hW
  rw [show (OpenSpec.ofChange s).vars = [] from hsv] at hV
  obtain ⟨rfl, rfl⟩ := trodVars_none hV
  have hlt := hW'.lt
  have hvt : (OpenSpec.ofChange s).bare.plain.varTypes C.prog = [] := by
    have : (OpenSpec.ofChange s).bare.plain.vars = [] := by show s.vars = []; exact hsv
    unfold DataSpec.varTypes
    rw [this]; rfl
  rw [hvt] at hsz
  simp only [List.append_nil] at hsz hlt
  obtain ⟨x, hx, wx⟩ := args_of fn.params.toList c.ps args.toList ds p hkinds (fun j t v h1 h2 => hval j t v (by simpa using h1) (by simpa using h2)) hA (fun m hm => by
    have := List.all_eq_true.1 hsz m hm
    exact of_decide_eq_true this)
  obtain ⟨y, hy, hyv⟩ := law x wx
  subst hcf
  have hc := sound.law hfn hname hbody hrs (fun b hb => hb) (hgl W hlaid) hx hy (fun v hv => hyv _ _ v hv)
  rw [Array.toArray_toList] at hc
  refine hc.mono fun e W' ⟨he, bel⟩ => ?_
  subst he
  have hd := trodAll_lens hA
  have e1 : s.fn H (ds ++ []) = { results := [.lit (.bool true)], args := ds } := by rw [List.append_nil]; exact hs ds hd
  have e2 : ((OpenSpec.ofChange s).at F).fn H (ds ++ []) = { results := [.lit (.bool true)], args := ds } := e1
  have e3 : ((OpenSpec.ofChange s).at F).vars = [] := hsv
  refine ⟨_, rfl, ds, [], p ++ [], [], p, [], hW', ?_, ?_, ?_, bel.frame _, fun h => by cases h⟩
  · rw [e2, hres, hrn]
    exact trodAll_mk1 (shut_bool hbt _)
  · rw [e2]
    exact args_stay hlay bel _ _ _ _ _ hkinds hA hlt
  · rw [e3, e2]; rfl
end
/-- A number in a package variable that stands first on the list. -/
theorem gok_float {P : Program} {W : World} {name : String} {g : Nat} {t : TypeId} {b : Nat} {rest : List (String × DataW Unit)} (hg : P.globalNamed name = some g) (hty : (P.globals[g]?).map (·.type) = some t) (hu : P.underlying t = some (.float .f64))
    (h : laidMet P ((name, .lit (.float .f64 b)) :: rest) W) : GOK [⟨g, .float, b, none⟩] (Old W) W := by
  obtain ⟨ps, ⟨g', t', cs, fuel, p, q, hg', ht', hvar, hd, _, _⟩, _⟩ := h
  obtain rfl := Option.some.inj (hg.symm.trans hg')
  obtain rfl := Option.some.inj (hty.symm.trans ht')
  have hcs : cs.toList = [.float .f64 b] := by
    cases fuel with
    | zero => simp [DataW.trod] at hd
    | succ n =>
      unfold DataW.trod at hd
      rw [hu] at hd
      split at hd <;> simp_all
  have hc : W.cell? ⟨g, 0, none⟩ = some (.float .f64 b) := by
    rw [World.var?_cell hg hvar 0, ← Array.getElem?_toList, hcs]; rfl
  intro a ha
  simp only [List.mem_singleton] at ha
  subst ha
  refine ⟨rfl, ?_, ⟨[.float .f64 b], rfl, fun j u hj => ?_⟩, fun t ht => by cases ht⟩
  · show g < W.heap.size
    rcases Nat.lt_or_ge g W.heap.size with h | h
    · exact h
    · simp [World.cell?, h] at hc
  · cases j with
    | zero =>
      simp only [List.getElem?_cons_zero, Option.some.injEq] at hj
      subst hj
      exact hc
    | succ j => simp at hj
/-- A world in which numbers lie in package variables. -/
noncomputable def putLaidF : List (Nat × Nat) → Array Obj → Array Obj
  | [], h => h
  | (g, b) :: r, h => putLaidF r (h.modify g fun
      | .cells _ t frozen => .cells #[.float .f64 b] t frozen
      | o => o)
noncomputable def laidF (P : Program) (os : Os) (l : List (Nat × Nat)) : World :=
  let w0 := World.holding P os ⟨#[], #[], []⟩
  { w0 with heap := putLaidF l w0.heap }
end Go.Av
