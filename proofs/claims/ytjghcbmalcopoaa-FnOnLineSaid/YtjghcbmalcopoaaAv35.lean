/- From a contract that hangs on what a package variable holds to a given row. -/
import Derived.Test.YtjghcbmalcopoaaAv34
import Derived.Handed
set_option linter.unusedVariables false
set_option linter.unusedSimpArgs false
namespace Go.Av
open Go Go.RowKit Go.ChangeShapes
section
variable {H : Type} {enc : TypeId × Value → H}
theorem rowo_of {C : Checked} {os : Os} {f : FuncId} {fn : Func} {s : ChangeSpec} (n : Nat)
    (own : ownKnob C.prog.godebug = none) (started : os.Started) (noInit : C.prog.inits.idxOf? f = none) (hfn : C.prog.funcs[f]? = some fn)
    (witness : ∃ (w : World) (tape : Tape) (i : Input), w.os = os ∧ (w.forCall tape i).Shaped C.prog ∧ i.vars = [] ∧ Input.okWide C.prog (w.forCall tape i) .any w.heap.size f i ∧
      s.pre6 enc C.prog fn [] false (w.forCall tape i).memory i.args ∧ ({} : Assume).holds C.prog (lone (Frame.enter C.prog f i.args .normal) [] (w.forCall tape i)))
    (hsv : s.vars = []) (hs : ∀ ds : List (DataW H), ds.length = fn.params.toList.length → s.fn H ds = { results := [.lit (.bool true)], args := ds })
    (hlay : laidOutB C.prog = true) (hname : (fn.name == "runtime.NumGoroutine") = false) (hbody : fn.body.isSome = true)
    {bt : TypeId} (hres : fn.resultTypes.toList = [bt]) (hrn : fn.resultTypes.size = 1) (hbt : C.prog.underlying bt = some .bool)
    (hall : ∀ W : World, W.ShapedOpen C.prog → ∃ (c : Con) (gl : List Gl), GOK gl (Old W) W ∧ kindsB C.prog n fn.params.toList c.ps = true ∧ c.fid = f ∧ c.rs = [.bool] ∧ c.Sound C.prog gl ∧
      ∀ x : HL c.ps, wfL c.ps x → ∃ y : HR c.rs, c.fn x = some y ∧ ∀ w Fz v, RV ι0 Fz w (resV c.rs y) v → v = .bool true) :
    ReturnsInHanded {} C os f .any (s.pre6 enc C.prog fn [] false) (s.post enc C.prog fn false true false false) := by
  refine returnsInHanded_of_calls own started noInit witness ?_
  intro w tape i _ hsh _ hok hpre hholds
  obtain ⟨_, _, _, fn', hfn', _, _, _, _, hval⟩ := hok
  have e : fn' = fn := Option.some.inj (hfn'.symm.trans hfn)
  subst e
  obtain ⟨⟨ds, gs, before, hw, hcnd⟩, hz⟩ := hpre
  have hw' := DataW.Whole.of_heap (w' := w.forCall tape i) (by rfl) hw
  have hsz : (DataW.weightsEach C.prog (fn'.params.toList ++ s.plain.varTypes C.prog) (ds ++ gs)).all (· ≤ reachBytes) = true := hz.weights hw
  generalize w.forCall tape i = W at *
  have contract : Calls C.prog f i.args W fun e W' => ∃ v, e = .returned v ∧ s.post enc C.prog fn' false true false false W i.args v W' := by
    obtain ⟨c, gl, hgl, hkinds, hcf, hrs, sound, law⟩ := hall W hsh
    have hW' := hw'
    obtain ⟨p, q, hA, hV, rfl, hfz, hnd⟩ := hw'
    rw [hsv] at hV
    obtain ⟨rfl, rfl⟩ := trodVars_none hV
    have hlt := hW'.lt
    have hvt : s.plain.varTypes C.prog = [] := by
      have : s.plain.vars = [] := by show s.vars = []; exact hsv
      unfold DataSpec.varTypes
      rw [this]; rfl
    rw [hvt] at hsz
    simp only [List.append_nil] at hsz hlt
    obtain ⟨x, hx, wx⟩ := args_of fn'.params.toList c.ps i.args.toList ds p hkinds (fun j t v h1 h2 => hval j t v (by simpa using h1) (by simpa using h2)) hA (fun m hm => by
      have := List.all_eq_true.1 hsz m hm
      exact of_decide_eq_true this)
    obtain ⟨y, hy, hyv⟩ := law x wx
    subst hcf
    have hc := sound.law hfn hname hbody hrs (fun b hb => hb) hgl hx hy (fun v hv => hyv _ _ v hv)
    rw [Array.toArray_toList] at hc
    refine hc.mono fun e W' ⟨he, bel⟩ => ?_
    subst he
    have hd := trodAll_lens hA
    have e1 : s.fn H (ds ++ []) = { results := [.lit (.bool true)], args := ds } := by rw [List.append_nil]; exact hs ds hd
    refine ⟨_, rfl, ds, [], p ++ [], [], p, [], hW', ?_, ?_, ?_, bel.frame _, fun h => by cases h⟩
    · rw [e1, hres, hrn]
      exact trodAll_mk1 (shut_bool hbt _)
    · rw [e1]
      exact args_stay hlay bel _ _ _ _ _ hkinds hA hlt
    · rw [hsv, e1]; rfl
  refine contract.mono fun e W' ⟨v, he, hp⟩ => ?_
  subst he
  exact ChangeSpec.post_blind hp
end
/-- A package variable that is a number holds one. -/
theorem gok_shape {P : Program} {w : World} {g : Nat} {t : TypeId} {zero : Array Value} (h : w.ShapedOpen P) (hg : g < P.globals.size)
    (h0 : ((begin P (fun _ _ => 0) default).world.heap[g]?).bind Obj.row? = some (zero, t)) (hz : zero.size = 1)
    (hb : P.buildable t = true) (hc : P.cellTypes P.depth t = some [t]) (hu : P.underlying t = some (.float .f64)) : ∃ b, GOK [⟨g, .float, b⟩] (Old w) w := by
  obtain ⟨cs, hh, hs, hr⟩ := h.1 g zero t hg h0
  obtain ⟨ts, hts, _, hall⟩ := hr hb
  rw [hc] at hts
  cases hts
  have h1 : 0 < cs.size := by omega
  obtain ⟨u, hu', hok⟩ := hall 0 cs[0] (by simp [h1])
  have : u = t := by simpa using hu'.symm
  subst this
  have hcell : w.cell? ⟨g, 0, none⟩ = some cs[0] := by simp [World.cell?, hh, h1]
  unfold Cell.ok at hok
  rw [hu] at hok
  have hf : ∃ b, cs[0] = .float .f64 b := by
    cases hv : cs[0] <;> rw [hv] at hok <;> first | (simp at hok; obtain ⟨rfl, _⟩ := hok; exact ⟨_, rfl⟩) | simp at hok
  obtain ⟨b, hf⟩ := hf
  rw [hf] at hcell
  refine ⟨b, fun a ha => ?_⟩
  simp only [List.mem_singleton] at ha
  subst ha
  refine ⟨rfl, ?_, [.float .f64 b], rfl, fun j u hj => ?_⟩
  · show g < w.heap.size
    exact (Array.getElem?_eq_some_iff.1 hh).1
  · cases j with
    | zero =>
      simp only [List.getElem?_cons_zero, Option.some.injEq] at hj
      subst hj
      exact hcell
    | succ j => simp at hj
end Go.Av
