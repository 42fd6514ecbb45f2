/- From a contract to a given row: each argument of the kind of its parameter; true comes back, and what was there is as it was. -/
import Derived.Test.YtnoamanjajighaaAv15
import Derived.WalkKit
import Derived.ProofKit
import Derived.OpenShut
import Derived.ShutString
import Derived.ChangeOld
set_option linter.unusedVariables false
set_option linter.unusedSimpArgs false
namespace Go.Av
open Go Go.RowKit Go.ChangeShapes

def aggT (P : Program) (t : TypeId) : Bool := match P.underlying t with | some (.struct _) => true | some (.array _ _) => true | _ => false
def flatT (P : Program) (t : TypeId) : Bool := match P.underlying t with | some .bool => true | some (.int _) => true | some (.float _) => true | some .string => true | some (.slice _) => true | _ => false
def kindsB (P : Program) (n : Nat) : List TypeId → List Par → Bool
  | [], [] => true
  | t :: ts, .k κ :: ps => (bif κ.isAgg then aggT P t else flatT P t) && ktB P n t κ && P.readableRec t && Nat.blt t P.types.size && kindsB P n ts ps
  | _, _ => false
def wfL : (ps : List Par) → HL ps → Prop
  | [], _ => True
  | .k κ :: r, x => wf κ x.1 ∧ wfL r x.2
  | .fn _ :: r, x => wfL r x
  | .ifc _ κ :: r, x => wf κ x.1 ∧ wfL r x.2

section
variable {H : Type} {enc : TypeId × Value → H} {P : Program} {W : World}
theorem agg_of {base : Nat} {t : TypeId} {v : Value} (h : aggT P t = true) (hv : Value.okWide P W .any base t v) : ∃ cs, v = .agg cs := by
  unfold aggT at h
  split at h
  · rename_i fs hu
    simp only [Value.okWide, hu] at hv
    obtain ⟨cs, rfl, _⟩ := hv
    exact ⟨cs, rfl⟩
  · rename_i m e hu
    simp only [Value.okWide, hu] at hv
    obtain ⟨cs, rfl, _⟩ := hv
    exact ⟨cs, rfl⟩
  · cases h
theorem flat_one {base : Nat} {t : TypeId} {v : Value} (h : flatT P t = true) (hv : Value.okWide P W .any base t v) : v.cells.toList = [v] := by
  unfold flatT at h
  split at h
  · rename_i hu; simp only [Value.okWide, hu, Cell.okWide] at hv; cases v <;> simp_all [Cell.ok, Value.cells]
  · rename_i hu; simp only [Value.okWide, hu, Cell.okWide] at hv; cases v <;> simp_all [Cell.ok, Value.cells]
  · rename_i hu; simp only [Value.okWide, hu, Cell.okWide] at hv; cases v <;> simp_all [Cell.ok, Value.cells]
  · rename_i hu; simp only [Value.okWide, hu, Cell.okWide] at hv; cases v <;> simp_all [Cell.ok, Value.cells]
  · rename_i hu; simp only [Value.okWide, hu, Cell.okWide] at hv; cases v <;> simp_all [Cell.ok, Value.cells]
  · cases h
/-- The arguments of a row are of the kinds. -/
theorem args_of {base n : Nat} : ∀ (ts : List TypeId) (ps : List Par) (vs : List Value) (ds : List (DataW H)) (qs : List MemPlace), kindsB P n ts ps = true →
    (∀ (j : Nat) t v, ts[j]? = some t → vs[j]? = some v → Value.okWide P W .any base t v) → DataW.TrodAll enc P W 0 (fun _ => true) true ts vs ds qs →
    (∀ m ∈ DataW.weightsEach P ts ds, m ≤ reachBytes) → ∃ x : HL ps, RA (Old W) W ps x vs ∧ wfL ps x
  | [], [], vs, ds, qs, _, _, h, _ => by
    obtain ⟨rfl, _, _⟩ := trodAll_nil h
    exact ⟨(), rfl, trivial⟩
  | t :: ts, .k κ :: ps, vs, ds, qs, hk, hv, h, hz => by
    simp only [kindsB, Bool.and_eq_true] at hk
    obtain ⟨⟨⟨⟨k1, k2⟩, k3⟩, k4⟩, k5⟩ := hk
    obtain ⟨v, vs, d, ds, p, q, rfl, rfl, rfl, h0, h1⟩ := trodAll_cons h
    obtain ⟨fuel, hf⟩ := h0
    simp only [DataW.weightsEach, List.mem_append] at hz
    obtain ⟨x, hx, wx⟩ := kd_of fuel n t κ _ d p hf (fun m hm => hz m (.inl hm)) k2
    obtain ⟨y, hy, wy⟩ := args_of ts ps vs ds q k5 (fun j t v h1 h2 => hv (j + 1) t v (by simpa using h1) (by simpa using h2)) h1 (fun m hm => hz m (.inr hm))
    have hv0 := hv 0 t v rfl rfl
    refine ⟨(x, y), ⟨v, vs, rfl, ?_, hy⟩, wx, wy⟩
    simp only [RV]
    cases ha : κ.isAgg with
    | true =>
      rw [ha, cond_true] at k1
      obtain ⟨cs, rfl⟩ := agg_of k1 hv0
      exact ⟨cs, rfl, hx⟩
    | false =>
      rw [ha, cond_false] at k1
      rw [flat_one k1 hv0] at hx
      exact hx
  | [], .k _ :: _, _, _, _, hk, _, _, _ => by simp [kindsB] at hk
  | [], .fn _ :: _, _, _, _, hk, _, _, _ => by simp [kindsB] at hk
  | [], .ifc _ _ :: _, _, _, _, hk, _, _, _ => by simp [kindsB] at hk
  | _ :: _, [], _, _, _, hk, _, _, _ => by simp [kindsB] at hk
  | _ :: _, .fn _ :: _, _, _, _, hk, _, _, _ => by simp [kindsB] at hk
  | _ :: _, .ifc _ _ :: _, _, _, _, hk, _, _, _ => by simp [kindsB] at hk
theorem args_stay {n : Nat} {W' : World} (hl : laidOutB P = true) (bel : Below W.heap.size W W') : ∀ (ts : List TypeId) (ps : List Par) (vs : List Value) (ds : List (DataW H)) (qs : List MemPlace), kindsB P n ts ps = true →
    DataW.TrodAll enc P W 0 (fun _ => true) true ts vs ds qs → (∀ x ∈ qs, x.block < W.heap.size) → DataW.TrodAll enc P W' 0 (fun b => decide (b < W.heap.size)) true ts vs ds qs
  | [], [], vs, ds, qs, _, h, _ => by
    obtain ⟨rfl, rfl, rfl⟩ := trodAll_nil h
    exact trodAll_mk0
  | t :: ts, .k κ :: ps, vs, ds, qs, hk, h, hq => by
    simp only [kindsB, Bool.and_eq_true] at hk
    obtain ⟨⟨⟨⟨k1, k2⟩, k3⟩, k4⟩, k5⟩ := hk
    obtain ⟨v, vs, d, ds, p, q, rfl, rfl, rfl, h0, h1⟩ := trodAll_cons h
    exact trodAll_cons_mk (Below.trod hl k3 (Nat.le_of_ble_eq_true k4) h0 bel fun x hx => hq x (List.mem_append_left _ hx)) (args_stay hl bel ts ps vs ds q k5 h1 fun x hx => hq x (List.mem_append_right _ hx))
  | [], .k _ :: _, _, _, _, hk, _, _ => by simp [kindsB] at hk
  | [], .fn _ :: _, _, _, _, hk, _, _ => by simp [kindsB] at hk
  | [], .ifc _ _ :: _, _, _, _, hk, _, _ => by simp [kindsB] at hk
  | _ :: _, [], _, _, _, hk, _, _ => by simp [kindsB] at hk
  | _ :: _, .fn _ :: _, _, _, _, hk, _, _ => by simp [kindsB] at hk
  | _ :: _, .ifc _ _ :: _, _, _, _, hk, _, _ => by simp [kindsB] at hk
theorem trodAll_lens : ∀ {ts : List TypeId} {vs : List Value} {ds : List (DataW H)} {qs : List MemPlace}, DataW.TrodAll enc P W 0 (fun _ => true) true ts vs ds qs → ds.length = ts.length
  | [], _, _, _, h => by obtain ⟨rfl, rfl, rfl⟩ := trodAll_nil h; rfl
  | t :: ts, _, _, _, h => by
    obtain ⟨v, vs, d, ds, p, q, rfl, rfl, rfl, h0, h1⟩ := trodAll_cons h
    simp [trodAll_lens h1]
/-- THE ROW's CONTRACT. -/
theorem row_of {C : Checked} {os : Os} {f : FuncId} {fn : Func} {s : ChangeSpec} {c : Con} (n : Nat)
    (own : ownKnob C.prog.godebug = none) (started : os.Started) (noInit : C.prog.inits.idxOf? f = none) (hfn : C.prog.funcs[f]? = some fn)
    (witness : ∃ (w : World) (tape : Tape) (i : Input), w.os = os ∧ (w.forCall tape i).Shaped C.prog ∧ i.vars = [] ∧ Input.okWide C.prog (w.forCall tape i) .any w.heap.size f i ∧
      s.pre6 enc C.prog fn [] false (w.forCall tape i).memory i.args ∧ ({} : Assume).holds C.prog (lone (Frame.enter C.prog f i.args .normal) [] (w.forCall tape i)))
    (hsv : s.vars = []) (hs : ∀ ds : List (DataW H), ds.length = fn.params.toList.length → s.fn H ds = { results := [.lit (.bool true)], args := ds })
    (hlay : laidOutB C.prog = true) (hkinds : kindsB C.prog n fn.params.toList c.ps = true) (hcf : c.fid = f) (hname : (fn.name == "runtime.NumGoroutine") = false) (hbody : fn.body.isSome = true)
    (hrs : c.rs = [.bool]) (sound : c.Sound C.prog []) {bt : TypeId} (hres : fn.resultTypes.toList = [bt]) (hrn : fn.resultTypes.size = 1) (hbt : C.prog.underlying bt = some .bool)
    (law : ∀ x : HL c.ps, wfL c.ps x → ∃ y : HR c.rs, c.fn x = some y ∧ ∀ w Fz v, RV ι0 Fz w (resV c.rs y) v → v = .bool true) :
    ReturnsInHanded {} C os f .any (s.pre6 enc C.prog fn [] false) (s.post enc C.prog fn false true false false) := by
  refine returnsInHanded_of_change_sized own started noInit hfn witness ?_
  intro W base args ds gs before hval hW hcnd hsz _
  have hW' := hW
  obtain ⟨p, q, hA, hV, rfl, hfz, hnd⟩ := hW
  rw [hsv] at hV
  obtain ⟨rfl, rfl⟩ := trodVars_none hV
  have hlt := hW'.lt
  have hvt : s.plain.varTypes C.prog = [] := by
    have : s.plain.vars = [] := by show s.vars = []; exact hsv
    unfold DataSpec.varTypes
    rw [this]; rfl
  rw [hvt] at hsz
  simp only [List.append_nil] at hsz hlt
  obtain ⟨x, hx, wx⟩ := args_of fn.params.toList c.ps args.toList ds p hkinds (fun j t v h1 h2 => hval j t v (by simpa using h1) (by simpa using h2)) hA (fun m hm => by
    have := List.all_eq_true.1 hsz m hm
    exact of_decide_eq_true this)
  obtain ⟨y, hy, hyv⟩ := law x wx
  subst hcf
  have hc := sound.law hfn hname hbody hrs (fun b hb => hb) (fun g hg => by simp at hg) hx hy (fun v hv => hyv _ _ v hv)
  rw [Array.toArray_toList] at hc
  refine hc.mono fun e W' ⟨he, bel⟩ => ?_
  subst he
  have hd := trodAll_lens hA
  have e1 : s.fn H (ds ++ []) = { results := [.lit (.bool true)], args := ds } := by rw [List.append_nil]; exact hs ds hd
  refine ⟨_, rfl, ds, [], p ++ [], [], p, [], hW', ?_, ?_, ?_, bel.frame _, fun h => by cases h⟩
  · rw [e1, hres, hrn]
    exact trodAll_mk1 (shut_bool hbt _)
  · rw [e1]
    exact args_stay hlay bel _ _ _ _ _ hkinds hA hlt
  · rw [hsv, e1]; rfl
end
end Go.Av
