/- From a contract to a given row whose arguments are of bounded bulk (lists within lists, numbers): what is read is no bigger than the reading. -/
import Derived.Test.YtgipjhgnnppjgaaAv16
import Derived.Deep.CondSized
set_option linter.unusedVariables false
set_option linter.unusedSimpArgs false
namespace Go.Av
open Go Go.RowKit Go.ChangeShapes
/-- How many parts a value has. -/
def ksz : (κ : Kd) → Den κ → Nat
  | .list e, xs => xs.length + (xs.map (ksz e)).sum
  | _, _ => 0
/-- Numbers, and lists of such. -/
def simpleK : Kd → Bool
  | .list e => simpleK e
  | .int _ => true
  | .float => true
  | .bool => true
  | _ => false
structure Bulk (H : Type) where
  one : DataW H → Nat
  all : List (DataW H) → Nat
  nil : all [] = 0
  cons : ∀ d r, all (d :: r) = one d + all r
  pos : ∀ d, 1 ≤ one d
  slice : ∀ e s, one (.slice e s) = all e + all s + 1
section
variable {H : Type} {enc : TypeId × Value → H} {P : Program} {w : World} {spare : Nat → Bool} {held : Bool}
theorem Bulk.sum_le (B : Bulk H) {α : Type} {S : α → Nat} : ∀ (xs : List α) (ds : List (DataW H)), xs.length = ds.length → (∀ (i : Nat) (x : α) (d : DataW H), xs[i]? = some x → ds[i]? = some d → S x + 1 ≤ B.one d) → xs.length + (xs.map S).sum ≤ B.all ds
  | [], [], _, _ => by simp
  | x :: xs, d :: ds, hl, h => by
    have h0 := h 0 x d rfl rfl
    have := B.sum_le xs ds (by simpa using hl) (fun i y e h1 h2 => h (i + 1) y e (by simpa using h1) (by simpa using h2))
    rw [B.cons]
    simp only [List.length_cons, List.map_cons, List.sum_cons]
    omega
  | [], _ :: _, h, _ => by simp at h
  | _ :: _, [], h, _ => by simp at h
theorem trod_slice' {fuel : Nat} {t e : TypeId} {v : Value} {d : DataW H} {ps : List MemPlace} (hu : P.underlying t = some (.slice e)) (h : DataW.trod enc P w 0 spare held (fuel + 1) t [v] = some (d, ps))
    (hz : ∀ n ∈ d.weights P t, n ≤ reachBytes) :
    v = .slice none 0 0 ∨ ∃ a len cap es rest, v = .slice (some a) len cap ∧ d = .slice es rest ∧ es.length = len ∧ len ≤ cap ∧ cap ≤ maxLen ∧ len * P.bytesOf e ≤ reachBytes ∧
      ∀ i < len, ∃ cs d' p', es[i]? = some d' ∧ w.cells? 0 (a.add (i * P.cellsOf e)) (P.cellsOf e) = some cs ∧ DataW.trod enc P w 0 spare held fuel e cs = some (d', p') ∧ ∀ n ∈ d'.weights P e, n ≤ reachBytes := by
  cases v with
  | slice a len cap =>
    cases a with
    | none =>
      left
      cases len <;> cases cap <;> simp [DataW.trod, hu] at h
      rfl
    | some a =>
      right
      simp only [DataW.trod, hu] at h
      split at h
      · rename_i hc
        obtain ⟨elems, he, h⟩ := Option.bind_eq_some_iff.1 h
        obtain ⟨rest, hr, h⟩ := Option.map_eq_some_iff.1 h
        simp only [Prod.mk.injEq] at h
        obtain ⟨rfl, _⟩ := h
        obtain ⟨h1, h2⟩ := mapM_at he
        rw [List.length_range] at h1
        simp only [DataW.weights, hu, List.length_map, h1] at hz
        have hz0 := hz _ (List.mem_cons_self)
        refine ⟨a, len, cap, _, _, rfl, rfl, by simp [h1], hc.2.1, hc.2.2, Nat.le_trans (Nat.mul_le_mul_right _ (Nat.le_add_right _ _)) hz0, fun i hi => ?_⟩
        obtain ⟨y, hy1, hy⟩ := h2 i i (List.getElem?_range (by omega))
        obtain ⟨cs, h3, h4⟩ := Option.bind_eq_some_iff.1 hy
        exact ⟨cs, y.1, y.2, by rw [List.getElem?_map, hy1]; rfl, h3, h4, fun n hn => hz n (List.mem_cons_of_mem _ (List.mem_append_left _ (weightsAll_mem (List.mem_map.2 ⟨y, List.mem_of_getElem? hy1, rfl⟩) hn)))⟩
      · cases h
  | _ => simp [DataW.trod, hu] at h
/-- What reads as data of a simple type is of the type's kind, and no bigger. -/
theorem kdb_of (B : Bulk H) : ∀ (fuel : Nat) (n : Nat) (t : TypeId) (κ : Kd) (cs : List Value) (d : DataW H) (ps : List MemPlace), DataW.trod enc P w 0 spare held fuel t cs = some (d, ps) → (∀ n ∈ d.weights P t, n ≤ reachBytes) → ktB P n t κ = true → simpleK κ = true →
    ∃ x : Den κ, RP (Old w) w κ x cs ∧ wf κ x ∧ ksz κ x + 1 ≤ B.one d := by
  intro fuel
  induction fuel with
  | zero => intro n t κ cs d ps h; simp [DataW.trod] at h
  | succ fuel ih =>
    intro n t κ cs d ps h hz hk hs
    cases n with
    | zero => simp [ktB] at hk
    | succ n =>
      have hk0 := hk
      unfold ktB at hk
      split at hk
      · obtain ⟨x, h1, h2⟩ := kd_of (fuel + 1) (n + 1) t _ cs d ps h hz hk0
        exact ⟨x, h1, h2, by have := B.pos d; simp only [ksz]; omega⟩
      · obtain ⟨x, h1, h2⟩ := kd_of (fuel + 1) (n + 1) t _ cs d ps h hz hk0
        exact ⟨x, h1, h2, by have := B.pos d; simp only [ksz]; omega⟩
      · obtain ⟨x, h1, h2⟩ := kd_of (fuel + 1) (n + 1) t _ cs d ps h hz hk0
        exact ⟨x, h1, h2, by have := B.pos d; simp only [ksz]; omega⟩
      · cases hs
      · rename_i e κ' hu
        simp only [Bool.and_eq_true] at hk
        obtain ⟨⟨⟨k1, k2⟩, k3⟩, k4⟩ := hk
        obtain ⟨v, rfl⟩ := trod_one hu h
        have hcs := Nat.eq_of_beq_eq_true k2
        have hb := Nat.le_of_ble_eq_true k4
        have hp := Nat.le_of_ble_eq_true k3
        rcases trod_slice' hu h hz with rfl | ⟨a, len, cap, es, rest, rfl, rfl, hel, hlc, hcm, hbl, hall⟩
        · exact ⟨[], ⟨_, rfl, none, 0, rfl, by simp, .inl rfl⟩, ⟨⟨by simp, by simp⟩, by simp⟩, by have := B.pos d; simp [ksz]; omega⟩
        · obtain ⟨xs, hl, hx⟩ := choose_list (p := fun i (x : Den κ') => ∃ cs d', es[i]? = some d' ∧ w.cells? 0 (a.add (i * κ'.size)) κ'.size = some cs ∧ RP (Old w) w κ' x cs ∧ wf κ' x ∧ ksz κ' x + 1 ≤ B.one d') len (fun i hi => by
            obtain ⟨cs, d', p', h2, h3, h4, hz'⟩ := hall i hi
            rw [hcs] at h3
            obtain ⟨x, h5, h6, h7⟩ := ih n e κ' cs d' p' h4 hz' k1 hs
            exact ⟨x, cs, d', h2, h3, h5, h6, h7⟩)
          have hr : reachBytes = 140737488351232 := by decide
          refine ⟨xs, ⟨_, rfl, some a, cap, by rw [hl], by omega, ?_⟩, ⟨⟨by omega, by rw [hl, ← hr]; exact Nat.le_trans (Nat.mul_le_mul_left _ hb) hbl⟩, fun x hxm => ?_⟩, ?_⟩
          · rcases Nat.eq_zero_or_pos len with h0 | h0
            · left; exact List.eq_nil_of_length_eq_zero (by omega)
            · right
              obtain ⟨x0, hx0⟩ : ∃ x, xs[0]? = some x := ⟨xs[0], List.getElem?_eq_getElem (by omega)⟩
              obtain ⟨cs, d0, _, hc, _⟩ := hx 0 x0 hx0
              rw [Nat.zero_mul, Addr.add_zero'] at hc
              obtain ⟨hsp, hbl, _⟩ := (cells_lie hc).2 hp
              obtain ⟨b, off, s⟩ := a
              simp only at hsp hbl
              subst hsp
              refine ⟨b, off, rfl, hbl, fun i x hix => ?_⟩
              obtain ⟨cs, d0, _, hc, hE, _⟩ := hx i x hix
              rw [Addr.add_lit] at hc
              obtain ⟨h2, h3⟩ := cells_lie hc
              exact ⟨cs, hE, h2, (h3 hp).2.2⟩
          · obtain ⟨i, hi⟩ := List.mem_iff_getElem?.1 hxm
            obtain ⟨_, _, _, _, _, h, _⟩ := hx i x hi
            exact h
          · have := B.sum_le (S := ksz κ') xs es (by omega) (fun i x d h1 h2 => by
              obtain ⟨_, d', h3, _, _, _, h4⟩ := hx i x h1
              rw [h2] at h3
              cases h3
              exact h4)
            rw [B.slice]
            simp only [ksz]
            omega
      · cases hs
      · cases hs
      · cases hs
      · cases hk
def simpleL : List Par → Bool
  | [] => true
  | .k κ :: r => simpleK κ && simpleL r
  | _ => false
def kszL : (ps : List Par) → HL ps → Nat
  | [], _ => 0
  | .k κ :: r, x => ksz κ x.1 + kszL r x.2
  | .fn _ :: r, x => kszL r x
  | .ifc _ κ :: r, x => kszL r x.2
variable {W : World}
theorem argsb_of (B : Bulk H) {base n : Nat} : ∀ (ts : List TypeId) (ps : List Par) (vs : List Value) (ds : List (DataW H)) (qs : List MemPlace), kindsB P n ts ps = true → simpleL ps = true →
    (∀ (j : Nat) t v, ts[j]? = some t → vs[j]? = some v → Value.okWide P W .any base t v) → DataW.TrodAll enc P W 0 (fun _ => true) true ts vs ds qs →
    (∀ m ∈ DataW.weightsEach P ts ds, m ≤ reachBytes) → ∃ x : HL ps, RA (Old W) W ps x vs ∧ wfL ps x ∧ kszL ps x ≤ B.all ds
  | [], [], vs, ds, qs, _, _, _, h, _ => by
    obtain ⟨rfl, _, _⟩ := trodAll_nil h
    exact ⟨(), rfl, trivial, Nat.zero_le _⟩
  | t :: ts, .k κ :: ps, vs, ds, qs, hk, hs, hv, h, hz => by
    simp only [kindsB, Bool.and_eq_true] at hk
    obtain ⟨⟨⟨⟨k1, k2⟩, k3⟩, k4⟩, k5⟩ := hk
    simp only [simpleL, Bool.and_eq_true] at hs
    obtain ⟨v, vs, d, ds, p, q, rfl, rfl, rfl, h0, h1⟩ := trodAll_cons h
    obtain ⟨fuel, hf⟩ := h0
    simp only [DataW.weightsEach, List.mem_append] at hz
    obtain ⟨x, hx, wx, bx⟩ := kdb_of B fuel n t κ _ d p hf (fun m hm => hz m (.inl hm)) k2 hs.1
    obtain ⟨y, hy, wy, bY⟩ := argsb_of B ts ps vs ds q k5 hs.2 (fun j t v h1 h2 => hv (j + 1) t v (by simpa using h1) (by simpa using h2)) h1 (fun m hm => hz m (.inr hm))
    have hv0 := hv 0 t v rfl rfl
    refine ⟨(x, y), ⟨v, vs, rfl, ?_, hy⟩, ⟨wx, wy⟩, ?_⟩
    · simp only [RV]
      cases ha : κ.isAgg with
      | true =>
        rw [ha, cond_true] at k1
        obtain ⟨cs, rfl⟩ := agg_of k1 hv0
        exact ⟨cs, rfl, hx⟩
      | false =>
        rw [ha, cond_false] at k1
        rw [flat_one k1 hv0] at hx
        exact hx
    · rw [B.cons]
      simp only [kszL]
      omega
  | [], .k _ :: _, _, _, _, hk, _, _, _, _ => by simp [kindsB] at hk
  | [], .fn _ :: _, _, _, _, hk, _, _, _, _ => by simp [kindsB] at hk
  | [], .ifc _ _ :: _, _, _, _, hk, _, _, _, _ => by simp [kindsB] at hk
  | _ :: _, [], _, _, _, hk, _, _, _, _ => by simp [kindsB] at hk
  | _ :: _, .fn _ :: _, _, _, _, hk, _, _, _, _ => by simp [kindsB] at hk
  | _ :: _, .ifc _ _ :: _, _, _, _, hk, _, _, _, _ => by simp [kindsB] at hk
/-- THE ROW's CONTRACT, with a bound on the arguments' bulk. -/
theorem rowb_of (B : Bulk H) {C : Checked} {os : Os} {f : FuncId} {fn : Func} {s : ChangeSpec} {c : Con} {bound : Nat} {F : Stop.Interp} (n : Nat) {k : (H : Type) → List (DataW H) → Bool} {S : OpenSpec} (hS : S = { OpenSpec.ofChange s with cond := some k })
    (hkb : ∀ ds : List (DataW H), k H ds = true → B.all ds ≤ bound)
    (own : ownKnob C.prog.godebug = none) (started : os.Started) (noInit : C.prog.inits.idxOf? f = none) (hfn : C.prog.funcs[f]? = some fn)
    (witness : ∃ (w : World) (tape : Tape) (i : Input), w.os = os ∧ (w.forCall tape i).Shaped C.prog ∧ i.vars = [] ∧ Input.okWide C.prog (w.forCall tape i) .any w.heap.size f i ∧
      S.pre6 enc C.prog fn [] false (w.forCall tape i).memory i.args ∧ ({} : Assume).holds C.prog (lone (Frame.enter C.prog f i.args .normal) [] (w.forCall tape i)))
    (hsv : s.vars = []) (hs : ∀ ds : List (DataW H), ds.length = fn.params.toList.length → s.fn H ds = { results := [.lit (.bool true)], args := ds })
    (hlay : laidOutB C.prog = true) (hkinds : kindsB C.prog n fn.params.toList c.ps = true) (hsimple : simpleL c.ps = true) (hcf : c.fid = f) (hname : (fn.name == "runtime.NumGoroutine") = false) (hbody : fn.body.isSome = true)
    (hrs : c.rs = [.bool]) (sound : c.Sound C.prog) {bt : TypeId} (hres : fn.resultTypes.toList = [bt]) (hrn : fn.resultTypes.size = 1) (hbt : C.prog.underlying bt = some .bool)
    (law : ∀ x : HL c.ps, wfL c.ps x → kszL c.ps x ≤ bound → ∃ y : HR c.rs, c.fn x = some y ∧ ∀ w Fz v, RV ι0 Fz w (resV c.rs y) v → v = .bool true) :
    ReturnsInHanded {} C os f .any (S.pre6 enc C.prog fn [] false) ((S.at F).post enc C.prog fn false true false false) := by
  subst hS
  refine returnsInHanded_of_cond_sized (k := k) rfl own started noInit hfn witness ?_
  intro W base args ds gs before hval hW hcnd hkk hsz _
  have hW' := hW
  obtain ⟨p, q, hA, hV, rfl, hfz, hnd⟩ := hW
  rw [show ({ OpenSpec.ofChange s with cond := some k } : OpenSpec).vars = [] from hsv] at hV
  obtain ⟨rfl, rfl⟩ := trodVars_none hV
  have hlt := hW'.lt
  have hvt : ({ OpenSpec.ofChange s with cond := some k } : OpenSpec).bare.plain.varTypes C.prog = [] := by
    have : ({ OpenSpec.ofChange s with cond := some k } : OpenSpec).bare.plain.vars = [] := by show s.vars = []; exact hsv
    unfold DataSpec.varTypes
    rw [this]; rfl
  rw [hvt] at hsz
  simp only [List.append_nil] at hsz hlt hkk
  obtain ⟨x, hx, wx, bx⟩ := argsb_of B fn.params.toList c.ps args.toList ds p hkinds hsimple (fun j t v h1 h2 => hval j t v (by simpa using h1) (by simpa using h2)) hA (fun m hm => by
    have := List.all_eq_true.1 hsz m hm
    exact of_decide_eq_true this)
  obtain ⟨y, hy, hyv⟩ := law x wx (Nat.le_trans bx (hkb ds hkk))
  subst hcf
  have hc := sound.law hfn hname hbody hrs (fun b hb => hb) hx hy (fun v hv => hyv _ _ v hv)
  rw [Array.toArray_toList] at hc
  refine hc.mono fun e W' ⟨he, bel⟩ => ?_
  subst he
  have hd := trodAll_lens hA
  have e1 : s.fn H (ds ++ []) = { results := [.lit (.bool true)], args := ds } := by rw [List.append_nil]; exact hs ds hd
  have e2 : (OpenSpec.at { OpenSpec.ofChange s with cond := some k } F).fn H (ds ++ []) = { results := [.lit (.bool true)], args := ds } := e1
  have e3 : (OpenSpec.at { OpenSpec.ofChange s with cond := some k } F).vars = [] := hsv
  refine ⟨_, rfl, ds, [], p ++ [], [], p, [], hW', ?_, ?_, ?_, bel.frame _, fun h => by cases h⟩
  · rw [e2, hres, hrn]
    exact trodAll_mk1 (shut_bool hbt _)
  · rw [e2]
    exact args_stay hlay bel _ _ _ _ _ hkinds hA hlt
  · rw [e3, e2]; rfl
end
end Go.Av
