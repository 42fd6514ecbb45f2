/- A function's contract out of the evaluator. -/
import Derived.Test.YtnoamanjajighaaAv13
set_option linter.unusedVariables false
set_option linter.unusedSimpArgs false
namespace Go.Av
open Go Go.RowKit

/-- A function that does nothing where nothing panics (a deferred closure that recovers). -/
structure Idle (P : Program) (f : FuncId) : Prop where
  enters : ∀ (args : Array Value) (w : World), (callFunc f args).run P w = .ok (.enter f args) w
  does : ∀ (args : List Value) (w : World), CallsD P f args.toArray .returning w fun e u w' => (∃ v, e = .returned v) ∧ u = .returning ∧ w' = w

section
variable {R : Type} {P : Program} {w0 : Root} {Fz0 : Nat → Prop} {ι : Nat → HI} {Fz : Nat → Prop} {H : List (Nat × AB)} {w : World}

theorem frArgs_of : ∀ (ps : List Par) (i : Nat) (x : HL ps) (vals : List Value), RA Fz w ps x vals → ∀ t, RV ι0 Fz w (getF (frArgs i ps x) t) (if t < i then undef else (vals[t - i]?).getD undef) ∨ getF (frArgs i ps x) t = .dead
  | [], i, x, vals, h, t => .inr rfl
  | .k κ :: ps, i, x, vals, h, t => by
    simp only [RA] at h
    obtain ⟨v, r, rfl, h1, h2⟩ := h
    simp only [frArgs, getF_cons]
    by_cases e : i = t
    · subst e; left; simpa using h1
    · rw [if_neg e]
      rcases frArgs_of ps (i + 1) x.2 r h2 t with h | h
      · by_cases hlt : t < i + 1
        · have : t < i := by omega
          rw [if_pos hlt] at h
          left; rw [if_pos this]; exact h
        · rw [if_neg hlt] at h
          left
          rw [if_neg (by omega), show t - i = (t - (i + 1)) + 1 by omega, List.getElem?_cons_succ]
          exact h
      · exact .inr h
  | .fn f :: ps, i, x, vals, h, t => by
    simp only [RA] at h
    obtain ⟨r, rfl, h2⟩ := h
    simp only [frArgs, getF_cons]
    by_cases e : i = t
    · subst e; left; simp only [if_true, Nat.lt_irrefl, if_false, Nat.sub_self, List.getElem?_cons_zero, Option.getD_some, RV]
      exact ⟨[], rfl, by simp [RVs]⟩
    · rw [if_neg e]
      rcases frArgs_of ps (i + 1) x r h2 t with h | h
      · by_cases hlt : t < i + 1
        · have : t < i := by omega
          rw [if_pos hlt] at h
          left; rw [if_pos this]; exact h
        · rw [if_neg hlt] at h
          left
          rw [if_neg (by omega), show t - i = (t - (i + 1)) + 1 by omega, List.getElem?_cons_succ]
          exact h
      · exact .inr h
  | .ifc tt κ :: ps, i, x, vals, h, t => by
    simp only [RA] at h
    obtain ⟨v, r, rfl, h1, h2⟩ := h
    simp only [frArgs, getF_cons]
    by_cases e : i = t
    · subst e; left; simp only [if_true, Nat.lt_irrefl, if_false, Nat.sub_self, List.getElem?_cons_zero, Option.getD_some]
      simp only [RV]
      exact ⟨v, rfl, by simpa only [RV] using h1⟩
    · rw [if_neg e]
      rcases frArgs_of ps (i + 1) x.2 r h2 t with h | h
      · by_cases hlt : t < i + 1
        · have : t < i := by omega
          rw [if_pos hlt] at h
          left; rw [if_pos this]; exact h
        · rw [if_neg hlt] at h
          left
          rw [if_neg (by omega), show t - i = (t - (i + 1)) + 1 by omega, List.getElem?_cons_succ]
          exact h
      · exact .inr h
theorem RA_len : ∀ (ps : List Par) (x : HL ps) (vals : List Value), RA Fz w ps x vals → vals.length = ps.length
  | [], x, vals, h => by simp only [RA] at h; rw [h]; rfl
  | .k κ :: ps, x, vals, h => by simp only [RA] at h; obtain ⟨v, r, rfl, _, h2⟩ := h; simp [RA_len ps x.2 r h2]
  | .fn f :: ps, x, vals, h => by simp only [RA] at h; obtain ⟨r, rfl, h2⟩ := h; simp [RA_len ps x r h2]
  | .ifc t κ :: ps, x, vals, h => by simp only [RA] at h; obtain ⟨v, r, rfl, _, h2⟩ := h; simp [RA_len ps x.2 r h2]
theorem enter_behind {ps : List Par} {x : HL ps} {vals : List Value} {nt : Nat} (hf : ∀ b, Fz b → b < w.heap.size) {gl : List Gl} (hgl : GOK gl Fz w) (h : RA Fz w ps x vals) (hn : ps.length ≤ nt) :
    Behind (Root.at w ι0 gl) Fz ι0 Fz ⟨frArgs 0 ps x, [], []⟩ { tmps := vals.toArray ++ Array.replicate (nt - vals.toArray.size) undef, defers := [] } w := by
  refine ⟨fun t => ?_, by simp [RD], ⟨Bel.refl _ _, hf, fun _ h => h, fun _ h => .inl h, fun k => trivial, fun k hk => hk.elim, fun k k' hk => hk.elim, fun _ _ => rfl, fun _ => trivial, hgl, fun b hb ho => by have := hf b hb; have ho : w.heap.size ≤ b := ho; omega⟩⟩
  rcases frArgs_of ps 0 x vals h t with h' | h'
  · simp only [Nat.not_lt_zero, if_false, Nat.sub_zero] at h'
    have hl := RA_len ps x vals h
    have e : (vals.toArray ++ Array.replicate (nt - vals.toArray.size) undef).getD t undef = (vals[t]?).getD undef := by
      rw [Array.getD_eq_getD_getElem?]
      by_cases hlt : t < vals.length
      · rw [Array.getElem?_append_left (by simpa using hlt)]; simp
      · rw [List.getElem?_eq_none (by omega)]
        rw [Array.getElem?_append_right (by simpa using hlt)]
        simp only [Option.getD_none]
        cases hx : (Array.replicate (nt - vals.toArray.size) undef)[t - vals.toArray.size]? with
        | none => rfl
        | some y =>
          rw [Array.getElem?_replicate] at hx
          split at hx
          · simp only [Option.some.injEq] at hx; rw [← hx]; rfl
          · cases hx
    rw [e]; exact h'
  · show RV _ _ _ (getF (frArgs 0 ps x) t) _
    rw [h']; simp [RV]

/-! ### results -/
def resG (tmps : Array Value) : ResultVar → Sem Value
  | .tmp t => pure (tmps.getD t undef)
  | .cell x t => do loadVar t (← asAddr (tmps.getD x undef))
theorem results_eq (fn : Func) (tmps : Array Value) : results fn tmps = (do
    let vs ← fn.results.mapM (resG tmps)
    pure (if h : vs.size = 1 then vs[0] else .tuple vs)) := by
  unfold results
  congr 1

theorem resAV_of {st : St} {a : Act} (b : Behind w0 Fz0 ι Fz st a w) : ∀ (rv : List ResultVar) (avs : List AV), resAV P st rv = some avs →
    ∃ vs : List Value, (rv.mapM (resG a.tmps)).run P w = .ok vs w ∧ RVs ι Fz w avs vs
  | [], avs, h => by
    simp only [resAV, Option.some.injEq] at h
    subst h
    exact ⟨[], by simp, by simp [RVs]⟩
  | .tmp t :: rv, avs, h => by
    simp only [resAV] at h
    obtain ⟨l, hl, h⟩ := Option.bind_eq_some_iff.1 h
    simp only [Option.some.injEq] at h
    subst h
    obtain ⟨vs, h1, h2⟩ := resAV_of b rv l hl
    refine ⟨a.tmps.getD t undef :: vs, ?_, by simp only [RVs]; exact ⟨_, _, rfl, b.1 t, h2⟩⟩
    rw [List.mapM_cons]
    simp only [Sem.run_bind, resG, Sem.run_pure, Result.andThen_ok]
    rw [h1]; rfl
  | .cell x t :: rv, avs, h => by
    simp only [resAV] at h
    have hx := b.1 x
    split at h
    · rename_i g off hex
      rw [hex] at hx
      simp only [RV] at hx
      obtain ⟨hv, hxe⟩ := hx
      have hrb := b.2.2.rb g
      split at h
      · rename_i cs hg
        rw [hg] at hrb
        simp only [RB] at hrb
        obtain ⟨_, us, T, ⟨rest, hh⟩, hcs, h1⟩ := hrb
        have fin : ∀ {av : AV} {v : Value}, ((resAV P st rv).bind fun vs => some (av :: vs)) = some avs → (loadVar t ⟨(ι g).blk, off, none⟩).run P w = .ok v w → RV ι Fz w av v →
            ∃ vs : List Value, ((ResultVar.cell x t :: rv).mapM (resG a.tmps)).run P w = .ok vs w ∧ RVs ι Fz w avs vs := by
          intro av v h hr hrv
          obtain ⟨l, hl, h⟩ := Option.bind_eq_some_iff.1 h
          simp only [Option.some.injEq] at h
          subst h
          obtain ⟨vs, e1, e2⟩ := resAV_of b rv l hl
          refine ⟨v :: vs, ?_, by simp only [RVs]; exact ⟨_, _, rfl, hrv, e2⟩⟩
          have hg : (resG a.tmps (.cell x t)).run P w = .ok v w := by simp [resG, hxe, asAddr, hr]
          rw [List.mapM_cons]
          simp only [Sem.run_bind, hg, Result.andThen_ok]
          rw [e1]; rfl
        cases ha : aggIs P t true with
        | true =>
          rw [ha, cond_true] at h
          obtain ⟨i, hi, h⟩ := sizeK_of h
          cases hc : (Nat.ble (off + i.size) cs.length && aliveL ((cs.drop off).take i.size)) with
          | false => rw [hc] at h; cases h
          | true =>
            rw [hc, cond_true] at h
            simp only [Bool.and_eq_true] at hc
            have hle := Nat.le_of_ble_eq_true hc.1
            have hlen := RVs_len hcs
            refine fin h (v := .agg ((us.drop off).take i.size).toArray) ?_ ?_
            · have := run_loadCells_list (P := P) w ⟨(ι g).blk, off, none⟩ ((us.drop off).take i.size) (fun j v hj => by
                rw [Addr.add_lit, box_cell hh]
                rw [List.getElem?_take] at hj
                split at hj
                · rw [List.getElem?_drop] at hj
                  rw [List.getElem?_append_left (List.getElem?_eq_some_iff.1 hj).1]
                  exact hj
                · cases hj)
              rw [show ((us.drop off).take i.size).length = i.size by rw [List.length_take, List.length_drop]; omega] at this
              simp [loadVar, run_agg ha, run_size hi, this]
            · simp only [RV]
              exact ⟨_, rfl, fun u hu => h1 u (List.mem_of_mem_drop (List.mem_of_mem_take hu)), RVs_take _ (RVs_drop _ hcs)⟩
        | false =>
          rw [ha, cond_false] at h
          cases ha' : aggIs P t false with
          | false => rw [ha'] at h; cases h
          | true =>
            rw [ha', cond_true] at h
            split at h
            · rename_i v hv'
              obtain ⟨u, hu, hru⟩ := RVs_at hcs hv'
              refine fin h (v := u) ?_ hru
              have := box_cell hh off
              rw [List.getElem?_append_left (List.getElem?_eq_some_iff.1 hu).1, hu] at this
              simp [loadVar, run_agg ha', this]
            · cases h
      · cases h
    · cases h
theorem run_mapM_toArray {α β : Type} {g : α → Sem β} (xs : Array α) {l : List β} (h : (xs.toList.mapM g).run P w = .ok l w) : (xs.mapM g).run P w = .ok l.toArray w := by
  rw [← Array.toList_mapM] at h
  simp only [Sem.run_map] at h
  cases hr : (xs.mapM g).run P w with
  | halt x y => rw [hr] at h; simp at h
  | ok a w' =>
    rw [hr] at h
    simp only [Result.andThen_ok, Result.ok.injEq] at h
    obtain ⟨e, rfl⟩ := h
    rw [← e]
theorem resD_of {Fz' : Nat → Prop} (hrb : ∀ h, RB ι Fz w h (getH H h)) (hf : ∀ b, Fz b → Fz' b) (hb : ∀ h, (getH H h).isArr → (ι h).virt = false → Fz' (ι h).blk) :
    ∀ (rs : List Kd) (avs : List AV) (y : HR rs) (vs : List Value), resD H rs avs = some y → RVs ι Fz w avs vs → RVs ι0 Fz' w (resL rs y) vs
  | [], [], y, vs, _, hr => by simpa only [resL, RVs] using hr
  | [], _ :: _, _, _, h, _ => by simp [resD] at h
  | [κ], [], _, _, h, _ => by simp [resD] at h
  | [κ], _ :: _ :: _, _, _, h, _ => by simp [resD] at h
  | [κ], [v], y, vs, h, hr => by
    simp only [resD] at h
    simp only [RVs] at hr
    obtain ⟨u, r, rfl, h1, rfl⟩ := hr
    simp only [resL, RVs]
    exact ⟨u, [], rfl, argD_of hrb hf h h1 (fun h _ => hb h), rfl⟩
  | κ :: κ' :: rs, [], _, _, h, _ => by simp [resD] at h
  | κ :: κ' :: rs, v :: avs, y, vs, h, hr => by
    simp only [resD] at h
    obtain ⟨x, hx, h⟩ := Option.bind_eq_some_iff.1 h
    obtain ⟨z, hz, h⟩ := Option.bind_eq_some_iff.1 h
    simp only [Option.some.injEq] at h
    subst h
    simp only [RVs] at hr
    obtain ⟨u, r, rfl, h1, h2⟩ := hr
    simp only [resL, RVs]
    exact ⟨u, r, rfl, argD_of hrb hf hx h1 (fun h _ => hb h), resD_of hrb hf hb (κ' :: rs) avs z r hz h2⟩
theorem resL_len : ∀ (rs : List Kd) (y : HR rs), (resL rs y).length = rs.length
  | [], _ => rfl
  | [_], _ => rfl
  | _ :: κ' :: r, y => by simp only [resL, List.length_cons, resL_len (κ' :: r) y.2]
theorem resV_val {Fz' : Nat → Prop} {rs : List Kd} {y : HR rs} {vs : List Value} (h : RVs ι0 Fz' w (resL rs y) vs) : RV ι0 Fz' w (resV rs y) (if hh : vs.length = 1 then vs[0] else .tuple vs.toArray) := by
  have hlen := RVs_len h
  unfold resV
  generalize resL rs y = l at h hlen
  match l with
  | [] =>
    simp only [List.length_nil] at hlen
    rw [dif_neg (by omega)]
    simp only [RV]
    exact ⟨vs, rfl, h⟩
  | [a] =>
    simp only [RVs] at h
    obtain ⟨v, r, rfl, h1, rfl⟩ := h
    simpa using h1
  | a :: b :: l =>
    simp only [List.length_cons] at hlen
    rw [dif_neg (by omega)]
    simp only [RV]
    exact ⟨vs, rfl, h⟩
theorem leaves_of {fn : Func} {Rp : Ending → World → Prop} {idle : List FuncId} (hI : ∀ f ∈ idle, Idle P f) {tmps : Array Value} (hend : ∃ v, (results fn tmps).run P w = .ok v w ∧ Rp (.returned v) w) :
    ∀ (l : List AV) (ds : List Deferred), idleDf idle l = true → RD ι Fz w l ds → Leaves P fn tmps Rp ds .returning w
  | [], ds, _, h => by
    simp only [RD] at h
    subst h
    exact hend
  | v :: l, ds, hi, h => by
    simp only [RD] at h
    obtain ⟨f, caps, vs, s, rfl, rfl, h1, h2⟩ := h
    simp only [idleDf, Bool.and_eq_true, List.any_eq_true] at hi
    obtain ⟨⟨⟨g, hg, hgf⟩, _⟩, hi⟩ := hi
    have e := Nat.eq_of_beq_eq_true hgf
    subst e
    have hid := hI g hg
    refine leaves_cons (f := g) (args := vs) (by simp) ?_ ?_
    · have := hid.enters (#[] ++ vs) w
      simpa [invoke] using this
    · have := hid.does vs.toList w
      simp only [Array.toArray_toList] at this
      refine this.mono ?_
      rintro e u w' ⟨⟨v, e1⟩, e2, e3⟩
      subst e1
      subst e2
      rw [e3]
      exact leaves_of hI hend l s hi h2
/-- THE CONTRACT of a function whose code the evaluator runs. -/
theorem Con.sound_of {c : Con} {fn : Func} {E : Env} {idle : List FuncId} (hf : E.P.funcs[c.fid]? = some fn) (hname : (fn.name == "runtime.NumGoroutine") = false) (hbody : fn.body.isNone = false)
    (hΓ : EnvOk E E.gl) (hI : ∀ f ∈ idle, Idle E.P f) (h : ∀ x y, c.fn x = some y → evF E idle fn c.ps c.rs x = some y) : c.Sound E.P E.gl := by
  intro w Fz x vals y hfz hgl hra hy
  have hev := h x y hy
  unfold evF at hev
  split at hev
  · rename_i code hcode
    cases hc : (codeB fn.ntmps code && Nat.ble c.ps.length fn.ntmps) with
    | false => rw [hc] at hev; cases hev
    | true =>
      rw [hc, cond_true] at hev
      simp only [Bool.and_eq_true] at hc
      have hn := Nat.le_of_ble_eq_true hc.2
      have hb := enter_behind (nt := fn.ntmps) hfz hgl hra hn
      obtain ⟨st1, ι1, F1, hev, b1⟩ := norm_of hev hb
      refine .inr ⟨?_, calls_of_wp_defers hf hcode ?_⟩
      · have hn' : ¬ fn.name = "runtime.NumGoroutine" := by simpa using hname
        have hb' : ¬ fn.body = none := by rw [hcode]; simp
        simp [callFunc, hf, hn', hb']
      have hl := RA_len _ _ _ hra
      refine evC_of hΓ code hc.1 hev (by simp; omega) b1 ?_
      intro e st a w' ι' Fz' hk hnt b
      have hend : (∃ v, (results fn a.tmps).run E.P w' = .ok v w' ∧ (∃ v', Ending.returned v = Ending.returned v' ∧ Below w.heap.size w w' ∧ ∃ Fz' : Nat → Prop, (∀ b, Fz b → Fz' b) ∧ (∀ b, Fz' b → Fz b ∨ w.heap.size ≤ b) ∧ (∀ b, Fz' b → b < w'.heap.size) ∧ RV ι0 Fz' w' (resV c.rs y) v')) ∧ idleDf idle st.df = true := by
        have hk' : (bif idleDf idle st.df then (resAV E.P st fn.results.toList).bind fun vs => resD st.H c.rs vs else none) = some y := by
          cases e with
          | exit id => simp [kEnd] at hk
          | normal => exact hk
          | ret => exact hk
        cases hid : idleDf idle st.df with
        | false => rw [hid] at hk'; cases hk'
        | true =>
          rw [hid, cond_true] at hk'
          obtain ⟨avs, h1, h2⟩ := Option.bind_eq_some_iff.1 hk'
          obtain ⟨vs, h3, h4⟩ := resAV_of b fn.results.toList avs h1
          have m := b.2.2
          have h5 := resD_of (Fz' := lent ι' Fz' st.H) m.rb (fun b hb => .inl hb) (fun h hl hv => .inr ⟨h, isArr_live hl, hv, rfl⟩) c.rs avs y vs h2 h4
          refine ⟨⟨_, ?_, _, rfl, m.below.below, lent ι' Fz' st.H, fun b hb => .inl (m.fz0 b hb), ?_, lent_lt m, resV_val h5⟩, rfl⟩
          · rw [results_eq]
            have e1 := run_mapM_toArray fn.results h3
            simp only [Sem.run_bind]
            rw [e1]
            simp only [Result.andThen_ok, Sem.run_pure, List.size_toArray]
            congr 1
          · rintro b (hb | ⟨h, hl, hv, rfl⟩)
            · exact m.fzn b hb
            · exact .inr (m.sep h hl hv).1
      obtain ⟨hend, hid⟩ := hend
      cases e with
      | exit id => simp [kEnd] at hk
      | normal => exact leaves_of hI hend st.df a.defers hid b.2.1
      | ret => exact leaves_of hI hend st.df a.defers hid b.2.1
  · cases hev
/-- A law: it returns true and leaves what was there alone. -/
theorem Con.Sound.law {c : Con} {fn : Func} {gl : List Gl} (s : c.Sound P gl) (hf : P.funcs[c.fid]? = some fn) (hname : (fn.name == "runtime.NumGoroutine") = false) (hbody : fn.body.isSome = true) (hrs : c.rs = [.bool]) {x : HL c.ps} {vals : List Value}
    (hfz : ∀ b, Fz b → b < w.heap.size) (hgl : GOK gl Fz w) (hra : RA Fz w c.ps x vals) {y : HR c.rs} (hy : c.fn x = some y) (hv : ∀ v, RV ι0 Fz w (resV c.rs y) v → v = .bool true) :
    Calls P c.fid vals.toArray w fun e w' => e = .returned (.bool true) ∧ Below w.heap.size w w' := by
  have hn' : ¬ fn.name = "runtime.NumGoroutine" := by simpa using hname
  have hb' : ¬ fn.body = none := by intro h; rw [h] at hbody; cases hbody
  have hp : c.rs.all Kd.plain = true := by rw [hrs]; rfl
  rcases s w Fz x vals y hfz hgl hra hy with ⟨v, w', h1, h2⟩ | ⟨h1, h2⟩
  · simp [callFunc, hf, hn', hb'] at h1
  · refine h2.mono ?_
    rintro e w' ⟨v, e1, hbel, Fz', _, _, _, hr⟩
    subst e1
    exact ⟨by rw [hv v (resV_plain hp hr)], hbel⟩
end
end Go.Av
