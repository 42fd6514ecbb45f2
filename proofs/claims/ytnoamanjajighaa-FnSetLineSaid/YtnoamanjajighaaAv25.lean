/- The contract, with memory, of a function whose code the evaluator runs. -/
import Derived.Test.YtnoamanjajighaaAv14
set_option linter.unusedVariables false
set_option linter.unusedSimpArgs false
namespace Go.Av
open Go Go.RowKit

/-! ### what is rendered names its own names alone -/
theorem hdN_mem {ns : List Nat} (h : 1 ≤ ns.length) : hdN ns ∈ ns := by
  cases ns with
  | nil => simp at h
  | cons n r => simp [hdN]
mutual
theorem render_ment (pn : Nat → Nat) : ∀ (s : Sh) (x : ShD s) (ns : List Nat) (h : Nat), s.noPar = true → s.cnt ≤ ns.length → (renderSh pn s x ns).1.ment h = true → h ∈ ns
  | .k _, _, ns, h, _, _, hm => by simp [renderSh, AV.ment] at hm
  | .krow _ _ _, _, ns, h, hp, _, _ => by simp [Sh.noPar] at hp
  | .parw _ _, _, ns, h, hp, _, _ => by simp [Sh.noPar] at hp
  | .sub _ _, _, ns, h, _, hl, hm => by
    simp only [renderSh, AV.ment] at hm
    rw [← Nat.eq_of_beq_eq_true hm]; exact hdN_mem (by simpa [Sh.cnt] using hl)
  | .row _ _, _, ns, h, _, hl, hm => by
    simp only [renderSh, AV.ment] at hm
    rw [← Nat.eq_of_beq_eq_true hm]; exact hdN_mem (by simpa [Sh.cnt] using hl)
  | .box cs, d, ns, h, _, hl, hm => by
    simp only [renderSh, AV.ment] at hm
    rw [← Nat.eq_of_beq_eq_true hm]; exact hdN_mem (by simp only [Sh.cnt] at hl; omega)
  | .bsl cs, d, ns, h, _, hl, hm => by
    simp only [renderSh, AV.ment] at hm
    rw [← Nat.eq_of_beq_eq_true hm]; exact hdN_mem (by simp only [Sh.cnt] at hl; omega)
  | .agg cs, d, ns, h, hp, hl, hm => by
    simp only [renderSh, AV.ment] at hm
    exact renders_ment pn cs d ns h (by simpa [Sh.noPar] using hp) (by simpa [Sh.cnt] using hl) hm
  | .ifc _ s, d, ns, h, hp, hl, hm => by
    simp only [renderSh, AV.ment] at hm
    exact render_ment pn s d ns h (by simpa [Sh.noPar] using hp) (by simpa [Sh.cnt] using hl) hm
  | .fn _ cs, d, ns, h, hp, hl, hm => by
    simp only [renderSh, AV.ment] at hm
    exact renders_ment pn cs d ns h (by simpa [Sh.noPar] using hp) (by simpa [Sh.cnt] using hl) hm
  | .lref _, _, ns, h, _, _, hm => by simp [renderSh, AV.ment] at hm
  | .nilp, _, ns, h, _, _, hm => by simp [renderSh, AV.ment] at hm
  | .nili, _, ns, h, _, _, hm => by simp [renderSh, AV.ment] at hm
  | .nilf, _, ns, h, _, _, hm => by simp [renderSh, AV.ment] at hm
  | .nan, _, ns, h, _, _, hm => by simp [renderSh, AV.ment] at hm
  | .ep _, _, ns, h, _, _, hm => by simp [renderSh, AV.ment] at hm
  | .snil, _, ns, h, _, _, hm => by simp [renderSh, AV.ment] at hm
  | .par _, _, ns, h, hp, _, _ => by simp [Sh.noPar] at hp
theorem renders_ment (pn : Nat → Nat) : ∀ (ss : List Sh) (x : ShDs ss) (ns : List Nat) (h : Nat), noParL ss = true → cnts ss ≤ ns.length → mentL h (renderShs pn ss x ns).1 = true → h ∈ ns
  | [], _, ns, h, _, _, hm => by simp [renderShs, mentL] at hm
  | s :: r, d, ns, h, hp, hl, hm => by
    simp only [renderShs, mentL, Bool.or_eq_true] at hm
    simp only [noParL, Bool.and_eq_true] at hp
    simp only [cnts] at hl
    rcases hm with hm | hm
    · exact render_ment pn s d.1 ns h hp.1 (by omega) hm
    · rw [render_rest] at hm
      exact List.mem_of_mem_drop (renders_ment pn r d.2 _ h hp.2 (by rw [List.length_drop]; omega) hm)
end
mutual
theorem noPar_pars : ∀ (s : Sh), s.noPar = true → s.pars = []
  | .k _, _ => rfl
  | .tr, _ => rfl
  | .row _ _, _ => rfl
  | .sub _ _, _ => rfl
  | .krow _ _ _, h => by simp [Sh.noPar] at h
  | .parw _ _, h => by simp [Sh.noPar] at h
  | .box cs, h => by simp only [Sh.pars]; exact noParL_pars cs (by simpa [Sh.noPar] using h)
  | .bsl cs, h => by simp only [Sh.pars]; exact noParL_pars cs (by simpa [Sh.noPar] using h)
  | .agg cs, h => by simp only [Sh.pars]; exact noParL_pars cs (by simpa [Sh.noPar] using h)
  | .ifc _ s, h => by simp only [Sh.pars]; exact noPar_pars s (by simpa [Sh.noPar] using h)
  | .fn _ cs, h => by simp only [Sh.pars]; exact noParL_pars cs (by simpa [Sh.noPar] using h)
  | .lref _, _ => rfl
  | .nilp, _ => rfl
  | .nili, _ => rfl
  | .nilf, _ => rfl
  | .nan, _ => rfl
  | .ep _, _ => rfl
  | .snil, _ => rfl
  | .par _, h => by simp [Sh.noPar] at h
theorem noParL_pars : ∀ (l : List Sh), noParL l = true → parsL l = []
  | [], _ => rfl
  | s :: r, h => by
    simp only [noParL, Bool.and_eq_true] at h
    simp only [parsL]; rw [noPar_pars s h.1, noParL_pars r h.2]; rfl
end
mutual
theorem noPar_wpars : ∀ (s : Sh), s.noPar = true → s.wpars = []
  | .k _, _ => rfl
  | .tr, _ => rfl
  | .row _ _, _ => rfl
  | .sub _ _, _ => rfl
  | .krow _ _ _, h => by simp [Sh.noPar] at h
  | .parw _ _, h => by simp [Sh.noPar] at h
  | .box cs, h => by simp only [Sh.wpars]; exact noParL_wpars cs (by simpa [Sh.noPar] using h)
  | .bsl cs, h => by simp only [Sh.wpars]; exact noParL_wpars cs (by simpa [Sh.noPar] using h)
  | .agg cs, h => by simp only [Sh.wpars]; exact noParL_wpars cs (by simpa [Sh.noPar] using h)
  | .ifc _ s, h => by simp only [Sh.wpars]; exact noPar_wpars s (by simpa [Sh.noPar] using h)
  | .fn _ cs, h => by simp only [Sh.wpars]; exact noParL_wpars cs (by simpa [Sh.noPar] using h)
  | .lref _, _ => rfl
  | .nilp, _ => rfl
  | .nili, _ => rfl
  | .nilf, _ => rfl
  | .nan, _ => rfl
  | .ep _, _ => rfl
  | .snil, _ => rfl
  | .par _, h => by simp [Sh.noPar] at h
theorem noParL_wpars : ∀ (l : List Sh), noParL l = true → wparsL l = []
  | [], _ => rfl
  | s :: r, h => by
    simp only [noParL, Bool.and_eq_true] at h
    simp only [wparsL]; rw [noPar_wpars s h.1, noParL_wpars r h.2]; rfl
end
theorem nameL_at : ∀ (n b i : Nat), i < n → (nameL b n)[i]? = some (b + i)
  | 0, b, i, h => by omega
  | n + 1, b, 0, h => by simp [nameL]
  | n + 1, b, i + 1, h => by simp only [nameL, List.getElem?_cons_succ]; rw [nameL_at n (b + 1) i (by omega)]; congr 1; omega
theorem nameL_mem : ∀ {n b k : Nat}, k ∈ nameL b n → b ≤ k ∧ k < b + n
  | 0, b, k, h => by simp [nameL] at h
  | n + 1, b, k, h => by
    simp only [nameL, List.mem_cons] at h
    rcases h with rfl | h
    · omega
    · have := nameL_mem h; omega
theorem nameL_nodup : ∀ (n b : Nat), (nameL b n).Nodup
  | 0, b => List.nodup_nil
  | n + 1, b => by
    simp only [nameL]
    exact List.nodup_cons.2 ⟨fun h => by have := nameL_mem h; omega, nameL_nodup n (b + 1)⟩
theorem frL_of {ι : Nat → HI} {Fz : Nat → Prop} {w : World} : ∀ (avs : List AV) (i : Nat) (vals : List Value), RVs ι Fz w avs vals →
    ∀ t, RV ι Fz w (getF (frL i avs) t) (if t < i then undef else (vals[t - i]?).getD undef) ∨ getF (frL i avs) t = .dead
  | [], i, vals, h, t => .inr rfl
  | v :: avs, i, vals, h, t => by
    simp only [RVs] at h
    obtain ⟨u, r, rfl, h1, h2⟩ := h
    simp only [frL, getF_cons]
    by_cases e : i = t
    · subst e; left; simpa using h1
    · rw [if_neg e]
      rcases frL_of avs (i + 1) r h2 t with h | h
      · by_cases hlt : t < i + 1
        · have : t < i := by omega
          rw [if_pos hlt] at h
          left; rw [if_pos this]; exact h
        · rw [if_neg hlt] at h
          left
          rw [if_neg (by omega), show t - i = (t - (i + 1)) + 1 by omega, List.getElem?_cons_succ]
          exact h
      · exact .inr h
theorem altTry_of {H : List (Nat × AB)} {vs as : List AV} : ∀ (alts : List Alt) (y : AltD alts), altTry H vs as alts = some y →
    ∃ a d, matchAlt H a vs as = some d ∧ ∀ pi F w vals v os, altOne pi F w vals a d v os → AltR pi F w vals alts y v os
  | [], y, h => by simp [altTry] at h
  | [a], y, h => ⟨a, y, h, fun _ _ _ _ _ _ h => h⟩
  | a :: b :: r, y, h => by
    simp only [altTry] at h
    split at h
    · rename_i d hd
      simp only [Option.some.injEq] at h
      subst h
      exact ⟨a, d, hd, fun _ _ _ _ _ _ h => h⟩
    · obtain ⟨z, hz, h⟩ := Option.bind_eq_some_iff.1 h
      simp only [Option.some.injEq] at h
      subst h
      obtain ⟨a', d, h1, h2⟩ := altTry_of (b :: r) z hz
      exact ⟨a', d, h1, fun pi F w vals v os h => h2 pi F w vals v os h⟩
theorem keepV_of {ι : Nat → HI} {Fz : Nat → Prop} {w : World} : ∀ (fins : List (Option Sh)) (avs : List AV) (vals : List Value), RVs ι Fz w avs vals → RVs ι Fz w (keepV fins avs) (keepV fins vals)
  | [], avs, vals, h => by simp [keepV, RVs]
  | some s :: fins, [], vals, h => by simp only [RVs] at h; subst h; simp [keepV, RVs]
  | none :: fins, [], vals, h => by simp only [RVs] at h; subst h; simp [keepV, RVs]
  | some s :: fins, v :: avs, vals, h => by
    simp only [RVs] at h
    obtain ⟨u, r, rfl, h1, h2⟩ := h
    simp only [keepV, RVs]
    exact ⟨u, _, rfl, h1, keepV_of fins avs r h2⟩
  | none :: fins, v :: avs, vals, h => by
    simp only [RVs] at h
    obtain ⟨u, r, rfl, h1, h2⟩ := h
    simp only [keepV]
    exact keepV_of fins avs r h2

theorem maskA_of {ι : Nat → HI} {Fz : Nat → Prop} {w : World} : ∀ (ins : List Sh) (avs : List AV) (vals : List Value), ins.length = avs.length → RVs ι Fz w avs vals → RVs ι Fz w (maskA ins avs) vals
  | [], [], vals, _, h => by simpa [maskA] using h
  | [], _ :: _, _, hl, _ => by simp at hl
  | _ :: _, [], _, hl, _ => by simp at hl
  | i :: ins, v :: avs, vals, hl, h => by
    simp only [RVs] at h
    obtain ⟨u, r, rfl, h1, h2⟩ := h
    simp only [maskA, RVs]
    refine ⟨u, r, rfl, ?_, maskA_of ins avs r (by simpa using hl) h2⟩
    cases Nat.beq i.cnt 0
    · exact h1
    · simp [RV]
/-- THE CONTRACT, with memory, of a function whose code the evaluator runs. -/
theorem Con2.sound_of {c : Con2} {fn : Func} {E : Env} {idle : List FuncId} (hf : E.P.funcs[c.fid]? = some fn) (hname : (fn.name == "runtime.NumGoroutine") = false) (hbody : fn.body.isNone = false)
    (hΓ : EnvOk E E.gl) (hI : ∀ f ∈ idle, Idle E.P f) (h : ∀ x y, c.fn x = some y → evF2 E idle fn c.ins c.alts x = some y) : c.Sound E.P E.gl := by
  intro w Fz pi x vals os y hfz hgl hra hok hy
  have hev := h x y hy
  unfold evF2 at hev
  split at hev
  · rename_i code hcode
    cases hc : (codeB fn.ntmps code && Nat.ble c.ins.length fn.ntmps && noParL c.ins) with
    | false => rw [hc] at hev; cases hev
    | true =>
      rw [hc, cond_true] at hev
      simp only [Bool.and_eq_true] at hc
      obtain ⟨⟨hcode', hn⟩, hnp⟩ := hc
      have hn := Nat.le_of_ble_eq_true hn
      have hol := RSs_cnt _ _ _ _ hra
      generalize hns : nameL 1000000 (cnts c.ins) = ns at hev
      have hnsl : ns.length = os.length := by rw [← hns, nameL_len, hol]
      have hnd : ns.Nodup := by rw [← hns]; exact nameL_nodup _ _
      have hbig : ∀ k ∈ ns, 1000000 ≤ k := fun k hk => by rw [← hns] at hk; exact (nameL_mem hk).1
      have hιat : ∀ i, assignN ns os ι0 (1000000 + i) = os.getD i ⟨0, 0, 0, true⟩ := by
        intro i
        rcases Nat.lt_or_ge i os.length with hlt | hge
        · rw [assignN_at (j := i) (i := os[i]) hnd (by rw [← hns, nameL_at _ _ _ (by omega)]) (List.getElem?_eq_getElem hlt)]
          rw [List.getD_eq_getElem?_getD, List.getElem?_eq_getElem hlt]; rfl
        · rw [assignN_not (fun hin => by rw [← hns] at hin; have := nameL_mem hin; omega), List.getD_eq_getElem?_getD, List.getElem?_eq_none hge]; rfl
      obtain ⟨q1, q2, q3, q4⟩ := renderShs_of (ι := assignN ns os ι0) (pn := fun _ => 0) c.ins ⟨fun i hi => by rw [noParL_pars _ hnp] at hi; simp at hi, fun i hi => by rw [noParL_wpars _ hnp] at hi; simp at hi⟩ x vals os ns hra (assignN_named hnd (by omega))
      rw [← hnsl, List.take_length] at q4
      have hment := renders_ment (fun _ => 0) c.ins x ns
      have hrl := renderShs_len (fun _ => 0) c.ins x ns
      generalize renderShs (fun _ => 0) c.ins x ns = rr at hev q1 q2 q3 q4 hment hrl
      have eH : ∀ k, (∃ (bb : AB) (j : Nat) (i : HI), (k, bb) ∈ rr.2.1 ∧ getH rr.2.1 k = bb ∧ ns[j]? = some k ∧ os[j]? = some i ∧ assignN ns os ι0 k = i) ∨ (k ∉ ns ∧ getH rr.2.1 k = .gone) := by
        intro k
        rcases getH_entries rr.2.1 [] k with ⟨bb, a1, a2⟩ | ⟨a1, a2⟩
        · left
          rw [List.append_nil] at a2
          have hk : k ∈ ns := by rw [← q4]; exact List.mem_map_of_mem (f := Prod.fst) a1
          obtain ⟨j, hj⟩ := List.mem_iff_getElem?.1 hk
          have hjl := (List.getElem?_eq_some_iff.1 hj).1
          have hi : os[j]? = some os[j] := List.getElem?_eq_getElem (by omega)
          exact ⟨bb, j, _, a1, a2, hj, hi, assignN_at hnd hj hi⟩
        · right
          rw [List.append_nil] at a2
          rw [q4] at a1
          exact ⟨a1, a2⟩
      let r0 : Root := ⟨w, ownW w os, fun b hb => .inl hb, assignN ns os ι0, E.gl⟩
      have m0 : Mem r0 Fz (assignN ns os ι0) Fz rr.2.1 w := by
        refine ⟨Bel.refl _ _, hfz, fun _ h => h, fun _ h => .inl h, fun k => ?_, fun k hl hvk => ?_, fun k k' hl hl' hvk hvk' he => ?_, fun _ _ => rfl, fun k => ?_, hgl, fun b hb ho => ?_⟩
        · rcases eH k with ⟨bb, j, i, a1, a2, _⟩ | ⟨_, a2⟩
          · rw [a2]; exact (q2 _ a1).1
          · rw [a2]; trivial
        · rcases eH k with ⟨bb, j, i, a1, a2, a3, a4, a5⟩ | ⟨_, a2⟩
          · have hi : i ∈ os := List.mem_of_getElem? a4
            rw [a5] at hvk ⊢
            exact ⟨.inr ⟨i, hi, hvk, rfl⟩, (hok.lt i hi hvk).1, (hok.lt i hi hvk).2⟩
          · rw [a2] at hl; exact hl.elim
        · rcases eH k with ⟨bb, j, i, a1, a2, a3, a4, a5⟩ | ⟨_, a2⟩
          · rcases eH k' with ⟨bb', j', i', b1, b2, b3, b4, b5⟩ | ⟨_, b2⟩
            · rw [a5] at hvk he
              rw [b5] at hvk' he
              have := hok.ne j j' i i' a4 b4 hvk hvk' he
              subst this
              exact Option.some.inj (a3.symm.trans b3)
            · rw [b2] at hl'; exact hl'.elim
          · rw [a2] at hl; exact hl.elim
        · rcases eH k with ⟨bb, j, i, a1, a2, _⟩ | ⟨_, a2⟩
          · rw [a2]; exact (q2 _ a1).2.1
          · rw [a2]; trivial
        · rcases ho with ho | ⟨i, hi, hvk, rfl⟩
          · have := hfz b hb; omega
          · exact (hok.lt i hi hvk).2 hb
      have hl := RVs_len q1
      have hvl : vals.length = c.ins.length := by
        have : ∀ (ss : List Sh) (d : ShDs ss) (vs : List Value) (o : List HI), RSs pi Fz w ss d vs o → vs.length = ss.length := by
          intro ss
          induction ss with
          | nil => intro d vs o h; simp only [RSs] at h; rw [h.1]; rfl
          | cons s r ih =>
            intro d vs o h
            simp only [RSs] at h
            obtain ⟨v, q, o1, o2, rfl, _, _, h2⟩ := h
            simp [ih _ _ _ h2]
        exact this _ _ _ _ hra
      have hb : Behind r0 Fz (assignN ns os ι0) Fz ⟨frL 0 rr.1, rr.2.1, []⟩ { tmps := vals.toArray ++ Array.replicate (fn.ntmps - vals.toArray.size) undef, defers := [] } w := by
        refine ⟨fun t => ?_, by simp [RD], m0⟩
        rcases frL_of rr.1 0 vals q1 t with h' | h'
        · simp only [Nat.not_lt_zero, if_false, Nat.sub_zero] at h'
          have e : (vals.toArray ++ Array.replicate (fn.ntmps - vals.toArray.size) undef).getD t undef = (vals[t]?).getD undef := by
            rw [Array.getD_eq_getD_getElem?]
            by_cases hlt : t < vals.length
            · rw [Array.getElem?_append_left (by simpa using hlt)]; simp
            · rw [List.getElem?_eq_none (by omega)]
              rw [Array.getElem?_append_right (by simpa using hlt)]
              simp only [Option.getD_none]
              cases hx : (Array.replicate (fn.ntmps - vals.toArray.size) undef)[t - vals.toArray.size]? with
              | none => rfl
              | some y =>
                rw [Array.getElem?_replicate] at hx
                split at hx
                · simp only [Option.some.injEq] at hx; rw [← hx]; rfl
                · cases hx
          rw [e]; exact h'
        · show RV _ _ _ (getF (frL 0 rr.1) t) _
          rw [h']; simp [RV]
      obtain ⟨st1, ι1, F1, hev, b1⟩ := norm_of hev hb
      refine .inr ⟨?_, calls_of_wp_defers hf hcode ?_⟩
      · have hn' : ¬ fn.name = "runtime.NumGoroutine" := by simpa using hname
        have hb' : ¬ fn.body = none := by rw [hcode]; simp
        simp [callFunc, hf, hn', hb']
      refine evC_of hΓ code hcode' hev (by simp; omega) b1 ?_
      intro e st a w' ι' Fz' hk hnt b
      have hk' : e ≠ .exit 0 → (bif idleDf idle st.df then (resAV E.P st fn.results.toList).bind fun vs => altTry st.H vs (maskA c.ins rr.1) c.alts else none) = some y := by
        intro _
        cases e with
        | exit id => simp [kEnd2] at hk
        | normal => exact hk
        | ret => exact hk
      have hne : e ≠ .exit 0 := by
        intro e0; rw [e0] at hk; simp [kEnd2] at hk
      have hk' := hk' hne
      cases hid : idleDf idle st.df with
      | false => rw [hid] at hk'; cases hk'
      | true =>
        rw [hid, cond_true] at hk'
        obtain ⟨avs, h1, h2⟩ := Option.bind_eq_some_iff.1 hk'
        obtain ⟨vs, h3, h4⟩ := resAV_of b fn.results.toList avs h1
        obtain ⟨al, d, h5, h6⟩ := altTry_of c.alts y h2
        unfold matchAlt at h5
        obtain ⟨⟨d', os2, ls⟩, h7, h8⟩ := Option.bind_eq_some_iff.1 h5
        cases hoo : (ownOk os2 ls && Nat.beq avs.length al.ress.length) with
        | false => simp only [hoo] at h8; cases h8
        | true =>
        simp only [hoo, cond_true, Option.some.injEq] at h8
        subst h8
        simp only [Bool.and_eq_true] at hoo
        obtain ⟨hoo, hln⟩ := hoo
        have hln := Nat.eq_of_beq_eq_true hln
        simp only [ownOk, Bool.and_eq_true] at hoo
        have hod := nodupN_iff hoo.1
        have hlent : ∀ k ∈ someN os2, mentL k ls = false := fun k hk => by
          have := List.all_eq_true.1 hoo.2 k hk
          simpa using this
        have m := b.2.2
        have hbel : Bel (ownW w os) w w' := m.below
        have hw : ∀ k, Fz k → w'.heap[k]? = w.heap[k]? := fun k hk => hbel.block k (by
          rintro (hlt | ⟨i, hi, hvi, rfl⟩)
          · have := hfz k hk; omega
          · exact (hok.lt i hi hvi).2 hk)
        have hiot : ∀ k, 1000000 ≤ k → ι' k = assignN ns os ι0 k := m.iot
        have hargs : RVs ι' Fz' w' rr.1 vals := RVs_mono hw m.fz0 _ _ (fun k hk => hiot k (hbig k (hment k hnp (by omega) hk))) q1
        have hall := RVs_append h4 (keepV_of al.fins _ vals (maskA_of c.ins rr.1 vals hrl.symm hargs))
        have hms := matchShs_of m.rb m.cn (Fz' := fun _ => True) (fun _ _ => trivial) al.all _ d' os2 ls _ h7 hall (fun _ _ _ _ => trivial)
        have hlive := hms.2
        obtain ⟨hrs, _⟩ := matchShs_of m.rb m.cn (Fz' := fun k => Fz' k ∨ ∃ g, (getH st.H g).live ∧ g ∉ someN os2 ∧ (ι' g).virt = false ∧ (ι' g).blk = k) (fun _ h => .inl h) al.all _ d' os2 ls _ h7 hall
          (fun k hk hl hvk => .inr ⟨k, hl, (fun hin => by rw [hlent k hin] at hk; cases hk), hvk, rfl⟩)
        have hos1 : ∀ i ∈ os2.map (hiOf ι'), i.virt = false → ∃ k ∈ someN os2, ι' k = i := by
          intro i hi hvi
          obtain ⟨o, ho, rfl⟩ := List.mem_map.1 hi
          cases o with
          | none => simp [hiOf] at hvi
          | some k => exact ⟨k, mem_someN.2 ho, rfl⟩
        have hpi : (fun i => ι' (1000000 + i)) = fun i => os.getD i ⟨0, 0, 0, true⟩ := by
          funext i
          rw [hiot _ (by omega), hιat]
        rw [hpi] at hrs
        have hgood : ∃ v, (results fn a.tmps).run E.P w' = .ok v w' ∧ (∃ v', Ending.returned v = Ending.returned v' ∧ Bel (ownW w os) w w' ∧ ∃ (Fz' : Nat → Prop) (os' : List HI), (∀ b, Fz b → Fz' b) ∧ (∀ b, Fz' b → Fz b ∨ ownW w os b) ∧ (∀ b, Fz' b → b < w'.heap.size) ∧
            AltR (fun i => os.getD i ⟨0, 0, 0, true⟩) Fz' w' vals c.alts y v' os' ∧ OsOk Fz' w' os' ∧ ∀ i ∈ os', i.virt = false → ownW w os i.blk) := by
          refine ⟨_, ?_, _, rfl, hbel, _, os2.map (hiOf ι'), fun k hk => .inl (m.fz0 k hk), ?_, ?_, h6 _ _ _ _ _ _ ⟨vs, ?_, rfl, hrs⟩, ⟨fun i hi hvi => ?_, fun j k p q hj hk hp hq he => ?_⟩, fun i hi hvi => ?_⟩
          · rw [results_eq]
            have e1 := run_mapM_toArray fn.results h3
            simp only [Sem.run_bind]
            rw [e1]
            simp only [Result.andThen_ok, Sem.run_pure, List.size_toArray]
            congr 1
          · rintro k (hk | ⟨g, hl, _, hvg, rfl⟩)
            · exact m.fzn k hk
            · exact .inr (m.sep g hl hvg).1
          · rintro k (hk | ⟨g, hl, _, hvg, rfl⟩)
            · exact m.fz k hk
            · exact (m.sep g hl hvg).2.1
          · rw [← RVs_len h4, hln]
          · obtain ⟨g, hg, rfl⟩ := hos1 i hi hvi
            obtain ⟨_, x2, x3⟩ := m.sep g (hlive g hg) hvi
            refine ⟨x2, ?_⟩
            rintro (hF | ⟨g', hl, hng, hvg, he⟩)
            · exact x3 hF
            · exact hng (m.inj g' g hl (hlive g hg) hvg hvi he ▸ hg)
          · rw [List.getElem?_map, Option.map_eq_some_iff] at hj hk
            obtain ⟨oj, hj, rfl⟩ := hj
            obtain ⟨ok, hk, rfl⟩ := hk
            cases oj with
            | none => simp [hiOf] at hp
            | some gj =>
              cases ok with
              | none => simp [hiOf] at hq
              | some gk =>
                have e := m.inj gj gk (hlive _ (mem_someN.2 (List.mem_of_getElem? hj))) (hlive _ (mem_someN.2 (List.mem_of_getElem? hk))) hp hq he
                subst e
                exact someN_nodup hod hj hk
          · obtain ⟨g, hg, rfl⟩ := hos1 i hi hvi
            exact (m.sep g (hlive g hg) hvi).1
        cases e with
        | exit id => simp [kEnd2] at hk
        | normal => exact leaves_of hI hgood st.df a.defers hid b.2.1
        | ret => exact leaves_of hI hgood st.df a.defers hid b.2.1
  · cases hev
end Go.Av
