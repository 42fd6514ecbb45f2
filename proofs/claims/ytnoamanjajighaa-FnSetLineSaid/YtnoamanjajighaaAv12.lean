/- Operations in the text's order. -/
import Derived.Test.YtnoamanjajighaaAv29
import Derived.Test.YtnoamanjajighaaAv24
set_option linter.unusedVariables false
set_option linter.unusedSimpArgs false
namespace Go.Av
open Go Go.RowKit

section
variable {R : Type} {P : Program} {w0 : Root} {Fz0 : Nat → Prop} {ι : Nat → HI} {Fz : Nat → Prop} {H : List (Nat × AB)} {w : World}

theorem OpGives.toWp {o : Oper} {a : Act} {v : AV} {st' : St} (h : OpGives P o a w fun v' w' => ∃ ι' Fz', Behind w0 Fz0 ι' Fz' st' a w' ∧ RV ι' Fz' w' v v') : Wp P w0 Fz0 o a w v st' := by
  intro K Q hK
  refine h.wp ?_
  rintro v' w' ⟨ι', Fz', h1, h2⟩
  exact hK v' a w' ι' Fz' rfl h1 h2
theorem nan_chosen (t : Nat) : NanB ((t % 2) * 2 ^ 63 + 0x7ff0000000000000 + 1 + (t / 2) % (2 ^ 52 - 1)) := by
  have hr : (Ieee.double.read ((t % 2) * 2 ^ 63 + 0x7ff0000000000000 + 1 + (t / 2) % (2 ^ 52 - 1))).isNaN = true := by
    have hm := Nat.mod_lt (t / 2) (show 0 < 2 ^ 52 - 1 by decide)
    have hm2 := Nat.mod_lt t (show 0 < 2 by decide)
    generalize (t / 2) % (2 ^ 52 - 1) = q at hm
    generalize t % 2 = p at hm2
    unfold Ieee.Format.read
    have h1 : Ieee.double.signWeight = 9223372036854775808 := by decide +kernel
    have h2 : Ieee.double.infRung = 9218868437227405312 := by decide +kernel
    have h3 : Ieee.double.binade = 4503599627370496 := by decide +kernel
    simp only [h1, h2, h3]
    have hp : p = 0 ∨ p = 1 := by omega
    rcases hp with rfl | rfl <;> (repeat' split) <;> first | rfl | (exfalso; omega)
  intro m
  cases hn : Ieee.double.read ((t % 2) * 2 ^ 63 + 0x7ff0000000000000 + 1 + (t / 2) % (2 ^ 52 - 1)) with
  | nan s t => constructor <;> (unfold Ieee.Format.order; rw [hn]; cases Ieee.double.read m <;> rfl)
  | number _ _ _ => rw [hn] at hr; cases hr
  | infinity _ => rw [hn] at hr; cases hr
theorem mul_invalid {P : Program} (w : World) (t : TypeId) (m n : Nat) (h : Ieee.double.mul m n = none) : ∃ q, (Go.binOp BinOp.mul t (Value.float .f64 m) (Value.float .f64 n)).run P w = .ok (Value.float .f64 q) w.drew ∧ NanB q := by
  have h' : FloatKind.f64.format.mul m n = none := h
  refine ⟨_, ?_, nan_chosen (w.tape w.drawn (.nanBits .f64 m n))⟩
  simp [binOp, Op.floatArith, h', run_choose_drew, Question.forced, Question.cut]
theorem Behind.drew1 {st : St} {a : Act} (b : Behind w0 Fz0 ι Fz st a w) : Behind w0 Fz0 ι Fz st a w.drew := by
  have m := b.2.2
  have hw : ∀ k : Nat, w.drew.heap[k]? = w.heap[k]? := fun _ => rfl
  exact ⟨fun t => RV_mono (fun k _ => hw k) (fun _ h => h) _ _ (fun _ _ => rfl) (b.1 t), RD_mono (fun k _ => hw k) (fun _ h => h) _ _ (fun _ _ => rfl) b.2.1,
    ⟨m.below.trans ⟨rfl, rfl, rfl, Nat.le_refl _, fun k _ => hw k⟩, m.fz, m.fz0, m.fzn, fun h => RB_mono (fun k _ => hw k) (fun _ h => h) (fun _ _ => hw _) (m.rb h), m.sep, m.inj, m.iot, m.cn, m.gz⟩⟩
theorem callX_mb {S : Type} {fr : Bool} {c : Con2} {x : ShDs c.ins} {os : List (Option Nat)} {df : List AV} {d : Nat} {F : AV → List (Nat × AB) → List Nat → Option S} {F' : AV → List (Nat × AB) → List Nat → Option R} {G : S → Option R} {r : R}
    (h : ∀ v ks nf, (F v ks nf).bind G = some r → F' v ks nf = some r) (h1 : (callX fr c x os df d F).bind G = some r) : callX fr c x os df d F' = some r := by
  have alt : ∀ (alts : List Alt) (y : AltD alts) (A : (a : Alt) → ShDs a.all → Option S) (A' : (a : Alt) → ShDs a.all → Option R), (∀ a dd, (A a dd).bind G = some r → A' a dd = some r) → (altK alts y A).bind G = some r → altK alts y A' = some r := by
    intro alts
    induction alts with
    | nil => intro y A A' ha h; simp [altK] at h
    | cons a l ih =>
      cases l with
      | nil => intro y A A' ha h; exact ha a y h
      | cons b l =>
        intro y A A' ha h
        cases y with
        | inl y => exact ha a y h
        | inr y => exact ih y A A' ha h
  unfold callX at h1 ⊢
  obtain ⟨z, hz, h1⟩ := Option.bind_eq_some_iff.1 h1
  obtain ⟨y, hy, h2⟩ := Option.bind_eq_some_iff.1 hz
  rw [hy, Option.bind_some]
  refine alt c.alts y _ _ (fun a dd ha => ?_) (show (altK c.alts y _).bind G = some r by rw [h2]; exact h1)
  revert ha
  dsimp only
  generalize (finsOk c.ins a.fins && _ && _ && _ && _ && _ && _) = b1
  cases b1 with
  | false => intro ha; cases ha
  | true =>
    rw [cond_true, cond_true]
    generalize subOk c.ins a.fins x _ = b2
    cases b2 with
    | false => intro ha; cases ha
    | true =>
      rw [cond_true, cond_true]
      exact h _ _ _
theorem findC2_mb {S : Type} {f : FuncId} {H : List (Nat × AB)} {vs : List AV} {F : (c : Con2) → ShDs c.ins → List (Option Nat) → List AV → Option S} {F' : (c : Con2) → ShDs c.ins → List (Option Nat) → List AV → Option R} {K0 : Option S} {K0' : Option R} {G : S → Option R} {r : R}
    (h : ∀ c x os ls, (F c x os ls).bind G = some r → F' c x os ls = some r) (h0 : K0.bind G = some r → K0' = some r) : ∀ c2, (findC2 c2 f H vs F K0).bind G = some r → findC2 c2 f H vs F' K0' = some r
  | [], h1 => h0 h1
  | c :: l, h1 => by
    unfold findC2 at h1 ⊢
    cases hb : Nat.beq c.fid f with
    | false => rw [hb, cond_false] at h1; rw [cond_false]; exact findC2_mb h h0 l h1
    | true =>
      rw [hb, cond_true] at h1
      rw [cond_true]
      cases hm : matchShs H c.ins vs with
      | none => rw [hm] at h1; exact findC2_mb h h0 l h1
      | some p => rw [hm] at h1; exact h _ _ _ _ h1
theorem findCon_mb {S : Type} {f : FuncId} {H : List (Nat × AB)} {vs : List AV} {F : (c : Con) → HL c.ps → Option S} {F' : (c : Con) → HL c.ps → Option R} {G : S → Option R} {r : R}
    (h : ∀ c x, (F c x).bind G = some r → F' c x = some r) : ∀ cs, (findCon cs f H vs F).bind G = some r → findCon cs f H vs F' = some r
  | [], h1 => by simp [findCon] at h1
  | c :: l, h1 => by
    unfold findCon at h1 ⊢
    cases hb : Nat.beq c.fid f with
    | false => rw [hb, cond_false] at h1; rw [cond_false]; exact findCon_mb h l h1
    | true =>
      rw [hb, cond_true] at h1
      rw [cond_true]
      cases hm : argsD H c.ps vs with
      | none => rw [hm] at h1; exact findCon_mb h l h1
      | some p => rw [hm] at h1; exact h _ _ h1
theorem dynK_mb {S : Type} {E : Env} {c : Ce} {F : TypeId → AV → Option S} {F' : TypeId → AV → Option R} {G : S → Option R} {r : R} (h : ∀ t u, (F t u).bind G = some r → F' t u = some r) :
    ∀ l, (dynK E c F l).bind G = some r → dynK E c F' l = some r
  | [], h1 => by simp [dynK] at h1
  | t :: l, h1 => by
    unfold dynK at h1 ⊢
    cases hb : isT t c with
    | none => rw [hb] at h1; cases h1
    | some b =>
      rw [hb, Option.bind_some] at h1
      rw [Option.bind_some]
      cases b with
      | false => exact dynK_mb h l h1
      | true =>
        rw [cond_true] at h1 ⊢
        unfold kdK at h1 ⊢
        cases hk : E.kd t with
        | none => rw [hk] at h1; cases h1
        | some κ =>
          rw [hk] at h1
          dsimp only at h1 ⊢
          cases ha : aggIs E.P t κ.isAgg with
          | false => rw [ha] at h1; cases h1
          | true =>
            rw [ha, cond_true] at h1
            rw [cond_true]
            cases hx : asT κ t c with
            | none => rw [hx] at h1; cases h1
            | some x => rw [hx, Option.bind_some] at h1; exact h _ _ h1
theorem methK_eq (E : Env) (t : TypeId) (nm : String) (v : AV) (F : FuncId × AV → Option R) : methK E t nm v F = (methK E t nm v some).bind F := by
  unfold methK
  split
  · split
    · unfold kdK
      split
      · simp only [Option.bind_assoc, Option.bind_some]
      · rfl
    · rfl
  · simp only [Option.bind_assoc, Option.bind_some]
theorem methK_mb {S : Type} {E : Env} {t : TypeId} {nm : String} {v : AV} {F : FuncId × AV → Option S} {F' : FuncId × AV → Option R} {G : S → Option R} {r : R} (h : ∀ g, (F g).bind G = some r → F' g = some r)
    (h1 : (methK E t nm v F).bind G = some r) : methK E t nm v F' = some r := by
  rw [methK_eq] at h1 ⊢
  obtain ⟨z, hz, h1⟩ := Option.bind_eq_some_iff.1 h1
  obtain ⟨g, hg, h3⟩ := Option.bind_eq_some_iff.1 hz
  rw [hg, Option.bind_some]
  exact h g (by rw [h3]; exact h1)
theorem castD_pv {κ' κ : Kd} {y : Den κ'} {z : Den κ} (h : castD κ' κ y = some z) : AV.pv κ' y = .pv κ z := by
  unfold castD at h
  split at h
  · rename_i e; subst e; simp only [Option.some.injEq] at h; subst h; rfl
  · cases h
theorem frzArgs_free {st : St} : ∀ ls : List AV, (ls.all fun v => v.free || !v.handled) = true → frzArgs st ls = some st
  | [], _ => rfl
  | v :: r, h => by
    rw [List.all_cons, Bool.and_eq_true] at h
    have ih := frzArgs_free (st := st) r h.2
    have hv := h.1
    unfold frzArgs
    split
    · simp [AV.free, AV.handled] at hv
    · simp [AV.free, AV.handled] at hv
    · rw [hv, cond_true, ih]
theorem invP_mb {E : Env} {o : Oper} {st : St} {args : Array Operand} {g : FuncId × AV} {κ : Kd} {K : AV → St → Option R} {r : R} (h : (invP E o st args g κ).bind (fun y => K (.pv κ y) st) = some r) : invW E o st args g K = some r := by
  unfold invP at h
  unfold invW
  refine findC2_mb (fun c x os ls h => ?_) (fun h => ?_) _ h
  · unfold call2
    cases h1 : ownOk os ls with
    | false => rw [h1] at h; cases h
    | true =>
      cases h2 : (allSafe c.alts || ls.all fun v => v.free || !v.handled) with
      | false => rw [h1, h2] at h; cases h
      | true =>
        rw [h1, h2, Bool.true_and, cond_true] at h
        have hst : (bif allSafe c.alts then some st else frzArgs st ls) = some st := by
          cases h3 : allSafe c.alts with
          | true => rfl
          | false => rw [h3, Bool.false_or] at h2; exact frzArgs_free ls h2
        rw [cond_true, hst, Option.bind_some]
        refine callX_mb (fun v ks nf hk => ?_) h
        obtain ⟨y, hy, hk2⟩ := Option.bind_eq_some_iff.1 hk
        clear hk h
        split at hy
        · rw [castD_pv hy]; exact hk2
        · cases hy
  · refine findCon_mb (fun c x h => ?_) _ h
    cases h1 : c.rs.all Kd.plain with
    | false => rw [h1] at h; cases h
    | true =>
      rw [h1, cond_true] at h
      rw [cond_true]
      obtain ⟨z, hz, h⟩ := Option.bind_eq_some_iff.1 h
      obtain ⟨y, hy, h2⟩ := Option.bind_eq_some_iff.1 hz
      rw [hy, Option.bind_some]
      split at h2
      · rename_i e
        rw [e, castD_pv h2]; exact h
      · cases h2
theorem dynW_of {E : Env} {o : Oper} {st : St} {args : Array Operand} {nm : String} {c : Ce} {K : AV → St → Option R} {r : R} (h : dynW E o st args nm c K = some r) : dynK E c (fun t u => methK E t nm u fun g => invW E o st args g K) E.cands = some r := by
  unfold dynW at h
  split at h
  · exact dynK_mb (fun t u h => methK_mb (fun g h => invP_mb h) h) _ h
  · exact h
theorem opW_of {st : St} {K : AV → St → Option R} {r : R} {E : Env} {a : Act} {o : Oper} (hΓ : EnvOk E w0.gl) (b : Behind w0 Fz0 ι Fz st a w) (h : opW E o st K = some r) :
    ∃ v st', K v st' = some r ∧ Wp E.P w0 Fz0 o a w v st' := by
  have he := opnd_of (gl := E.gl) (by rw [hΓ.gl]; exact b.2.2.gok) b.1
  have m := b.2.2
  generalize ho : o.op = op at *
  cases op with
  | store t x y => exact store_of b (by rw [hΓ.gl]; exact b.2.2.gok) ho h
  | binOp op t x y u =>
    simp only [opW, ho] at h
    split at h
    · rename_i n hn
      obtain ⟨v, hk, v', hr, hv, hg⟩ := nilK_of m.rb hn (he x) (he y) h
      refine ⟨v, st, hk, OpGives.toWp (.inl ⟨v', w, ?_, ι, Fz, b, hv⟩)⟩
      simp [execOp, ho, hg x y, hr]
    · split at h
      · unfold mulN at h
        split at h
        · rename_i m n hm hn
          have h1 := he x
          have h2 := he y
          rw [hm, RV_float] at h1
          rw [hn, RV_float] at h2
          have hg : ∀ c d : Value, (eqGuard .mul t x y c d).run E.P w = .ok () w := fun c d => by simp [eqGuard]
          cases hz : Ieee.double.mul m n with
          | some z =>
            rw [hz] at h
            refine ⟨_, st, h, OpGives.toWp (.inl ⟨.float .f64 z, w, ?_, ι, Fz, b, RV_float.2 rfl⟩)⟩
            simp [execOp, ho, h1, h2, hg, run_float_arith w .mul t .f64 m n z hz]
          | none =>
            rw [hz] at h
            obtain ⟨q, hq, hnan⟩ := mul_invalid (P := E.P) w t m n hz
            refine ⟨_, st, h, OpGives.toWp (.inl ⟨.float .f64 q, w.drew, ?_, ι, Fz, b.drew1, ?_⟩)⟩
            · simp [execOp, ho, h1, h2, hg, hq]
            · simp only [RV]; exact ⟨q, rfl, hnan⟩
        · cases h
      · cases h
  | sliceToArrayPointer t x =>
    simp only [opW, ho] at h
    split at h
    · rename_i d hd
      obtain ⟨v, ks, hk, _, _, v', hr, ι', hb, hv, _⟩ := apX_of b (he x) h
      refine ⟨v, _, hk, OpGives.toWp (.inl ⟨v', w, ?_, ι', Fz, hb, hv⟩)⟩
      simp [execOp, ho, hr]
    · cases h
  | slice t x lo hi mx =>
    cases lo with
    | some _ => simp [opW, ho] at h
    | none =>
      cases hi with
      | none => simp [opW, ho] at h
      | some hi =>
        cases mx with
        | some _ => simp [opW, ho] at h
        | none =>
          simp only [opW, ho] at h
          split at h
          · rename_i d hd
            obtain ⟨v, ks, hk, _, _, v', hr, ι', hb, hv, _⟩ := cutX_of b (he x) (he hi) h
            refine ⟨v, _, hk, OpGives.toWp (.inl ⟨v', w, ?_, ι', Fz, hb, hv⟩)⟩
            simp [execOp, ho, hr]
          · cases h
  | defer c =>
    obtain ⟨callee, args, ts⟩ := c
    simp only [opW, ho] at h
    split at h
    · rename_i _ f ha
      have hargs : args = #[] := by apply Array.ext'; simpa using ha
      subst hargs
      split at h
      · rename_i g caps hf
        have hef := he f
        rw [hf] at hef
        simp only [RV] at hef
        obtain ⟨cv, hfe, hcv⟩ := hef
        refine ⟨_, _, h, fun Kc Q hK => ?_⟩
        unfold Oper.wp
        have : (execOp a.eval o).run E.P w = .ok (.defer { target := .fn (.func g) cv.toArray, args := #[] }) w := by
          simp [execOp, ho, resolve, hfe, Deferred.ofValue]
        rw [this]
        simp only [Oper.upon]
        refine hK undef { a with defers := { target := .fn (.func g) cv.toArray, args := #[] } :: a.defers } w ι Fz rfl ⟨b.1, ?_, m⟩ (by simp [RV])
        simp only [RD]
        exact ⟨g, caps, cv.toArray, a.defers, rfl, rfl, by simpa using hcv, b.2.1⟩
      · cases h
    · cases h
  | call c =>
    obtain ⟨callee, args, ts⟩ := c
    cases callee with
    | builtin bi =>
      cases bi <;> first | (simp [opW, ho] at h; done) | skip
      case append =>
        simp only [opW, ho] at h
        split at h
        · rename_i s x t t' d hax hat hd
          have hargs : args = #[s, x] := by apply Array.ext'; simpa using hax
          have hts : ts = #[t, t'] := by apply Array.ext'; simpa using hat
          subst hargs hts
          cases ht : sameSl E.P t t' with
          | false =>
            rw [ht, cond_false] at h
            obtain ⟨v, ks, hk, _, _, v', w', hr, ι', Fz', hb, hv, _⟩ := appZ_of (ty := o.type) b (he s) (he x) h
            refine ⟨v, _, hk, OpGives.toWp (.inl ⟨v', w', ?_, ι', Fz', hb, hv⟩)⟩
            simp [execOp, ho, resolve, invoke, builtin, hr]
          | true =>
            rw [ht, cond_true] at h
            obtain ⟨v, ks, hk, _, _, v', w', hr, ι', Fz', hb, hv, _⟩ := appX_of (ty := o.type) b (he s) (he x) ht h
            refine ⟨v, _, hk, OpGives.toWp (.inl ⟨v', w', ?_, ι', Fz', hb, hv⟩)⟩
            simp [execOp, ho, resolve, invoke, builtin, hr]
        · cases h
      case copy =>
        simp only [opW, ho] at h
        split at h
        · rename_i s x t t' hax hat
          have hargs : args = #[s, x] := by apply Array.ext'; simpa using hax
          have hts : ts = #[t, t'] := by apply Array.ext'; simpa using hat
          subst hargs hts
          obtain ⟨n, ks, hk, w', hr, hb⟩ := cpX_of b (he s) (he x) h
          refine ⟨_, _, hk, OpGives.toWp (.inl ⟨.int .i64 n, w', ?_, ι, Fz, hb, RV_int.2 rfl⟩)⟩
          simp [execOp, ho, resolve, invoke, builtin, hr]
        · cases h
    | value f =>
      simp only [opW, ho] at h
      split at h
      · rename_i g caps hf
        have hef := he f
        rw [hf] at hef
        simp only [RV] at hef
        obtain ⟨cv, hfe, hcv⟩ := hef
        have hrv0 : RVs ι Fz w (args.toList.map (opnd E.gl st.fr) ++ caps) (args.toList.map a.eval ++ cv) := RVs_append (RVs_map he _) hcv
        rcases findC2_of h with h | ⟨c2, hc2, rfl, x2, os, ls, hm2, h⟩
        rotate_left
        · obtain ⟨v, st', hk, hg⟩ := call2_of (hΓ.c2 c2 (Env.c2at_mem hc2)) b hm2 hrv0 h
          exact ⟨v, st', hk, OpGives.toWp (OpGives.call ho hfe hg)⟩
        obtain ⟨c, hc, rfl, x, hx, h⟩ := findCon_of h
        have hrv : RVs ι Fz w (args.toList.map (opnd E.gl st.fr) ++ caps) (args.toList.map a.eval ++ cv) := RVs_append (RVs_map he _) hcv
        cases hp : c.rs.all Kd.plain with
        | true =>
          rw [hp, cond_true] at h
          obtain ⟨y, hy, h⟩ := Option.bind_eq_some_iff.1 h
          refine ⟨_, _, h, OpGives.toWp ?_⟩
          have hra := argsD_of (Fz' := lent ι Fz st.H) m.rb (fun b hb => .inl hb) c.ps _ x _ hx hrv (fun h _ hl hv => .inr ⟨h, isArr_live hl, hv, rfl⟩)
          refine OpGives.call ho hfe ((hΓ.c1 c hc w _ x _ y (lent_lt m) (m.gok.mono (fun _ _ => rfl) (fun b hb => .inl hb)) hra hy).mono ?_)
          rintro v w' ⟨hbel, Fz', h1, h2, h3, hv⟩
          exact ⟨ι, Fz, b.mono (fun k hk => hbel.block k (m.fz k hk)) (fun _ h => h) (m.grow hbel (fun _ h => h) (fun _ h => .inl h) (fun k hk => Nat.lt_of_lt_of_le (m.fz k hk) hbel.size)), resV_plain hp hv⟩
        | false =>
          rw [hp, cond_false] at h
          obtain ⟨st', hfa, h⟩ := Option.bind_eq_some_iff.1 h
          obtain ⟨y, hy, h⟩ := Option.bind_eq_some_iff.1 h
          obtain ⟨F1, f1, b1, f2, _⟩ := frzArgs_of _ hfa b
          refine ⟨_, _, h, OpGives.toWp ?_⟩
          have m1 := b1.2.2
          have hra := argsD_of (Fz' := F1) m.rb f1 c.ps _ x _ hx hrv (fun h hm hl hv => f2 h hm (isArr_live hl) hv)
          refine OpGives.call ho hfe ((hΓ.c1 c hc w _ x _ y m1.fz m1.gok hra hy).mono ?_)
          rintro v w' ⟨hbel, Fz', h1, h2, h3, hv⟩
          exact ⟨ι, Fz', b1.mono (fun k hk => hbel.block k (m1.fz k hk)) h1 (m1.grow hbel h1 h2 h3), resV_iota hv⟩
      · cases h
    | invoke f nm =>
      simp only [opW, ho] at h
      have key : ∀ (st : St), Behind w0 Fz0 ι Fz st a w → ∀ t u u', a.eval f = .iface t u' → RV ι Fz w u u' → (methK E t nm u fun g => invW E o st args g K) = some r → ∃ v st', K v st' = some r ∧ Wp E.P w0 Fz0 o a w v st' := by
        intro st b t u u' hfe hu h
        have he := opnd_of (gl := E.gl) (by rw [hΓ.gl]; exact b.2.2.gok) b.1
        have m := b.2.2
        obtain ⟨g, x0, h, x', hm0, hx0⟩ := methK_of (w := w) h hu
        unfold invW at h
        have hrv0 : RVs ι Fz w (x0 :: args.toList.map (opnd E.gl st.fr)) (x' :: args.toList.map a.eval) := by
          simp only [RVs]
          exact ⟨x', _, rfl, hx0, RVs_map he _⟩
        have hq := findC2_of h
        clear h
        rcases hq with h | ⟨c2, hc2, hcf, x2, os, ls, hm2, h⟩
        rotate_left
        · dsimp only at hcf
          subst hcf
          obtain ⟨v, st', hk, hg⟩ := call2_of (hΓ.c2 c2 hc2) b hm2 hrv0 h
          exact ⟨v, st', hk, OpGives.toWp (OpGives.callI ho hfe hm0 hg)⟩
        have hq := findCon_of h
        clear h
        obtain ⟨c, hc, hcf, x, hx, h⟩ := hq
        dsimp only at hcf
        subst hcf
        have hrv := hrv0
        cases hp : c.rs.all Kd.plain with
        | true =>
          rw [hp, cond_true] at h
          obtain ⟨y, hy, h⟩ := Option.bind_eq_some_iff.1 h
          refine ⟨_, _, h, OpGives.toWp ?_⟩
          have hra := argsD_of (Fz' := lent ι Fz st.H) m.rb (fun b hb => .inl hb) c.ps _ x _ hx hrv (fun h _ hl hv => .inr ⟨h, isArr_live hl, hv, rfl⟩)
          refine OpGives.callI ho hfe hm0 ((hΓ.c1 c hc w _ x _ y (lent_lt m) (m.gok.mono (fun _ _ => rfl) (fun b hb => .inl hb)) hra hy).mono ?_)
          rintro v w' ⟨hbel, Fz', h1, h2, h3, hv⟩
          exact ⟨ι, Fz, b.mono (fun k hk => hbel.block k (m.fz k hk)) (fun _ h => h) (m.grow hbel (fun _ h => h) (fun _ h => .inl h) (fun k hk => Nat.lt_of_lt_of_le (m.fz k hk) hbel.size)), resV_plain hp hv⟩
        | false =>
          rw [hp, cond_false] at h
          obtain ⟨st', hfa, h⟩ := Option.bind_eq_some_iff.1 h
          obtain ⟨y, hy, h⟩ := Option.bind_eq_some_iff.1 h
          obtain ⟨F1, f1, b1, f2, _⟩ := frzArgs_of _ hfa b
          refine ⟨_, _, h, OpGives.toWp ?_⟩
          have m1 := b1.2.2
          have hra := argsD_of (Fz' := F1) m.rb f1 c.ps _ x _ hx hrv (fun h hm hl hv => f2 h hm (isArr_live hl) hv)
          refine OpGives.callI ho hfe hm0 ((hΓ.c1 c hc w _ x _ y m1.fz m1.gok hra hy).mono ?_)
          rintro v w' ⟨hbel, Fz', h1, h2, h3, hv⟩
          exact ⟨ι, Fz', b1.mono (fun k hk => hbel.block k (m1.fz k hk)) h1 (m1.grow hbel h1 h2 h3), resV_iota hv⟩
      split at h
      · rename_i t u hf
        have hef := he f
        rw [hf] at hef
        simp only [RV] at hef
        obtain ⟨u', hfe, hu⟩ := hef
        exact key st b t u u' hfe hu h
      · rename_i c hf
        have hef := he f
        rw [hf] at hef
        obtain ⟨t, u, h, u', hfe, hu⟩ := dynK_of hef _ (dynW_of h)
        exact key _ b t u u' hfe hu h
      · cases h
  | _ => simp [opW, ho] at h

theorem opS_of {st : St} {K : AV → St → Option R} {r : R} {E : Env} {a : Act} {o : Oper} (hΓ : EnvOk E w0.gl) (b : Behind w0 Fz0 ι Fz st a w) (h : opS E o st K = some r) :
    ∃ v st', K v st' = some r ∧ Wp E.P w0 Fz0 o a w v st' := by
  unfold opS at h
  cases hw : (Op.isW o.op || isCut E o || isNil E o st || isMulN E o) with
  | true => rw [hw, cond_true] at h; exact opW_of hΓ b h
  | false =>
    rw [hw, cond_false] at h
    obtain ⟨st2, hpre, h⟩ := Option.bind_eq_some_iff.1 h
    obtain ⟨Fz, b⟩ : ∃ Fz' : Nat → Prop, Behind w0 Fz0 ι Fz' st2 a w := by
      unfold preS at hpre
      split at hpre
      · rename_i t len parts _
        cases hpl : plainSl E t with
        | true =>
          rw [hpl, cond_true] at hpre
          obtain ⟨F, _, b', _⟩ := frzArgs_of _ hpre b
          exact ⟨F, b'⟩
        | false =>
          rw [hpl, cond_false] at hpre
          simp only [Option.some.injEq] at hpre
          subst hpre; exact ⟨Fz, b⟩
      · split at hpre
        · split at hpre
          · rename_i h0 off n el _ _ _ κ hkd
            cases hc : (Nat.beq off 0 && okDf st.df h0) with
            | false => rw [hc] at hpre; cases hpre
            | true =>
              rw [hc, cond_true] at hpre
              simp only [Bool.and_eq_true] at hc
              exact frzB_of b hc.2 hpre
          · cases hpre
        · simp only [Option.some.injEq] at hpre
          subst hpre; exact ⟨Fz, b⟩
      · simp only [Option.some.injEq] at hpre
        subst hpre; exact ⟨Fz, b⟩
    obtain ⟨v, ob, hk, hg⟩ := opR_of hΓ.c1 b.2.2 (opnd_of (gl := E.gl) (by rw [hΓ.gl]; exact b.2.2.gok) b.1) h
    cases ob with
    | none =>
      refine ⟨v, st2, hk, OpGives.toWp ((hg (fun _ h => by cases h)).mono ?_)⟩
      rintro v' w' ⟨ι', Fz', h1, h2, h3, h4, h5⟩
      have e : ι' = ι := funext fun k => h3 k (.inl rfl)
      subst e
      exact ⟨ι', Fz', b.mono h1 h2 h4, h5⟩
    | some bl =>
      simp only at hk
      cases hc : (!okNew st2.df (o.dst.getD 0) || bl.ment (o.dst.getD 0)) with
      | true => rw [hc] at hk; cases hk
      | false =>
        rw [hc, cond_false] at hk
        simp only [Bool.or_eq_false_iff, Bool.not_eq_false'] at hc
        refine ⟨v, _, hk, OpGives.toWp ((hg (fun b hb => by cases hb; exact ⟨hc.2, (okNew_df hc.1).2⟩)).mono ?_)⟩
        rintro v' w' ⟨ι', Fz', h1, h2, h3, h4, h5⟩
        exact ⟨ι', Fz', b.strike h1 h2 (fun k hk => h3 k (.inr hk)) (okNew_df hc.1).1 h4, h5⟩

/-- Behind an operation, its own temporary set. -/
theorem Behind.put {st : St} {a : Act} {v : AV} {v' : Value} (b : Behind w0 Fz0 ι Fz st a w) (hv : RV ι Fz w v v') (dst : Option Nat) (hd : ∀ d, dst = some d → d < a.tmps.size) :
    Behind w0 Fz0 ι Fz (putF st dst v) (a.put dst v') w := by
  cases dst with
  | none => exact b
  | some d =>
    have hd := hd d rfl
    refine ⟨fun t => ?_, b.2.1, b.2.2⟩
    show RV ι Fz w (getF ((d, v) :: st.fr) t) _
    rw [getF_cons]
    by_cases e : d = t
    · subst e
      rw [if_pos rfl]
      simp only [Act.put]
      rw [Array.getD_eq_getD_getElem?, Array.getElem?_setIfInBounds_self]
      simpa [hd] using hv
    · rw [if_neg e]
      simp only [Act.put]
      rw [Array.getD_eq_getD_getElem?, Array.getElem?_setIfInBounds_ne e, ← Array.getD_eq_getD_getElem?]
      exact b.1 t
theorem size_put (a : Act) (d : Option Nat) (v : Value) : (a.put d v).tmps.size = a.tmps.size := by cases d <;> simp [Act.put]
/-- A test's outcome, once known. -/
theorem Behind.known {st : St} {a : Act} {d : Nat} {p : Bool} (b : Behind w0 Fz0 ι Fz st a w) (hg : getF st.fr d = .pv .bool p) : Behind w0 Fz0 ι Fz ⟨(d, .pv .bool p) :: st.fr, st.H, st.df⟩ a w := by
  refine ⟨fun t => ?_, b.2.1, b.2.2⟩
  show RV ι Fz w (getF ((d, _) :: st.fr) t) _
  rw [getF_cons]
  by_cases e : d = t
  · subst e; rw [if_pos rfl, ← hg]; exact b.1 d
  · rw [if_neg e]; exact b.1 t
def dstOk (ops : List Oper) (nt : Nat) : Prop := ∀ o ∈ ops, ∀ d, o.dst = some d → d < nt
theorem opG_of {st : St} {K : St → Option R} {r : R} {E : Env} {a : Act} {o : Oper} {ops : Array Oper} {nt : Nat} (hΓ : EnvOk E w0.gl) (hnt : a.tmps.size = nt) (hd : ∀ d, o.dst = some d → d < nt) (b : Behind w0 Fz0 ι Fz st a w) (h : opG E ops o st K = some r) :
    ∃ (st' : St), K st' = some r ∧ ∀ (Kc : Act → World → Prop) (Q : Exit → Act → World → Prop), (∀ a' w' ι' Fz', a'.tmps.size = nt → Behind w0 Fz0 ι' Fz' st' a' w' → Kc a' w') →
      if Region.wanted o (yielded ops a.tmps) then o.wp E.P a w Kc Q else Kc (a.put o.dst undef) w := by
  have hdv : ∀ (a' : Act), a'.tmps.size = nt → ∀ d, o.dst = some d → d < a'.tmps.size := fun a' ha d hh => by rw [ha]; exact hd d hh
  have run {st1 : St} (b1 : Behind w0 Fz0 ι Fz st1 a w) (h1 : (opS E o st1 fun v st' => K (putF st' o.dst v)) = some r) (hwant : Region.wanted o (yielded ops a.tmps) = true) :
      ∃ (st' : St), K st' = some r ∧ ∀ (Kc : Act → World → Prop) (Q : Exit → Act → World → Prop), (∀ a' w' ι' Fz', a'.tmps.size = nt → Behind w0 Fz0 ι' Fz' st' a' w' → Kc a' w') →
      if Region.wanted o (yielded ops a.tmps) then o.wp E.P a w Kc Q else Kc (a.put o.dst undef) w := by
    obtain ⟨v, st', hk, hw⟩ := opS_of hΓ b1 h1
    refine ⟨_, hk, fun Kc Q hK => ?_⟩
    rw [if_pos hwant]
    refine hw Kc Q fun v' a' w' ι' Fz' ht hb hv => hK _ _ ι' Fz' (by rw [size_put, ht]; exact hnt) (hb.put hv o.dst (hdv a' (by rw [ht]; exact hnt)))
  have skip {st1 : St} (b1 : Behind w0 Fz0 ι Fz st1 a w) (h1 : K (putF st1 o.dst (.tuple [])) = some r) (hwant : Region.wanted o (yielded ops a.tmps) = false) :
      ∃ (st' : St), K st' = some r ∧ ∀ (Kc : Act → World → Prop) (Q : Exit → Act → World → Prop), (∀ a' w' ι' Fz', a'.tmps.size = nt → Behind w0 Fz0 ι' Fz' st' a' w' → Kc a' w') →
      if Region.wanted o (yielded ops a.tmps) then o.wp E.P a w Kc Q else Kc (a.put o.dst undef) w := by
    refine ⟨_, h1, fun Kc Q hK => ?_⟩
    rw [if_neg (by rw [hwant]; simp)]
    exact hK _ _ ι Fz (by rw [size_put]; exact hnt) (b1.put (by simp only [RV]; exact ⟨[], rfl, by simp [RVs]⟩) o.dst (hdv a hnt))
  unfold opG at h
  split at h
  · rename_i hgd
    exact run b h (by simp [Region.wanted, hgd])
  · rename_i j want hgd
    split at h
    · rename_i d hdst
      split at h
      · rename_i p hp
        have hval := b.1 d
        rw [hp, RV_bool] at hval
        have hy : yielded ops a.tmps j = some p := by
          unfold yielded
          rw [hdst]
          have : a.tmps[d]? = some (.bool p) := by
            rw [Array.getD_eq_getD_getElem?] at hval
            cases hx : a.tmps[d]? with
            | none => rw [hx] at hval; simp [undef] at hval
            | some x => rw [hx] at hval; simp at hval; rw [hval]
          simp [this]
        have hwnt : Region.wanted o (yielded ops a.tmps) = (some p == some want) := by simp only [Region.wanted, hgd, hy]
        cases p with
        | true =>
          simp only [cond_true] at h
          cases want with
          | true => simp only [cond_true] at h; exact run (b.known hp) h (by rw [hwnt]; rfl)
          | false => simp only [cond_false] at h; exact skip (b.known hp) h (by rw [hwnt]; rfl)
        | false =>
          simp only [cond_false] at h
          cases want with
          | true => simp only [cond_true] at h; exact skip (b.known hp) h (by rw [hwnt]; rfl)
          | false => simp only [cond_false] at h; exact run (b.known hp) h (by rw [hwnt]; rfl)
      · rename_i hp
        have hval := b.1 d
        rw [hp] at hval
        simp only [RV, RVs] at hval
        obtain ⟨vs, hval, rfl⟩ := hval
        have hy : yielded ops a.tmps j = none := by
          unfold yielded
          rw [hdst]
          rw [Array.getD_eq_getD_getElem?] at hval
          cases hx : a.tmps[d]? with
          | none => simp [hx]
          | some x => rw [hx] at hval; simp at hval; simp [hx, hval]
        exact skip b h (by simp only [Region.wanted, hgd, hy]; rfl)
      · cases h
    · cases h
theorem opsG_of {E : Env} {ops : Array Oper} {nt : Nat} (hΓ : EnvOk E w0.gl) {Q : Exit → Act → World → Prop} : ∀ (l : List Oper) {ι : Nat → HI} {Fz : Nat → Prop} {st : St} {a : Act} {w : World} {K : St → Option R} {r : R}, dstOk l nt → a.tmps.size = nt →
    Behind w0 Fz0 ι Fz st a w → opsG E ops l st K = some r → (∀ st' a' w' ι' Fz', K st' = some r → a'.tmps.size = nt → Behind w0 Fz0 ι' Fz' st' a' w' → Q .normal a' w') → wpList E.P ops Q l a w
  | [], ι, Fz, st, a, w, K, r, _, hnt, b, h, hQ => wpList_nil (hQ st a w ι Fz h hnt b)
  | o :: l, ι, Fz, st, a, w, K, r, hd, hnt, b, h, hQ => by
    simp only [opsG] at h
    obtain ⟨st', hk, hw⟩ := opG_of hΓ hnt (hd o (by simp)) b h
    refine wpList_step fun Kc hKc => hw Kc Q fun a' w' ι' Fz' hnt' b' => hKc _ _ (opsG_of hΓ l (fun o ho => hd o (by simp [ho])) hnt' b' hk hQ)
end
end Go.Av
