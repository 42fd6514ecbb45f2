/- A call that has memory of its own lent, or gives some back. -/
import Derived.Test.YtnoamanjajighaaAv11
set_option linter.unusedVariables false
set_option linter.unusedSimpArgs false
namespace Go.Av
open Go Go.RowKit

/-! ### contracts with memory -/
def ownW (w : World) (os : List HI) : Nat → Prop := fun b => w.heap.size ≤ b ∨ ∃ i ∈ os, i.virt = false ∧ i.blk = b
structure OsOk (Fz : Nat → Prop) (w : World) (os : List HI) : Prop where
  lt : ∀ i ∈ os, i.virt = false → i.blk < w.heap.size ∧ ¬ Fz i.blk
  ne : ∀ (j k : Nat) a b, os[j]? = some a → os[k]? = some b → a.virt = false → b.virt = false → a.blk = b.blk → j = k
def altOne (pi : Nat → HI) (Fz : Nat → Prop) (w : World) (vals : List Value) (a : Alt) (d : ShDs a.all) (v : Value) (os : List HI) : Prop :=
  ∃ vs : List Value, vs.length = a.ress.length ∧ v = (if h : vs.length = 1 then vs[0] else .tuple vs.toArray) ∧ RSs pi Fz w a.all d (vs ++ keepV a.fins vals) os
def AltR (pi : Nat → HI) (Fz : Nat → Prop) (w : World) (vals : List Value) : (alts : List Alt) → AltD alts → Value → List HI → Prop
  | [], _, _, _ => False
  | [a], d, v, os => altOne pi Fz w vals a d v os
  | a :: b :: r, y, v, os => Sum.elim (fun d => altOne pi Fz w vals a d v os) (fun y' => AltR pi Fz w vals (b :: r) y' v os) y
/-- THE CONTRACT. -/
def Con2.Sound (P : Program) (gl : List Gl) (c : Con2) : Prop :=
  ∀ (w : World) (Fz : Nat → Prop) (pi : Nat → HI) (x : ShDs c.ins) (vals : List Value) (os : List HI) (y : AltD c.alts), (∀ b, Fz b → b < w.heap.size) → GOK gl Fz w → RSs pi Fz w c.ins x vals os → OsOk Fz w os → c.fn x = some y →
    CallGives P c.fid vals w fun v w' => Bel (ownW w os) w w' ∧ ∃ (Fz' : Nat → Prop) (os' : List HI), (∀ b, Fz b → Fz' b) ∧ (∀ b, Fz' b → Fz b ∨ ownW w os b) ∧ (∀ b, Fz' b → b < w'.heap.size) ∧
      AltR (fun i => os.getD i ⟨0, 0, 0, true⟩) Fz' w' vals c.alts y v os' ∧ OsOk Fz' w' os' ∧ ∀ i ∈ os', i.virt = false → ownW w os i.blk
structure EnvOk (E : Env) (gl : List Gl) : Prop where
  c1 : ∀ c ∈ E.cons, c.Sound E.P gl
  c2 : ∀ c ∈ E.con2, c.Sound E.P gl
  gl : E.gl = gl

theorem altK_of {R : Type} : ∀ (alts : List Alt) (y : AltD alts) (f : (a : Alt) → ShDs a.all → Option R) (r : R), altK alts y f = some r →
    ∃ a dd, a ∈ alts ∧ f a dd = some r ∧ ∀ pi Fz w vals v os, AltR pi Fz w vals alts y v os → altOne pi Fz w vals a dd v os
  | [], y, f, r, h => by simp [altK] at h
  | [a], y, f, r, h => ⟨a, y, by simp, h, fun _ _ _ _ _ _ h => h⟩
  | a :: b :: l, y, f, r, h => by
    cases y with
    | inl d => exact ⟨a, d, by simp, h, fun _ _ _ _ _ _ h => h⟩
    | inr y =>
      obtain ⟨a', dd, h1, h2, h3⟩ := altK_of (b :: l) y f r h
      exact ⟨a', dd, List.mem_cons_of_mem _ h1, h2, fun pi Fz w vals v os h => h3 pi Fz w vals v os h⟩

/-! ### shapes that hang on own memory alone; shapes without parameters -/
section
variable {pi pi' : Nat → HI} {Fz Fz' : Nat → Prop} {w : World}
theorem pv_plain {ι ι' : Nat → HI} {κ : Kd} {x : Den κ} {v : Value} (hp : κ.plain = true) (h : RV ι Fz w (.pv κ x) v) : RV ι' Fz' w (.pv κ x) v := by
  simp only [RV] at h ⊢
  split
  · rename_i hk
    simp only [hk, if_true] at h
    obtain ⟨vs, e, h⟩ := h
    exact ⟨vs, e, RP_plain κ x _ hp h⟩
  · rename_i hk
    simp only [hk] at h
    exact RP_plain κ x _ hp h
theorem RB_plain {i : HI} {e : TypeId} {κ : Kd} {xs : List (Den κ)} (hp : κ.plain = true) (h : RB (fun _ => i) Fz w 0 (.arr e κ xs)) : RB (fun _ => i) Fz' w 0 (.arr e κ xs) := by
  simp only [RB] at h ⊢
  refine ⟨h.1, ?_⟩
  rcases h.2 with h2 | ⟨hv, vs, h1, h2, h3, h4, h5⟩
  · exact .inl h2
  · refine .inr ⟨hv, vs, h1, h2, h3, h4, fun i x hx => ?_⟩
    obtain ⟨es, a, b, c⟩ := h5 i x hx
    exact ⟨es, RP_plain κ x _ hp a, b, c⟩
mutual
theorem RS_safe : ∀ (s : Sh) (x : ShD s) (v : Value) (os : List HI), s.safe = true → RS pi Fz w s x v os → RS pi Fz' w s x v os
  | .k κ, x, v, os, hs, h => by simp only [RS] at h ⊢; exact ⟨h.1, pv_plain (by simpa [Sh.safe] using hs) h.2⟩
  | .row e κ, xs, v, os, hs, h => by
    simp only [RS] at h ⊢
    obtain ⟨i, e1, h1, h2, h3⟩ := h
    exact ⟨i, e1, h1, RB_plain (by simpa [Sh.safe] using hs) h2, h3⟩
  | .sub e κ, xs, v, os, hs, h => by
    simp only [RS] at h ⊢
    obtain ⟨i, e1, h1, h2, h3⟩ := h
    exact ⟨i, e1, h1, RB_plain (by simpa [Sh.safe] using hs) h2, h3⟩
  | .krow k e κ, xs, v, os, hs, h => by
    simp only [RS] at h ⊢
    obtain ⟨i, e1, e2, h1, h2, h3⟩ := h
    exact ⟨i, e1, e2, h1, RB_plain (by simpa [Sh.safe] using hs) h2, h3⟩
  | .parw k κ, xs, v, os, hs, h => by simp only [RS] at h ⊢; exact h
  | .box cs, d, v, os, hs, h => by
    simp only [RS] at h ⊢
    obtain ⟨i, r, vs, T, e, h1, h2, h3, h4, h5, h6, h7⟩ := h
    exact ⟨i, r, vs, T, e, h1, h2, h3, h4, h5, h6, RSs_safe cs d vs r (by simpa [Sh.safe] using hs) h7⟩
  | .bsl cs, d, v, os, hs, h => by
    simp only [RS] at h ⊢
    obtain ⟨i, r, vs, T, e, h1, h2, h3, h4, h5, h6, h7⟩ := h
    exact ⟨i, r, vs, T, e, h1, h2, h3, h4, h5, h6, RSs_safe cs d vs r (by simpa [Sh.safe] using hs) h7⟩
  | .agg cs, d, v, os, hs, h => by
    simp only [RS] at h ⊢
    obtain ⟨vs, e, h1, h2⟩ := h
    exact ⟨vs, e, h1, RSs_safe cs d vs os (by simpa [Sh.safe] using hs) h2⟩
  | .ifc t s, d, v, os, hs, h => by
    simp only [RS] at h ⊢
    obtain ⟨u, e, h1⟩ := h
    exact ⟨u, e, RS_safe s d u os (by simpa [Sh.safe] using hs) h1⟩
  | .fn f cs, d, v, os, hs, h => by
    simp only [RS] at h ⊢
    obtain ⟨vs, e, h2⟩ := h
    exact ⟨vs, e, RSs_safe cs d vs os (by simpa [Sh.safe] using hs) h2⟩
  | .lref κ, x, v, os, hs, h => by simp [Sh.safe] at hs
  | .nilp, _, v, os, hs, h => by simp only [RS] at h ⊢; exact h
  | .nili, _, v, os, hs, h => by simp only [RS] at h ⊢; exact h
  | .nilf, _, v, os, hs, h => by simp only [RS] at h ⊢; exact h
  | .nan, _, v, os, hs, h => by simp only [RS] at h ⊢; exact h
  | .ep _, _, v, os, hs, h => by simp [Sh.safe] at hs
  | .snil, _, v, os, hs, h => by simp only [RS] at h ⊢; exact h
  | .par i, _, v, os, hs, h => by simp only [RS] at h ⊢; exact h
theorem RSs_safe : ∀ (ss : List Sh) (x : ShDs ss) (vs : List Value) (os : List HI), safeL ss = true → RSs pi Fz w ss x vs os → RSs pi Fz' w ss x vs os
  | [], x, vs, os, hs, h => by simp only [RSs] at h ⊢; exact h
  | s :: r, x, vs, os, hs, h => by
    simp only [RSs] at h ⊢
    simp only [safeL, Bool.and_eq_true] at hs
    obtain ⟨v, q, o1, o2, e1, e2, h1, h2⟩ := h
    exact ⟨v, q, o1, o2, e1, e2, RS_safe s _ _ _ hs.1 h1, RSs_safe r _ _ _ hs.2 h2⟩
end
mutual
theorem RS_noPar : ∀ (s : Sh) (x : ShD s) (v : Value) (os : List HI), s.noPar = true → RS pi Fz w s x v os → RS pi' Fz w s x v os
  | .k κ, x, v, os, hs, h => by simp only [RS] at h ⊢; exact h
  | .tr, x, v, os, hs, h => by simp only [RS] at h ⊢; exact h
  | .row e κ, xs, v, os, hs, h => by simp only [RS] at h ⊢; exact h
  | .sub e κ, xs, v, os, hs, h => by simp only [RS] at h ⊢; exact h
  | .krow _ _ _, _, v, os, hs, h => by simp [Sh.noPar] at hs
  | .parw _ _, _, v, os, hs, h => by simp [Sh.noPar] at hs
  | .box cs, d, v, os, hs, h => by
    simp only [RS] at h ⊢
    obtain ⟨i, r, vs, T, e, h1, h2, h3, h4, h5, h6, h7⟩ := h
    exact ⟨i, r, vs, T, e, h1, h2, h3, h4, h5, h6, RSs_noPar cs d vs r (by simpa [Sh.noPar] using hs) h7⟩
  | .bsl cs, d, v, os, hs, h => by
    simp only [RS] at h ⊢
    obtain ⟨i, r, vs, T, e, h1, h2, h3, h4, h5, h6, h7⟩ := h
    exact ⟨i, r, vs, T, e, h1, h2, h3, h4, h5, h6, RSs_noPar cs d vs r (by simpa [Sh.noPar] using hs) h7⟩
  | .agg cs, d, v, os, hs, h => by
    simp only [RS] at h ⊢
    obtain ⟨vs, e, h1, h2⟩ := h
    exact ⟨vs, e, h1, RSs_noPar cs d vs os (by simpa [Sh.noPar] using hs) h2⟩
  | .ifc t s, d, v, os, hs, h => by
    simp only [RS] at h ⊢
    obtain ⟨u, e, h1⟩ := h
    exact ⟨u, e, RS_noPar s d u os (by simpa [Sh.noPar] using hs) h1⟩
  | .fn f cs, d, v, os, hs, h => by
    simp only [RS] at h ⊢
    obtain ⟨vs, e, h2⟩ := h
    exact ⟨vs, e, RSs_noPar cs d vs os (by simpa [Sh.noPar] using hs) h2⟩
  | .lref κ, x, v, os, hs, h => by simp only [RS] at h ⊢; exact h
  | .nilp, _, v, os, hs, h => by simp only [RS] at h ⊢; exact h
  | .nili, _, v, os, hs, h => by simp only [RS] at h ⊢; exact h
  | .nilf, _, v, os, hs, h => by simp only [RS] at h ⊢; exact h
  | .nan, _, v, os, hs, h => by simp only [RS] at h ⊢; exact h
  | .ep _, _, v, os, hs, h => by simp only [RS] at h ⊢; exact h
  | .snil, _, v, os, hs, h => by simp only [RS] at h ⊢; exact h
  | .par i, _, v, os, hs, h => by simp [Sh.noPar] at hs
theorem RSs_noPar : ∀ (ss : List Sh) (x : ShDs ss) (vs : List Value) (os : List HI), noParL ss = true → RSs pi Fz w ss x vs os → RSs pi' Fz w ss x vs os
  | [], x, vs, os, hs, h => by simp only [RSs] at h ⊢; exact h
  | s :: r, x, vs, os, hs, h => by
    simp only [RSs] at h ⊢
    simp only [noParL, Bool.and_eq_true] at hs
    obtain ⟨v, q, o1, o2, e1, e2, h1, h2⟩ := h
    exact ⟨v, q, o1, o2, e1, e2, RS_noPar s _ _ _ hs.1 h1, RSs_noPar r _ _ _ hs.2 h2⟩
end
end

/-! ### names -/
theorem memN_iff : ∀ {l : List Nat} {n : Nat}, memN l n = true ↔ n ∈ l
  | [], n => by simp [memN]
  | m :: r, n => by
    simp only [memN, Bool.or_eq_true, List.mem_cons, memN_iff (l := r)]
    constructor
    · rintro (h | h)
      · exact .inl (Nat.eq_of_beq_eq_true h).symm
      · exact .inr h
    · rintro (h | h)
      · subst h; exact .inl (Nat.beq_refl n)
      · exact .inr h
theorem nodupN_iff : ∀ {l : List Nat}, nodupN l = true → l.Nodup
  | [], _ => List.nodup_nil
  | n :: r, h => by
    simp only [nodupN, Bool.and_eq_true, Bool.not_eq_true'] at h
    refine List.nodup_cons.2 ⟨fun hm => ?_, nodupN_iff h.2⟩
    rw [memN_iff.2 hm] at h; cases h.1
theorem mem_notIn {l : List Nat} : ∀ {m : List Nat} {n : Nat}, n ∈ notIn l m ↔ n ∈ m ∧ n ∉ l
  | [], n => by simp [notIn]
  | k :: r, n => by
    unfold notIn
    cases hk : memN l k with
    | true =>
      have := memN_iff.1 hk
      rw [cond_true, mem_notIn (m := r)]
      simp only [List.mem_cons]
      constructor
      · rintro ⟨h1, h2⟩; exact ⟨.inr h1, h2⟩
      · rintro ⟨rfl | h1, h2⟩
        · exact absurd this h2
        · exact ⟨h1, h2⟩
    | false =>
      have : k ∉ l := fun h => by rw [memN_iff.2 h] at hk; cases hk
      rw [cond_false, List.mem_cons, mem_notIn (m := r), List.mem_cons]
      constructor
      · rintro (rfl | ⟨h1, h2⟩)
        · exact ⟨.inl rfl, this⟩
        · exact ⟨.inr h1, h2⟩
      · rintro ⟨rfl | h1, h2⟩
        · exact .inl rfl
        · exact .inr ⟨h1, h2⟩
def assignN : List Nat → List HI → (Nat → HI) → Nat → HI
  | n :: ns, i :: is, ι => fun k => if n = k then i else assignN ns is ι k
  | _, _, ι => ι
theorem assignN_not {ι : Nat → HI} : ∀ {ns : List Nat} {is : List HI} {n : Nat}, n ∉ ns → assignN ns is ι n = ι n
  | [], _, _, _ => rfl
  | _ :: _, [], _, _ => rfl
  | m :: ns, i :: is, n, h => by
    simp only [List.mem_cons, not_or] at h
    simp only [assignN]
    rw [if_neg (Ne.symm h.1)]
    exact assignN_not h.2
theorem assignN_at {ι : Nat → HI} : ∀ {ns : List Nat} {is : List HI} {j n : Nat} {i : HI}, ns.Nodup → ns[j]? = some n → is[j]? = some i → assignN ns is ι n = i
  | [], _, _, _, _, _, h, _ => by simp at h
  | _ :: _, [], _, _, _, _, _, h => by simp at h
  | m :: ns, i' :: is, 0, n, i, _, h, h' => by
    simp only [List.getElem?_cons_zero, Option.some.injEq] at h h'
    subst h h'
    simp [assignN]
  | m :: ns, i' :: is, j + 1, n, i, hd, h, h' => by
    simp only [List.getElem?_cons_succ] at h h'
    obtain ⟨h1, h2⟩ := List.nodup_cons.1 hd
    simp only [assignN]
    have hne : ¬ m = n := fun e => h1 (by rw [e]; exact List.mem_of_getElem? h)
    rw [if_neg hne]
    exact assignN_at h2 h h'
theorem assignN_named {ι : Nat → HI} {ns : List Nat} {is : List HI} (hd : ns.Nodup) (hl : is.length ≤ ns.length) : Named (assignN ns is ι) ns is := by
  intro j i hj
  have hlt := (List.getElem?_eq_some_iff.1 hj).1
  refine ⟨ns[j], List.getElem?_eq_getElem (by omega), assignN_at hd (List.getElem?_eq_getElem (by omega)) hj⟩

/-! ### striking several names -/
def strikeLs : List Nat → AV → AV
  | [], v => v
  | n :: r, v => strikeLs r (v.strike n)
def AB.strikeLs : List Nat → AB → AB
  | [], b => b
  | n :: r, b => AB.strikeLs r (b.strike n)
theorem strikeLs_dead : ∀ (l : List Nat), strikeLs l .dead = .dead
  | [] => rfl
  | n :: r => by simp only [strikeLs]; rw [show AV.strike n .dead = .dead from rfl]; exact strikeLs_dead r
theorem strikeLs_cases : ∀ (l : List Nat) (v : AV), strikeLs l v = .dead ∨ (strikeLs l v = v ∧ ∀ n ∈ l, v.ment n = false)
  | [], v => .inr ⟨rfl, fun n h => by simp at h⟩
  | n :: r, v => by
    simp only [strikeLs]
    cases hm : v.ment n with
    | true =>
      have : v.strike n = .dead := by simp [AV.strike, hm]
      rw [this]; exact .inl (strikeLs_dead r)
    | false =>
      have : v.strike n = v := by simp [AV.strike, hm]
      rw [this]
      rcases strikeLs_cases r v with h | ⟨h1, h2⟩
      · exact .inl h
      · refine .inr ⟨h1, fun k hk => ?_⟩
        rcases List.mem_cons.1 hk with rfl | hk
        · exact hm
        · exact h2 k hk
theorem freshL_spec : ∀ (l : List Nat) (st : St), (∀ t, getF (freshL l st).fr t = strikeLs l (getF st.fr t)) ∧ (∀ t, getH (freshL l st).H t = AB.strikeLs l (getH st.H t)) ∧ (freshL l st).df = st.df
  | [], st => ⟨fun _ => rfl, fun _ => rfl, rfl⟩
  | n :: r, st => by
    obtain ⟨h1, h2, h3⟩ := freshL_spec r (st.fresh n)
    refine ⟨fun t => ?_, fun t => ?_, h3⟩
    · simp only [freshL, strikeLs]; rw [h1]
      show strikeLs r (getF (strikeF n st.fr) t) = _
      rw [getF_strike]
    · simp only [freshL, AB.strikeLs]; rw [h2]
      show AB.strikeLs r (getH (strikeH n st.H) t) = _
      rw [getH_strike]
section
variable {ι ι' : Nat → HI} {Fz Fz' : Nat → Prop} {w w' : World}
theorem RV_strikeLs (hw : ∀ b, Fz b → w'.heap[b]? = w.heap[b]?) (hf : ∀ b, Fz b → Fz' b) {l : List Nat} (hd : ∀ h, h ∉ l → ι' h = ι h) {a : AV} {v : Value} (h : RV ι Fz w a v) : RV ι' Fz' w' (strikeLs l a) v := by
  rcases strikeLs_cases l a with e | ⟨e, hm⟩
  · rw [e]; simp [RV]
  · rw [e]
    refine RV_mono hw hf a v (fun k hk => hd k fun hin => ?_) h
    rw [hm k hin] at hk; cases hk
theorem strikeLs_box : ∀ (l : List Nat) (cs : List AV), AB.strikeLs l (.box cs) = .box (cs.map (strikeLs l))
  | [], cs => by
    have : cs.map (strikeLs []) = cs := by
      show cs.map (fun v => v) = cs
      simp
    rw [this]; rfl
  | n :: r, cs => by
    simp only [AB.strikeLs, AB.strike]
    rw [strikeLs_box r, List.map_map]
    rfl
theorem strikeLs_arr : ∀ (l : List Nat) (e : TypeId) (κ : Kd) (xs : List (Den κ)), AB.strikeLs l (.arr e κ xs) = .arr e κ xs
  | [], _, _, _ => rfl
  | n :: r, e, κ, xs => by simp only [AB.strikeLs, AB.strike]; exact strikeLs_arr r e κ xs
theorem strikeLs_gone : ∀ (l : List Nat), AB.strikeLs l .gone = .gone
  | [] => rfl
  | n :: r => by simp only [AB.strikeLs, AB.strike]; exact strikeLs_gone r
theorem RVs_strikeLs (hw : ∀ b, Fz b → w'.heap[b]? = w.heap[b]?) (hf : ∀ b, Fz b → Fz' b) {l : List Nat} (hd : ∀ h, h ∉ l → ι' h = ι h) :
    ∀ {cs : List AV} {vs : List Value}, RVs ι Fz w cs vs → RVs ι' Fz' w' (cs.map (strikeLs l)) vs
  | [], vs, h => by simp only [RVs, List.map_nil] at h ⊢; exact h
  | c :: cs, vs, h => by
    simp only [RVs, List.map_cons] at h ⊢
    obtain ⟨v, r, e, h1, h2⟩ := h
    exact ⟨v, r, e, RV_strikeLs hw hf hd h1, RVs_strikeLs hw hf hd h2⟩
theorem RB_strikeLs (hw : ∀ b, Fz b → w'.heap[b]? = w.heap[b]?) (hf : ∀ b, Fz b → Fz' b) {l : List Nat} (hd : ∀ h, h ∉ l → ι' h = ι h) {h : Nat} {b : AB} (hi : ι' h = ι h)
    (hb : b.live → (ι h).virt = false → w'.heap[(ι h).blk]? = w.heap[(ι h).blk]?) (hr : RB ι Fz w h b) : RB ι' Fz' w' h (AB.strikeLs l b) := by
  cases b with
  | gone => rw [strikeLs_gone]; simp [RB]
  | box cs =>
    rw [strikeLs_box]
    simp only [RB] at hr ⊢
    obtain ⟨hv, vs, T, h1, h2, h3⟩ := hr
    rw [hi]
    exact ⟨hv, vs, T, by rw [hb trivial hv]; exact h1, RVs_strikeLs hw hf hd h2, h3⟩
  | arr e κ xs =>
    rw [strikeLs_arr]
    simp only [RB] at hr ⊢
    rw [hi]
    refine ⟨hr.1, ?_⟩
    rcases hr.2 with h2 | ⟨hv, vs, h1, h2, h3, h4, h5⟩
    · exact .inl h2
    · refine .inr ⟨hv, vs, by rw [hb trivial hv]; exact h1, h2, h3, h4, fun i x hx => ?_⟩
      obtain ⟨es, a, b, c⟩ := h5 i x hx
      exact ⟨es, RP_mono hw hf _ _ _ a, b, c⟩
theorem live_strikeLs {l : List Nat} {b : AB} : (AB.strikeLs l b).live ↔ b.live := by
  cases b with
  | gone => rw [strikeLs_gone]
  | box cs => rw [strikeLs_box]; simp [AB.live]
  | arr e κ xs => rw [strikeLs_arr]
theorem Cn_strikeLs {l : List Nat} {i : HI} {b : AB} : Cn i (AB.strikeLs l b) ↔ Cn i b := by
  cases b with
  | gone => rw [strikeLs_gone]
  | box cs => rw [strikeLs_box]; simp [Cn]
  | arr e κ xs => rw [strikeLs_arr]
end

/-! ### what is kept keeps its name -/
theorem topN_map (ι : Nat → HI) : ∀ (t : List Bool) (os : List (Option Nat)), topH t (os.map (hiOf ι)) = (topN t os).map (hiOf ι)
  | [], os => by simp [topH, topN]
  | true :: t, [] => by simp [topH, topN]
  | false :: t, [] => by simp [topH, topN]
  | true :: t, o :: os => by simp only [List.map_cons, topH, topN]; rw [topN_map ι t os]
  | false :: t, o :: os => by simp only [List.map_cons, topH, topN]; exact topN_map ι t os
theorem fillN_len (d : Nat) : ∀ (t : List Bool) (ns is : List (Option Nat)) (c : Nat), (fillN d t ns is c).length = t.length
  | [], _, _, _ => rfl
  | true :: t, ns, is, c => by simp only [fillN, List.length_cons]; rw [fillN_len d t]
  | false :: t, ns, is, c => by simp only [fillN, List.length_cons]; rw [fillN_len d t]
theorem fillN_of (ι : Nat → HI) (d : Nat) : ∀ (t : List Bool) (ns is : List (Option Nat)) (c : Nat) (os' : List HI), t.length = os'.length → topH t os' = ns.map (hiOf ι) →
    ∀ n ∈ someN ns, ∃ j : Nat, (fillN d t ns is c)[j]? = some n ∧ os'[j]? = some (ι n)
  | [], ns, is, c, os', _, h, n, hn => by
    simp only [topH] at h
    cases ns with
    | nil => simp [someN] at hn
    | cons _ _ => simp at h
  | true :: t, ns, is, c, [], hl, h, n, hn => by simp at hl
  | false :: t, ns, is, c, [], hl, h, n, hn => by simp at hl
  | true :: t, [], is, c, o :: os', hl, h, n, hn => by simp [someN] at hn
  | true :: t, m :: ns, is, c, o :: os', hl, h, n, hn => by
    simp only [topH, List.map_cons, List.cons.injEq] at h
    simp only [fillN]
    have again : n ∈ someN ns → ∃ j : Nat, (headO (d + c) true (m :: ns) :: fillN d t (tailO (m :: ns)) is (c + 1))[j]? = some n ∧ (o :: os')[j]? = some (ι n) := fun hn => by
      obtain ⟨j, h1, h2⟩ := fillN_of ι d t ns is (c + 1) os' (by simpa using hl) h.2 n hn
      exact ⟨j + 1, by simpa [tailO] using h1, by simpa using h2⟩
    cases m with
    | none => exact again (by simpa [someN] using hn)
    | some k =>
      simp only [someN, List.mem_cons] at hn
      rcases hn with rfl | hn
      · exact ⟨0, by simp [headO], by simpa [hiOf] using h.1⟩
      · exact again hn
  | false :: t, ns, is, c, o :: os', hl, h, n, hn => by
    simp only [topH] at h
    simp only [fillN]
    obtain ⟨j, h1, h2⟩ := fillN_of ι d t ns (tailO is) (c + 1) os' (by simpa using hl) h n hn
    exact ⟨j + 1, by simpa using h1, by simpa using h2⟩
theorem sub_tops {pi pi' : Nat → HI} {Fz Fz' : Nat → Prop} {w w' : World} : ∀ {i s : Sh} {x : ShD i} {y : ShD s} {v : Value} {o1 p1 : List HI}, i.isSub = true → s.isSub = true → subOk1 i s x y = true → RS pi Fz w i x v o1 → RS pi' Fz' w' s y v p1 → topH i.tops o1 = topH s.tops p1
  | .sub e κ, .sub e' κ', x, y, v, o1, p1, _, _, h, h1, g1 => by
    simp only [subOk1, Bool.and_eq_true, decide_eq_true_eq] at h
    obtain ⟨⟨⟨⟨rfl, q1⟩, q2⟩, q3⟩, q4⟩ := h
    have q1 := Nat.le_of_ble_eq_true q1
    have q2 := Nat.eq_of_beq_eq_true q2
    have q3 := Nat.eq_of_beq_eq_true q3
    have q4 := Nat.eq_of_beq_eq_true q4
    simp only [RS] at h1 g1
    obtain ⟨I, rfl, ⟨a1, a2⟩, a3, _⟩ := h1
    obtain ⟨J, rfl, ⟨b1, b2⟩, b3, _⟩ := g1
    simp only [RB] at a3 b3
    simp only [Sh.tops, topH, List.cons.injEq, and_true]
    rcases a2 with ⟨e0, _⟩ | ⟨av, c, ae, _, ac⟩
    · omega
    rcases b2 with ⟨e0, _⟩ | ⟨bv, c', be, _, bc⟩
    · omega
    rw [ae] at be
    simp only [Value.slice.injEq, Option.some.injEq, Addr.mk.injEq] at be
    obtain ⟨⟨e1, _, _⟩, _, e2⟩ := be
    have l1 := a3.1
    have l2 := b3.1
    cases I; cases J
    simp only at e1 e2 av bv ac bc l1 l2
    simp only [HI.mk.injEq]
    exact ⟨e1, by omega, by omega, by rw [av, bv]⟩
  | .k _, _, _, _, _, _, _, h, _, _, _, _ | .row _ _, _, _, _, _, _, _, h, _, _, _, _ | .box _, _, _, _, _, _, _, h, _, _, _, _ | .agg _, _, _, _, _, _, _, h, _, _, _, _ | .ifc _ _, _, _, _, _, _, _, h, _, _, _, _ | .fn _ _, _, _, _, _, _, _, h, _, _, _, _ | .lref _, _, _, _, _, _, _, h, _, _, _, _
  | .nilp, _, _, _, _, _, _, h, _, _, _, _ | .nili, _, _, _, _, _, _, h, _, _, _, _ | .nilf, _, _, _, _, _, _, h, _, _, _, _ | .par _, _, _, _, _, _, _, h, _, _, _, _ | .nan, _, _, _, _, _, _, h, _, _, _, _ | .ep _, _, _, _, _, _, _, h, _, _, _, _ | .snil, _, _, _, _, _, _, h, _, _, _, _ | .bsl _, _, _, _, _, _, _, h, _, _, _, _ | .krow _ _ _, _, _, _, _, _, _, h, _, _, _, _ | .parw _ _, _, _, _, _, _, _, h, _, _, _, _ => by cases h
  | .sub _ _, .k _, _, _, _, _, _, _, h, _, _, _ | .sub _ _, .row _ _, _, _, _, _, _, _, h, _, _, _ | .sub _ _, .box _, _, _, _, _, _, _, h, _, _, _ | .sub _ _, .agg _, _, _, _, _, _, _, h, _, _, _ | .sub _ _, .ifc _ _, _, _, _, _, _, _, h, _, _, _ | .sub _ _, .fn _ _, _, _, _, _, _, _, h, _, _, _ | .sub _ _, .lref _, _, _, _, _, _, _, h, _, _, _
  | .sub _ _, .nilp, _, _, _, _, _, _, h, _, _, _ | .sub _ _, .nili, _, _, _, _, _, _, h, _, _, _ | .sub _ _, .nilf, _, _, _, _, _, _, h, _, _, _ | .sub _ _, .par _, _, _, _, _, _, _, h, _, _, _ | .sub _ _, .nan, _, _, _, _, _, _, h, _, _, _ | .sub _ _, .ep _, _, _, _, _, _, _, h, _, _, _ | .sub _ _, .snil, _, _, _, _, _, _, h, _, _, _ | .sub _ _, .bsl _, _, _, _, _, _, _, h, _, _, _ | .sub _ _, .krow _ _ _, _, _, _, _, _, _, h, _, _, _ | .sub _ _, .parw _ _, _, _, _, _, _, _, h, _, _, _ => by cases h
theorem keep_of {pi pi' : Nat → HI} {Fz Fz' : Nat → Prop} {w w' : World} (ι : Nat → HI) (fr : Bool) (d : Nat) : ∀ (ins : List Sh) (fins : List (Option Sh)) (vals : List Value) (x : ShDs ins) (os : List (Option Nat)) (y : ShDs (keepS fins)) (os' : List HI) (c : Nat),
    finsOk ins fins = true → subOk ins fins x y = true → RSs pi Fz w ins x vals (os.map (hiOf ι)) → RSs pi' Fz' w' (keepS fins) y (keepV fins vals) os' →
    (∀ n ∈ keepTops ins fins os, ∃ j : Nat, (keepNames fr d ins fins os c)[j]? = some n ∧ os'[j]? = some (ι n)) ∧ (keepNames fr d ins fins os c).length = os'.length
  | [], [], vals, x, os, y, os', c, _, _, _, h => by
    simp only [keepS, keepV, RSs] at h
    rw [h.2]
    exact ⟨fun n hn => by simp [keepTops] at hn, rfl⟩
  | [], _ :: _, _, _, _, _, _, _, h, _, _, _ => by simp [finsOk] at h
  | _ :: _, [], _, _, _, _, _, _, h, _, _, _ => by simp [finsOk] at h
  | i :: ins, none :: fins, vals, x, os, y, os', c, hok, hsub, h, h' => by
    have hsub : subOk ins fins x.2 y = true := by cases i <;> exact hsub
    simp only [RSs] at h
    obtain ⟨v, q, o1, o2, rfl, ho, h1, h2⟩ := h
    have hc := RS_cnt _ _ _ _ h1
    have e2 : (os.drop i.cnt).map (hiOf ι) = o2 := by rw [List.map_drop, ho, ← hc]; simp
    simp only [finsOk] at hok
    simp only [keepS, keepV] at h'
    rw [← e2] at h2
    simpa only [keepTops, keepNames] using keep_of ι fr d ins fins q x.2 (os.drop i.cnt) y os' c hok hsub h2 h'
  | i :: ins, some s :: fins, vals, x, os, y, os', c, hok, hsub, h, h' => by
    have hsub : (subOk1 i s x.1 y.1 && subOk ins fins x.2 y.2) = true := hsub
    rw [Bool.and_eq_true] at hsub
    simp only [RSs] at h
    obtain ⟨v, q, o1, o2, rfl, ho, h1, h2⟩ := h
    have hc := RS_cnt _ _ _ _ h1
    have e2 : (os.drop i.cnt).map (hiOf ι) = o2 := by rw [List.map_drop, ho, ← hc]; simp
    simp only [finsOk, Bool.and_eq_true] at hok
    simp only [keepS, keepV, RSs] at h'
    obtain ⟨v', q', p1, p2, e, rfl, g1, g2⟩ := h'
    simp only [List.cons.injEq] at e
    obtain ⟨rfl, rfl⟩ := e
    rw [← e2] at h2
    obtain ⟨r1, r2⟩ := keep_of ι fr d ins fins q x.2 (os.drop i.cnt) y.2 p2 (c + s.cnt) hok.2 hsub.2 h2 g2
    have ht : topH i.tops o1 = topH s.tops p1 := by
      rcases Bool.or_eq_true _ _ ▸ hok.1 with hsim | hsb
      · exact tops_eq i s _ _ _ _ _ hsim h1 g1
      · rw [Bool.and_eq_true] at hsb
        exact sub_tops hsb.1 hsb.2 hsub.1 h1 g1
    have ht' : topH i.tops (os.map (hiOf ι)) = topH i.tops o1 := by
      rw [ho]
      have := topH_append i.tops o1 [] o2 (by rw [tops_len, hc])
      simpa [topH] using this
    have hp1 := RS_cnt _ _ _ _ g1
    have hf := fillN_of ι d s.tops (topN i.tops os) (bif fr then [] else botN i.tops os) c p1 (by rw [tops_len, hp1]) (by rw [← ht, ← ht', topN_map])
    simp only [keepTops, keepNames]
    have hfl : (fillN d s.tops (topN i.tops os) (bif fr then [] else botN i.tops os) c).length = p1.length := by rw [fillN_len, tops_len, hp1]
    refine ⟨fun n hn => ?_, by rw [List.length_append, List.length_append, hfl, r2]⟩
    rcases List.mem_append.1 hn with hn | hn
    · obtain ⟨j, a, b⟩ := hf n hn
      exact ⟨j, by rw [List.getElem?_append_left (List.getElem?_eq_some_iff.1 a).1]; exact a, by rw [List.getElem?_append_left (List.getElem?_eq_some_iff.1 b).1]; exact b⟩
    · obtain ⟨j, a, b⟩ := r1 n hn
      exact ⟨p1.length + j, by rw [List.getElem?_append_right (by omega), hfl]; simpa using a, by rw [List.getElem?_append_right (by omega)]; simpa using b⟩
theorem nameL_len : ∀ (n b : Nat), (nameL b n).length = n
  | 0, _ => rfl
  | n + 1, b => by simp only [nameL, List.length_cons]; rw [nameL_len n]
theorem cnts_append : ∀ (a b : List Sh), cnts (a ++ b) = cnts a + cnts b
  | [], b => by simp [cnts]
  | s :: a, b => by simp only [List.cons_append, cnts]; rw [cnts_append a b]; omega
theorem RSs_split {pi : Nat → HI} {Fz : Nat → Prop} {w : World} : ∀ (a b : List Sh) (d : ShDs (a ++ b)) (us vs : List Value) (os : List HI), us.length = a.length → RSs pi Fz w (a ++ b) d (us ++ vs) os →
    ∃ o1 o2, os = o1 ++ o2 ∧ o1.length = cnts a ∧ RSs pi Fz w b (dropSh a b d) vs o2
  | [], b, d, [], vs, os, _, h => ⟨[], os, rfl, rfl, h⟩
  | [], b, d, _ :: _, vs, os, hl, _ => by simp at hl
  | s :: a, b, d, [], vs, os, hl, _ => by simp at hl
  | s :: a, b, d, u :: us, vs, os, hl, h => by
    simp only [List.cons_append, RSs] at h
    obtain ⟨v, q, o1, o2, e, rfl, h1, h2⟩ := h
    simp only [List.cons.injEq] at e
    obtain ⟨rfl, rfl⟩ := e
    obtain ⟨p1, p2, rfl, hp, h3⟩ := RSs_split a b d.2 us vs o2 (by simpa using hl) h2
    exact ⟨o1 ++ p1, p2, by rw [List.append_assoc], by simp only [List.length_append, cnts, hp, RS_cnt _ _ _ _ h1], h3⟩
theorem renderShs_len (pn : Nat → Nat) : ∀ (ss : List Sh) (d : ShDs ss) (ns : List Nat), (renderShs pn ss d ns).1.length = ss.length
  | [], _, _ => rfl
  | s :: r, d, ns => by simp only [renderShs, List.length_cons]; rw [renderShs_len pn r]
theorem goneL_spec : ∀ (l : List Nat) (H : List (Nat × AB)) (h : Nat), (h ∈ l ∧ getH (goneL l ++ H) h = .gone) ∨ (h ∉ l ∧ getH (goneL l ++ H) h = getH H h)
  | [], H, h => .inr ⟨by simp, rfl⟩
  | n :: l, H, h => by
    simp only [goneL, List.cons_append]
    rw [getH_cons]
    by_cases e : n = h
    · subst e; exact .inl ⟨by simp, by simp⟩
    · rw [if_neg e]
      rcases goneL_spec l H h with ⟨h1, h2⟩ | ⟨h1, h2⟩
      · exact .inl ⟨by simp [h1], h2⟩
      · exact .inr ⟨by simp only [List.mem_cons, not_or]; exact ⟨Ne.symm e, h1⟩, h2⟩
theorem mem_someN : ∀ {os : List (Option Nat)} {h : Nat}, h ∈ someN os ↔ some h ∈ os
  | [], h => by simp [someN]
  | some n :: r, h => by simp only [someN, List.mem_cons, Option.some.injEq, mem_someN (os := r)]
  | none :: r, h => by simp only [someN, List.mem_cons, mem_someN (os := r)]; simp
theorem someN_nodup : ∀ {os : List (Option Nat)} {j k : Nat} {h : Nat}, (someN os).Nodup → os[j]? = some (some h) → os[k]? = some (some h) → j = k
  | [], _, _, _, _, h, _ => by simp at h
  | o :: r, 0, 0, _, _, _, _ => rfl
  | o :: r, 0, k + 1, h, hd, h1, h2 => by
    simp only [List.getElem?_cons_zero, Option.some.injEq] at h1
    subst h1
    simp only [someN] at hd
    exact absurd (mem_someN.2 (List.mem_of_getElem? (by simpa using h2))) (List.nodup_cons.1 hd).1
  | o :: r, j + 1, 0, h, hd, h1, h2 => by
    simp only [List.getElem?_cons_zero, Option.some.injEq] at h2
    subst h2
    simp only [someN] at hd
    exact absurd (mem_someN.2 (List.mem_of_getElem? (by simpa using h1))) (List.nodup_cons.1 hd).1
  | o :: r, j + 1, k + 1, h, hd, h1, h2 => by
    have : (someN r).Nodup := by
      cases o with
      | none => exact hd
      | some n => exact (List.nodup_cons.1 hd).2
    exact congrArg (· + 1) (someN_nodup this (by simpa using h1) (by simpa using h2))
theorem ownSome_of (ι : Nat → HI) : ∀ (os : List (Option Nat)) (i : Nat), ownSome os i = true → ι (ownAt os i) = (os.map (hiOf ι)).getD i ⟨0, 0, 0, true⟩
  | [], i, h => by cases i <;> cases h
  | some n :: r, 0, h => by simp [ownAt, hiOf]
  | none :: r, 0, h => by cases h
  | o :: r, i + 1, h => by
    have := ownSome_of ι r i (by cases o <;> exact h)
    cases o <;> simpa [ownAt] using this
mutual
theorem fixs_len : ∀ (s : Sh), s.fixs.length = s.cnt
  | .k _ => rfl
  | .tr => rfl
  | .row _ _ => rfl
  | .sub _ _ => rfl
  | .krow _ _ _ => rfl
  | .parw _ _ => rfl
  | .box cs => by simp only [Sh.fixs, Sh.cnt, List.length_cons]; rw [fixL_len cs]
  | .bsl cs => by simp only [Sh.fixs, Sh.cnt, List.length_cons]; rw [fixL_len cs]
  | .agg cs => by simp only [Sh.fixs, Sh.cnt]; exact fixL_len cs
  | .ifc _ s => by simp only [Sh.fixs, Sh.cnt]; exact fixs_len s
  | .fn _ cs => by simp only [Sh.fixs, Sh.cnt]; exact fixL_len cs
  | .lref _ => rfl
  | .nilp => rfl
  | .nili => rfl
  | .nilf => rfl
  | .nan => rfl
  | .ep _ => rfl
  | .snil => rfl
  | .par _ => rfl
theorem fixL_len : ∀ (l : List Sh), (fixL l).length = cnts l
  | [] => rfl
  | s :: r => by simp only [fixL, cnts, List.length_append]; rw [fixs_len s, fixL_len r]
end
mutual
theorem fixs_of {pi : Nat → HI} {Fz : Nat → Prop} {w : World} : ∀ (s : Sh) (x : ShD s) (v : Value) (os : List HI), RS pi Fz w s x v os → ∀ (j i : Nat), s.fixs[j]? = some (some i) → os[j]? = some (pi i)
  | .k _, x, v, os, h, j, i, hj => by simp [Sh.fixs] at hj
  | .row _ _, x, v, os, h, j, i, hj => by cases j <;> simp [Sh.fixs] at hj
  | .sub _ _, x, v, os, h, j, i, hj => by cases j <;> simp [Sh.fixs] at hj
  | .krow k e κ, x, v, os, h, j, i, hj => by
    simp only [RS] at h
    obtain ⟨I, rfl, e1, _⟩ := h
    cases j with
    | zero => simp only [Sh.fixs, List.getElem?_cons_zero, Option.some.injEq] at hj; subst hj; rw [e1]; rfl
    | succ j => simp [Sh.fixs] at hj
  | .parw _ _, x, v, os, h, j, i, hj => by simp [Sh.fixs] at hj
  | .box cs, d, v, os, h, j, i, hj => by
    simp only [RS] at h
    obtain ⟨I, r, vs, T, rfl, _, _, _, _, _, _, h⟩ := h
    cases j with
    | zero => simp [Sh.fixs] at hj
    | succ j => simpa using fixL_of cs d vs r h j i (by simpa [Sh.fixs] using hj)
  | .bsl cs, d, v, os, h, j, i, hj => by
    simp only [RS] at h
    obtain ⟨I, r, vs, T, rfl, _, _, _, _, _, _, h⟩ := h
    cases j with
    | zero => simp [Sh.fixs] at hj
    | succ j => simpa using fixL_of cs d vs r h j i (by simpa [Sh.fixs] using hj)
  | .agg cs, d, v, os, h, j, i, hj => by
    simp only [RS] at h
    obtain ⟨vs, _, _, h⟩ := h
    exact fixL_of cs d vs os h j i (by simpa [Sh.fixs] using hj)
  | .ifc _ s, d, v, os, h, j, i, hj => by
    simp only [RS] at h
    obtain ⟨u, _, h⟩ := h
    exact fixs_of s d u os h j i (by simpa [Sh.fixs] using hj)
  | .fn _ cs, d, v, os, h, j, i, hj => by
    simp only [RS] at h
    obtain ⟨vs, _, h⟩ := h
    exact fixL_of cs d vs os h j i (by simpa [Sh.fixs] using hj)
  | .lref _, x, v, os, h, j, i, hj => by simp [Sh.fixs] at hj
  | .nilp, x, v, os, h, j, i, hj => by simp [Sh.fixs] at hj
  | .nili, x, v, os, h, j, i, hj => by simp [Sh.fixs] at hj
  | .nilf, x, v, os, h, j, i, hj => by simp [Sh.fixs] at hj
  | .nan, x, v, os, h, j, i, hj => by simp [Sh.fixs] at hj
  | .ep _, x, v, os, h, j, i, hj => by simp [Sh.fixs] at hj
  | .snil, x, v, os, h, j, i, hj => by simp [Sh.fixs] at hj
  | .par _, x, v, os, h, j, i, hj => by simp [Sh.fixs] at hj
theorem fixL_of {pi : Nat → HI} {Fz : Nat → Prop} {w : World} : ∀ (ss : List Sh) (x : ShDs ss) (vs : List Value) (os : List HI), RSs pi Fz w ss x vs os → ∀ (j i : Nat), (fixL ss)[j]? = some (some i) → os[j]? = some (pi i)
  | [], x, vs, os, h, j, i, hj => by simp [fixL] at hj
  | s :: r, d, vs, os, h, j, i, hj => by
    simp only [RSs] at h
    obtain ⟨v, q, o1, o2, rfl, rfl, h1, h2⟩ := h
    have hl := RS_cnt _ _ _ _ h1
    simp only [fixL] at hj
    rcases Nat.lt_or_ge j s.fixs.length with hlt | hge
    · rw [List.getElem?_append_left hlt] at hj
      rw [List.getElem?_append_left (by rw [hl, ← fixs_len]; exact hlt)]
      exact fixs_of s d.1 v o1 h1 j i hj
    · rw [List.getElem?_append_right hge] at hj
      rw [List.getElem?_append_right (by rw [hl, ← fixs_len]; exact hge), hl, ← fixs_len]
      exact fixL_of r d.2 q o2 h2 _ i hj
end
theorem ovr_len (os : List (Option Nat)) : ∀ (f : List (Option Nat)) (ns : List Nat), (ovr os f ns).length = ns.length
  | [], ns => rfl
  | _ :: _, [] => rfl
  | some i :: f, n :: ns => by simp only [ovr, List.length_cons]; rw [ovr_len os f ns]
  | none :: f, n :: ns => by simp only [ovr, List.length_cons]; rw [ovr_len os f ns]
theorem ovr_fix (os : List (Option Nat)) : ∀ (f : List (Option Nat)) (ns : List Nat) (j i : Nat), f[j]? = some (some i) → j < ns.length → (ovr os f ns)[j]? = some (ownAt os i)
  | [], ns, j, i, h, _ => by simp at h
  | _ :: _, [], j, i, h, hl => by simp at hl
  | some k :: f, n :: ns, 0, i, h, hl => by simp only [List.getElem?_cons_zero, Option.some.injEq] at h; subst h; rfl
  | none :: f, n :: ns, 0, i, h, hl => by simp at h
  | some k :: f, n :: ns, j + 1, i, h, hl => by simp only [ovr, List.getElem?_cons_succ] at h ⊢; exact ovr_fix os f ns j i h (by simpa using hl)
  | none :: f, n :: ns, j + 1, i, h, hl => by simp only [ovr, List.getElem?_cons_succ] at h ⊢; exact ovr_fix os f ns j i h (by simpa using hl)
theorem mem_fixN (os : List (Option Nat)) : ∀ (f : List (Option Nat)) (n : Nat), n ∈ fixN os f → ∃ (j i : Nat), f[j]? = some (some i) ∧ n = ownAt os i ∧ i ∈ fixI f
  | [], n, h => by simp [fixN] at h
  | some i :: f, n, h => by
    simp only [fixN, List.mem_cons] at h
    rcases h with rfl | h
    · exact ⟨0, i, rfl, rfl, by simp [fixI]⟩
    · obtain ⟨j, k, a, b, c⟩ := mem_fixN os f n h
      exact ⟨j + 1, k, by simpa using a, b, by simp [fixI, c]⟩
  | none :: f, n, h => by
    obtain ⟨j, k, a, b, c⟩ := mem_fixN os f n h
    exact ⟨j + 1, k, by simpa using a, b, by simpa [fixI] using c⟩
theorem tOk_at {kt : List Nat} : ∀ {as bs : List Nat} {j n : Nat}, tOk kt as bs = true → as.length = bs.length → as[j]? = some n → n ∈ kt → bs[j]? = some n
  | [], _, _, _, _, _, h, _ => by simp at h
  | a :: as, [], _, _, _, hl, _, _ => by simp at hl
  | a :: as, b :: bs, 0, n, h, hl, hj, hn => by
    simp only [tOk, Bool.and_eq_true, Bool.or_eq_true, Bool.not_eq_true'] at h
    simp only [List.getElem?_cons_zero, Option.some.injEq] at hj ⊢
    subst hj
    rcases h.1 with h1 | h1
    · rw [memN_iff.2 hn] at h1; cases h1
    · exact (Nat.eq_of_beq_eq_true h1).symm
  | a :: as, b :: bs, j + 1, n, h, hl, hj, hn => by
    simp only [tOk, Bool.and_eq_true] at h
    simp only [List.getElem?_cons_succ] at hj ⊢
    exact tOk_at h.2 (by simpa using hl) hj hn
theorem ownAt_of (ι : Nat → HI) : ∀ (os : List (Option Nat)) (i : Nat), ((os.map (hiOf ι)).getD i ⟨0, 0, 0, true⟩).virt = false → ι (ownAt os i) = (os.map (hiOf ι)).getD i ⟨0, 0, 0, true⟩
  | [], i, h => by simp at h
  | some n :: r, 0, h => by simp [ownAt, hiOf]
  | none :: r, 0, h => by simp [hiOf] at h
  | o :: r, i + 1, h => by
    have := ownAt_of ι r i (by simpa using h)
    cases o <;> simpa [ownAt] using this
theorem tlN_drop (ns : List Nat) : tlN ns = ns.drop 1 := by cases ns <;> rfl
mutual
theorem render_rest (pn : Nat → Nat) : ∀ (s : Sh) (x : ShD s) (ns : List Nat), (renderSh pn s x ns).2.2 = ns.drop s.cnt
  | .k _, _, ns => by simp [renderSh, Sh.cnt]
  | .tr, _, ns => by simp [renderSh, Sh.cnt]
  | .row _ _, _, ns => by simp [renderSh, Sh.cnt, tlN_drop]
  | .sub _ _, _, ns => by simp [renderSh, Sh.cnt, tlN_drop]
  | .krow _ _ _, _, ns => by simp [renderSh, Sh.cnt, tlN_drop]
  | .parw _ _, _, ns => by simp [renderSh, Sh.cnt]
  | .box cs, d, ns => by simp only [renderSh, Sh.cnt]; rw [renders_rest pn cs d, tlN_drop, List.drop_drop, Nat.add_comm]
  | .bsl cs, d, ns => by simp only [renderSh, Sh.cnt]; rw [renders_rest pn cs d, tlN_drop, List.drop_drop, Nat.add_comm]
  | .agg cs, d, ns => by simp only [renderSh, Sh.cnt]; exact renders_rest pn cs d ns
  | .ifc _ s, d, ns => by simp only [renderSh, Sh.cnt]; exact render_rest pn s d ns
  | .fn _ cs, d, ns => by simp only [renderSh, Sh.cnt]; exact renders_rest pn cs d ns
  | .lref _, _, ns => by simp [renderSh, Sh.cnt]
  | .nilp, _, ns => by simp [renderSh, Sh.cnt]
  | .nili, _, ns => by simp [renderSh, Sh.cnt]
  | .nilf, _, ns => by simp [renderSh, Sh.cnt]
  | .nan, _, ns => by simp [renderSh, Sh.cnt]
  | .ep _, _, ns => by simp [renderSh, Sh.cnt]
  | .snil, _, ns => by simp [renderSh, Sh.cnt]
  | .par _, _, ns => by simp [renderSh, Sh.cnt]
theorem renders_rest (pn : Nat → Nat) : ∀ (ss : List Sh) (x : ShDs ss) (ns : List Nat), (renderShs pn ss x ns).2.2 = ns.drop (cnts ss)
  | [], _, ns => by simp [renderShs, cnts]
  | s :: r, d, ns => by simp only [renderShs, cnts]; rw [renders_rest pn r, render_rest pn s, List.drop_drop]
end
theorem take_hd {ns : List Nat} (h : 1 ≤ ns.length) : ns.take 1 = [hdN ns] := by
  cases ns with
  | nil => simp at h
  | cons n r => simp [hdN]
mutual
/-- The names of what is rendered. -/
theorem render_fst (pn : Nat → Nat) : ∀ (s : Sh) (x : ShD s) (ns : List Nat), s.cnt ≤ ns.length → (renderSh pn s x ns).2.1.map Prod.fst = ns.take s.cnt
  | .k _, _, ns, _ => by simp [renderSh, Sh.cnt]
  | .tr, _, ns, _ => by simp [renderSh, Sh.cnt]
  | .row _ _, _, ns, h => by simp only [renderSh, Sh.cnt, List.map_cons, List.map_nil] at h ⊢; rw [take_hd h]
  | .sub _ _, _, ns, h => by simp only [renderSh, Sh.cnt, List.map_cons, List.map_nil] at h ⊢; rw [take_hd h]
  | .krow _ _ _, _, ns, h => by simp only [renderSh, Sh.cnt, List.map_cons, List.map_nil] at h ⊢; rw [take_hd h]
  | .parw _ _, _, ns, _ => by simp [renderSh, Sh.cnt]
  | .box cs, d, ns, h => by
    simp only [renderSh, Sh.cnt, List.map_cons] at h ⊢
    rw [renders_fst pn cs d (tlN ns) (by rw [tlN_drop, List.length_drop]; omega)]
    cases ns with
    | nil => simp at h
    | cons n r => simp [hdN, tlN]
  | .bsl cs, d, ns, h => by
    simp only [renderSh, Sh.cnt, List.map_cons] at h ⊢
    rw [renders_fst pn cs d (tlN ns) (by rw [tlN_drop, List.length_drop]; omega)]
    cases ns with
    | nil => simp at h
    | cons n r => simp [hdN, tlN]
  | .agg cs, d, ns, h => by simp only [renderSh, Sh.cnt] at h ⊢; exact renders_fst pn cs d ns h
  | .ifc _ s, d, ns, h => by simp only [renderSh, Sh.cnt] at h ⊢; exact render_fst pn s d ns h
  | .fn _ cs, d, ns, h => by simp only [renderSh, Sh.cnt] at h ⊢; exact renders_fst pn cs d ns h
  | .lref _, _, ns, _ => by simp [renderSh, Sh.cnt]
  | .nilp, _, ns, _ => by simp [renderSh, Sh.cnt]
  | .nili, _, ns, _ => by simp [renderSh, Sh.cnt]
  | .nilf, _, ns, _ => by simp [renderSh, Sh.cnt]
  | .nan, _, ns, _ => by simp [renderSh, Sh.cnt]
  | .ep _, _, ns, _ => by simp [renderSh, Sh.cnt]
  | .snil, _, ns, _ => by simp [renderSh, Sh.cnt]
  | .par _, _, ns, _ => by simp [renderSh, Sh.cnt]
theorem renders_fst (pn : Nat → Nat) : ∀ (ss : List Sh) (x : ShDs ss) (ns : List Nat), cnts ss ≤ ns.length → (renderShs pn ss x ns).2.1.map Prod.fst = ns.take (cnts ss)
  | [], _, ns, _ => by simp [renderShs, cnts]
  | s :: r, d, ns, h => by
    simp only [renderShs, cnts, List.map_append] at h ⊢
    rw [render_fst pn s d.1 ns (by omega), renders_fst pn r d.2 _ (by rw [render_rest, List.length_drop]; omega), render_rest, List.take_add]
end
theorem keepNames_len (fr : Bool) (d : Nat) : ∀ (ins : List Sh) (fins : List (Option Sh)) (os : List (Option Nat)) (c : Nat), finsOk ins fins = true → (keepNames fr d ins fins os c).length = cnts (keepS fins)
  | [], [], _, _, _ => rfl
  | [], _ :: _, _, _, h => by simp [finsOk] at h
  | _ :: _, [], _, _, h => by simp [finsOk] at h
  | i :: ins, none :: fins, os, c, h => by simp only [finsOk] at h; simp only [keepNames, keepS]; exact keepNames_len fr d ins fins _ c h
  | i :: ins, some s :: fins, os, c, h => by
    simp only [finsOk, Bool.and_eq_true] at h
    simp only [keepNames, keepS, cnts, List.length_append]
    rw [fillN_len, tops_len, keepNames_len fr d ins fins _ _ h.2]
end Go.Av
