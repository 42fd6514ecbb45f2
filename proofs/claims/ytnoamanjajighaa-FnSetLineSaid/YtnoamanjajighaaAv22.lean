/- Shapes: what a value with memory of its own stands for, without names; out of an abstract memory, and into one. -/
import Derived.Test.YtnoamanjajighaaAv8
set_option linter.unusedVariables false
set_option linter.unusedSimpArgs false
namespace Go.Av
open Go Go.RowKit

def RIo (i : HI) (v : Value) : Prop := (i.virt = true ∧ v = .slice none 0 0) ∨ (i.virt = false ∧ v = .slice (some ⟨i.blk, 0, none⟩) i.len i.cap)
mutual
/-- The value stands for the data, and these are the blocks that are its own, in the shape's order. -/
def RS (pi : Nat → HI) (Fz : Nat → Prop) (w : World) : (s : Sh) → ShD s → Value → List HI → Prop
  | .k κ, x, v, os => os = [] ∧ RV ι0 Fz w (.pv κ x) v
  | .tr, x, v, os => os = [] ∧ RV ι0 Fz w (.pv .any x) v
  | .row e κ, xs, v, os => ∃ i : HI, os = [i] ∧ RIo i v ∧ RB (fun _ => i) Fz w 0 (.arr e κ xs) ∧ (i.virt = true → i.blk = 0 ∧ i.cap = 0)
  | .krow k e κ, xs, v, os => ∃ i : HI, os = [i] ∧ i = pi k ∧ RIo i v ∧ RB (fun _ => i) Fz w 0 (.arr e κ xs) ∧ (i.virt = true → i.blk = 0 ∧ i.cap = 0)
  | .parw k κ, _, v, os => os = [] ∧ RIo (pi k) v
  | .sub e κ, d, v, os => ∃ i : HI, os = [i] ∧ (d.2.1 + d.2.2 ≤ i.len ∧ ((d.2.2 = 0 ∧ ∃ a c, v = .slice a 0 c ∧ (d.2.1 = 0 → i.virt = false → a = some ⟨i.blk, 0, none⟩ ∧ c = i.cap)) ∨ (i.virt = false ∧ ∃ c, v = .slice (some ⟨i.blk, d.2.1 * κ.size, none⟩) d.2.2 c ∧ d.2.2 ≤ c ∧ d.2.1 + c = i.cap))) ∧ RB (fun _ => i) Fz w 0 (.arr e κ d.1) ∧ (i.virt = true → i.blk = 0 ∧ i.cap = 0)
  | .box cs, d, v, os => ∃ (i : HI) (r : List HI) (vs : List Value) (T : TypeId), os = i :: r ∧ i.virt = false ∧ i.len = 0 ∧ i.cap = 0 ∧ v = .pointer (some ⟨i.blk, 0, none⟩) ∧
      (∃ rest : List Value, w.heap[i.blk]? = some (.cells (vs ++ rest).toArray T (0, 0))) ∧ (∀ u ∈ vs, u.oneCell' = true) ∧ RSs pi Fz w cs d vs r
  | .bsl cs, d, v, os => ∃ (i : HI) (r : List HI) (vs : List Value) (T : TypeId), os = i :: r ∧ i.virt = false ∧ i.len = 0 ∧ i.cap = 0 ∧ v = .slice (some ⟨i.blk, 0, none⟩) cs.length cs.length ∧
      (∃ rest : List Value, w.heap[i.blk]? = some (.cells (vs ++ rest).toArray T (0, 0))) ∧ (∀ u ∈ vs, u.oneCell' = true) ∧ RSs pi Fz w cs d vs r
  | .agg cs, d, v, os => ∃ vs : List Value, v = .agg vs.toArray ∧ (∀ u ∈ vs, u.oneCell' = true) ∧ RSs pi Fz w cs d vs os
  | .ifc t s, d, v, os => ∃ u, v = .iface t u ∧ RS pi Fz w s d u os
  | .fn f cs, d, v, os => ∃ vs : List Value, v = .func (.func f) #[] vs.toArray ∧ RSs pi Fz w cs d vs os
  | .lref κ, x, v, os => os = [] ∧ RV ι0 Fz w (.eref κ x) v
  | .nilp, _, v, os => os = [] ∧ v = .pointer none
  | .nili, _, v, os => os = [] ∧ v = .nilIface
  | .nilf, _, v, os => os = [] ∧ v = .nilFunc
  | .nan, _, v, os => os = [] ∧ ∃ n, v = .float .f64 n ∧ NanB n
  | .ep g, _, v, os => os = [] ∧ RV ι0 Fz w (.ep g) v
  | .snil, _, v, os => os = [] ∧ v = .slice none 0 0
  | .par i, _, v, os => os = [] ∧ (pi i).virt = false ∧ v = .pointer (some ⟨(pi i).blk, 0, none⟩)
def RSs (pi : Nat → HI) (Fz : Nat → Prop) (w : World) : (ss : List Sh) → ShDs ss → List Value → List HI → Prop
  | [], _, vs, os => vs = [] ∧ os = []
  | s :: r, d, vs, os => ∃ v q o1 o2, vs = v :: q ∧ os = o1 ++ o2 ∧ RS pi Fz w s d.1 v o1 ∧ RSs pi Fz w r d.2 q o2
end
mutual
theorem RS_cnt {pi : Nat → HI} {Fz : Nat → Prop} {w : World} : ∀ (s : Sh) (x : ShD s) (v : Value) (os : List HI), RS pi Fz w s x v os → os.length = s.cnt
  | .k κ, x, v, os, h => by simp only [RS] at h; rw [h.1]; rfl
  | .tr, x, v, os, h => by simp only [RS] at h; rw [h.1]; rfl
  | .row e κ, xs, v, os, h => by simp only [RS] at h; obtain ⟨i, rfl, _⟩ := h; rfl
  | .sub e κ, xs, v, os, h => by simp only [RS] at h; obtain ⟨i, rfl, _⟩ := h; rfl
  | .krow _ e κ, xs, v, os, h => by simp only [RS] at h; obtain ⟨i, rfl, _⟩ := h; rfl
  | .parw _ _, _, v, os, h => by simp only [RS] at h; rw [h.1]; rfl
  | .box cs, d, v, os, h => by
    simp only [RS] at h
    obtain ⟨i, r, vs, T, rfl, _, _, _, _, _, _, h⟩ := h
    simp only [Sh.cnt, List.length_cons]; rw [RSs_cnt cs d vs r h]
  | .bsl cs, d, v, os, h => by
    simp only [RS] at h
    obtain ⟨i, r, vs, T, rfl, _, _, _, _, _, _, h⟩ := h
    simp only [Sh.cnt, List.length_cons]; rw [RSs_cnt cs d vs r h]
  | .agg cs, d, v, os, h => by simp only [RS] at h; obtain ⟨vs, _, _, h⟩ := h; simp only [Sh.cnt]; exact RSs_cnt cs d vs os h
  | .ifc t s, d, v, os, h => by simp only [RS] at h; obtain ⟨u, _, h⟩ := h; simp only [Sh.cnt]; exact RS_cnt s d u os h
  | .fn f cs, d, v, os, h => by simp only [RS] at h; obtain ⟨vs, _, h⟩ := h; simp only [Sh.cnt]; exact RSs_cnt cs d vs os h
  | .lref κ, x, v, os, h => by simp only [RS] at h; rw [h.1]; rfl
  | .nilp, _, v, os, h => by simp only [RS] at h; rw [h.1]; rfl
  | .nili, _, v, os, h => by simp only [RS] at h; rw [h.1]; rfl
  | .nilf, _, v, os, h => by simp only [RS] at h; rw [h.1]; rfl
  | .nan, _, v, os, h => by simp only [RS] at h; rw [h.1]; rfl
  | .ep _, _, v, os, h => by simp only [RS] at h; rw [h.1]; rfl
  | .snil, _, v, os, h => by simp only [RS] at h; rw [h.1]; rfl
  | .par i, _, v, os, h => by simp only [RS] at h; rw [h.1]; rfl
theorem RSs_cnt {pi : Nat → HI} {Fz : Nat → Prop} {w : World} : ∀ (ss : List Sh) (x : ShDs ss) (vs : List Value) (os : List HI), RSs pi Fz w ss x vs os → os.length = cnts ss
  | [], _, vs, os, h => by simp only [RSs] at h; rw [h.2]; rfl
  | s :: r, d, vs, os, h => by
    simp only [RSs] at h
    obtain ⟨v, q, o1, o2, rfl, rfl, h1, h2⟩ := h
    simp only [cnts, List.length_append]; rw [RS_cnt s _ _ _ h1, RSs_cnt r _ _ _ h2]
end
def hiOf (ι : Nat → HI) : Option Nat → HI
  | some h => ι h
  | none => ⟨0, 0, 0, true⟩
theorem someN_append : ∀ (a b : List (Option Nat)), someN (a ++ b) = someN a ++ someN b
  | [], b => rfl
  | some n :: a, b => by simp only [List.cons_append, someN]; rw [someN_append a b]
  | none :: a, b => by simp only [List.cons_append, someN]; rw [someN_append a b]
theorem mentL_append : ∀ (a b : List AV) (h : Nat), mentL h (a ++ b) = (mentL h a || mentL h b)
  | [], b, h => by simp [mentL]
  | v :: a, b, h => by simp only [List.cons_append, mentL, mentL_append a b h, Bool.or_assoc]

section
variable {ι : Nat → HI} {Fz Fz' : Nat → Prop} {w : World} {H : List (Nat × AB)}
theorem RB_at {Fz : Nat → Prop} {h k : Nat} {e : TypeId} {κ : Kd} {xs : List (Den κ)} {i : HI} (hi : ι h = i) : RB ι Fz w h (.arr e κ xs) ↔ RB (fun _ => i) Fz w k (.arr e κ xs) := by
  simp only [RB, hi]
/-- A row's content hangs on its own elements alone. -/
theorem RB_cast {h : Nat} {e : TypeId} {κ κ' : Kd} {xs : List (Den κ')} {ys : List (Den κ)} (hc : castD (.list κ') (.list κ) xs = some ys) (hr : RB ι Fz w h (.arr e κ' xs)) : RB ι Fz w h (.arr e κ ys) := by
  unfold castD at hc
  split at hc
  · rename_i e1
    simp only [Kd.list.injEq] at e1
    subst e1
    simp only [Option.some.injEq] at hc
    subst hc
    exact hr
  · cases hc
theorem matchShs_len {H : List (Nat × AB)} : ∀ (ss : List Sh) (vs : List AV) (p : ShDs ss × List (Option Nat) × List AV), matchShs H ss vs = some p → ss.length = vs.length
  | [], [], _, _ => rfl
  | [], _ :: _, _, h => by simp [matchShs] at h
  | _ :: _, [], _, h => by simp [matchShs] at h
  | s :: r, v :: vs, p, h => by
    simp only [matchShs, Option.bind_eq_some_iff] at h
    obtain ⟨_, _, q, h2, _⟩ := h
    simp only [List.length_cons]
    rw [matchShs_len r vs q h2]
theorem tr_ment1 {d k : Nat} {v : AV} (h : v.ment k = true) : mentL k (boxL H (d + 1) [v]) = true := by
  simp only [boxL]
  exact mentL_left (by simp [mentL, h])
theorem tr_ment2 {d k g : Nat} {v : AV} (hv : ∃ o, v = .ref g o ∨ ∃ t, v = .iface t (.ref g o)) (h : mentL k (.ref g 0 :: (match getH H g with | .box cs => boxL H d cs | _ => [])) = true) : mentL k (boxL H (d + 1) [v]) = true := by
  simp only [mentL, Bool.or_eq_true] at h
  simp only [boxL]
  rcases h with h | h
  · refine mentL_left (mentL_mem (a := v) (by simp) ?_)
    obtain ⟨o, rfl | ⟨t, rfl⟩⟩ := hv <;> simpa [AV.ment] using h
  · refine mentL_right (mentL_flat (a := v) (by simp) ?_)
    obtain ⟨o, rfl | ⟨t, rfl⟩⟩ := hv
    · exact h
    · exact h
theorem boxC_live {d g : Nat} {c : Ce} (h : boxC H d g = some c) : (getH H g).live := by
  cases d with
  | zero => simp [boxC] at h
  | succ d =>
    simp only [boxC] at h
    split at h
    · rename_i hq; rw [hq]; trivial
    · cases h
mutual
/-- OUT of an abstract memory. -/
theorem matchSh_of (hrb : ∀ h, RB ι Fz w h (getH H h)) (hcn : ∀ h, Cn (ι h) (getH H h)) (hf : ∀ b, Fz b → Fz' b) :
    ∀ (s : Sh) (v : AV) (x : ShD s) (os : List (Option Nat)) (ls : List AV) (u : Value), matchSh H s v = some (x, os, ls) → RV ι Fz w v u →
    (∀ h, mentL h ls = true → (getH H h).live → (ι h).virt = false → Fz' (ι h).blk) →
    RS (fun i => ι (1000000 + i)) Fz' w s x u (os.map (hiOf ι)) ∧ ∀ h ∈ someN os, (getH H h).live
  | .k κ, v, x, os, ls, u, h, hr, hl => by
    simp only [matchSh, Option.bind_eq_some_iff, Option.some.injEq, Prod.mk.injEq] at h
    obtain ⟨y, h1, rfl, rfl, rfl⟩ := h
    simp only [RS, List.map_nil]
    exact ⟨⟨trivial, argD_of hrb hf h1 hr fun h hm ha => hl h (by simp [mentL, hm]) (isArr_live ha)⟩, fun h hh => by simp [someN] at hh⟩
  | .tr, v, x, os, ls, u, h, hr, hl => by
    simp only [matchSh, Option.bind_eq_some_iff, Option.some.injEq, Prod.mk.injEq] at h
    obtain ⟨c, h1, rfl, rfl, rfl⟩ := h
    simp only [RS, List.map_nil]
    refine ⟨⟨trivial, ?_⟩, fun h hh => by simp [someN] at hh⟩
    rw [RV_any]
    exact cev_of hrb hf (boxC H 9) v c u h1 hr (fun k hk ha => hl k (tr_ment1 hk) (isArr_live ha))
      (fun k c' hk hbc hkv => boxC_of hrb hf 9 k c' hbc hkv (boxC_live hbc) fun q hq => hl q (tr_ment2 hk hq))
  | .krow i e κ, v, x, os, ls, u, h, hr, hl => by
    simp only [matchSh] at h
    split at h
    · rename_i κ0 g
      split at h
      · rename_i e' κ' xs hg
        cases he : (Nat.beq g (1000000 + i) && Nat.beq e e') with
        | false => rw [he] at h; cases h
        | true =>
          rw [he, cond_true] at h
          simp only [Bool.and_eq_true] at he
          have e0 := Nat.eq_of_beq_eq_true he.1
          have e1 := Nat.eq_of_beq_eq_true he.2
          subst e1
          simp only [Option.bind_eq_some_iff, Option.some.injEq, Prod.mk.injEq] at h
          obtain ⟨ys, h1, rfl, rfl, rfl⟩ := h
          simp only [RV] at hr
          have hb := hrb g
          have hc := hcn g
          rw [hg] at hb hc
          simp only [RS, List.map_cons, List.map_nil, hiOf]
          refine ⟨⟨ι g, rfl, by rw [e0], hr, ?_, hc⟩, fun h hh => ?_⟩
          · refine (RB_at (ι := ι) (h := g) rfl).1 (RB_cast h1 ?_)
            exact RB_mono (ι := ι) (fun _ _ => rfl) hf (fun _ _ => rfl) hb
          · simp only [someN, List.mem_singleton] at hh
            subst hh; rw [hg]; trivial
      · cases h
    · cases h
  | .parw i κ, v, x, os, ls, u, h, hr, hl => by
    simp only [matchSh] at h
    split at h
    · rename_i κ0 g
      cases he : (Nat.beq g (1000000 + i) && decide (κ0 = κ)) with
      | false => rw [he] at h; cases h
      | true =>
        rw [he, cond_true] at h
        simp only [Bool.and_eq_true] at he
        have e0 := Nat.eq_of_beq_eq_true he.1
        simp only [Option.some.injEq, Prod.mk.injEq] at h
        obtain ⟨_, rfl, rfl⟩ := h
        simp only [RV] at hr
        simp only [RS, List.map_nil]
        exact ⟨⟨trivial, by rw [← e0]; exact hr⟩, fun h hh => by simp [someN] at hh⟩
    · cases h
  | .sub e κ, v, x, os, ls, u, h, hr, hl => by
    simp only [matchSh] at h
    split at h
    · rename_i κ0 g off len
      split at h
      · rename_i e' κ' xs hg
        cases he : (Nat.beq e e' && decide (κ0 = κ)) with
        | false => rw [he] at h; cases h
        | true =>
          rw [he, cond_true] at h
          simp only [Bool.and_eq_true, decide_eq_true_eq] at he
          obtain ⟨he, rfl⟩ := he
          have e1 := Nat.eq_of_beq_eq_true he
          subst e1
          simp only [Option.bind_eq_some_iff, Option.some.injEq, Prod.mk.injEq] at h
          obtain ⟨ys, h1, rfl, rfl, rfl⟩ := h
          simp only [RV] at hr
          have hb := hrb g
          have hc := hcn g
          rw [hg] at hb hc
          simp only [RS, List.map_cons, List.map_nil, hiOf]
          refine ⟨⟨ι g, rfl, hr, ?_, hc⟩, fun h hh => ?_⟩
          · refine (RB_at (ι := ι) (h := g) rfl).1 (RB_cast h1 ?_)
            exact RB_mono (ι := ι) (fun _ _ => rfl) hf (fun _ _ => rfl) hb
          · simp only [someN, List.mem_singleton] at hh
            subst hh; rw [hg]; trivial
      · cases h
    · cases h
  | .row e κ, v, x, os, ls, u, h, hr, hl => by
    simp only [matchSh] at h
    split at h
    · rename_i κ0 g
      split at h
      · rename_i e' κ' xs hg
        cases he : Nat.beq e e' with
        | false => rw [he] at h; cases h
        | true =>
          rw [he, cond_true] at h
          have e1 := Nat.eq_of_beq_eq_true he
          subst e1
          simp only [Option.bind_eq_some_iff, Option.some.injEq, Prod.mk.injEq] at h
          obtain ⟨ys, h1, rfl, rfl, rfl⟩ := h
          simp only [RV] at hr
          have hb := hrb g
          have hc := hcn g
          rw [hg] at hb hc
          simp only [RS, List.map_cons, List.map_nil, hiOf]
          refine ⟨⟨ι g, rfl, hr, ?_, hc⟩, fun h hh => ?_⟩
          · refine (RB_at (ι := ι) (h := g) rfl).1 (RB_cast h1 ?_)
            exact RB_mono (ι := ι) (fun _ _ => rfl) hf (fun _ _ => rfl) hb
          · simp only [someN, List.mem_singleton] at hh
            subst hh; rw [hg]; trivial
      · cases h
    · simp only [Option.some.injEq, Prod.mk.injEq] at h
      obtain ⟨rfl, rfl, rfl⟩ := h
      simp only [RV] at hr
      simp only [RS, List.map_cons, List.map_nil, hiOf]
      exact ⟨⟨_, rfl, .inl ⟨rfl, hr⟩, by simp [RB], fun _ => ⟨rfl, rfl⟩⟩, fun h hh => by simp [someN] at hh⟩
    · cases h
  | .box cs, v, x, os, ls, u, h, hr, hl => by
    simp only [matchSh] at h
    split at h
    · rename_i g off
      split at h
      · rename_i avs hg
        cases ho : Nat.beq off 0 with
        | false => rw [ho] at h; cases h
        | true =>
          rw [ho, cond_true] at h
          have e1 := Nat.eq_of_beq_eq_true ho
          subst e1
          simp only [Option.bind_eq_some_iff, Option.some.injEq, Prod.mk.injEq] at h
          obtain ⟨⟨d, o1, l1⟩, h1, rfl, rfl, rfl⟩ := h
          simp only [RV] at hr
          have hb := hrb g
          have hc := hcn g
          rw [hg] at hb hc
          simp only [RB] at hb
          obtain ⟨hv, vs, T, hh, hcs, hone⟩ := hb
          obtain ⟨q1, q2⟩ := matchShs_of hrb hcn hf cs avs d o1 l1 vs h1 hcs hl
          simp only [RS, List.map_cons, hiOf]
          refine ⟨⟨ι g, _, vs, T, rfl, hv, hc.1, hc.2, hr.2, hh, hone, q1⟩, fun h hh => ?_⟩
          simp only [someN, List.mem_cons] at hh
          rcases hh with rfl | hh
          · rw [hg]; trivial
          · exact q2 h hh
      · cases h
    · cases h
  | .bsl cs, v, x, os, ls, u, h, hr, hl => by
    simp only [matchSh] at h
    split at h
    · rename_i g n
      split at h
      · rename_i avs hg
        cases ho : Nat.beq n avs.length with
        | false => rw [ho] at h; cases h
        | true =>
          rw [ho, cond_true] at h
          have e1 := Nat.eq_of_beq_eq_true ho
          subst e1
          simp only [Option.bind_eq_some_iff, Option.some.injEq, Prod.mk.injEq] at h
          obtain ⟨⟨d, o1, l1⟩, h1, rfl, rfl, rfl⟩ := h
          simp only [RV] at hr
          have hb := hrb g
          have hc := hcn g
          rw [hg] at hb hc
          simp only [RB] at hb
          obtain ⟨hv, vs, T, hh, hcs, hone⟩ := hb
          have hlen := matchShs_len cs avs _ h1
          obtain ⟨q1, q2⟩ := matchShs_of hrb hcn hf cs avs d o1 l1 vs h1 hcs hl
          simp only [RS, List.map_cons, hiOf]
          refine ⟨⟨ι g, _, vs, T, rfl, hv, hc.1, hc.2, by rw [hlen]; exact hr.2, hh, hone, q1⟩, fun h hh => ?_⟩
          simp only [someN, List.mem_cons] at hh
          rcases hh with rfl | hh
          · rw [hg]; trivial
          · exact q2 h hh
      · cases h
    · cases h
  | .agg cs, v, x, os, ls, u, h, hr, hl => by
    simp only [matchSh] at h
    split at h
    · simp only [RV] at hr
      obtain ⟨vs, e, h1, h2⟩ := hr
      obtain ⟨q1, q2⟩ := matchShs_of hrb hcn hf cs _ x os ls vs h h2 hl
      simp only [RS]
      exact ⟨⟨vs, e, h1, q1⟩, q2⟩
    · cases h
  | .ifc t s, v, x, os, ls, u, h, hr, hl => by
    simp only [matchSh] at h
    split at h
    · rename_i t' y
      cases ht : Nat.beq t t' with
      | false => rw [ht] at h; cases h
      | true =>
        rw [ht, cond_true] at h
        have e1 := Nat.eq_of_beq_eq_true ht
        subst e1
        simp only [RV] at hr
        obtain ⟨z, e, h2⟩ := hr
        obtain ⟨q1, q2⟩ := matchSh_of hrb hcn hf s _ x os ls z h h2 hl
        simp only [RS]
        exact ⟨⟨z, e, q1⟩, q2⟩
    · cases h
  | .fn f cs, v, x, os, ls, u, h, hr, hl => by
    simp only [matchSh] at h
    split at h
    · rename_i g caps
      cases ht : Nat.beq f g with
      | false => rw [ht] at h; cases h
      | true =>
        rw [ht, cond_true] at h
        have e1 := Nat.eq_of_beq_eq_true ht
        subst e1
        simp only [RV] at hr
        obtain ⟨vs, e, h2⟩ := hr
        obtain ⟨q1, q2⟩ := matchShs_of hrb hcn hf cs _ x os ls vs h h2 hl
        simp only [RS]
        exact ⟨⟨vs, e, q1⟩, q2⟩
    · cases h
  | .lref κ, v, x, os, ls, u, h, hr, hl => by
    simp only [matchSh] at h
    split at h
    · simp only [Option.bind_eq_some_iff, Option.some.injEq, Prod.mk.injEq] at h
      obtain ⟨y, h1, rfl, rfl, rfl⟩ := h
      simp only [RS, List.map_nil]
      refine ⟨⟨trivial, ?_⟩, fun h hh => by simp [someN] at hh⟩
      simp only [RV] at hr ⊢
      obtain ⟨b, off, es, e, hb, h2, h3⟩ := hr
      exact ⟨b, off, es, e, hf _ hb, RP_mono (fun _ _ => rfl) hf _ _ _ (castD_of h1 h2), h3⟩
    · rename_i g off
      split at h
      · rename_i avs hg
        cases ho : Nat.beq off 0 with
        | false => rw [ho] at h; cases h
        | true =>
          rw [ho, cond_true] at h
          have e1 := Nat.eq_of_beq_eq_true ho
          subst e1
          obtain ⟨⟨y, rest⟩, h1, h2⟩ := Option.bind_eq_some_iff.1 h
          cases rest with
          | cons c0 r0 => simp at h2
          | nil =>
            simp only [Option.some.injEq, Prod.mk.injEq] at h2
            obtain ⟨rfl, rfl, rfl⟩ := h2
            simp only [RV] at hr
            have hb := hrb g
            rw [hg] at hb
            simp only [RB] at hb
            obtain ⟨hv, vs, T, ⟨rest', hh⟩, hcs, hone⟩ := hb
            obtain ⟨v1, v2, e2, h3, h4, _⟩ := cellsD_of hrb hf κ avs _ _ vs h1 hcs (fun h hm ha => hl h (by simp [mentL, hm]) (isArr_live ha))
            simp only [RVs] at h4
            subst h4
            rw [List.append_nil] at e2
            subst e2
            simp only [RS, List.map_nil]
            refine ⟨⟨trivial, ?_⟩, fun h hh => by simp [someN] at hh⟩
            simp only [RV]
            refine ⟨_, _, _, hr.2, hl g (by simp [mentL, AV.ment]) (by rw [hg]; trivial) hv, h3, fun j u hj => ?_⟩
            have hjl := (List.getElem?_eq_some_iff.1 hj).1
            simp only [World.cell?, hh]
            simpa [List.getElem?_append_left hjl] using hj
      · cases h
    · cases h
  | .nilp, v, x, os, ls, u, h, hr, hl => by
    simp only [matchSh] at h
    split at h
    · simp only [Option.some.injEq, Prod.mk.injEq] at h
      obtain ⟨_, rfl, rfl⟩ := h
      simp only [RV] at hr
      simp only [RS, List.map_nil]
      exact ⟨⟨trivial, hr⟩, fun h hh => by simp [someN] at hh⟩
    · cases h
  | .nili, v, x, os, ls, u, h, hr, hl => by
    simp only [matchSh] at h
    split at h
    · simp only [Option.some.injEq, Prod.mk.injEq] at h
      obtain ⟨_, rfl, rfl⟩ := h
      simp only [RV] at hr
      simp only [RS, List.map_nil]
      exact ⟨⟨trivial, hr⟩, fun h hh => by simp [someN] at hh⟩
    · cases h
  | .nilf, v, x, os, ls, u, h, hr, hl => by
    simp only [matchSh] at h
    split at h
    · simp only [Option.some.injEq, Prod.mk.injEq] at h
      obtain ⟨_, rfl, rfl⟩ := h
      simp only [RV] at hr
      simp only [RS, List.map_nil]
      exact ⟨⟨trivial, hr⟩, fun h hh => by simp [someN] at hh⟩
    · cases h
  | .nan, v, x, os, ls, u, h, hr, hl => by
    simp only [matchSh] at h
    split at h
    · simp only [Option.some.injEq, Prod.mk.injEq] at h
      obtain ⟨_, rfl, rfl⟩ := h
      simp only [RV] at hr
      simp only [RS, List.map_nil]
      exact ⟨⟨trivial, hr⟩, fun h hh => by simp [someN] at hh⟩
    · cases h
  | .ep g, v, x, os, ls, u, h, hr, hl => by
    simp only [matchSh] at h
    split at h
    · rename_i g'
      cases hb : Nat.beq g g' with
      | false => rw [hb] at h; cases h
      | true =>
        rw [hb, cond_true] at h
        have e := Nat.eq_of_beq_eq_true hb
        subst e
        simp only [Option.some.injEq, Prod.mk.injEq] at h
        obtain ⟨_, rfl, rfl⟩ := h
        simp only [RV] at hr
        simp only [RS, List.map_nil, RV]
        obtain ⟨ta, aa, q1, q2, q3⟩ := hr
        exact ⟨⟨trivial, ta, aa, q1, hf _ q2, q3⟩, fun h hh => by simp [someN] at hh⟩
    · cases h
  | .snil, v, x, os, ls, u, h, hr, hl => by
    simp only [matchSh] at h
    split at h
    · simp only [Option.some.injEq, Prod.mk.injEq] at h
      obtain ⟨_, rfl, rfl⟩ := h
      simp only [RV] at hr
      simp only [RS, List.map_nil]
      exact ⟨⟨trivial, hr⟩, fun h hh => by simp [someN] at hh⟩
    · cases h
  | .par i, v, x, os, ls, u, h, hr, hl => by
    simp only [matchSh] at h
    split at h
    · rename_i g off
      cases ho : (Nat.beq g (1000000 + i) && Nat.beq off 0) with
      | false => rw [ho] at h; cases h
      | true =>
        rw [ho, cond_true] at h
        simp only [Option.some.injEq, Prod.mk.injEq] at h
        obtain ⟨_, rfl, rfl⟩ := h
        simp only [Bool.and_eq_true] at ho
        have e1 := Nat.eq_of_beq_eq_true ho.1
        have e2 := Nat.eq_of_beq_eq_true ho.2
        subst e1 e2
        simp only [RV] at hr
        simp only [RS, List.map_nil]
        exact ⟨⟨trivial, hr.1, hr.2⟩, fun h hh => by simp [someN] at hh⟩
    · cases h
theorem matchShs_of (hrb : ∀ h, RB ι Fz w h (getH H h)) (hcn : ∀ h, Cn (ι h) (getH H h)) (hf : ∀ b, Fz b → Fz' b) :
    ∀ (ss : List Sh) (vs : List AV) (x : ShDs ss) (os : List (Option Nat)) (ls : List AV) (us : List Value), matchShs H ss vs = some (x, os, ls) → RVs ι Fz w vs us →
    (∀ h, mentL h ls = true → (getH H h).live → (ι h).virt = false → Fz' (ι h).blk) →
    RSs (fun i => ι (1000000 + i)) Fz' w ss x us (os.map (hiOf ι)) ∧ ∀ h ∈ someN os, (getH H h).live
  | [], [], x, os, ls, us, h, hr, hl => by
    simp only [matchShs, Option.some.injEq, Prod.mk.injEq] at h
    obtain ⟨_, rfl, rfl⟩ := h
    simp only [RVs] at hr
    simp only [RSs, List.map_nil]
    exact ⟨⟨hr, trivial⟩, fun h hh => by simp [someN] at hh⟩
  | s :: r, v :: vs, x, os, ls, us, h, hr, hl => by
    simp only [matchShs, Option.bind_eq_some_iff, Option.some.injEq, Prod.mk.injEq] at h
    obtain ⟨⟨x1, o1, l1⟩, h1, ⟨x2, o2, l2⟩, h2, rfl, rfl, rfl⟩ := h
    simp only [RVs] at hr
    obtain ⟨u, q, rfl, r1, r2⟩ := hr
    obtain ⟨a1, a2⟩ := matchSh_of hrb hcn hf s v x1 o1 l1 u h1 r1 (fun h hm => hl h (by rw [mentL_append, hm]; rfl))
    obtain ⟨b1, b2⟩ := matchShs_of hrb hcn hf r vs x2 o2 l2 q h2 r2 (fun h hm => hl h (by rw [mentL_append, hm, Bool.or_true]))
    simp only [RSs, List.map_append]
    refine ⟨⟨u, q, _, _, rfl, rfl, a1, b1⟩, fun h hh => ?_⟩
    rw [someN_append] at hh
    rcases List.mem_append.1 hh with hh | hh
    · exact a2 h hh
    · exact b2 h hh
  | [], _ :: _, _, _, _, _, h, _, _ => by simp [matchShs] at h
  | _ :: _, [], _, _, _, _, h, _, _ => by simp [matchShs] at h
end

/-- The names stand for the blocks. -/
def Named (ι : Nat → HI) (ns : List Nat) (os : List HI) : Prop := ∀ (j : Nat) i, os[j]? = some i → ∃ n, ns[j]? = some n ∧ ι n = i
theorem Named.left {ns : List Nat} {o1 o2 : List HI} (h : Named ι ns (o1 ++ o2)) : Named ι ns o1 := fun j i hj =>
  h j i (by rw [List.getElem?_append_left (List.getElem?_eq_some_iff.1 hj).1]; exact hj)
theorem Named.right {ns : List Nat} {o1 o2 : List HI} (h : Named ι ns (o1 ++ o2)) : Named ι (ns.drop o1.length) o2 := fun j i hj => by
  have := h (o1.length + j) i (by rw [List.getElem?_append_right (by omega)]; simpa using hj)
  simpa [List.getElem?_drop] using this
theorem Named.head {ns : List Nat} {i : HI} {r : List HI} (h : Named ι ns (i :: r)) : ∃ n q, ns = n :: q ∧ ι n = i ∧ Named ι q r := by
  obtain ⟨n, h1, h2⟩ := h 0 i rfl
  cases ns with
  | nil => simp at h1
  | cons m q =>
    simp only [List.getElem?_cons_zero, Option.some.injEq] at h1
    subst h1
    exact ⟨m, q, rfl, h2, fun j i hj => by simpa using h (j + 1) i (by simpa using hj)⟩
/-- What is rendered lies as it should. -/
def Laid (ι : Nat → HI) (Fz : Nat → Prop) (w : World) (l : List (Nat × AB)) : Prop := ∀ e ∈ l, RB ι Fz w e.1 e.2 ∧ Cn (ι e.1) e.2 ∧ e.2.live
theorem Laid.append {l m : List (Nat × AB)} (h : Laid ι Fz w l) (h' : Laid ι Fz w m) : Laid ι Fz w (l ++ m) := fun e he => by
  rcases List.mem_append.1 he with he | he
  · exact h e he
  · exact h' e he
theorem eref_iota {ι' : Nat → HI} {κ : Kd} {x : Den κ} {v : Value} (h : RV ι Fz w (.eref κ x) v) : RV ι' Fz w (.eref κ x) v := by simp only [RV] at h ⊢; exact h
mutual
/-- INTO an abstract memory. -/
theorem renderSh_of {pi : Nat → HI} {pn : Nat → Nat} :
    ∀ (s : Sh) (hpi : (∀ i ∈ s.pars, (pi i).virt = false → ι (pn i) = pi i) ∧ (∀ i ∈ s.wpars, ι (pn i) = pi i)) (x : ShD s) (u : Value) (os : List HI) (ns : List Nat), RS pi Fz w s x u os → Named ι ns os →
    RV ι Fz w (renderSh pn s x ns).1 u ∧ Laid ι Fz w (renderSh pn s x ns).2.1 ∧ (renderSh pn s x ns).2.2 = ns.drop os.length ∧ (renderSh pn s x ns).2.1.map Prod.fst = ns.take os.length
  | .k κ, hpi, x, u, os, ns, h, hn => by
    simp only [RS] at h
    obtain ⟨rfl, h⟩ := h
    simp only [renderSh]
    exact ⟨pv_iota h, fun e he => by simp at he, by simp, by simp⟩
  | .tr, hpi, x, u, os, ns, h, hn => by
    simp only [RS] at h
    obtain ⟨rfl, h⟩ := h
    simp only [renderSh]
    exact ⟨pv_iota h, fun e he => by simp at he, by simp, by simp⟩
  | .krow k e κ, hpi, xs, u, os, ns, h, hn => by
    simp only [RS] at h
    obtain ⟨i, rfl, _, h1, h2, h3⟩ := h
    obtain ⟨n, q, rfl, h4, _⟩ := hn.head
    simp only [renderSh, hdN, tlN]
    refine ⟨by simp only [RV, h4]; exact h1, fun e he => ?_, by simp, by simp⟩
    simp only [List.mem_singleton] at he
    subst he
    exact ⟨(RB_at h4).2 h2, by simp only [Cn, h4]; exact h3, trivial⟩
  | .parw k κ, hpi, xs, u, os, ns, h, hn => by
    simp only [RS] at h
    obtain ⟨rfl, h1⟩ := h
    simp only [renderSh]
    refine ⟨by simp only [RV, hpi.2 k (by simp [Sh.wpars])]; exact h1, fun e he => by simp at he, by simp, by simp⟩
  | .sub e κ, hpi, xs, u, os, ns, h, hn => by
    simp only [RS] at h
    obtain ⟨i, rfl, h1, h2, h3⟩ := h
    obtain ⟨n, q, rfl, h4, _⟩ := hn.head
    simp only [renderSh, hdN, tlN]
    refine ⟨by simp only [RV, h4]; exact h1, fun e he => ?_, by simp, by simp⟩
    simp only [List.mem_singleton] at he
    subst he
    exact ⟨(RB_at h4).2 h2, by simp only [Cn, h4]; exact h3, trivial⟩
  | .row e κ, hpi, xs, u, os, ns, h, hn => by
    simp only [RS] at h
    obtain ⟨i, rfl, h1, h2, h3⟩ := h
    obtain ⟨n, q, rfl, h4, _⟩ := hn.head
    simp only [renderSh, hdN, tlN]
    refine ⟨by simp only [RV, h4]; exact h1, fun e he => ?_, by simp, by simp⟩
    simp only [List.mem_singleton] at he
    subst he
    exact ⟨(RB_at h4).2 h2, by simp only [Cn, h4]; exact h3, trivial⟩
  | .box cs, hpi, d, u, os, ns, h, hn => by
    simp only [RS] at h
    obtain ⟨i, r, vs, T, rfl, hv, h1, h2, rfl, hh, hone, h3⟩ := h
    obtain ⟨n, q, rfl, h4, hn'⟩ := hn.head
    obtain ⟨a1, a2, a3, a4⟩ := renderShs_of cs (by simpa [Sh.pars, Sh.wpars] using hpi) d vs r q h3 hn'
    simp only [renderSh, hdN, tlN]
    refine ⟨by simp only [RV, h4]; exact ⟨hv, trivial⟩, fun e he => ?_, by simpa using a3, by simpa using a4⟩
    rcases List.mem_cons.1 he with rfl | he
    · refine ⟨?_, by simp only [Cn, h4]; exact ⟨h1, h2⟩, trivial⟩
      simp only [RB, h4]
      exact ⟨hv, vs, T, hh, a1, hone⟩
    · exact a2 e he
  | .bsl cs, hpi, d, u, os, ns, h, hn => by
    simp only [RS] at h
    obtain ⟨i, r, vs, T, rfl, hv, h1, h2, rfl, hh, hone, h3⟩ := h
    obtain ⟨n, q, rfl, h4, hn'⟩ := hn.head
    obtain ⟨a1, a2, a3, a4⟩ := renderShs_of cs (by simpa [Sh.pars, Sh.wpars] using hpi) d vs r q h3 hn'
    simp only [renderSh, hdN, tlN]
    refine ⟨by simp only [RV, h4]; exact ⟨hv, trivial⟩, fun e he => ?_, by simpa using a3, by simpa using a4⟩
    rcases List.mem_cons.1 he with rfl | he
    · refine ⟨?_, by simp only [Cn, h4]; exact ⟨h1, h2⟩, trivial⟩
      simp only [RB, h4]
      exact ⟨hv, vs, T, hh, a1, hone⟩
    · exact a2 e he
  | .agg cs, hpi, d, u, os, ns, h, hn => by
    simp only [RS] at h
    obtain ⟨vs, rfl, hone, h3⟩ := h
    obtain ⟨a1, a2, a3, a4⟩ := renderShs_of cs (by simpa [Sh.pars, Sh.wpars] using hpi) d vs os ns h3 hn
    simp only [renderSh]
    exact ⟨by simp only [RV]; exact ⟨vs, rfl, hone, a1⟩, a2, a3, a4⟩
  | .ifc t s, hpi, d, u, os, ns, h, hn => by
    simp only [RS] at h
    obtain ⟨z, rfl, h3⟩ := h
    obtain ⟨a1, a2, a3, a4⟩ := renderSh_of s (by simpa [Sh.pars, Sh.wpars] using hpi) d z os ns h3 hn
    simp only [renderSh]
    exact ⟨by simp only [RV]; exact ⟨z, rfl, a1⟩, a2, a3, a4⟩
  | .fn f cs, hpi, d, u, os, ns, h, hn => by
    simp only [RS] at h
    obtain ⟨vs, rfl, h3⟩ := h
    obtain ⟨a1, a2, a3, a4⟩ := renderShs_of cs (by simpa [Sh.pars, Sh.wpars] using hpi) d vs os ns h3 hn
    simp only [renderSh]
    exact ⟨by simp only [RV]; exact ⟨vs, rfl, a1⟩, a2, a3, a4⟩
  | .lref κ, hpi, x, u, os, ns, h, hn => by
    simp only [RS] at h
    obtain ⟨rfl, h⟩ := h
    simp only [renderSh]
    exact ⟨eref_iota h, fun e he => by simp at he, by simp, by simp⟩
  | .nilp, hpi, _, u, os, ns, h, hn => by
    simp only [RS] at h
    obtain ⟨rfl, rfl⟩ := h
    simp only [renderSh]
    exact ⟨by simp only [RV], fun e he => by simp at he, by simp, by simp⟩
  | .nili, hpi, _, u, os, ns, h, hn => by
    simp only [RS] at h
    obtain ⟨rfl, rfl⟩ := h
    simp only [renderSh]
    exact ⟨by simp only [RV], fun e he => by simp at he, by simp, by simp⟩
  | .nilf, hpi, _, u, os, ns, h, hn => by
    simp only [RS] at h
    obtain ⟨rfl, rfl⟩ := h
    simp only [renderSh]
    exact ⟨by simp only [RV], fun e he => by simp at he, by simp, by simp⟩
  | .snil, hpi, _, u, os, ns, h, hn => by
    simp only [RS] at h
    obtain ⟨rfl, rfl⟩ := h
    simp only [renderSh]
    exact ⟨by simp only [RV], fun e he => by simp at he, by simp, by simp⟩
  | .nan, hpi, _, u, os, ns, h, hn => by
    simp only [RS] at h
    obtain ⟨rfl, h⟩ := h
    simp only [renderSh]
    exact ⟨by simp only [RV]; exact h, fun e he => by simp at he, by simp, by simp⟩
  | .ep g, hpi, _, u, os, ns, h, hn => by
    simp only [RS] at h
    obtain ⟨rfl, h⟩ := h
    simp only [renderSh]
    exact ⟨by simp only [RV] at h ⊢; exact h, fun e he => by simp at he, by simp, by simp⟩
  | .par i, hpi, _, u, os, ns, h, hn => by
    simp only [RS] at h
    obtain ⟨rfl, hv, rfl⟩ := h
    simp only [renderSh]
    exact ⟨by simp only [RV, hpi.1 i (by simp [Sh.pars]) hv]; exact ⟨hv, trivial⟩, fun e he => by simp at he, by simp, by simp⟩
theorem renderShs_of {pi : Nat → HI} {pn : Nat → Nat} :
    ∀ (ss : List Sh) (hpi : (∀ i ∈ parsL ss, (pi i).virt = false → ι (pn i) = pi i) ∧ (∀ i ∈ wparsL ss, ι (pn i) = pi i)) (x : ShDs ss) (us : List Value) (os : List HI) (ns : List Nat), RSs pi Fz w ss x us os → Named ι ns os →
    RVs ι Fz w (renderShs pn ss x ns).1 us ∧ Laid ι Fz w (renderShs pn ss x ns).2.1 ∧ (renderShs pn ss x ns).2.2 = ns.drop os.length ∧ (renderShs pn ss x ns).2.1.map Prod.fst = ns.take os.length
  | [], hpi, _, us, os, ns, h, hn => by
    simp only [RSs] at h
    obtain ⟨rfl, rfl⟩ := h
    simp only [renderShs]
    exact ⟨by simp [RVs], fun e he => by simp at he, by simp, by simp⟩
  | s :: r, hpi, d, us, os, ns, h, hn => by
    simp only [RSs] at h
    obtain ⟨v, q, o1, o2, rfl, rfl, h1, h2⟩ := h
    obtain ⟨a1, a2, a3, a4⟩ := renderSh_of s ⟨fun i hi => hpi.1 i (by simp [parsL, hi]), fun i hi => hpi.2 i (by simp [wparsL, hi])⟩ d.1 v o1 ns h1 hn.left
    have hn2 := hn.right
    rw [← a3] at hn2
    obtain ⟨b1, b2, b3, b4⟩ := renderShs_of r ⟨fun i hi => hpi.1 i (by simp [parsL, hi]), fun i hi => hpi.2 i (by simp [wparsL, hi])⟩ d.2 q o2 _ h2 hn2
    simp only [renderShs]
    refine ⟨by simp only [RVs]; exact ⟨v, q, rfl, a1, b1⟩, a2.append b2, by rw [b3, a3, List.drop_drop, List.length_append], ?_⟩
    rw [List.map_append, a4, b4, a3, List.length_append, List.take_add]
end
end
/-- What a list of entries says of a name. -/
theorem getH_entries : ∀ (l H : List (Nat × AB)) (h : Nat), (∃ b, (h, b) ∈ l ∧ getH (l ++ H) h = b) ∨ (h ∉ l.map Prod.fst ∧ getH (l ++ H) h = getH H h)
  | [], H, h => .inr ⟨by simp, rfl⟩
  | (n, b) :: l, H, h => by
    rw [List.cons_append, getH_cons]
    by_cases e : n = h
    · subst e; rw [if_pos rfl]; exact .inl ⟨b, by simp, rfl⟩
    · rw [if_neg e]
      rcases getH_entries l H h with ⟨b', h1, h2⟩ | ⟨h1, h2⟩
      · exact .inl ⟨b', by simp [h1], h2⟩
      · exact .inr ⟨by simp only [List.map_cons, List.mem_cons, not_or]; exact ⟨Ne.symm e, h1⟩, h2⟩

/-! ### what a value names itself is told by the value -/
def topH : List Bool → List HI → List HI
  | true :: t, o :: os => o :: topH t os
  | false :: t, _ :: os => topH t os
  | _, _ => []
theorem topH_append : ∀ (a : List Bool) (x : List HI) (b : List Bool) (y : List HI), a.length = x.length → topH (a ++ b) (x ++ y) = topH a x ++ topH b y
  | [], [], b, y, _ => by simp [topH]
  | true :: a, o :: x, b, y, h => by simp only [List.cons_append, topH]; rw [topH_append a x b y (by simpa using h)]
  | false :: a, o :: x, b, y, h => by simp only [List.cons_append, topH]; exact topH_append a x b y (by simpa using h)
  | [], _ :: _, _, _, h => by simp at h
  | _ :: _, [], _, _, h => by simp at h
theorem topH_none : ∀ (n : Nat) (x : List HI), topH (List.replicate n false) x = []
  | 0, x => by simp [topH]
  | n + 1, [] => by simp [List.replicate, topH]
  | n + 1, o :: x => by simp only [List.replicate, topH]; exact topH_none n x
mutual
theorem tops_len : ∀ (s : Sh), s.tops.length = s.cnt
  | .k _ => rfl
  | .tr => rfl
  | .row _ _ => rfl
  | .sub _ _ => rfl
  | .krow _ _ _ => rfl
  | .parw _ _ => rfl
  | .box cs => by simp [Sh.tops, Sh.cnt]
  | .bsl cs => by simp [Sh.tops, Sh.cnt]
  | .agg cs => by simp only [Sh.tops, Sh.cnt]; exact topsL_len cs
  | .ifc _ s => by simp only [Sh.tops, Sh.cnt]; exact tops_len s
  | .fn _ cs => by simp only [Sh.tops, Sh.cnt]; exact topsL_len cs
  | .lref _ => rfl
  | .nilp => rfl
  | .nili => rfl
  | .nilf => rfl
  | .nan => rfl
  | .ep _ => rfl
  | .snil => rfl
  | .par _ => rfl
theorem topsL_len : ∀ (l : List Sh), (topsL l).length = cnts l
  | [] => rfl
  | s :: r => by simp only [topsL, cnts, List.length_append]; rw [tops_len s, topsL_len r]
end
section
variable {pi pi' : Nat → HI} {Fz Fz' : Nat → Prop} {w w' : World}
theorem virt_row {i : HI} {e : TypeId} {κ : Kd} {xs : List (Den κ)} (hv : i.virt = true) (h2 : RB (fun _ => i) Fz w 0 (.arr e κ xs)) (h3 : i.virt = true → i.blk = 0 ∧ i.cap = 0) : i = ⟨0, 0, 0, true⟩ := by
  simp only [RB] at h2
  obtain ⟨hl, h2⟩ := h2
  rcases h2 with ⟨_, rfl⟩ | ⟨h, _⟩
  · obtain ⟨a, b⟩ := h3 hv
    cases i
    simp_all
  · rw [hv] at h; cases h
mutual
theorem tops_eq : ∀ (s s' : Sh) (x : ShD s) (x' : ShD s') (v : Value) (os os' : List HI), s.sim s' = true → RS pi Fz w s x v os → RS pi' Fz' w' s' x' v os' → topH s.tops os = topH s'.tops os'
  | .k _, .k _, x, x', v, os, os', _, h, h' => by simp only [RS] at h h'; rw [h.1, h'.1]; rfl
  | .row _ _, .row _ _, x, x', v, os, os', _, h, h' => by
    simp only [RS] at h h'
    obtain ⟨i, rfl, h1, h2, h3⟩ := h
    obtain ⟨j, rfl, g1, g2, g3⟩ := h'
    simp only [Sh.tops, topH, List.cons.injEq, and_true]
    rcases h1 with ⟨hv, rfl⟩ | ⟨hv, rfl⟩
    · rcases g1 with ⟨gv, _⟩ | ⟨gv, e⟩
      · rw [virt_row hv h2 h3, virt_row gv g2 g3]
      · cases e
    · rcases g1 with ⟨gv, e⟩ | ⟨gv, e⟩
      · cases e
      · cases i; cases j
        simp_all
  | .box cs, .box ds, x, x', v, os, os', _, h, h' => by
    simp only [RS] at h h'
    obtain ⟨i, r, vs, T, rfl, h1, h2, h3, h4, _⟩ := h
    obtain ⟨j, q, us, U, rfl, g1, g2, g3, g4, _⟩ := h'
    simp only [Sh.tops, topH, topH_none, List.cons.injEq, and_true]
    rw [h4] at g4
    cases i; cases j
    simp_all
  | .bsl cs, .bsl ds, x, x', v, os, os', _, h, h' => by
    simp only [RS] at h h'
    obtain ⟨i, r, vs, T, rfl, h1, h2, h3, h4, _⟩ := h
    obtain ⟨j, q, us, U, rfl, g1, g2, g3, g4, _⟩ := h'
    simp only [Sh.tops, topH, topH_none, List.cons.injEq, and_true]
    rw [h4] at g4
    cases i; cases j
    simp_all
  | .agg cs, .agg ds, x, x', v, os, os', hs, h, h' => by
    simp only [RS] at h h'
    obtain ⟨vs, rfl, _, h⟩ := h
    obtain ⟨us, e, _, h'⟩ := h'
    have : vs = us := by simpa using e
    subst this
    exact topsL_eq cs ds x x' vs os os' (by simpa [Sh.sim] using hs) h h'
  | .ifc _ s, .ifc _ t, x, x', v, os, os', hs, h, h' => by
    simp only [RS] at h h'
    obtain ⟨u, rfl, h⟩ := h
    obtain ⟨u', e, h'⟩ := h'
    simp only [Value.iface.injEq] at e
    obtain ⟨_, rfl⟩ := e
    exact tops_eq s t x x' u os os' (by simpa [Sh.sim] using hs) h h'
  | .fn _ cs, .fn _ ds, x, x', v, os, os', hs, h, h' => by
    simp only [RS] at h h'
    obtain ⟨vs, rfl, h⟩ := h
    obtain ⟨us, e, h'⟩ := h'
    have : vs = us := by simp at e; exact e.2
    subst this
    exact topsL_eq cs ds x x' vs os os' (by simpa [Sh.sim] using hs) h h'
  | .lref _, .lref _, x, x', v, os, os', _, h, h' => by simp only [RS] at h h'; rw [h.1, h'.1]; rfl
  | .nilp, .nilp, x, x', v, os, os', _, h, h' => by simp only [RS] at h h'; rw [h.1, h'.1]
  | .nili, .nili, x, x', v, os, os', _, h, h' => by simp only [RS] at h h'; rw [h.1, h'.1]
  | .nilf, .nilf, x, x', v, os, os', _, h, h' => by simp only [RS] at h h'; rw [h.1, h'.1]
  | .nan, .nan, x, x', v, os, os', _, h, h' => by simp only [RS] at h h'; rw [h.1, h'.1]
  | .ep _, .ep _, x, x', v, os, os', _, h, h' => by simp only [RS] at h h'; rw [h.1, h'.1]; rfl
  | .snil, .snil, x, x', v, os, os', _, h, h' => by simp only [RS] at h h'; rw [h.1, h'.1]
  | .k _, .row _ _, _, _, _, _, _, hs, _, _ | .k _, .box _, _, _, _, _, _, hs, _, _ | .k _, .agg _, _, _, _, _, _, hs, _, _ | .k _, .ifc _ _, _, _, _, _, _, hs, _, _ | .k _, .fn _ _, _, _, _, _, _, hs, _, _
  | .k _, .lref _, _, _, _, _, _, hs, _, _ | .k _, .nilp, _, _, _, _, _, hs, _, _ | .k _, .nili, _, _, _, _, _, hs, _, _ | .k _, .nilf, _, _, _, _, _, hs, _, _ | .k _, .nan, _, _, _, _, _, hs, _, _ | .k _, .ep _, _, _, _, _, _, hs, _, _ | .k _, .bsl _, _, _, _, _, _, hs, _, _ | .k _, .snil, _, _, _, _, _, hs, _, _ | .k _, .par _, _, _, _, _, _, hs, _, _ | .k _, .tr, _, _, _, _, _, hs, _, _ | .k _, .sub _ _, _, _, _, _, _, hs, _, _ | .k _, .krow _ _ _, _, _, _, _, _, hs, _, _ | .k _, .parw _ _, _, _, _, _, _, hs, _, _ => by simp [Sh.sim] at hs
  | .row _ _, .k _, _, _, _, _, _, hs, _, _ | .row _ _, .box _, _, _, _, _, _, hs, _, _ | .row _ _, .agg _, _, _, _, _, _, hs, _, _ | .row _ _, .ifc _ _, _, _, _, _, _, hs, _, _ | .row _ _, .fn _ _, _, _, _, _, _, hs, _, _
  | .row _ _, .lref _, _, _, _, _, _, hs, _, _ | .row _ _, .nilp, _, _, _, _, _, hs, _, _ | .row _ _, .nili, _, _, _, _, _, hs, _, _ | .row _ _, .nilf, _, _, _, _, _, hs, _, _ | .row _ _, .nan, _, _, _, _, _, hs, _, _ | .row _ _, .ep _, _, _, _, _, _, hs, _, _ | .row _ _, .bsl _, _, _, _, _, _, hs, _, _ | .row _ _, .snil, _, _, _, _, _, hs, _, _ | .row _ _, .par _, _, _, _, _, _, hs, _, _ | .row _ _, .tr, _, _, _, _, _, hs, _, _ | .row _ _, .sub _ _, _, _, _, _, _, hs, _, _ | .row _ _, .krow _ _ _, _, _, _, _, _, hs, _, _ | .row _ _, .parw _ _, _, _, _, _, _, hs, _, _ => by simp [Sh.sim] at hs
  | .box _, .k _, _, _, _, _, _, hs, _, _ | .box _, .row _ _, _, _, _, _, _, hs, _, _ | .box _, .agg _, _, _, _, _, _, hs, _, _ | .box _, .ifc _ _, _, _, _, _, _, hs, _, _ | .box _, .fn _ _, _, _, _, _, _, hs, _, _
  | .box _, .lref _, _, _, _, _, _, hs, _, _ | .box _, .nilp, _, _, _, _, _, hs, _, _ | .box _, .nili, _, _, _, _, _, hs, _, _ | .box _, .nilf, _, _, _, _, _, hs, _, _ | .box _, .nan, _, _, _, _, _, hs, _, _ | .box _, .ep _, _, _, _, _, _, hs, _, _ | .box _, .bsl _, _, _, _, _, _, hs, _, _ | .box _, .snil, _, _, _, _, _, hs, _, _ | .box _, .par _, _, _, _, _, _, hs, _, _ | .box _, .tr, _, _, _, _, _, hs, _, _ | .box _, .sub _ _, _, _, _, _, _, hs, _, _ | .box _, .krow _ _ _, _, _, _, _, _, hs, _, _ | .box _, .parw _ _, _, _, _, _, _, hs, _, _ => by simp [Sh.sim] at hs
  | .agg _, .k _, _, _, _, _, _, hs, _, _ | .agg _, .row _ _, _, _, _, _, _, hs, _, _ | .agg _, .box _, _, _, _, _, _, hs, _, _ | .agg _, .ifc _ _, _, _, _, _, _, hs, _, _ | .agg _, .fn _ _, _, _, _, _, _, hs, _, _
  | .agg _, .lref _, _, _, _, _, _, hs, _, _ | .agg _, .nilp, _, _, _, _, _, hs, _, _ | .agg _, .nili, _, _, _, _, _, hs, _, _ | .agg _, .nilf, _, _, _, _, _, hs, _, _ | .agg _, .nan, _, _, _, _, _, hs, _, _ | .agg _, .ep _, _, _, _, _, _, hs, _, _ | .agg _, .bsl _, _, _, _, _, _, hs, _, _ | .agg _, .snil, _, _, _, _, _, hs, _, _ | .agg _, .par _, _, _, _, _, _, hs, _, _ | .agg _, .tr, _, _, _, _, _, hs, _, _ | .agg _, .sub _ _, _, _, _, _, _, hs, _, _ | .agg _, .krow _ _ _, _, _, _, _, _, hs, _, _ | .agg _, .parw _ _, _, _, _, _, _, hs, _, _ => by simp [Sh.sim] at hs
  | .ifc _ _, .k _, _, _, _, _, _, hs, _, _ | .ifc _ _, .row _ _, _, _, _, _, _, hs, _, _ | .ifc _ _, .box _, _, _, _, _, _, hs, _, _ | .ifc _ _, .agg _, _, _, _, _, _, hs, _, _ | .ifc _ _, .fn _ _, _, _, _, _, _, hs, _, _
  | .ifc _ _, .lref _, _, _, _, _, _, hs, _, _ | .ifc _ _, .nilp, _, _, _, _, _, hs, _, _ | .ifc _ _, .nili, _, _, _, _, _, hs, _, _ | .ifc _ _, .nilf, _, _, _, _, _, hs, _, _ | .ifc _ _, .nan, _, _, _, _, _, hs, _, _ | .ifc _ _, .ep _, _, _, _, _, _, hs, _, _ | .ifc _ _, .bsl _, _, _, _, _, _, hs, _, _ | .ifc _ _, .snil, _, _, _, _, _, hs, _, _ | .ifc _ _, .par _, _, _, _, _, _, hs, _, _ | .ifc _ _, .tr, _, _, _, _, _, hs, _, _ | .ifc _ _, .sub _ _, _, _, _, _, _, hs, _, _ | .ifc _ _, .krow _ _ _, _, _, _, _, _, hs, _, _ | .ifc _ _, .parw _ _, _, _, _, _, _, hs, _, _ => by simp [Sh.sim] at hs
  | .fn _ _, .k _, _, _, _, _, _, hs, _, _ | .fn _ _, .row _ _, _, _, _, _, _, hs, _, _ | .fn _ _, .box _, _, _, _, _, _, hs, _, _ | .fn _ _, .agg _, _, _, _, _, _, hs, _, _ | .fn _ _, .ifc _ _, _, _, _, _, _, hs, _, _
  | .fn _ _, .lref _, _, _, _, _, _, hs, _, _ | .fn _ _, .nilp, _, _, _, _, _, hs, _, _ | .fn _ _, .nili, _, _, _, _, _, hs, _, _ | .fn _ _, .nilf, _, _, _, _, _, hs, _, _ | .fn _ _, .nan, _, _, _, _, _, hs, _, _ | .fn _ _, .ep _, _, _, _, _, _, hs, _, _ | .fn _ _, .bsl _, _, _, _, _, _, hs, _, _ | .fn _ _, .snil, _, _, _, _, _, hs, _, _ | .fn _ _, .par _, _, _, _, _, _, hs, _, _ | .fn _ _, .tr, _, _, _, _, _, hs, _, _ | .fn _ _, .sub _ _, _, _, _, _, _, hs, _, _ | .fn _ _, .krow _ _ _, _, _, _, _, _, hs, _, _ | .fn _ _, .parw _ _, _, _, _, _, _, hs, _, _ => by simp [Sh.sim] at hs
  | .lref _, .k _, _, _, _, _, _, hs, _, _ | .lref _, .row _ _, _, _, _, _, _, hs, _, _ | .lref _, .box _, _, _, _, _, _, hs, _, _ | .lref _, .agg _, _, _, _, _, _, hs, _, _ | .lref _, .ifc _ _, _, _, _, _, _, hs, _, _
  | .lref _, .fn _ _, _, _, _, _, _, hs, _, _ | .lref _, .nilp, _, _, _, _, _, hs, _, _ | .lref _, .nili, _, _, _, _, _, hs, _, _ | .lref _, .nilf, _, _, _, _, _, hs, _, _ | .lref _, .nan, _, _, _, _, _, hs, _, _ | .lref _, .ep _, _, _, _, _, _, hs, _, _ | .lref _, .bsl _, _, _, _, _, _, hs, _, _ | .lref _, .snil, _, _, _, _, _, hs, _, _ | .lref _, .par _, _, _, _, _, _, hs, _, _ | .lref _, .tr, _, _, _, _, _, hs, _, _ | .lref _, .sub _ _, _, _, _, _, _, hs, _, _ | .lref _, .krow _ _ _, _, _, _, _, _, hs, _, _ | .lref _, .parw _ _, _, _, _, _, _, hs, _, _ => by simp [Sh.sim] at hs
  | .nilp, s', _, _, _, _, _, hs, h, h' => by cases s' <;> first | (simp [Sh.sim] at hs; done) | (simp only [RS] at h h'; rw [h.1, h'.1])
  | .nili, s', _, _, _, _, _, hs, h, h' => by cases s' <;> first | (simp [Sh.sim] at hs; done) | (simp only [RS] at h h'; rw [h.1, h'.1])
  | .nilf, s', _, _, _, _, _, hs, h, h' => by cases s' <;> first | (simp [Sh.sim] at hs; done) | (simp only [RS] at h h'; rw [h.1, h'.1])
  | .nan, s', _, _, _, _, _, hs, h, h' => by cases s' <;> first | (simp [Sh.sim] at hs; done) | (simp only [RS] at h h'; rw [h.1, h'.1])
  | .ep _, s', _, _, _, _, _, hs, h, h' => by cases s' <;> first | (simp [Sh.sim] at hs; done) | (simp only [RS] at h h'; rw [h.1, h'.1]; rfl)
  | .snil, s', _, _, _, _, _, hs, h, h' => by cases s' <;> first | (simp [Sh.sim] at hs; done) | (simp only [RS] at h h'; rw [h.1, h'.1])
  | .bsl _, .k _, _, _, _, _, _, hs, _, _ | .bsl _, .row _ _, _, _, _, _, _, hs, _, _ | .bsl _, .box _, _, _, _, _, _, hs, _, _ | .bsl _, .agg _, _, _, _, _, _, hs, _, _ | .bsl _, .ifc _ _, _, _, _, _, _, hs, _, _ | .bsl _, .fn _ _, _, _, _, _, _, hs, _, _
  | .bsl _, .lref _, _, _, _, _, _, hs, _, _ | .bsl _, .nilp, _, _, _, _, _, hs, _, _ | .bsl _, .nili, _, _, _, _, _, hs, _, _ | .bsl _, .nilf, _, _, _, _, _, hs, _, _ | .bsl _, .nan, _, _, _, _, _, hs, _, _ | .bsl _, .ep _, _, _, _, _, _, hs, _, _ | .bsl _, .snil, _, _, _, _, _, hs, _, _ | .bsl _, .par _, _, _, _, _, _, hs, _, _ | .bsl _, .tr, _, _, _, _, _, hs, _, _ | .bsl _, .sub _ _, _, _, _, _, _, hs, _, _ | .bsl _, .krow _ _ _, _, _, _, _, _, hs, _, _ | .bsl _, .parw _ _, _, _, _, _, _, hs, _, _ => by simp [Sh.sim] at hs
  | .par _, s', _, _, _, _, _, hs, h, h' => by cases s' <;> simp [Sh.sim] at hs
  | .tr, s', _, _, _, _, _, hs, h, h' => by cases s' <;> simp [Sh.sim] at hs
  | .sub _ _, s', _, _, _, _, _, hs, h, h' => by cases s' <;> simp [Sh.sim] at hs
  | .krow _ _ _, s', _, _, _, _, _, hs, h, h' => by cases s' <;> simp [Sh.sim] at hs
  | .parw _ _, s', _, _, _, _, _, hs, h, h' => by cases s' <;> simp [Sh.sim] at hs
theorem topsL_eq : ∀ (ss ss' : List Sh) (x : ShDs ss) (x' : ShDs ss') (vs : List Value) (os os' : List HI), simL ss ss' = true → RSs pi Fz w ss x vs os → RSs pi' Fz' w' ss' x' vs os' → topH (topsL ss) os = topH (topsL ss') os'
  | [], [], x, x', vs, os, os', _, h, h' => by simp only [RSs] at h h'; rw [h.2, h'.2]
  | s :: r, t :: q, x, x', vs, os, os', hs, h, h' => by
    simp only [RSs] at h h'
    obtain ⟨v, us, o1, o2, rfl, rfl, h1, h2⟩ := h
    obtain ⟨v', us', p1, p2, e, rfl, g1, g2⟩ := h'
    simp only [List.cons.injEq] at e
    obtain ⟨rfl, rfl⟩ := e
    simp only [simL, Bool.and_eq_true] at hs
    simp only [topsL]
    rw [topH_append _ _ _ _ (by rw [tops_len, RS_cnt _ _ _ _ h1]), topH_append _ _ _ _ (by rw [tops_len, RS_cnt _ _ _ _ g1]), tops_eq s t _ _ _ _ _ hs.1 h1 g1, topsL_eq r q _ _ _ _ _ hs.2 h2 g2]
  | [], _ :: _, _, _, _, _, _, hs, _, _ => by simp [simL] at hs
  | _ :: _, [], _, _, _, _, _, hs, _, _ => by simp [simL] at hs
end
end
end Go.Av
