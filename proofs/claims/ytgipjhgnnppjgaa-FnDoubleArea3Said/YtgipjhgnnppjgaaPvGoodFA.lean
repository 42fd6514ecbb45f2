/- What 'gGood' tells of a geometry of the kind 6 (rows with lists of lists of ends). -/
import Derived.Test.YtgipjhgnnppjgaaFA
import Derived.Test.YtgipjhgnnppjgaaPv2
set_option linter.unusedVariables false
set_option linter.unusedSectionVars false
set_option linter.unusedSimpArgs false
namespace Go.Proofs.Ytgipjhgnnppjgaa.PvGoodFA
open Go.Av Go
open Go.Proofs.Ytgipjhgnnppjgaa.FA
def strd (l : Int) : Int := if l < 1 then 0 else if l = 1 then 2 else if l = 2 then 3 else if l = 3 then 3 else l
theorem stride_spec (N : Nat) (l : Int) : spec_Stride N l = some (strd l) := by
  simp only [spec_Stride, spec_Stride_g, strd, beq_iff_eq, decide_eq_true_eq, Bool.cond_eq_ite, apply_ite some]
/-- Ends that ascend by whole places. -/
def Chain (s : Int) : Int → List Int → Int → Prop
  | a, [], b => a = b
  | a, e :: r, b => a ≤ e ∧ s ∣ e - a ∧ Chain s e r b
theorem Chain.le {s : Int} : ∀ {l : List Int} {a b : Int}, Chain s a l b → a ≤ b
  | [], a, b, h => by simp only [Chain] at h; omega
  | e :: r, a, b, h => by simp only [Chain] at h; have := Chain.le h.2.2; omega
theorem Chain.snoc {s : Int} : ∀ {l : List Int} {a b e : Int}, Chain s a l b → b ≤ e → s ∣ e - b → Chain s a (l ++ [e]) e
  | [], a, b, e, h, h1, h2 => by
    simp only [Chain] at h; subst h
    exact ⟨h1, h2, rfl⟩
  | x :: r, a, b, e, h, h1, h2 => by
    simp only [Chain] at h
    exact ⟨h.1, h.2.1, Chain.snoc h.2.2 h1 h2⟩
def Chain2 (s : Int) : Int → List (List Int) → Int → Prop
  | a, [], b => a = b
  | a, l :: r, b => ∃ c, Chain s a l c ∧ Chain2 s c r b
theorem Chain2.snoc {s : Int} : ∀ {ls : List (List Int)} {a b c : Int} {l : List Int}, Chain2 s a ls b → Chain s b l c → Chain2 s a (ls ++ [l]) c
  | [], a, b, c, l, h, h1 => by
    simp only [Chain2] at h; subst h
    exact ⟨c, h1, rfl⟩
  | x :: r, a, b, c, l, h, h1 => by
    obtain ⟨d, h2, h3⟩ := h
    exact ⟨d, h2, Chain2.snoc h3 h1⟩
theorem take_snoc {α : Type} {xs : List α} {i : Nat} (h : i < xs.length) : xs.take (i + 1) = xs.take i ++ [xs[i]] := by
  rw [List.take_add_one, List.getElem?_eq_getElem h]; rfl
section
variable {N : Nat} (hN : 0 < N) (hNl : 9223372036854775808 ≤ N) {s : Int} (hs : 0 < s)
include hN hNl hs
theorem goodEnds (l : List Int) (hl : l.length ≤ 9223372036854775806) (hw : ∀ x ∈ l, x ≤ 9223372036854775807) (a : Int) (ha : 0 ≤ a) :
    ∃ b t, spec_goodEnds N l a s false = some (b, t) ∧ (t = true → Chain s a l b) ∧ 0 ≤ b := by
  unfold spec_goodEnds spec_goodEnds_g
  have := stateLoop0 (xs := l) (L := fun n i st => spec_goodEnds_l0 N n s false l st i) (e := fun o => ∃ b, o = some (b, false) ∧ 0 ≤ b) (fin := fun st => some (st, true))
    (fun i st => Chain s a (l.take i) st ∧ 0 ≤ st) (fun n st h => by
      simp only [spec_goodEnds_l0, spec_goodEnds_g0, Bool.cond_decide]
      rw [if_neg (by omega)]) (fun n i st h hp => by
      simp only [spec_goodEnds_l0, spec_goodEnds_g0, spec_goodEnds_j1, spec_goodEnds_j2, spec_goodEnds_g1, spec_goodEnds_g2, Bool.cond_decide, gate_pos hN]
      rw [if_pos (by omega), nth_get h]
      simp only [Option.bind_some, cond_false]
      have hx := hw _ (List.getElem_mem h)
      by_cases h1 : l[i] < st
      · rw [if_pos h1]; exact .inl ⟨st, rfl, hp.2⟩
      · rw [if_neg h1, if_neg (by omega), wrap_in (n := l[i] - st) (by omega), succ_in h (by omega)]
        cases h2 : (Int.tmod (l[i] - st) s != 0) with
        | true => exact .inl ⟨st, rfl, hp.2⟩
        | false =>
          refine .inr ⟨l[i], rfl, ?_, by omega⟩
          rw [take_snoc h]
          refine Chain.snoc hp.1 (by omega) ?_
          have h3 : Int.tmod (l[i] - st) s = 0 := by simpa using h2
          exact Int.dvd_of_tmod_eq_zero h3) N a (by omega) ⟨rfl, ha⟩
  rcases this with ⟨b, h, h0⟩ | ⟨b, h, hc⟩
  · exact ⟨b, false, h, (fun h => by cases h), h0⟩
  · rw [List.take_length] at hc
    exact ⟨b, true, h, fun _ => hc.1, hc.2⟩
theorem good6 {lay : Int} (hst : strd lay = s) (flat : List Nat) (endss : List (List Int)) (h1 : endss.length ≤ 9223372036854775806) (h2 : ∀ l ∈ endss, l.length ≤ 9223372036854775806 ∧ ∀ x ∈ l, x ≤ 9223372036854775807) :
    ∃ t, spec_Good N N (Geo.mk 6 lay 0 flat [] endss []) = some t ∧ (t = true → Chain2 s 0 endss flat.length) := by
  obtain ⟨d, hd⟩ : ∃ m, N = m + 1 := ⟨N - 1, by omega⟩
  rw [show spec_Good N N = spec_Good N (d + 1) by rw [← hd]]
  have k6 : (Geo.mk 6 lay 0 flat [] endss []).kind = 6 := rfl
  have kl : (Geo.mk 6 lay 0 flat [] endss []).layout = lay := rfl
  have kf : (Geo.mk 6 lay 0 flat [] endss []).flat = flat := rfl
  have ke : (Geo.mk 6 lay 0 flat [] endss []).endss = endss := rfl
  have kd : (Geo.mk 6 lay 0 flat [] endss []).ends = [] := rfl
  have kk : (Geo.mk 6 lay 0 flat [] endss []).kids = [] := rfl
  have b1 : ((6 : Int) == 7) = false := rfl
  have b2 : ((6 : Int) != 6) = false := rfl
  have b3 : ((6 : Int) == 1) = false := rfl
  have b4 : ((6 : Int) == 2) = false := rfl
  have b5 : ((6 : Int) == 8) = false := rfl
  have b6 : ((6 : Int) == 3) = false := rfl
  have b7 : ((6 : Int) == 4) = false := rfl
  have b8 : ((6 : Int) == 5) = false := rfl
  have b9 : ((6 : Int) == 6) = true := rfl
  have loop := stateLoop0 (xs := endss) (L := fun n i st => spec_Good_l6 N (spec_Good N d) n s (Geo.mk 6 lay 0 flat [] endss []) st.1 st.2 i) (e := fun _ => False)
    (fin := fun st => bif st.2 then (bif (st.1 == (flat.length : Int)) then some true else some false) else some false)
    (fun i (st : Int × Bool) => (st.2 = true → Chain2 s 0 (endss.take i) st.1) ∧ 0 ≤ st.1) (fun n st h => by
      simp only [spec_Good_l6, spec_Good_g6, Bool.cond_decide, ke, kf, kd]
      rw [if_neg (by omega)]; rfl) (fun n i st h hp => by
      have hl := h2 _ (List.getElem_mem h)
      obtain ⟨b, t, g1, g2, g3⟩ := goodEnds hN hNl hs endss[i] hl.1 hl.2 st.1 hp.2
      simp only [spec_Good_l6, spec_Good_g6, spec_Good_j7, spec_Good_g7, Bool.cond_decide, ke, gate_pos hN]
      rw [if_pos (by omega), nth_get h, succ_in h (by omega)]
      simp only [Option.bind_some, g1]
      right
      obtain ⟨a, v⟩ := st
      cases v with
      | true =>
        refine ⟨(b, t), rfl, fun ht => ?_, g3⟩
        rw [take_snoc h]
        exact Chain2.snoc (hp.1 rfl) (g2 ht)
      | false => exact ⟨(b, false), rfl, (fun ht => by cases ht), g3⟩) N (0, true) (by omega) ⟨fun _ => rfl, by decide⟩
  rcases loop with h | ⟨st, h, hp, _⟩
  · exact h.elim
  · have h' : spec_Good_l6 N (spec_Good N d) N s (Geo.mk 6 lay 0 flat [] endss []) 0 true 0 = _ := h
    have key : ∃ t, spec_Good_j3 N (spec_Good N d) s (Geo.mk 6 lay 0 flat [] endss []) = some t ∧ (t = true → Chain2 s 0 endss flat.length) := by
      simp only [spec_Good_j3, spec_Good_g3, spec_Good_j4, spec_Good_g4, spec_Good_j5, spec_Good_g5, gate_pos hN, k6, b3, b4, b5, b6, b7, b8, b9, cond_false, cond_true, h']
      obtain ⟨a, v⟩ := st
      cases v with
      | false => exact ⟨false, rfl, fun h => by cases h⟩
      | true =>
        cases hq : (a == (flat.length : Int)) with
        | false => exact ⟨false, by simp only [cond_true, hq, cond_false], fun h => by cases h⟩
        | true =>
          refine ⟨true, by simp only [cond_true, hq], fun _ => ?_⟩
          have e : a = (flat.length : Int) := by simpa using hq
          have := hp rfl
          rw [List.take_length] at this
          rw [← e]; exact this
    obtain ⟨t, g1, g2⟩ := key
    simp only [spec_Good, spec_Good_g, stride_spec, kl, hst, Option.bind_some, k6, b1, b2, cond_false, kf, ke, kk, spec_Good_j2, spec_Good_g2, gate_pos hN, Bool.cond_decide, g1]
    have z : (s == 0) = false := by rw [beq_eq_false_iff_ne]; omega
    rw [z, cond_false, if_neg (by omega)]
    cases (Int.tmod (flat.length : Int) s != 0) with
    | true => exact ⟨false, rfl, fun h => by cases h⟩
    | false =>
      simp only [cond_false]
      rw [if_neg (by show ¬ ((([] : List Geo).length : Int) > 0); simp)]
      split <;> exact ⟨t, rfl, g2⟩
theorem weight6 {lay : Int} (flat : List Nat) (endss : List (List Int)) (hf : flat.length ≤ 2147483647) (h1 : endss.length ≤ 2147483647) (h2 : ∀ l ∈ endss, l.length ≤ 2147483647) :
    ∃ v, spec_Weight N N (Geo.mk 6 lay 0 flat [] endss []) 2000 = some v ∧ (flat.length : Int) + 1 ≤ v ∧ v ≤ 9223372036854775000 ∧ ∀ l ∈ endss, (l.length : Int) + 1 ≤ v := by
  obtain ⟨d, hd⟩ : ∃ m, N = m + 1 := ⟨N - 1, by omega⟩
  rw [show spec_Weight N N = spec_Weight N (d + 1) by rw [← hd]]
  have kf : (Geo.mk 6 lay 0 flat [] endss []).flat = flat := rfl
  have ke : (Geo.mk 6 lay 0 flat [] endss []).endss = endss := rfl
  have kd : (Geo.mk 6 lay 0 flat [] endss []).ends = [] := rfl
  have kk : (Geo.mk 6 lay 0 flat [] endss []).kids = [] := rfl
  have loop := stateLoop0 (xs := endss) (L := fun n i (st : Int) => spec_Weight_l0 N (spec_Weight N d) n 2000 (Geo.mk 6 lay 0 flat [] endss []) st i) (e := fun _ => False)
    (fin := fun st => some st) (fun i (st : Int) => (flat.length : Int) + 1 ≤ st ∧ st ≤ 2147483648 + (i : Int) * 2147483648 ∧ ∀ l ∈ endss.take i, (l.length : Int) + 1 ≤ st) (fun n st h => by
      simp only [spec_Weight_l0, spec_Weight_g0, Bool.cond_decide, ke]
      rw [if_neg (by omega), show spec_Weight_l1 N (spec_Weight N d) N = spec_Weight_l1 N (spec_Weight N d) (d + 1) by rw [← hd]]
      simp only [spec_Weight_l1, spec_Weight_g1, kk, Bool.cond_decide]
      rw [if_neg (by simp)]) (fun n i st h hp => by
      have hl := h2 _ (List.getElem_mem h)
      simp only [spec_Weight_l0, spec_Weight_g0, Bool.cond_decide, ke]
      rw [if_pos (by omega), nth_get h, succ_in h (by omega)]
      simp only [Option.bind_some]
      rw [wrap_in (n := 1 + (endss[i].length : Int)) (by omega), wrap_in (n := st + (1 + (endss[i].length : Int))) (by omega)]
      refine .inr ⟨st + (1 + (endss[i].length : Int)), rfl, by omega, by omega, fun l hl' => ?_⟩
      rw [take_snoc h] at hl'
      rcases List.mem_append.1 hl' with hl' | hl'
      · have := hp.2.2 l hl'; omega
      · simp only [List.mem_singleton] at hl'
        subst hl'; omega) N ((flat.length : Int) + 1) (by omega) ⟨by omega, by omega, fun l hl => by simp at hl⟩
  rcases loop with h | ⟨v, h, h3, h4, h5⟩
  · exact h.elim
  · rw [List.take_length] at h5
    refine ⟨v, ?_, h3, by omega, h5⟩
    simp only [spec_Weight, spec_Weight_g, kf, kd]
    rw [wrap_in (n := 1 + (flat.length : Int)) (by omega), show ((([] : List Int).length : Nat) : Int) = 0 from rfl, wrap_in (n := 1 + (flat.length : Int) + 0) (by omega), show 1 + (flat.length : Int) + 0 = (flat.length : Int) + 1 by omega]
    exact h
/-- Good data of the kind 6. -/
theorem gGood6 {lay : Int} (hst : strd lay = s) (flat : List Nat) (endss : List (List Int)) (hf : flat.length ≤ 2147483647) (h1 : endss.length ≤ 2147483647) (h2 : ∀ l ∈ endss, l.length ≤ 2147483647 ∧ ∀ x ∈ l, x ≤ 9223372036854775807) :
    ∃ t, laws_gGood N [Geo.mk 6 lay 0 flat [] endss []] = some t ∧ (t = true → Chain2 s 0 endss flat.length ∧ flat.length ≤ 1999 ∧ ∀ l ∈ endss, l.length ≤ 1999) := by
  obtain ⟨v, w1, w2, w3, w4⟩ := weight6 (lay := lay) hN hNl hs flat endss hf h1 (fun l hl => (h2 l hl).1)
  obtain ⟨t, g1, g2⟩ := good6 hN hNl hs hst flat endss (by omega) (fun l hl => ⟨by have := (h2 l hl).1; omega, (h2 l hl).2⟩)
  obtain ⟨d, hd⟩ : ∃ m, N = m + 2 := ⟨N - 2, by omega⟩
  have lays : ∃ t, laws_gLayouts N N (Geo.mk 6 lay 0 flat [] endss []) 9 = some t := by
    rw [show laws_gLayouts N N = laws_gLayouts N (d + 1 + 1) by rw [← hd]]
    have u : laws_gLayouts N (d + 1 + 1) (Geo.mk 6 lay 0 flat [] endss []) 9 = laws_gLayouts_l0 N (laws_gLayouts N (d + 1)) N 9 (Geo.mk 6 lay 0 flat [] endss []) 0 := rfl
    rw [u]
    generalize laws_gLayouts N (d + 1) = self
    rw [show laws_gLayouts_l0 N self N = laws_gLayouts_l0 N self (d + 1 + 1) by rw [← hd]]
    simp only [laws_gLayouts_l0, laws_gLayouts_g0, Bool.cond_decide]
    rw [if_neg (by show ¬ ((0 : Int) < (([] : List Geo).length : Int)); simp)]
    repeat' split
    all_goals first | exact ⟨_, rfl⟩ | skip
    all_goals (cases ((Geo.mk 6 lay 0 flat [] endss []).kind == 7) <;> exact ⟨_, rfl⟩)
  obtain ⟨tl, hl⟩ := lays
  have small : ∃ t, laws_gSmall N [Geo.mk 6 lay 0 flat [] endss []] = some t ∧ (t = true → v ≤ 2000) := by
    simp only [laws_gSmall, laws_gSmall_g]
    rw [show laws_gSmall_l0 N N = laws_gSmall_l0 N (d + 1 + 1) by rw [← hd]]
    have n0 : nth [Geo.mk 6 lay 0 flat [] endss []] 0 = some (Geo.mk 6 lay 0 flat [] endss []) := rfl
    simp only [laws_gSmall_l0, laws_gSmall_g0, Bool.cond_decide, n0, Option.bind_some]
    rw [if_pos (by simp)]
    show ∃ t, ((spec_Weight N N (Geo.mk 6 lay 0 flat [] endss []) 2000).bind _ = some t) ∧ _
    rw [w1]
    simp only [Option.bind_some]
    rw [wrap_in (n := 2000 - v) (by omega)]
    by_cases hv : 2000 - v < 0
    · rw [if_pos hv]; exact ⟨false, rfl, fun h => by cases h⟩
    · rw [if_neg hv]
      show ∃ t, ((laws_gLayouts N N (Geo.mk 6 lay 0 flat [] endss []) 9).bind _ = some t) ∧ _
      rw [hl]
      simp only [Option.bind_some]
      cases tl with
      | false => exact ⟨false, rfl, fun h => by cases h⟩
      | true => exact ⟨true, rfl, fun _ => by omega⟩
  obtain ⟨ts, hs1, hs2⟩ := small
  simp only [laws_gGood, laws_gGood_g, hs1, Option.bind_some]
  cases ts with
  | false => exact ⟨false, rfl, fun h => by cases h⟩
  | true =>
    simp only [Bool.not_true, cond_false]
    rw [show laws_gGood_l0 N N = laws_gGood_l0 N (d + 1 + 1) by rw [← hd]]
    have n0 : nth [Geo.mk 6 lay 0 flat [] endss []] 0 = some (Geo.mk 6 lay 0 flat [] endss []) := rfl
    simp only [laws_gGood_l0, laws_gGood_g0, Bool.cond_decide, n0, Option.bind_some]
    rw [if_pos (by simp)]
    show ∃ t, ((spec_Good N N (Geo.mk 6 lay 0 flat [] endss [])).bind _ = some t) ∧ _
    rw [g1]
    simp only [Option.bind_some]
    cases t with
    | false => exact ⟨false, rfl, fun h => by cases h⟩
    | true =>
      have hv := hs2 rfl
      exact ⟨true, rfl, fun _ => ⟨g2 rfl, by omega, fun l hl => by have := w4 l hl; omega⟩⟩
end
end Go.Proofs.Ytgipjhgnnppjgaa.PvGoodFA
