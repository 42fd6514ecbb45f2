/- A place on a segment, told exactly and by the code (with the exact numbers). -/
import Derived.Test.YtjghcbmalcopoaaPO
import Derived.Test.YtjghcbmalcopoaaPv3
import Derived.Test.YtjghcbmalcopoaaFl7
import Derived.Test.YtjghcbmalcopoaaPv1
import Derived.Test.YtjghcbmalcopoaaFl12
import Derived.Test.YtjghcbmalcopoaaFl14
import Derived.KernelRfl
set_option linter.unusedVariables false
set_option linter.unusedSectionVars false
set_option linter.unusedSimpArgs false
namespace Go.Proofs.Ytjghcbmalcopoaa.PvWholePO
open Go.Av Go
open Go.Proofs.Ytjghcbmalcopoaa.PO
/-- t is l without zeros at its end. -/
def Tr (l t : List Int) : Prop := lv t = lv l ∧ (Lim l → Lim t) ∧ Nrm t ∧ t.length ≤ l.length
theorem Tr.snoc {r t : List Int} (h : Tr r t) : Tr (r ++ [0]) t := by
  obtain ⟨h1, h2, h3, h4⟩ := h
  refine ⟨by rw [lv_snoc, h1]; omega, fun hl => h2 hl.left, h3, by rw [List.length_append]; omega⟩
section
variable {N : Nat} (hN : 0 < N) (hNl : 9223372036854775808 ≤ N)
include hN hNl
theorem trim_loop : ∀ (n : Nat) (l : List Int), l.length + 1 ≤ n → l.length ≤ 4611686018427387904 → ∃ t, spec_trim_l0 N n l = some t ∧ Tr l t
  | 0, l, h, _ => by omega
  | n + 1, l, h, hm => by
    rcases snoc_cases l with rfl | ⟨r, x, rfl⟩
    · refine ⟨[], ?_, rfl, id, Nrm.nil, Nat.le_refl _⟩
      simp only [spec_trim_l0, spec_trim_g0, spec_trim_j1, spec_trim_g1, gate_pos hN]
      rfl
    · rw [List.length_append, List.length_singleton] at h hm
      have hlen : ((r ++ [x]).length : Int) = (r.length : Int) + 1 := by rw [List.length_append, List.length_singleton]; omega
      have hg : nth (r ++ [x]) (r.length : Int) = some x := by rw [nth_nat, List.getElem?_append_right (Nat.le_refl _), Nat.sub_self]; rfl
      simp only [spec_trim_l0, spec_trim_g0, spec_trim_j1, spec_trim_g1, gate_pos hN, Bool.cond_decide]
      rw [hlen, if_pos (by omega), show (r.length : Int) + 1 - 1 = r.length by omega, wrap_in (by omega), hg]
      simp only [Option.bind_some]
      by_cases hx : x = 0
      · subst hx
        obtain ⟨t, h1, h2⟩ := trim_loop n r (by omega) (by omega)
        refine ⟨t, ?_, h2.snoc⟩
        rw [chk2_int (by rw [List.length_append, List.length_singleton]; omega)]
        simp only [beq_self_eq_true, cond_true, Option.bind_some, Int.toNat_zero, List.drop_zero, Int.toNat_natCast, Nat.sub_zero]
        rw [List.take_left', h1]
        rfl
      · have hb : (x == 0) = false := by simpa using hx
        rw [hb]
        refine ⟨r ++ [x], rfl, rfl, id, ?_, Nat.le_refl _⟩
        intro r' x' e
        have := List.append_inj_right' e rfl
        simp only [List.cons.injEq, and_true] at this
        rw [← this]; exact hx
theorem trim_spec (l : List Int) (h : l.length ≤ 4611686018427387904) : ∃ t, spec_trim N l = some t ∧ Tr l t := trim_loop hN hNl N l (by omega) h
--B trim_b
theorem trimb_loop : ∀ (n : Nat) (l : List Int), l.length + 1 ≤ n → l.length ≤ 4611686018427387904 → ∃ t, spec_trim_b_l0 N n l = some (t, ()) ∧ Tr l t
  | 0, l, h, _ => by omega
  | n + 1, l, h, hm => by
    rcases snoc_cases l with rfl | ⟨r, x, rfl⟩
    · refine ⟨[], ?_, rfl, id, Nrm.nil, Nat.le_refl _⟩
      simp only [spec_trim_b_l0, spec_trim_b_g0, spec_trim_b_j1, spec_trim_b_g1, gate_pos hN]
      rfl
    · rw [List.length_append, List.length_singleton] at h hm
      have hlen : ((r ++ [x]).length : Int) = (r.length : Int) + 1 := by rw [List.length_append, List.length_singleton]; omega
      have hg : nth (r ++ [x]) (r.length : Int) = some x := by rw [nth_nat, List.getElem?_append_right (Nat.le_refl _), Nat.sub_self]; rfl
      simp only [spec_trim_b_l0, spec_trim_b_g0, spec_trim_b_j1, spec_trim_b_g1, gate_pos hN, Bool.cond_decide]
      rw [hlen, if_pos (by omega), show (r.length : Int) + 1 - 1 = r.length by omega, wrap_in (by omega), hg]
      simp only [Option.bind_some]
      by_cases hx : x = 0
      · subst hx
        obtain ⟨t, h1, h2⟩ := trimb_loop n r (by omega) (by omega)
        refine ⟨t, ?_, h2.snoc⟩
        rw [chk2_int (by rw [List.length_append, List.length_singleton]; omega)]
        simp only [beq_self_eq_true, cond_true, Option.bind_some, Int.toNat_zero, List.drop_zero, Int.toNat_natCast, Nat.sub_zero]
        rw [List.take_left', h1]
        rfl
      · have hb : (x == 0) = false := by simpa using hx
        rw [hb]
        refine ⟨r ++ [x], rfl, rfl, id, ?_, Nat.le_refl _⟩
        intro r' x' e
        have := List.append_inj_right' e rfl
        simp only [List.cons.injEq, and_true] at this
        rw [← this]; exact hx
theorem trimb_spec (l : List Int) (h : l.length ≤ 4611686018427387904) : ∃ t, spec_trim_b N l = some (t, ()) ∧ Tr l t := trimb_loop hN hNl N l (by omega) h
--E trim_b
theorem cmp_loop {a b : List Int} (ha : Lim a) (hb : Lim b) (hl : a.length = b.length) (hm : a.length ≤ 4611686018427387904) :
    ∀ (n k : Nat), k ≤ a.length → k + 1 ≤ n → a.drop k = b.drop k → spec_cmpLimbs_l0 N n a b ((k : Int) - 1) = some (cmpv (lv a) (lv b))
  | 0, k, _, h, _ => by omega
  | n + 1, 0, hk, h, e => by
    simp only [spec_cmpLimbs_l0, spec_cmpLimbs_g0, Bool.cond_decide]
    rw [if_neg (by omega)]
    rw [List.drop_zero, List.drop_zero] at e
    subst e
    simp [cmpv]
  | n + 1, k + 1, hk, h, e => by
    have ka : k < a.length := by omega
    have kb : k < b.length := by omega
    have hN' : nth a (((k + 1 : Nat) : Int) - 1) = some a[k] := by rw [show ((k + 1 : Nat) : Int) - 1 = (k : Int) by omega, nth_get ka]
    have hN'' : nth b (((k + 1 : Nat) : Int) - 1) = some b[k] := by rw [show ((k + 1 : Nat) : Int) - 1 = (k : Int) by omega, nth_get kb]
    simp only [spec_cmpLimbs_l0, spec_cmpLimbs_g0, Bool.cond_decide]
    rw [if_pos (by omega), hN', hN'']
    simp only [Option.bind_some]
    have s1 := lv_split ka
    have s2 := lv_split kb
    rw [← e] at s2
    have t1 := lv_lt (ha.take k)
    have t2 := lv_lt (hb.take k)
    have u1 := lv_nonneg (ha.take k)
    have u2 := lv_nonneg (hb.take k)
    rw [List.length_take, Nat.min_eq_left (by omega)] at t1 t2
    have bp := Bp_pos k
    generalize hX : lv (a.drop (k + 1)) = X at s1 s2
    by_cases hne : a[k] = b[k]
    · rw [hne, bne_self_eq_false, cond_false, show ((k + 1 : Nat) : Int) - 1 - 1 = (k : Int) - 1 by omega, wrap_in (by omega)]
      exact cmp_loop ha hb hl hm n k (by omega) (by omega) (by rw [List.drop_eq_getElem_cons ka, List.drop_eq_getElem_cons kb, hne, e])
    · have hb' : (a[k] != b[k]) = true := by simpa using hne
      rw [hb', cond_true]
      by_cases hlt : a[k] < b[k]
      · rw [if_pos hlt]
        have := Int.mul_le_mul_of_nonneg_left (show (a[k] + 4294967296 * X) + 1 ≤ b[k] + 4294967296 * X by omega) (Int.le_of_lt bp)
        rw [Int.mul_add, Int.mul_one] at this
        unfold cmpv
        rw [if_pos (by omega)]
      · rw [if_neg hlt]
        have := Int.mul_le_mul_of_nonneg_left (show (b[k] + 4294967296 * X) + 1 ≤ a[k] + 4294967296 * X by omega) (Int.le_of_lt bp)
        rw [Int.mul_add, Int.mul_one] at this
        unfold cmpv
        rw [if_neg (by omega), if_neg (by omega)]
theorem cmp_spec {a b : List Int} (ha : Lim a) (hb : Lim b) (na : Nrm a) (nb : Nrm b) (hm : a.length ≤ 4611686018427387904) : spec_cmpLimbs N a b = some (cmpv (lv a) (lv b)) := by
  unfold spec_cmpLimbs spec_cmpLimbs_g
  simp only [Bool.cond_decide]
  by_cases h : a.length = b.length
  · rw [h, bne_self_eq_false, cond_false, wrap_in (by omega), ← h]
    exact cmp_loop hN hNl ha hb h hm N a.length (Nat.le_refl _) (by omega) (by rw [List.drop_length, h, List.drop_length])
  · have hb' : ((a.length : Int) != (b.length : Int)) = true := by simp; omega
    rw [hb', cond_true]
    by_cases hlt : a.length < b.length
    · have := lv_lt_of_len ha hb nb hlt
      rw [if_pos (by omega)]
      unfold cmpv
      rw [if_pos this]
    · have := lv_lt_of_len hb ha na (by omega)
      rw [if_neg (by omega)]
      unfold cmpv
      rw [if_neg (by omega), if_neg (by omega)]
theorem add_long {a b : List Int} (ha : Lim a) (hb : Lim b) (hl : b.length ≤ a.length) (hm : a.length ≤ 4294967296) :
    ∃ t, spec_addLimbs_j0 N a b = some t ∧ Lim t ∧ Nrm t ∧ lv t = lv a + lv b := by
  simp only [spec_addLimbs_j0, spec_addLimbs_g0, gate_pos hN]
  rw [wrap_in (by omega), mkn_ok (by omega) (by omega) (by omega) (by omega)]
  simp only [Option.bind_some]
  rcases stateLoop0 (xs := a) (L := fun n i (st : Int × List Int) => spec_addLimbs_l1 N n b a st.1 i st.2) (e := fun _ => False)
    (fin := fun st => (lim ((st.2.length + ([(IntKind.u32.wrap st.1)] : List Int).length) * 4)).bind fun _ => (spec_trim N (st.2 ++ ([(IntKind.u32.wrap st.1)] : List Int))).bind fun v15 => (some v15))
    (fun i st => st.2.length = i ∧ Lim st.2 ∧ (st.1 = 0 ∨ st.1 = 1) ∧ lv st.2 + st.1 * Bp i = lv (a.take i) + lv (b.take i))
    (fun n st hp => by
      simp only [spec_addLimbs_l1, spec_addLimbs_g1, Bool.cond_decide]
      rw [if_neg (by omega)])
    (fun n i st hi hp => by
      right
      obtain ⟨c, out⟩ := st
      obtain ⟨p1, p2, p3, p4⟩ := hp
      dsimp only at p1 p2 p3 p4
      have hx := ha _ (List.getElem_mem hi)
      have hta := lv_take hi
      simp only [spec_addLimbs_l1, spec_addLimbs_g1, spec_addLimbs_j2, spec_addLimbs_g2, gate_pos hN, Bool.cond_decide]
      rw [if_pos (by omega), nth_get hi, succ_in hi (by omega)]
      simp only [Option.bind_some]
      have key : ∀ (y : Int), 0 ≤ y ∧ y < 4294967296 → lv (b.take (i + 1)) = lv (b.take i) + Bp i * y →
          ((lim ((out.length + ([(IntKind.u32.wrap (a[i] + c + y))] : List Int).length) * 4)).bind fun _ => spec_addLimbs_l1 N n b a (Int.fdiv (a[i] + c + y) (2 ^ (min (32 : Int).toNat (IntKind.bits .u64)))) (↑(i + 1)) (out ++ [(IntKind.u32.wrap (a[i] + c + y))])) =
            spec_addLimbs_l1 N n b a ((a[i] + c + y) / 4294967296) (↑(i + 1)) (out ++ [(a[i] + c + y) % 4294967296]) ∧
          ((out ++ [(a[i] + c + y) % 4294967296]).length = i + 1 ∧ Lim (out ++ [(a[i] + c + y) % 4294967296]) ∧ ((a[i] + c + y) / 4294967296 = 0 ∨ (a[i] + c + y) / 4294967296 = 1) ∧
            lv (out ++ [(a[i] + c + y) % 4294967296]) + (a[i] + c + y) / 4294967296 * Bp (i + 1) = lv (a.take (i + 1)) + lv (b.take (i + 1))) := by
        intro y hy hty
        rw [shr32, w32_eq, lim_le (by simp; omega)]
        refine ⟨rfl, by rw [List.length_append, p1]; rfl, p2.app (Lim.one (by omega)), by omega, ?_⟩
        rw [lv_snoc, p1, Bp_succ, hta, hty]
        have e := Int.mul_ediv_add_emod (a[i] + c + y) 4294967296
        generalize (a[i] + c + y) / 4294967296 = q at *
        generalize (a[i] + c + y) % 4294967296 = r at *
        generalize Bp i = B at *
        generalize a[i] = x at *
        have e2 : B * (4294967296 * q + r) = B * (x + c + y) := by rw [e]
        grind
      by_cases hib : i < b.length
      · rw [if_pos (by omega), nth_get hib]
        have hy := hb _ (List.getElem_mem hib)
        obtain ⟨k1, k2⟩ := key b[i] hy (lv_take hib)
        simp only [Option.bind_some]
        rw [w64_in (n := a[i]) (by omega), w64_in (n := a[i] + c) (by omega), w64_in (n := b[i]) (by omega), w64_in (by omega)]
        exact ⟨((a[i] + c + b[i]) / 4294967296, out ++ [(a[i] + c + b[i]) % 4294967296]), k1, k2⟩
      · rw [if_neg (by omega)]
        obtain ⟨k1, k2⟩ := key 0 (by omega) (by rw [List.take_of_length_le (by omega), List.take_of_length_le (by omega)]; omega)
        rw [w64_in (n := a[i]) (by omega), w64_in (n := a[i] + c) (by omega)]
        rw [Int.add_zero] at k1 k2
        exact ⟨((a[i] + c) / 4294967296, out ++ [(a[i] + c) % 4294967296]), k1, k2⟩) N (0, []) (by omega) ⟨rfl, Lim.nil, .inl rfl, rfl⟩ with h | ⟨st, h, hp⟩
  · exact h.elim
  · have h' : spec_addLimbs_l1 N N b a 0 0 [] = _ := h
    rw [Int.toNat_zero, List.replicate_zero, h']
    obtain ⟨p1, p2, p3, p4⟩ := hp
    rw [List.take_length, List.take_of_length_le hl] at p4
    rw [w32_eq, lim_le (by simp; omega)]
    obtain ⟨t, h1, h2, h3, h4, h5⟩ := trim_spec hN hNl (st.2 ++ [st.1 % 4294967296]) (by simp; omega)
    refine ⟨t, by simp only [Option.bind_some, h1], h3 (p2.app (Lim.one (by omega))), h4, ?_⟩
    rw [h2, lv_snoc, p1, ← p4, show st.1 % 4294967296 = st.1 by omega, Int.mul_comm]
theorem add_spec {a b : List Int} (ha : Lim a) (hb : Lim b) (hma : a.length ≤ 4294967296) (hmb : b.length ≤ 4294967296) : ∃ t, spec_addLimbs N a b = some t ∧ Lim t ∧ Nrm t ∧ lv t = lv a + lv b := by
  unfold spec_addLimbs spec_addLimbs_g
  simp only [Bool.cond_decide]
  by_cases h : a.length < b.length
  · rw [if_pos (by omega)]
    obtain ⟨t, h1, h2, h3, h4⟩ := add_long hN hNl hb ha (by omega) hmb
    exact ⟨t, h1, h2, h3, by omega⟩
  · rw [if_neg (by omega)]
    exact add_long hN hNl ha hb (by omega) hma
theorem sub_spec {a b : List Int} (ha : Lim a) (hb : Lim b) (hl : b.length ≤ a.length) (hle : lv b ≤ lv a) (hm : a.length ≤ 4294967296) :
    ∃ t, spec_subLimbs N a b = some t ∧ Lim t ∧ Nrm t ∧ lv t = lv a - lv b := by
  unfold spec_subLimbs spec_subLimbs_g
  rw [mkn_ok (by omega) (by omega) (by omega) (by omega)]
  simp only [Option.bind_some]
  rcases stateLoop0 (xs := a) (L := fun n i (st : Int × List Int) => spec_subLimbs_l0 N n b a st.1 i st.2) (e := fun _ => False)
    (fin := fun st => (spec_trim N st.2).bind fun v15 => (some v15))
    (fun i st => st.2.length = i ∧ Lim st.2 ∧ (st.1 = 0 ∨ st.1 = 1) ∧ lv st.2 - st.1 * Bp i = lv (a.take i) - lv (b.take i))
    (fun n st hp => by
      simp only [spec_subLimbs_l0, spec_subLimbs_g0, Bool.cond_decide]
      rw [if_neg (by omega)])
    (fun n i st hi hp => by
      right
      obtain ⟨c, out⟩ := st
      obtain ⟨p1, p2, p3, p4⟩ := hp
      dsimp only at p1 p2 p3 p4
      have hx := ha _ (List.getElem_mem hi)
      have hta := lv_take hi
      simp only [spec_subLimbs_l0, spec_subLimbs_g0, spec_subLimbs_j1, spec_subLimbs_g1, spec_subLimbs_j2, spec_subLimbs_g2, gate_pos hN, Bool.cond_decide]
      rw [if_pos (by omega), nth_get hi, succ_in hi (by omega)]
      simp only [Option.bind_some]
      rw [w64_in (n := a[i]) (by omega)]
      have key : ∀ (y z k : Int), 0 ≤ y ∧ y < 4294967296 → z = c + y → (k = 0 ∧ z ≤ a[i] ∨ k = 1 ∧ a[i] < z) → lv (b.take (i + 1)) = lv (b.take i) + Bp i * y →
          ∃ st' : Int × List Int, ((lim ((out.length + ([(IntKind.u32.wrap (IntKind.u64.wrap ((IntKind.u64.wrap (a[i] + (IntKind.u64.wrap (k * 2 ^ (min (32 : Int).toNat (IntKind.bits .u64)))))) - z)))] : List Int).length) * 4)).bind fun _ => spec_subLimbs_l0 N n b a k (↑(i + 1)) (out ++ ([(IntKind.u32.wrap (IntKind.u64.wrap ((IntKind.u64.wrap (a[i] + (IntKind.u64.wrap (k * 2 ^ (min (32 : Int).toNat (IntKind.bits .u64)))))) - z)))] : List Int))) =
            spec_subLimbs_l0 N n b a st'.1 (↑(i + 1)) st'.2 ∧ (st'.2.length = i + 1 ∧ Lim st'.2 ∧ (st'.1 = 0 ∨ st'.1 = 1) ∧ lv st'.2 - st'.1 * Bp (i + 1) = lv (a.take (i + 1)) - lv (b.take (i + 1))) := by
        intro y z k hy hz hk hty
        subst hz
        have e32 : (2 : Int) ^ (min (32 : Int).toNat (IntKind.bits .u64)) = 4294967296 := by rw [min32]; rfl
        rw [e32, w64_in (n := k * 4294967296) (by omega), w64_in (n := a[i] + k * 4294967296) (by omega), w64_in (n := a[i] + k * 4294967296 - (c + y)) (by omega), w32_eq, lim_le (by simp; omega)]
        refine ⟨(k, out ++ [(a[i] + k * 4294967296 - (c + y)) % 4294967296]), rfl, by rw [List.length_append, p1]; rfl, p2.app (Lim.one (by omega)), by omega, ?_⟩
        dsimp only
        rw [show (a[i] + k * 4294967296 - (c + y)) % 4294967296 = a[i] + k * 4294967296 - (c + y) by omega, lv_snoc, p1, Bp_succ, hta, hty]
        generalize Bp i = B at *
        generalize a[i] = x at *
        grind
      by_cases hib : i < b.length
      · rw [if_pos (by omega), nth_get hib]
        have hy := hb _ (List.getElem_mem hib)
        simp only [Option.bind_some]
        rw [w64_in (n := b[i]) (by omega), w64_in (by omega)]
        by_cases hlt : a[i] < c + b[i]
        · rw [if_pos hlt]; exact key b[i] _ 1 hy rfl (.inr ⟨rfl, hlt⟩) (lv_take hib)
        · rw [if_neg hlt]; exact key b[i] _ 0 hy rfl (.inl ⟨rfl, by omega⟩) (lv_take hib)
      · rw [if_neg (by omega)]
        have ht : lv (b.take (i + 1)) = lv (b.take i) + Bp i * 0 := by rw [List.take_of_length_le (by omega), List.take_of_length_le (by omega)]; omega
        by_cases hlt : a[i] < c
        · rw [if_pos hlt]; exact key 0 c 1 (by omega) (by omega) (.inr ⟨rfl, hlt⟩) ht
        · rw [if_neg hlt]; exact key 0 c 0 (by omega) (by omega) (.inl ⟨rfl, by omega⟩) ht) N (0, []) (by omega) ⟨rfl, Lim.nil, .inl rfl, rfl⟩ with h | ⟨st, h, hp⟩
  · exact h.elim
  · have h' : spec_subLimbs_l0 N N b a 0 0 [] = _ := h
    rw [Int.toNat_zero, List.replicate_zero, h']
    obtain ⟨p1, p2, p3, p4⟩ := hp
    rw [List.take_length, List.take_of_length_le hl] at p4
    obtain ⟨t, h1, h2, h3, h4, h5⟩ := trim_spec hN hNl st.2 (by omega)
    refine ⟨t, by simp only [h1, Option.bind_some], h3 p2, h4, ?_⟩
    have h6 := lv_lt p2
    rw [p1] at h6
    have h7 := Bp_pos a.length
    rcases p3 with e | e
    · rw [e] at p4; omega
    · rw [e] at p4; omega
end
end Go.Proofs.Ytjghcbmalcopoaa.PvWholePO
namespace Go.Proofs.Ytjghcbmalcopoaa.PvWhole2PO
open Go.Av Go
open Go.Proofs.Ytjghcbmalcopoaa.PO
open Go.Proofs.Ytjghcbmalcopoaa.PvWholePO
/-- A number as the laws hold it. -/
abbrev WH := Bool × (List Int × Unit)
/-- What a number as the laws hold it stands for. -/
def Wv (w : WH) (z : Int) : Prop := Lim w.2.1 ∧ Nrm w.2.1 ∧ (w.2.1 = [] → w.1 = false) ∧ z = bif w.1 then - lv w.2.1 else lv w.2.1
theorem Wv.abs {w : WH} {z : Int} (h : Wv w z) : lv w.2.1 = (z.natAbs : Int) := by
  obtain ⟨h1, _, _, h4⟩ := h
  have := lv_nonneg h1
  subst h4
  cases w.1 <;> simp <;> omega
theorem Wv.len {w : WH} {z : Int} (h : Wv w z) {k : Nat} (hz : z.natAbs < 2 ^ k) : w.2.1.length ≤ k := by
  refine len_le h.1 h.2.1 ?_
  rw [h.abs, Bp_two]
  have : 2 ^ k ≤ 2 ^ (32 * k) := Nat.pow_le_pow_right (by decide) (by omega)
  omega
theorem Wv.nil {w : WH} {z : Int} (h : Wv w z) : w.2.1 = [] ↔ z = 0 := by
  constructor
  · intro e
    have := h.abs
    rw [e] at this
    simp only [lv] at this
    omega
  · intro e
    have := h.abs
    subst e
    rcases Classical.em (w.2.1 = []) with h1 | h1
    · exact h1
    · have := lv_pos h.1 h.2.1 h1
      omega
theorem Wv.sgn {w : WH} {z : Int} (h : Wv w z) : w.1 = decide (z < 0) := by
  obtain ⟨h1, h2, h3, h4⟩ := h
  have := lv_nonneg h1
  cases hb : w.1 with
  | false =>
    rw [hb] at h4
    simp only [cond_false] at h4
    exact (decide_eq_false (by omega)).symm
  | true =>
    rw [hb] at h4
    simp only [cond_true] at h4
    have : w.2.1 ≠ [] := fun e => by rw [h3 e] at hb; cases hb
    have := lv_pos h1 h2 this
    exact (decide_eq_true (by omega)).symm
theorem Wv.mk' {l : List Int} {b : Bool} {z : Int} (h1 : Lim l) (h2 : Nrm l) (h3 : lv l = (z.natAbs : Int)) (h4 : z ≠ 0 → b = decide (z < 0)) (h5 : z = 0 → b = false) : Wv (b, l, ()) z := by
  refine ⟨h1, h2, fun e => ?_, ?_⟩
  · apply h5
    have e : l = [] := e
    rw [e] at h3
    simp only [lv] at h3
    omega
  · show z = bif b then - lv l else lv l
    rw [h3]
    by_cases hz : z = 0
    · rw [h5 hz]; simp; omega
    · rw [h4 hz]
      by_cases hn : z < 0
      · rw [decide_eq_true hn]; simp; omega
      · rw [decide_eq_false hn]; simp; omega
section
variable {N : Nat} (hN : 0 < N) (hNl : 9223372036854775808 ≤ N)
include hN hNl
theorem mul_row (a b : WH) (r0 : Int → List Int → Option WH) (i : Nat) (x : Int) (hx : 0 ≤ x ∧ x < 4294967296) (hb : Lim b.2.1) (hla : i < a.2.1.length) (hlen : a.2.1.length + b.2.1.length ≤ 4294967296)
    (out : List Int) (ho : out.length = a.2.1.length + b.2.1.length) (hlo : Lim out) (A : Int) (hA : lv out = A * lv b.2.1) (hAlt : A < Bp i) (hA0 : 0 ≤ A) :
    ∃ out', spec_Whole_Mul_l1 N r0 a b N (i : Int) x 0 0 out = r0 (IntKind.i64.wrap ((i : Int) + 1)) out' ∧ out'.length = a.2.1.length + b.2.1.length ∧ Lim out' ∧ lv out' = (A + Bp i * x) * lv b.2.1 := by
  have hbl := lv_lt hb
  have hb0 := lv_nonneg hb
  have hmz : lv out < Bp (i + b.2.1.length) := by
    rw [hA, Bp_add]
    rcases Int.lt_or_le 0 A with h | h
    · exact Int.lt_of_le_of_lt (Int.mul_le_mul_of_nonneg_right (Int.le_of_lt hAlt) hb0) (Int.mul_lt_mul_of_pos_left hbl (Bp_pos i))
    · have : A = 0 := by omega
      subst this
      have h1 := Bp_pos i
      have h2 := Bp_pos b.2.1.length
      have := Int.mul_pos h1 h2
      omega
  have hz : out[i + b.2.1.length]? = some 0 := by
    rw [List.getElem?_eq_getElem (by omega), limb_zero hlo (by omega) hmz]
  rcases stateLoop0 (xs := b.2.1) (L := fun n k (st : Int × List Int) => spec_Whole_Mul_l1 N r0 a b n (i : Int) x st.1 k st.2) (e := fun _ => False)
    (fin := fun st => (chk (IntKind.i64.wrap ((i : Int) + (b.2.1.length : Int))) st.2.length).bind fun v31 => ((r0 (IntKind.i64.wrap ((i : Int) + 1)) (st.2.set v31 (IntKind.u32.wrap st.1)))))
    (fun k st => st.2.length = a.2.1.length + b.2.1.length ∧ Lim st.2 ∧ (0 ≤ st.1 ∧ st.1 < 4294967296) ∧ st.2[i + b.2.1.length]? = some 0 ∧ lv st.2 + st.1 * Bp (i + k) = A * lv b.2.1 + Bp i * x * lv (b.2.1.take k))
    (fun n st hp => by
      simp only [spec_Whole_Mul_l1, spec_Whole_Mul_g1, Bool.cond_decide]
      rw [if_neg (by omega)])
    (fun n k st hk hp => by
      right
      obtain ⟨c, o⟩ := st
      obtain ⟨p1, p2, p3, p4, p5⟩ := hp
      dsimp only at p1 p2 p3 p4 p5
      have hy := hb _ (List.getElem_mem hk)
      have hik : i + k < o.length := by omega
      have hd := p2 _ (List.getElem_mem hik)
      simp only [spec_Whole_Mul_l1, spec_Whole_Mul_g1, Bool.cond_decide]
      rw [if_pos (by omega), nth_get hk, succ_in hk (by omega), wrap_in (n := (i : Int) + (k : Int)) (by omega), show (i : Int) + (k : Int) = ((i + k : Nat) : Int) by omega, chk_nat hik]
      simp only [Option.bind_some]
      rw [List.getElem?_eq_getElem hik]
      simp only [Option.bind_some]
      have hxy : 0 ≤ x * b.2.1[k] ∧ x * b.2.1[k] ≤ 18446744065119617025 := by
        refine ⟨Int.mul_nonneg hx.1 hy.1, ?_⟩
        have := Int.mul_le_mul (show x ≤ 4294967295 by omega) (show b.2.1[k] ≤ 4294967295 by omega) hy.1 (by decide)
        omega
      rw [w64_in (n := x) (by omega), w64_in (n := b.2.1[k]) (by omega), w64_in (n := x * b.2.1[k]) (by omega), w64_in (n := o[i + k]) (by omega), w64_in (n := x * b.2.1[k] + o[i + k]) (by omega), w64_in (n := x * b.2.1[k] + o[i + k] + c) (by omega), shr32, w32_eq]
      refine ⟨((x * b.2.1[k] + o[i + k] + c) / 4294967296, o.set (i + k) ((x * b.2.1[k] + o[i + k] + c) % 4294967296)), rfl, by rw [List.length_set]; exact p1, p2.set _ (by omega), by omega, ?_, ?_⟩
      · show (o.set (i + k) _)[i + b.2.1.length]? = some 0
        rw [List.getElem?_set_ne (by omega)]; exact p4
      · dsimp only
        rw [lv_set hik, show i + (k + 1) = i + k + 1 by omega, Bp_succ, lv_take hk]
        have e := Int.mul_ediv_add_emod (x * b.2.1[k] + o[i + k] + c) 4294967296
        have e3 : Bp (i + k) = Bp i * Bp k := Bp_add i k
        generalize (x * b.2.1[k] + o[i + k] + c) / 4294967296 = q at *
        generalize (x * b.2.1[k] + o[i + k] + c) % 4294967296 = r at *
        generalize lv (b.2.1.take k) = T at *
        generalize b.2.1[k] = y at *
        generalize o[i + k] = d at *
        generalize lv b.2.1 = Lb at *
        generalize lv o = Lo at *
        rw [e3] at p5 ⊢
        generalize Bp i = P at *
        generalize Bp k = Q at *
        have e2 : P * Q * (4294967296 * q + r) = P * Q * (x * y + d + c) := by rw [e]
        grind) N (0, out) (by omega) ⟨ho, hlo, ⟨Int.le_refl 0, show (0 : Int) < 4294967296 by decide⟩, hz, by simp [hA, lv]⟩ with h | ⟨st, h, hp⟩
  · exact h.elim
  · have h' : spec_Whole_Mul_l1 N r0 a b N (i : Int) x 0 0 out = _ := h
    obtain ⟨c, o⟩ := st
    obtain ⟨p1, p2, p3, p4, p5⟩ := hp
    dsimp only at p1 p2 p3 p4 p5
    rw [h']
    have hib : i + b.2.1.length < o.length := by omega
    dsimp only
    rw [wrap_in (n := (i : Int) + (b.2.1.length : Int)) (by omega), show (i : Int) + (b.2.1.length : Int) = ((i + b.2.1.length : Nat) : Int) by omega, chk_nat hib, w32_eq]
    refine ⟨_, rfl, by rw [List.length_set]; exact p1, p2.set _ (by omega), ?_⟩
    rw [List.take_length] at p5
    rw [List.getElem?_eq_getElem hib] at p4
    simp only [Option.some.injEq] at p4
    rw [lv_set hib, p4, show c % 4294967296 = c by omega]
    grind
theorem mul_loop (a b : WH) (ha : Lim a.2.1) (hb : Lim b.2.1) (hlen : a.2.1.length + b.2.1.length ≤ 4294967296) :
    ∃ out, spec_Whole_Mul_l0 N N a b 0 (List.replicate (a.2.1.length + b.2.1.length) 0) = ((spec_trim N out).bind fun v32 => (bif (decide (((v32.length : Int) : Int) > 0)) then (some ((!(a.1 == b.1)), v32, ())) else (some (false, v32, ())))) ∧
      out.length = a.2.1.length + b.2.1.length ∧ Lim out ∧ lv out = lv a.2.1 * lv b.2.1 := by
  rcases stateLoop0 (xs := a.2.1) (L := fun n i out => spec_Whole_Mul_l0 N n a b i out) (e := fun _ => False)
    (fin := fun out => (spec_trim N out).bind fun v32 => (bif (decide (((v32.length : Int) : Int) > 0)) then (some ((!(a.1 == b.1)), v32, ())) else (some (false, v32, ()))))
    (fun i out => out.length = a.2.1.length + b.2.1.length ∧ Lim out ∧ lv out = lv (a.2.1.take i) * lv b.2.1)
    (fun n out hp => by
      simp only [spec_Whole_Mul_l0, spec_Whole_Mul_g0, Bool.cond_decide]
      rw [if_neg (by omega)])
    (fun n i out hi hp => by
      right
      obtain ⟨p1, p2, p3⟩ := hp
      have h1 := lv_lt (ha.take i)
      rw [List.length_take, Nat.min_eq_left (by omega)] at h1
      simp only [spec_Whole_Mul_l0, spec_Whole_Mul_g0, Bool.cond_decide]
      rw [if_pos (by omega), nth_get hi]
      simp only [Option.bind_some]
      obtain ⟨o, h2, h3, h4, h5⟩ := mul_row hN hNl a b (spec_Whole_Mul_l0 N n a b) i a.2.1[i] (ha _ (List.getElem_mem hi)) hb hi hlen out p1 p2 _ p3 h1 (lv_nonneg (ha.take i))
      exact ⟨o, by rw [h2, succ_in hi (by omega)], h3, h4, by rw [h5, lv_take hi]⟩) N (List.replicate (a.2.1.length + b.2.1.length) 0) (by omega) ⟨by simp, Lim.rep _, by simp [lv_rep, lv]⟩ with h | ⟨out, h, hp⟩
  · exact h.elim
  · rw [List.take_length] at hp
    exact ⟨out, h, hp⟩
theorem mul_spec {a b : WH} {x y : Int} (ha : Wv a x) (hb : Wv b y) (hla : a.2.1.length ≤ 1073741824) (hlb : b.2.1.length ≤ 1073741824) : ∃ c, spec_Whole_Mul N a b = some c ∧ Wv c (x * y) := by
  unfold spec_Whole_Mul spec_Whole_Mul_g
  rw [wrap_in (by omega), mkn_ok (by omega) (by omega) (by omega) (by omega)]
  simp only [Option.bind_some]
  rw [show ((a.2.1.length : Int) + (b.2.1.length : Int)).toNat = a.2.1.length + b.2.1.length by omega]
  obtain ⟨out, h1, h2, h3, h4⟩ := mul_loop hN hNl a b ha.1 hb.1 (by omega)
  rw [h1]
  obtain ⟨t, t1, t2, t3, t4, t5⟩ := trim_spec hN hNl out (by omega)
  rw [t1]
  have hv : lv t = ((x * y).natAbs : Int) := by rw [t2, h4, ha.abs, hb.abs, Int.natAbs_mul, Int.natCast_mul]
  simp only [Option.bind_some]
  by_cases ht : t = []
  · subst ht
    refine ⟨_, rfl, ?_⟩
    have hz : x * y = 0 := by
      simp only [lv] at hv
      omega
    exact Wv.mk' (t3 h3) t4 hv (fun h => absurd hz h) (fun _ => rfl)
  · have hp := lv_pos (t3 h3) t4 ht
    have hl : t.length ≠ 0 := fun h => ht (List.eq_nil_of_length_eq_zero h)
    rw [decide_eq_true (by omega), cond_true]
    refine ⟨_, rfl, Wv.mk' (t3 h3) t4 hv (fun h => ?_) (fun h => by rw [h] at hv; simp at hv; omega)⟩
    rw [ha.sgn, hb.sgn]
    have hx : x ≠ 0 := fun e => h (by rw [e, Int.zero_mul])
    have hy : y ≠ 0 := fun e => h (by rw [e, Int.mul_zero])
    rcases Int.lt_or_le x 0 with h1 | h1
    · rcases Int.lt_or_le y 0 with h2 | h2
      · have := Int.mul_pos_of_neg_of_neg h1 h2
        rw [decide_eq_true h1, decide_eq_true h2, decide_eq_false (by omega)]; rfl
      · have := Int.mul_neg_of_neg_of_pos h1 (show 0 < y by omega)
        rw [decide_eq_true h1, decide_eq_false (by omega), decide_eq_true (by omega)]; rfl
    · rcases Int.lt_or_le y 0 with h2 | h2
      · have := Int.mul_neg_of_pos_of_neg (show 0 < x by omega) h2
        rw [decide_eq_false (by omega), decide_eq_true h2, decide_eq_true (by omega)]; rfl
      · have := Int.mul_pos (show 0 < x by omega) (show 0 < y by omega)
        rw [decide_eq_false (by omega), decide_eq_false (by omega), decide_eq_false (by omega)]; rfl
theorem up_spec {a : WH} {x : Int} (ha : Wv a x) (sh : Nat) (hsh : sh ≤ 1073741824) (hla : a.2.1.length ≤ 1073741824) : ∃ c, spec_Whole_Up N a (sh : Int) = some c ∧ Wv c (x * ((2 ^ sh : Nat) : Int)) := by
  unfold spec_Whole_Up spec_Whole_Up_g
  by_cases hz : a.2.1 = []
  · rw [show ((a.2.1.length : Int) == 0) = true by rw [hz]; rfl, cond_true]
    refine ⟨a, rfl, ?_⟩
    rw [ha.nil.1 hz, Int.zero_mul]
    have e := ha.nil.1 hz
    subst e
    exact ha
  · have hl : a.2.1.length ≠ 0 := fun h => hz (List.eq_nil_of_length_eq_zero h)
    have hb : ((a.2.1.length : Int) == 0) = false := by simp; exact hz
    rw [hb, cond_false]
    have ed : Int.tdiv (sh : Int) 32 = ((sh / 32 : Nat) : Int) := by rw [Int.tdiv_eq_ediv_of_nonneg (by omega)]; omega
    have em : Int.tmod (sh : Int) 32 = ((sh % 32 : Nat) : Int) := by rw [Int.tmod_eq_emod_of_nonneg (by omega)]; omega
    rw [ed, wrap_in (n := ((sh / 32 : Nat) : Int)) (by omega), wrap_in (n := ((sh / 32 : Nat) : Int) + (a.2.1.length : Int)) (by omega), wrap_in (n := ((sh / 32 : Nat) : Int) + (a.2.1.length : Int) + 1) (by omega), mkn_ok (by omega) (by omega) (by omega) (by omega)]
    simp only [Option.bind_some, Int.toNat_natCast]
    have hs : sh % 32 < 32 := by omega
    have hpw : (2 ^ (sh % 32) : Nat) ≤ 2 ^ 31 := Nat.pow_le_pow_right (by decide) (by omega)
    have hpp : 0 < (2 ^ (sh % 32) : Nat) := Nat.pow_pos (by decide)
    have h31 : (2 ^ 31 : Nat) = 2147483648 := by decide
    have hdvd : ((2 ^ (sh % 32) : Nat) : Int) ∣ 4294967296 := by
      have h1 : (2 ^ (sh % 32) : Nat) ∣ 2 ^ 32 := Nat.pow_dvd_pow 2 (by omega)
      have h2 : ((2 ^ (sh % 32) : Nat) : Int) ∣ ((2 ^ 32 : Nat) : Int) := by exact_mod_cast h1
      exact h2
    have e64 : min (((sh % 32 : Nat) : Int)).toNat (IntKind.bits .u64) = sh % 32 := by rw [Int.toNat_natCast]; exact Nat.min_eq_left (by show sh % 32 ≤ 64; omega)
    have ep : (2 : Int) ^ (sh % 32) = ((2 ^ (sh % 32) : Nat) : Int) := by rw [Int.natCast_pow]; rfl
    generalize hD : ((2 ^ (sh % 32) : Nat) : Int) = D at *
    have hD1 : 1 ≤ D ∧ D ≤ 2147483648 := by omega
    rcases stateLoop0 (xs := a.2.1) (L := fun n i (st : Int × List Int) => spec_Whole_Up_l0 N n (sh : Int) a st.1 i st.2) (e := fun _ => False)
      (fin := fun st => (lim ((st.2.length + ([st.1] : List Int).length) * 4)).bind fun _ => (spec_trim_b N (st.2 ++ ([st.1] : List Int))).bind fun v9 => (some (a.1, v9.1, ())))
      (fun i st => st.2.length = sh / 32 + i ∧ Lim st.2 ∧ (0 ≤ st.1 ∧ st.1 < D) ∧ lv st.2 + st.1 * Bp (sh / 32 + i) = D * Bp (sh / 32) * lv (a.2.1.take i))
      (fun n st hp => by
        simp only [spec_Whole_Up_l0, spec_Whole_Up_g0, Bool.cond_decide]
        rw [if_neg (by omega)])
      (fun n i st hi hp => by
        right
        obtain ⟨c, out⟩ := st
        obtain ⟨p1, p2, p3, p4⟩ := hp
        dsimp only at p1 p2 p3 p4
        have hx := ha.1 _ (List.getElem_mem hi)
        simp only [spec_Whole_Up_l0, spec_Whole_Up_g0, Bool.cond_decide]
        rw [if_pos (by omega), nth_get hi, succ_in hi (by omega), em]
        simp only [Option.bind_some]
        rw [if_neg (by omega), e64, ep]
        have hxD : 0 ≤ a.2.1[i] * D ∧ a.2.1[i] * D < 4294967296 * D := ⟨Int.mul_nonneg hx.1 (by omega), Int.mul_lt_mul_of_pos_right hx.2 (by omega)⟩
        rw [w64_in (n := a.2.1[i]) (by omega), w64_in (n := a.2.1[i] * D) (by omega), shr32, w32_eq, w32_eq]
        have hq : a.2.1[i] * D / 4294967296 < D := Int.ediv_lt_of_lt_mul (by decide) (by omega)
        have hq0 : 0 ≤ a.2.1[i] * D / 4294967296 := by omega
        have hdm : D ∣ (a.2.1[i] * D) % 4294967296 := by
          have e := Int.mul_ediv_add_emod (a.2.1[i] * D) 4294967296
          have h1 : D ∣ a.2.1[i] * D := ⟨a.2.1[i], Int.mul_comm _ _⟩
          have h2 : D ∣ 4294967296 * (a.2.1[i] * D / 4294967296) := Int.dvd_trans hdvd ⟨_, rfl⟩
          rw [← e] at h1
          exact (Int.dvd_add_right h2).1 h1
        have hor := or_add (s := sh % 32) (a := (a.2.1[i] * D) % 4294967296) (c := c) (by omega) (by omega) (by rw [hD]; exact hdm) (by rw [hD]; exact p3)
        rw [hor.1, lim_le (by simp; omega), show a.2.1[i] * D / 4294967296 % 4294967296 = a.2.1[i] * D / 4294967296 by omega]
        refine ⟨(a.2.1[i] * D / 4294967296, out ++ [(a.2.1[i] * D) % 4294967296 + c]), rfl, by rw [List.length_append, p1]; rfl, p2.app (Lim.one (by omega)), ⟨hq0, hq⟩, ?_⟩
        dsimp only
        rw [lv_snoc, p1, show sh / 32 + (i + 1) = sh / 32 + i + 1 by omega, Bp_succ, lv_take hi]
        have e := Int.mul_ediv_add_emod (a.2.1[i] * D) 4294967296
        have e3 : Bp (sh / 32 + i) = Bp (sh / 32) * Bp i := Bp_add _ _
        rw [e3] at p4 ⊢
        generalize a.2.1[i] * D / 4294967296 = q at *
        generalize (a.2.1[i] * D) % 4294967296 = r at *
        generalize a.2.1[i] = x at *
        generalize lv (a.2.1.take i) = T at *
        generalize Bp (sh / 32) = P at *
        generalize Bp i = Q at *
        have e2 : P * Q * (4294967296 * q + r) = P * Q * (x * D) := by rw [e]
        grind) N (0, List.replicate (sh / 32) 0) (by omega) ⟨by simp, Lim.rep _, ⟨Int.le_refl 0, by dsimp only; omega⟩, by simp [lv_rep, lv]⟩ with h | ⟨st, h, hp⟩
    · exact h.elim
    · have h' : spec_Whole_Up_l0 N N (sh : Int) a 0 0 (List.replicate (sh / 32) 0) = _ := h
      obtain ⟨p1, p2, p3, p4⟩ := hp
      rw [h', lim_le (by simp; omega)]
      obtain ⟨t, t1, t2, t3, t4, t5⟩ := trimb_spec hN hNl (st.2 ++ [st.1]) (by simp; omega)
      refine ⟨(a.1, t, ()), by simp only [Option.bind_some, t1], ?_⟩
      have hsv : ((2 ^ sh : Nat) : Int) = D * Bp (sh / 32) := by
        rw [Bp_two, ← hD, ← Int.natCast_mul, ← Nat.pow_add, show sh % 32 + 32 * (sh / 32) = sh by omega]
      rw [List.take_length] at p4
      have hv : lv t = D * Bp (sh / 32) * lv a.2.1 := by
        rw [t2, lv_snoc, p1, ← p4, Int.mul_comm]
      have hp2 : (0 : Int) < D * Bp (sh / 32) := Int.mul_pos (by omega) (Bp_pos _)
      refine Wv.mk' (t3 (p2.app (Lim.one (by omega)))) t4 ?_ (fun h => ?_) (fun h => ?_)
      · rw [hv, hsv, ha.abs, Int.natAbs_mul, Int.natCast_mul, Int.mul_comm]
        congr 1
        omega
      · rw [ha.sgn]
        rw [hsv]
        by_cases hn : x < 0
        · have := Int.mul_neg_of_neg_of_pos hn hp2
          rw [decide_eq_true hn, decide_eq_true (by omega)]
        · have := Int.mul_nonneg (show 0 ≤ x by omega) (Int.le_of_lt hp2)
          rw [decide_eq_false hn, decide_eq_false (by omega)]
      · rw [hsv] at h
        have hx0 : x = 0 := by
          rcases Int.mul_eq_zero.1 h with h | h
          · exact h
          · omega
        rw [ha.sgn, hx0]; rfl
theorem wsign_spec {a : WH} {x : Int} (ha : Wv a x) : spec_Whole_Sign N a = some (cmpv x 0) := by
  unfold spec_Whole_Sign spec_Whole_Sign_g cmpv
  by_cases hz : x = 0
  · have := ha.nil.2 hz
    rw [show ((a.2.1.length : Int) == 0) = true by rw [this]; rfl, cond_true, if_neg (by omega), if_pos hz]
  · have h1 : a.2.1 ≠ [] := fun e => hz (ha.nil.1 e)
    have hl : a.2.1.length ≠ 0 := fun h => h1 (List.eq_nil_of_length_eq_zero h)
    have hb : ((a.2.1.length : Int) == 0) = false := by simp; exact h1
    rw [hb, cond_false, ha.sgn]
    by_cases hn : x < 0
    · rw [decide_eq_true hn, cond_true, if_pos hn]
    · rw [decide_eq_false hn, cond_false, if_neg hn, if_neg hz]
theorem wminus_spec {a : WH} {x : Int} (ha : Wv a x) : ∃ c, spec_Whole_Minus N a = some c ∧ Wv c (-x) := by
  unfold spec_Whole_Minus spec_Whole_Minus_g
  have h0 := ha.abs
  by_cases hz : x = 0
  · have e := ha.nil.2 hz
    have hs := ha.sgn
    subst hz
    rw [hs]
    refine ⟨_, rfl, ?_⟩
    refine Wv.mk' ha.1 ha.2.1 (by omega) (fun h => absurd rfl h) (fun _ => ?_)
    rw [e]; rfl
  · have h1 : a.2.1 ≠ [] := fun e => hz (ha.nil.1 e)
    have hl : a.2.1.length ≠ 0 := fun h => h1 (List.eq_nil_of_length_eq_zero h)
    rw [ha.sgn]
    by_cases hn : x < 0
    · rw [decide_eq_true hn]
      exact ⟨_, rfl, Wv.mk' ha.1 ha.2.1 (by omega) (fun _ => (decide_eq_false (by omega)).symm) (fun h => by omega)⟩
    · rw [decide_eq_false hn]
      refine ⟨_, rfl, Wv.mk' ha.1 ha.2.1 (by omega) (fun _ => ?_) (fun h => by omega)⟩
      rw [decide_eq_true (by omega), decide_eq_true (by omega)]
theorem wadd_spec {a b : WH} {x y : Int} (ha : Wv a x) (hb : Wv b y) (hla : a.2.1.length ≤ 4294967296) (hlb : b.2.1.length ≤ 4294967296) : ∃ c, spec_Whole_Add N a b = some c ∧ Wv c (x + y) := by
  unfold spec_Whole_Add spec_Whole_Add_g
  have sa := ha.sgn
  have sb := hb.sgn
  have va := ha.abs
  have vb := hb.abs
  by_cases hs : a.1 = b.1
  · rw [hs, beq_self_eq_true, cond_true]
    obtain ⟨t, h1, h2, h3, h4⟩ := add_spec hN hNl ha.1 hb.1 hla hlb
    rw [h1]
    rw [sa, sb] at hs
    have hs' : x < 0 ↔ y < 0 := decide_eq_decide.1 hs
    refine ⟨_, rfl, Wv.mk' h2 h3 (by omega) (fun h => ?_) (fun h => ?_)⟩
    · rw [sb]; exact decide_eq_decide.2 (by omega)
    · rw [sb]; exact decide_eq_false (by omega)
  · have hb' : (a.1 == b.1) = false := by simpa using hs
    rw [hb', cond_false, cmp_spec hN hNl ha.1 hb.1 ha.2.1 hb.2.1 (by omega)]
    simp only [Option.bind_some]
    have hs' : ¬(x < 0 ↔ y < 0) := fun h => hs (by rw [sa, sb]; exact decide_eq_decide.2 h)
    unfold cmpv
    by_cases h1 : lv a.2.1 < lv b.2.1
    · rw [if_pos h1]
      have hlen : a.2.1.length ≤ b.2.1.length := by
        rcases Nat.lt_or_ge b.2.1.length a.2.1.length with h | h
        · have := lv_lt_of_len hb.1 ha.1 ha.2.1 h
          omega
        · exact h
      obtain ⟨t, t1, t2, t3, t4⟩ := sub_spec hN hNl hb.1 ha.1 hlen (by omega) hlb
      rw [show ((-1 : Int) == 0) = false from rfl, show ((-1 : Int) == 1) = false from rfl, cond_false, cond_false, t1]
      refine ⟨_, rfl, Wv.mk' t2 t3 (by omega) (fun h => ?_) (fun h => by omega)⟩
      rw [sb]; exact decide_eq_decide.2 (by omega)
    · rw [if_neg h1]
      by_cases h2 : lv a.2.1 = lv b.2.1
      · rw [if_pos h2]
        exact ⟨_, rfl, Wv.mk' Lim.nil Nrm.nil (by simp only [lv]; omega) (fun h => by omega) (fun _ => rfl)⟩
      · rw [if_neg h2]
        have hlen : b.2.1.length ≤ a.2.1.length := by
          rcases Nat.lt_or_ge a.2.1.length b.2.1.length with h | h
          · have := lv_lt_of_len ha.1 hb.1 hb.2.1 h
            omega
          · exact h
        obtain ⟨t, t1, t2, t3, t4⟩ := sub_spec hN hNl ha.1 hb.1 hlen (by omega) hla
        rw [show ((1 : Int) == 0) = false from rfl, show ((1 : Int) == 1) = true from rfl, cond_false, cond_true, t1]
        refine ⟨_, rfl, Wv.mk' t2 t3 (by omega) (fun h => ?_) (fun h => by omega)⟩
        rw [sa]; exact decide_eq_decide.2 (by omega)
theorem wholeOf_spec (z : Int) (hz : -9223372036854775808 ≤ z ∧ z ≤ 9223372036854775807) : ∃ c, spec_WholeOf N z = some c ∧ Wv c z := by
  unfold spec_WholeOf spec_WholeOf_g
  have key : ∀ u : Int, u = (z.natAbs : Int) → ∃ c, spec_WholeOf_j0 N z u = some c ∧ Wv c z := by
    intro u hu
    simp only [spec_WholeOf_j0, spec_WholeOf_g0, gate_pos hN]
    rw [shr32, w32_eq, w32_eq]
    obtain ⟨t, t1, t2, t3, t4, t5⟩ := trim_spec hN hNl [u % 4294967296, u / 4294967296 % 4294967296] (by simp)
    rw [t1]
    refine ⟨_, rfl, Wv.mk' (t3 (fun x hx => ?_)) t4 ?_ (fun _ => rfl) (fun h => by rw [h]; rfl)⟩
    · simp only [List.mem_cons, List.mem_nil_iff, or_false] at hx
      omega
    · rw [t2]
      simp only [lv]
      omega
  simp only [Bool.cond_decide]
  by_cases h : z < 0
  · rw [if_pos h]
    apply key
    rw [w64_eq, w64_eq]
    omega
  · rw [if_neg h]
    apply key
    rw [w64_eq]
    omega
end
end Go.Proofs.Ytjghcbmalcopoaa.PvWhole2PO
namespace Go.Proofs.Ytjghcbmalcopoaa.PvDyadicPO
open Go.Av Go
open Go.Proofs.Ytjghcbmalcopoaa.PO
open Go.Proofs.Ytjghcbmalcopoaa.PvWholePO
open Go.Proofs.Ytjghcbmalcopoaa.PvWhole2PO
abbrev DY := WH × (Int × Unit)
theorem eta3 {α β : Type} (w : α × (β × Unit)) : (w.1, w.2.1, ()) = w := rfl
theorem eta4 {α β γ : Type} (w : α × (β × (γ × Unit))) : (w.1, w.2.1, w.2.2.1, ()) = w := rfl
/-- How big the numbers of a depth may be. -/
def sk (k : Nat) : Nat := 2000 * 4 ^ k
theorem sk_succ (k : Nat) : sk (k + 1) = 4 * sk k := by unfold sk; rw [Nat.pow_succ]; omega
theorem sk_pos (k : Nat) : 2000 ≤ sk k := by
  unfold sk
  have := Nat.pow_pos (n := k) (show 0 < 4 by decide)
  omega
theorem sk_le {k : Nat} (h : k ≤ 9) : sk k ≤ 524288000 := by
  unfold sk
  have : 4 ^ k ≤ 4 ^ 9 := Nat.pow_le_pow_right (by decide) h
  have e : 4 ^ 9 = 262144 := by decide
  omega
/-- d stands for q, and is not too big for a depth. -/
def Dn (k : Nat) (d : DY) (q : Rat) : Prop := ∃ z : Int, Wv d.1 z ∧ z.natAbs < 2 ^ sk k ∧ (-(sk k : Int) ≤ d.2.1 ∧ d.2.1 ≤ (sk k : Int)) ∧ q = (z : Rat) * P2 d.2.1
theorem Dn.up {k : Nat} {d : DY} {q : Rat} (h : Dn k d q) : Dn (k + 1) d q := by
  obtain ⟨z, h1, h2, h3, h4⟩ := h
  have := sk_succ k
  have : 2 ^ sk k ≤ 2 ^ sk (k + 1) := Nat.pow_le_pow_right (by decide) (by omega)
  exact ⟨z, h1, by omega, by omega, h4⟩
theorem Dn.upto {k m : Nat} {d : DY} {q : Rat} (h : Dn k d q) (hm : k ≤ m) : Dn m d q := by
  induction m with
  | zero => obtain rfl : k = 0 := by omega
            exact h
  | succ m ih =>
    rcases Nat.lt_or_ge m k with h1 | h1
    · obtain rfl : k = m + 1 := by omega
      exact h
    · exact (ih h1).up
/-- The sign of a difference. -/
def cmpq (x y : Rat) : Int := if x < y then -1 else if x = y then 0 else 1
theorem intCast_zero_lt {z : Int} : (z : Rat) < 0 ↔ z < 0 := by
  have : ((0 : Int) : Rat) = 0 := rfl
  rw [← this]; exact intCast_lt
theorem intCast_eq_zero {z : Int} : (z : Rat) = 0 ↔ z = 0 := by
  have : ((0 : Int) : Rat) = 0 := rfl
  rw [← this]; exact intCast_eq
theorem mulP2_neg {v : Rat} {e : Int} : v * P2 e < 0 ↔ v < 0 := by
  have hp := P2_pos e
  constructor
  · intro h
    apply Rat.not_le.1
    intro hv
    exact absurd h (Rat.not_lt.2 (Rat.mul_nonneg hv (Rat.le_of_lt hp)))
  · intro h
    apply Rat.not_le.1
    intro hv
    have h0 : 0 * P2 e ≤ v * P2 e := by rw [Rat.zero_mul]; exact hv
    exact absurd h (Rat.not_lt.2 ((mul_le hp).1 h0))
theorem mulP2_zero {v : Rat} {e : Int} : v * P2 e = 0 ↔ v = 0 := by
  have hp := P2_pos e
  constructor
  · intro h
    rcases Rat.mul_eq_zero.1 h with h | h
    · exact h
    · rw [h] at hp; exact absurd hp (by decide)
  · intro h; rw [h, Rat.zero_mul]
theorem Dn.sign {k : Nat} {d : DY} {q : Rat} (h : Dn k d q) : ∃ z : Int, Wv d.1 z ∧ cmpv z 0 = cmpq q 0 ∧ (z = 0 ↔ q = 0) := by
  obtain ⟨z, h1, h2, h3, h4⟩ := h
  have e1 : q < 0 ↔ z < 0 := by rw [h4, mulP2_neg, intCast_zero_lt]
  have e2 : q = 0 ↔ z = 0 := by rw [h4, mulP2_zero, intCast_eq_zero]
  refine ⟨z, h1, ?_, e2.symm⟩
  unfold cmpv cmpq
  simp only [e1, e2]
theorem int2pow (n : Nat) : (((2 ^ n : Nat) : Int) : Rat) = P2 (n : Int) := by
  rw [P2_nat]; rfl
section
variable {N : Nat} (hN : 0 < N) (hNl : 9223372036854775808 ≤ N)
include hN hNl
theorem dsign {k : Nat} {d : DY} {q : Rat} (h : Dn k d q) : spec_Dyadic_Sign N d = some (cmpq q 0) := by
  obtain ⟨z, h1, h2, h3⟩ := h.sign
  unfold spec_Dyadic_Sign spec_Dyadic_Sign_g
  rw [eta3, wsign_spec hN hNl h1, h2]; rfl
theorem dminus {k : Nat} {d : DY} {q : Rat} (h : Dn k d q) : ∃ c, spec_Dyadic_Minus N d = some c ∧ Dn k c (-q) := by
  obtain ⟨z, h1, h2, h3, h4⟩ := h
  obtain ⟨w, w1, w2⟩ := wminus_spec hN hNl h1
  unfold spec_Dyadic_Minus spec_Dyadic_Minus_g
  rw [eta3, w1]
  refine ⟨_, rfl, -z, w2, by omega, h3, ?_⟩
  rw [h4, Rat.intCast_neg]
  dsimp only
  grind
theorem dup {k : Nat} {a : WH} {x : Int} (ha : Wv a x) (hx : x.natAbs < 2 ^ sk k) (hk : k ≤ 8) (sh : Nat) (hs : sh ≤ 2 * sk k) : ∃ c, spec_Whole_Up N a (sh : Int) = some c ∧ Wv c (x * ((2 ^ sh : Nat) : Int)) ∧ (x * ((2 ^ sh : Nat) : Int)).natAbs < 2 ^ (3 * sk k) := by
  have h1 := sk_le (show k ≤ 9 by omega)
  obtain ⟨c, c1, c2⟩ := up_spec hN hNl ha sh (by omega) (by have := ha.len hx; omega)
  refine ⟨c, c1, c2, ?_⟩
  rw [Int.natAbs_mul, Int.natAbs_natCast]
  have e : 2 ^ (3 * sk k) = 2 ^ sk k * 2 ^ (2 * sk k) := by rw [← Nat.pow_add]; congr 1; omega
  have : 2 ^ sh ≤ 2 ^ (2 * sk k) := Nat.pow_le_pow_right (by decide) hs
  rw [e]
  exact Nat.lt_of_le_of_lt (Nat.mul_le_mul_left _ this) (Nat.mul_lt_mul_of_pos_right hx (Nat.two_pow_pos _))
theorem daddw {k : Nat} {a b : WH} {x y : Int} {ea eb : Int} (ha : Wv a x) (hb : Wv b y) (hx : x.natAbs < 2 ^ sk k) (hy : y.natAbs < 2 ^ sk k) (hk : k ≤ 8) (h1 : -(sk k : Int) ≤ ea ∧ ea ≤ (sk k : Int)) (h2 : -(sk k : Int) ≤ eb ∧ eb ≤ (sk k : Int)) (hle : eb ≤ ea) :
    ∃ u c, spec_Whole_Up N a (IntKind.i64.wrap (ea - eb)) = some u ∧ spec_Whole_Add N u b = some c ∧ Dn (k + 1) (c, eb, ()) ((x : Rat) * P2 ea + (y : Rat) * P2 eb) := by
  have s1 := sk_le (show k ≤ 9 by omega)
  have s2 := sk_succ k
  have s3 := sk_pos k
  have en : ea - eb = (((ea - eb).toNat : Nat) : Int) := by omega
  obtain ⟨u, u1, u2, u3⟩ := dup hN hNl ha hx hk (ea - eb).toNat (by omega)
  obtain ⟨c, c1, c2⟩ := wadd_spec hN hNl u2 hb (by have := u2.len u3; omega) (by have := hb.len hy; omega)
  refine ⟨u, c, by rw [wrap_in (by omega), en]; exact u1, c1, _, c2, ?_, ⟨by dsimp only; omega, by dsimp only; omega⟩, ?_⟩
  · have e : 2 ^ sk (k + 1) = 2 ^ (3 * sk k) * 2 ^ sk k := by rw [← Nat.pow_add, s2]; congr 1; omega
    have p1 : 2 ^ 1 ≤ 2 ^ sk k := Nat.pow_le_pow_right (by decide) (by omega)
    have p2 : 2 ^ sk k ≤ 2 ^ (3 * sk k) := Nat.pow_le_pow_right (by decide) (by omega)
    have p3 : 2 ^ (3 * sk k) * 2 ^ 1 ≤ 2 ^ (3 * sk k) * 2 ^ sk k := Nat.mul_le_mul_left _ p1
    omega
  · dsimp only
    rw [Rat.intCast_add, Rat.intCast_mul, int2pow, ← en]
    have : P2 ea = P2 (ea - eb) * P2 eb := P2_of (by omega)
    rw [this]
    grind
theorem dadd {k : Nat} {a b : DY} {x y : Rat} (ha : Dn k a x) (hb : Dn k b y) (hk : k ≤ 8) : ∃ c, spec_Dyadic_Add N a b = some c ∧ Dn (k + 1) c (x + y) := by
  unfold spec_Dyadic_Add spec_Dyadic_Add_g
  simp only [eta3]
  rw [dsign hN hNl ha, dsign hN hNl hb]
  simp only [Option.bind_some]
  have cz : ∀ q : Rat, (cmpq q 0 == 0) = decide (q = 0) := by
    intro q
    unfold cmpq
    by_cases h1 : q < 0
    · rw [if_pos h1, decide_eq_false (fun h => by rw [h] at h1; exact absurd h1 (by decide))]; rfl
    · rw [if_neg h1]
      by_cases h2 : q = 0
      · rw [if_pos h2, decide_eq_true h2]; rfl
      · rw [if_neg h2, decide_eq_false h2]; rfl
  rw [cz, cz]
  by_cases hx : x = 0
  · rw [decide_eq_true hx, cond_true]
    refine ⟨b, rfl, ?_⟩
    rw [hx, Rat.zero_add]; exact hb.up
  · rw [decide_eq_false hx, cond_false]
    by_cases hy : y = 0
    · rw [decide_eq_true hy, cond_true]
      refine ⟨a, rfl, ?_⟩
      rw [hy, Rat.add_zero]; exact ha.up
    · rw [decide_eq_false hy, cond_false]
      obtain ⟨za, a1, a2, a3, a4⟩ := ha
      obtain ⟨zb, b1, b2, b3, b4⟩ := hb
      simp only [Bool.cond_decide]
      by_cases hlt : a.2.1 > b.2.1
      · rw [if_pos hlt]
        obtain ⟨u, c, c1, c2, c3⟩ := daddw hN hNl a1 b1 a2 b2 hk a3 b3 (by omega)
        rw [c1]
        simp only [Option.bind_some]
        rw [c2]
        refine ⟨_, rfl, ?_⟩
        rw [a4, b4]; exact c3
      · rw [if_neg hlt]
        obtain ⟨u, c, c1, c2, c3⟩ := daddw hN hNl b1 a1 b2 a2 hk b3 a3 (by omega)
        rw [c1]
        simp only [Option.bind_some]
        rw [c2]
        refine ⟨_, rfl, ?_⟩
        rw [a4, b4, Rat.add_comm]; exact c3
theorem dsub {k : Nat} {a b : DY} {x y : Rat} (ha : Dn k a x) (hb : Dn k b y) (hk : k ≤ 8) : ∃ c, spec_Dyadic_Sub N a b = some c ∧ Dn (k + 1) c (x - y) := by
  unfold spec_Dyadic_Sub spec_Dyadic_Sub_g
  simp only [eta3]
  obtain ⟨m, m1, m2⟩ := dminus hN hNl hb
  obtain ⟨c, c1, c2⟩ := dadd hN hNl ha m2 hk
  rw [m1]
  simp only [Option.bind_some]
  rw [c1]
  refine ⟨c, rfl, ?_⟩
  rw [Rat.sub_eq_add_neg]; exact c2
theorem dmul {k : Nat} {a b : DY} {x y : Rat} (ha : Dn k a x) (hb : Dn k b y) (hk : k ≤ 8) : ∃ c, spec_Dyadic_Mul N a b = some c ∧ Dn (k + 1) c (x * y) := by
  unfold spec_Dyadic_Mul spec_Dyadic_Mul_g
  simp only [eta3]
  obtain ⟨za, a1, a2, a3, a4⟩ := ha
  obtain ⟨zb, b1, b2, b3, b4⟩ := hb
  have s1 := sk_le (show k ≤ 9 by omega)
  have s2 := sk_succ k
  have s3 := sk_pos k
  obtain ⟨c, c1, c2⟩ := mul_spec hN hNl a1 b1 (by have := a1.len a2; omega) (by have := b1.len b2; omega)
  rw [c1]
  simp only [Option.bind_some]
  rw [wrap_in (by omega)]
  refine ⟨_, rfl, za * zb, c2, ?_, ⟨by dsimp only; omega, by dsimp only; omega⟩, ?_⟩
  · rw [Int.natAbs_mul]
    have e : 2 ^ sk k * 2 ^ sk k ≤ 2 ^ sk (k + 1) := by rw [← Nat.pow_add]; exact Nat.pow_le_pow_right (by decide) (by omega)
    exact Nat.lt_of_lt_of_le (Nat.mul_lt_mul'' a2 b2) e
  · dsimp only
    rw [a4, b4, Rat.intCast_mul, P2_add]
    grind
theorem dcmp {k : Nat} {a b : DY} {x y : Rat} (ha : Dn k a x) (hb : Dn k b y) (hk : k ≤ 8) : spec_Dyadic_Cmp N a b = some (cmpq x y) := by
  unfold spec_Dyadic_Cmp spec_Dyadic_Cmp_g
  simp only [eta3]
  obtain ⟨c, c1, c2⟩ := dsub hN hNl ha hb hk
  rw [c1]
  simp only [Option.bind_some]
  rw [dsign hN hNl c2]
  simp only [Option.bind_some]
  congr 1
  unfold cmpq
  have e1 : x - y < 0 ↔ x < y := by constructor <;> intro h <;> grind
  have e2 : x - y = 0 ↔ x = y := by constructor <;> intro h <;> grind
  simp only [e1, e2]
theorem dofm (m e : Int) (x : Rat) (hm : -9007199254740992 ≤ m ∧ m ≤ 9007199254740992) (he : 0 ≤ e ∧ e ≤ 2047) (hx : x = (m : Rat) * P2 (e - 1075)) : ∃ c, spec_DyadicOf_j1 N e m = some c ∧ Dn 0 c x := by
  simp only [spec_DyadicOf_j1, spec_DyadicOf_g1, gate_pos hN]
  obtain ⟨c, c1, c2⟩ := wholeOf_spec hN hNl m (by omega)
  rw [c1, wrap_in (by omega)]
  refine ⟨_, rfl, m, c2, ?_, ⟨?_, ?_⟩, hx⟩
  · have : 2 ^ 64 ≤ 2 ^ sk 0 := Nat.pow_le_pow_right (by decide) (by have := sk_pos 0; omega)
    have e : 2 ^ 64 = 18446744073709551616 := by decide
    omega
  · dsimp only; have := sk_pos 0; omega
  · dsimp only; have := sk_pos 0; omega
theorem dof {x : Nat} (hx : fin x = true) (h64 : x < 18446744073709551616) : ∃ c, spec_DyadicOf N x = some c ∧ Dn 0 c (fv x) := by
  have hr : rung x < 9218868437227405312 := of_decide_eq_true hx
  have hmod : rung x = x % 9223372036854775808 := rfl
  have e52 : Int.fdiv ((x : Nat) : Int) (2 ^ (min (52 : Int).toNat (IntKind.bits .u64))) = ((x / 4503599627370496 : Nat) : Int) := by
    rw [show min (52 : Int).toNat (IntKind.bits .u64) = 52 by decide, Int.fdiv_eq_ediv_of_nonneg _ (by decide)]; omega
  have e63 : Int.fdiv ((x : Nat) : Int) (2 ^ (min (63 : Int).toNat (IntKind.bits .u64))) = ((x / 9223372036854775808 : Nat) : Int) := by
    rw [show min (63 : Int).toNat (IntKind.bits .u64) = 63 by decide, Int.fdiv_eq_ediv_of_nonneg _ (by decide)]; omega
  have b1 : bits .and .u64 ((x / 4503599627370496 : Nat) : Int) 2047 = ((x / 4503599627370496 % 2048 : Nat) : Int) := and_low (k := 11) (by decide) (by omega)
  have b2 : bits .and .u64 ((x : Nat) : Int) 4503599627370495 = ((x % 4503599627370496 : Nat) : Int) := and_low (k := 52) (by decide) (by omega)
  have key : ∀ (m e : Nat), m ≤ 9007199254740992 → e ≤ 2047 → (val (rung x) : Rat) * P2 (-1074) = (m : Rat) * P2 ((e : Int) - 1075) →
      ∃ c, spec_DyadicOf_j0 N ((x : Nat) : Int) (m : Int) (e : Int) = some c ∧ Dn 0 c (fv x) := by
    intro m e hm he hv
    simp only [spec_DyadicOf_j0, spec_DyadicOf_g0, gate_pos hN]
    rw [e63]
    by_cases hs : x / 9223372036854775808 = 1
    · have hb : (((x / 9223372036854775808 : Nat) : Int) == 1) = true := by rw [hs]; rfl
      rw [hb, cond_true, wrap_in (by omega)]
      apply dofm hN hNl _ _ _ (by omega) (by omega)
      have hsg : sgn x = true := by unfold sgn; rw [hs]; rfl
      rw [fv_eq, hsg]
      unfold sg
      rw [if_pos rfl, hv, show (0 : Int) - (m : Int) = -(m : Int) by omega, Rat.intCast_neg]
      have : (((m : Nat) : Int) : Rat) = (m : Rat) := rfl
      rw [this]; grind
    · have hb : (((x / 9223372036854775808 : Nat) : Int) == 1) = false := by simp; omega
      rw [hb, cond_false]
      apply dofm hN hNl _ _ _ (by omega) (by omega)
      have hsg : sgn x = false := by
        unfold sgn
        have : x / 9223372036854775808 = 0 := by omega
        rw [this]; rfl
      rw [fv_eq, hsg]
      unfold sg
      rw [if_neg (by decide), hv]
      rfl
  unfold spec_DyadicOf spec_DyadicOf_g math_Float64bits
  simp only [Option.bind_some]
  rw [e52, b1, b2, wrap_in (n := ((x / 4503599627370496 % 2048 : Nat) : Int)) (by omega), wrap_in (n := ((x % 4503599627370496 : Nat) : Int)) (by omega), wrap_in (n := ((x % 4503599627370496 : Nat) : Int) + 4503599627370496) (by omega)]
  have h2047 : (((x / 4503599627370496 % 2048 : Nat) : Int) == 2047) = false := by simp; omega
  rw [h2047, cond_false]
  by_cases h0 : x / 4503599627370496 % 2048 = 0
  · have hb : (((x / 4503599627370496 % 2048 : Nat) : Int) == 0) = true := by rw [h0]; rfl
    rw [hb, cond_true]
    apply key (x % 4503599627370496) 1 (by omega) (by omega)
    have hlt : rung x < 4503599627370496 := by omega
    unfold val
    rw [if_pos hlt, show rung x = x % 4503599627370496 by omega]
    rfl
  · have hb : (((x / 4503599627370496 % 2048 : Nat) : Int) == 0) = false := by simp; omega
    rw [hb, cond_false]
    have := key (x % 4503599627370496 + 4503599627370496) (x / 4503599627370496 % 2048) (by omega) (by omega) (by
      unfold val
      rw [if_neg (by omega)]
      have e1 : rung x % 4503599627370496 = x % 4503599627370496 := by omega
      have e2 : rung x / 4503599627370496 = x / 4503599627370496 % 2048 := by omega
      rw [e1, e2, Rat.natCast_mul, ← P2_nat, Nat.add_comm]
      have : P2 ((x / 4503599627370496 % 2048 : Nat) - 1075) = P2 ((x / 4503599627370496 % 2048 - 1 : Nat)) * P2 (-1074) := P2_of (by omega)
      rw [this]; grind)
    exact this
end
end Go.Proofs.Ytjghcbmalcopoaa.PvDyadicPO
namespace Go.Proofs.Ytjghcbmalcopoaa.PvWholeToPO
open Go.Av Go
open Go.Proofs.Ytjghcbmalcopoaa.PO
/-- A whole number within bounds. -/
def In (B : Int) (x : Nat) : Prop := ∃ k : Int, Wh x k ∧ -B ≤ k ∧ k ≤ B
theorem abs_def {N x : Nat} : math_Abs N x = some (fabs x) := by
  simp only [math_Abs, math_Abs_g, math_Float64bits, math_Float64frombits, Option.bind_some, abs_bits, Int.toNat_natCast, fabs]
section
variable {N : Nat} {m : Nat} {B : Int} (hm : Wh m B) (hB : B ≤ 9007199254740992)
include hm hB
theorem in_of {x y : Nat} (hw : fwhole .zero x = some y) (he : feq x y = true) (hf : fgt (fabs x) m = false) : In B x := by
  have hn : isnan x = false := by
    rw [feq_eq] at he
    cases h : isnan x with
    | false => rfl
    | true => rw [h] at he; simp at he
  obtain ⟨h1, h2⟩ := fin_of_abs hm hn hf
  have h3 : fv x ≤ (B : Rat) := by unfold ab at h2; grind
  have h4 : -(B : Rat) ≤ fv x := by unfold ab at h2; grind
  exact wh_of_trunc h1 hw he h3 h4 hB
theorem wholes (hN : 0 < N) (l : List Nat) (hl : l.length ≤ 9223372036854775806) : ∀ (c i n : Nat), i + c = l.length → c + 1 ≤ n →
    laws_wholeTo_l0 N n m l (i : Int) = some false ∨ (laws_wholeTo_l0 N n m l (i : Int) = some true ∧ ∀ (j : Nat) x, i ≤ j → l[j]? = some x → In B x)
  | 0, i, n, hi, hn => by
    obtain ⟨n, rfl⟩ : ∃ m, n = m + 1 := ⟨n - 1, by omega⟩
    simp only [laws_wholeTo_l0, laws_wholeTo_g0, Bool.cond_decide]
    rw [if_neg (by omega)]
    exact .inr ⟨rfl, fun j x hj hx => by rw [List.getElem?_eq_none (by omega)] at hx; cases hx⟩
  | c + 1, i, n, hi, hn => by
    obtain ⟨n, rfl⟩ : ∃ m, n = m + 1 := ⟨n - 1, by omega⟩
    have hlt : i < l.length := by omega
    have ih := wholes hN l hl c (i + 1) n (by omega) (by omega)
    simp only [laws_wholeTo_l0, laws_wholeTo_g0, laws_wholeTo_j1, laws_wholeTo_g1, Bool.cond_decide, gate_pos hN]
    rw [if_pos (by omega), nth_nat, List.getElem?_eq_getElem hlt]
    simp only [Option.bind_some, math_Trunc, math_Trunc_g, math_archTrunc, fwholeN]
    cases hw : fwhole .zero l[i] with
    | none => exact .inl rfl
    | some y =>
      simp only [Sum.elim_inl, Option.bind_some, fne_not]
      cases he : feq l[i] y with
      | false => exact .inl rfl
      | true =>
        simp only [Bool.not_true, cond_false, abs_def, Option.bind_some]
        cases hf : fgt (fabs l[i]) m with
        | true => exact .inl rfl
        | false =>
          simp only [cond_false]
          rw [wrap_in (n := (i : Int) + 1) (by omega), show (i : Int) + 1 = ((i + 1 : Nat) : Int) by omega]
          rcases ih with ih | ⟨ih, ih2⟩
          · exact .inl ih
          · refine .inr ⟨ih, fun j x hj hx => ?_⟩
            rcases Nat.lt_or_ge i j with hij | hij
            · exact ih2 j x (by omega) hx
            · have : j = i := by omega
              subst this
              rw [List.getElem?_eq_getElem hlt] at hx
              simp only [Option.some.injEq] at hx
              subst hx
              exact in_of hm hB hw he hf
theorem wholeTo (l : List Nat) (hN : l.length + 1 ≤ N) (hl : l.length ≤ 9223372036854775806) :
    laws_wholeTo N m l = some false ∨ (laws_wholeTo N m l = some true ∧ ∀ x ∈ l, In B x) := by
  rcases wholes hm hB (N := N) (by omega) l hl l.length 0 N (by omega) hN with h | ⟨h, h2⟩
  · exact .inl h
  · refine .inr ⟨h, fun x hx => ?_⟩
    obtain ⟨i, hi, rfl⟩ := List.getElem_of_mem hx
    exact h2 i _ (by omega) (List.getElem?_eq_getElem hi)
end
end Go.Proofs.Ytjghcbmalcopoaa.PvWholeToPO
namespace Go.Proofs.Ytjghcbmalcopoaa.PvPlaneToPO
open Go.Av Go
open Go.Proofs.Ytjghcbmalcopoaa.PO
open Go.Proofs.Ytjghcbmalcopoaa.PvWholeToPO
section
variable {N : Nat} {m : Nat} {B : Int} (hm : Wh m B) (hB : B ≤ 9007199254740992)
include hm hB
theorem planes (hN : 3 ≤ N) (l : List (Nat × (Nat × Unit))) (hl : l.length ≤ 9223372036854775806) : ∀ (c i n : Nat), i + c = l.length → c + 1 ≤ n →
    laws_planeTo_l0 N n m l (i : Int) = some false ∨ (laws_planeTo_l0 N n m l (i : Int) = some true ∧ ∀ (j : Nat) x, i ≤ j → l[j]? = some x → In B x.1 ∧ In B x.2.1)
  | 0, i, n, hi, hn => by
    obtain ⟨n, rfl⟩ : ∃ m, n = m + 1 := ⟨n - 1, by omega⟩
    simp only [laws_planeTo_l0, laws_planeTo_g0, Bool.cond_decide]
    rw [if_neg (by omega)]
    exact .inr ⟨rfl, fun j x hj hx => by rw [List.getElem?_eq_none (by omega)] at hx; cases hx⟩
  | c + 1, i, n, hi, hn => by
    obtain ⟨n, rfl⟩ : ∃ m, n = m + 1 := ⟨n - 1, by omega⟩
    have hlt : i < l.length := by omega
    have ih := planes hN l hl c (i + 1) n (by omega) (by omega)
    simp only [laws_planeTo_l0, laws_planeTo_g0, Bool.cond_decide]
    rw [if_pos (by omega), nth_nat, List.getElem?_eq_getElem hlt]
    simp only [Option.bind_some]
    rcases wholeTo hm hB (N := N) [l[i].1, l[i].2.1] (by simp; omega) (by simp) with h | ⟨h, h2⟩
    · rw [h]; exact .inl rfl
    · rw [h]
      simp only [Option.bind_some, Bool.not_true, cond_false]
      rw [wrap_in (n := (i : Int) + 1) (by omega), show (i : Int) + 1 = ((i + 1 : Nat) : Int) by omega]
      rcases ih with ih | ⟨ih, ih2⟩
      · exact .inl ih
      · refine .inr ⟨ih, fun j x hj hx => ?_⟩
        rcases Nat.lt_or_ge i j with hij | hij
        · exact ih2 j x (by omega) hx
        · have : j = i := by omega
          subst this
          rw [List.getElem?_eq_getElem hlt] at hx
          simp only [Option.some.injEq] at hx
          subst hx
          exact ⟨h2 _ (by simp), h2 _ (by simp)⟩
theorem planeTo (hN : 3 ≤ N) (l : List (Nat × (Nat × Unit))) (hN2 : l.length + 1 ≤ N) (hl : l.length ≤ 9223372036854775806) :
    laws_planeTo N m l = some false ∨ (laws_planeTo N m l = some true ∧ ∀ x ∈ l, In B x.1 ∧ In B x.2.1) := by
  rcases planes hm hB hN l hl l.length 0 N (by omega) hN2 with h | ⟨h, h2⟩
  · exact .inl h
  · refine .inr ⟨h, fun x hx => ?_⟩
    obtain ⟨i, hi, rfl⟩ := List.getElem_of_mem hx
    exact h2 i _ (by omega) (List.getElem?_eq_getElem hi)
end
end Go.Proofs.Ytjghcbmalcopoaa.PvPlaneToPO
namespace Go.Proofs.Ytjghcbmalcopoaa.PvOrientPO
open Go.Av Go
open Go.Proofs.Ytjghcbmalcopoaa.PO
def sgn3 (d : Int) : Int := if 0 < d then 1 else if d < 0 then -1 else 0
theorem sgn3_le (d : Int) : sgn3 d ≤ 1 := by unfold sgn3; split; omega; split <;> omega
/-- Twice the area of the triangle. -/
def cross (AX AY BX BY PX PY : Int) : Int := (AX - PX) * (BY - PY) - (AY - PY) * (BX - PX)
theorem cross_eq (AX AY BX BY PX PY : Int) : (BX - AX) * (PY - BY) - (BY - AY) * (PX - BX) = cross AX AY BX BY PX PY := by unfold cross; grind
section
variable {N : Nat} (hN : 0 < N)
theorem based {v : Nat} {D : Int} (h : Wh v D) : bigxy_orientationBasedOnSign N v = some (sgn3 D) := by
  unfold bigxy_orientationBasedOnSign bigxy_orientationBasedOnSign_g sgn3
  rw [fgt_wh h wh_zero, flt_wh h wh_zero, Bool.cond_decide, Bool.cond_decide]
  split
  · rfl
  · split <;> rfl
theorem prod_le {a b : Int} {A B : Nat} (ha : a.natAbs ≤ A) (hb : b.natAbs ≤ B) : (a * b).natAbs ≤ A * B := by
  rw [Int.natAbs_mul]; exact Nat.mul_le_mul ha hb
theorem dif_le {a b : Int} (ha : -33554432 ≤ a ∧ a ≤ 33554432) (hb : -33554432 ≤ b ∧ b ≤ 33554432) : (a - b).natAbs ≤ 67108864 := by omega
theorem prod26 {a b : Int} (ha : a.natAbs ≤ 67108864) (hb : b.natAbs ≤ 67108864) : (a * b).natAbs ≤ 4503599627370496 := prod_le ha hb
include hN in
theorem orient {ax ay bx bY px py : Nat} {AX AY BX BY PX PY : Int} (wax : Wh ax AX) (way : Wh ay AY) (wbx : Wh bx BX) (wby : Wh bY BY) (wpx : Wh px PX) (wpy : Wh py PY)
    (hax : -33554432 ≤ AX ∧ AX ≤ 33554432) (hay : -33554432 ≤ AY ∧ AY ≤ 33554432) (hbx : -33554432 ≤ BX ∧ BX ≤ 33554432) (hby : -33554432 ≤ BY ∧ BY ≤ 33554432) (hpx : -33554432 ≤ PX ∧ PX ≤ 33554432) (hpy : -33554432 ≤ PY ∧ PY ≤ 33554432)
    (ra rb rp : List Nat) : bigxy_OrientationIndex N (ax :: ay :: ra) (bx :: bY :: rb) (px :: py :: rp) = some (sgn3 (cross AX AY BX BY PX PY)) := by
  obtain ⟨z6, e6, w6⟩ := sub_wh wax wpx (by have := dif_le hax hpx; omega)
  obtain ⟨z9, e9, w9⟩ := sub_wh wby wpy (by have := dif_le hby hpy; omega)
  obtain ⟨z13, e13, w13⟩ := sub_wh way wpy (by have := dif_le hay hpy; omega)
  obtain ⟨z16, e16, w16⟩ := sub_wh wbx wpx (by have := dif_le hbx hpx; omega)
  have p1 := prod26 (dif_le hax hpx) (dif_le hby hpy)
  have p2 := prod26 (dif_le hay hpy) (dif_le hbx hpx)
  obtain ⟨z10, e10, w10⟩ := mul_wh w6 w9 (Nat.le_trans p1 (by decide))
  obtain ⟨z17, e17, w17⟩ := mul_wh w13 w16 (Nat.le_trans p2 (by decide))
  have hc : (AX - PX) * (BY - PY) - (AY - PY) * (BX - PX) = cross AX AY BX BY PX PY := rfl
  generalize (AX - PX) * (BY - PY) = L at p1 w10 hc
  generalize (AY - PY) * (BX - PX) = R at p2 w17 hc
  obtain ⟨z18, e18, w18⟩ := sub_wh w10 w17 (by omega)
  obtain ⟨z20, e20, w20⟩ := add_wh w10 w17 (by omega)
  obtain ⟨z22, e22, w22⟩ := sub_wh (fneg_wh w10) w17 (by omega)
  rw [hc] at w18
  have bs := based (N := N) w18
  -- the filter tells the turn, or that it does not know
  have j0 : ∀ (z : Nat) (k : Int), Wh z k → k.natAbs ≤ 9007199254740992 → bigxy_orientationIndexFilter_j0 N z18 z = some (sgn3 (cross AX AY BX BY PX PY)) ∨ bigxy_orientationIndexFilter_j0 N z18 z = some 2 := by
    intro z k hz hk
    unfold bigxy_orientationIndexFilter_j0 bigxy_orientationIndexFilter_g0
    rw [gate_pos hN]
    cases Ieee.double.mul (gv N) z with
    | none => exact .inr rfl
    | some e =>
      simp only [Option.elim, bs, Option.bind_some]
      cases fge z18 e
      · cases fge (fneg z18) e
        · exact .inr rfl
        · exact .inl rfl
      · exact .inl rfl
  have hf : bigxy_orientationIndexFilter N (ax :: ay :: ra) (bx :: bY :: rb) (px :: py :: rp) = some (sgn3 (cross AX AY BX BY PX PY)) ∨ bigxy_orientationIndexFilter N (ax :: ay :: ra) (bx :: bY :: rb) (px :: py :: rp) = some 2 := by
    unfold bigxy_orientationIndexFilter bigxy_orientationIndexFilter_g
    have n0 : ∀ (a b : Nat) (r : List Nat), nth (a :: b :: r) 0 = some a := fun _ _ _ => rfl
    have n1 : ∀ (a b : Nat) (r : List Nat), nth (a :: b :: r) 1 = some b := fun _ _ _ => rfl
    simp only [n0, n1, Option.bind_some, e6, e9, e10, e13, e16, e17, e18, bs]
    cases fgt z10 0
    · cases flt z10 0
      · exact .inl rfl
      · simp only [cond_false, cond_true]
        cases fge z17 0
        · simp only [cond_false, e22, Option.bind_some]; exact j0 _ _ w22 (by omega)
        · exact .inl rfl
    · simp only [cond_true]
      cases fle z17 0
      · simp only [cond_false, e20, Option.bind_some]; exact j0 _ _ w20 (by omega)
      · exact .inl rfl
  unfold bigxy_OrientationIndex bigxy_OrientationIndex_g
  rcases hf with hf | hf
  · rw [hf]
    simp only [Option.bind_some, Bool.cond_decide]
    rw [if_pos (sgn3_le _)]
  · rw [hf]
    simp only [Option.bind_some, Bool.cond_decide]
    rw [if_neg (by omega)]
    have n0 : ∀ (a b : Nat) (r : List Nat), nth (a :: b :: r) 0 = some a := fun _ _ _ => rfl
    have n1 : ∀ (a b : Nat) (r : List Nat), nth (a :: b :: r) 1 = some b := fun _ _ _ => rfl
    obtain ⟨y7, f7, u7⟩ := sub_wh wbx wax (by have := dif_le hbx hax; omega)
    obtain ⟨y10, f10, u10⟩ := sub_wh wby way (by have := dif_le hby hay; omega)
    obtain ⟨y13, f13, u13⟩ := sub_wh wpx wbx (by have := dif_le hpx hbx; omega)
    obtain ⟨y16, f16, u16⟩ := sub_wh wpy wby (by have := dif_le hpy hby; omega)
    have q1 := prod26 (dif_le hbx hax) (dif_le hpy hby)
    have q2 := prod26 (dif_le hby hay) (dif_le hpx hbx)
    obtain ⟨y17, f17, u17⟩ := mul_wh u7 u16 (Nat.le_trans q1 (by decide))
    obtain ⟨y18, f18, u18⟩ := mul_wh u10 u13 (Nat.le_trans q2 (by decide))
    have hc2 := cross_eq AX AY BX BY PX PY
    generalize (BX - AX) * (PY - BY) = L2 at q1 u17 hc2
    generalize (BY - AY) * (PX - BX) = R2 at q2 u18 hc2
    obtain ⟨y19, f19, u19⟩ := sub_wh u17 u18 (by omega)
    rw [hc2] at u19
    simp only [n0, n1, Option.bind_some, f7, f10, f13, f16, f17, f18, f19, based (N := N) u19]
end
end Go.Proofs.Ytjghcbmalcopoaa.PvOrientPO
namespace Go.Proofs.Ytjghcbmalcopoaa.PvOn
open Go.Av Go
open Go.Proofs.Ytjghcbmalcopoaa.PO
open Go.Proofs.Ytjghcbmalcopoaa.PvWholeToPO
open Go.Proofs.Ytjghcbmalcopoaa.PvPlaneToPO
open Go.Proofs.Ytjghcbmalcopoaa.PvWholePO
open Go.Proofs.Ytjghcbmalcopoaa.PvWhole2PO
open Go.Proofs.Ytjghcbmalcopoaa.PvDyadicPO
open Go.Proofs.Ytjghcbmalcopoaa.PvOrientPO
abbrev Pt := Nat × (Nat × Unit)
theorem cmpq_int (a b : Int) : cmpq (a : Rat) (b : Rat) = if a < b then -1 else if a = b then 0 else 1 := by
  unfold cmpq
  simp only [intCast_lt, intCast_eq]
theorem etaY : ∀ p : DY, ((p.1.1, p.1.2.1, ()), p.2.1, ()) = p := fun _ => rfl
theorem eta2 : ∀ p : DY × (DY × Unit), (p.1, p.2.1, ()) = p := fun _ => rfl
theorem sgn3_zero (d : Int) : (sgn3 d == 0) = decide (d = 0) := by
  unfold sgn3
  by_cases h : d = 0
  · subst h; rfl
  · rw [decide_eq_false h]
    split
    · rfl
    · split
      · rfl
      · omega
section
variable {N : Nat} (hN : 0 < N) (hNl : 9223372036854775808 ≤ N)
include hN hNl
theorem exact2 {p : Pt} {X Y : Int} (hx : Wh p.1 X) (hy : Wh p.2.1 Y) (lx : p.1 < 18446744073709551616) (ly : p.2.1 < 18446744073709551616) :
    ∃ P, laws_exactly N (p.1, p.2.1, ()) = some P ∧ Dn 0 P.1 (X : Rat) ∧ Dn 0 P.2.1 (Y : Rat) := by
  obtain ⟨a, e1, h1⟩ := dof hN hNl hx.1 lx
  obtain ⟨b, e2, h2⟩ := dof hN hNl hy.1 ly
  rw [hx.2] at h1
  rw [hy.2] at h2
  refine ⟨(a, b, ()), ?_, h1, h2⟩
  simp only [laws_exactly, laws_exactly_g, spec_PointOf, spec_PointOf_g, e1, e2, Option.bind_some]
theorem orient_spec {A B P : DY × (DY × Unit)} {ax ay bx bY px py : Int} (h1 : Dn 0 A.1 (ax : Rat)) (h2 : Dn 0 A.2.1 (ay : Rat)) (h3 : Dn 0 B.1 (bx : Rat)) (h4 : Dn 0 B.2.1 (bY : Rat)) (h5 : Dn 0 P.1 (px : Rat)) (h6 : Dn 0 P.2.1 (py : Rat)) :
    spec_Orient N A B P = some (cmpq ((((bx - ax) * (py - ay) - (bY - ay) * (px - ax) : Int)) : Rat) 0) := by
  obtain ⟨v4, e4, d4⟩ := dsub hN hNl h3 h1 (by decide)
  obtain ⟨v5, e5, d5⟩ := dsub hN hNl h6 h2 (by decide)
  obtain ⟨v6, e6, d6⟩ := dmul hN hNl d4 d5 (by decide)
  obtain ⟨v7, e7, d7⟩ := dsub hN hNl h4 h2 (by decide)
  obtain ⟨v8, e8, d8⟩ := dsub hN hNl h5 h1 (by decide)
  obtain ⟨v9, e9, d9⟩ := dmul hN hNl d7 d8 (by decide)
  obtain ⟨v10, e10, d10⟩ := dsub hN hNl d6 d9 (by decide)
  have hs := dsign hN hNl d10
  have hcr : spec_Cross N A B P = some v10 := by
    show (Option.bind (spec_Dyadic_Sub N B.1 A.1) fun v4 => Option.bind (spec_Dyadic_Sub N P.2.1 A.2.1) fun v5 => Option.bind (spec_Dyadic_Mul N v4 v5) fun v6 => Option.bind (spec_Dyadic_Sub N B.2.1 A.2.1) fun v7 => Option.bind (spec_Dyadic_Sub N P.1 A.1) fun v8 => Option.bind (spec_Dyadic_Mul N v7 v8) fun v9 => Option.bind (spec_Dyadic_Sub N v6 v9) fun v10 => some v10) = _
    simp only [e4, e5, e6, e7, e8, e9, e10, Option.bind_some]
  show (Option.bind (spec_Cross N A B P) fun v4 => Option.bind (spec_Dyadic_Sign N v4) fun v5 => some v5) = _
  rw [hcr]
  simp only [Option.bind_some, hs]
  congr 2
  rw [Rat.intCast_sub, Rat.intCast_mul, Rat.intCast_mul, Rat.intCast_sub, Rat.intCast_sub, Rat.intCast_sub, Rat.intCast_sub]

theorem cmp_le {A B : DY} {x y : Int} (hA : Dn 0 A (x : Rat)) (hB : Dn 0 B (y : Rat)) : ∃ k : Int, spec_Dyadic_Cmp N A B = some k ∧ decide (k ≤ 0) = decide (x ≤ y) := by
  obtain ⟨c, e, d⟩ := dsub hN hNl hA hB (by decide)
  refine ⟨cmpq ((x : Rat) - (y : Rat)) 0, ?_, ?_⟩
  · show (Option.bind (spec_Dyadic_Sub N A B) fun v3 => Option.bind (spec_Dyadic_Sign N v3) fun v4 => some v4) = _
    rw [e]
    simp only [Option.bind_some, dsign hN hNl d]
  · rw [← Rat.intCast_sub, show (0 : Rat) = ((0 : Int) : Rat) from rfl, cmpq_int, decide_eq_decide]
    split
    · omega
    · split <;> omega
def between (a b x : Int) : Bool := decide ((a ≤ x ∧ x ≤ b) ∨ (b ≤ x ∧ x ≤ a))
theorem between_spec {A B P : DY} {a b x : Int} (hA : Dn 0 A (a : Rat)) (hB : Dn 0 B (b : Rat)) (hP : Dn 0 P (x : Rat)) : spec_Between N A B P = some (between a b x) := by
  obtain ⟨k1, e1, d1⟩ := cmp_le hN hNl hA hP
  obtain ⟨k2, e2, d2⟩ := cmp_le hN hNl hP hB
  obtain ⟨k3, e3, d3⟩ := cmp_le hN hNl hB hP
  obtain ⟨k4, e4, d4⟩ := cmp_le hN hNl hP hA
  simp only [spec_Between, spec_Between_g, etaY, e1, e2, e3, e4, Option.bind_some, d1, d2, d3, d4]
  unfold between
  by_cases h1 : a ≤ x <;> by_cases h2 : x ≤ b <;> by_cases h3 : b ≤ x <;> by_cases h4 : x ≤ a <;> simp [h1, h2, h3, h4]
/-- Is it on the segment? -/
def onS (px py ax ay bx bY : Int) : Bool := decide (cross ax ay bx bY px py = 0) && (between ax bx px && between ay bY py)
theorem on_spec {A B P : DY × (DY × Unit)} {ax ay bx bY px py : Int} (h1 : Dn 0 A.1 (ax : Rat)) (h2 : Dn 0 A.2.1 (ay : Rat)) (h3 : Dn 0 B.1 (bx : Rat)) (h4 : Dn 0 B.2.1 (bY : Rat)) (h5 : Dn 0 P.1 (px : Rat)) (h6 : Dn 0 P.2.1 (py : Rat)) :
    spec_OnSegment N P A B = some (onS px py ax ay bx bY) := by
  have ho := orient_spec hN hNl h1 h2 h3 h4 h5 h6
  have hx := between_spec hN hNl h1 h3 h5
  have hy := between_spec hN hNl h2 h4 h6
  have c4 : (bx - ax) * (py - ay) - (bY - ay) * (px - ax) = cross ax ay bx bY px py := by unfold cross; grind
  rw [c4, show (0 : Rat) = ((0 : Int) : Rat) from rfl, cmpq_int] at ho
  simp only [spec_OnSegment, spec_OnSegment_g, etaY, eta2, ho, hx, hy, Option.bind_some]
  unfold onS
  by_cases h : cross ax ay bx bY px py = 0
  · rw [h]
    simp only [decide_true, Bool.true_and]
    cases between ax bx px <;> rfl
  · rw [decide_eq_false h, Bool.false_and]
    by_cases h2 : cross ax ay bx bY px py < 0
    · rw [if_pos h2]; rfl
    · rw [if_neg h2, if_neg h]; rfl
/-- The code's own question: within the box of the ends. -/
theorem within {px py ax ay bx bY : Nat} {PX PY AX AY BX BY : Int} (wpx : Wh px PX) (wpy : Wh py PY) (wax : Wh ax AX) (way : Wh ay AY) (wbx : Wh bx BX) (wby : Wh bY BY) :
    inner_IsPointWithinLineBounds N [px, py] [ax, ay] [bx, bY] = some (between AX BX PX && between AY BY PY) := by
  have n0 : ∀ (a b : Nat), nth [a, b] 0 = some a := fun _ _ => rfl
  have n1 : ∀ (a b : Nat), nth [a, b] 1 = some b := fun _ _ => rfl
  have m1 := fmin_wh wax wbx
  have m2 := fmax_wh wax wbx
  have m3 := fmin_wh way wby
  have m4 := fmax_wh way wby
  simp only [inner_IsPointWithinLineBounds, inner_IsPointWithinLineBounds_g, n0, n1, math_Min, math_Min_g, math_archMin, math_Max, math_Max_g, math_archMax, Option.bind_some, fle_wh m1 wpx, fge_wh m2 wpx, fle_wh m3 wpy, fge_wh m4 wpy]
  have k : ∀ a b x : Int, between a b x = (decide (min a b ≤ x) && decide (x ≤ max a b)) := fun a b x => by
    unfold between
    by_cases h1 : min a b ≤ x <;> by_cases h2 : x ≤ max a b <;> simp [h1, h2] <;> omega
  rw [k, k]
  cases decide (min AX BX ≤ PX) <;> cases decide (PX ≤ max AX BX) <;> cases decide (min AY BY ≤ PY) <;> rfl
theorem equal_some {px py ax ay : Nat} : ∃ b, inner_Equal N [px, py] 0 [ax, ay] 0 = some b := by
  have k : inner_Equal N [px, py] 0 [ax, ay] 0 = bif fne px ax then some false else bif fne py ay then some false else some true := by kernel_rfl
  rw [k]
  cases fne px ax <;> cases fne py ay <;> exact ⟨_, rfl⟩
/-- The robust way. -/
theorem robust {px py ax ay bx bY : Nat} {PX PY AX AY BX BY : Int} (wpx : Wh px PX) (wpy : Wh py PY) (wax : Wh ax AX) (way : Wh ay AY) (wbx : Wh bx BX) (wby : Wh bY BY)
    (hpx : -33554432 ≤ PX ∧ PX ≤ 33554432) (hpy : -33554432 ≤ PY ∧ PY ≤ 33554432) (hax : -33554432 ≤ AX ∧ AX ≤ 33554432) (hay : -33554432 ≤ AY ∧ AY ≤ 33554432) (hbx : -33554432 ≤ BX ∧ BX ≤ 33554432) (hby : -33554432 ≤ BY ∧ BY ≤ 33554432) :
    lineintersector_PointIntersectsLine N () [px, py] [ax, ay] [bx, bY] = some (onS PX PY AX AY BX BY) := by
  have hw := within hN hNl wpx wpy wax way wbx wby
  have o1 := orient hN wax way wbx wby wpx wpy hax hay hbx hby hpx hpy [] [] []
  have o2 := orient hN wbx wby wax way wpx wpy hbx hby hax hay hpx hpy [] [] []
  obtain ⟨b1, q1⟩ := equal_some hN hNl (px := px) (py := py) (ax := ax) (ay := ay)
  obtain ⟨b2, q2⟩ := equal_some hN hNl (px := px) (py := py) (ax := bx) (ay := bY)
  have c2 : cross BX BY AX AY PX PY = -cross AX AY BX BY PX PY := by unfold cross; grind
  rw [c2] at o2
  unfold lineintersector_PointIntersectsLine lineintersector_PointIntersectsLine_g lineintersector_RobustLineIntersector_computePointOnLineIntersection lineintersector_RobustLineIntersector_computePointOnLineIntersection_g
  unfold onS
  rw [hw, Option.bind_some]
  cases hb : between AX BX PX && between AY BY PY with
  | false => rw [Bool.and_false]; simp only [cond_false, lineintersector_RobustLineIntersector_computePointOnLineIntersection_j1, lineintersector_RobustLineIntersector_computePointOnLineIntersection_g1, gate_pos hN, Option.bind_some]; rfl
  | true =>
    rw [Bool.and_true, cond_true, o1, Option.bind_some, sgn3_zero]
    by_cases hc : cross AX AY BX BY PX PY = 0
    · rw [decide_eq_true hc, cond_true, o2, Option.bind_some, sgn3_zero, decide_eq_true (show -cross AX AY BX BY PX PY = 0 by omega), cond_true, q1, Option.bind_some]
      cases b1 with
      | true => simp only [cond_true, lineintersector_RobustLineIntersector_computePointOnLineIntersection_j0, lineintersector_RobustLineIntersector_computePointOnLineIntersection_g0, gate_pos hN, Option.bind_some]; rfl
      | false =>
        rw [cond_false, q2, Option.bind_some]
        cases b2 <;> simp only [cond_true, cond_false, lineintersector_RobustLineIntersector_computePointOnLineIntersection_j0, lineintersector_RobustLineIntersector_computePointOnLineIntersection_g0, gate_pos hN, Option.bind_some] <;> rfl
    · rw [decide_eq_false hc, cond_false]
      simp only [lineintersector_RobustLineIntersector_computePointOnLineIntersection_j1, lineintersector_RobustLineIntersector_computePointOnLineIntersection_g1, gate_pos hN, Option.bind_some]; rfl
end
end Go.Proofs.Ytjghcbmalcopoaa.PvOn
