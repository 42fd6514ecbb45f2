/- Whole numbers of any size, as the laws reckon them: what each function gives. -/
import Derived.Test.YtjabjnkiddldeaaGreatPC
import Derived.Test.YtjabjnkiddldeaaGreatPv3
set_option linter.unusedVariables false
set_option linter.unusedSectionVars false
set_option linter.unusedSimpArgs false
namespace Go.Proofs.YtjabjnkiddldeaaGreat.PvWholePC
open Go.Av Go
open Go.Proofs.YtjabjnkiddldeaaGreat.PC
/-- t is l without zeros at its end. -/
def Tr (l t : List Int) : Prop := lv t = lv l ∧ (Lim l → Lim t) ∧ Nrm t ∧ t.length ≤ l.length
theorem Tr.snoc {r t : List Int} (h : Tr r t) : Tr (r ++ [0]) t := by
  obtain ⟨h1, h2, h3, h4⟩ := h
  refine ⟨by rw [lv_snoc, h1]; omega, fun hl => h2 hl.left, h3, by rw [List.length_append]; omega⟩
section
variable {N : Nat} (hN : 0 < N) (hNl : 9223372036854775808 ≤ N)
include hN hNl
theorem trim_loop : ∀ (n : Nat) (l : List Int), l.length + 1 ≤ n → l.length ≤ 4611686018427387904 → ∃ t, spec_trim_l0 N n l = some t ∧ Tr l t
  | 0, l, h, _ => by omega
  | n + 1, l, h, hm => by
    rcases snoc_cases l with rfl | ⟨r, x, rfl⟩
    · refine ⟨[], ?_, rfl, id, Nrm.nil, Nat.le_refl _⟩
      simp only [spec_trim_l0, spec_trim_g0, spec_trim_j1, spec_trim_g1, gate_pos hN]
      rfl
    · rw [List.length_append, List.length_singleton] at h hm
      have hlen : ((r ++ [x]).length : Int) = (r.length : Int) + 1 := by rw [List.length_append, List.length_singleton]; omega
      have hg : nth (r ++ [x]) (r.length : Int) = some x := by rw [nth_nat, List.getElem?_append_right (Nat.le_refl _), Nat.sub_self]; rfl
      simp only [spec_trim_l0, spec_trim_g0, spec_trim_j1, spec_trim_g1, gate_pos hN, Bool.cond_decide]
      rw [hlen, if_pos (by omega), show (r.length : Int) + 1 - 1 = r.length by omega, wrap_in (by omega), hg]
      simp only [Option.bind_some]
      by_cases hx : x = 0
      · subst hx
        obtain ⟨t, h1, h2⟩ := trim_loop n r (by omega) (by omega)
        refine ⟨t, ?_, h2.snoc⟩
        rw [chk2_int (by rw [List.length_append, List.length_singleton]; omega)]
        simp only [beq_self_eq_true, cond_true, Option.bind_some, Int.toNat_zero, List.drop_zero, Int.toNat_natCast, Nat.sub_zero]
        rw [List.take_left', h1]
        rfl
      · have hb : (x == 0) = false := by simpa using hx
        rw [hb]
        refine ⟨r ++ [x], rfl, rfl, id, ?_, Nat.le_refl _⟩
        intro r' x' e
        have := List.append_inj_right' e rfl
        simp only [List.cons.injEq, and_true] at this
        rw [← this]; exact hx
theorem trim_spec (l : List Int) (h : l.length ≤ 4611686018427387904) : ∃ t, spec_trim N l = some t ∧ Tr l t := trim_loop hN hNl N l (by omega) h
--B trim_b
theorem trimb_loop : ∀ (n : Nat) (l : List Int), l.length + 1 ≤ n → l.length ≤ 4611686018427387904 → ∃ t, spec_trim_b_l0 N n l = some (t, ()) ∧ Tr l t
  | 0, l, h, _ => by omega
  | n + 1, l, h, hm => by
    rcases snoc_cases l with rfl | ⟨r, x, rfl⟩
    · refine ⟨[], ?_, rfl, id, Nrm.nil, Nat.le_refl _⟩
      simp only [spec_trim_b_l0, spec_trim_b_g0, spec_trim_b_j1, spec_trim_b_g1, gate_pos hN]
      rfl
    · rw [List.length_append, List.length_singleton] at h hm
      have hlen : ((r ++ [x]).length : Int) = (r.length : Int) + 1 := by rw [List.length_append, List.length_singleton]; omega
      have hg : nth (r ++ [x]) (r.length : Int) = some x := by rw [nth_nat, List.getElem?_append_right (Nat.le_refl _), Nat.sub_self]; rfl
      simp only [spec_trim_b_l0, spec_trim_b_g0, spec_trim_b_j1, spec_trim_b_g1, gate_pos hN, Bool.cond_decide]
      rw [hlen, if_pos (by omega), show (r.length : Int) + 1 - 1 = r.length by omega, wrap_in (by omega), hg]
      simp only [Option.bind_some]
      by_cases hx : x = 0
      · subst hx
        obtain ⟨t, h1, h2⟩ := trimb_loop n r (by omega) (by omega)
        refine ⟨t, ?_, h2.snoc⟩
        rw [chk2_int (by rw [List.length_append, List.length_singleton]; omega)]
        simp only [beq_self_eq_true, cond_true, Option.bind_some, Int.toNat_zero, List.drop_zero, Int.toNat_natCast, Nat.sub_zero]
        rw [List.take_left', h1]
        rfl
      · have hb : (x == 0) = false := by simpa using hx
        rw [hb]
        refine ⟨r ++ [x], rfl, rfl, id, ?_, Nat.le_refl _⟩
        intro r' x' e
        have := List.append_inj_right' e rfl
        simp only [List.cons.injEq, and_true] at this
        rw [← this]; exact hx
theorem trimb_spec (l : List Int) (h : l.length ≤ 4611686018427387904) : ∃ t, spec_trim_b N l = some (t, ()) ∧ Tr l t := trimb_loop hN hNl N l (by omega) h
--E trim_b
theorem cmp_loop {a b : List Int} (ha : Lim a) (hb : Lim b) (hl : a.length = b.length) (hm : a.length ≤ 4611686018427387904) :
    ∀ (n k : Nat), k ≤ a.length → k + 1 ≤ n → a.drop k = b.drop k → spec_cmpLimbs_l0 N n a b ((k : Int) - 1) = some (cmpv (lv a) (lv b))
  | 0, k, _, h, _ => by omega
  | n + 1, 0, hk, h, e => by
    simp only [spec_cmpLimbs_l0, spec_cmpLimbs_g0, Bool.cond_decide]
    rw [if_neg (by omega)]
    rw [List.drop_zero, List.drop_zero] at e
    subst e
    simp [cmpv]
  | n + 1, k + 1, hk, h, e => by
    have ka : k < a.length := by omega
    have kb : k < b.length := by omega
    have hN' : nth a (((k + 1 : Nat) : Int) - 1) = some a[k] := by rw [show ((k + 1 : Nat) : Int) - 1 = (k : Int) by omega, nth_get ka]
    have hN'' : nth b (((k + 1 : Nat) : Int) - 1) = some b[k] := by rw [show ((k + 1 : Nat) : Int) - 1 = (k : Int) by omega, nth_get kb]
    simp only [spec_cmpLimbs_l0, spec_cmpLimbs_g0, Bool.cond_decide]
    rw [if_pos (by omega), hN', hN'']
    simp only [Option.bind_some]
    have s1 := lv_split ka
    have s2 := lv_split kb
    rw [← e] at s2
    have t1 := lv_lt (ha.take k)
    have t2 := lv_lt (hb.take k)
    have u1 := lv_nonneg (ha.take k)
    have u2 := lv_nonneg (hb.take k)
    rw [List.length_take, Nat.min_eq_left (by omega)] at t1 t2
    have bp := Bp_pos k
    generalize hX : lv (a.drop (k + 1)) = X at s1 s2
    by_cases hne : a[k] = b[k]
    · rw [hne, bne_self_eq_false, cond_false, show ((k + 1 : Nat) : Int) - 1 - 1 = (k : Int) - 1 by omega, wrap_in (by omega)]
      exact cmp_loop ha hb hl hm n k (by omega) (by omega) (by rw [List.drop_eq_getElem_cons ka, List.drop_eq_getElem_cons kb, hne, e])
    · have hb' : (a[k] != b[k]) = true := by simpa using hne
      rw [hb', cond_true]
      by_cases hlt : a[k] < b[k]
      · rw [if_pos hlt]
        have := Int.mul_le_mul_of_nonneg_left (show (a[k] + 4294967296 * X) + 1 ≤ b[k] + 4294967296 * X by omega) (Int.le_of_lt bp)
        rw [Int.mul_add, Int.mul_one] at this
        unfold cmpv
        rw [if_pos (by omega)]
      · rw [if_neg hlt]
        have := Int.mul_le_mul_of_nonneg_left (show (b[k] + 4294967296 * X) + 1 ≤ a[k] + 4294967296 * X by omega) (Int.le_of_lt bp)
        rw [Int.mul_add, Int.mul_one] at this
        unfold cmpv
        rw [if_neg (by omega), if_neg (by omega)]
theorem cmp_spec {a b : List Int} (ha : Lim a) (hb : Lim b) (na : Nrm a) (nb : Nrm b) (hm : a.length ≤ 4611686018427387904) : spec_cmpLimbs N a b = some (cmpv (lv a) (lv b)) := by
  unfold spec_cmpLimbs spec_cmpLimbs_g
  simp only [Bool.cond_decide]
  by_cases h : a.length = b.length
  · rw [h, bne_self_eq_false, cond_false, wrap_in (by omega), ← h]
    exact cmp_loop hN hNl ha hb h hm N a.length (Nat.le_refl _) (by omega) (by rw [List.drop_length, h, List.drop_length])
  · have hb' : ((a.length : Int) != (b.length : Int)) = true := by simp; omega
    rw [hb', cond_true]
    by_cases hlt : a.length < b.length
    · have := lv_lt_of_len ha hb nb hlt
      rw [if_pos (by omega)]
      unfold cmpv
      rw [if_pos this]
    · have := lv_lt_of_len hb ha na (by omega)
      rw [if_neg (by omega)]
      unfold cmpv
      rw [if_neg (by omega), if_neg (by omega)]
theorem add_long {a b : List Int} (ha : Lim a) (hb : Lim b) (hl : b.length ≤ a.length) (hm : a.length ≤ 4294967296) :
    ∃ t, spec_addLimbs_j0 N a b = some t ∧ Lim t ∧ Nrm t ∧ lv t = lv a + lv b := by
  simp only [spec_addLimbs_j0, spec_addLimbs_g0, gate_pos hN]
  rw [wrap_in (by omega), mkn_ok (by omega) (by omega) (by omega) (by omega)]
  simp only [Option.bind_some]
  rcases stateLoop0 (xs := a) (L := fun n i (st : Int × List Int) => spec_addLimbs_l1 N n b a st.1 i st.2) (e := fun _ => False)
    (fin := fun st => (lim ((st.2.length + ([(IntKind.u32.wrap st.1)] : List Int).length) * 4)).bind fun _ => (spec_trim N (st.2 ++ ([(IntKind.u32.wrap st.1)] : List Int))).bind fun v15 => (some v15))
    (fun i st => st.2.length = i ∧ Lim st.2 ∧ (st.1 = 0 ∨ st.1 = 1) ∧ lv st.2 + st.1 * Bp i = lv (a.take i) + lv (b.take i))
    (fun n st hp => by
      simp only [spec_addLimbs_l1, spec_addLimbs_g1, Bool.cond_decide]
      rw [if_neg (by omega)])
    (fun n i st hi hp => by
      right
      obtain ⟨c, out⟩ := st
      obtain ⟨p1, p2, p3, p4⟩ := hp
      dsimp only at p1 p2 p3 p4
      have hx := ha _ (List.getElem_mem hi)
      have hta := lv_take hi
      simp only [spec_addLimbs_l1, spec_addLimbs_g1, spec_addLimbs_j2, spec_addLimbs_g2, gate_pos hN, Bool.cond_decide]
      rw [if_pos (by omega), nth_get hi, succ_in hi (by omega)]
      simp only [Option.bind_some]
      have key : ∀ (y : Int), 0 ≤ y ∧ y < 4294967296 → lv (b.take (i + 1)) = lv (b.take i) + Bp i * y →
          ((lim ((out.length + ([(IntKind.u32.wrap (a[i] + c + y))] : List Int).length) * 4)).bind fun _ => spec_addLimbs_l1 N n b a (Int.fdiv (a[i] + c + y) (2 ^ (min (32 : Int).toNat (IntKind.bits .u64)))) (↑(i + 1)) (out ++ [(IntKind.u32.wrap (a[i] + c + y))])) =
            spec_addLimbs_l1 N n b a ((a[i] + c + y) / 4294967296) (↑(i + 1)) (out ++ [(a[i] + c + y) % 4294967296]) ∧
          ((out ++ [(a[i] + c + y) % 4294967296]).length = i + 1 ∧ Lim (out ++ [(a[i] + c + y) % 4294967296]) ∧ ((a[i] + c + y) / 4294967296 = 0 ∨ (a[i] + c + y) / 4294967296 = 1) ∧
            lv (out ++ [(a[i] + c + y) % 4294967296]) + (a[i] + c + y) / 4294967296 * Bp (i + 1) = lv (a.take (i + 1)) + lv (b.take (i + 1))) := by
        intro y hy hty
        rw [shr32, w32_eq, lim_le (by simp; omega)]
        refine ⟨rfl, by rw [List.length_append, p1]; rfl, p2.app (Lim.one (by omega)), by omega, ?_⟩
        rw [lv_snoc, p1, Bp_succ, hta, hty]
        have e := Int.mul_ediv_add_emod (a[i] + c + y) 4294967296
        generalize (a[i] + c + y) / 4294967296 = q at *
        generalize (a[i] + c + y) % 4294967296 = r at *
        generalize Bp i = B at *
        generalize a[i] = x at *
        have e2 : B * (4294967296 * q + r) = B * (x + c + y) := by rw [e]
        grind
      by_cases hib : i < b.length
      · rw [if_pos (by omega), nth_get hib]
        have hy := hb _ (List.getElem_mem hib)
        obtain ⟨k1, k2⟩ := key b[i] hy (lv_take hib)
        simp only [Option.bind_some]
        rw [w64_in (n := a[i]) (by omega), w64_in (n := a[i] + c) (by omega), w64_in (n := b[i]) (by omega), w64_in (by omega)]
        exact ⟨((a[i] + c + b[i]) / 4294967296, out ++ [(a[i] + c + b[i]) % 4294967296]), k1, k2⟩
      · rw [if_neg (by omega)]
        obtain ⟨k1, k2⟩ := key 0 (by omega) (by rw [List.take_of_length_le (by omega), List.take_of_length_le (by omega)]; omega)
        rw [w64_in (n := a[i]) (by omega), w64_in (n := a[i] + c) (by omega)]
        rw [Int.add_zero] at k1 k2
        exact ⟨((a[i] + c) / 4294967296, out ++ [(a[i] + c) % 4294967296]), k1, k2⟩) N (0, []) (by omega) ⟨rfl, Lim.nil, .inl rfl, rfl⟩ with h | ⟨st, h, hp⟩
  · exact h.elim
  · have h' : spec_addLimbs_l1 N N b a 0 0 [] = _ := h
    rw [Int.toNat_zero, List.replicate_zero, h']
    obtain ⟨p1, p2, p3, p4⟩ := hp
    rw [List.take_length, List.take_of_length_le hl] at p4
    rw [w32_eq, lim_le (by simp; omega)]
    obtain ⟨t, h1, h2, h3, h4, h5⟩ := trim_spec hN hNl (st.2 ++ [st.1 % 4294967296]) (by simp; omega)
    refine ⟨t, by simp only [Option.bind_some, h1], h3 (p2.app (Lim.one (by omega))), h4, ?_⟩
    rw [h2, lv_snoc, p1, ← p4, show st.1 % 4294967296 = st.1 by omega, Int.mul_comm]
theorem add_spec {a b : List Int} (ha : Lim a) (hb : Lim b) (hma : a.length ≤ 4294967296) (hmb : b.length ≤ 4294967296) : ∃ t, spec_addLimbs N a b = some t ∧ Lim t ∧ Nrm t ∧ lv t = lv a + lv b := by
  unfold spec_addLimbs spec_addLimbs_g
  simp only [Bool.cond_decide]
  by_cases h : a.length < b.length
  · rw [if_pos (by omega)]
    obtain ⟨t, h1, h2, h3, h4⟩ := add_long hN hNl hb ha (by omega) hmb
    exact ⟨t, h1, h2, h3, by omega⟩
  · rw [if_neg (by omega)]
    exact add_long hN hNl ha hb (by omega) hma
theorem sub_spec {a b : List Int} (ha : Lim a) (hb : Lim b) (hl : b.length ≤ a.length) (hle : lv b ≤ lv a) (hm : a.length ≤ 4294967296) :
    ∃ t, spec_subLimbs N a b = some t ∧ Lim t ∧ Nrm t ∧ lv t = lv a - lv b := by
  unfold spec_subLimbs spec_subLimbs_g
  rw [mkn_ok (by omega) (by omega) (by omega) (by omega)]
  simp only [Option.bind_some]
  rcases stateLoop0 (xs := a) (L := fun n i (st : Int × List Int) => spec_subLimbs_l0 N n b a st.1 i st.2) (e := fun _ => False)
    (fin := fun st => (spec_trim N st.2).bind fun v15 => (some v15))
    (fun i st => st.2.length = i ∧ Lim st.2 ∧ (st.1 = 0 ∨ st.1 = 1) ∧ lv st.2 - st.1 * Bp i = lv (a.take i) - lv (b.take i))
    (fun n st hp => by
      simp only [spec_subLimbs_l0, spec_subLimbs_g0, Bool.cond_decide]
      rw [if_neg (by omega)])
    (fun n i st hi hp => by
      right
      obtain ⟨c, out⟩ := st
      obtain ⟨p1, p2, p3, p4⟩ := hp
      dsimp only at p1 p2 p3 p4
      have hx := ha _ (List.getElem_mem hi)
      have hta := lv_take hi
      simp only [spec_subLimbs_l0, spec_subLimbs_g0, spec_subLimbs_j1, spec_subLimbs_g1, spec_subLimbs_j2, spec_subLimbs_g2, gate_pos hN, Bool.cond_decide]
      rw [if_pos (by omega), nth_get hi, succ_in hi (by omega)]
      simp only [Option.bind_some]
      rw [w64_in (n := a[i]) (by omega)]
      have key : ∀ (y z k : Int), 0 ≤ y ∧ y < 4294967296 → z = c + y → (k = 0 ∧ z ≤ a[i] ∨ k = 1 ∧ a[i] < z) → lv (b.take (i + 1)) = lv (b.take i) + Bp i * y →
          ∃ st' : Int × List Int, ((lim ((out.length + ([(IntKind.u32.wrap (IntKind.u64.wrap ((IntKind.u64.wrap (a[i] + (IntKind.u64.wrap (k * 2 ^ (min (32 : Int).toNat (IntKind.bits .u64)))))) - z)))] : List Int).length) * 4)).bind fun _ => spec_subLimbs_l0 N n b a k (↑(i + 1)) (out ++ ([(IntKind.u32.wrap (IntKind.u64.wrap ((IntKind.u64.wrap (a[i] + (IntKind.u64.wrap (k * 2 ^ (min (32 : Int).toNat (IntKind.bits .u64)))))) - z)))] : List Int))) =
            spec_subLimbs_l0 N n b a st'.1 (↑(i + 1)) st'.2 ∧ (st'.2.length = i + 1 ∧ Lim st'.2 ∧ (st'.1 = 0 ∨ st'.1 = 1) ∧ lv st'.2 - st'.1 * Bp (i + 1) = lv (a.take (i + 1)) - lv (b.take (i + 1))) := by
        intro y z k hy hz hk hty
        subst hz
        have e32 : (2 : Int) ^ (min (32 : Int).toNat (IntKind.bits .u64)) = 4294967296 := by rw [min32]; rfl
        rw [e32, w64_in (n := k * 4294967296) (by omega), w64_in (n := a[i] + k * 4294967296) (by omega), w64_in (n := a[i] + k * 4294967296 - (c + y)) (by omega), w32_eq, lim_le (by simp; omega)]
        refine ⟨(k, out ++ [(a[i] + k * 4294967296 - (c + y)) % 4294967296]), rfl, by rw [List.length_append, p1]; rfl, p2.app (Lim.one (by omega)), by omega, ?_⟩
        dsimp only
        rw [show (a[i] + k * 4294967296 - (c + y)) % 4294967296 = a[i] + k * 4294967296 - (c + y) by omega, lv_snoc, p1, Bp_succ, hta, hty]
        generalize Bp i = B at *
        generalize a[i] = x at *
        grind
      by_cases hib : i < b.length
      · rw [if_pos (by omega), nth_get hib]
        have hy := hb _ (List.getElem_mem hib)
        simp only [Option.bind_some]
        rw [w64_in (n := b[i]) (by omega), w64_in (by omega)]
        by_cases hlt : a[i] < c + b[i]
        · rw [if_pos hlt]; exact key b[i] _ 1 hy rfl (.inr ⟨rfl, hlt⟩) (lv_take hib)
        · rw [if_neg hlt]; exact key b[i] _ 0 hy rfl (.inl ⟨rfl, by omega⟩) (lv_take hib)
      · rw [if_neg (by omega)]
        have ht : lv (b.take (i + 1)) = lv (b.take i) + Bp i * 0 := by rw [List.take_of_length_le (by omega), List.take_of_length_le (by omega)]; omega
        by_cases hlt : a[i] < c
        · rw [if_pos hlt]; exact key 0 c 1 (by omega) (by omega) (.inr ⟨rfl, hlt⟩) ht
        · rw [if_neg hlt]; exact key 0 c 0 (by omega) (by omega) (.inl ⟨rfl, by omega⟩) ht) N (0, []) (by omega) ⟨rfl, Lim.nil, .inl rfl, rfl⟩ with h | ⟨st, h, hp⟩
  · exact h.elim
  · have h' : spec_subLimbs_l0 N N b a 0 0 [] = _ := h
    rw [Int.toNat_zero, List.replicate_zero, h']
    obtain ⟨p1, p2, p3, p4⟩ := hp
    rw [List.take_length, List.take_of_length_le hl] at p4
    obtain ⟨t, h1, h2, h3, h4, h5⟩ := trim_spec hN hNl st.2 (by omega)
    refine ⟨t, by simp only [h1, Option.bind_some], h3 p2, h4, ?_⟩
    have h6 := lv_lt p2
    rw [p1] at h6
    have h7 := Bp_pos a.length
    rcases p3 with e | e
    · rw [e] at p4; omega
    · rw [e] at p4; omega
end
end Go.Proofs.YtjabjnkiddldeaaGreat.PvWholePC
