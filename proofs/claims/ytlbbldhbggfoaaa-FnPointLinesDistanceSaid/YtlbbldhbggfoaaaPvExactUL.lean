/- Exact numbers, as the laws reckon them, their bits and floats; whole numbers within bounds; places of the plane. -/
import Derived.Test.YtlbbldhbggfoaaaUL
import Derived.Test.YtlbbldhbggfoaaaPv3
import Derived.Test.YtlbbldhbggfoaaaFl7
import Derived.Test.YtlbbldhbggfoaaaPv1
import Derived.Test.YtlbbldhbggfoaaaFl15
import Derived.Test.YtlbbldhbggfoaaaFl12
set_option linter.unusedVariables false
set_option linter.unusedSectionVars false
set_option linter.unusedSimpArgs false
namespace Go.Proofs.Ytlbbldhbggfoaaa.PvWholeUL
open Go.Av Go
open Go.Proofs.Ytlbbldhbggfoaaa.UL
/-- t is l without zeros at its end. -/
def Tr (l t : List Int) : Prop := lv t = lv l ∧ (Lim l → Lim t) ∧ Nrm t ∧ t.length ≤ l.length
theorem Tr.snoc {r t : List Int} (h : Tr r t) : Tr (r ++ [0]) t := by
  obtain ⟨h1, h2, h3, h4⟩ := h
  refine ⟨by rw [lv_snoc, h1]; omega, fun hl => h2 hl.left, h3, by rw [List.length_append]; omega⟩
section
variable {N : Nat} (hN : 0 < N) (hNl : 9223372036854775808 ≤ N)
include hN hNl
theorem trim_loop : ∀ (n : Nat) (l : List Int), l.length + 1 ≤ n → l.length ≤ 4611686018427387904 → ∃ t, spec_trim_l0 N n l = some t ∧ Tr l t
  | 0, l, h, _ => by omega
  | n + 1, l, h, hm => by
    rcases snoc_cases l with rfl | ⟨r, x, rfl⟩
    · refine ⟨[], ?_, rfl, id, Nrm.nil, Nat.le_refl _⟩
      simp only [spec_trim_l0, spec_trim_g0, spec_trim_j1, spec_trim_g1, gate_pos hN]
      rfl
    · rw [List.length_append, List.length_singleton] at h hm
      have hlen : ((r ++ [x]).length : Int) = (r.length : Int) + 1 := by rw [List.length_append, List.length_singleton]; omega
      have hg : nth (r ++ [x]) (r.length : Int) = some x := by rw [nth_nat, List.getElem?_append_right (Nat.le_refl _), Nat.sub_self]; rfl
      simp only [spec_trim_l0, spec_trim_g0, spec_trim_j1, spec_trim_g1, gate_pos hN, Bool.cond_decide]
      rw [hlen, if_pos (by omega), show (r.length : Int) + 1 - 1 = r.length by omega, wrap_in (by omega), hg]
      simp only [Option.bind_some]
      by_cases hx : x = 0
      · subst hx
        obtain ⟨t, h1, h2⟩ := trim_loop n r (by omega) (by omega)
        refine ⟨t, ?_, h2.snoc⟩
        rw [chk2_int (by rw [List.length_append, List.length_singleton]; omega)]
        simp only [beq_self_eq_true, cond_true, Option.bind_some, Int.toNat_zero, List.drop_zero, Int.toNat_natCast, Nat.sub_zero]
        rw [List.take_left', h1]
        rfl
      · have hb : (x == 0) = false := by simpa using hx
        rw [hb]
        refine ⟨r ++ [x], rfl, rfl, id, ?_, Nat.le_refl _⟩
        intro r' x' e
        have := List.append_inj_right' e rfl
        simp only [List.cons.injEq, and_true] at this
        rw [← this]; exact hx
theorem trim_spec (l : List Int) (h : l.length ≤ 4611686018427387904) : ∃ t, spec_trim N l = some t ∧ Tr l t := trim_loop hN hNl N l (by omega) h
--B trim_b
theorem trimb_loop : ∀ (n : Nat) (l : List Int), l.length + 1 ≤ n → l.length ≤ 4611686018427387904 → ∃ t, spec_trim_b_l0 N n l = some (t, ()) ∧ Tr l t
  | 0, l, h, _ => by omega
  | n + 1, l, h, hm => by
    rcases snoc_cases l with rfl | ⟨r, x, rfl⟩
    · refine ⟨[], ?_, rfl, id, Nrm.nil, Nat.le_refl _⟩
      simp only [spec_trim_b_l0, spec_trim_b_g0, spec_trim_b_j1, spec_trim_b_g1, gate_pos hN]
      rfl
    · rw [List.length_append, List.length_singleton] at h hm
      have hlen : ((r ++ [x]).length : Int) = (r.length : Int) + 1 := by rw [List.length_append, List.length_singleton]; omega
      have hg : nth (r ++ [x]) (r.length : Int) = some x := by rw [nth_nat, List.getElem?_append_right (Nat.le_refl _), Nat.sub_self]; rfl
      simp only [spec_trim_b_l0, spec_trim_b_g0, spec_trim_b_j1, spec_trim_b_g1, gate_pos hN, Bool.cond_decide]
      rw [hlen, if_pos (by omega), show (r.length : Int) + 1 - 1 = r.length by omega, wrap_in (by omega), hg]
      simp only [Option.bind_some]
      by_cases hx : x = 0
      · subst hx
        obtain ⟨t, h1, h2⟩ := trimb_loop n r (by omega) (by omega)
        refine ⟨t, ?_, h2.snoc⟩
        rw [chk2_int (by rw [List.length_append, List.length_singleton]; omega)]
        simp only [beq_self_eq_true, cond_true, Option.bind_some, Int.toNat_zero, List.drop_zero, Int.toNat_natCast, Nat.sub_zero]
        rw [List.take_left', h1]
        rfl
      · have hb : (x == 0) = false := by simpa using hx
        rw [hb]
        refine ⟨r ++ [x], rfl, rfl, id, ?_, Nat.le_refl _⟩
        intro r' x' e
        have := List.append_inj_right' e rfl
        simp only [List.cons.injEq, and_true] at this
        rw [← this]; exact hx
theorem trimb_spec (l : List Int) (h : l.length ≤ 4611686018427387904) : ∃ t, spec_trim_b N l = some (t, ()) ∧ Tr l t := trimb_loop hN hNl N l (by omega) h
--E trim_b
theorem cmp_loop {a b : List Int} (ha : Lim a) (hb : Lim b) (hl : a.length = b.length) (hm : a.length ≤ 4611686018427387904) :
    ∀ (n k : Nat), k ≤ a.length → k + 1 ≤ n → a.drop k = b.drop k → spec_cmpLimbs_l0 N n a b ((k : Int) - 1) = some (cmpv (lv a) (lv b))
  | 0, k, _, h, _ => by omega
  | n + 1, 0, hk, h, e => by
    simp only [spec_cmpLimbs_l0, spec_cmpLimbs_g0, Bool.cond_decide]
    rw [if_neg (by omega)]
    rw [List.drop_zero, List.drop_zero] at e
    subst e
    simp [cmpv]
  | n + 1, k + 1, hk, h, e => by
    have ka : k < a.length := by omega
    have kb : k < b.length := by omega
    have hN' : nth a (((k + 1 : Nat) : Int) - 1) = some a[k] := by rw [show ((k + 1 : Nat) : Int) - 1 = (k : Int) by omega, nth_get ka]
    have hN'' : nth b (((k + 1 : Nat) : Int) - 1) = some b[k] := by rw [show ((k + 1 : Nat) : Int) - 1 = (k : Int) by omega, nth_get kb]
    simp only [spec_cmpLimbs_l0, spec_cmpLimbs_g0, Bool.cond_decide]
    rw [if_pos (by omega), hN', hN'']
    simp only [Option.bind_some]
    have s1 := lv_split ka
    have s2 := lv_split kb
    rw [← e] at s2
    have t1 := lv_lt (ha.take k)
    have t2 := lv_lt (hb.take k)
    have u1 := lv_nonneg (ha.take k)
    have u2 := lv_nonneg (hb.take k)
    rw [List.length_take, Nat.min_eq_left (by omega)] at t1 t2
    have bp := Bp_pos k
    generalize hX : lv (a.drop (k + 1)) = X at s1 s2
    by_cases hne : a[k] = b[k]
    · rw [hne, bne_self_eq_false, cond_false, show ((k + 1 : Nat) : Int) - 1 - 1 = (k : Int) - 1 by omega, wrap_in (by omega)]
      exact cmp_loop ha hb hl hm n k (by omega) (by omega) (by rw [List.drop_eq_getElem_cons ka, List.drop_eq_getElem_cons kb, hne, e])
    · have hb' : (a[k] != b[k]) = true := by simpa using hne
      rw [hb', cond_true]
      by_cases hlt : a[k] < b[k]
      · rw [if_pos hlt]
        have := Int.mul_le_mul_of_nonneg_left (show (a[k] + 4294967296 * X) + 1 ≤ b[k] + 4294967296 * X by omega) (Int.le_of_lt bp)
        rw [Int.mul_add, Int.mul_one] at this
        unfold cmpv
        rw [if_pos (by omega)]
      · rw [if_neg hlt]
        have := Int.mul_le_mul_of_nonneg_left (show (b[k] + 4294967296 * X) + 1 ≤ a[k] + 4294967296 * X by omega) (Int.le_of_lt bp)
        rw [Int.mul_add, Int.mul_one] at this
        unfold cmpv
        rw [if_neg (by omega), if_neg (by omega)]
theorem cmp_spec {a b : List Int} (ha : Lim a) (hb : Lim b) (na : Nrm a) (nb : Nrm b) (hm : a.length ≤ 4611686018427387904) : spec_cmpLimbs N a b = some (cmpv (lv a) (lv b)) := by
  unfold spec_cmpLimbs spec_cmpLimbs_g
  simp only [Bool.cond_decide]
  by_cases h : a.length = b.length
  · rw [h, bne_self_eq_false, cond_false, wrap_in (by omega), ← h]
    exact cmp_loop hN hNl ha hb h hm N a.length (Nat.le_refl _) (by omega) (by rw [List.drop_length, h, List.drop_length])
  · have hb' : ((a.length : Int) != (b.length : Int)) = true := by simp; omega
    rw [hb', cond_true]
    by_cases hlt : a.length < b.length
    · have := lv_lt_of_len ha hb nb hlt
      rw [if_pos (by omega)]
      unfold cmpv
      rw [if_pos this]
    · have := lv_lt_of_len hb ha na (by omega)
      rw [if_neg (by omega)]
      unfold cmpv
      rw [if_neg (by omega), if_neg (by omega)]
theorem add_long {a b : List Int} (ha : Lim a) (hb : Lim b) (hl : b.length ≤ a.length) (hm : a.length ≤ 4294967296) :
    ∃ t, spec_addLimbs_j0 N a b = some t ∧ Lim t ∧ Nrm t ∧ lv t = lv a + lv b := by
  simp only [spec_addLimbs_j0, spec_addLimbs_g0, gate_pos hN]
  rw [wrap_in (by omega), mkn_ok (by omega) (by omega) (by omega) (by omega)]
  simp only [Option.bind_some]
  rcases stateLoop0 (xs := a) (L := fun n i (st : Int × List Int) => spec_addLimbs_l1 N n b a st.1 i st.2) (e := fun _ => False)
    (fin := fun st => (lim ((st.2.length + ([(IntKind.u32.wrap st.1)] : List Int).length) * 4)).bind fun _ => (spec_trim N (st.2 ++ ([(IntKind.u32.wrap st.1)] : List Int))).bind fun v15 => (some v15))
    (fun i st => st.2.length = i ∧ Lim st.2 ∧ (st.1 = 0 ∨ st.1 = 1) ∧ lv st.2 + st.1 * Bp i = lv (a.take i) + lv (b.take i))
    (fun n st hp => by
      simp only [spec_addLimbs_l1, spec_addLimbs_g1, Bool.cond_decide]
      rw [if_neg (by omega)])
    (fun n i st hi hp => by
      right
      obtain ⟨c, out⟩ := st
      obtain ⟨p1, p2, p3, p4⟩ := hp
      dsimp only at p1 p2 p3 p4
      have hx := ha _ (List.getElem_mem hi)
      have hta := lv_take hi
      simp only [spec_addLimbs_l1, spec_addLimbs_g1, spec_addLimbs_j2, spec_addLimbs_g2, gate_pos hN, Bool.cond_decide]
      rw [if_pos (by omega), nth_get hi, succ_in hi (by omega)]
      simp only [Option.bind_some]
      have key : ∀ (y : Int), 0 ≤ y ∧ y < 4294967296 → lv (b.take (i + 1)) = lv (b.take i) + Bp i * y →
          ((lim ((out.length + ([(IntKind.u32.wrap (a[i] + c + y))] : List Int).length) * 4)).bind fun _ => spec_addLimbs_l1 N n b a (Int.fdiv (a[i] + c + y) (2 ^ (min (32 : Int).toNat (IntKind.bits .u64)))) (↑(i + 1)) (out ++ [(IntKind.u32.wrap (a[i] + c + y))])) =
            spec_addLimbs_l1 N n b a ((a[i] + c + y) / 4294967296) (↑(i + 1)) (out ++ [(a[i] + c + y) % 4294967296]) ∧
          ((out ++ [(a[i] + c + y) % 4294967296]).length = i + 1 ∧ Lim (out ++ [(a[i] + c + y) % 4294967296]) ∧ ((a[i] + c + y) / 4294967296 = 0 ∨ (a[i] + c + y) / 4294967296 = 1) ∧
            lv (out ++ [(a[i] + c + y) % 4294967296]) + (a[i] + c + y) / 4294967296 * Bp (i + 1) = lv (a.take (i + 1)) + lv (b.take (i + 1))) := by
        intro y hy hty
        rw [shr32, w32_eq, lim_le (by simp; omega)]
        refine ⟨rfl, by rw [List.length_append, p1]; rfl, p2.app (Lim.one (by omega)), by omega, ?_⟩
        rw [lv_snoc, p1, Bp_succ, hta, hty]
        have e := Int.mul_ediv_add_emod (a[i] + c + y) 4294967296
        generalize (a[i] + c + y) / 4294967296 = q at *
        generalize (a[i] + c + y) % 4294967296 = r at *
        generalize Bp i = B at *
        generalize a[i] = x at *
        have e2 : B * (4294967296 * q + r) = B * (x + c + y) := by rw [e]
        grind
      by_cases hib : i < b.length
      · rw [if_pos (by omega), nth_get hib]
        have hy := hb _ (List.getElem_mem hib)
        obtain ⟨k1, k2⟩ := key b[i] hy (lv_take hib)
        simp only [Option.bind_some]
        rw [w64_in (n := a[i]) (by omega), w64_in (n := a[i] + c) (by omega), w64_in (n := b[i]) (by omega), w64_in (by omega)]
        exact ⟨((a[i] + c + b[i]) / 4294967296, out ++ [(a[i] + c + b[i]) % 4294967296]), k1, k2⟩
      · rw [if_neg (by omega)]
        obtain ⟨k1, k2⟩ := key 0 (by omega) (by rw [List.take_of_length_le (by omega), List.take_of_length_le (by omega)]; omega)
        rw [w64_in (n := a[i]) (by omega), w64_in (n := a[i] + c) (by omega)]
        rw [Int.add_zero] at k1 k2
        exact ⟨((a[i] + c) / 4294967296, out ++ [(a[i] + c) % 4294967296]), k1, k2⟩) N (0, []) (by omega) ⟨rfl, Lim.nil, .inl rfl, rfl⟩ with h | ⟨st, h, hp⟩
  · exact h.elim
  · have h' : spec_addLimbs_l1 N N b a 0 0 [] = _ := h
    rw [Int.toNat_zero, List.replicate_zero, h']
    obtain ⟨p1, p2, p3, p4⟩ := hp
    rw [List.take_length, List.take_of_length_le hl] at p4
    rw [w32_eq, lim_le (by simp; omega)]
    obtain ⟨t, h1, h2, h3, h4, h5⟩ := trim_spec hN hNl (st.2 ++ [st.1 % 4294967296]) (by simp; omega)
    refine ⟨t, by simp only [Option.bind_some, h1], h3 (p2.app (Lim.one (by omega))), h4, ?_⟩
    rw [h2, lv_snoc, p1, ← p4, show st.1 % 4294967296 = st.1 by omega, Int.mul_comm]
theorem add_spec {a b : List Int} (ha : Lim a) (hb : Lim b) (hma : a.length ≤ 4294967296) (hmb : b.length ≤ 4294967296) : ∃ t, spec_addLimbs N a b = some t ∧ Lim t ∧ Nrm t ∧ lv t = lv a + lv b := by
  unfold spec_addLimbs spec_addLimbs_g
  simp only [Bool.cond_decide]
  by_cases h : a.length < b.length
  · rw [if_pos (by omega)]
    obtain ⟨t, h1, h2, h3, h4⟩ := add_long hN hNl hb ha (by omega) hmb
    exact ⟨t, h1, h2, h3, by omega⟩
  · rw [if_neg (by omega)]
    exact add_long hN hNl ha hb (by omega) hma
theorem sub_spec {a b : List Int} (ha : Lim a) (hb : Lim b) (hl : b.length ≤ a.length) (hle : lv b ≤ lv a) (hm : a.length ≤ 4294967296) :
    ∃ t, spec_subLimbs N a b = some t ∧ Lim t ∧ Nrm t ∧ lv t = lv a - lv b := by
  unfold spec_subLimbs spec_subLimbs_g
  rw [mkn_ok (by omega) (by omega) (by omega) (by omega)]
  simp only [Option.bind_some]
  rcases stateLoop0 (xs := a) (L := fun n i (st : Int × List Int) => spec_subLimbs_l0 N n b a st.1 i st.2) (e := fun _ => False)
    (fin := fun st => (spec_trim N st.2).bind fun v15 => (some v15))
    (fun i st => st.2.length = i ∧ Lim st.2 ∧ (st.1 = 0 ∨ st.1 = 1) ∧ lv st.2 - st.1 * Bp i = lv (a.take i) - lv (b.take i))
    (fun n st hp => by
      simp only [spec_subLimbs_l0, spec_subLimbs_g0, Bool.cond_decide]
      rw [if_neg (by omega)])
    (fun n i st hi hp => by
      right
      obtain ⟨c, out⟩ := st
      obtain ⟨p1, p2, p3, p4⟩ := hp
      dsimp only at p1 p2 p3 p4
      have hx := ha _ (List.getElem_mem hi)
      have hta := lv_take hi
      simp only [spec_subLimbs_l0, spec_subLimbs_g0, spec_subLimbs_j1, spec_subLimbs_g1, spec_subLimbs_j2, spec_subLimbs_g2, gate_pos hN, Bool.cond_decide]
      rw [if_pos (by omega), nth_get hi, succ_in hi (by omega)]
      simp only [Option.bind_some]
      rw [w64_in (n := a[i]) (by omega)]
      have key : ∀ (y z k : Int), 0 ≤ y ∧ y < 4294967296 → z = c + y → (k = 0 ∧ z ≤ a[i] ∨ k = 1 ∧ a[i] < z) → lv (b.take (i + 1)) = lv (b.take i) + Bp i * y →
          ∃ st' : Int × List Int, ((lim ((out.length + ([(IntKind.u32.wrap (IntKind.u64.wrap ((IntKind.u64.wrap (a[i] + (IntKind.u64.wrap (k * 2 ^ (min (32 : Int).toNat (IntKind.bits .u64)))))) - z)))] : List Int).length) * 4)).bind fun _ => spec_subLimbs_l0 N n b a k (↑(i + 1)) (out ++ ([(IntKind.u32.wrap (IntKind.u64.wrap ((IntKind.u64.wrap (a[i] + (IntKind.u64.wrap (k * 2 ^ (min (32 : Int).toNat (IntKind.bits .u64)))))) - z)))] : List Int))) =
            spec_subLimbs_l0 N n b a st'.1 (↑(i + 1)) st'.2 ∧ (st'.2.length = i + 1 ∧ Lim st'.2 ∧ (st'.1 = 0 ∨ st'.1 = 1) ∧ lv st'.2 - st'.1 * Bp (i + 1) = lv (a.take (i + 1)) - lv (b.take (i + 1))) := by
        intro y z k hy hz hk hty
        subst hz
        have e32 : (2 : Int) ^ (min (32 : Int).toNat (IntKind.bits .u64)) = 4294967296 := by rw [min32]; rfl
        rw [e32, w64_in (n := k * 4294967296) (by omega), w64_in (n := a[i] + k * 4294967296) (by omega), w64_in (n := a[i] + k * 4294967296 - (c + y)) (by omega), w32_eq, lim_le (by simp; omega)]
        refine ⟨(k, out ++ [(a[i] + k * 4294967296 - (c + y)) % 4294967296]), rfl, by rw [List.length_append, p1]; rfl, p2.app (Lim.one (by omega)), by omega, ?_⟩
        dsimp only
        rw [show (a[i] + k * 4294967296 - (c + y)) % 4294967296 = a[i] + k * 4294967296 - (c + y) by omega, lv_snoc, p1, Bp_succ, hta, hty]
        generalize Bp i = B at *
        generalize a[i] = x at *
        grind
      by_cases hib : i < b.length
      · rw [if_pos (by omega), nth_get hib]
        have hy := hb _ (List.getElem_mem hib)
        simp only [Option.bind_some]
        rw [w64_in (n := b[i]) (by omega), w64_in (by omega)]
        by_cases hlt : a[i] < c + b[i]
        · rw [if_pos hlt]; exact key b[i] _ 1 hy rfl (.inr ⟨rfl, hlt⟩) (lv_take hib)
        · rw [if_neg hlt]; exact key b[i] _ 0 hy rfl (.inl ⟨rfl, by omega⟩) (lv_take hib)
      · rw [if_neg (by omega)]
        have ht : lv (b.take (i + 1)) = lv (b.take i) + Bp i * 0 := by rw [List.take_of_length_le (by omega), List.take_of_length_le (by omega)]; omega
        by_cases hlt : a[i] < c
        · rw [if_pos hlt]; exact key 0 c 1 (by omega) (by omega) (.inr ⟨rfl, hlt⟩) ht
        · rw [if_neg hlt]; exact key 0 c 0 (by omega) (by omega) (.inl ⟨rfl, by omega⟩) ht) N (0, []) (by omega) ⟨rfl, Lim.nil, .inl rfl, rfl⟩ with h | ⟨st, h, hp⟩
  · exact h.elim
  · have h' : spec_subLimbs_l0 N N b a 0 0 [] = _ := h
    rw [Int.toNat_zero, List.replicate_zero, h']
    obtain ⟨p1, p2, p3, p4⟩ := hp
    rw [List.take_length, List.take_of_length_le hl] at p4
    obtain ⟨t, h1, h2, h3, h4, h5⟩ := trim_spec hN hNl st.2 (by omega)
    refine ⟨t, by simp only [h1, Option.bind_some], h3 p2, h4, ?_⟩
    have h6 := lv_lt p2
    rw [p1] at h6
    have h7 := Bp_pos a.length
    rcases p3 with e | e
    · rw [e] at p4; omega
    · rw [e] at p4; omega
end
end Go.Proofs.Ytlbbldhbggfoaaa.PvWholeUL
namespace Go.Proofs.Ytlbbldhbggfoaaa.PvWhole2UL
open Go.Av Go
open Go.Proofs.Ytlbbldhbggfoaaa.UL
open Go.Proofs.Ytlbbldhbggfoaaa.PvWholeUL
/-- A number as the laws hold it. -/
abbrev WH := Bool × (List Int × Unit)
/-- What a number as the laws hold it stands for. -/
def Wv (w : WH) (z : Int) : Prop := Lim w.2.1 ∧ Nrm w.2.1 ∧ (w.2.1 = [] → w.1 = false) ∧ z = bif w.1 then - lv w.2.1 else lv w.2.1
theorem Wv.abs {w : WH} {z : Int} (h : Wv w z) : lv w.2.1 = (z.natAbs : Int) := by
  obtain ⟨h1, _, _, h4⟩ := h
  have := lv_nonneg h1
  subst h4
  cases w.1 <;> simp <;> omega
theorem Wv.len {w : WH} {z : Int} (h : Wv w z) {k : Nat} (hz : z.natAbs < 2 ^ k) : w.2.1.length ≤ k := by
  refine len_le h.1 h.2.1 ?_
  rw [h.abs, Bp_two]
  have : 2 ^ k ≤ 2 ^ (32 * k) := Nat.pow_le_pow_right (by decide) (by omega)
  omega
theorem Wv.nil {w : WH} {z : Int} (h : Wv w z) : w.2.1 = [] ↔ z = 0 := by
  constructor
  · intro e
    have := h.abs
    rw [e] at this
    simp only [lv] at this
    omega
  · intro e
    have := h.abs
    subst e
    rcases Classical.em (w.2.1 = []) with h1 | h1
    · exact h1
    · have := lv_pos h.1 h.2.1 h1
      omega
theorem Wv.sgn {w : WH} {z : Int} (h : Wv w z) : w.1 = decide (z < 0) := by
  obtain ⟨h1, h2, h3, h4⟩ := h
  have := lv_nonneg h1
  cases hb : w.1 with
  | false =>
    rw [hb] at h4
    simp only [cond_false] at h4
    exact (decide_eq_false (by omega)).symm
  | true =>
    rw [hb] at h4
    simp only [cond_true] at h4
    have : w.2.1 ≠ [] := fun e => by rw [h3 e] at hb; cases hb
    have := lv_pos h1 h2 this
    exact (decide_eq_true (by omega)).symm
theorem Wv.mk' {l : List Int} {b : Bool} {z : Int} (h1 : Lim l) (h2 : Nrm l) (h3 : lv l = (z.natAbs : Int)) (h4 : z ≠ 0 → b = decide (z < 0)) (h5 : z = 0 → b = false) : Wv (b, l, ()) z := by
  refine ⟨h1, h2, fun e => ?_, ?_⟩
  · apply h5
    have e : l = [] := e
    rw [e] at h3
    simp only [lv] at h3
    omega
  · show z = bif b then - lv l else lv l
    rw [h3]
    by_cases hz : z = 0
    · rw [h5 hz]; simp; omega
    · rw [h4 hz]
      by_cases hn : z < 0
      · rw [decide_eq_true hn]; simp; omega
      · rw [decide_eq_false hn]; simp; omega
section
variable {N : Nat} (hN : 0 < N) (hNl : 9223372036854775808 ≤ N)
include hN hNl
theorem mul_row (a b : WH) (r0 : Int → List Int → Option WH) (i : Nat) (x : Int) (hx : 0 ≤ x ∧ x < 4294967296) (hb : Lim b.2.1) (hla : i < a.2.1.length) (hlen : a.2.1.length + b.2.1.length ≤ 4294967296)
    (out : List Int) (ho : out.length = a.2.1.length + b.2.1.length) (hlo : Lim out) (A : Int) (hA : lv out = A * lv b.2.1) (hAlt : A < Bp i) (hA0 : 0 ≤ A) :
    ∃ out', spec_Whole_Mul_l1 N r0 a b N (i : Int) x 0 0 out = r0 (IntKind.i64.wrap ((i : Int) + 1)) out' ∧ out'.length = a.2.1.length + b.2.1.length ∧ Lim out' ∧ lv out' = (A + Bp i * x) * lv b.2.1 := by
  have hbl := lv_lt hb
  have hb0 := lv_nonneg hb
  have hmz : lv out < Bp (i + b.2.1.length) := by
    rw [hA, Bp_add]
    rcases Int.lt_or_le 0 A with h | h
    · exact Int.lt_of_le_of_lt (Int.mul_le_mul_of_nonneg_right (Int.le_of_lt hAlt) hb0) (Int.mul_lt_mul_of_pos_left hbl (Bp_pos i))
    · have : A = 0 := by omega
      subst this
      have h1 := Bp_pos i
      have h2 := Bp_pos b.2.1.length
      have := Int.mul_pos h1 h2
      omega
  have hz : out[i + b.2.1.length]? = some 0 := by
    rw [List.getElem?_eq_getElem (by omega), limb_zero hlo (by omega) hmz]
  rcases stateLoop0 (xs := b.2.1) (L := fun n k (st : Int × List Int) => spec_Whole_Mul_l1 N r0 a b n (i : Int) x st.1 k st.2) (e := fun _ => False)
    (fin := fun st => (chk (IntKind.i64.wrap ((i : Int) + (b.2.1.length : Int))) st.2.length).bind fun v31 => ((r0 (IntKind.i64.wrap ((i : Int) + 1)) (st.2.set v31 (IntKind.u32.wrap st.1)))))
    (fun k st => st.2.length = a.2.1.length + b.2.1.length ∧ Lim st.2 ∧ (0 ≤ st.1 ∧ st.1 < 4294967296) ∧ st.2[i + b.2.1.length]? = some 0 ∧ lv st.2 + st.1 * Bp (i + k) = A * lv b.2.1 + Bp i * x * lv (b.2.1.take k))
    (fun n st hp => by
      simp only [spec_Whole_Mul_l1, spec_Whole_Mul_g1, Bool.cond_decide]
      rw [if_neg (by omega)])
    (fun n k st hk hp => by
      right
      obtain ⟨c, o⟩ := st
      obtain ⟨p1, p2, p3, p4, p5⟩ := hp
      dsimp only at p1 p2 p3 p4 p5
      have hy := hb _ (List.getElem_mem hk)
      have hik : i + k < o.length := by omega
      have hd := p2 _ (List.getElem_mem hik)
      simp only [spec_Whole_Mul_l1, spec_Whole_Mul_g1, Bool.cond_decide]
      rw [if_pos (by omega), nth_get hk, succ_in hk (by omega), wrap_in (n := (i : Int) + (k : Int)) (by omega), show (i : Int) + (k : Int) = ((i + k : Nat) : Int) by omega, chk_nat hik]
      simp only [Option.bind_some]
      rw [List.getElem?_eq_getElem hik]
      simp only [Option.bind_some]
      have hxy : 0 ≤ x * b.2.1[k] ∧ x * b.2.1[k] ≤ 18446744065119617025 := by
        refine ⟨Int.mul_nonneg hx.1 hy.1, ?_⟩
        have := Int.mul_le_mul (show x ≤ 4294967295 by omega) (show b.2.1[k] ≤ 4294967295 by omega) hy.1 (by decide)
        omega
      rw [w64_in (n := x) (by omega), w64_in (n := b.2.1[k]) (by omega), w64_in (n := x * b.2.1[k]) (by omega), w64_in (n := o[i + k]) (by omega), w64_in (n := x * b.2.1[k] + o[i + k]) (by omega), w64_in (n := x * b.2.1[k] + o[i + k] + c) (by omega), shr32, w32_eq]
      refine ⟨((x * b.2.1[k] + o[i + k] + c) / 4294967296, o.set (i + k) ((x * b.2.1[k] + o[i + k] + c) % 4294967296)), rfl, by rw [List.length_set]; exact p1, p2.set _ (by omega), by omega, ?_, ?_⟩
      · show (o.set (i + k) _)[i + b.2.1.length]? = some 0
        rw [List.getElem?_set_ne (by omega)]; exact p4
      · dsimp only
        rw [lv_set hik, show i + (k + 1) = i + k + 1 by omega, Bp_succ, lv_take hk]
        have e := Int.mul_ediv_add_emod (x * b.2.1[k] + o[i + k] + c) 4294967296
        have e3 : Bp (i + k) = Bp i * Bp k := Bp_add i k
        generalize (x * b.2.1[k] + o[i + k] + c) / 4294967296 = q at *
        generalize (x * b.2.1[k] + o[i + k] + c) % 4294967296 = r at *
        generalize lv (b.2.1.take k) = T at *
        generalize b.2.1[k] = y at *
        generalize o[i + k] = d at *
        generalize lv b.2.1 = Lb at *
        generalize lv o = Lo at *
        rw [e3] at p5 ⊢
        generalize Bp i = P at *
        generalize Bp k = Q at *
        have e2 : P * Q * (4294967296 * q + r) = P * Q * (x * y + d + c) := by rw [e]
        grind) N (0, out) (by omega) ⟨ho, hlo, ⟨Int.le_refl 0, show (0 : Int) < 4294967296 by decide⟩, hz, by simp [hA, lv]⟩ with h | ⟨st, h, hp⟩
  · exact h.elim
  · have h' : spec_Whole_Mul_l1 N r0 a b N (i : Int) x 0 0 out = _ := h
    obtain ⟨c, o⟩ := st
    obtain ⟨p1, p2, p3, p4, p5⟩ := hp
    dsimp only at p1 p2 p3 p4 p5
    rw [h']
    have hib : i + b.2.1.length < o.length := by omega
    dsimp only
    rw [wrap_in (n := (i : Int) + (b.2.1.length : Int)) (by omega), show (i : Int) + (b.2.1.length : Int) = ((i + b.2.1.length : Nat) : Int) by omega, chk_nat hib, w32_eq]
    refine ⟨_, rfl, by rw [List.length_set]; exact p1, p2.set _ (by omega), ?_⟩
    rw [List.take_length] at p5
    rw [List.getElem?_eq_getElem hib] at p4
    simp only [Option.some.injEq] at p4
    rw [lv_set hib, p4, show c % 4294967296 = c by omega]
    grind
theorem mul_loop (a b : WH) (ha : Lim a.2.1) (hb : Lim b.2.1) (hlen : a.2.1.length + b.2.1.length ≤ 4294967296) :
    ∃ out, spec_Whole_Mul_l0 N N a b 0 (List.replicate (a.2.1.length + b.2.1.length) 0) = ((spec_trim N out).bind fun v32 => (bif (decide (((v32.length : Int) : Int) > 0)) then (some ((!(a.1 == b.1)), v32, ())) else (some (false, v32, ())))) ∧
      out.length = a.2.1.length + b.2.1.length ∧ Lim out ∧ lv out = lv a.2.1 * lv b.2.1 := by
  rcases stateLoop0 (xs := a.2.1) (L := fun n i out => spec_Whole_Mul_l0 N n a b i out) (e := fun _ => False)
    (fin := fun out => (spec_trim N out).bind fun v32 => (bif (decide (((v32.length : Int) : Int) > 0)) then (some ((!(a.1 == b.1)), v32, ())) else (some (false, v32, ()))))
    (fun i out => out.length = a.2.1.length + b.2.1.length ∧ Lim out ∧ lv out = lv (a.2.1.take i) * lv b.2.1)
    (fun n out hp => by
      simp only [spec_Whole_Mul_l0, spec_Whole_Mul_g0, Bool.cond_decide]
      rw [if_neg (by omega)])
    (fun n i out hi hp => by
      right
      obtain ⟨p1, p2, p3⟩ := hp
      have h1 := lv_lt (ha.take i)
      rw [List.length_take, Nat.min_eq_left (by omega)] at h1
      simp only [spec_Whole_Mul_l0, spec_Whole_Mul_g0, Bool.cond_decide]
      rw [if_pos (by omega), nth_get hi]
      simp only [Option.bind_some]
      obtain ⟨o, h2, h3, h4, h5⟩ := mul_row hN hNl a b (spec_Whole_Mul_l0 N n a b) i a.2.1[i] (ha _ (List.getElem_mem hi)) hb hi hlen out p1 p2 _ p3 h1 (lv_nonneg (ha.take i))
      exact ⟨o, by rw [h2, succ_in hi (by omega)], h3, h4, by rw [h5, lv_take hi]⟩) N (List.replicate (a.2.1.length + b.2.1.length) 0) (by omega) ⟨by simp, Lim.rep _, by simp [lv_rep, lv]⟩ with h | ⟨out, h, hp⟩
  · exact h.elim
  · rw [List.take_length] at hp
    exact ⟨out, h, hp⟩
theorem mul_spec {a b : WH} {x y : Int} (ha : Wv a x) (hb : Wv b y) (hla : a.2.1.length ≤ 1073741824) (hlb : b.2.1.length ≤ 1073741824) : ∃ c, spec_Whole_Mul N a b = some c ∧ Wv c (x * y) := by
  unfold spec_Whole_Mul spec_Whole_Mul_g
  rw [wrap_in (by omega), mkn_ok (by omega) (by omega) (by omega) (by omega)]
  simp only [Option.bind_some]
  rw [show ((a.2.1.length : Int) + (b.2.1.length : Int)).toNat = a.2.1.length + b.2.1.length by omega]
  obtain ⟨out, h1, h2, h3, h4⟩ := mul_loop hN hNl a b ha.1 hb.1 (by omega)
  rw [h1]
  obtain ⟨t, t1, t2, t3, t4, t5⟩ := trim_spec hN hNl out (by omega)
  rw [t1]
  have hv : lv t = ((x * y).natAbs : Int) := by rw [t2, h4, ha.abs, hb.abs, Int.natAbs_mul, Int.natCast_mul]
  simp only [Option.bind_some]
  by_cases ht : t = []
  · subst ht
    refine ⟨_, rfl, ?_⟩
    have hz : x * y = 0 := by
      simp only [lv] at hv
      omega
    exact Wv.mk' (t3 h3) t4 hv (fun h => absurd hz h) (fun _ => rfl)
  · have hp := lv_pos (t3 h3) t4 ht
    have hl : t.length ≠ 0 := fun h => ht (List.eq_nil_of_length_eq_zero h)
    rw [decide_eq_true (by omega), cond_true]
    refine ⟨_, rfl, Wv.mk' (t3 h3) t4 hv (fun h => ?_) (fun h => by rw [h] at hv; simp at hv; omega)⟩
    rw [ha.sgn, hb.sgn]
    have hx : x ≠ 0 := fun e => h (by rw [e, Int.zero_mul])
    have hy : y ≠ 0 := fun e => h (by rw [e, Int.mul_zero])
    rcases Int.lt_or_le x 0 with h1 | h1
    · rcases Int.lt_or_le y 0 with h2 | h2
      · have := Int.mul_pos_of_neg_of_neg h1 h2
        rw [decide_eq_true h1, decide_eq_true h2, decide_eq_false (by omega)]; rfl
      · have := Int.mul_neg_of_neg_of_pos h1 (show 0 < y by omega)
        rw [decide_eq_true h1, decide_eq_false (by omega), decide_eq_true (by omega)]; rfl
    · rcases Int.lt_or_le y 0 with h2 | h2
      · have := Int.mul_neg_of_pos_of_neg (show 0 < x by omega) h2
        rw [decide_eq_false (by omega), decide_eq_true h2, decide_eq_true (by omega)]; rfl
      · have := Int.mul_pos (show 0 < x by omega) (show 0 < y by omega)
        rw [decide_eq_false (by omega), decide_eq_false (by omega), decide_eq_false (by omega)]; rfl
theorem up_spec {a : WH} {x : Int} (ha : Wv a x) (sh : Nat) (hsh : sh ≤ 1073741824) (hla : a.2.1.length ≤ 1073741824) : ∃ c, spec_Whole_Up N a (sh : Int) = some c ∧ Wv c (x * ((2 ^ sh : Nat) : Int)) := by
  unfold spec_Whole_Up spec_Whole_Up_g
  by_cases hz : a.2.1 = []
  · rw [show ((a.2.1.length : Int) == 0) = true by rw [hz]; rfl, cond_true]
    refine ⟨a, rfl, ?_⟩
    rw [ha.nil.1 hz, Int.zero_mul]
    have e := ha.nil.1 hz
    subst e
    exact ha
  · have hl : a.2.1.length ≠ 0 := fun h => hz (List.eq_nil_of_length_eq_zero h)
    have hb : ((a.2.1.length : Int) == 0) = false := by simp; exact hz
    rw [hb, cond_false]
    have ed : Int.tdiv (sh : Int) 32 = ((sh / 32 : Nat) : Int) := by rw [Int.tdiv_eq_ediv_of_nonneg (by omega)]; omega
    have em : Int.tmod (sh : Int) 32 = ((sh % 32 : Nat) : Int) := by rw [Int.tmod_eq_emod_of_nonneg (by omega)]; omega
    rw [ed, wrap_in (n := ((sh / 32 : Nat) : Int)) (by omega), wrap_in (n := ((sh / 32 : Nat) : Int) + (a.2.1.length : Int)) (by omega), wrap_in (n := ((sh / 32 : Nat) : Int) + (a.2.1.length : Int) + 1) (by omega), mkn_ok (by omega) (by omega) (by omega) (by omega)]
    simp only [Option.bind_some, Int.toNat_natCast]
    have hs : sh % 32 < 32 := by omega
    have hpw : (2 ^ (sh % 32) : Nat) ≤ 2 ^ 31 := Nat.pow_le_pow_right (by decide) (by omega)
    have hpp : 0 < (2 ^ (sh % 32) : Nat) := Nat.pow_pos (by decide)
    have h31 : (2 ^ 31 : Nat) = 2147483648 := by decide
    have hdvd : ((2 ^ (sh % 32) : Nat) : Int) ∣ 4294967296 := by
      have h1 : (2 ^ (sh % 32) : Nat) ∣ 2 ^ 32 := Nat.pow_dvd_pow 2 (by omega)
      have h2 : ((2 ^ (sh % 32) : Nat) : Int) ∣ ((2 ^ 32 : Nat) : Int) := by exact_mod_cast h1
      exact h2
    have e64 : min (((sh % 32 : Nat) : Int)).toNat (IntKind.bits .u64) = sh % 32 := by rw [Int.toNat_natCast]; exact Nat.min_eq_left (by show sh % 32 ≤ 64; omega)
    have ep : (2 : Int) ^ (sh % 32) = ((2 ^ (sh % 32) : Nat) : Int) := by rw [Int.natCast_pow]; rfl
    generalize hD : ((2 ^ (sh % 32) : Nat) : Int) = D at *
    have hD1 : 1 ≤ D ∧ D ≤ 2147483648 := by omega
    rcases stateLoop0 (xs := a.2.1) (L := fun n i (st : Int × List Int) => spec_Whole_Up_l0 N n (sh : Int) a st.1 i st.2) (e := fun _ => False)
      (fin := fun st => (lim ((st.2.length + ([st.1] : List Int).length) * 4)).bind fun _ => (spec_trim_b N (st.2 ++ ([st.1] : List Int))).bind fun v9 => (some (a.1, v9.1, ())))
      (fun i st => st.2.length = sh / 32 + i ∧ Lim st.2 ∧ (0 ≤ st.1 ∧ st.1 < D) ∧ lv st.2 + st.1 * Bp (sh / 32 + i) = D * Bp (sh / 32) * lv (a.2.1.take i))
      (fun n st hp => by
        simp only [spec_Whole_Up_l0, spec_Whole_Up_g0, Bool.cond_decide]
        rw [if_neg (by omega)])
      (fun n i st hi hp => by
        right
        obtain ⟨c, out⟩ := st
        obtain ⟨p1, p2, p3, p4⟩ := hp
        dsimp only at p1 p2 p3 p4
        have hx := ha.1 _ (List.getElem_mem hi)
        simp only [spec_Whole_Up_l0, spec_Whole_Up_g0, Bool.cond_decide]
        rw [if_pos (by omega), nth_get hi, succ_in hi (by omega), em]
        simp only [Option.bind_some]
        rw [if_neg (by omega), e64, ep]
        have hxD : 0 ≤ a.2.1[i] * D ∧ a.2.1[i] * D < 4294967296 * D := ⟨Int.mul_nonneg hx.1 (by omega), Int.mul_lt_mul_of_pos_right hx.2 (by omega)⟩
        rw [w64_in (n := a.2.1[i]) (by omega), w64_in (n := a.2.1[i] * D) (by omega), shr32, w32_eq, w32_eq]
        have hq : a.2.1[i] * D / 4294967296 < D := Int.ediv_lt_of_lt_mul (by decide) (by omega)
        have hq0 : 0 ≤ a.2.1[i] * D / 4294967296 := by omega
        have hdm : D ∣ (a.2.1[i] * D) % 4294967296 := by
          have e := Int.mul_ediv_add_emod (a.2.1[i] * D) 4294967296
          have h1 : D ∣ a.2.1[i] * D := ⟨a.2.1[i], Int.mul_comm _ _⟩
          have h2 : D ∣ 4294967296 * (a.2.1[i] * D / 4294967296) := Int.dvd_trans hdvd ⟨_, rfl⟩
          rw [← e] at h1
          exact (Int.dvd_add_right h2).1 h1
        have hor := or_add (s := sh % 32) (a := (a.2.1[i] * D) % 4294967296) (c := c) (by omega) (by omega) (by rw [hD]; exact hdm) (by rw [hD]; exact p3)
        rw [hor.1, lim_le (by simp; omega), show a.2.1[i] * D / 4294967296 % 4294967296 = a.2.1[i] * D / 4294967296 by omega]
        refine ⟨(a.2.1[i] * D / 4294967296, out ++ [(a.2.1[i] * D) % 4294967296 + c]), rfl, by rw [List.length_append, p1]; rfl, p2.app (Lim.one (by omega)), ⟨hq0, hq⟩, ?_⟩
        dsimp only
        rw [lv_snoc, p1, show sh / 32 + (i + 1) = sh / 32 + i + 1 by omega, Bp_succ, lv_take hi]
        have e := Int.mul_ediv_add_emod (a.2.1[i] * D) 4294967296
        have e3 : Bp (sh / 32 + i) = Bp (sh / 32) * Bp i := Bp_add _ _
        rw [e3] at p4 ⊢
        generalize a.2.1[i] * D / 4294967296 = q at *
        generalize (a.2.1[i] * D) % 4294967296 = r at *
        generalize a.2.1[i] = x at *
        generalize lv (a.2.1.take i) = T at *
        generalize Bp (sh / 32) = P at *
        generalize Bp i = Q at *
        have e2 : P * Q * (4294967296 * q + r) = P * Q * (x * D) := by rw [e]
        grind) N (0, List.replicate (sh / 32) 0) (by omega) ⟨by simp, Lim.rep _, ⟨Int.le_refl 0, by dsimp only; omega⟩, by simp [lv_rep, lv]⟩ with h | ⟨st, h, hp⟩
    · exact h.elim
    · have h' : spec_Whole_Up_l0 N N (sh : Int) a 0 0 (List.replicate (sh / 32) 0) = _ := h
      obtain ⟨p1, p2, p3, p4⟩ := hp
      rw [h', lim_le (by simp; omega)]
      obtain ⟨t, t1, t2, t3, t4, t5⟩ := trimb_spec hN hNl (st.2 ++ [st.1]) (by simp; omega)
      refine ⟨(a.1, t, ()), by simp only [Option.bind_some, t1], ?_⟩
      have hsv : ((2 ^ sh : Nat) : Int) = D * Bp (sh / 32) := by
        rw [Bp_two, ← hD, ← Int.natCast_mul, ← Nat.pow_add, show sh % 32 + 32 * (sh / 32) = sh by omega]
      rw [List.take_length] at p4
      have hv : lv t = D * Bp (sh / 32) * lv a.2.1 := by
        rw [t2, lv_snoc, p1, ← p4, Int.mul_comm]
      have hp2 : (0 : Int) < D * Bp (sh / 32) := Int.mul_pos (by omega) (Bp_pos _)
      refine Wv.mk' (t3 (p2.app (Lim.one (by omega)))) t4 ?_ (fun h => ?_) (fun h => ?_)
      · rw [hv, hsv, ha.abs, Int.natAbs_mul, Int.natCast_mul, Int.mul_comm]
        congr 1
        omega
      · rw [ha.sgn]
        rw [hsv]
        by_cases hn : x < 0
        · have := Int.mul_neg_of_neg_of_pos hn hp2
          rw [decide_eq_true hn, decide_eq_true (by omega)]
        · have := Int.mul_nonneg (show 0 ≤ x by omega) (Int.le_of_lt hp2)
          rw [decide_eq_false hn, decide_eq_false (by omega)]
      · rw [hsv] at h
        have hx0 : x = 0 := by
          rcases Int.mul_eq_zero.1 h with h | h
          · exact h
          · omega
        rw [ha.sgn, hx0]; rfl
theorem wsign_spec {a : WH} {x : Int} (ha : Wv a x) : spec_Whole_Sign N a = some (cmpv x 0) := by
  unfold spec_Whole_Sign spec_Whole_Sign_g cmpv
  by_cases hz : x = 0
  · have := ha.nil.2 hz
    rw [show ((a.2.1.length : Int) == 0) = true by rw [this]; rfl, cond_true, if_neg (by omega), if_pos hz]
  · have h1 : a.2.1 ≠ [] := fun e => hz (ha.nil.1 e)
    have hl : a.2.1.length ≠ 0 := fun h => h1 (List.eq_nil_of_length_eq_zero h)
    have hb : ((a.2.1.length : Int) == 0) = false := by simp; exact h1
    rw [hb, cond_false, ha.sgn]
    by_cases hn : x < 0
    · rw [decide_eq_true hn, cond_true, if_pos hn]
    · rw [decide_eq_false hn, cond_false, if_neg hn, if_neg hz]
theorem wminus_spec {a : WH} {x : Int} (ha : Wv a x) : ∃ c, spec_Whole_Minus N a = some c ∧ Wv c (-x) := by
  unfold spec_Whole_Minus spec_Whole_Minus_g
  have h0 := ha.abs
  by_cases hz : x = 0
  · have e := ha.nil.2 hz
    have hs := ha.sgn
    subst hz
    rw [hs]
    refine ⟨_, rfl, ?_⟩
    refine Wv.mk' ha.1 ha.2.1 (by omega) (fun h => absurd rfl h) (fun _ => ?_)
    rw [e]; rfl
  · have h1 : a.2.1 ≠ [] := fun e => hz (ha.nil.1 e)
    have hl : a.2.1.length ≠ 0 := fun h => h1 (List.eq_nil_of_length_eq_zero h)
    rw [ha.sgn]
    by_cases hn : x < 0
    · rw [decide_eq_true hn]
      exact ⟨_, rfl, Wv.mk' ha.1 ha.2.1 (by omega) (fun _ => (decide_eq_false (by omega)).symm) (fun h => by omega)⟩
    · rw [decide_eq_false hn]
      refine ⟨_, rfl, Wv.mk' ha.1 ha.2.1 (by omega) (fun _ => ?_) (fun h => by omega)⟩
      rw [decide_eq_true (by omega), decide_eq_true (by omega)]
theorem wadd_spec {a b : WH} {x y : Int} (ha : Wv a x) (hb : Wv b y) (hla : a.2.1.length ≤ 4294967296) (hlb : b.2.1.length ≤ 4294967296) : ∃ c, spec_Whole_Add N a b = some c ∧ Wv c (x + y) := by
  unfold spec_Whole_Add spec_Whole_Add_g
  have sa := ha.sgn
  have sb := hb.sgn
  have va := ha.abs
  have vb := hb.abs
  by_cases hs : a.1 = b.1
  · rw [hs, beq_self_eq_true, cond_true]
    obtain ⟨t, h1, h2, h3, h4⟩ := add_spec hN hNl ha.1 hb.1 hla hlb
    rw [h1]
    rw [sa, sb] at hs
    have hs' : x < 0 ↔ y < 0 := decide_eq_decide.1 hs
    refine ⟨_, rfl, Wv.mk' h2 h3 (by omega) (fun h => ?_) (fun h => ?_)⟩
    · rw [sb]; exact decide_eq_decide.2 (by omega)
    · rw [sb]; exact decide_eq_false (by omega)
  · have hb' : (a.1 == b.1) = false := by simpa using hs
    rw [hb', cond_false, cmp_spec hN hNl ha.1 hb.1 ha.2.1 hb.2.1 (by omega)]
    simp only [Option.bind_some]
    have hs' : ¬(x < 0 ↔ y < 0) := fun h => hs (by rw [sa, sb]; exact decide_eq_decide.2 h)
    unfold cmpv
    by_cases h1 : lv a.2.1 < lv b.2.1
    · rw [if_pos h1]
      have hlen : a.2.1.length ≤ b.2.1.length := by
        rcases Nat.lt_or_ge b.2.1.length a.2.1.length with h | h
        · have := lv_lt_of_len hb.1 ha.1 ha.2.1 h
          omega
        · exact h
      obtain ⟨t, t1, t2, t3, t4⟩ := sub_spec hN hNl hb.1 ha.1 hlen (by omega) hlb
      rw [show ((-1 : Int) == 0) = false from rfl, show ((-1 : Int) == 1) = false from rfl, cond_false, cond_false, t1]
      refine ⟨_, rfl, Wv.mk' t2 t3 (by omega) (fun h => ?_) (fun h => by omega)⟩
      rw [sb]; exact decide_eq_decide.2 (by omega)
    · rw [if_neg h1]
      by_cases h2 : lv a.2.1 = lv b.2.1
      · rw [if_pos h2]
        exact ⟨_, rfl, Wv.mk' Lim.nil Nrm.nil (by simp only [lv]; omega) (fun h => by omega) (fun _ => rfl)⟩
      · rw [if_neg h2]
        have hlen : b.2.1.length ≤ a.2.1.length := by
          rcases Nat.lt_or_ge a.2.1.length b.2.1.length with h | h
          · have := lv_lt_of_len ha.1 hb.1 hb.2.1 h
            omega
          · exact h
        obtain ⟨t, t1, t2, t3, t4⟩ := sub_spec hN hNl ha.1 hb.1 hlen (by omega) hla
        rw [show ((1 : Int) == 0) = false from rfl, show ((1 : Int) == 1) = true from rfl, cond_false, cond_true, t1]
        refine ⟨_, rfl, Wv.mk' t2 t3 (by omega) (fun h => ?_) (fun h => by omega)⟩
        rw [sa]; exact decide_eq_decide.2 (by omega)
theorem wholeOf_spec (z : Int) (hz : -9223372036854775808 ≤ z ∧ z ≤ 9223372036854775807) : ∃ c, spec_WholeOf N z = some c ∧ Wv c z := by
  unfold spec_WholeOf spec_WholeOf_g
  have key : ∀ u : Int, u = (z.natAbs : Int) → ∃ c, spec_WholeOf_j0 N z u = some c ∧ Wv c z := by
    intro u hu
    simp only [spec_WholeOf_j0, spec_WholeOf_g0, gate_pos hN]
    rw [shr32, w32_eq, w32_eq]
    obtain ⟨t, t1, t2, t3, t4, t5⟩ := trim_spec hN hNl [u % 4294967296, u / 4294967296 % 4294967296] (by simp)
    rw [t1]
    refine ⟨_, rfl, Wv.mk' (t3 (fun x hx => ?_)) t4 ?_ (fun _ => rfl) (fun h => by rw [h]; rfl)⟩
    · simp only [List.mem_cons, List.mem_nil_iff, or_false] at hx
      omega
    · rw [t2]
      simp only [lv]
      omega
  simp only [Bool.cond_decide]
  by_cases h : z < 0
  · rw [if_pos h]
    apply key
    rw [w64_eq, w64_eq]
    omega
  · rw [if_neg h]
    apply key
    rw [w64_eq]
    omega
end
end Go.Proofs.Ytlbbldhbggfoaaa.PvWhole2UL
namespace Go.Proofs.Ytlbbldhbggfoaaa.PvDyadicUL
open Go.Av Go
open Go.Proofs.Ytlbbldhbggfoaaa.UL
open Go.Proofs.Ytlbbldhbggfoaaa.PvWholeUL
open Go.Proofs.Ytlbbldhbggfoaaa.PvWhole2UL
abbrev DY := WH × (Int × Unit)
theorem eta3 {α β : Type} (w : α × (β × Unit)) : (w.1, w.2.1, ()) = w := rfl
theorem eta4 {α β γ : Type} (w : α × (β × (γ × Unit))) : (w.1, w.2.1, w.2.2.1, ()) = w := rfl
/-- How big the numbers of a depth may be. -/
def sk (k : Nat) : Nat := 2000 * 4 ^ k
theorem sk_succ (k : Nat) : sk (k + 1) = 4 * sk k := by unfold sk; rw [Nat.pow_succ]; omega
theorem sk_pos (k : Nat) : 2000 ≤ sk k := by
  unfold sk
  have := Nat.pow_pos (n := k) (show 0 < 4 by decide)
  omega
theorem sk_le {k : Nat} (h : k ≤ 9) : sk k ≤ 524288000 := by
  unfold sk
  have : 4 ^ k ≤ 4 ^ 9 := Nat.pow_le_pow_right (by decide) h
  have e : 4 ^ 9 = 262144 := by decide
  omega
/-- d stands for q, and is not too big for a depth. -/
def Dn (k : Nat) (d : DY) (q : Rat) : Prop := ∃ z : Int, Wv d.1 z ∧ z.natAbs < 2 ^ sk k ∧ (-(sk k : Int) ≤ d.2.1 ∧ d.2.1 ≤ (sk k : Int)) ∧ q = (z : Rat) * P2 d.2.1
theorem Dn.up {k : Nat} {d : DY} {q : Rat} (h : Dn k d q) : Dn (k + 1) d q := by
  obtain ⟨z, h1, h2, h3, h4⟩ := h
  have := sk_succ k
  have : 2 ^ sk k ≤ 2 ^ sk (k + 1) := Nat.pow_le_pow_right (by decide) (by omega)
  exact ⟨z, h1, by omega, by omega, h4⟩
theorem Dn.upto {k m : Nat} {d : DY} {q : Rat} (h : Dn k d q) (hm : k ≤ m) : Dn m d q := by
  induction m with
  | zero => obtain rfl : k = 0 := by omega
            exact h
  | succ m ih =>
    rcases Nat.lt_or_ge m k with h1 | h1
    · obtain rfl : k = m + 1 := by omega
      exact h
    · exact (ih h1).up
/-- The sign of a difference. -/
def cmpq (x y : Rat) : Int := if x < y then -1 else if x = y then 0 else 1
theorem intCast_zero_lt {z : Int} : (z : Rat) < 0 ↔ z < 0 := by
  have : ((0 : Int) : Rat) = 0 := rfl
  rw [← this]; exact intCast_lt
theorem intCast_eq_zero {z : Int} : (z : Rat) = 0 ↔ z = 0 := by
  have : ((0 : Int) : Rat) = 0 := rfl
  rw [← this]; exact intCast_eq
theorem mulP2_neg {v : Rat} {e : Int} : v * P2 e < 0 ↔ v < 0 := by
  have hp := P2_pos e
  constructor
  · intro h
    apply Rat.not_le.1
    intro hv
    exact absurd h (Rat.not_lt.2 (Rat.mul_nonneg hv (Rat.le_of_lt hp)))
  · intro h
    apply Rat.not_le.1
    intro hv
    have h0 : 0 * P2 e ≤ v * P2 e := by rw [Rat.zero_mul]; exact hv
    exact absurd h (Rat.not_lt.2 ((mul_le hp).1 h0))
theorem mulP2_zero {v : Rat} {e : Int} : v * P2 e = 0 ↔ v = 0 := by
  have hp := P2_pos e
  constructor
  · intro h
    rcases Rat.mul_eq_zero.1 h with h | h
    · exact h
    · rw [h] at hp; exact absurd hp (by decide)
  · intro h; rw [h, Rat.zero_mul]
theorem Dn.sign {k : Nat} {d : DY} {q : Rat} (h : Dn k d q) : ∃ z : Int, Wv d.1 z ∧ cmpv z 0 = cmpq q 0 ∧ (z = 0 ↔ q = 0) := by
  obtain ⟨z, h1, h2, h3, h4⟩ := h
  have e1 : q < 0 ↔ z < 0 := by rw [h4, mulP2_neg, intCast_zero_lt]
  have e2 : q = 0 ↔ z = 0 := by rw [h4, mulP2_zero, intCast_eq_zero]
  refine ⟨z, h1, ?_, e2.symm⟩
  unfold cmpv cmpq
  simp only [e1, e2]
theorem int2pow (n : Nat) : (((2 ^ n : Nat) : Int) : Rat) = P2 (n : Int) := by
  rw [P2_nat]; rfl
section
variable {N : Nat} (hN : 0 < N) (hNl : 9223372036854775808 ≤ N)
include hN hNl
theorem dsign {k : Nat} {d : DY} {q : Rat} (h : Dn k d q) : spec_Dyadic_Sign N d = some (cmpq q 0) := by
  obtain ⟨z, h1, h2, h3⟩ := h.sign
  unfold spec_Dyadic_Sign spec_Dyadic_Sign_g
  rw [eta3, wsign_spec hN hNl h1, h2]; rfl
theorem dminus {k : Nat} {d : DY} {q : Rat} (h : Dn k d q) : ∃ c, spec_Dyadic_Minus N d = some c ∧ Dn k c (-q) := by
  obtain ⟨z, h1, h2, h3, h4⟩ := h
  obtain ⟨w, w1, w2⟩ := wminus_spec hN hNl h1
  unfold spec_Dyadic_Minus spec_Dyadic_Minus_g
  rw [eta3, w1]
  refine ⟨_, rfl, -z, w2, by omega, h3, ?_⟩
  rw [h4, Rat.intCast_neg]
  dsimp only
  grind
theorem dup {k : Nat} {a : WH} {x : Int} (ha : Wv a x) (hx : x.natAbs < 2 ^ sk k) (hk : k ≤ 8) (sh : Nat) (hs : sh ≤ 2 * sk k) : ∃ c, spec_Whole_Up N a (sh : Int) = some c ∧ Wv c (x * ((2 ^ sh : Nat) : Int)) ∧ (x * ((2 ^ sh : Nat) : Int)).natAbs < 2 ^ (3 * sk k) := by
  have h1 := sk_le (show k ≤ 9 by omega)
  obtain ⟨c, c1, c2⟩ := up_spec hN hNl ha sh (by omega) (by have := ha.len hx; omega)
  refine ⟨c, c1, c2, ?_⟩
  rw [Int.natAbs_mul, Int.natAbs_natCast]
  have e : 2 ^ (3 * sk k) = 2 ^ sk k * 2 ^ (2 * sk k) := by rw [← Nat.pow_add]; congr 1; omega
  have : 2 ^ sh ≤ 2 ^ (2 * sk k) := Nat.pow_le_pow_right (by decide) hs
  rw [e]
  exact Nat.lt_of_le_of_lt (Nat.mul_le_mul_left _ this) (Nat.mul_lt_mul_of_pos_right hx (Nat.two_pow_pos _))
theorem daddw {k : Nat} {a b : WH} {x y : Int} {ea eb : Int} (ha : Wv a x) (hb : Wv b y) (hx : x.natAbs < 2 ^ sk k) (hy : y.natAbs < 2 ^ sk k) (hk : k ≤ 8) (h1 : -(sk k : Int) ≤ ea ∧ ea ≤ (sk k : Int)) (h2 : -(sk k : Int) ≤ eb ∧ eb ≤ (sk k : Int)) (hle : eb ≤ ea) :
    ∃ u c, spec_Whole_Up N a (IntKind.i64.wrap (ea - eb)) = some u ∧ spec_Whole_Add N u b = some c ∧ Dn (k + 1) (c, eb, ()) ((x : Rat) * P2 ea + (y : Rat) * P2 eb) := by
  have s1 := sk_le (show k ≤ 9 by omega)
  have s2 := sk_succ k
  have s3 := sk_pos k
  have en : ea - eb = (((ea - eb).toNat : Nat) : Int) := by omega
  obtain ⟨u, u1, u2, u3⟩ := dup hN hNl ha hx hk (ea - eb).toNat (by omega)
  obtain ⟨c, c1, c2⟩ := wadd_spec hN hNl u2 hb (by have := u2.len u3; omega) (by have := hb.len hy; omega)
  refine ⟨u, c, by rw [wrap_in (by omega), en]; exact u1, c1, _, c2, ?_, ⟨by dsimp only; omega, by dsimp only; omega⟩, ?_⟩
  · have e : 2 ^ sk (k + 1) = 2 ^ (3 * sk k) * 2 ^ sk k := by rw [← Nat.pow_add, s2]; congr 1; omega
    have p1 : 2 ^ 1 ≤ 2 ^ sk k := Nat.pow_le_pow_right (by decide) (by omega)
    have p2 : 2 ^ sk k ≤ 2 ^ (3 * sk k) := Nat.pow_le_pow_right (by decide) (by omega)
    have p3 : 2 ^ (3 * sk k) * 2 ^ 1 ≤ 2 ^ (3 * sk k) * 2 ^ sk k := Nat.mul_le_mul_left _ p1
    omega
  · dsimp only
    rw [Rat.intCast_add, Rat.intCast_mul, int2pow, ← en]
    have : P2 ea = P2 (ea - eb) * P2 eb := P2_of (by omega)
    rw [this]
    grind
theorem dadd {k : Nat} {a b : DY} {x y : Rat} (ha : Dn k a x) (hb : Dn k b y) (hk : k ≤ 8) : ∃ c, spec_Dyadic_Add N a b = some c ∧ Dn (k + 1) c (x + y) := by
  unfold spec_Dyadic_Add spec_Dyadic_Add_g
  simp only [eta3]
  rw [dsign hN hNl ha, dsign hN hNl hb]
  simp only [Option.bind_some]
  have cz : ∀ q : Rat, (cmpq q 0 == 0) = decide (q = 0) := by
    intro q
    unfold cmpq
    by_cases h1 : q < 0
    · rw [if_pos h1, decide_eq_false (fun h => by rw [h] at h1; exact absurd h1 (by decide))]; rfl
    · rw [if_neg h1]
      by_cases h2 : q = 0
      · rw [if_pos h2, decide_eq_true h2]; rfl
      · rw [if_neg h2, decide_eq_false h2]; rfl
  rw [cz, cz]
  by_cases hx : x = 0
  · rw [decide_eq_true hx, cond_true]
    refine ⟨b, rfl, ?_⟩
    rw [hx, Rat.zero_add]; exact hb.up
  · rw [decide_eq_false hx, cond_false]
    by_cases hy : y = 0
    · rw [decide_eq_true hy, cond_true]
      refine ⟨a, rfl, ?_⟩
      rw [hy, Rat.add_zero]; exact ha.up
    · rw [decide_eq_false hy, cond_false]
      obtain ⟨za, a1, a2, a3, a4⟩ := ha
      obtain ⟨zb, b1, b2, b3, b4⟩ := hb
      simp only [Bool.cond_decide]
      by_cases hlt : a.2.1 > b.2.1
      · rw [if_pos hlt]
        obtain ⟨u, c, c1, c2, c3⟩ := daddw hN hNl a1 b1 a2 b2 hk a3 b3 (by omega)
        rw [c1]
        simp only [Option.bind_some]
        rw [c2]
        refine ⟨_, rfl, ?_⟩
        rw [a4, b4]; exact c3
      · rw [if_neg hlt]
        obtain ⟨u, c, c1, c2, c3⟩ := daddw hN hNl b1 a1 b2 a2 hk b3 a3 (by omega)
        rw [c1]
        simp only [Option.bind_some]
        rw [c2]
        refine ⟨_, rfl, ?_⟩
        rw [a4, b4, Rat.add_comm]; exact c3
theorem dsub {k : Nat} {a b : DY} {x y : Rat} (ha : Dn k a x) (hb : Dn k b y) (hk : k ≤ 8) : ∃ c, spec_Dyadic_Sub N a b = some c ∧ Dn (k + 1) c (x - y) := by
  unfold spec_Dyadic_Sub spec_Dyadic_Sub_g
  simp only [eta3]
  obtain ⟨m, m1, m2⟩ := dminus hN hNl hb
  obtain ⟨c, c1, c2⟩ := dadd hN hNl ha m2 hk
  rw [m1]
  simp only [Option.bind_some]
  rw [c1]
  refine ⟨c, rfl, ?_⟩
  rw [Rat.sub_eq_add_neg]; exact c2
theorem dmul {k : Nat} {a b : DY} {x y : Rat} (ha : Dn k a x) (hb : Dn k b y) (hk : k ≤ 8) : ∃ c, spec_Dyadic_Mul N a b = some c ∧ Dn (k + 1) c (x * y) := by
  unfold spec_Dyadic_Mul spec_Dyadic_Mul_g
  simp only [eta3]
  obtain ⟨za, a1, a2, a3, a4⟩ := ha
  obtain ⟨zb, b1, b2, b3, b4⟩ := hb
  have s1 := sk_le (show k ≤ 9 by omega)
  have s2 := sk_succ k
  have s3 := sk_pos k
  obtain ⟨c, c1, c2⟩ := mul_spec hN hNl a1 b1 (by have := a1.len a2; omega) (by have := b1.len b2; omega)
  rw [c1]
  simp only [Option.bind_some]
  rw [wrap_in (by omega)]
  refine ⟨_, rfl, za * zb, c2, ?_, ⟨by dsimp only; omega, by dsimp only; omega⟩, ?_⟩
  · rw [Int.natAbs_mul]
    have e : 2 ^ sk k * 2 ^ sk k ≤ 2 ^ sk (k + 1) := by rw [← Nat.pow_add]; exact Nat.pow_le_pow_right (by decide) (by omega)
    exact Nat.lt_of_lt_of_le (Nat.mul_lt_mul'' a2 b2) e
  · dsimp only
    rw [a4, b4, Rat.intCast_mul, P2_add]
    grind
theorem dcmp {k : Nat} {a b : DY} {x y : Rat} (ha : Dn k a x) (hb : Dn k b y) (hk : k ≤ 8) : spec_Dyadic_Cmp N a b = some (cmpq x y) := by
  unfold spec_Dyadic_Cmp spec_Dyadic_Cmp_g
  simp only [eta3]
  obtain ⟨c, c1, c2⟩ := dsub hN hNl ha hb hk
  rw [c1]
  simp only [Option.bind_some]
  rw [dsign hN hNl c2]
  simp only [Option.bind_some]
  congr 1
  unfold cmpq
  have e1 : x - y < 0 ↔ x < y := by constructor <;> intro h <;> grind
  have e2 : x - y = 0 ↔ x = y := by constructor <;> intro h <;> grind
  simp only [e1, e2]
theorem dint (n : Int) (hn : -9223372036854775808 ≤ n ∧ n ≤ 9223372036854775807) : ∃ c, spec_IntOf N n = some c ∧ Dn 0 c (n : Rat) := by
  unfold spec_IntOf spec_IntOf_g
  obtain ⟨c, c1, c2⟩ := wholeOf_spec hN hNl n hn
  rw [c1]
  refine ⟨_, rfl, n, c2, ?_, ⟨by dsimp only; have := sk_pos 0; omega, by dsimp only; omega⟩, ?_⟩
  · have : 2 ^ 64 ≤ 2 ^ sk 0 := Nat.pow_le_pow_right (by decide) (by have := sk_pos 0; omega)
    have e : 2 ^ 64 = 18446744073709551616 := by decide
    omega
  · dsimp only
    rw [P2_zero, Rat.mul_one]
theorem dofm (m e : Int) (x : Rat) (hm : -9007199254740992 ≤ m ∧ m ≤ 9007199254740992) (he : 0 ≤ e ∧ e ≤ 2047) (hx : x = (m : Rat) * P2 (e - 1075)) : ∃ c, spec_DyadicOf_j1 N e m = some c ∧ Dn 0 c x := by
  simp only [spec_DyadicOf_j1, spec_DyadicOf_g1, gate_pos hN]
  obtain ⟨c, c1, c2⟩ := wholeOf_spec hN hNl m (by omega)
  rw [c1, wrap_in (by omega)]
  refine ⟨_, rfl, m, c2, ?_, ⟨?_, ?_⟩, hx⟩
  · have : 2 ^ 64 ≤ 2 ^ sk 0 := Nat.pow_le_pow_right (by decide) (by have := sk_pos 0; omega)
    have e : 2 ^ 64 = 18446744073709551616 := by decide
    omega
  · dsimp only; have := sk_pos 0; omega
  · dsimp only; have := sk_pos 0; omega
theorem dof {x : Nat} (hx : fin x = true) (h64 : x < 18446744073709551616) : ∃ c, spec_DyadicOf N x = some c ∧ Dn 0 c (fv x) := by
  have hr : rung x < 9218868437227405312 := of_decide_eq_true hx
  have hmod : rung x = x % 9223372036854775808 := rfl
  have e52 : Int.fdiv ((x : Nat) : Int) (2 ^ (min (52 : Int).toNat (IntKind.bits .u64))) = ((x / 4503599627370496 : Nat) : Int) := by
    rw [show min (52 : Int).toNat (IntKind.bits .u64) = 52 by decide, Int.fdiv_eq_ediv_of_nonneg _ (by decide)]; omega
  have e63 : Int.fdiv ((x : Nat) : Int) (2 ^ (min (63 : Int).toNat (IntKind.bits .u64))) = ((x / 9223372036854775808 : Nat) : Int) := by
    rw [show min (63 : Int).toNat (IntKind.bits .u64) = 63 by decide, Int.fdiv_eq_ediv_of_nonneg _ (by decide)]; omega
  have b1 : bits .and .u64 ((x / 4503599627370496 : Nat) : Int) 2047 = ((x / 4503599627370496 % 2048 : Nat) : Int) := and_low (k := 11) (by decide) (by omega)
  have b2 : bits .and .u64 ((x : Nat) : Int) 4503599627370495 = ((x % 4503599627370496 : Nat) : Int) := and_low (k := 52) (by decide) (by omega)
  have key : ∀ (m e : Nat), m ≤ 9007199254740992 → e ≤ 2047 → (val (rung x) : Rat) * P2 (-1074) = (m : Rat) * P2 ((e : Int) - 1075) →
      ∃ c, spec_DyadicOf_j0 N ((x : Nat) : Int) (m : Int) (e : Int) = some c ∧ Dn 0 c (fv x) := by
    intro m e hm he hv
    simp only [spec_DyadicOf_j0, spec_DyadicOf_g0, gate_pos hN]
    rw [e63]
    by_cases hs : x / 9223372036854775808 = 1
    · have hb : (((x / 9223372036854775808 : Nat) : Int) == 1) = true := by rw [hs]; rfl
      rw [hb, cond_true, wrap_in (by omega)]
      apply dofm hN hNl _ _ _ (by omega) (by omega)
      have hsg : sgn x = true := by unfold sgn; rw [hs]; rfl
      rw [fv_eq, hsg]
      unfold sg
      rw [if_pos rfl, hv, show (0 : Int) - (m : Int) = -(m : Int) by omega, Rat.intCast_neg]
      have : (((m : Nat) : Int) : Rat) = (m : Rat) := rfl
      rw [this]; grind
    · have hb : (((x / 9223372036854775808 : Nat) : Int) == 1) = false := by simp; omega
      rw [hb, cond_false]
      apply dofm hN hNl _ _ _ (by omega) (by omega)
      have hsg : sgn x = false := by
        unfold sgn
        have : x / 9223372036854775808 = 0 := by omega
        rw [this]; rfl
      rw [fv_eq, hsg]
      unfold sg
      rw [if_neg (by decide), hv]
      rfl
  unfold spec_DyadicOf spec_DyadicOf_g math_Float64bits
  simp only [Option.bind_some]
  rw [e52, b1, b2, wrap_in (n := ((x / 4503599627370496 % 2048 : Nat) : Int)) (by omega), wrap_in (n := ((x % 4503599627370496 : Nat) : Int)) (by omega), wrap_in (n := ((x % 4503599627370496 : Nat) : Int) + 4503599627370496) (by omega)]
  have h2047 : (((x / 4503599627370496 % 2048 : Nat) : Int) == 2047) = false := by simp; omega
  rw [h2047, cond_false]
  by_cases h0 : x / 4503599627370496 % 2048 = 0
  · have hb : (((x / 4503599627370496 % 2048 : Nat) : Int) == 0) = true := by rw [h0]; rfl
    rw [hb, cond_true]
    apply key (x % 4503599627370496) 1 (by omega) (by omega)
    have hlt : rung x < 4503599627370496 := by omega
    unfold val
    rw [if_pos hlt, show rung x = x % 4503599627370496 by omega]
    rfl
  · have hb : (((x / 4503599627370496 % 2048 : Nat) : Int) == 0) = false := by simp; omega
    rw [hb, cond_false]
    have := key (x % 4503599627370496 + 4503599627370496) (x / 4503599627370496 % 2048) (by omega) (by omega) (by
      unfold val
      rw [if_neg (by omega)]
      have e1 : rung x % 4503599627370496 = x % 4503599627370496 := by omega
      have e2 : rung x / 4503599627370496 = x / 4503599627370496 % 2048 := by omega
      rw [e1, e2, Rat.natCast_mul, ← P2_nat, Nat.add_comm]
      have : P2 ((x / 4503599627370496 % 2048 : Nat) - 1075) = P2 ((x / 4503599627370496 % 2048 - 1 : Nat)) * P2 (-1074) := P2_of (by omega)
      rw [this]; grind)
    exact this
end
end Go.Proofs.Ytlbbldhbggfoaaa.PvDyadicUL
namespace Go.Proofs.Ytlbbldhbggfoaaa.PvBitsUL
open Go.Av Go
open Go.Proofs.Ytlbbldhbggfoaaa.UL
open Go.Proofs.Ytlbbldhbggfoaaa.PvWholeUL
open Go.Proofs.Ytlbbldhbggfoaaa.PvWhole2UL
open Go.Proofs.Ytlbbldhbggfoaaa.PvDyadicUL
theorem and_one {a : Int} (ha : 0 ≤ a ∧ a < 4294967296) : bits .and .u32 a 1 = a % 2 := by
  obtain ⟨A, rfl⟩ := Int.eq_ofNat_of_zero_le ha.1
  unfold bits
  have e1 : BitVec.ofInt (IntKind.bits .u32) ((A : Nat) : Int) = BitVec.ofNat 32 A := by rw [BitVec.ofInt_natCast]; rfl
  have e2 : BitVec.ofInt (IntKind.bits .u32) (1 : Int) = BitVec.ofNat 32 1 := by rfl
  rw [e1, e2, w32_eq]
  have e3 : (BitVec.ofNat 32 A &&& BitVec.ofNat 32 1).toNat = A % 2 := by
    rw [BitVec.toNat_and, BitVec.toNat_ofNat, BitVec.toNat_ofNat, Nat.mod_eq_of_lt (by omega), Nat.mod_eq_of_lt (by decide), Nat.and_one_is_mod]
  have e4 : ((BitVec.ofNat 32 A &&& BitVec.ofNat 32 1 : BitVec (IntKind.bits .u32)).toNat : Int) = ((A % 2 : Nat) : Int) := by exact_mod_cast e3
  show ((BitVec.ofNat 32 A &&& BitVec.ofNat 32 1 : BitVec (IntKind.bits .u32)).toNat : Int) % 4294967296 = _
  rw [e4]
  omega
section
variable {N : Nat} (hN : 0 < N) (hNl : 9223372036854775808 ≤ N)
include hN hNl
theorem top_loop : ∀ (n j : Nat) (t x : Int), j + 1 ≤ n → (j : Int) ≤ t → t ≤ 4611686018427387904 → 0 < x → x * ((2 ^ j : Nat) : Int) < 4294967296 → 2147483648 ≤ x * ((2 ^ j : Nat) : Int) → spec_Whole_top_l0 N n t x = some (t - (j : Int))
  | 0, j, t, x, h, _, _, _, _, _ => by omega
  | n + 1, 0, t, x, h, ht, hm, hx, h1, h2 => by
    simp only [spec_Whole_top_l0, spec_Whole_top_g0, Bool.cond_decide]
    rw [if_neg (by simp at h2; omega)]
    simp
  | n + 1, j + 1, t, x, h, ht, hm, hx, h1, h2 => by
    have e : x * ((2 ^ (j + 1) : Nat) : Int) = x * 2 * ((2 ^ j : Nat) : Int) := by
      rw [Nat.pow_succ, Int.natCast_mul, Int.mul_comm ((2 ^ j : Nat) : Int), ← Int.mul_assoc]; rfl
    have hp : (1 : Int) ≤ ((2 ^ j : Nat) : Int) := by have := Nat.pow_pos (n := j) (show 0 < 2 by decide); omega
    rw [e] at h1 h2
    have hlt : x * 2 < 4294967296 := by
      have := Int.mul_le_mul_of_nonneg_left hp (show 0 ≤ x * 2 by omega)
      omega
    simp only [spec_Whole_top_l0, spec_Whole_top_g0, Bool.cond_decide]
    rw [if_pos (by omega), wrap_in (by omega)]
    rw [show (2 : Int) ^ (min (1 : Int).toNat (IntKind.bits .u32)) = 2 by decide, w32_eq, show x * 2 % 4294967296 = x * 2 by omega]
    rw [top_loop n j (t - 1) (x * 2) (by omega) (by omega) (by omega) (by omega) h1 h2]
    congr 1
    omega
theorem exists_shift {x : Nat} (h : 0 < x) (h2 : x < 4294967296) : ∃ j : Nat, j ≤ 31 ∧ x * 2 ^ j < 4294967296 ∧ 2147483648 ≤ x * 2 ^ j := by
  have l1 := Nat.log2_self_le (n := x) (by omega)
  have l2 := Nat.lt_log2_self (n := x)
  have hl : x.log2 < 32 := by
    rcases Nat.lt_or_ge x.log2 32 with h | h
    · exact h
    · have : 2 ^ 32 ≤ 2 ^ x.log2 := Nat.pow_le_pow_right (by decide) h
      have e : 2 ^ 32 = 4294967296 := by decide
      omega
  refine ⟨31 - x.log2, by omega, ?_, ?_⟩
  · have : x * 2 ^ (31 - x.log2) < 2 ^ (x.log2 + 1) * 2 ^ (31 - x.log2) := Nat.mul_lt_mul_of_pos_right l2 (Nat.two_pow_pos _)
    rw [← Nat.pow_add, show x.log2 + 1 + (31 - x.log2) = 32 by omega] at this
    exact this
  · have : 2 ^ x.log2 * 2 ^ (31 - x.log2) ≤ x * 2 ^ (31 - x.log2) := Nat.mul_le_mul_right _ l1
    rw [← Nat.pow_add, show x.log2 + (31 - x.log2) = 31 by omega] at this
    exact this
theorem top_spec {a : WH} {z : Int} (ha : Wv a z) (hz : z ≠ 0) (hl : a.2.1.length ≤ 1073741824) : ∃ t : Nat, spec_Whole_top N a = some (t : Int) ∧ 1 ≤ t ∧ t ≤ 32 * a.2.1.length ∧ 2 ^ (t - 1) ≤ z.natAbs ∧ z.natAbs < 2 ^ t := by
  have hne : a.2.1 ≠ [] := fun e => hz (ha.nil.1 e)
  have hb : ((a.2.1.length : Int) == 0) = false := by simp; exact hne
  rcases snoc_cases a.2.1 with e | ⟨r, x, e⟩
  · exact absurd e hne
  have hx0 := ha.2.1 r x e
  have hlim := ha.1
  rw [e] at hlim
  have hx := hlim x (by simp)
  obtain ⟨X, rfl⟩ := Int.eq_ofNat_of_zero_le hx.1
  try simp only [Int.ofNat_eq_natCast] at *
  obtain ⟨j, j1, j2, j3⟩ := exists_shift hN hNl (x := X) (by omega) (by omega)
  have hlen : a.2.1.length = r.length + 1 := by rw [e, List.length_append]; rfl
  unfold spec_Whole_top spec_Whole_top_g
  rw [hb, cond_false, hlen, wrap_in (n := ((r.length + 1 : Nat) : Int) - 1) (by omega), show ((r.length + 1 : Nat) : Int) - 1 = (r.length : Int) by omega, wrap_in (by omega), e, nth_nat, List.getElem?_append_right (Nat.le_refl _), Nat.sub_self]
  simp only [List.getElem?_cons_zero, Option.bind_some]
  have p1 : (X : Int) * ((2 ^ j : Nat) : Int) = ((X * 2 ^ j : Nat) : Int) := by rw [Int.natCast_mul]
  rw [top_loop hN hNl N j _ _ (by omega) (by omega) (by omega) (by omega) (by rw [p1]; omega) (by rw [p1]; omega)]
  refine ⟨32 * (r.length + 1) - j, by congr 1; omega, by omega, by omega, ?_, ?_⟩
  · have h1 := lv_ge hlim hx0
    have h2 := ha.abs
    have h3 := lv_snoc r (X : Int)
    have h4 := lv_nonneg hlim.left
    rw [e] at h2
    have hpp : 2 ^ (32 * (r.length + 1) - j - 1) ≤ X * 2 ^ (32 * r.length) := by
      have : 2 ^ (31 - j) ≤ X := by
        have h5 : 2 ^ 31 ≤ X * 2 ^ j := j3
        rw [show (31 : Nat) = (31 - j) + j by omega, Nat.pow_add] at h5
        exact Nat.le_of_mul_le_mul_right h5 (Nat.two_pow_pos j)
      have := Nat.mul_le_mul_right (2 ^ (32 * r.length)) this
      rw [← Nat.pow_add] at this
      rw [show 32 * (r.length + 1) - j - 1 = 31 - j + 32 * r.length by omega]
      exact this
    have h6 : (X : Int) * Bp r.length = ((X * 2 ^ (32 * r.length) : Nat) : Int) := by rw [Bp_two, Int.natCast_mul]
    rw [Int.mul_comm, h6] at h3
    omega
  · have h2 := ha.abs
    have h3 := lv_snoc r (X : Int)
    have h4 := lv_lt hlim.left
    rw [e] at h2
    have hpp : (X + 1) * 2 ^ (32 * r.length) ≤ 2 ^ (32 * (r.length + 1) - j) := by
      have : X + 1 ≤ 2 ^ (32 - j) := by
        have h5 : X * 2 ^ j < 2 ^ 32 := j2
        rw [show (32 : Nat) = (32 - j) + j by omega, Nat.pow_add] at h5
        exact Nat.lt_of_mul_lt_mul_right h5
      have := Nat.mul_le_mul_right (2 ^ (32 * r.length)) this
      rw [← Nat.pow_add] at this
      rw [show 32 * (r.length + 1) - j = 32 - j + 32 * r.length by omega]
      exact this
    have h6 : (X : Int) * Bp r.length = ((X * 2 ^ (32 * r.length) : Nat) : Int) := by rw [Bp_two, Int.natCast_mul]
    have h7 : Bp r.length = ((2 ^ (32 * r.length) : Nat) : Int) := Bp_two _
    rw [Int.mul_comm, h6] at h3
    rw [Nat.add_mul, Nat.one_mul] at hpp
    omega
theorem bit_neg {a : WH} {n : Int} (h : n < 0) : spec_Whole_bit N a n = some false := by
  unfold spec_Whole_bit spec_Whole_bit_g
  simp only [Bool.cond_decide]
  rw [if_neg (by omega)]
theorem bit_spec {a : WH} {z : Int} (ha : Wv a z) (n : Nat) (hn : n ≤ 4611686018427387904) : spec_Whole_bit N a (n : Int) = some (z.natAbs.testBit n) := by
  unfold spec_Whole_bit spec_Whole_bit_g
  simp only [Bool.cond_decide]
  have ed : Int.tdiv (n : Int) 32 = ((n / 32 : Nat) : Int) := by rw [Int.tdiv_eq_ediv_of_nonneg (by omega)]; omega
  have em : Int.tmod (n : Int) 32 = ((n % 32 : Nat) : Int) := by rw [Int.tmod_eq_emod_of_nonneg (by omega)]; omega
  rw [if_pos (by omega), ed, em, wrap_in (by omega)]
  rw [Nat.testBit_eq_decide_div_mod_eq]
  have hv := ha.abs
  by_cases hq : n / 32 < a.2.1.length
  · rw [if_pos (by omega), nth_get hq]
    simp only [Option.bind_some]
    rw [if_neg (by omega), Int.toNat_natCast, show min (n % 32) (IntKind.bits .u32) = n % 32 from Nat.min_eq_left (by show n % 32 ≤ 32; omega)]
    have hx := ha.1 _ (List.getElem_mem hq)
    obtain ⟨X, hX⟩ := Int.eq_ofNat_of_zero_le hx.1
    try simp only [Int.ofNat_eq_natCast] at hX
    have hp2 : (2 : Int) ^ (n % 32) = ((2 ^ (n % 32) : Nat) : Int) := by rw [Int.natCast_pow]; rfl
    have hpp : 0 < 2 ^ (n % 32) := Nat.two_pow_pos _
    rw [hX, hp2, Int.fdiv_eq_ediv_of_nonneg _ (by omega), ← Int.natCast_ediv]
    have hle : X / 2 ^ (n % 32) ≤ X := Nat.div_le_self _ _
    rw [and_one (a := ((X / 2 ^ (n % 32) : Nat) : Int)) ⟨Int.natCast_nonneg _, Int.lt_of_le_of_lt (Int.ofNat_le.2 hle) (by omega)⟩]
    have s := lv_split hq
    have t1 := lv_lt (ha.1.take (n / 32))
    rw [List.length_take, Nat.min_eq_left (by omega)] at t1
    have t0 := lv_nonneg (ha.1.take (n / 32))
    have d0 := lv_nonneg (ha.1.drop (n / 32 + 1))
    obtain ⟨T, hT⟩ := Int.eq_ofNat_of_zero_le t0
    obtain ⟨D, hD⟩ := Int.eq_ofNat_of_zero_le d0
    try simp only [Int.ofNat_eq_natCast] at hT hD
    rw [hv, hX, hT, hD, Bp_two] at s
    rw [hT, Bp_two] at t1
    have s' : z.natAbs = T + 2 ^ (32 * (n / 32)) * (X + 4294967296 * D) := by
      apply Int.ofNat.inj
      show ((z.natAbs : Nat) : Int) = ((T + 2 ^ (32 * (n / 32)) * (X + 4294967296 * D) : Nat) : Int)
      rw [s, Int.natCast_add, Int.natCast_mul, Int.natCast_add, Int.natCast_mul]
      rfl
    have t' : T < 2 ^ (32 * (n / 32)) := Int.ofNat_lt.1 t1
    have hn2 : 2 ^ n = 2 ^ (32 * (n / 32)) * 2 ^ (n % 32) := by rw [← Nat.pow_add]; congr 1; omega
    have h1 : z.natAbs / 2 ^ n = (X + 4294967296 * D) / 2 ^ (n % 32) := by
      rw [hn2, ← Nat.div_div_eq_div_mul, s', Nat.add_mul_div_left _ _ (Nat.two_pow_pos _), Nat.div_eq_of_lt t', Nat.zero_add]
    have h2 : (4294967296 : Nat) = 2 ^ (n % 32) * (2 * 2 ^ (31 - n % 32)) := by
      rw [← Nat.pow_succ', ← Nat.pow_add, show n % 32 + (31 - n % 32 + 1) = 32 by omega]
    have h3 : (X + 4294967296 * D) / 2 ^ (n % 32) = X / 2 ^ (n % 32) + 2 * (2 ^ (31 - n % 32) * D) := by
      rw [h2, Nat.mul_assoc, Nat.add_mul_div_left _ _ hpp, Nat.mul_assoc]
    rw [h1, h3]
    congr 1
    rw [Bool.eq_iff_iff]
    simp only [beq_iff_eq, decide_eq_true_eq]
    omega
  · rw [if_neg (by omega)]
    congr 1
    have h1 := lv_lt ha.1
    rw [hv, Bp_two] at h1
    have h2 : z.natAbs < 2 ^ (32 * a.2.1.length) := Int.ofNat_lt.1 h1
    have h3 : 2 ^ (32 * a.2.1.length) ≤ 2 ^ n := Nat.pow_le_pow_right (by decide) (by omega)
    rw [Nat.div_eq_of_lt (by omega)]
    rfl
theorem low_spec {a : WH} {z : Int} (ha : Wv a z) (n : Nat) (hn : n ≤ 4611686018427387904) : spec_Whole_low N a (n : Int) = some (decide (z.natAbs % 2 ^ n ≠ 0)) := by
  unfold spec_Whole_low spec_Whole_low_g
  rcases checkLoop0 (xs := List.range n) (L := fun m i => spec_Whole_low_l0 N m (n : Int) a i) (e := fun o => o = some true ∧ ∃ i < n, z.natAbs.testBit i = true) (fin := some false) (fun i => i < n → z.natAbs.testBit i = false)
    (fun m => by
      simp only [spec_Whole_low_l0, spec_Whole_low_g0, Bool.cond_decide]
      rw [if_neg (by simp)])
    (fun m i hi => by
      rw [List.length_range] at hi
      simp only [spec_Whole_low_l0, spec_Whole_low_g0, Bool.cond_decide, eta3]
      rw [if_pos (by omega), bit_spec hN hNl ha i (by omega), succ_in hi (by omega)]
      simp only [Option.bind_some]
      cases hb : z.natAbs.testBit i with
      | true => exact .inl ⟨rfl, i, hi, hb⟩
      | false => exact .inr ⟨rfl, fun _ => by rw [List.getElem_range]; exact hb⟩) N (by rw [List.length_range]; omega) with ⟨h, i, hi, hb⟩ | ⟨h, hq⟩
  · have h' : spec_Whole_low_l0 N N (n : Int) a 0 = _ := h
    rw [h']
    congr 1
    refine (decide_eq_true ?_).symm
    intro h0
    have : (z.natAbs % 2 ^ n).testBit i = true := by rw [Nat.testBit_mod_two_pow, hb]; simpa using hi
    rw [h0] at this
    simp at this
  · have h' : spec_Whole_low_l0 N N (n : Int) a 0 = _ := h
    rw [h']
    congr 1
    refine (decide_eq_false ?_).symm
    simp only [ne_eq, Decidable.not_not]
    apply Nat.eq_of_testBit_eq
    intro i
    rw [Nat.testBit_mod_two_pow, Nat.zero_testBit]
    by_cases hi : i < n
    · rw [hq i (by simpa using hi) hi]; simp
    · simp [hi]
end
end Go.Proofs.Ytlbbldhbggfoaaa.PvBitsUL
namespace Go.Proofs.Ytlbbldhbggfoaaa.PvLdexpUL
open Go.Av Go
open Go.Proofs.Ytlbbldhbggfoaaa.UL
theorem abs_def {N x : Nat} : math_Abs N x = some (fabs x) := by
  simp only [math_Abs, math_Abs_g, math_Float64bits, math_Float64frombits, Option.bind_some, abs_bits, Int.toNat_natCast, fabs]
theorem rlt_le {a b c : Rat} (h : a < b) (h2 : b ≤ c) : a < c := by grind
/-- A normal double by its parts. -/
theorem norm_fv {B f : Nat} (h1 : 1 ≤ B) (h2 : B ≤ 2046) (hf : f < 4503599627370496) :
    fin (B * 4503599627370496 + f) = true ∧ sgn (B * 4503599627370496 + f) = false ∧ fv (B * 4503599627370496 + f) = ((4503599627370496 + f : Nat) : Rat) * P2 ((B : Int) - 1075) := by
  have hr : rung (B * 4503599627370496 + f) = B * 4503599627370496 + f := by unfold rung; omega
  have hs : sgn (B * 4503599627370496 + f) = false := by unfold sgn; simp; omega
  refine ⟨by unfold fin; rw [hr]; simp; omega, hs, ?_⟩
  rw [fv_eq, hs, hr]
  have e : B * 4503599627370496 + f = (B - 1) * 4503599627370496 + (4503599627370496 + f) := by omega
  rw [e, val_rung _ _ (by omega) (.inr (by omega))]
  show (((4503599627370496 + f) * 2 ^ (B - 1) : Nat) : Rat) * P2 (-1074) = _
  rw [Rat.natCast_mul, ← P2_nat, Rat.mul_assoc, ← P2_add]
  congr 2
  omega
theorem parts {v : Nat} (h64 : v < 18446744073709551616) (hf : fin v = true) (lo : P2 52 ≤ fv v) (hi : fv v ≤ P2 53) :
    ∃ B f, v = B * 4503599627370496 + f ∧ f < 4503599627370496 ∧ 1075 ≤ B ∧ B ≤ 1076 := by
  have hpos : 0 < fv v := rlt_le (P2_pos _) lo
  have hs : sgn v = false := by
    cases h : sgn v with
    | false => rfl
    | true =>
      exfalso
      rw [fv_eq, h] at hpos
      have : (0 : Rat) ≤ (val (rung v) : Rat) * P2 (-1074) := Rat.mul_nonneg (natCast_nonneg _) (Rat.le_of_lt (P2_pos _))
      unfold sg at hpos
      simp only [if_true] at hpos
      grind
  have h63 : v < 9223372036854775808 := by unfold sgn at hs; simp at hs; omega
  have hlt : v < 9218868437227405312 := by unfold fin rung at hf; simp at hf; omega
  have hr : rung v = v := by unfold rung; omega
  have hv : v = v / 4503599627370496 * 4503599627370496 + v % 4503599627370496 := by omega
  have hm : v % 4503599627370496 < 4503599627370496 := Nat.mod_lt _ (by decide)
  refine ⟨v / 4503599627370496, v % 4503599627370496, hv, hm, ?_, ?_⟩
  · refine Nat.le_of_not_lt fun h => ?_
    by_cases h1 : 1 ≤ v / 4503599627370496
    · obtain ⟨_, _, e⟩ := norm_fv h1 (by omega) hm
      rw [← hv] at e
      have l1 : ((4503599627370496 + v % 4503599627370496 : Nat) : Rat) < P2 53 := by
        rw [show (53 : Int) = ((53 : Nat) : Int) from rfl, P2_nat]
        exact natCast_lt.2 (by omega)
      have l2 := (ratmul_lt (P2_pos ((v / 4503599627370496 : Nat) - 1075 : Int))).2 l1
      rw [← P2_add] at l2
      have l3 : P2 (53 + ((v / 4503599627370496 : Nat) - 1075 : Int)) ≤ P2 52 := P2_le (by omega)
      rw [← e] at l2
      grind
    · have hvs : v < 4503599627370496 := by omega
      have e : fv v = (v : Rat) * P2 (-1074) := by
        rw [fv_eq, hs, hr]
        unfold val
        rw [if_pos hvs]
        rfl
      have l1 : (v : Rat) < P2 52 := by
        rw [show (52 : Int) = ((52 : Nat) : Int) from rfl, P2_nat]
        exact natCast_lt.2 (by omega)
      have l2 := (ratmul_lt (P2_pos (-1074))).2 l1
      rw [← P2_add, ← e] at l2
      have l3 : P2 (52 + -1074) ≤ P2 52 := P2_le (by decide)
      grind
  · refine Nat.le_of_not_lt fun h => ?_
    obtain ⟨_, _, e⟩ := norm_fv (B := v / 4503599627370496) (by omega) (by omega) hm
    rw [← hv] at e
    have l1 : P2 52 ≤ ((4503599627370496 + v % 4503599627370496 : Nat) : Rat) := by
      rw [show (52 : Int) = ((52 : Nat) : Int) from rfl, P2_nat]
      exact Rat.not_lt.1 fun h => by have := natCast_lt.1 h; omega
    have l2 := Rat.mul_le_mul_of_nonneg_right l1 (Rat.le_of_lt (P2_pos ((v / 4503599627370496 : Nat) - 1075 : Int)))
    rw [← P2_add, ← e] at l2
    have l3 : P2 53 < P2 (52 + ((v / 4503599627370496 : Nat) - 1075 : Int)) := P2_lt_iff.2 (by omega)
    grind
theorem and_2047 {B : Nat} (h : B < 2048) : bits .and .i64 (B : Int) 2047 = (B : Int) := by
  unfold bits
  have e : (BitVec.ofInt IntKind.i64.bits (B : Int) &&& BitVec.ofInt IntKind.i64.bits 2047).toNat = B := by
    show (BitVec.ofInt 64 (B : Int) &&& BitVec.ofInt 64 2047).toNat = _
    rw [BitVec.toNat_and, show (BitVec.ofInt 64 2047 : BitVec 64).toNat = 2 ^ 11 - 1 from by decide, Nat.and_two_pow_sub_one_eq_mod, BitVec.toNat_ofInt]
    omega
  simp only [e]
  exact wrap_in (by omega)
theorem low_52 {v : Nat} (h : v < 9223372036854775808) : bits .andNot .u64 (v : Int) 9218868437227405312 = ((v % 4503599627370496 : Nat) : Int) := by
  unfold bits
  have e : (BitVec.ofInt IntKind.u64.bits (v : Int) &&& ~~~ BitVec.ofInt IntKind.u64.bits 9218868437227405312).toNat = v % 4503599627370496 := by
    show (BitVec.ofInt 64 (v : Int) &&& ~~~ BitVec.ofInt 64 9218868437227405312).toNat = _
    rw [BitVec.toNat_and, show (~~~ BitVec.ofInt 64 9218868437227405312 : BitVec 64).toNat = 2 ^ 63 ||| (2 ^ 52 - 1) from by decide +kernel, Nat.and_or_distrib_left, Nat.and_two_pow_sub_one_eq_mod]
    have e1 : (BitVec.ofInt 64 (v : Int)).toNat = v := by rw [BitVec.toNat_ofInt]; omega
    have e2 : v &&& 2 ^ 63 = 0 := by
      refine Nat.eq_of_testBit_eq fun i => ?_
      rw [Nat.testBit_and, Nat.testBit_two_pow, Nat.zero_testBit]
      by_cases hi : 63 = i
      · subst hi; rw [Nat.testBit_lt_two_pow (by omega)]; rfl
      · simp [hi]
    rw [e1, e2]
    simp
  simp only [e]
  have : v % 4503599627370496 < 4503599627370496 := Nat.mod_lt _ (by decide)
  simp [IntKind.wrap, IntKind.bits, IntKind.signed]
  omega
theorem or_52 {f K : Nat} (hf : f < 4503599627370496) (hK : K < 2048) : bits .or .u64 (f : Int) ((K * 4503599627370496 : Nat) : Int) = ((K * 4503599627370496 + f : Nat) : Int) := by
  unfold bits
  have e : (BitVec.ofInt IntKind.u64.bits (f : Int) ||| BitVec.ofInt IntKind.u64.bits ((K * 4503599627370496 : Nat) : Int)).toNat = K * 4503599627370496 + f := by
    show (BitVec.ofInt 64 (f : Int) ||| BitVec.ofInt 64 ((K * 4503599627370496 : Nat) : Int)).toNat = _
    have e1 : (BitVec.ofInt 64 (f : Int)).toNat = f := by rw [BitVec.toNat_ofInt]; omega
    have e2 : (BitVec.ofInt 64 ((K * 4503599627370496 : Nat) : Int)).toNat = 2 ^ 52 * K := by rw [BitVec.toNat_ofInt]; omega
    rw [BitVec.toNat_or, e1, e2, Nat.or_comm, ← Nat.two_pow_add_eq_or_of_lt (by omega)]
    omega
  simp only [e]
  simp [IntKind.wrap, IntKind.bits, IntKind.signed]
  omega
theorem big_1000 : P2 53 ≤ fv 9218868437227405311 := by
  have h2 := (norm_fv (B := 2046) (f := 4503599627370495) (by decide) (by decide) (by decide)).2.2
  have e : 2046 * 4503599627370496 + 4503599627370495 = 9218868437227405311 := by decide
  rw [e] at h2
  rw [h2, show ((2046 : Nat) : Int) - 1075 = 971 by decide]
  have h3 : P2 53 ≤ P2 971 := P2_le (by decide)
  have h4 : (1 : Rat) ≤ ((4503599627370496 + 4503599627370495 : Nat) : Rat) := by decide +kernel
  have h5 := Rat.mul_le_mul_of_nonneg_right h4 (Rat.le_of_lt (P2_pos 971))
  rw [Rat.one_mul] at h5
  exact Rat.le_trans h3 h5
theorem exp_is {B f : Nat} {e : Int} (b1 : 1075 ≤ B) (b2 : B ≤ 1076) (hf2 : f < 4503599627370496) (he : -1070 ≤ e ∧ e ≤ 900) :
    IntKind.i64.wrap (IntKind.i64.wrap (e + 0) + IntKind.i64.wrap (bits .and .i64 (IntKind.i64.wrap (Int.fdiv ((B * 4503599627370496 + f : Nat) : Int) (2 ^ (min (52 : Int).toNat (IntKind.bits .u64))))) 2047 - 1023)) = e + B - 1023 := by
  have hfd : Int.fdiv ((B * 4503599627370496 + f : Nat) : Int) (2 ^ (min (52 : Int).toNat (IntKind.bits .u64))) = (B : Int) := by
    show Int.fdiv ((B * 4503599627370496 + f : Nat) : Int) 4503599627370496 = _
    rw [Int.fdiv_eq_ediv_of_nonneg _ (by decide)]
    omega
  rw [hfd, wrap_in (n := (B : Int)) (by omega), and_2047 (by omega), wrap_in (n := e + 0) (by omega), wrap_in (n := (B : Int) - 1023) (by omega), wrap_in (by omega)]
  omega
theorem bits_is {B f K : Nat} {e : Int} (b1 : 1075 ≤ B) (b2 : B ≤ 1076) (hf2 : f < 4503599627370496) (he : -1070 ≤ e ∧ e ≤ 900) (hK : (K : Int) = B + e) :
    bits .or .u64 (bits .andNot .u64 ((B * 4503599627370496 + f : Nat) : Int) 9218868437227405312) (IntKind.u64.wrap (IntKind.u64.wrap (IntKind.i64.wrap (e + B - 1023 + 1023)) * 2 ^ (min (52 : Int).toNat (IntKind.bits .u64)))) = ((K * 4503599627370496 + f : Nat) : Int) := by
  have h63 : B * 4503599627370496 + f < 9223372036854775808 := by omega
  rw [low_52 h63, wrap_in (n := e + B - 1023 + 1023) (by omega)]
  have w1 : IntKind.u64.wrap (e + B - 1023 + 1023) = (K : Int) := by simp [IntKind.wrap, IntKind.bits, IntKind.signed]; omega
  rw [w1]
  have w2 : IntKind.u64.wrap ((K : Int) * 2 ^ (min (52 : Int).toNat (IntKind.bits .u64))) = ((K * 4503599627370496 : Nat) : Int) := by
    show IntKind.u64.wrap ((K : Int) * 4503599627370496) = _
    simp [IntKind.wrap, IntKind.bits, IntKind.signed]; omega
  rw [w2, show (B * 4503599627370496 + f) % 4503599627370496 = f by omega, or_52 hf2 (by omega)]
theorem fv_min : fv 4503599627370496 = P2 (-1022) := by
  have := (norm_fv (B := 1) (f := 0) (by decide) (by decide) (by decide)).2.2
  rw [show 1 * 4503599627370496 + 0 = 4503599627370496 by decide] at this
  rw [this, show ((4503599627370496 + 0 : Nat) : Rat) = ((2 ^ 52 : Nat) : Rat) by decide +kernel, ← P2_nat, ← P2_add]
  rfl
theorem norm_is {N v : Nat} (hf : fin v = true) (lo : P2 52 ≤ fv v) : math_normalize N v = some (v, 0) := by
  have hpos : 0 < fv v := rlt_le (P2_pos _) lo
  simp only [math_normalize, math_normalize_g, abs_def, Option.bind_some]
  have : flt (fabs v) 4503599627370496 = false := by
    rw [flt_fv (by rw [fabs_fin]; exact hf) (show fin 4503599627370496 = true by decide +kernel), fabs_fv, ab_of_nonneg (Rat.le_of_lt hpos), fv_min]
    simp only [decide_eq_false_iff_not]
    exact Rat.not_lt.2 (Rat.le_trans (P2_le (by decide)) lo)
  rw [this, cond_false]
section
variable {N : Nat} (hN : 0 < N)
include hN
theorem ldexp {v : Nat} {e : Int} (h64 : v < 18446744073709551616) (hf : fin v = true) (lo : P2 52 ≤ fv v) (hi : fv v ≤ P2 53) (he : -1070 ≤ e ∧ e ≤ 900) :
    ∃ x, math_Ldexp N v e = some x ∧ fin x = true ∧ fv x = fv v * P2 e ∧ x < 18446744073709551616 := by
  obtain ⟨B, f, rfl, hf2, b1, b2⟩ := parts h64 hf lo hi
  obtain ⟨_, hs, hfv⟩ := norm_fv (B := B) (f := f) (by omega) (by omega) hf2
  have h63 : B * 4503599627370496 + f < 9223372036854775808 := by omega
  obtain ⟨K, hK⟩ : ∃ K : Nat, (K : Int) = B + e := ⟨((B : Int) + e).toNat, by omega⟩
  obtain ⟨gf, gs, gv⟩ := norm_fv (B := K) (f := f) (by omega) (by omega) hf2
  have hpos : 0 < fv (B * 4503599627370496 + f) := rlt_le (P2_pos _) lo
  have hnan : isnan (B * 4503599627370496 + f) = false := fin_not_nan hf
  have k1 : feq (B * 4503599627370496 + f) 0 = false := by
    rw [feq_fv hf wh_zero.1, wh_zero.2]
    simp only [decide_eq_false_iff_not]
    intro h
    rw [h] at hpos
    exact absurd hpos (by decide +kernel)
  have k2 : math_IsInf N (B * 4503599627370496 + f) 0 = some false := by
    simp only [math_IsInf, math_IsInf_g, math_IsInf_j0, math_IsInf_g0, gate_pos hN, abs_def, Option.bind_some]
    show some (fgt _ _) = _
    rw [fgt_fv (by rw [fabs_fin]; exact hf) (show fin 9218868437227405311 = true by decide +kernel), fabs_fv, ab_of_nonneg (Rat.le_of_lt hpos)]
    congr 1
    simp only [decide_eq_false_iff_not]
    exact Rat.not_lt.2 (Rat.le_trans hi big_1000)
  have k3 : math_IsNaN N (B * 4503599627370496 + f) = some false := by
    simp only [math_IsNaN, math_IsNaN_g]
    rw [fne_not, feq_self, hnan]
    rfl
  have k4 : math_normalize N (B * 4503599627370496 + f) = some (B * 4503599627370496 + f, 0) := by
    generalize B * 4503599627370496 + f = v at hf hpos lo
    exact norm_is hf lo
  have hE := exp_is (e := e) (f := f) b1 b2 hf2 he
  have hbits := bits_is (e := e) b1 b2 hf2 he hK
  have hval : fv (K * 4503599627370496 + f) = fv (B * 4503599627370496 + f) * P2 e := by
    rw [gv, hfv, Rat.mul_assoc, ← P2_add]
    congr 2
    omega
  have hrep : Rep (fv (K * 4503599627370496 + f)) := fin_rep gf
  have hbd : ab (fv (K * 4503599627370496 + f)) < P2 1023 := by
    rw [gv, ab_of_nonneg (Rat.mul_nonneg (natCast_nonneg _) (Rat.le_of_lt (P2_pos _)))]
    have l1 : ((4503599627370496 + f : Nat) : Rat) < P2 53 := by
      rw [show (53 : Int) = ((53 : Nat) : Int) from rfl, P2_nat]
      exact natCast_lt.2 (by omega)
    have l2 := (ratmul_lt (P2_pos ((K : Int) - 1075))).2 l1
    rw [← P2_add] at l2
    exact rlt_le l2 (P2_le (by omega))
  have o1 : fv 4607182418800017408 = 1 := one_wh.2
  obtain ⟨x, ex, hx⟩ := mul_rnd one_wh.1 gf (by rw [o1, Rat.one_mul]; exact hbd)
  rw [o1, Rat.one_mul] at hx
  have hx1 : fv x = fv (K * 4503599627370496 + f) := hx.exact hrep
  refine ⟨x, ?_, hx.fin, by rw [hx1, hval], mul_lt ex⟩
  simp only [math_Ldexp, math_Ldexp_g, math_ldexp, math_ldexp_g, k1, cond_false, k2, k3, k4, Option.bind_some, math_Float64bits, hE, math_ldexp_j0, math_ldexp_g0, gate_pos hN, hbits, math_Float64frombits, Int.toNat_natCast, ex]
  have c1 : decide (e + (B : Int) - 1023 < -1075) = false := by simp; omega
  have c2 : decide (e + (B : Int) - 1023 > 1023) = false := by simp; omega
  have c3 : decide (e + (B : Int) - 1023 < -1022) = false := by simp; omega
  simp only [c1, c2, c3, cond_false, Option.bind_some]
end
end Go.Proofs.Ytlbbldhbggfoaaa.PvLdexpUL
namespace Go.Proofs.Ytlbbldhbggfoaaa.PvFloatUL
open Go.Av Go
open Go.Proofs.Ytlbbldhbggfoaaa.UL
open Go.Proofs.Ytlbbldhbggfoaaa.PvWholeUL
open Go.Proofs.Ytlbbldhbggfoaaa.PvWhole2UL
open Go.Proofs.Ytlbbldhbggfoaaa.PvDyadicUL
open Go.Proofs.Ytlbbldhbggfoaaa.PvBitsUL
open Go.Proofs.Ytlbbldhbggfoaaa.PvLdexpUL
theorem rnd_neg {z : Nat} {v : Rat} (h : Rnd z v) : Rnd (fneg z) (-v) := by
  refine ⟨by rw [fneg_fin]; exact h.fin, fun r hr hv => ?_, fun r hr hv => ?_, ?_, ?_⟩
  · rw [fneg_fv]; have := h.lo (-r) (rep_neg hr) (by grind); grind
  · rw [fneg_fv]; have := h.hi (-r) (rep_neg hr) (by grind); grind
  · rw [fneg_fv, ab_neg]; have := h.e2; grind
  · rw [fneg_fv, ab_neg]; have := h.e1; grind
theorem rne_alt (Z c : Nat) : rne Z (c + 1) = Z / 2 ^ (c + 1) + (Z.testBit c && (Z / 2 ^ (c + 1) % 2 == 1 || decide (Z % 2 ^ c ≠ 0))).toNat := by
  unfold rne
  congr 2
  have h1 : Z % 2 ^ (c + 1) = Z % 2 ^ c + 2 ^ c * (Z / 2 ^ c % 2) := Nat.mod_pow_succ
  have h2 : Z.testBit c = decide (Z / 2 ^ c % 2 = 1) := Nat.testBit_eq_decide_div_mod_eq
  have h3 : 2 ^ (c + 1) = 2 * 2 ^ c := by rw [Nat.pow_succ]; omega
  have h4 : 0 < 2 ^ c := Nat.two_pow_pos c
  have h5 : Z % 2 ^ c < 2 ^ c := Nat.mod_lt _ h4
  generalize Z / 2 ^ (c + 1) = q
  rw [h1, h2, h3]
  generalize Z % 2 ^ c = l at *
  generalize 2 ^ c = p at *
  rcases Nat.mod_two_eq_zero_or_one (Z / p) with h | h
  · rw [h]
    have e1 : decide (2 * p < 2 * (l + p * 0)) = false := by simp; omega
    have e2 : (2 * p == 2 * (l + p * 0)) = false := by simp; omega
    rw [e1, e2]; rfl
  · rw [h]
    simp only [Nat.mul_one]
    by_cases hl : l = 0
    · subst hl
      have e1 : decide (2 * p < 2 * (0 + p)) = false := by simp
      have e2 : (2 * p == 2 * (0 + p)) = true := by simp
      rw [e1, e2]
      simp
    · have e1 : decide (2 * p < 2 * (l + p)) = true := by simp; omega
      rw [e1]
      simp [hl]
/-- The digits kept after i steps. -/
def mi (Z t i : Nat) : Nat := Z * 2 ^ i / 2 ^ t
theorem mi_lt {Z t : Nat} (i : Nat) (h : Z < 2 ^ t) : mi Z t i < 2 ^ i := by
  unfold mi
  rw [Nat.div_lt_iff_lt_mul (Nat.two_pow_pos t), Nat.mul_comm (2 ^ i)]
  exact Nat.mul_lt_mul_of_pos_right h (Nat.two_pow_pos i)
theorem mi_in {Z t i : Nat} (h : i < t) : mi Z t (i + 1) = 2 * mi Z t i + (Z.testBit (t - 1 - i)).toNat := by
  obtain ⟨c, rfl⟩ : ∃ c, t = i + (c + 1) := ⟨t - i - 1, by omega⟩
  have e1 : mi Z (i + (c + 1)) i = Z / 2 ^ (c + 1) := by
    unfold mi; rw [Nat.pow_add, Nat.mul_comm, Nat.mul_div_mul_left _ _ (Nat.two_pow_pos i)]
  have e2 : mi Z (i + (c + 1)) (i + 1) = Z / 2 ^ c := by
    unfold mi; rw [show i + (c + 1) = (i + 1) + c by omega, Nat.pow_add 2 (i + 1) c, Nat.mul_comm, Nat.mul_div_mul_left _ _ (Nat.two_pow_pos (i + 1))]
  rw [e1, e2, show i + (c + 1) - 1 - i = c by omega, Nat.testBit_eq_decide_div_mod_eq, Nat.pow_succ, ← Nat.div_div_eq_div_mul]
  have : (decide (Z / 2 ^ c % 2 = 1)).toNat = Z / 2 ^ c % 2 := by
    rcases Nat.mod_two_eq_zero_or_one (Z / 2 ^ c) with h | h <;> rw [h] <;> rfl
  rw [this]
  omega
theorem mi_out {Z t i : Nat} (h : t ≤ i) : mi Z t (i + 1) = 2 * mi Z t i := by
  obtain ⟨c, rfl⟩ : ∃ c, i = t + c := ⟨i - t, by omega⟩
  have e : ∀ c, mi Z t (t + c) = Z * 2 ^ c := fun c => by
    unfold mi; rw [Nat.pow_add, ← Nat.mul_assoc, Nat.mul_comm Z, Nat.mul_assoc, Nat.mul_div_cancel_left _ (Nat.two_pow_pos t)]
  rw [show t + c + 1 = t + (c + 1) by omega, e, e, Nat.pow_succ]
  rw [← Nat.mul_assoc]; omega
section
variable {N : Nat} (hN : 0 < N) (hNl : 9223372036854775808 ≤ N)
include hN hNl
theorem u64_in {n : Int} (h : 0 ≤ n ∧ n < 18446744073709551616) : IntKind.u64.wrap n = n := by
  simp [IntKind.wrap, IntKind.bits, IntKind.signed]; omega
/-- The loop over the digits. -/
theorem floop {w : WH} {z E : Int} {t : Nat} (hw : Wv w z) (ht : z.natAbs < 2 ^ t) (htop : spec_Whole_top N w = some (t : Int)) (ht2 : t ≤ 4611686018427387904) (himm : imm false 53 (IntKind.i64.wrap (IntKind.i64.wrap ((t : Int) + E) + 1074)) = 53) (v4 : Int) :
    ∀ (c i n : Nat), i + c = 53 → c + 1 ≤ n → ∃ n', spec_Dyadic_Float_l0 N n (t : Int) (w, (E, ())) v4 (mi z.natAbs t i : Int) (i : Int) = spec_Dyadic_Float_l0 N (n' + 1) (t : Int) (w, (E, ())) v4 (mi z.natAbs t 53 : Int) 53
  | 0, i, n, hi, hn => ⟨n - 1, by rw [show n - 1 + 1 = n by omega, show i = 53 by omega]; rfl⟩
  | c + 1, i, n, hi, hn => by
    obtain ⟨n, rfl⟩ : ∃ m, n = m + 1 := ⟨n - 1, by omega⟩
    obtain ⟨n', ih⟩ := floop hw ht htop ht2 himm v4 c (i + 1) n (by omega) (by omega)
    refine ⟨n', ?_⟩
    rw [← ih]
    conv => lhs; unfold spec_Dyadic_Float_l0
    simp only [spec_Dyadic_Float_g0, spec_Dyadic_Float_j1, spec_Dyadic_Float_g1, gate_pos hN, himm]
    have hlt : decide ((i : Int) < 53) = true := by simp; omega
    rw [hlt, cond_true]
    rw [show (w.1, w.2.1, ()) = w from rfl, htop]
    simp only [Option.bind_some]
    have hm := mi_lt (Z := z.natAbs) i ht
    have hm2 : 2 ^ i ≤ 2 ^ 52 := Nat.pow_le_pow_right (by decide) (by omega)
    rw [wrap_in (n := (t : Int) - 1) (by omega), wrap_in (n := (t : Int) - 1 - (i : Int)) (by omega), wrap_in (n := (i : Int) + 1) (by omega)]
    have hdbl : IntKind.u64.wrap ((mi z.natAbs t i : Int) * 2 ^ (min (1 : Int).toNat (IntKind.bits .u64))) = ((2 * mi z.natAbs t i : Nat) : Int) := by
      show IntKind.u64.wrap ((mi z.natAbs t i : Int) * 2) = _
      rw [u64_in hN hNl (by omega)]; omega
    rw [hdbl]
    rcases Nat.lt_or_ge i t with h | h
    · rw [show (t : Int) - 1 - (i : Int) = ((t - 1 - i : Nat) : Int) by omega, bit_spec hN hNl hw _ (by omega)]
      simp only [Option.bind_some]
      have e := mi_in (Z := z.natAbs) h
      cases hb : z.natAbs.testBit (t - 1 - i) with
      | true =>
        rw [hb] at e
        simp only [cond_true]
        rw [u64_in hN hNl (by omega), e]
        rfl
      | false =>
        rw [hb] at e
        simp only [cond_false]
        rw [e]
        rfl
    · rw [bit_neg hN hNl (by omega)]
      simp only [Option.bind_some, cond_false]
      rw [mi_out h]
      rfl
theorem rnd_exact {x : Nat} {v : Rat} (hf : fin x = true) (h : fv x = v) : Rnd x v := by
  have h1 := Rat.mul_nonneg (ab_nonneg v) (Rat.le_of_lt (P2_pos (-52)))
  have h2 := P2_pos (-1074)
  exact ⟨hf, fun r _ hr => by rw [h]; exact hr, fun r _ hr => by rw [h]; exact hr, by rw [h]; grind, by rw [h]; grind⟩
/-- What is done behind the loop. -/
theorem fend {w : WH} {z E : Int} {t n : Nat} (hw : Wv w z) (hZ : z.natAbs < 2 ^ t) (ht2 : t ≤ 4611686018427387904) (himm : imm false 53 (IntKind.i64.wrap (IntKind.i64.wrap ((t : Int) + E) + 1074)) = 53) :
    spec_Dyadic_Float_l0 N (n + 1) (t : Int) (w, (E, ())) (t : Int) (mi z.natAbs t 53 : Int) 53 =
      spec_Dyadic_Float_j3 N (t : Int) (t : Int) (w, (E, ())) (((if t ≤ 53 then mi z.natAbs t 53 else rne z.natAbs (t - 53) : Nat)) : Int) := by
  have hm := mi_lt (Z := z.natAbs) 53 hZ
  have hm2 : (2 : Nat) ^ 53 = 9007199254740992 := by decide
  unfold spec_Dyadic_Float_l0
  simp only [spec_Dyadic_Float_g0, himm]
  rw [show decide ((53 : Int) < 53) = false from rfl, cond_false, wrap_in (n := (t : Int) - 53) (by omega)]
  by_cases h : t ≤ 53
  · rw [if_pos h]
    have : decide ((t : Int) - 53 > 0) = false := by simp; omega
    rw [this, cond_false]
    simp only [spec_Dyadic_Float_j2, spec_Dyadic_Float_g2, gate_pos hN]
  · rw [if_neg h]
    obtain ⟨c, rfl⟩ : ∃ c, t = 53 + (c + 1) := ⟨t - 54, by omega⟩
    have : decide (((53 + (c + 1) : Nat) : Int) - 53 > 0) = true := by simp; omega
    rw [this, cond_true, wrap_in (n := ((53 + (c + 1) : Nat) : Int) - 53 - 1) (by omega), show ((53 + (c + 1) : Nat) : Int) - 53 - 1 = (c : Int) by omega]
    rw [show (w.1, w.2.1, ()) = w from rfl, bit_spec hN hNl hw c (by omega), low_spec hN hNl hw c (by omega)]
    simp only [Option.bind_some, gate_pos hN]
    have e1 : mi z.natAbs (53 + (c + 1)) 53 = z.natAbs / 2 ^ (c + 1) := by
      unfold mi; rw [Nat.pow_add, Nat.mul_comm, Nat.mul_div_mul_left _ _ (Nat.two_pow_pos 53)]
    rw [show 53 + (c + 1) - 53 = c + 1 by omega, rne_alt, e1]
    rw [e1] at hm
    generalize hq : z.natAbs / 2 ^ (c + 1) = q at *
    have hodd : (Int.tmod (q : Int) 2 == 1) = (q % 2 == 1) := by
      rw [Int.tmod_eq_emod_of_nonneg (by omega)]
      cases hq2 : (q % 2 == 1) <;> simp at hq2 ⊢ <;> omega
    rw [hodd, u64_in hN hNl (n := (q : Int) + 1) (by omega)]
    cases z.natAbs.testBit c with
    | false => simp only [cond_false, Bool.false_and, spec_Dyadic_Float_j2, spec_Dyadic_Float_g2, gate_pos hN]; rfl
    | true =>
      simp only [cond_true, Bool.true_and]
      cases (q % 2 == 1) with
      | true => simp only [cond_true, Bool.true_or]; rfl
      | false =>
        simp only [cond_false, Bool.false_or]
        cases decide (z.natAbs % 2 ^ c ≠ 0) <;> rfl
theorem dfloat {k : Nat} {d : DY} {q : Rat} (h : Dn k d q) (hk : k ≤ 8) (hq : q = 0 ∨ P2 (-900) ≤ ab q ∧ ab q < P2 900) : ∃ x, spec_Dyadic_Float N d = some x ∧ Rnd x q ∧ x < 18446744073709551616 := by
  have hsg := dsign hN hNl h
  by_cases h0 : q = 0
  · refine ⟨0, ?_, rnd_exact hN hNl wh_zero.1 (by rw [h0]; exact wh_zero.2), by decide⟩
    simp only [spec_Dyadic_Float, spec_Dyadic_Float_g]
    rw [show ((d.1.1, d.1.2.1, ()), d.2.1, ()) = d from rfl, hsg, h0]
    rfl
  · obtain ⟨w, E, ⟨⟩⟩ := d
    obtain ⟨z, hw, hb, hE, e⟩ := h
    simp only at hw hE e
    have hz : z ≠ 0 := fun hz => h0 (by rw [e, hz]; show (0 : Rat) * _ = 0; grind)
    have hkl := sk_le (k := k) (by omega)
    obtain ⟨t, htop, t1, t2, t3, t4⟩ := top_spec hN hNl hw hz (by have := hw.len hb; omega)
    have hlen := hw.len hb
    have htb : t ≤ 32 * 524288000 := by omega
    have hab : ab q = (z.natAbs : Rat) * P2 E := by rw [e, ab_mul, ab_int, ab_of_nonneg (Rat.le_of_lt (P2_pos E))]
    rcases hq with hq | ⟨q1, q2⟩
    · exact absurd hq h0
    have r1 : t + E > -900 := by
      have l1 : (z.natAbs : Rat) < P2 (t : Int) := by rw [P2_nat]; exact natCast_lt.2 t4
      have l2 := (ratmul_lt (P2_pos E)).2 l1
      rw [← P2_add, ← hab] at l2
      have l3 : P2 (-900) < P2 (t + E) := by grind
      exact P2_lt_iff.1 l3
    have r2 : t + E ≤ 900 := by
      have l1 : P2 ((t - 1 : Nat) : Int) ≤ (z.natAbs : Rat) := by rw [P2_nat]; exact Rat.not_lt.1 fun hh => by have := natCast_lt.1 hh; omega
      have l2 := Rat.mul_le_mul_of_nonneg_right l1 (Rat.le_of_lt (P2_pos E))
      rw [← P2_add, ← hab] at l2
      have l3 : P2 (((t - 1 : Nat) : Int) + E) < P2 900 := by grind
      have := P2_lt_iff.1 l3
      omega
    have himm : imm false 53 (IntKind.i64.wrap (IntKind.i64.wrap ((t : Int) + E) + 1074)) = 53 := by
      rw [wrap_in (n := (t : Int) + E) (by omega), wrap_in (by omega)]
      unfold imm
      rw [cond_false, if_neg (by omega)]
    obtain ⟨n', hloop⟩ := floop hN hNl hw t4 htop (by omega) himm (t : Int) 53 0 N (by omega) (by omega)
    have hm0 : mi z.natAbs t 0 = 0 := by unfold mi; rw [Nat.pow_zero, Nat.mul_one]; exact Nat.div_eq_of_lt t4
    rw [hm0] at hloop
    rw [fend hN hNl hw t4 (by omega) himm] at hloop
    -- the digits that are kept
    have key : ∃ M : Nat, M = (if t ≤ 53 then mi z.natAbs t 53 else rne z.natAbs (t - 53)) ∧ 4503599627370496 ≤ M ∧ M ≤ 9007199254740992 ∧ ∀ x, fin x = true → fv x = (M : Rat) * P2 (E + (t - 53)) → Rnd x ((z.natAbs : Rat) * P2 E) := by
      refine ⟨_, rfl, ?_⟩
      by_cases ht : t ≤ 53
      · rw [if_pos ht]
        obtain ⟨c, hc⟩ : ∃ c, 53 = t + c := ⟨53 - t, by omega⟩
        have em : mi z.natAbs t 53 = z.natAbs * 2 ^ c := by
          unfold mi; rw [hc, Nat.pow_add, ← Nat.mul_assoc, Nat.mul_comm z.natAbs, Nat.mul_assoc, Nat.mul_div_cancel_left _ (Nat.two_pow_pos t)]
        have p1 : 2 ^ (t - 1) * 2 ^ c = 4503599627370496 := by rw [← Nat.pow_add, show t - 1 + c = 52 by omega]
        have p2 : 2 ^ t * 2 ^ c = 9007199254740992 := by rw [← Nat.pow_add, ← hc]
        rw [em]
        refine ⟨by rw [← p1]; exact Nat.mul_le_mul_right _ t3, by rw [← p2]; exact Nat.mul_le_mul_right _ (Nat.le_of_lt t4), fun x hf hx => rnd_exact hN hNl hf ?_⟩
        rw [hx, Rat.natCast_mul, ← P2_nat, Rat.mul_assoc, ← P2_add]
        congr 2
        omega
      · rw [if_neg ht]
        obtain ⟨c, rfl⟩ : ∃ c, t = 53 + c := ⟨t - 53, by omega⟩
        rw [show 53 + c - 53 = c by omega]
        have p1 : 2 ^ (53 + c - 1) = 4503599627370496 * 2 ^ c := by rw [show 53 + c - 1 = 52 + c by omega, Nat.pow_add]
        have p2 : 2 ^ (53 + c) = 9007199254740992 * 2 ^ c := by rw [Nat.pow_add]
        rw [p1] at t3
        rw [p2] at t4
        obtain ⟨L, hL⟩ : ∃ L : Nat, (L : Int) = E + c + 1074 := ⟨(E + c + 1074).toNat, by omega⟩
        obtain ⟨g1, g2, g3, g4⟩ := rne_rnd L z.natAbs c t4 (.inr t3)
        rw [show (L : Int) - 1074 - c = E by omega] at g1 g2 g3 g4
        rw [show (L : Int) - 1074 = E + (((53 + c : Nat) : Int) - 53) by omega] at g1 g2 g3 g4
        refine ⟨?_, rne_le (Nat.le_of_lt t4), fun x hf hx => ?_⟩
        · rcases rne_two z.natAbs c with ⟨h1, _⟩ | ⟨h1, _⟩
          · rw [h1]; exact (Nat.le_div_iff_mul_le (Nat.two_pow_pos c)).2 t3
          · rw [h1]; exact Nat.le_succ_of_le ((Nat.le_div_iff_mul_le (Nat.two_pow_pos c)).2 t3)
        · rw [← hx] at g1 g2 g3 g4
          have hnn : 0 ≤ (z.natAbs : Rat) * P2 E := Rat.mul_nonneg (natCast_nonneg _) (Rat.le_of_lt (P2_pos E))
          have n1 := Rat.mul_nonneg hnn (Rat.le_of_lt (P2_pos (-52)))
          have n2 := P2_pos (-1074)
          refine ⟨hf, g1, g2, ?_, ?_⟩ <;> rw [ab_of_nonneg hnn] <;> grind
    obtain ⟨M, hM, m1, m2, hrnd⟩ := key
    rw [← hM] at hloop
    have wM := i2f_wh (M : Int) (by omega)
    have hlo : P2 52 ≤ fv (i2f (M : Int)) := by
      rw [wM.2, show (52 : Int) = ((52 : Nat) : Int) from rfl, P2_nat]
      show (((2 ^ 52 : Nat) : Rat)) ≤ ((M : Nat) : Rat)
      exact Rat.not_lt.1 fun hh => by have := natCast_lt.1 hh; omega
    have hhi : fv (i2f (M : Int)) ≤ P2 53 := by
      rw [wM.2, show (53 : Int) = ((53 : Nat) : Int) from rfl, P2_nat]
      show ((M : Nat) : Rat) ≤ (((2 ^ 53 : Nat) : Rat))
      exact Rat.not_lt.1 fun hh => by have := natCast_lt.1 hh; omega
    obtain ⟨x, ex, fx, vx, lx⟩ := ldexp hN (e := E + ((t : Int) - 53)) (i2f_lt _) wM.1 hlo hhi (by omega)
    rw [wM.2] at vx
    have hr := hrnd x fx vx
    have hfl : spec_Dyadic_Float N (w, (E, ())) = spec_Dyadic_Float_j3 N (t : Int) (t : Int) (w, (E, ())) (M : Int) := by
      simp only [spec_Dyadic_Float, spec_Dyadic_Float_g]
      rw [show (w.1, w.2.1, ()) = w from rfl, hsg, htop]
      have hc : (cmpq q 0 == 0) = false := by
        unfold cmpq
        split
        · rfl
        · first | rfl | (rw [if_neg h0]; rfl)
      simp only [Option.bind_some, hc, cond_false]
      exact hloop
    have hj : spec_Dyadic_Float_j3 N (t : Int) (t : Int) (w, (E, ())) (M : Int) = bif w.1 then some (fneg x) else some x := by
      simp only [spec_Dyadic_Float_j3, spec_Dyadic_Float_g3, gate_pos hN, himm]
      rw [wrap_in (n := (t : Int) - 53) (by omega), wrap_in (n := E + ((t : Int) - 53)) (by omega), ex]
      rfl
    rw [hfl, hj]
    have hwz := hw.abs
    obtain ⟨_, _, _, hzw⟩ := hw
    cases hneg : w.1 with
    | false =>
      rw [hneg, cond_false, hwz] at hzw
      refine ⟨x, rfl, ?_, lx⟩
      rw [e, hzw]
      exact hr
    | true =>
      rw [hneg, cond_true, hwz] at hzw
      refine ⟨fneg x, rfl, ?_, Nat.xor_lt_two_pow (n := 64) lx (by decide)⟩
      have hneg2 : q = -((z.natAbs : Rat) * P2 E) := by
        rw [e, ← Rat.neg_mul]
        congr 1
        have : ((z : Int) : Rat) = ((-(z.natAbs : Int) : Int) : Rat) := by rw [← hzw]
        rw [this, Rat.intCast_neg]
        rfl
      rw [hneg2]
      exact rnd_neg hr
end
end Go.Proofs.Ytlbbldhbggfoaaa.PvFloatUL
namespace Go.Proofs.Ytlbbldhbggfoaaa.PvWholeToUL
open Go.Av Go
open Go.Proofs.Ytlbbldhbggfoaaa.UL
/-- A whole number within bounds. -/
def In (B : Int) (x : Nat) : Prop := ∃ k : Int, Wh x k ∧ -B ≤ k ∧ k ≤ B
theorem abs_def {N x : Nat} : math_Abs N x = some (fabs x) := by
  simp only [math_Abs, math_Abs_g, math_Float64bits, math_Float64frombits, Option.bind_some, abs_bits, Int.toNat_natCast, fabs]
section
variable {N : Nat} {m : Nat} {B : Int} (hm : Wh m B) (hB : B ≤ 9007199254740992)
include hm hB
theorem in_of {x y : Nat} (hw : fwhole .zero x = some y) (he : feq x y = true) (hf : fgt (fabs x) m = false) : In B x := by
  have hn : isnan x = false := by
    rw [feq_eq] at he
    cases h : isnan x with
    | false => rfl
    | true => rw [h] at he; simp at he
  obtain ⟨h1, h2⟩ := fin_of_abs hm hn hf
  have h3 : fv x ≤ (B : Rat) := by unfold ab at h2; grind
  have h4 : -(B : Rat) ≤ fv x := by unfold ab at h2; grind
  exact wh_of_trunc h1 hw he h3 h4 hB
theorem wholes (hN : 0 < N) (l : List Nat) (hl : l.length ≤ 9223372036854775806) : ∀ (c i n : Nat), i + c = l.length → c + 1 ≤ n →
    laws_wholeTo_l0 N n m l (i : Int) = some false ∨ (laws_wholeTo_l0 N n m l (i : Int) = some true ∧ ∀ (j : Nat) x, i ≤ j → l[j]? = some x → In B x)
  | 0, i, n, hi, hn => by
    obtain ⟨n, rfl⟩ : ∃ m, n = m + 1 := ⟨n - 1, by omega⟩
    simp only [laws_wholeTo_l0, laws_wholeTo_g0, Bool.cond_decide]
    rw [if_neg (by omega)]
    exact .inr ⟨rfl, fun j x hj hx => by rw [List.getElem?_eq_none (by omega)] at hx; cases hx⟩
  | c + 1, i, n, hi, hn => by
    obtain ⟨n, rfl⟩ : ∃ m, n = m + 1 := ⟨n - 1, by omega⟩
    have hlt : i < l.length := by omega
    have ih := wholes hN l hl c (i + 1) n (by omega) (by omega)
    simp only [laws_wholeTo_l0, laws_wholeTo_g0, laws_wholeTo_j1, laws_wholeTo_g1, Bool.cond_decide, gate_pos hN]
    rw [if_pos (by omega), nth_nat, List.getElem?_eq_getElem hlt]
    simp only [Option.bind_some, math_Trunc, math_Trunc_g, math_archTrunc, fwholeN]
    cases hw : fwhole .zero l[i] with
    | none => exact .inl rfl
    | some y =>
      simp only [Sum.elim_inl, Option.bind_some, fne_not]
      cases he : feq l[i] y with
      | false => exact .inl rfl
      | true =>
        simp only [Bool.not_true, cond_false, abs_def, Option.bind_some]
        cases hf : fgt (fabs l[i]) m with
        | true => exact .inl rfl
        | false =>
          simp only [cond_false]
          rw [wrap_in (n := (i : Int) + 1) (by omega), show (i : Int) + 1 = ((i + 1 : Nat) : Int) by omega]
          rcases ih with ih | ⟨ih, ih2⟩
          · exact .inl ih
          · refine .inr ⟨ih, fun j x hj hx => ?_⟩
            rcases Nat.lt_or_ge i j with hij | hij
            · exact ih2 j x (by omega) hx
            · have : j = i := by omega
              subst this
              rw [List.getElem?_eq_getElem hlt] at hx
              simp only [Option.some.injEq] at hx
              subst hx
              exact in_of hm hB hw he hf
theorem wholeTo (l : List Nat) (hN : l.length + 1 ≤ N) (hl : l.length ≤ 9223372036854775806) :
    laws_wholeTo N m l = some false ∨ (laws_wholeTo N m l = some true ∧ ∀ x ∈ l, In B x) := by
  rcases wholes hm hB (N := N) (by omega) l hl l.length 0 N (by omega) hN with h | ⟨h, h2⟩
  · exact .inl h
  · refine .inr ⟨h, fun x hx => ?_⟩
    obtain ⟨i, hi, rfl⟩ := List.getElem_of_mem hx
    exact h2 i _ (by omega) (List.getElem?_eq_getElem hi)
end
end Go.Proofs.Ytlbbldhbggfoaaa.PvWholeToUL
namespace Go.Proofs.Ytlbbldhbggfoaaa.PvPlaneToUL
open Go.Av Go
open Go.Proofs.Ytlbbldhbggfoaaa.UL
open Go.Proofs.Ytlbbldhbggfoaaa.PvWholeToUL
section
variable {N : Nat} {m : Nat} {B : Int} (hm : Wh m B) (hB : B ≤ 9007199254740992)
include hm hB
theorem planes (hN : 3 ≤ N) (l : List (Nat × (Nat × Unit))) (hl : l.length ≤ 9223372036854775806) : ∀ (c i n : Nat), i + c = l.length → c + 1 ≤ n →
    laws_planeTo_l0 N n m l (i : Int) = some false ∨ (laws_planeTo_l0 N n m l (i : Int) = some true ∧ ∀ (j : Nat) x, i ≤ j → l[j]? = some x → In B x.1 ∧ In B x.2.1)
  | 0, i, n, hi, hn => by
    obtain ⟨n, rfl⟩ : ∃ m, n = m + 1 := ⟨n - 1, by omega⟩
    simp only [laws_planeTo_l0, laws_planeTo_g0, Bool.cond_decide]
    rw [if_neg (by omega)]
    exact .inr ⟨rfl, fun j x hj hx => by rw [List.getElem?_eq_none (by omega)] at hx; cases hx⟩
  | c + 1, i, n, hi, hn => by
    obtain ⟨n, rfl⟩ : ∃ m, n = m + 1 := ⟨n - 1, by omega⟩
    have hlt : i < l.length := by omega
    have ih := planes hN l hl c (i + 1) n (by omega) (by omega)
    simp only [laws_planeTo_l0, laws_planeTo_g0, Bool.cond_decide]
    rw [if_pos (by omega), nth_nat, List.getElem?_eq_getElem hlt]
    simp only [Option.bind_some]
    rcases wholeTo hm hB (N := N) [l[i].1, l[i].2.1] (by simp; omega) (by simp) with h | ⟨h, h2⟩
    · rw [h]; exact .inl rfl
    · rw [h]
      simp only [Option.bind_some, Bool.not_true, cond_false]
      rw [wrap_in (n := (i : Int) + 1) (by omega), show (i : Int) + 1 = ((i + 1 : Nat) : Int) by omega]
      rcases ih with ih | ⟨ih, ih2⟩
      · exact .inl ih
      · refine .inr ⟨ih, fun j x hj hx => ?_⟩
        rcases Nat.lt_or_ge i j with hij | hij
        · exact ih2 j x (by omega) hx
        · have : j = i := by omega
          subst this
          rw [List.getElem?_eq_getElem hlt] at hx
          simp only [Option.some.injEq] at hx
          subst hx
          exact ⟨h2 _ (by simp), h2 _ (by simp)⟩
theorem planeTo (hN : 3 ≤ N) (l : List (Nat × (Nat × Unit))) (hN2 : l.length + 1 ≤ N) (hl : l.length ≤ 9223372036854775806) :
    laws_planeTo N m l = some false ∨ (laws_planeTo N m l = some true ∧ ∀ x ∈ l, In B x.1 ∧ In B x.2.1) := by
  rcases planes hm hB hN l hl l.length 0 N (by omega) hN2 with h | ⟨h, h2⟩
  · exact .inl h
  · refine .inr ⟨h, fun x hx => ?_⟩
    obtain ⟨i, hi, rfl⟩ := List.getElem_of_mem hx
    exact h2 i _ (by omega) (List.getElem?_eq_getElem hi)
end
end Go.Proofs.Ytlbbldhbggfoaaa.PvPlaneToUL
