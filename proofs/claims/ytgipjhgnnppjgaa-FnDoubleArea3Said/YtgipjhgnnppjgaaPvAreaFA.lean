/- Doubled areas: what the code reckons of whole coordinates. -/
import Derived.Test.YtgipjhgnnppjgaaPvGoodFA
import Derived.Test.YtgipjhgnnppjgaaFl7
set_option linter.unusedVariables false
set_option linter.unusedSimpArgs false
set_option linter.unusedSectionVars false
namespace Go.Proofs.Ytgipjhgnnppjgaa.PvAreaFA
open Go.Av Go
open Go.Proofs.Ytgipjhgnnppjgaa.FA
open Go.Proofs.Ytgipjhgnnppjgaa.PvGoodFA
/-- One step along a ring. -/
def term (F : Nat → Int) (s i : Nat) : Int := (F (i + 1) - F (i + 1 - s)) * (F i + F (i - s))
/-- k steps along a ring, from i on. -/
def ringS (F : Nat → Int) (s : Nat) : Nat → Nat → Int
  | _, 0 => 0
  | i, k + 1 => term F s i + ringS F s (i + s) k
def ringV (F : Nat → Int) (s a e : Nat) : Int := ringS F s (a + s) ((e - a) / s - 1)
def polyS (F : Nat → Int) (s : Nat) : Nat → List Int → Int
  | _, [] => 0
  | a, e :: r => ringV F s a e.toNat + polyS F s e.toNat r
def lastE (a : Int) (l : List Int) : Int := l.getLast?.getD a
theorem lastE_cons (a e : Int) (r : List Int) : lastE a (e :: r) = lastE e r := by
  unfold lastE
  cases r with
  | nil => rfl
  | cons x r => simp [List.getLast?_cons_cons]; cases h : (x :: r).getLast? <;> simp_all
def multiS (F : Nat → Int) (s : Nat) : Nat → List (List Int) → Int
  | _, [] => 0
  | a, l :: r => polyS F s a l + multiS F s (lastE a l).toNat r
theorem Chain.last {s : Int} : ∀ {l : List Int} {a b : Int}, Chain s a l b → lastE a l = b
  | [], a, b, h => by simp only [Chain] at h; subst h; rfl
  | e :: r, a, b, h => by simp only [Chain] at h; rw [lastE_cons]; exact Chain.last h.2.2
theorem prod_abs {a b : Int} (ha : a.natAbs ≤ 2097152) (hb : b.natAbs ≤ 2097152) : (a * b).natAbs ≤ 4398046511104 := by
  rw [Int.natAbs_mul]
  exact Nat.mul_le_mul ha hb
theorem lastE_snoc (a e : Int) (l : List Int) : lastE a (l ++ [e]) = e := by unfold lastE; simp
theorem polyS_snoc (F : Nat → Int) (s : Nat) : ∀ (l : List Int) (a : Nat) (e : Int), polyS F s a (l ++ [e]) = polyS F s a l + ringV F s (lastE a l).toNat e.toNat
  | [], a, e => by simp [polyS, lastE]
  | x :: r, a, e => by
    simp only [List.cons_append, polyS, lastE_cons]
    rw [polyS_snoc F s r x.toNat e]
    have : (lastE (x.toNat : Int) r).toNat = (lastE x r).toNat := by
      unfold lastE
      cases r.getLast? <;> simp <;> omega
    rw [this]; omega
theorem Chain.at {s : Int} : ∀ {l : List Int} {a b : Int} {i : Nat}, Chain s a l b → (h : i < l.length) → lastE a (l.take i) ≤ l[i] ∧ s ∣ l[i] - lastE a (l.take i) ∧ l[i] ≤ b ∧ a ≤ lastE a (l.take i)
  | [], a, b, i, h, hi => by simp at hi
  | e :: r, a, b, 0, h, hi => by
    simp only [Chain] at h
    exact ⟨h.1, h.2.1, Chain.le h.2.2, Int.le_refl _⟩
  | e :: r, a, b, i + 1, h, hi => by
    simp only [Chain] at h
    simp only [List.take_succ_cons, lastE_cons, List.getElem_cons_succ]
    obtain ⟨h1, h2, h3, h4⟩ := Chain.at (i := i) h.2.2 (by simpa using hi)
    exact ⟨h1, h2, h3, by omega⟩
def lastEE (a : Int) : List (List Int) → Int
  | [] => a
  | l :: r => lastEE (lastE a l) r
theorem lastEE_snoc : ∀ (ls : List (List Int)) (a : Int) (l : List Int), lastEE a (ls ++ [l]) = lastE (lastEE a ls) l
  | [], a, l => rfl
  | x :: r, a, l => lastEE_snoc r _ l
theorem lastE_nat (l : List Int) (a : Int) (h : 0 ≤ lastE a l) : lastE ((a.toNat : Nat) : Int) l = lastE a l ∨ l = [] := by
  cases l with
  | nil => exact .inr rfl
  | cons x r => rw [lastE_cons, lastE_cons]; exact .inl rfl
theorem multiS_snoc (F : Nat → Int) (s : Nat) : ∀ (ls : List (List Int)) (a : Nat) (l : List Int) (h : ∀ i, i ≤ ls.length → 0 ≤ lastEE a (ls.take i)), multiS F s a (ls ++ [l]) = multiS F s a ls + polyS F s (lastEE a ls).toNat l
  | [], a, l, h => by simp [multiS, lastEE]
  | x :: r, a, l, h => by
    have h1 : 0 ≤ lastE a x := by have := h 1 (by simp); simpa [lastEE] using this
    have e : ((lastE (a : Int) x).toNat : Int) = lastE a x := by omega
    simp only [List.cons_append, multiS, lastEE]
    rw [multiS_snoc F s r _ l (fun i hi => by
      have := h (i + 1) (by simpa using hi)
      rw [List.take_succ_cons] at this
      rw [e]; exact this), e]
    omega
theorem Chain2.at {s : Int} : ∀ {ls : List (List Int)} {a b : Int} {i : Nat}, Chain2 s a ls b → (h : i < ls.length) →
    Chain s (lastEE a (ls.take i)) ls[i] (lastEE a (ls.take (i + 1))) ∧ lastEE a (ls.take (i + 1)) ≤ b ∧ a ≤ lastEE a (ls.take i)
  | [], a, b, i, h, hi => by simp at hi
  | l :: r, a, b, 0, h, hi => by
    obtain ⟨c, h1, h2⟩ := h
    have hc := Chain.last h1
    have le2 : ∀ (r : List (List Int)) (c : Int), Chain2 s c r b → c ≤ b := by
      intro r
      induction r with
      | nil => intro c h; simp only [Chain2] at h; omega
      | cons l r ih => intro c h; obtain ⟨d, g1, g2⟩ := h; have := Chain.le g1; have := ih d g2; omega
    refine ⟨?_, ?_, Int.le_refl _⟩
    · simp only [List.take_zero, lastEE, List.take_succ_cons, List.getElem_cons_zero, hc]; exact h1
    · simp only [List.take_succ_cons, List.take_zero, lastEE, hc]; exact le2 r c h2
  | l :: r, a, b, i + 1, h, hi => by
    obtain ⟨c, h1, h2⟩ := h
    have hc := Chain.last h1
    have := Chain.le h1
    obtain ⟨g1, g2, g3⟩ := Chain2.at (i := i) h2 (by simpa using hi)
    refine ⟨?_, ?_, ?_⟩
    · simp only [List.take_succ_cons, lastEE, hc, List.getElem_cons_succ]
      simpa only [List.take_succ_cons] using g1
    · simp only [List.take_succ_cons, lastEE, hc]
      simpa only [List.take_succ_cons] using g2
    · simp only [List.take_succ_cons, lastEE, hc]; omega
theorem last_nth {l : List Int} (h : l ≠ []) (hl : l.length ≤ 9223372036854775806) (a : Int) : nth l (IntKind.i64.wrap ((l.length : Int) - 1)) = some (lastE a l) := by
  have hp : 0 < l.length := List.length_pos_iff.2 h
  rw [wrap_in (by omega), show (l.length : Int) - 1 = ((l.length - 1 : Nat) : Int) by omega, nth_nat]
  unfold lastE
  rw [List.getLast?_eq_getElem?]
  cases hx : l[l.length - 1]? with
  | none => rw [List.getElem?_eq_none_iff] at hx; omega
  | some x => rfl
section
variable {N : Nat} (hN0 : 0 < N) (hNl : 9223372036854775808 ≤ N) {flat : List Nat} {F : Nat → Int} (hF : ∀ (i : Nat) (h : i < flat.length), Wh flat[i] (F i)) (hB : ∀ i, i < flat.length → (F i).natAbs ≤ 1048576) (hlen : flat.length ≤ 1999)
  {s : Nat} (hs : 2 ≤ s) (hs9 : s ≤ 9)
include hN0 hNl hF hB hlen hs hs9
theorem area1 (e : Nat) (he : e ≤ flat.length) : ∀ (k i n m : Nat) (z : Nat) (A : Int), s ≤ i → (k = 0 ∧ e ≤ i ∨ i + k * s = e) → k + 1 ≤ n → Wh z A → A.natAbs ≤ m * 4398046511104 → m + k ≤ 2000 →
    ∃ y, gogeom_doubleArea1_l0 N n flat (e : Int) (s : Int) z (i : Int) = some y ∧ Wh y (A + ringS F s i k) ∧ (ringS F s i k).natAbs ≤ k * 4398046511104
  | 0, i, n, m, z, A, hi, hk, hn, hz, hA, hm => by
    obtain ⟨n, rfl⟩ : ∃ m, n = m + 1 := ⟨n - 1, by omega⟩
    simp only [gogeom_doubleArea1_l0, gogeom_doubleArea1_g0, Bool.cond_decide]
    rw [if_neg (by omega)]
    exact ⟨z, rfl, by simp only [ringS, Int.add_zero]; exact hz, by simp [ringS]⟩
  | k + 1, i, n, m, z, A, hi, hk, hn, hz, hA, hm => by
    obtain ⟨n, rfl⟩ : ∃ m, n = m + 1 := ⟨n - 1, by omega⟩
    have hk := hk.resolve_left (by omega)
    have hks : (k + 1) * s = k * s + s := by rw [Nat.add_mul, Nat.one_mul]
    have i1 : i + 1 < flat.length := by omega
    have w1 := hF (i + 1) i1
    have w2 := hF (i + 1 - s) (by omega)
    have w3 := hF i (by omega)
    have w4 := hF (i - s) (by omega)
    have b1 := hB (i + 1) i1
    have b2 := hB (i + 1 - s) (by omega)
    have b3 := hB i (by omega)
    have b4 := hB (i - s) (by omega)
    obtain ⟨x1, e1, y1⟩ := sub_wh w1 w2 (by omega)
    obtain ⟨x2, e2, y2⟩ := add_wh w3 w4 (by omega)
    have hp := prod_abs (a := F (i + 1) - F (i + 1 - s)) (b := F i + F (i - s)) (by omega) (by omega)
    obtain ⟨x3, e3, y3⟩ := mul_wh y1 y2 (by omega)
    have hA2 : (A + term F s i).natAbs ≤ (m + 1) * 4398046511104 := by unfold term; omega
    obtain ⟨x4, e4, y4⟩ := add_wh hz y3 (by unfold term at hA2; omega)
    obtain ⟨y, h1, h2, h3⟩ := area1 e he k (i + s) n (m + 1) x4 (A + term F s i) (by omega) (.inr (by omega)) (by omega) y4 hA2 (by omega)
    refine ⟨y, ?_, ?_, ?_⟩
    · simp only [gogeom_doubleArea1_l0, gogeom_doubleArea1_g0, Bool.cond_decide]
      rw [if_pos (by omega), wrap_in (n := (i : Int) + 1) (by omega), show (i : Int) + 1 = ((i + 1 : Nat) : Int) by omega, wrap_in (n := ((i + 1 : Nat) : Int) - (s : Int)) (by omega), show ((i + 1 : Nat) : Int) - (s : Int) = ((i + 1 - s : Nat) : Int) by omega,
        wrap_in (n := (i : Int) - (s : Int)) (by omega), show (i : Int) - (s : Int) = ((i - s : Nat) : Int) by omega, wrap_in (n := (i : Int) + (s : Int)) (by omega), show (i : Int) + (s : Int) = ((i + s : Nat) : Int) by omega,
        nth_get i1, nth_get (show i + 1 - s < flat.length by omega), nth_get (show i < flat.length by omega), nth_get (show i - s < flat.length by omega)]
      simp only [Option.bind_some, e1, e2, e3, e4]
      exact h1
    · simp only [ringS]; rw [← Int.add_assoc]; exact h2
    · simp only [ringS]
      have : (term F s i).natAbs ≤ 4398046511104 := hp
      omega
theorem ring1 (a e : Nat) (hae : a ≤ e) (he : e ≤ flat.length) (hd : s ∣ e - a) : ∃ y, gogeom_doubleArea1 N flat (a : Int) (e : Int) (s : Int) = some y ∧ Wh y (ringV F s a e) ∧ (ringV F s a e).natAbs ≤ (e - a) * 4398046511104 := by
  obtain ⟨q, hq⟩ := hd
  have hqd : (e - a) / s = q := by rw [hq]; exact Nat.mul_div_cancel_left q (by omega)
  have hqs : q ≤ s * q := Nat.le_mul_of_pos_left q (by omega)
  have hk : (q - 1 = 0 ∧ e ≤ a + s ∨ a + s + (q - 1) * s = e) := by
    rcases Nat.lt_or_ge q 2 with h | h
    · left
      refine ⟨by omega, ?_⟩
      have : s * q ≤ s * 1 := Nat.mul_le_mul_left s (by omega)
      omega
    · right
      obtain ⟨r, rfl⟩ : ∃ r, q = r + 1 := ⟨q - 1, by omega⟩
      rw [Nat.add_sub_cancel, Nat.mul_comm r s]
      rw [Nat.mul_add, Nat.mul_one] at hq
      omega
  obtain ⟨y, h1, h2, h3⟩ := area1 hN0 hNl hF hB hlen hs hs9 e he (q - 1) (a + s) N 0 0 0 (by omega) hk (by omega) wh_zero (by simp) (by omega)
  refine ⟨y, ?_, ?_, ?_⟩
  · unfold gogeom_doubleArea1 gogeom_doubleArea1_g
    rw [wrap_in (n := (a : Int) + (s : Int)) (by omega), show (a : Int) + (s : Int) = ((a + s : Nat) : Int) by omega]
    exact h1
  · unfold ringV; rw [hqd]; rw [Int.zero_add] at h2; exact h2
  · unfold ringV; rw [hqd]
    exact Nat.le_trans h3 (Nat.mul_le_mul_right _ (by omega))
theorem area2 (l : List Int) (a : Nat) (b : Int) (hc : Chain s a l b) (hb : b ≤ flat.length) (hl : l.length ≤ 9223372036854775806) :
    ∃ y, gogeom_doubleArea2 N flat (a : Int) l (s : Int) = some y ∧ Wh y (polyS F s a l) ∧ (polyS F s a l).natAbs ≤ (b.toNat - a) * 4398046511104 := by
  have loop := stateLoop0 (xs := l) (L := fun n i (st : Int × Nat) => gogeom_doubleArea2_l0 N n flat (s : Int) l st.1 st.2 i) (e := fun _ => False) (fin := fun st => some st.2)
    (fun i (st : Int × Nat) => st.1 = lastE a (l.take i) ∧ Wh st.2 (polyS F s a (l.take i)) ∧ (polyS F s a (l.take i)).natAbs ≤ ((lastE a (l.take i)).toNat - a) * 4398046511104) (fun n st h => by
      simp only [gogeom_doubleArea2_l0, gogeom_doubleArea2_g0, Bool.cond_decide]
      rw [if_neg (by omega)]) (fun n i st h hp => by
      obtain ⟨o, z⟩ := st
      obtain ⟨p1, p2, p3⟩ := hp
      dsimp only at p1 p2
      obtain ⟨c1, c2, c3, c4⟩ := Chain.at hc h
      obtain ⟨m, hm⟩ := Int.eq_ofNat_of_zero_le (show 0 ≤ o by omega)
      obtain ⟨e, he⟩ := Int.eq_ofNat_of_zero_le (show 0 ≤ l[i] by omega)
      have hd : s ∣ e - m := by
        have h1 : (s : Int) ∣ ((e - m : Nat) : Int) := by
          have : ((e - m : Nat) : Int) = l[i] - lastE (a : Int) (l.take i) := by omega
          rw [this]; exact c2
        exact Int.natCast_dvd_natCast.1 h1
      obtain ⟨y, r1, r2, r3⟩ := ring1 hN0 hNl hF hB hlen hs hs9 m e (by omega) (by omega) hd
      have hsn : polyS F s a (l.take (i + 1)) = polyS F s a (l.take i) + ringV F s m e := by
        rw [take_snoc h, polyS_snoc, ← p1, hm, he]; rfl
      have hla : lastE (a : Int) (l.take (i + 1)) = l[i] := by rw [take_snoc h, lastE_snoc]
      have hbd : (polyS F s a (l.take (i + 1))).natAbs ≤ ((lastE (a : Int) (l.take (i + 1))).toNat - a) * 4398046511104 := by
        rw [hsn, hla, he]
        have q1 : (lastE (a : Int) (l.take i)).toNat = m := by omega
        rw [q1] at p3
        have q2 : ((e : Int)).toNat - a = (m - a) + (e - m) := by omega
        rw [q2, Nat.add_mul]
        have := Int.natAbs_add_le (polyS F s a (l.take i)) (ringV F s m e)
        exact Nat.le_trans this (Nat.add_le_add p3 r3)
      have hbd2 : ((lastE (a : Int) (l.take (i + 1))).toNat - a) * 4398046511104 ≤ 2000 * 4398046511104 := Nat.mul_le_mul_right _ (by rw [hla]; omega)
      obtain ⟨y2, e2, w2⟩ := add_wh p2 r2 (by rw [← hsn]; exact Nat.le_trans hbd (Nat.le_trans hbd2 (by decide)))
      right
      refine ⟨(l[i], y2), ?_, ?_, ?_, hbd⟩
      · simp only [gogeom_doubleArea2_l0, gogeom_doubleArea2_g0, Bool.cond_decide]
        rw [if_pos (by omega), nth_get h, succ_in h (by omega)]
        simp only [Option.bind_some]
        rw [show gogeom_doubleArea1 N flat o l[i] (s : Int) = some y by rw [hm, he]; exact r1]
        simp only [Option.bind_some, e2]
      · exact hla.symm
      · rw [hsn]; exact w2) N ((a : Int), 0) (by omega) ⟨rfl, by simpa [polyS] using wh_zero, by simp [polyS]⟩
  rcases loop with h | ⟨st, h, p1, p2, p3⟩
  · exact h.elim
  · rw [List.take_length] at p1 p2 p3
    rw [Chain.last hc] at p3
    exact ⟨st.2, h, p2, p3⟩
theorem area3 (ls : List (List Int)) (hc : Chain2 s 0 ls flat.length) (hl : ls.length ≤ 9223372036854775806) (hll : ∀ l ∈ ls, l ≠ [] ∧ l.length ≤ 9223372036854775806) :
    ∃ y, gogeom_doubleArea3 N flat 0 ls (s : Int) = some y ∧ Wh y (multiS F s 0 ls) ∧ (multiS F s 0 ls).natAbs ≤ flat.length * 4398046511104 := by
  have pos : ∀ i, i ≤ ls.length → 0 ≤ lastEE ((0 : Nat) : Int) (ls.take i) := by
    intro i hi
    rcases Nat.lt_or_ge i ls.length with h | h
    · exact (Chain2.at hc h).2.2
    · have : i = ls.length := by omega
      subst this
      rcases Nat.eq_zero_or_pos ls.length with h0 | h0
      · have : ls = [] := List.eq_nil_of_length_eq_zero h0
        subst this; simp [lastEE]
      · have g := Chain2.at hc (show ls.length - 1 < ls.length by omega)
        have g1 := Chain.le g.1
        rw [show ls.length - 1 + 1 = ls.length by omega] at g1
        exact Int.le_trans g.2.2 g1
  have loop := stateLoop0 (xs := ls) (L := fun n i (st : Int × Nat) => gogeom_doubleArea3_l0 N n flat (s : Int) ls st.1 st.2 i) (e := fun _ => False) (fin := fun st => some st.2)
    (fun i (st : Int × Nat) => st.1 = lastEE ((0 : Nat) : Int) (ls.take i) ∧ Wh st.2 (multiS F s 0 (ls.take i)) ∧ (multiS F s 0 (ls.take i)).natAbs ≤ (lastEE ((0 : Nat) : Int) (ls.take i)).toNat * 4398046511104) (fun n st h => by
      simp only [gogeom_doubleArea3_l0, gogeom_doubleArea3_g0, Bool.cond_decide]
      rw [if_neg (by omega)]) (fun n i st h hp => by
      obtain ⟨o, z⟩ := st
      obtain ⟨p1, p2, p3⟩ := hp
      dsimp only at p1 p2
      obtain ⟨c1, c2, c3⟩ := Chain2.at hc h
      have hle := Chain.le c1
      obtain ⟨m, hm⟩ := Int.eq_ofNat_of_zero_le (show 0 ≤ o by rw [p1]; exact c3)
      rw [show ((0 : Int)) = ((0 : Nat) : Int) from rfl] at c1 c2 c3 hle
      rw [← p1, hm] at c1 hle
      have hne := hll _ (List.getElem_mem h)
      obtain ⟨y, r1, r2, r3⟩ := area2 hN0 hNl hF hB hlen hs hs9 ls[i] m _ c1 c2 hne.2
      have hsn : multiS F s 0 (ls.take (i + 1)) = multiS F s 0 (ls.take i) + polyS F s m ls[i] := by
        rw [take_snoc h, multiS_snoc F s _ _ _ (fun j hj => by
          rw [List.length_take] at hj
          rw [List.take_take]
          exact pos _ (by omega)), ← p1, hm]; rfl
      have hla : lastEE ((0 : Nat) : Int) (ls.take (i + 1)) = lastE (m : Int) ls[i] := by rw [take_snoc h, lastEE_snoc, ← p1, hm]
      have hlast := Chain.last c1
      have hbd : (multiS F s 0 (ls.take (i + 1))).natAbs ≤ (lastEE ((0 : Nat) : Int) (ls.take (i + 1))).toNat * 4398046511104 := by
        rw [hsn]
        have q1 : (lastEE ((0 : Nat) : Int) (ls.take i)).toNat = m := by omega
        rw [q1] at p3
        have q2 : (lastEE ((0 : Nat) : Int) (ls.take (i + 1))).toNat = m + ((lastEE ((0 : Nat) : Int) (ls.take (i + 1))).toNat - m) := by omega
        rw [q2, Nat.add_mul]
        have := Int.natAbs_add_le (multiS F s 0 (ls.take i)) (polyS F s m ls[i])
        exact Nat.le_trans this (Nat.add_le_add p3 r3)
      have hbd2 : (lastEE ((0 : Nat) : Int) (ls.take (i + 1))).toNat * 4398046511104 ≤ 2000 * 4398046511104 := Nat.mul_le_mul_right _ (by omega)
      obtain ⟨y2, e2, w2⟩ := add_wh p2 r2 (by rw [← hsn]; exact Nat.le_trans hbd (Nat.le_trans hbd2 (by decide)))
      right
      refine ⟨(lastE (m : Int) ls[i], y2), ?_, ?_, ?_, hbd⟩
      · simp only [gogeom_doubleArea3_l0, gogeom_doubleArea3_g0, Bool.cond_decide]
        rw [if_pos (by omega), nth_get h, succ_in h (by omega)]
        simp only [Option.bind_some]
        rw [show gogeom_doubleArea2 N flat o ls[i] (s : Int) = some y by rw [hm]; exact r1]
        simp only [Option.bind_some, e2]
        rw [last_nth hne.1 hne.2 (m : Int)]; rfl
      · exact hla.symm
      · rw [hsn]; exact w2) N ((0 : Int), 0) (by omega) ⟨rfl, by simpa [multiS] using wh_zero, by simp [multiS]⟩
  rcases loop with h | ⟨st, h, p1, p2, p3⟩
  · exact h.elim
  · rw [List.take_length] at p1 p2 p3
    have hend : lastEE ((0 : Nat) : Int) ls ≤ flat.length := by
      rcases Nat.eq_zero_or_pos ls.length with h0 | h0
      · have : ls = [] := List.eq_nil_of_length_eq_zero h0
        subst this; simp [lastEE]
      · have g := Chain2.at hc (show ls.length - 1 < ls.length by omega)
        have g1 := g.2.1
        rw [show ls.length - 1 + 1 = ls.length by omega, List.take_length] at g1
        exact g1
    exact ⟨st.2, h, p2, Nat.le_trans p3 (Nat.mul_le_mul_right _ (by omega))⟩
end
end Go.Proofs.Ytgipjhgnnppjgaa.PvAreaFA
