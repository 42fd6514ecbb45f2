/- The plain law of FnReverseFlat1: rows turned about by exchange are the rows from the last one on. -/
import Derived.Test.YtcppjdjimmnlkaaFRev
import Derived.Test.YtcppjdjimmnlkaaPv1
set_option linter.unusedVariables false
set_option linter.unusedSimpArgs false
namespace Go.Proofs.Ytcppjdjimmnlkaa.PvReverse
open Go.Av Go
open Go.Proofs.Ytcppjdjimmnlkaa.FRev

/-! ### rows -/
theorem row_lt {q r s t : Nat} (hr : r < s) : q * s + r < t * s ↔ q < t := by
  constructor
  · intro h
    rcases Nat.lt_or_ge q t with h' | h'
    · exact h'
    · have := Nat.mul_le_mul_right s h'; omega
  · intro h
    have := Nat.mul_le_mul_right s (Nat.succ_le_of_lt h)
    rw [Nat.succ_mul] at this; omega
theorem row_in {q r s t : Nat} (hr : r < s) : (t * s ≤ q * s + r ∧ q * s + r < t * s + s) ↔ q = t := by
  have h1 := row_lt (q := q) (t := t) hr
  have h2 := row_lt (q := q) (t := t + 1) hr
  rw [Nat.succ_mul] at h2
  omega
/-- Numbers of two rows exchanged, from k on. -/
def swp (a b : Nat) : Nat → Nat → List Nat → List Nat
  | 0, _, L => L
  | c + 1, k, L => swp a b c (k + 1) ((L.set (a + k) (L.getD (b + k) 0)).set (b + k) (L.getD (a + k) 0))
theorem swp_len (a b : Nat) : ∀ (c k : Nat) (L : List Nat), (swp a b c k L).length = L.length
  | 0, _, _ => rfl
  | c + 1, k, L => by simp only [swp]; rw [swp_len a b c]; simp
theorem getD_of {L : List Nat} {i : Nat} (h : i < L.length) : some (L.getD i 0) = L[i]? := by
  rw [List.getD_eq_getElem?_getD, List.getElem?_eq_getElem h]; rfl
theorem swp_get (a b s : Nat) : ∀ (c k : Nat) (L : List Nat), k + c = s → (a + s ≤ b ∨ a = b) → b + s ≤ L.length → ∀ p : Nat,
    (swp a b c k L)[p]? = if a + k ≤ p ∧ p < a + s then L[p - a + b]? else if b + k ≤ p ∧ p < b + s then L[p - b + a]? else L[p]?
  | 0, k, L, hk, hd, hl, p => by
    simp only [swp]
    rw [if_neg (by omega), if_neg (by omega)]
  | c + 1, k, L, hk, hd, hl, p => by
    simp only [swp]
    rw [swp_get a b s c (k + 1) _ (by omega) hd (by simpa using hl) p]
    have ha : a + k < L.length := by omega
    have hb : b + k < L.length := by omega
    have get : ∀ q : Nat, ((L.set (a + k) (L.getD (b + k) 0)).set (b + k) (L.getD (a + k) 0))[q]? = if b + k = q then L[a + k]? else if a + k = q then L[b + k]? else L[q]? := by
      intro q
      rw [List.getElem?_set]
      by_cases e : b + k = q
      · subst e; rw [if_pos rfl, if_pos (by simpa using hb), getD_of ha, if_pos rfl]
      · rw [if_neg e, if_neg e, List.getElem?_set]
        by_cases e2 : a + k = q
        · subst e2; rw [if_pos rfl, if_pos ha, getD_of hb, if_pos rfl]
        · rw [if_neg e2, if_neg e2]
    rw [get, get, get]
    rcases hd with hd | rfl
    · by_cases h1 : a + k ≤ p ∧ p < a + s
      · rw [if_pos h1]
        by_cases h2 : p = a + k
        · subst h2
          rw [if_neg (by omega), if_neg (by omega), if_neg (by omega), if_pos rfl]
          congr 1; omega
        · rw [if_pos (by omega), if_neg (by omega), if_neg (by omega)]
      · rw [if_neg h1]
        by_cases h3 : b + k ≤ p ∧ p < b + s
        · rw [if_pos h3]
          by_cases h4 : p = b + k
          · subst h4
            rw [if_neg (by omega), if_neg (by omega), if_pos rfl]
            congr 1; omega
          · rw [if_neg (by omega), if_pos (by omega), if_neg (by omega), if_neg (by omega)]
        · rw [if_neg h3, if_neg (by omega), if_neg (by omega), if_neg (by omega), if_neg (by omega)]
    · have e : ∀ q : Nat, a ≤ q → q - a + a = q := fun q h => by omega
      by_cases h1 : a + k ≤ p ∧ p < a + s
      · rw [if_pos h1, e p (by omega)]
        by_cases h2 : p = a + k
        · subst h2
          rw [if_neg (by omega), if_neg (by omega), if_pos rfl]
        · rw [if_pos (by omega), if_neg (by omega), if_neg (by omega)]
      · rw [if_neg h1, if_neg h1, if_neg (by omega), if_neg (by omega)]
        by_cases h2 : a + k = p
        · omega
        · rw [if_neg h2, if_neg h2]

/-! ### the exchange -/
section
variable {N : Nat}
theorem inner {r0 : Int → Int → List Nat → Option (List Nat × Unit)} (i j s : Nat) (hi : s ≤ i) (hj : s ≤ j) (hij : i ≤ j) (hs : s ≤ 9) : ∀ (c k n : Nat) (L : List Nat), k + c = s → c + 1 ≤ n → j ≤ L.length → L.length ≤ 1000000 →
    gogeom_reverse1_l1 N r0 (s : Int) n (i : Int) (j : Int) (k : Int) L = r0 ((i + s : Nat) : Int) ((j - s : Nat) : Int) (swp (i - s) (j - s) c k L)
  | 0, k, n, L, hk, hn, hl, hb => by
    obtain ⟨n, rfl⟩ : ∃ m, n = m + 1 := ⟨n - 1, by omega⟩
    simp only [gogeom_reverse1_l1, gogeom_reverse1_g1, Bool.cond_decide]
    rw [if_neg (by omega), wrap_in (by omega), wrap_in (by omega), show ((i : Int) + s) = ((i + s : Nat) : Int) by omega, show ((j : Int) - s) = ((j - s : Nat) : Int) by omega]
    rfl
  | c + 1, k, n, L, hk, hn, hl, hb => by
    obtain ⟨n, rfl⟩ : ∃ m, n = m + 1 := ⟨n - 1, by omega⟩
    simp only [gogeom_reverse1_l1, gogeom_reverse1_g1, Bool.cond_decide]
    have ea : ((i : Int) - s) + k = ((i - s + k : Nat) : Int) := by omega
    have eb : ((j : Int) - s) + k = ((j - s + k : Nat) : Int) := by omega
    have ek : ((k : Int) + 1) = ((k + 1 : Nat) : Int) := by omega
    rw [if_pos (by omega), wrap_in (n := (j : Int) - s) (by omega), wrap_in (n := (i : Int) - s) (by omega), wrap_in (n := (j : Int) - s + k) (by omega), wrap_in (n := (i : Int) - s + k) (by omega), wrap_in (n := (k : Int) + 1) (by omega), ea, eb, ek]
    rw [chk_nat (by omega), chk_nat (by omega)]
    simp only [Option.bind_some]
    rw [← getD_of (by omega), ← getD_of (by omega)]
    simp only [Option.bind_some]
    rw [chk_nat (by rw [List.length_set]; omega)]
    simp only [Option.bind_some]
    rw [inner i j s hi hj hij hs c (k + 1) n _ (by omega) (by omega) (by simp; omega) (by simp; omega)]
    rfl
theorem outer (hN : 1000000 ≤ N) (flat : List Nat) (m s : Nat) (hs : 2 ≤ s ∧ s ≤ 9) (hm : flat.length = m * s) (hlen : flat.length ≤ 2000) : ∀ (c t n : Nat) (L : List Nat), t + c = m → c + 1 ≤ n → L.length = flat.length →
    (∀ q r : Nat, r < s → q < m → L[q * s + r]? = if q < t ∨ m - t ≤ q then flat[(m - 1 - q) * s + r]? else flat[q * s + r]?) →
    ∃ L' : List Nat, gogeom_reverse1_l0 N n (s : Int) ((t * s + s : Nat) : Int) ((m * s - t * s : Nat) : Int) L = some (L', ()) ∧ L'.length = flat.length ∧
      ∀ q r : Nat, r < s → q < m → L'[q * s + r]? = flat[(m - 1 - q) * s + r]?
  | c, t, 0, L, _, hn, _, _ => by omega
  | c, t, n + 1, L, ht, hn, hl, hinv => by
    simp only [gogeom_reverse1_l0, gogeom_reverse1_g0, Bool.cond_decide]
    have hms : t * s ≤ m * s := Nat.mul_le_mul_right s (by omega)
    by_cases h : t * s + s ≤ m * s - t * s
    · rw [if_pos (by omega)]
      have htm : 2 * t + 1 ≤ m := by
        rcases Nat.lt_or_ge m (2 * t + 1) with h' | h'
        · have : m * s ≤ (2 * t) * s := Nat.mul_le_mul_right s (by omega)
          rw [Nat.mul_assoc, Nat.two_mul] at this
          omega
        · exact h'
      have hj : m * s - t * s = (m - t) * s := by rw [Nat.sub_mul]
      have hmt : (m - t) * s = (m - 1 - t) * s + s := by rw [← Nat.succ_mul]; congr 1; omega
      have h0 : (0 : Int) = ((0 : Nat) : Int) := rfl
      rw [h0, inner (t * s + s) (m * s - t * s) s (by omega) (by omega) h (by omega) s 0 N L (by omega) (by omega) (by omega) (by omega)]
      have e1 : t * s + s + s = (t + 1) * s + s := by rw [Nat.succ_mul]
      have e2 : m * s - t * s - s = m * s - (t + 1) * s := by rw [Nat.succ_mul]; omega
      have e3 : t * s + s - s = t * s := by omega
      have e4 : m * s - t * s - s = (m - 1 - t) * s := by omega
      have hc : c ≠ 0 := by omega
      obtain ⟨c, rfl⟩ : ∃ c', c = c' + 1 := ⟨c - 1, by omega⟩
      rw [e1, e3]
      conv => congr; ext L'; rw [e2]
      refine outer hN flat m s hs hm hlen c (t + 1) n (swp (t * s) (m * s - (t + 1) * s) s 0 L) (by omega) (by omega) (by rw [swp_len]; exact hl) ?_
      intro q r hr hq
      rw [← e2, e4]
      have hmul : (m - 1 - t) * s + s ≤ m * s := by omega
      have hdis : t * s + s ≤ (m - 1 - t) * s ∨ t * s = (m - 1 - t) * s := by
        rcases Nat.lt_or_ge t (m - 1 - t) with h' | h'
        · left
          have := Nat.mul_le_mul_right s (Nat.succ_le_of_lt h')
          rw [Nat.succ_mul] at this; exact this
        · right
          have : m - 1 - t = t := by omega
          rw [this]
      rw [swp_get (t * s) ((m - 1 - t) * s) s s 0 L (by omega) hdis (by omega)]
      simp only [Nat.add_zero]
      have i1 := row_in (q := q) (t := t) hr
      have i2 := row_in (q := q) (t := m - 1 - t) hr
      by_cases hqt : q = t
      · subst hqt
        rw [if_pos (i1.2 rfl), if_pos (by omega)]
        rw [show q * s + r - q * s + (m - 1 - q) * s = (m - 1 - q) * s + r by omega, hinv (m - 1 - q) r hr (by omega)]
        by_cases hmid : m - 1 - q = q
        · rw [hmid, if_neg (by omega)]
        · rw [if_neg (by omega)]
      · rw [if_neg (fun h => hqt (i1.1 h))]
        by_cases hqm : q = m - 1 - t
        · rw [if_pos (i2.2 hqm), if_pos (by omega), hqm]
          rw [show (m - 1 - t) * s + r - (m - 1 - t) * s + t * s = t * s + r by omega, hinv t r hr (by omega), if_neg (by omega)]
          congr 1
          rw [show m - 1 - (m - 1 - t) = t by omega]
        · rw [if_neg (fun h => hqm (i2.1 h)), hinv q r hr hq]
          by_cases hq1 : q < t ∨ m - t ≤ q
          · rw [if_pos hq1, if_pos (by omega)]
          · rw [if_neg hq1, if_neg (by omega)]
    · rw [if_neg (by omega)]
      refine ⟨L, rfl, hl, fun q r hr hq => ?_⟩
      rw [hinv q r hr hq, if_pos]
      have : m < 2 * t + 1 := by
        rcases Nat.lt_or_ge m (2 * t + 1) with h' | h'
        · exact h'
        · have : (2 * t + 1) * s ≤ m * s := Nat.mul_le_mul_right s h'
          rw [Nat.succ_mul, Nat.mul_assoc, Nat.two_mul] at this
          omega
      omega
theorem reverse1_of (hN : 1000000 ≤ N) (flat : List Nat) (m s : Nat) (hs : 2 ≤ s ∧ s ≤ 9) (hm : flat.length = m * s) (hlen : flat.length ≤ 2000) :
    ∃ L : List Nat, gogeom_reverse1 N flat 0 (flat.length : Int) (s : Int) = some (L, ()) ∧ L.length = flat.length ∧ ∀ q r : Nat, r < s → q < m → L[q * s + r]? = flat[(m - 1 - q) * s + r]? := by
  have := outer hN flat m s hs hm hlen m 0 N flat (by omega) (by have : m ≤ m * s := Nat.le_mul_of_pos_right m (by omega); omega) rfl (fun q r hr hq => by rw [if_neg (by omega)])
  obtain ⟨L, h1, h2, h3⟩ := this
  refine ⟨L, ?_, h2, h3⟩
  simp only [gogeom_reverse1, gogeom_reverse1_g]
  rw [wrap_in (by omega), hm]
  simpa using h1

/-! ### the rows from the last one on -/
theorem back (hN : 1000000 ≤ N) (g : Geo) (flat : List Nat) (hg : g.flat = flat) (m s : Nat) (hs : 2 ≤ s ∧ s ≤ 9) (hm : flat.length = m * s) (hlen : flat.length ≤ 2000) {r3 : Int → Int → List Nat → Option ((Int × Int × Int × List Nat × List Int × List (List Int) × List Geo × Unit) × Unit)} (e : List Int) (v17 v14 : Int) :
    ∀ (c t n : Nat) (out : List Nat), t + c = m → c + 1 ≤ n → out.length = t * s → (∀ q r : Nat, r < s → q < t → out[q * s + r]? = flat[(m - 1 - q) * s + r]?) →
    ∃ out' : List Nat, spec_Backward_l4 N r3 (s : Int) g e n 0 v17 v14 ((c : Int) * s - s) out = r3 v17 (IntKind.i64.wrap (v14 + 1)) out' ∧ out'.length = flat.length ∧ ∀ q r : Nat, r < s → q < m → out'[q * s + r]? = flat[(m - 1 - q) * s + r]?
  | 0, t, n, out, ht, hn, hl, hinv => by
    obtain ⟨n, rfl⟩ : ∃ m, n = m + 1 := ⟨n - 1, by omega⟩
    simp only [spec_Backward_l4, spec_Backward_g4, Bool.cond_decide]
    rw [if_neg (by simp; omega)]
    have e : t = m := by omega
    subst e
    exact ⟨out, rfl, by omega, hinv⟩
  | c + 1, t, n, out, ht, hn, hl, hinv => by
    obtain ⟨n, rfl⟩ : ∃ m, n = m + 1 := ⟨n - 1, by omega⟩
    simp only [spec_Backward_l4, spec_Backward_g4, Bool.cond_decide]
    have ec : (((c + 1 : Nat) : Int) * s - s) = ((c * s : Nat) : Int) := by push_cast; rw [Int.add_mul]; omega
    have hcm : c * s + s ≤ m * s := by
      have := Nat.mul_le_mul_right s (show c + 1 ≤ m by omega)
      rwa [Nat.succ_mul] at this
    rw [ec, if_pos (by omega), wrap_in (by omega), hg, show ((c * s : Nat) : Int) + (s : Int) = ((c * s + s : Nat) : Int) by omega, chk2_int (by omega)]
    simp only [Option.bind_some, Int.toNat_natCast]
    have htm : t * s + s ≤ m * s := by
      have := Nat.mul_le_mul_right s (show t + 1 ≤ m by omega)
      rwa [Nat.succ_mul] at this
    have hll : ((flat.drop (c * s)).take (c * s + s - c * s)).length = s := by rw [List.length_take, List.length_drop]; omega
    rw [lim_le (by rw [hll, hl]; omega)]
    simp only [Option.bind_some]
    rw [wrap_in (by omega), ← show ((c : Int) * s - s) = ((c * s : Nat) : Int) - (s : Int) by push_cast; rfl]
    refine back hN g flat hg m s hs hm hlen e v17 v14 c (t + 1) n _ (by omega) (by omega) (by rw [List.length_append, hll, hl, Nat.succ_mul]) ?_
    intro q r hr hq
    rcases Nat.lt_or_ge q t with h | h
    · rw [List.getElem?_append_left (by rw [hl]; exact (row_lt hr).2 h), hinv q r hr h]
    · have : q = t := by omega
      subst this
      rw [List.getElem?_append_right (by omega), hl, show q * s + r - q * s = r by omega, List.getElem?_take, if_pos (by omega), List.getElem?_drop]
      congr 2; congr 1; omega
theorem backward_of (hN : 1000000 ≤ N) (l : Int) (flat : List Nat) (m s : Nat) (hs : 2 ≤ s ∧ s ≤ 9) (hst : spec_Stride N l = some (s : Int)) (hm : flat.length = m * s) (hlen : flat.length ≤ 2000) :
    ∃ out : List Nat, spec_Backward N (Geo.mk 8 l 0 flat [] [] []) = some ((8, l, 0, out, [], [], [], ()), ()) ∧ out.length = flat.length ∧ ∀ q r : Nat, r < s → q < m → out[q * s + r]? = flat[(m - 1 - q) * s + r]? := by
  have hN0 : 0 < N := by omega
  obtain ⟨M, rfl⟩ : ∃ M, N = M + 2 := ⟨N - 2, by omega⟩
  obtain ⟨out, h1, h2, h3⟩ := back (N := M + 2) hN (Geo.mk 8 l 0 flat [] [] []) flat rfl m s hs hm hlen (r3 := spec_Backward_l3 (M + 2) (M + 1) (s : Int) (Geo.mk 8 l 0 flat [] [] []) []) [] (flat.length : Int) 0 m 0 (M + 2) [] (by omega)
    (by have : m ≤ m * s := Nat.le_mul_of_pos_right m (by omega); omega) (by simp) (fun q r _ h => by omega)
  refine ⟨out, ?_, h2, h3⟩
  have ef : (Geo.mk 8 l 0 flat [] [] []).flat = flat := rfl
  have el : (Geo.mk 8 l 0 flat [] [] []).layout = l := rfl
  have ek : (Geo.mk 8 l 0 flat [] [] []).kind = 8 := rfl
  have ee : (Geo.mk 8 l 0 flat [] [] []).ends = [] := rfl
  have es : (Geo.mk 8 l 0 flat [] [] []).endss = [] := rfl
  have e3 : ∀ (a b : Int) (n : Nat), spec_Backward_l3 (M + 2) (n + 1) (s : Int) (Geo.mk 8 l 0 flat [] [] []) [] a b = spec_Backward_g3 (M + 2) (s : Int) (Geo.mk 8 l 0 flat [] [] []) [] (spec_Backward_l4 (M + 2) (spec_Backward_l3 (M + 2) n (s : Int) (Geo.mk 8 l 0 flat [] [] []) []) (s : Int) (Geo.mk 8 l 0 flat [] [] []) [] (M + 2)) (spec_Backward_l3 (M + 2) n (s : Int) (Geo.mk 8 l 0 flat [] [] []) []) a b := fun _ _ _ => rfl
  simp only [spec_Backward, spec_Backward_g, ee, List.append_nil, List.length_nil, Nat.add_zero, Nat.zero_mul]
  rw [lim_le (by omega)]
  simp only [Option.bind_some, spec_Backward_l0, spec_Backward_g0, es, ek, Bool.cond_decide, List.length_nil]
  rw [if_neg (by omega), gate_pos hN0]
  simp only [spec_Backward_j2, gate_pos hN0, spec_Backward_g2, el, hst, Option.bind_some, show ((8 : Int) == 1) = false from rfl, show ((8 : Int) == 2) = false from rfl, show ((8 : Int) == 8) = true from rfl, cond_false, cond_true]
  rw [e3]
  simp only [spec_Backward_g3, Bool.cond_decide, ef, List.length_singleton]
  rw [if_pos (by omega), show (0 : Int) = ((0 : Nat) : Int) from rfl, chk_nat (by omega)]
  simp only [Option.bind_some, List.getElem?_cons_zero]
  rw [wrap_in (by omega), show ((flat.length : Int) - s) = ((m : Int) * s - s) by rw [hm]; push_cast; rfl]
  rw [show ((0 : Nat) : Int) = 0 from rfl, h1, wrap_in (by omega)]
  simp only [spec_Backward_l3, spec_Backward_g3, Bool.cond_decide, List.length_singleton]
  rw [if_neg (by omega), ek, el, ee, es]
  rfl
theorem same_of (hN : 1000000 ≤ N) (a : List Nat) (hlen : a.length ≤ 2000) : spec_SameFloats N a a = some true := by
  have key : ∀ (c i n : Nat), i + c = a.length → c + 1 ≤ n → spec_SameFloats_l0 N n a a (i : Int) = some true := by
    intro c
    induction c with
    | zero =>
      intro i n hi hn
      obtain ⟨n, rfl⟩ : ∃ m, n = m + 1 := ⟨n - 1, by omega⟩
      simp only [spec_SameFloats_l0, spec_SameFloats_g0, Bool.cond_decide]
      rw [if_neg (by omega)]
    | succ c ih =>
      intro i n hi hn
      obtain ⟨n, rfl⟩ : ∃ m, n = m + 1 := ⟨n - 1, by omega⟩
      simp only [spec_SameFloats_l0, spec_SameFloats_g0, Bool.cond_decide]
      have hlt : i < a.length := by omega
      rw [if_pos (by omega), nth_nat, List.getElem?_eq_getElem hlt]
      simp only [Option.bind_some, math_Float64bits, bne_self_eq_false, cond_false]
      rw [wrap_in (by omega), show (i : Int) + 1 = ((i + 1 : Nat) : Int) by omega, ih (i + 1) n (by omega) (by omega)]
  simp only [spec_SameFloats, spec_SameFloats_g, bne_self_eq_false, cond_false]
  simpa using key a.length 0 N (by omega) (by omega)
theorem rows_ext {flat A B : List Nat} (m s : Nat) (hs : 0 < s) (hm : flat.length = m * s) (ha : A.length = flat.length) (hb : B.length = flat.length)
    (h : ∀ q r : Nat, r < s → q < m → A[q * s + r]? = B[q * s + r]?) : A = B := by
  apply List.ext_getElem?
  intro p
  rcases Nat.lt_or_ge p flat.length with hp | hp
  · have e : p = p / s * s + p % s := by rw [Nat.mul_comm]; exact (Nat.div_add_mod p s).symm
    have h1 := Nat.mod_lt p hs
    have h2 : p / s < m := by rw [Nat.div_lt_iff_lt_mul hs]; omega
    rw [e]; exact h _ _ h1 h2
  · rw [List.getElem?_eq_none (by omega), List.getElem?_eq_none (by omega)]

/-! ### good data -/
theorem stride_of (s : Int) (hs : 2 ≤ s ∧ s ≤ 9) : ∃ l, laws_fLayout N s = some l ∧ spec_Stride N l = some s ∧ 1 ≤ l ∧ l ≤ 9 := by
  simp only [laws_fLayout, laws_fLayout_g, spec_Stride, spec_Stride_g]
  by_cases h2 : s = 2
  · subst h2; exact ⟨1, rfl, rfl, by omega, by omega⟩
  by_cases h3 : s = 3
  · subst h3; exact ⟨2, rfl, rfl, by omega, by omega⟩
  have e2 : (s == 2) = false := by simpa using h2
  have e3 : (s == 3) = false := by simpa using h3
  have e1 : (s == 1) = false := by simpa using (by omega : ¬ s = 1)
  refine ⟨s, by simp [e2, e3], ?_, by omega, by omega⟩
  simp only [e1, e2, e3, cond_false, Bool.cond_decide]
  rw [if_neg (by omega)]
theorem good_of (hN : 1000000 ≤ N) (l s : Int) (hs : 2 ≤ s ∧ s ≤ 9) (hst : spec_Stride N l = some s) (hl : 1 ≤ l ∧ l ≤ 9) (flat : List Nat) (hf : flat.length ≤ 2147483647) :
    laws_gGood N [Geo.mk 8 l 0 flat [] [] []] = some (decide (flat.length ≤ 1999) && decide (Int.tmod (flat.length : Int) s = 0)) := by
  obtain ⟨M, rfl⟩ : ∃ M, N = M + 2 := ⟨N - 2, by omega⟩
  have hw : spec_Weight (M + 2) (M + 2) (Geo.mk 8 l 0 flat [] [] []) 2000 = some (1 + (flat.length : Int)) := by
    rw [spec_Weight]
    simp only [spec_Weight_g]
    rw [spec_Weight_l0]
    simp only [spec_Weight_g0, Bool.cond_decide]
    rw [if_neg (by show ¬ (0 : Int) < (([] : List (List Int)).length : Int); simp)]
    rw [spec_Weight_l1]
    simp only [spec_Weight_g1, Bool.cond_decide]
    rw [if_neg (by show ¬ (0 : Int) < (([] : List Geo).length : Int); simp)]
    have ef : (Geo.mk 8 l 0 flat [] [] []).flat = flat := rfl
    have ee : (Geo.mk 8 l 0 flat [] [] []).ends = [] := rfl
    rw [ef, ee, wrap_in (n := 1 + (flat.length : Int)) (by omega), List.length_nil, wrap_in (by omega)]
    simp
  have hlay : laws_gLayouts (M + 2) (M + 2) (Geo.mk 8 l 0 flat [] [] []) 9 = some true := by
    rw [laws_gLayouts]
    simp only [laws_gLayouts_g]
    rw [laws_gLayouts_l0]
    simp only [laws_gLayouts_g0, Bool.cond_decide]
    rw [if_neg (by show ¬ (0 : Int) < (([] : List Geo).length : Int); simp), if_pos (by show l ≤ 9; omega), if_pos (by show l ≥ 1; omega)]
  have hgood : spec_Good (M + 2) (M + 2) (Geo.mk 8 l 0 flat [] [] []) = some (decide (Int.tmod (flat.length : Int) s = 0)) := by
    have e0 : (s == 0) = false := by simpa using (by omega : ¬ s = 0)
    have en : ¬ s = 0 := by omega
    have ef : (Geo.mk 8 l 0 flat [] [] []).flat = flat := rfl
    have el : (Geo.mk 8 l 0 flat [] [] []).layout = l := rfl
    have ek : (Geo.mk 8 l 0 flat [] [] []).kind = 8 := rfl
    have eks : (Geo.mk 8 l 0 flat [] [] []).kids = [] := rfl
    have ee : (Geo.mk 8 l 0 flat [] [] []).ends = [] := rfl
    have es : (Geo.mk 8 l 0 flat [] [] []).endss = [] := rfl
    rw [spec_Good]
    simp only [spec_Good_g, el, hst, Option.bind_some, ek, show ((8 : Int) == 7) = false from rfl, cond_false, e0, if_neg en, ef, eks, es, List.length_nil, Bool.cond_decide]
    rw [if_neg (by omega), if_neg (by omega), gate_pos (show 0 < M + 2 by omega)]
    simp only [spec_Good_j3, spec_Good_j2, spec_Good_g2, gate_pos (show 0 < M + 2 by omega), spec_Good_g3, ek, show ((8 : Int) == 1) = false from rfl, show ((8 : Int) == 2) = false from rfl, show ((8 : Int) == 8) = true from rfl, cond_false]
    simp only [spec_Good_j4, gate_pos (show 0 < M + 2 by omega), spec_Good_g4, cond_true, ee, List.length_nil]
    by_cases ht : Int.tmod (flat.length : Int) s = 0
    · simp [ht]
    · rw [show (Int.tmod (flat.length : Int) s != 0) = true by simp [ht], cond_true, decide_eq_false ht]
  simp only [laws_gGood, laws_gGood_g, laws_gSmall, laws_gSmall_g, laws_gSmall_l0, laws_gSmall_g0, laws_gGood_l0, laws_gGood_g0, List.length_singleton, Bool.cond_decide]
  have n0 : nth [Geo.mk 8 l 0 flat [] [] []] 0 = some (Geo.mk 8 l 0 flat [] [] []) := rfl
  rw [if_pos (by omega), n0]
  simp only [Option.bind_some, Geo.kind, Geo.layout, Geo.srid, Geo.flat, Geo.ends, Geo.endss, Geo.kids, hw, hlay, Bool.not_true, cond_false]
  rw [wrap_in (n := 2000 - (1 + (flat.length : Int))) (by omega), wrap_in (n := 0 + 1) (by omega)]
  by_cases h : flat.length ≤ 1999
  · rw [if_neg (by omega), if_neg (by omega)]
    simp only [Option.bind_some, Bool.not_true, cond_false]
    rw [if_pos (by omega)]
    simp only [Option.bind_some, hgood]
    cases hd : decide (Int.tmod (flat.length : Int) s = 0) with
    | true => simp [h]
    | false => simp
  · rw [if_pos (by omega)]
    simp [h]
theorem law (v1 : List Nat) (v2 : Int) : laws_FnReverseFlat1 18446744073709551616 v1 v2 = some true := by
  generalize hN : 18446744073709551616 = N
  have hN0 : 1000000 ≤ N := by omega
  simp only [laws_FnReverseFlat1, laws_FnReverseFlat1_g, Bool.cond_decide]
  by_cases h1 : (v1.length : Int) > 2147483647
  · rw [if_pos h1]
  rw [if_neg h1]
  simp only [laws_fRow, laws_fRow_g, laws_fStride, laws_fStride_g, Bool.cond_decide]
  by_cases h2 : v2 ≥ 2
  · rw [if_pos h2]
    by_cases h3 : v2 ≤ 9
    · obtain ⟨l, hl, hst, hl1, hl2⟩ := stride_of (N := N) v2 ⟨h2, h3⟩
      simp only [Option.bind_some, h3, decide_true, Bool.not_true, cond_false, hl]
      rw [good_of hN0 l v2 ⟨h2, h3⟩ hst ⟨hl1, hl2⟩ v1 (by omega)]
      simp only [Option.bind_some]
      cases hb : (decide (v1.length ≤ 1999) && decide (Int.tmod (v1.length : Int) v2 = 0)) with
      | false => rfl
      | true =>
        simp only [Bool.not_true, cond_false]
        simp only [Bool.and_eq_true, decide_eq_true_eq] at hb
        obtain ⟨s, rfl⟩ : ∃ s : Nat, v2 = (s : Int) := ⟨v2.toNat, by omega⟩
        have hmod : v1.length % s = 0 := by
          have h : (v1.length : Int) % (s : Int) = 0 := by rw [← Int.tmod_eq_emod_of_nonneg (by omega)]; exact hb.2
          exact_mod_cast h
        have hm : v1.length = (v1.length / s) * s := by
          have := Nat.div_add_mod v1.length s
          rw [hmod, Nat.add_zero, Nat.mul_comm] at this
          exact this.symm
        generalize v1.length / s = m at hm
        obtain ⟨A, a1, a2, a3⟩ := reverse1_of hN0 v1 m s (by omega) hm (by omega)
        obtain ⟨B, b1, b2, b3⟩ := backward_of hN0 l v1 m s (by omega) hst hm (by omega)
        have eAB : A = B := rows_ext (flat := v1) m s (by omega) hm a2 b2 fun q r hr hq => (a3 q r hr hq).trans (b3 q r hr hq).symm
        simp only [impl_ReverseFlat1, impl_ReverseFlat1_g, impl_floats, impl_floats_g]
        rw [lim_le (by omega)]
        simp only [Option.bind_some, gogeom_DoorReverse1, gogeom_DoorReverse1_g, a1, cond_true, Geo.kind, Geo.layout, Geo.srid, Geo.flat, Geo.ends, Geo.endss, Geo.kids, b1]
        rw [eAB, same_of hN0 B (by omega)]
        rfl
    · simp [h3]
  · rw [if_neg h2]; rfl
end
end Go.Proofs.Ytcppjdjimmnlkaa.PvReverse
