/- Doubled areas: what the law reckons. -/
import Derived.Test.YtgipjhgnnppjgaaPvAreaFA
set_option linter.unusedVariables false
set_option linter.unusedSimpArgs false
set_option linter.unusedSectionVars false
namespace Go.Proofs.Ytgipjhgnnppjgaa.PvTwiceFA
open Go.Av Go
open Go.Proofs.Ytgipjhgnnppjgaa.FA
open Go.Proofs.Ytgipjhgnnppjgaa.PvGoodFA
open Go.Proofs.Ytgipjhgnnppjgaa.PvAreaFA
theorem ringS_shift (F : Nat → Int) (s a : Nat) : ∀ (k i : Nat), s ≤ i → ringS (fun j => F (a + j)) s i k = ringS F s (a + i) k
  | 0, i, h => rfl
  | k + 1, i, h => by
    simp only [ringS]
    rw [ringS_shift F s a k (i + s) (by omega)]
    unfold term
    dsimp only
    rw [show a + (i + 1) = a + i + 1 by omega, show a + (i + 1 - s) = a + i + 1 - s by omega, show a + (i - s) = a + i - s by omega, show a + (i + s) = a + i + s by omega]
abbrev slc (L : List Nat) (a e : Nat) : List Nat := (L.drop a).take (e - a)
theorem slc_len (L : List Nat) {a e : Nat} (h : a ≤ e) (he : e ≤ L.length) : (slc L a e).length = e - a := by
  unfold slc; rw [List.length_take, List.length_drop]; omega
theorem slc_get (L : List Nat) {a e i : Nat} (h : a ≤ e) (he : e ≤ L.length) (hi : i < (slc L a e).length) : (slc L a e)[i] = L[a + i]'(by rw [slc_len L h he] at hi; omega) := by
  simp only [List.getElem_take, List.getElem_drop]
theorem Chain.rel {s : Int} (o : Int) : ∀ {l : List Int} {a b : Int}, Chain s a l b → Chain s (a - o) (l.map (· - o)) (b - o)
  | [], a, b, h => by simp only [Chain] at h; subst h; rfl
  | e :: r, a, b, h => by
    simp only [Chain] at h
    simp only [List.map_cons, Chain]
    exact ⟨by omega, by rw [show e - o - (a - o) = e - a by omega]; exact h.2.1, Chain.rel o h.2.2⟩
theorem polyS_rel (F : Nat → Int) (s o : Nat) {S : Int} : ∀ (l : List Int) (a : Nat) (b : Int), Chain S ((o : Int) + a) l b → polyS (fun j => F (o + j)) s a (l.map (· - (o : Int))) = polyS F s (o + a) l
  | [], a, b, h => rfl
  | e :: r, a, b, h => by
    simp only [Chain] at h
    obtain ⟨h1, h2, h3⟩ := h
    have e1 : e = (o : Int) + ((e - (o : Int)).toNat : Int) := by omega
    simp only [List.map_cons, polyS]
    rw [polyS_rel F s o r (e - (o : Int)).toNat b (by rw [← e1]; exact h3)]
    have e2 : o + (e - (o : Int)).toNat = e.toNat := by omega
    rw [e2]
    unfold ringV
    rw [ringS_shift F s o _ (a + s) (by omega), show o + (a + s) = o + a + s by omega, show e.toNat - (o + a) = (e - (o : Int)).toNat - a by omega]
section
variable {N : Nat} (hN0 : 0 < N) (hNl : 9223372036854775808 ≤ N) {s : Nat} (hs : 2 ≤ s) (hs9 : s ≤ 9) {lay : Int} (hst : strd lay = s)
include hN0 hNl hs hs9 hst
theorem loop8 {self : Geo → Option Int} {flat : List Nat} {F : Nat → Int} (hF : ∀ (i : Nat) (h : i < flat.length), Wh flat[i] (F i)) (hB : ∀ i, i < flat.length → (F i).natAbs ≤ 1048576) (hlen : flat.length ≤ 1999) :
    ∀ (k i n m : Nat) (A : Int), s ≤ i → (k = 0 ∧ flat.length ≤ i ∨ i + k * s = flat.length) → k + 1 ≤ n → A.natAbs ≤ m * 4398046511104 → m + k ≤ 2000 →
    laws_gTwice_l0 N self n (s : Int) (Geo.mk 8 lay 0 flat [] [] []) A (i : Int) = some (A + ringS F s i k) ∧ (ringS F s i k).natAbs ≤ k * 4398046511104
  | 0, i, n, m, A, hi, hk, hn, hA, hm => by
    obtain ⟨n, rfl⟩ : ∃ m, n = m + 1 := ⟨n - 1, by omega⟩
    have kf : (Geo.mk 8 lay 0 flat [] [] []).flat = flat := rfl
    simp only [laws_gTwice_l0, laws_gTwice_g0, laws_gTwice_j3, laws_gTwice_g3, Bool.cond_decide, kf, gate_pos hN0]
    rw [if_neg (by omega)]
    exact ⟨by simp [ringS], by simp [ringS]⟩
  | k + 1, i, n, m, A, hi, hk, hn, hA, hm => by
    obtain ⟨n, rfl⟩ : ∃ m, n = m + 1 := ⟨n - 1, by omega⟩
    have kf : (Geo.mk 8 lay 0 flat [] [] []).flat = flat := rfl
    have hk := hk.resolve_left (by omega)
    have hks : (k + 1) * s = k * s + s := by rw [Nat.add_mul, Nat.one_mul]
    have i1 : i + 1 < flat.length := by omega
    have b1 := hB (i + 1) i1
    have b2 := hB (i + 1 - s) (by omega)
    have b3 := hB i (by omega)
    have b4 := hB (i - s) (by omega)
    have f1 := f2i_wh (hF (i + 1) i1) (by omega)
    have f2 := f2i_wh (hF (i + 1 - s) (by omega)) (by omega)
    have f3 := f2i_wh (hF i (by omega)) (by omega)
    have f4 := f2i_wh (hF (i - s) (by omega)) (by omega)
    have hp := prod_abs (a := F (i + 1) - F (i + 1 - s)) (b := F i + F (i - s)) (by omega) (by omega)
    have hA2 : (A + term F s i).natAbs ≤ (m + 1) * 4398046511104 := by unfold term; omega
    obtain ⟨h1, h2⟩ := loop8 (self := self) hF hB hlen k (i + s) n (m + 1) (A + term F s i) (by omega) (.inr (by omega)) (by omega) hA2 (by omega)
    constructor
    · simp only [laws_gTwice_l0, laws_gTwice_g0, Bool.cond_decide, kf]
      rw [if_pos (by omega), wrap_in (n := (i : Int) + 1) (by omega), show (i : Int) + 1 = ((i + 1 : Nat) : Int) by omega, wrap_in (n := (i : Int) - (s : Int)) (by omega), wrap_in (n := (i : Int) - (s : Int) + 1) (by omega), show (i : Int) - (s : Int) + 1 = ((i + 1 - s : Nat) : Int) by omega,
        show (i : Int) - (s : Int) = ((i - s : Nat) : Int) by omega, wrap_in (n := (i : Int) + (s : Int)) (by omega), show (i : Int) + (s : Int) = ((i + s : Nat) : Int) by omega,
        nth_get i1, nth_get (show i + 1 - s < flat.length by omega), nth_get (show i < flat.length by omega), nth_get (show i - s < flat.length by omega)]
      simp only [Option.bind_some, f1, f2, f3, f4]
      rw [wrap_in (n := F (i + 1) - F (i + 1 - s)) (by omega), wrap_in (n := F i + F (i - s)) (by omega), wrap_in (n := (F (i + 1) - F (i + 1 - s)) * (F i + F (i - s))) (by omega)]
      unfold term at hA2
      rw [wrap_in (n := A + (F (i + 1) - F (i + 1 - s)) * (F i + F (i - s))) (by omega)]
      show laws_gTwice_l0 N self n (s : Int) (Geo.mk 8 lay 0 flat [] [] []) (A + term F s i) ((i + s : Nat) : Int) = _
      rw [h1]
      simp only [ringS]; rw [Int.add_assoc]
    · simp only [ringS]
      have : (term F s i).natAbs ≤ 4398046511104 := hp
      omega
theorem twice8 {d : Nat} {flat : List Nat} {F : Nat → Int} (hF : ∀ (i : Nat) (h : i < flat.length), Wh flat[i] (F i)) (hB : ∀ i, i < flat.length → (F i).natAbs ≤ 1048576) (hlen : flat.length ≤ 1999) (hd : s ∣ flat.length) :
    laws_gTwice N (d + 1) (Geo.mk 8 lay 0 flat [] [] []) = some (ringS F s s (flat.length / s - 1)) := by
  obtain ⟨q, hq⟩ := hd
  have hqd : flat.length / s = q := by rw [hq]; exact Nat.mul_div_cancel_left q (by omega)
  have hqs : q ≤ s * q := Nat.le_mul_of_pos_left q (by omega)
  have hk : (q - 1 = 0 ∧ flat.length ≤ s ∨ s + (q - 1) * s = flat.length) := by
    rcases Nat.lt_or_ge q 2 with h | h
    · left
      refine ⟨by omega, ?_⟩
      have : s * q ≤ s * 1 := Nat.mul_le_mul_left s (by omega)
      omega
    · right
      obtain ⟨r, rfl⟩ : ∃ r, q = r + 1 := ⟨q - 1, by omega⟩
      rw [Nat.add_sub_cancel, Nat.mul_comm r s]
      rw [Nat.mul_add, Nat.mul_one] at hq
      omega
  obtain ⟨h1, _⟩ := loop8 hN0 hNl hs hs9 hst (self := laws_gTwice N d) hF hB hlen (q - 1) s N 0 0 (by omega) hk (by omega) (by simp) (by omega)
  have k8 : (Geo.mk 8 lay 0 flat [] [] []).kind = 8 := rfl
  have kl : (Geo.mk 8 lay 0 flat [] [] []).layout = lay := rfl
  have b8 : ((8 : Int) == 8) = true := rfl
  rw [show laws_gTwice N (d + 1) (Geo.mk 8 lay 0 flat [] [] []) = laws_gTwice_g N (laws_gTwice N d) (Geo.mk 8 lay 0 flat [] [] []) (laws_gTwice_l0 N (laws_gTwice N d) N) (laws_gTwice_j1 N (laws_gTwice N d)) from rfl]
  simp only [laws_gTwice_g, k8, kl, b8, cond_true, stride_spec, hst, Option.bind_some]
  rw [hqd]
  rw [Int.zero_add] at h1
  exact h1
theorem part3 (L : List Nat) (ends : List Int) (hc : Chain s 0 ends L.length) (hlen : L.length ≤ 1999) (hel : ends.length ≤ 9223372036854775806) {i : Nat} (hi : i < ends.length) :
    spec_Part N (Geo.mk 3 lay 0 L ends [] []) (i : Int) = some ((8, lay, 0, slc L (lastE 0 (ends.take i)).toNat ends[i].toNat, [], [], [], ()), ()) := by
  obtain ⟨c1, c2, c3, c4⟩ := Chain.at hc hi
  have k3 : (Geo.mk 3 lay 0 L ends [] []).kind = 3 := rfl
  have kl : (Geo.mk 3 lay 0 L ends [] []).layout = lay := rfl
  have kf : (Geo.mk 3 lay 0 L ends [] []).flat = L := rfl
  have ke : (Geo.mk 3 lay 0 L ends [] []).ends = ends := rfl
  have b1 : ((3 : Int) == 7) = false := rfl
  have b2 : ((3 : Int) == 6) = false := rfl
  have b3 : ((3 : Int) != 3) = false := rfl
  have tail : ∀ v : Int, v = lastE 0 (ends.take i) → spec_Part_j3 N (i : Int) (Geo.mk 3 lay 0 L ends [] []) v = some ((8, lay, 0, slc L (lastE 0 (ends.take i)).toNat ends[i].toNat, [], [], [], ()), ()) := by
    intro v hv
    simp only [spec_Part_j3, spec_Part_g3, spec_Part_j4, spec_Part_g4, gate_pos hN0, k3, kl, kf, ke, b3, cond_false]
    rw [nth_get hi]
    simp only [Option.bind_some]
    rw [chk2_int (by omega)]
    simp only [Option.bind_some]
    have hsl := slc_len L (a := v.toNat) (e := ends[i].toNat) (by omega) (by omega)
    rw [lim_le (by rw [hsl]; simp; omega)]
    simp only [Option.bind_some, List.nil_append]
    rw [hv]
  simp only [spec_Part, spec_Part_g, k3, b1, b2, cond_false, Bool.cond_decide, ke]
  by_cases h0 : (i : Int) > 0
  · rw [if_pos h0, wrap_in (n := (i : Int) - 1) (by omega), show (i : Int) - 1 = ((i - 1 : Nat) : Int) by omega, nth_get (show i - 1 < ends.length by omega)]
    simp only [Option.bind_some]
    refine tail _ ?_
    have : ends.take i = ends.take (i - 1) ++ [ends[i - 1]] := by
      have := take_snoc (xs := ends) (i := i - 1) (by omega)
      rwa [show i - 1 + 1 = i by omega] at this
    rw [this, lastE_snoc]
  · rw [if_neg h0]
    have : i = 0 := by omega
    subst this
    exact tail 0 rfl
def pg (lay : Int) (L : List Nat) (ends : List Int) (j : Nat) : Geo := Geo.mk 8 lay 0 (slc L (lastE 0 (ends.take j)).toNat (ends.getD j 0).toNat) [] [] []
theorem parts3 (L : List Nat) (ends : List Int) (hc : Chain s 0 ends L.length) (hlen : L.length ≤ 1999) (hel : ends.length ≤ 1999) :
    ∃ ps : List Geo, spec_Parts N (Geo.mk 3 lay 0 L ends [] []) = some (ps, ()) ∧ ps.length = ends.length ∧ ∀ j, j < ends.length → ps[j]? = some (pg lay L ends j) := by
  have k3 : (Geo.mk 3 lay 0 L ends [] []).kind = 3 := rfl
  have ke : (Geo.mk 3 lay 0 L ends [] []).ends = ends := rfl
  have b3 : ((3 : Int) == 3) = true := rfl
  have loop := stateLoop0 (xs := ends) (L := fun n i (st : List Geo) => spec_Parts_l0 N n (ends.length : Int) (Geo.mk 3 lay 0 L ends [] []) i st) (e := fun _ => False) (fin := fun st => some (st, ()))
    (fun i (st : List Geo) => st.length = i ∧ ∀ j, j < i → st[j]? = some (pg lay L ends j)) (fun n st h => by
      simp only [spec_Parts_l0, spec_Parts_g0, Bool.cond_decide]
      rw [if_neg (by omega)]) (fun n i st h hp => by
      right
      refine ⟨st ++ [pg lay L ends i], ?_, ?_, ?_⟩
      · simp only [spec_Parts_l0, spec_Parts_g0, Bool.cond_decide]
        rw [if_pos (by omega)]
        show ((spec_Part N (Geo.mk 3 lay 0 L ends [] []) (i : Int)).bind _) = _
        rw [part3 hN0 hNl hs hs9 hst L ends hc hlen (by omega) h]
        simp only [Option.bind_some]
        rw [lim_le (by simp; omega), succ_in h (by omega)]
        simp only [Option.bind_some]
        have : ends.getD i 0 = ends[i] := by simp [List.getD_eq_getElem?_getD, List.getElem?_eq_getElem h]
        unfold pg
        rw [this]
      · simp [hp.1]
      · intro j hj
        rcases Nat.lt_or_ge j i with h1 | h1
        · rw [List.getElem?_append_left (by omega)]; exact hp.2 j h1
        · have : j = st.length := by omega
          subst this
          rw [List.getElem?_append_right (by omega), Nat.sub_self, hp.1]; rfl) N [] (by omega) ⟨rfl, fun j hj => by omega⟩
  rcases loop with h | ⟨ps, h, h1, h2⟩
  · exact h.elim
  · refine ⟨ps, ?_, h1, h2⟩
    unfold spec_Parts spec_Parts_g
    show ((spec_NumParts N (Geo.mk 3 lay 0 L ends [] [])).bind _) = _
    simp only [spec_NumParts, spec_NumParts_g, spec_NumParts_j0, spec_NumParts_g0, gate_pos hN0, k3, ke, b3, cond_true, Option.bind_some]
    exact h
theorem twice3 {d : Nat} {L : List Nat} {F : Nat → Int} (hF : ∀ (i : Nat) (h : i < L.length), Wh L[i] (F i)) (hB : ∀ i, i < L.length → (F i).natAbs ≤ 1048576) (ends : List Int) (hc : Chain s 0 ends L.length) (hlen : L.length ≤ 1999) (hel : ends.length ≤ 1999) :
    laws_gTwice N (d + 1 + 1) (Geo.mk 3 lay 0 L ends [] []) = some (polyS F s 0 ends) ∧ (polyS F s 0 ends).natAbs ≤ L.length * 4398046511104 := by
  obtain ⟨ps, h1, h2, h3⟩ := parts3 hN0 hNl hs hs9 hst L ends hc hlen hel
  have k3 : (Geo.mk 3 lay 0 L ends [] []).kind = 3 := rfl
  have b8 : ((3 : Int) == 8) = false := rfl
  have b3 : ((3 : Int) == 3) = true := rfl
  have loop := stateLoop0 (xs := ps) (L := fun n i (st : Int) => laws_gTwice_l2 N (laws_gTwice N (d + 1)) n (ps, ()) st i) (e := fun _ => False) (fin := fun st => some st)
    (fun i (st : Int) => st = polyS F s 0 (ends.take i) ∧ st.natAbs ≤ (lastE ((0 : Nat) : Int) (ends.take i)).toNat * 4398046511104) (fun n st h => by
      simp only [laws_gTwice_l2, laws_gTwice_g2, laws_gTwice_j3, laws_gTwice_g3, Bool.cond_decide, gate_pos hN0]
      rw [if_neg (by omega)]) (fun n i st h hp => by
      have hi : i < ends.length := by omega
      obtain ⟨c1, c2, c3, c4⟩ := Chain.at hc hi
      have hps : ps[i] = pg lay L ends i := by
        have := h3 i hi
        rw [List.getElem?_eq_getElem h] at this
        simpa using this
      have hgd : ends.getD i 0 = ends[i] := by simp [List.getD_eq_getElem?_getD, List.getElem?_eq_getElem hi]
      obtain ⟨a, ha⟩ := Int.eq_ofNat_of_zero_le c4
      obtain ⟨e, he⟩ := Int.eq_ofNat_of_zero_le (show 0 ≤ ends[i] by omega)
      have hsl := slc_len L (a := a) (e := e) (by omega) (by omega)
      have hd : s ∣ (slc L a e).length := by
        rw [hsl]
        have h1 : (s : Int) ∣ ((e - a : Nat) : Int) := by
          have : ((e - a : Nat) : Int) = ends[i] - lastE 0 (ends.take i) := by omega
          rw [this]; exact c2
        exact Int.natCast_dvd_natCast.1 h1
      have t8 := twice8 hN0 hNl hs hs9 hst (d := d) (flat := slc L a e) (F := fun j => F (a + j)) (fun j hj => by
        rw [slc_get L (by omega) (by omega) hj]
        exact hF (a + j) _) (fun j hj => hB (a + j) (by omega)) (by omega) hd
      rw [hsl, ringS_shift F s a _ s (Nat.le_refl s)] at t8
      have hring : ringS F s (a + s) ((e - a) / s - 1) = ringV F s a e := rfl
      rw [hring] at t8
      have rb : (ringV F s a e).natAbs ≤ (e - a) * 4398046511104 := by
        obtain ⟨_, _, _, r3⟩ := ring1 hN0 hNl hF hB hlen hs hs9 a e (by omega) (by omega) (by rw [hsl] at hd; exact hd)
        exact r3
      have hsn : polyS F s 0 (ends.take (i + 1)) = polyS F s 0 (ends.take i) + ringV F s a e := by
        rw [take_snoc hi, polyS_snoc]
        have : (lastE ((0 : Nat) : Int) (ends.take i)).toNat = a := by
          have : lastE ((0 : Nat) : Int) (ends.take i) = lastE 0 (ends.take i) := rfl
          omega
        rw [this, he]; rfl
      have hla : lastE ((0 : Nat) : Int) (ends.take (i + 1)) = ends[i] := by rw [take_snoc hi, lastE_snoc]
      have hla0 : (lastE ((0 : Nat) : Int) (ends.take i)).toNat = a := by
        have : lastE ((0 : Nat) : Int) (ends.take i) = lastE 0 (ends.take i) := rfl
        omega
      have hbd : (st + ringV F s a e).natAbs ≤ (lastE ((0 : Nat) : Int) (ends.take (i + 1))).toNat * 4398046511104 := by
        rw [hla, he]
        have p2 := hp.2
        rw [hla0] at p2
        have q2 : ((e : Int)).toNat = a + (e - a) := by omega
        rw [q2, Nat.add_mul]
        exact Nat.le_trans (Int.natAbs_add_le _ _) (Nat.add_le_add p2 rb)
      have hbd2 : (lastE ((0 : Nat) : Int) (ends.take (i + 1))).toNat * 4398046511104 ≤ 2000 * 4398046511104 := Nat.mul_le_mul_right _ (by rw [hla]; omega)
      right
      refine ⟨st + ringV F s a e, ?_, ?_, hbd⟩
      · simp only [laws_gTwice_l2, laws_gTwice_g2, Bool.cond_decide]
        rw [if_pos (by omega), chk_nat h]
        simp only [Option.bind_some]
        rw [List.getElem?_eq_getElem h]
        simp only [Option.bind_some]
        have : (Geo.mk ps[i].kind ps[i].layout ps[i].srid ps[i].flat ps[i].ends ps[i].endss ps[i].kids) = Geo.mk 8 lay 0 (slc L a e) [] [] [] := by
          rw [hps]; unfold pg; rw [hgd, he, ha]; rfl
        rw [this, t8]
        simp only [Option.bind_some]
        rw [succ_in h (by omega), wrap_in (n := st + ringV F s a e) (by omega)]
      · rw [hsn, hp.1]) N 0 (by omega) ⟨by simp [polyS], by simp⟩
  rcases loop with h | ⟨st, h, g1, g2⟩
  · exact h.elim
  · rw [h2, List.take_length] at g1 g2
    have hl : lastE ((0 : Nat) : Int) ends = L.length := Chain.last hc
    rw [hl] at g2
    refine ⟨?_, by rw [← g1]; simpa using g2⟩
    rw [show laws_gTwice N (d + 1 + 1) (Geo.mk 3 lay 0 L ends [] []) = laws_gTwice_g N (laws_gTwice N (d + 1)) (Geo.mk 3 lay 0 L ends [] []) (laws_gTwice_l0 N (laws_gTwice N (d + 1)) N) (laws_gTwice_j1 N (laws_gTwice N (d + 1))) from rfl]
    simp only [laws_gTwice_g, laws_gTwice_j1, laws_gTwice_g1, gate_pos hN0, k3, b8, b3, cond_false, cond_true]
    show ((spec_Parts N (Geo.mk 3 lay 0 L ends [] [])).bind _) = _
    rw [h1]
    simp only [Option.bind_some]
    rw [← g1]
    exact h
theorem part6 (L : List Nat) (ls : List (List Int)) (hc : Chain2 s 0 ls L.length) (hlen : L.length ≤ 1999) (hel : ls.length ≤ 9223372036854775806) (hll : ∀ l ∈ ls, l ≠ [] ∧ l.length ≤ 1999) {i : Nat} (hi : i < ls.length) :
    spec_Part N (Geo.mk 6 lay 0 L [] ls []) (i : Int) = some ((3, lay, 0, slc L (lastEE 0 (ls.take i)).toNat (lastEE 0 (ls.take (i + 1))).toNat, ls[i].map (· - lastEE 0 (ls.take i)), [], [], ()), ()) := by
  have k6 : (Geo.mk 6 lay 0 L [] ls []).kind = 6 := rfl
  have kl : (Geo.mk 6 lay 0 L [] ls []).layout = lay := rfl
  have kf : (Geo.mk 6 lay 0 L [] ls []).flat = L := rfl
  have ke : (Geo.mk 6 lay 0 L [] ls []).endss = ls := rfl
  have b1 : ((6 : Int) == 7) = false := rfl
  have b2 : ((6 : Int) == 6) = true := rfl
  obtain ⟨c1, c2, c3⟩ := Chain2.at hc hi
  have hli := hll _ (List.getElem_mem hi)
  have inner := stateLoop0 (xs := ls[i]) (L := fun n j (st : Int × List Int) => spec_Part_l2 N n (lastEE 0 (ls.take i)) ls[i] (Geo.mk 6 lay 0 L [] ls []) st.1 j st.2) (e := fun _ => False)
    (fin := fun st => (chk2 (lastEE 0 (ls.take i)) st.1 L.length).bind fun v19 => (lim ((([] : List Nat).length + ((L.drop v19.1).take (v19.2 - v19.1)).length) * 8)).bind fun _ => some ((3, lay, 0, (([] : List Nat) ++ ((L.drop v19.1).take (v19.2 - v19.1))), st.2, [], [], ()), ()))
    (fun j (st : Int × List Int) => st.1 = lastE (lastEE 0 (ls.take i)) (ls[i].take j) ∧ st.2 = (ls[i].take j).map (· - lastEE 0 (ls.take i)) ∧ st.2.length = j) (fun n st h => by
      simp only [spec_Part_l2, spec_Part_g2, Bool.cond_decide, kf, kl]
      rw [if_neg (by omega)]) (fun n j st h hp => by
      obtain ⟨p1, p2, p3⟩ := hp
      obtain ⟨d1, d2, d3, d4⟩ := Chain.at c1 h
      simp only [spec_Part_l2, spec_Part_g2, Bool.cond_decide]
      rw [if_pos (by omega), nth_get h, succ_in h (by omega)]
      simp only [Option.bind_some]
      rw [lim_le (by rw [p3]; simp; omega), wrap_in (n := ls[i][j] - lastEE 0 (ls.take i)) (by omega)]
      right
      refine ⟨(ls[i][j], st.2 ++ [ls[i][j] - lastEE 0 (ls.take i)]), rfl, ?_, ?_, by simp [p3]⟩
      · rw [take_snoc h, lastE_snoc]
      · rw [take_snoc h, p2, List.map_append]; rfl) N (lastEE 0 (ls.take i), []) (by omega) ⟨rfl, rfl, rfl⟩
  have hx : (ls.drop 0).take (i - 0) = ls.take i := by simp
  have outer := stateLoop0 (xs := ls.take i) (L := fun n j (st : Int) => spec_Part_l0 N n (i : Int) (Geo.mk 6 lay 0 L [] ls []) (0, i) st j) (e := fun _ => False)
    (fin := fun st => spec_Part_l2 N N st ls[i] (Geo.mk 6 lay 0 L [] ls []) st 0 [])
    (fun j (st : Int) => st = lastEE 0 ((ls.take i).take j)) (fun n st h => by
      simp only [spec_Part_l0, spec_Part_g0, Bool.cond_decide, ke, hx]
      rw [if_neg (by omega), nth_get hi]; rfl) (fun n j st h hp => by
      have hne := hll _ (List.mem_of_mem_take (List.getElem_mem h))
      have hpos : 0 < (ls.take i)[j].length := List.length_pos_iff.2 hne.1
      simp only [spec_Part_l0, spec_Part_g0, spec_Part_j1, spec_Part_g1, Bool.cond_decide, ke, hx, gate_pos hN0]
      rw [if_pos (by omega), nth_get h, succ_in h (by rw [List.length_take]; omega)]
      simp only [Option.bind_some]
      rw [if_pos (by omega), last_nth hne.1 (by omega) st]
      simp only [Option.bind_some]
      right
      exact ⟨lastE st (ls.take i)[j], rfl, by rw [take_snoc h, lastEE_snoc, ← hp]⟩) N 0 (by rw [List.length_take]; omega) rfl
  rcases inner with h | ⟨st, h, p1, p2, p3⟩
  · exact h.elim
  rcases outer with h' | ⟨o, h', q⟩
  · exact h'.elim
  rw [List.take_length] at q p1 p2
  have hl := Chain.last c1
  rw [hl] at p1
  have hle := Chain.le c1
  simp only [spec_Part, spec_Part_g, k6, b1, b2, cond_false, cond_true, ke]
  rw [chk2_int (by omega)]
  simp only [Option.bind_some, Int.toNat_natCast]
  show spec_Part_l0 N N (i : Int) (Geo.mk 6 lay 0 L [] ls []) (0, i) 0 0 = _
  rw [h', q, h, p1, chk2_int (by omega)]
  simp only [Option.bind_some]
  rw [lim_le (by simp; omega)]
  simp only [Option.bind_some, List.nil_append, p2]
def pg6 (lay : Int) (L : List Nat) (ls : List (List Int)) (j : Nat) : Geo :=
  Geo.mk 3 lay 0 (slc L (lastEE 0 (ls.take j)).toNat (lastEE 0 (ls.take (j + 1))).toNat) ((ls.getD j []).map (· - lastEE 0 (ls.take j))) [] []
theorem parts6 (L : List Nat) (ls : List (List Int)) (hc : Chain2 s 0 ls L.length) (hlen : L.length ≤ 1999) (hel : ls.length ≤ 2147483647) (hll : ∀ l ∈ ls, l ≠ [] ∧ l.length ≤ 1999) :
    ∃ ps : List Geo, spec_Parts N (Geo.mk 6 lay 0 L [] ls []) = some (ps, ()) ∧ ps.length = ls.length ∧ ∀ j, j < ls.length → ps[j]? = some (pg6 lay L ls j) := by
  have k6 : (Geo.mk 6 lay 0 L [] ls []).kind = 6 := rfl
  have ke : (Geo.mk 6 lay 0 L [] ls []).endss = ls := rfl
  have b3 : ((6 : Int) == 3) = false := rfl
  have b4 : ((6 : Int) == 4) = false := rfl
  have b5 : ((6 : Int) == 5) = false := rfl
  have b6 : ((6 : Int) == 6) = true := rfl
  have loop := stateLoop0 (xs := ls) (L := fun n i (st : List Geo) => spec_Parts_l0 N n (ls.length : Int) (Geo.mk 6 lay 0 L [] ls []) i st) (e := fun _ => False) (fin := fun st => some (st, ()))
    (fun i (st : List Geo) => st.length = i ∧ ∀ j, j < i → st[j]? = some (pg6 lay L ls j)) (fun n st h => by
      simp only [spec_Parts_l0, spec_Parts_g0, Bool.cond_decide]
      rw [if_neg (by omega)]) (fun n i st h hp => by
      right
      refine ⟨st ++ [pg6 lay L ls i], ?_, ?_, ?_⟩
      · simp only [spec_Parts_l0, spec_Parts_g0, Bool.cond_decide]
        rw [if_pos (by omega)]
        show ((spec_Part N (Geo.mk 6 lay 0 L [] ls []) (i : Int)).bind _) = _
        rw [part6 hN0 hNl hs hs9 hst L ls hc hlen (by omega) hll h]
        simp only [Option.bind_some]
        rw [lim_le (by simp; omega), succ_in h (by omega)]
        simp only [Option.bind_some]
        have : ls.getD i [] = ls[i] := by simp [List.getD_eq_getElem?_getD, List.getElem?_eq_getElem h]
        unfold pg6
        rw [this]
      · simp [hp.1]
      · intro j hj
        rcases Nat.lt_or_ge j i with h1 | h1
        · rw [List.getElem?_append_left (by omega)]; exact hp.2 j h1
        · have : j = st.length := by omega
          subst this
          rw [List.getElem?_append_right (by omega), Nat.sub_self, hp.1]; rfl) N [] (by omega) ⟨rfl, fun j hj => by omega⟩
  rcases loop with h | ⟨ps, h, h1, h2⟩
  · exact h.elim
  · refine ⟨ps, ?_, h1, h2⟩
    unfold spec_Parts spec_Parts_g
    show ((spec_NumParts N (Geo.mk 6 lay 0 L [] ls [])).bind _) = _
    simp only [spec_NumParts, spec_NumParts_g, spec_NumParts_j0, spec_NumParts_g0, gate_pos hN0, k6, ke, b3, b4, b5, b6, cond_true, cond_false, Option.bind_some]
    exact h
theorem twice6 {d : Nat} {L : List Nat} {F : Nat → Int} (hF : ∀ (i : Nat) (h : i < L.length), Wh L[i] (F i)) (hB : ∀ i, i < L.length → (F i).natAbs ≤ 1048576) (ls : List (List Int)) (hc : Chain2 s 0 ls L.length) (hlen : L.length ≤ 1999) (hel : ls.length ≤ 2147483647) (hll : ∀ l ∈ ls, l ≠ [] ∧ l.length ≤ 1999) :
    laws_gTwice N (d + 1 + 1 + 1) (Geo.mk 6 lay 0 L [] ls []) = some (multiS F s 0 ls) := by
  obtain ⟨ps, h1, h2, h3⟩ := parts6 hN0 hNl hs hs9 hst L ls hc hlen hel hll
  have k6 : (Geo.mk 6 lay 0 L [] ls []).kind = 6 := rfl
  have b8 : ((6 : Int) == 8) = false := rfl
  have b3 : ((6 : Int) == 3) = false := rfl
  have b6 : ((6 : Int) == 6) = true := rfl
  have loop := stateLoop0 (xs := ps) (L := fun n i (st : Int) => laws_gTwice_l2 N (laws_gTwice N (d + 1 + 1)) n (ps, ()) st i) (e := fun _ => False) (fin := fun st => some st)
    (fun i (st : Int) => st = multiS F s 0 (ls.take i) ∧ st.natAbs ≤ (lastEE ((0 : Nat) : Int) (ls.take i)).toNat * 4398046511104 ∧ ∀ j, j ≤ i → 0 ≤ lastEE ((0 : Nat) : Int) (ls.take j)) (fun n st h => by
      simp only [laws_gTwice_l2, laws_gTwice_g2, laws_gTwice_j3, laws_gTwice_g3, Bool.cond_decide, gate_pos hN0]
      rw [if_neg (by omega)]) (fun n i st h hp => by
      have hi : i < ls.length := by omega
      obtain ⟨p1, p2, p3⟩ := hp
      obtain ⟨c1, c2, c3⟩ := Chain2.at hc hi
      have hle := Chain.le c1
      have hli := hll _ (List.getElem_mem hi)
      have hps : ps[i] = pg6 lay L ls i := by
        have := h3 i hi
        rw [List.getElem?_eq_getElem h] at this
        simpa using this
      have hgd : ls.getD i [] = ls[i] := by simp [List.getD_eq_getElem?_getD, List.getElem?_eq_getElem hi]
      obtain ⟨o, ho⟩ := Int.eq_ofNat_of_zero_le c3
      obtain ⟨b, hb⟩ := Int.eq_ofNat_of_zero_le (show 0 ≤ lastEE 0 (ls.take (i + 1)) by omega)
      have hsl := slc_len L (a := o) (e := b) (by omega) (by omega)
      have hrel : Chain (s : Int) 0 (ls[i].map (· - (o : Int))) ((slc L o b).length : Int) := by
        have := Chain.rel (lastEE 0 (ls.take i)) c1
        rw [Int.sub_self, ho, hb] at this
        rw [hsl, show ((b - o : Nat) : Int) = (b : Int) - (o : Int) by omega]
        exact this
      have t3 := twice3 hN0 hNl hs hs9 hst (d := d) (L := slc L o b) (F := fun j => F (o + j)) (fun j hj => by
        rw [slc_get L (by omega) (by omega) hj]
        exact hF (o + j) _) (fun j hj => hB (o + j) (by omega)) (ls[i].map (· - (o : Int))) hrel (by omega) (by rw [List.length_map]; exact hli.2)
      have hpr : polyS (fun j => F (o + j)) s 0 (ls[i].map (· - (o : Int))) = polyS F s o ls[i] := by
        have := polyS_rel F s o (S := (s : Int)) ls[i] 0 _ (by
          have e : (o : Int) + ((0 : Nat) : Int) = lastEE 0 (ls.take i) := by omega
          rw [e]; exact c1)
        rw [this]; rfl
      rw [hpr, hsl] at t3
      have z0 : ∀ l, lastEE ((0 : Nat) : Int) l = lastEE 0 l := fun l => rfl
      have hsn : multiS F s 0 (ls.take (i + 1)) = multiS F s 0 (ls.take i) + polyS F s o ls[i] := by
        rw [take_snoc hi, multiS_snoc F s _ _ _ (fun j hj => by
          rw [List.length_take] at hj
          rw [List.take_take, show min j i = j by omega]
          exact p3 j (by omega)), z0, ho]; rfl
      have hbd : (st + polyS F s o ls[i]).natAbs ≤ (lastEE ((0 : Nat) : Int) (ls.take (i + 1))).toNat * 4398046511104 := by
        rw [z0, hb]
        rw [z0, ho] at p2
        have q2 : ((b : Int)).toNat = (o : Int).toNat + (b - o) := by omega
        rw [q2, Nat.add_mul]
        exact Nat.le_trans (Int.natAbs_add_le _ _) (Nat.add_le_add p2 t3.2)
      have hbd2 : (lastEE ((0 : Nat) : Int) (ls.take (i + 1))).toNat * 4398046511104 ≤ 2000 * 4398046511104 := Nat.mul_le_mul_right _ (by rw [z0]; omega)
      right
      refine ⟨st + polyS F s o ls[i], ?_, ?_, hbd, fun j hj => ?_⟩
      · simp only [laws_gTwice_l2, laws_gTwice_g2, Bool.cond_decide]
        rw [if_pos (by omega), chk_nat h]
        simp only [Option.bind_some]
        rw [List.getElem?_eq_getElem h]
        simp only [Option.bind_some]
        have : (Geo.mk ps[i].kind ps[i].layout ps[i].srid ps[i].flat ps[i].ends ps[i].endss ps[i].kids) = Geo.mk 3 lay 0 (slc L o b) (ls[i].map (· - (o : Int))) [] [] := by
          rw [hps]; unfold pg6; rw [hgd, ho, hb]; rfl
        rw [this, t3.1]
        simp only [Option.bind_some]
        rw [succ_in h (by omega), wrap_in (n := st + polyS F s o ls[i]) (by omega)]
      · rw [hsn, p1]
      · rcases Nat.lt_or_ge j (i + 1) with hj' | hj'
        · exact p3 j (by omega)
        · have : j = i + 1 := by omega
          subst this; rw [z0]; omega) N 0 (by omega) ⟨by simp [multiS], by simp, fun j hj => by
          have : j = 0 := by omega
          subst this; simp [lastEE]⟩
  rcases loop with h | ⟨st, h, g1, _⟩
  · exact h.elim
  · rw [h2, List.take_length] at g1
    rw [show laws_gTwice N (d + 1 + 1 + 1) (Geo.mk 6 lay 0 L [] ls []) = laws_gTwice_g N (laws_gTwice N (d + 1 + 1)) (Geo.mk 6 lay 0 L [] ls []) (laws_gTwice_l0 N (laws_gTwice N (d + 1 + 1)) N) (laws_gTwice_j1 N (laws_gTwice N (d + 1 + 1))) from rfl]
    simp only [laws_gTwice_g, laws_gTwice_j1, laws_gTwice_g1, gate_pos hN0, k6, b8, b3, b6, cond_false, cond_true]
    show ((spec_Parts N (Geo.mk 6 lay 0 L [] ls [])).bind _) = _
    rw [h1]
    simp only [Option.bind_some]
    rw [← g1]
    exact h
end
end Go.Proofs.Ytgipjhgnnppjgaa.PvTwiceFA
