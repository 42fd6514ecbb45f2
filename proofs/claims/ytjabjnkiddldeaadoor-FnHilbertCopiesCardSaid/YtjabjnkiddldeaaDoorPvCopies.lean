/- The law of HilbertCopies: within each cube of half the side a Hilbert curve is the one whose order is less by 1, turned as at the order 2. -/
import Derived.Test.YtjabjnkiddldeaaDoorHC
import Derived.Test.YtjabjnkiddldeaaDoorPvHilC
import Derived.Test.YtjabjnkiddldeaaDoorPvHilW
import Derived.Test.YtjabjnkiddldeaaDoorPv3
set_option linter.unusedVariables false
set_option linter.unusedSectionVars false
set_option linter.unusedSimpArgs false
namespace Go.Proofs.YtjabjnkiddldeaaDoor.PvCopies
open Go.Av Go Go.Av.Hil
open Go.Proofs.YtjabjnkiddldeaaDoor.HC
open Go.Proofs.YtjabjnkiddldeaaDoor.PvHilC (Ln T2 T3 T4 pow_le p62 addn div_next coord2 coord3 coord4 new2 new3 new4 curved_lt curved_def)
/-- A turn. -/
abbrev TD := List Int × (List Bool × Unit)
def T : Nat → Nat → List O
  | 2 => T2
  | 3 => T3
  | _ => T4
/-! ### turns of a cube -/
def spO : O → Nat → Nat × Bool
  | .sw i j, k => if k = j then (i, false) else if k = i then (j, false) else (k, false)
  | .fl i j, k => if k = j then (i, true) else if k = i then (j, true) else (k, false)
  | .iv i j, k => if k = j then (j, true) else if k = i then (i, true) else (k, false)
def sp : List O → Nat → Nat × Bool
  | [], k => (k, false)
  | o :: l, k => ((spO o (sp l k).1).1, (spO o (sp l k).1).2 != (sp l k).2)
def ev (M : Nat) (q : Nat × Bool) (f : Nat → Nat) : Nat := bif q.2 then f q.1 ^^^ M else f q.1
theorem actO_sp (M : Nat) (o : O) (f : Nat → Nat) (k : Nat) : actO M o f k = ev M (spO o k) f := by
  cases o <;> simp only [actO, spO] <;> (repeat' split) <;> rfl
theorem act_sp (M : Nat) : ∀ (l : List O) (f : Nat → Nat) (k : Nat), act M l f k = ev M (sp l k) f
  | [], f, k => rfl
  | o :: l, f, k => by
    simp only [act]
    rw [act_sp M l]
    simp only [sp]
    generalize sp l k = q
    obtain ⟨j, b⟩ := q
    cases b with
    | false =>
      simp only [ev, cond_false, Bool.bne_false]
      rw [actO_sp]; rfl
    | true =>
      simp only [ev, cond_true, Bool.bne_true]
      rw [actO_sp]
      cases h : (spO o j).2 <;> simp [ev, h, xx]
theorem xor_ones {n a : Nat} (h : a < 2 ^ n) : a ^^^ (2 ^ n - 1) = 2 ^ n - 1 - a := by
  apply Nat.eq_of_testBit_eq
  intro i
  have e : 2 ^ n - 1 - a = 2 ^ n - (a + 1) := by omega
  rw [e, Nat.testBit_two_pow_sub_succ h, Nat.testBit_xor, Nat.testBit_two_pow_sub_one]
  by_cases hi : i < n
  · simp [hi]
  · have : a.testBit i = false := Nat.testBit_lt_two_pow (Nat.lt_of_lt_of_le h (pow_le (by omega)))
    simp [hi, this]
/-! ### the curve's digits -/
theorem C_congr {d : Nat} {T : Nat → List O} {p q : Nat} : ∀ (n : Nat), (∀ m, m < n → dig d p m = dig d q m) → C d T p n = C d T q n
  | 0, _ => rfl
  | n + 1, h => by
    funext k
    simp only [C]
    rw [h n (by omega), C_congr n fun m hm => h m (by omega)]
theorem dig_mod {d p n m : Nat} (h : m < n) : dig d (p % 2 ^ (d * n)) m = dig d p m := by
  unfold dig
  obtain ⟨k, rfl⟩ : ∃ k, n = m + 1 + k := ⟨n - m - 1, by omega⟩
  have e : 2 ^ (d * (m + 1 + k)) = 2 ^ (d * m) * (2 ^ d * 2 ^ (d * k)) := by
    rw [← Nat.pow_add, ← Nat.pow_add]
    congr 1
    simp [Nat.mul_add, Nat.add_assoc]
  rw [e, Nat.mod_mul_right_div_self, Nat.mod_mul_right_mod]
theorem C1 {d : Nat} {T : Nat → List O} {p : Nat} (k : Nat) : C d T p 1 k = gr (dig d p 0) k := by
  show act (2 ^ 0 - 1) (T (dig d p 0)).reverse (C d T p 0) k + gr (dig d p 0) k * 2 ^ 0 = _
  have := act_lt (n := 0) (T (dig d p 0)).reverse (C_lt d T p 0) k
  omega
theorem dig_hi {d e i : Nat} (he : e < 2 ^ d) (hi : i < 2 ^ d) : dig d (e * 2 ^ d + i) 1 = e ∧ dig d (e * 2 ^ d + i) 0 = i := by
  unfold dig
  constructor
  · rw [Nat.mul_one, Nat.add_comm, Nat.add_mul_div_right _ _ (Nat.two_pow_pos d), Nat.div_eq_of_lt hi, Nat.zero_add, Nat.mod_eq_of_lt he]
  · rw [Nat.mul_zero, Nat.pow_zero, Nat.div_one, Nat.add_comm, Nat.add_mul_mod_self_right, Nat.mod_eq_of_lt hi]
theorem C2_mod {d e i : Nat} (T : Nat → List O) (he : e < 2 ^ d) (hi : i < 2 ^ d) (k : Nat) : C d T (e * 2 ^ d + i) 2 k % 2 = act 1 (T e).reverse (gr i) k := by
  have := C_mod d T (e * 2 ^ d + i) 1 k
  rw [(dig_hi he hi).1] at this
  rw [show (2 : Nat) = 1 + 1 from rfl]
  rw [show (2 ^ 1 - 1) = 1 from rfl, show 2 ^ 1 = 2 from rfl] at this
  rw [this]
  congr 1
  funext k
  rw [C1, (dig_hi he hi).2]
/-! ### lists -/
theorem take_set {α : Type} : ∀ (l : List α) (i : Nat) (x : α), i < l.length → (l.set i x).take (i + 1) = l.take i ++ [x]
  | [], i, x, h => by simp at h
  | a :: l, 0, x, h => by simp
  | a :: l, i + 1, x, h => by simp only [List.set_cons_succ, List.take_succ_cons, List.cons_append]; rw [take_set l i x (by simpa using h)]
variable {N : Nat} (hN : 2000 ≤ N)
include hN
theorem low_loop {s : Int} (hs : s ≠ 0) {l : List Int} (hl : l.length ≤ 100) : ∀ (c i n : Nat) (acc : List Int), i + c = l.length → acc.length ≤ i → c + 1 ≤ n →
    laws_FnHilbertCopies_1_l0 N n s l (i : Int) acc = some (acc ++ (l.drop i).map (fun x => Int.tmod x s), ())
  | 0, i, n, acc, hi, ha, hn => by
    obtain ⟨n, rfl⟩ : ∃ m, n = m + 1 := ⟨n - 1, by omega⟩
    simp only [laws_FnHilbertCopies_1_l0, laws_FnHilbertCopies_1_g0, Bool.cond_decide]
    rw [if_neg (by omega), List.drop_eq_nil_of_le (by omega)]
    simp
  | c + 1, i, n, acc, hi, ha, hn => by
    obtain ⟨n, rfl⟩ : ∃ m, n = m + 1 := ⟨n - 1, by omega⟩
    have hlt : i < l.length := by omega
    simp only [laws_FnHilbertCopies_1_l0, laws_FnHilbertCopies_1_g0, Bool.cond_decide]
    rw [if_pos (by omega), nth_nat, List.getElem?_eq_getElem hlt]
    simp only [Option.bind_some]
    rw [if_neg hs, lim_le (by simp; omega)]
    simp only [Option.bind_some]
    rw [wrap_in (n := (i : Int) + 1) (by omega), show (i : Int) + 1 = ((i + 1 : Nat) : Int) by omega, low_loop hs hl c (i + 1) n _ (by omega) (by simp; omega) (by omega)]
    rw [List.drop_eq_getElem_cons hlt, List.map_cons, List.append_assoc]
    rfl
theorem low_eq {s : Int} (hs : s ≠ 0) {l : List Int} (hl : l.length ≤ 100) : laws_FnHilbertCopies_1 N l s = some (l.map (fun x => Int.tmod x s), ()) := by
  have := low_loop hN hs hl l.length 0 N [] (by omega) (by simp) (by omega)
  unfold laws_FnHilbertCopies_1 laws_FnHilbertCopies_1_g
  simpa using this
theorem same_loop {a b : List Int} (hl : a.length = b.length) (ha : a.length ≤ 100) : ∀ (c i n : Nat), i + c = a.length → c + 1 ≤ n →
    spec_SameInts_l0 N n b a (i : Int) = some (decide (a.drop i = b.drop i))
  | 0, i, n, hi, hn => by
    obtain ⟨n, rfl⟩ : ∃ m, n = m + 1 := ⟨n - 1, by omega⟩
    simp only [spec_SameInts_l0, spec_SameInts_g0, Bool.cond_decide]
    rw [if_neg (by omega), List.drop_eq_nil_of_le (by omega), List.drop_eq_nil_of_le (by omega)]
    simp
  | c + 1, i, n, hi, hn => by
    obtain ⟨n, rfl⟩ : ∃ m, n = m + 1 := ⟨n - 1, by omega⟩
    have hlt : i < a.length := by omega
    have hlb : i < b.length := by omega
    simp only [spec_SameInts_l0, spec_SameInts_g0, Bool.cond_decide]
    rw [if_pos (by omega), nth_nat, nth_nat, List.getElem?_eq_getElem hlt, List.getElem?_eq_getElem hlb]
    simp only [Option.bind_some]
    rw [wrap_in (n := (i : Int) + 1) (by omega), show (i : Int) + 1 = ((i + 1 : Nat) : Int) by omega, same_loop hl ha c (i + 1) n (by omega) (by omega)]
    rw [List.drop_eq_getElem_cons hlt, List.drop_eq_getElem_cons hlb]
    by_cases h : a[i] = b[i]
    · rw [h, bne_self_eq_false, cond_false]
      congr 1
      simp only [List.cons.injEq, true_and]
    · have : (a[i] != b[i]) = true := by simpa using h
      rw [this, cond_true]
      congr 1
      exact (decide_eq_false fun e => h (List.cons.inj e).1).symm
theorem same_eq {a b : List Int} (hl : a.length = b.length) (ha : a.length ≤ 100) : spec_SameInts N a b = some (decide (a = b)) := by
  unfold spec_SameInts spec_SameInts_g
  rw [hl, bne_self_eq_false, cond_false]
  have := same_loop hN hl ha a.length 0 N (by omega) (by omega)
  simpa using this
/-- A turn, done. -/
def val (t : TD) (v : List Int) (s : Int) (k : Nat) : Int :=
  bif t.2.1.getD k false then IntKind.i64.wrap (IntKind.i64.wrap (s - 1) - v.getD (t.1.getD k 0).toNat 0) else v.getD (t.1.getD k 0).toNat 0
def ofP (t : TD) (v : List Int) (s : Int) : List Int := (List.range t.1.length).map (val t v s)
def good (d : Nat) (t : TD) : Bool := Nat.beq t.1.length d && Nat.beq t.2.1.length d && t.1.all fun x => decide (0 ≤ x) && decide (x < (d : Int))
theorem of_loop {t : TD} {v : List Int} {s : Int} (ht : good v.length t = true) (hl : v.length ≤ 100) : ∀ (c i n : Nat) (out : List Int), i + c = v.length → out.length = v.length → c + 1 ≤ n →
    spec_Turned_Of_l0 N n v s t (i : Int) out = some (out.take i ++ (ofP t v s).drop i, ())
  | 0, i, n, out, hi, ho, hn => by
    simp only [good, Bool.and_eq_true] at ht
    have h1 := Nat.eq_of_beq_eq_true ht.1.1
    obtain ⟨n, rfl⟩ : ∃ m, n = m + 1 := ⟨n - 1, by omega⟩
    simp only [spec_Turned_Of_l0, spec_Turned_Of_g0, Bool.cond_decide]
    rw [if_neg (by omega), List.take_of_length_le (by omega), List.drop_eq_nil_of_le (by simp [ofP]; omega), List.append_nil]
  | c + 1, i, n, out, hi, ho, hn => by
    have ht' := ht
    simp only [good, Bool.and_eq_true] at ht
    have h1 := Nat.eq_of_beq_eq_true ht.1.1
    have h2 := Nat.eq_of_beq_eq_true ht.1.2
    obtain ⟨n, rfl⟩ : ∃ m, n = m + 1 := ⟨n - 1, by omega⟩
    have hlt : i < t.1.length := by omega
    have hlb : i < t.2.1.length := by omega
    have h3 := List.all_eq_true.1 ht.2 t.1[i] (List.getElem_mem hlt)
    simp only [Bool.and_eq_true, decide_eq_true_eq] at h3
    have hfi : t.1[i].toNat < v.length := by omega
    have key : ∀ x, x = val t v s i → spec_Turned_Of_l0 N n v s t ((i + 1 : Nat) : Int) (out.set i x) = some (out.take i ++ (ofP t v s).drop i, ()) := by
      intro x hx
      rw [of_loop ht' hl c (i + 1) n _ (by omega) (by simpa using ho) (by omega)]
      have e2 : (ofP t v s).drop i = x :: (ofP t v s).drop (i + 1) := by
        rw [List.drop_eq_getElem_cons (by simp [ofP]; omega)]
        simp [ofP, hx]
      rw [e2, take_set out i x (by omega)]
      simp
    simp only [spec_Turned_Of_l0, spec_Turned_Of_g0, Bool.cond_decide]
    rw [if_pos (by omega), nth_nat, List.getElem?_eq_getElem hlt]
    simp only [Option.bind_some]
    rw [nth_lit v t.1[i].toNat (by omega), List.getElem?_eq_getElem hfi]
    simp only [Option.bind_some]
    rw [chk_nat (by omega)]
    simp only [Option.bind_some]
    rw [nth_nat, List.getElem?_eq_getElem hlb]
    simp only [Option.bind_some]
    have eb : t.2.1.getD i false = t.2.1[i] := by rw [List.getD_eq_getElem?_getD, List.getElem?_eq_getElem hlb]; rfl
    have ef : t.1.getD i 0 = t.1[i] := by rw [List.getD_eq_getElem?_getD, List.getElem?_eq_getElem hlt]; rfl
    have ev' : v.getD t.1[i].toNat 0 = v[t.1[i].toNat] := by rw [List.getD_eq_getElem?_getD, List.getElem?_eq_getElem hfi]; rfl
    have ew : IntKind.i64.wrap ((i : Int) + 1) = ((i + 1 : Nat) : Int) := by rw [wrap_in (by omega)]; omega
    cases hb : t.2.1[i] with
    | false =>
      simp only [cond_false, spec_Turned_Of_j1, spec_Turned_Of_g1]
      rw [gate_pos (by omega), ew]
      exact key _ (by unfold val; rw [eb, hb, ef, ev']; rfl)
    | true =>
      simp only [cond_true]
      rw [chk_nat (by simpa using (by omega : i < out.length))]
      simp only [Option.bind_some, spec_Turned_Of_j1, spec_Turned_Of_g1]
      rw [gate_pos (by omega), ew, List.set_set]
      exact key _ (by unfold val; rw [eb, hb, ef, ev']; rfl)
theorem of_eq {t : TD} {v : List Int} {s : Int} (ht : good v.length t = true) (hl : v.length ≤ 100) : spec_Turned_Of N t v s = some (ofP t v s, ()) := by
  unfold spec_Turned_Of spec_Turned_Of_g
  have e : mkn (v.length : Int) (v.length : Int) 8 = some v.length := by unfold mkn; rw [if_pos (by omega)]; simp
  rw [e]
  simp only [Option.bind_some]
  have := of_loop hN ht hl v.length 0 N (List.replicate v.length 0) (s := s) (by omega) (by simp) (by omega)
  simpa using this
theorem has_loop {x : Int} {l : List Int} (hl : l.length ≤ 100) : ∀ (c i n : Nat), i + c = l.length → c + 1 ≤ n → spec_hasInt_l0 N n x l (i : Int) = some (decide (x ∈ l.drop i))
  | 0, i, n, hi, hn => by
    obtain ⟨n, rfl⟩ : ∃ m, n = m + 1 := ⟨n - 1, by omega⟩
    simp only [spec_hasInt_l0, spec_hasInt_g0, Bool.cond_decide]
    rw [if_neg (by omega), List.drop_eq_nil_of_le (by omega)]
    simp
  | c + 1, i, n, hi, hn => by
    obtain ⟨n, rfl⟩ : ∃ m, n = m + 1 := ⟨n - 1, by omega⟩
    have hlt : i < l.length := by omega
    simp only [spec_hasInt_l0, spec_hasInt_g0, Bool.cond_decide]
    rw [if_pos (by omega), nth_nat, List.getElem?_eq_getElem hlt]
    simp only [Option.bind_some]
    rw [wrap_in (n := (i : Int) + 1) (by omega), show (i : Int) + 1 = ((i + 1 : Nat) : Int) by omega, has_loop hl c (i + 1) n (by omega) (by omega)]
    rw [List.drop_eq_getElem_cons hlt]
    by_cases h : l[i] = x
    · rw [h, beq_self_eq_true, cond_true]
      congr 1
      exact (decide_eq_true (List.mem_cons_self)).symm
    · have : (l[i] == x) = false := by simpa using h
      rw [this, cond_false]
      congr 1
      rw [decide_eq_decide, List.mem_cons]
      exact ⟨.inr, fun e => e.resolve_left (fun e => h e.symm)⟩
theorem has_eq {x : Int} {l : List Int} (hl : l.length ≤ 100) : spec_hasInt N l x = some (decide (x ∈ l)) := by
  have := has_loop hN (x := x) hl l.length 0 N (by omega) (by omega)
  unfold spec_hasInt spec_hasInt_g
  simpa using this
/-! ### all turns -/
omit hN
def addA (t : TD) (a : Nat) : List TD := if (a : Int) ∈ t.1 then [] else [(t.1 ++ [(a : Int)], t.2.1 ++ [false], ()), (t.1 ++ [(a : Int)], t.2.1 ++ [true], ())]
def addT (d : Nat) (t : TD) : List TD := (List.range d).flatMap (addA t)
def TTn (d : Nat) : Nat → List TD
  | 0 => [([], [], ())]
  | n + 1 => (TTn d n).flatMap (addT d)
theorem flat_len {α β : Type} {f : α → List β} {m : Nat} (h : ∀ a, (f a).length ≤ m) : ∀ l : List α, (l.flatMap f).length ≤ m * l.length
  | [] => by simp
  | a :: l => by
    have h1 := h a
    have h2 := flat_len h l
    rw [List.flatMap_cons, List.length_append, List.length_cons, Nat.mul_succ]
    omega
theorem addA_len (t : TD) (a : Nat) : (addA t a).length ≤ 2 := by unfold addA; split <;> simp
theorem addT_len {d : Nat} (t : TD) : (addT d t).length ≤ 2 * d := by
  have := flat_len (addA_len t) (List.range d)
  rwa [List.length_range] at this
include hN
theorem l3_step {r2 r1 r0 : Int → List TD → Option (List TD × Unit)} {v1 v56 v84 : Int} {v57 : List TD} {f : List Int} {b : List Bool} {a : Int} {acc : List TD} (hf : f.length ≤ 10) (hb : b.length ≤ 10) (ha : acc.length ≤ 100000) {bv : Bool} {k : Nat} (hk : k = 0 ∧ bv = false ∨ k = 1 ∧ bv = true) (n : Nat) :
    spec_AllTurned_l3 N r2 r1 r0 v1 v56 v57 v84 (f, b, ()) (n + 1) a (k : Int) acc = spec_AllTurned_l3 N r2 r1 r0 v1 v56 v57 v84 (f, b, ()) n a ((k + 1 : Nat) : Int) (acc ++ [(f ++ [a], b ++ [bv], ())]) := by
  have e1 : chk (k : Int) ([false, true] : List Bool).length = some k := chk_nat (by simp; omega)
  have e2 : ([false, true] : List Bool)[k]? = some bv := by rcases hk with ⟨rfl, rfl⟩ | ⟨rfl, rfl⟩ <;> rfl
  have e3 : (f.drop (0 : Int).toNat).take ((f.length : Int).toNat - (0 : Int).toNat) = f := by simp
  have e4 : (b.drop (0 : Int).toNat).take ((b.length : Int).toNat - (0 : Int).toNat) = b := by simp
  simp only [spec_AllTurned_l3, spec_AllTurned_g3, Bool.cond_decide]
  rw [if_pos (by simp; omega), e1]
  simp only [Option.bind_some]
  rw [e2]
  simp only [Option.bind_some]
  rw [if_pos trivial, chk2_int (by omega)]
  simp only [Option.bind_some]
  rw [show Nat.ble 1 ([a] : List Int).length = true from rfl, cond_true, e3, lim_le (by simp; omega)]
  simp only [Option.bind_some]
  rw [if_pos trivial, chk2_int (by omega)]
  simp only [Option.bind_some]
  rw [show Nat.ble 1 ([bv] : List Bool).length = true from rfl, cond_true, e4, lim_le (by simp; omega)]
  simp only [Option.bind_some]
  rw [lim_le (by simp; omega)]
  simp only [Option.bind_some]
  rw [wrap_in (n := (k : Int) + 1) (by omega), show (k : Int) + 1 = ((k + 1 : Nat) : Int) by omega]
theorem l3_all {r2 r1 r0 : Int → List TD → Option (List TD × Unit)} {v1 v56 v84 : Int} {v57 : List TD} {t : TD} {a : Int} {acc : List TD} (hf : t.1.length ≤ 10) (hb : t.2.1.length ≤ 10) (ha : acc.length ≤ 90000) :
    spec_AllTurned_l3 N r2 r1 r0 v1 v56 v57 v84 t N a 0 acc = r2 (IntKind.i64.wrap (a + 1)) (acc ++ [(t.1 ++ [a], t.2.1 ++ [false], ()), (t.1 ++ [a], t.2.1 ++ [true], ())]) := by
  obtain ⟨f, b, _⟩ := t
  obtain ⟨M, hM⟩ : ∃ M, N = M + 3 := ⟨N - 3, by omega⟩
  have s1 := l3_step hN (r2 := r2) (r1 := r1) (r0 := r0) (v1 := v1) (v56 := v56) (v84 := v84) (v57 := v57) (a := a) (acc := acc) hf hb (by omega) (bv := false) (k := 0) (.inl ⟨rfl, rfl⟩) (M + 2)
  have s2 := l3_step hN (r2 := r2) (r1 := r1) (r0 := r0) (v1 := v1) (v56 := v56) (v84 := v84) (v57 := v57) (a := a) (acc := acc ++ [(f ++ [a], b ++ [false], ())]) hf hb (by simp; omega) (bv := true) (k := 1) (.inr ⟨rfl, rfl⟩) (M + 1)
  have e : spec_AllTurned_l3 N r2 r1 r0 v1 v56 v57 v84 (f, b, ()) N a 0 acc = spec_AllTurned_l3 N r2 r1 r0 v1 v56 v57 v84 (f, b, ()) (M + 3) a 0 acc := by rw [← hM]
  rw [e]
  refine (s1.trans s2).trans ?_
  simp only [spec_AllTurned_l3, spec_AllTurned_g3, Bool.cond_decide]
  rw [if_neg (by simp)]
  simp
theorem l2_all {r1 r0 : Int → List TD → Option (List TD × Unit)} {d : Nat} {v56 v84 : Int} {v57 : List TD} {t : TD} (hd : d ≤ 4) (hf : t.1.length ≤ 10) (hb : t.2.1.length ≤ 10) : ∀ (c a n : Nat) (acc : List TD), a + c = d → c + 1 ≤ n → acc.length + 2 * c ≤ 80000 →
    spec_AllTurned_l2 N r1 r0 (d : Int) v56 v57 n v84 t (a : Int) acc = r1 (IntKind.i64.wrap (v84 + 1)) (acc ++ (List.range' a c).flatMap (addA t))
  | 0, a, n, acc, hi, hn, ha => by
    obtain ⟨n, rfl⟩ : ∃ m, n = m + 1 := ⟨n - 1, by omega⟩
    simp only [spec_AllTurned_l2, spec_AllTurned_g2, Bool.cond_decide]
    rw [if_neg (by omega)]
    simp
  | c + 1, a, n, acc, hi, hn, ha => by
    obtain ⟨n, rfl⟩ : ∃ m, n = m + 1 := ⟨n - 1, by omega⟩
    have ew : IntKind.i64.wrap ((a : Int) + 1) = ((a + 1 : Nat) : Int) := by rw [wrap_in (by omega)]; omega
    simp only [spec_AllTurned_l2, spec_AllTurned_g2, Bool.cond_decide]
    rw [if_pos (by omega), has_eq hN (by omega)]
    simp only [Option.bind_some]
    rw [List.range'_succ, List.flatMap_cons]
    by_cases h : (a : Int) ∈ t.1
    · rw [decide_eq_true h, cond_true, ew, l2_all hd hf hb c (a + 1) n acc (by omega) (by omega) (by omega)]
      have : addA t a = [] := by unfold addA; rw [if_pos h]
      rw [this, List.nil_append]
    · rw [decide_eq_false h, cond_false, l3_all hN hf hb (by omega), ew, l2_all hd hf hb c (a + 1) n _ (by omega) (by omega) (by simp; omega)]
      have : addA t a = [(t.1 ++ [(a : Int)], t.2.1 ++ [false], ()), (t.1 ++ [(a : Int)], t.2.1 ++ [true], ())] := by unfold addA; rw [if_neg h]
      rw [this, List.append_assoc]
theorem l1_all {r0 : Int → List TD → Option (List TD × Unit)} {d : Nat} {v56 : Int} {out : List TD} (hd : d ≤ 4) (ho : out.length ≤ 1000) (hx : ∀ t ∈ out, t.1.length ≤ 10 ∧ t.2.1.length ≤ 10) : ∀ (c i n : Nat) (acc : List TD), i + c = out.length → c + 1 ≤ n → acc.length + 8 * c ≤ 70000 →
    spec_AllTurned_l1 N r0 (d : Int) n v56 out (i : Int) acc = r0 (IntKind.i64.wrap (v56 + 1)) (acc ++ (out.drop i).flatMap (addT d))
  | 0, i, n, acc, hi, hn, ha => by
    obtain ⟨n, rfl⟩ : ∃ m, n = m + 1 := ⟨n - 1, by omega⟩
    simp only [spec_AllTurned_l1, spec_AllTurned_g1, Bool.cond_decide]
    rw [if_neg (by omega), List.drop_eq_nil_of_le (by omega)]
    simp
  | c + 1, i, n, acc, hi, hn, ha => by
    obtain ⟨n, rfl⟩ : ∃ m, n = m + 1 := ⟨n - 1, by omega⟩
    have hlt : i < out.length := by omega
    have ew : IntKind.i64.wrap ((i : Int) + 1) = ((i + 1 : Nat) : Int) := by rw [wrap_in (by omega)]; omega
    obtain ⟨h1, h2⟩ := hx _ (List.getElem_mem hlt)
    have hl := addT_len (d := d) out[i]
    simp only [spec_AllTurned_l1, spec_AllTurned_g1, Bool.cond_decide]
    rw [if_pos (by omega), chk_nat hlt]
    simp only [Option.bind_some]
    rw [List.getElem?_eq_getElem hlt]
    simp only [Option.bind_some]
    have hl2 := l2_all hN (r1 := spec_AllTurned_l1 N r0 (d : Int) n v56 out) (r0 := r0) (v56 := v56) (v84 := (i : Int)) (v57 := out) (t := out[i]) hd h1 h2 d 0 N acc (by omega) (by omega) (by omega)
    rw [show (0 : Int) = ((0 : Nat) : Int) from rfl, hl2, ew]
    have e : (List.range' 0 d).flatMap (addA out[i]) = addT d out[i] := by unfold addT; rw [List.range_eq_range']
    rw [e, l1_all hd ho hx c (i + 1) n _ (by omega) (by omega) (by rw [List.length_append]; omega), List.drop_eq_getElem_cons hlt, List.flatMap_cons, List.append_assoc]
omit hN
theorem tt_ok {d : Nat} (hd : d = 2 ∨ d = 3 ∨ d = 4) : ∀ j, j < d → (TTn d j).length ≤ 1000 ∧ ∀ t ∈ TTn d j, t.1.length ≤ 10 ∧ t.2.1.length ≤ 10 := by
  rcases hd with rfl | rfl | rfl <;> decide +kernel
include hN
theorem l0_all {d : Nat} (hd : d = 2 ∨ d = 3 ∨ d = 4) : ∀ (c j n : Nat), j + c = d → c + 1 ≤ n → spec_AllTurned_l0 N n (d : Int) (j : Int) (TTn d j) = some (TTn d d, ())
  | 0, j, n, hi, hn => by
    obtain ⟨n, rfl⟩ : ∃ m, n = m + 1 := ⟨n - 1, by omega⟩
    simp only [spec_AllTurned_l0, spec_AllTurned_g0, Bool.cond_decide]
    rw [if_neg (by omega), show j = d by omega]
  | c + 1, j, n, hi, hn => by
    obtain ⟨n, rfl⟩ : ∃ m, n = m + 1 := ⟨n - 1, by omega⟩
    obtain ⟨h1, h2⟩ := tt_ok hd j (by omega)
    have ew : IntKind.i64.wrap ((j : Int) + 1) = ((j + 1 : Nat) : Int) := by rw [wrap_in (by omega)]; omega
    simp only [spec_AllTurned_l0, spec_AllTurned_g0, Bool.cond_decide]
    rw [if_pos (by omega)]
    have := l1_all hN (r0 := spec_AllTurned_l0 N n (d : Int)) (d := d) (v56 := (j : Int)) (by omega) h1 h2 (TTn d j).length 0 N [] (by omega) (by omega) (by simp; omega)
    rw [show (0 : Int) = ((0 : Nat) : Int) from rfl, this, ew, List.drop_zero, List.nil_append]
    exact l0_all hd c (j + 1) n (by omega) (by omega)
theorem turned_eq {d : Nat} (hd : d = 2 ∨ d = 3 ∨ d = 4) : spec_AllTurned N (d : Int) = some (TTn d d, ()) := by
  unfold spec_AllTurned spec_AllTurned_g
  exact l0_all hN hd d 0 N (by omega) (by omega)
omit hN
/-! ### the law -/
abbrev NN : Nat := 18446744073709551616
theorem hNN : 2000 ≤ NN := by decide
theorem Ln_len {d : Nat} (f : Nat → Nat) : (Ln d f).length = d := by simp [Ln]
theorem Ln_map {d s : Nat} (f : Nat → Nat) : (Ln d f).map (fun x => Int.tmod x (s : Int)) = Ln d fun k => f k % s := by
  unfold Ln
  rw [List.map_map]
  rfl
theorem hc {d o p : Nat} (hd : d = 2 ∨ d = 3 ∨ d = 4) (h1 : 1 ≤ o) (h2 : d * o ≤ 62) (hp : p < 2 ^ 62) : impl_HCoord NN (d : Int) (o : Int) (p : Int) = some (Ln d (C d (T d) p o), true, ()) := by
  rcases hd with rfl | rfl | rfl
  · unfold impl_HCoord impl_HCoord_g
    rw [show (((2 : Nat) : Int) == 2) = true from rfl, cond_true, new2 (by decide) (by decide) h1 (by omega)]
    simp only [Option.bind_some]
    rw [coord2 (by decide) (by decide) (by omega) hp]
    rfl
  · unfold impl_HCoord impl_HCoord_g
    rw [show (((3 : Nat) : Int) == 2) = false from rfl, cond_false, show (((3 : Nat) : Int) == 3) = true from rfl, cond_true, new3 (by decide) (by decide) h1 (by omega)]
    simp only [Option.bind_some]
    rw [coord3 (by decide) (by decide) (by omega) hp]
    rfl
  · unfold impl_HCoord impl_HCoord_g
    rw [show (((4 : Nat) : Int) == 2) = false from rfl, cond_false, show (((4 : Nat) : Int) == 3) = false from rfl, cond_false, new4 (by decide) (by decide) h1 (by omega)]
    simp only [Option.bind_some]
    rw [coord4 (by decide) (by decide) (by omega) hp]
    rfl
theorem gray_eq {d i : Nat} (hd : d = 2 ∨ d = 3 ∨ d = 4) (hi : i < 2 ^ d) : spec_Gray NN (d : Int) (i : Int) = some (Ln d (gr i), ()) := by
  rcases hd with rfl | rfl | rfl
  · have : ∀ i : Fin 4, spec_Gray NN 2 ((i.1 : Nat) : Int) = some (Ln 2 (gr i.1), ()) := by decide +kernel
    exact this ⟨i, hi⟩
  · have : ∀ i : Fin 8, spec_Gray NN 3 ((i.1 : Nat) : Int) = some (Ln 3 (gr i.1), ()) := by decide +kernel
    exact this ⟨i, hi⟩
  · have : ∀ i : Fin 16, spec_Gray NN 4 ((i.1 : Nat) : Int) = some (Ln 4 (gr i.1), ()) := by decide +kernel
    exact this ⟨i, hi⟩
def lowP (d e i : Nat) : List Int := Ln d (act 1 (T d e).reverse (gr i))
def fit1 (d e : Nat) (t : TD) (i : Nat) : Bool := decide (lowP d e i = ofP t (Ln d (gr i)) 2)
def fitC (d e : Nat) (t : TD) : Nat → Nat → Bool
  | 0, _ => true
  | c + 1, i => fit1 d e t i && fitC d e t c (i + 1)
def t0 (d e : Nat) : TD := ((List.range d).map fun k => (((sp (T d e).reverse k).1 : Nat) : Int), (List.range d).map fun k => (sp (T d e).reverse k).2, ())
theorem tt_good {d : Nat} (hd : d = 2 ∨ d = 3 ∨ d = 4) : ∀ t ∈ TTn d d, good d t = true := by
  rcases hd with rfl | rfl | rfl <;> decide +kernel
theorem sp_lt {d : Nat} (hd : d = 2 ∨ d = 3 ∨ d = 4) : ∀ e, e < 2 ^ d → ∀ k, k < d → (sp (T d e).reverse k).1 < d := by
  rcases hd with rfl | rfl | rfl <;> decide +kernel
theorem t0_good {d : Nat} (hd : d = 2 ∨ d = 3 ∨ d = 4) : ∀ e, e < 2 ^ d → good d (t0 d e) = true := by
  rcases hd with rfl | rfl | rfl <;> decide +kernel
theorem tt_len {d : Nat} (hd : d = 2 ∨ d = 3 ∨ d = 4) : (TTn d d).length ≤ 1000 := by
  rcases hd with rfl | rfl | rfl <;> decide +kernel
set_option maxRecDepth 100000 in
theorem find_ok {d : Nat} (hd : d = 2 ∨ d = 3 ∨ d = 4) : ∀ e, e < 2 ^ d → (TTn d d).find? (fun t => fitC d e t (2 ^ d) 0) = some (t0 d e) := by
  rcases hd with rfl | rfl | rfl <;> decide +kernel
theorem of_t0 {d e n : Nat} (hd : d = 2 ∨ d = 3 ∨ d = 4) (he : e < 2 ^ d) (hn : n ≤ 61) {f : Nat → Nat} (hf : ∀ k, f k < 2 ^ n) : ofP (t0 d e) (Ln d f) ((2 ^ n : Nat) : Int) = Ln d (act (2 ^ n - 1) (T d e).reverse f) := by
  have hl : (t0 d e).1.length = d := by simp [t0]
  have h2 := pow_le hn
  have h3 : 2 ^ 61 = 2305843009213693952 := by decide
  have h4 := Nat.two_pow_pos n
  unfold ofP
  rw [hl]
  unfold Ln
  refine List.map_congr_left fun k hk => ?_
  have hk : k < d := by simpa using hk
  have hq := sp_lt hd e he k hk
  rw [act_sp]
  have e1 : (t0 d e).1.getD k 0 = (((sp (T d e).reverse k).1 : Nat) : Int) := by simp [t0, List.getD_eq_getElem?_getD, hk]
  have e2 : (t0 d e).2.1.getD k false = (sp (T d e).reverse k).2 := by simp [t0, List.getD_eq_getElem?_getD, hk]
  unfold val
  rw [e1, e2]
  generalize sp (T d e).reverse k = q at hq ⊢
  have e3 : (List.map (fun k => ((f k : Nat) : Int)) (List.range d)).getD ((q.1 : Nat) : Int).toNat 0 = (f q.1 : Int) := by simp [List.getD_eq_getElem?_getD, hq]
  rw [e3]
  have hb := hf q.1
  cases h : q.2 with
  | false => simp [ev, h]
  | true =>
    simp only [ev, h, cond_true]
    rw [xor_ones hb, wrap_in (n := ((2 ^ n : Nat) : Int) - 1) (by omega), wrap_in (by omega)]
    omega
section
variable {r2 : Int → Option Bool} {d e o p : Nat} {v7 : List TD × Unit} {v5 v6 : List Int × Bool × Unit} {v25 : Int}
theorem l3_stop (t : TD) (n : Nat) (j : Int) : laws_FnHilbertCopies_l3 NN r2 (d : Int) (p : Int) (o : Int) v7 v5 v6 (n + 1) v25 t false j = laws_FnHilbertCopies_j4 NN r2 (d : Int) (p : Int) (o : Int) v7 v5 v6 false v25 t := by
  simp only [laws_FnHilbertCopies_l3, laws_FnHilbertCopies_g3, Bool.cond_decide]
  rw [if_neg (by omega), cond_false]
  split <;> rfl
theorem one_shl {n : Nat} (h : n ≤ 61) : IntKind.i64.wrap (1 * 2 ^ (min (n : Int).toNat (IntKind.bits .i64))) = ((2 ^ n : Nat) : Int) := by
  have h2 := pow_le h
  have h3 : 2 ^ 61 = 2305843009213693952 := by decide
  rw [show (1 : Int) = ((1 : Nat) : Int) from rfl, shl_n (by omega) (by omega), Nat.one_mul]
theorem rest_eq (h1 : 1 ≤ o) (h62 : d * o ≤ 62) : IntKind.i64.wrap ((d : Int) * (IntKind.i64.wrap ((o : Int) - 1))) = ((d * (o - 1) : Nat) : Int) := by
  have hle : d * (o - 1) ≤ d * o := Nat.mul_le_mul_left _ (by omega)
  by_cases hd0 : d = 0
  · subst hd0; simp [IntKind.wrap, IntKind.signed, IntKind.bits]
  · have : o ≤ d * o := Nat.le_mul_of_pos_left _ (by omega)
    rw [wrap_in (n := (o : Int) - 1) (by omega), show (o : Int) - 1 = ((o - 1 : Nat) : Int) by omega, show ((d : Int) * ((o - 1 : Nat) : Int)) = ((d * (o - 1) : Nat) : Int) from rfl, wrapn (by omega)]
theorem l3_fit (hd : d = 2 ∨ d = 3 ∨ d = 4) (he : e < 2 ^ d) (h1 : 1 ≤ o) (h62 : d * o ≤ 62) (hp : p / 2 ^ (d * (o - 1)) = e) {t : TD} (ht : good d t = true) : ∀ (c i n : Nat), i + c = 2 ^ d → c + 1 ≤ n →
    laws_FnHilbertCopies_l3 NN r2 (d : Int) (p : Int) (o : Int) v7 v5 v6 n v25 t true (i : Int) = laws_FnHilbertCopies_j4 NN r2 (d : Int) (p : Int) (o : Int) v7 v5 v6 (fitC d e t c i) v25 t
  | 0, i, n, hi, hn => by
    obtain ⟨n, rfl⟩ : ∃ m, n = m + 1 := ⟨n - 1, by omega⟩
    simp only [laws_FnHilbertCopies_l3, laws_FnHilbertCopies_g3, Bool.cond_decide]
    rw [if_neg (by omega), one_shl (by omega), if_neg (by omega)]
    rfl
  | c + 1, i, n, hi, hn => by
    obtain ⟨n, rfl⟩ : ∃ m, n = m + 1 := ⟨n - 1, by omega⟩
    obtain ⟨m, rfl⟩ : ∃ m, n = m + 1 := ⟨n - 1, by omega⟩
    have hle : d * (o - 1) ≤ d * o := Nat.mul_le_mul_left _ (by omega)
    have hi16 : 2 ^ d ≤ 16 := by rcases hd with rfl | rfl | rfl <;> decide
    have hee : e * 2 ^ d ≤ 16 * 16 := Nat.mul_le_mul (by omega) hi16
    have ew : IntKind.i64.wrap ((i : Int) + 1) = ((i + 1 : Nat) : Int) := by rw [wrap_in (by omega)]; omega
    have e4 : Int.fdiv (p : Int) (2 ^ (min ((d * (o - 1) : Nat) : Int).toNat (IntKind.bits .i64))) = (e : Int) := by rw [shr_n p (by omega), hp]
    have e5 : IntKind.i64.wrap ((e : Int) * 2 ^ (min (d : Int).toNat (IntKind.bits .i64))) = ((e * 2 ^ d : Nat) : Int) := shl_n (by omega) (by omega)
    have e7 : impl_HCoord NN (d : Int) 2 ((e * 2 ^ d + i : Nat) : Int) = some (Ln d (C d (T d) (e * 2 ^ d + i) 2), true, ()) := hc (o := 2) hd (by omega) (by omega) (by have := p62; omega)
    have e8 : laws_FnHilbertCopies_1 NN (Ln d (C d (T d) (e * 2 ^ d + i) 2)) 2 = some (lowP d e i, ()) := by
      rw [low_eq hNN (by decide) (by rw [Ln_len]; omega), show (2 : Int) = ((2 : Nat) : Int) from rfl, Ln_map]
      congr 2
      unfold lowP
      congr 1
      funext k
      exact C2_mod (T d) he (by omega) k
    have e10 : spec_Turned_Of NN (t.1, t.2.1, ()) (Ln d (gr i)) 2 = some (ofP t (Ln d (gr i)) 2, ()) := of_eq hNN (t := t) (by rw [Ln_len]; exact ht) (by rw [Ln_len]; omega)
    have hl : t.1.length = d := by simp only [good, Bool.and_eq_true] at ht; exact Nat.eq_of_beq_eq_true ht.1.1
    have e11 : spec_SameInts NN (lowP d e i) (ofP t (Ln d (gr i)) 2) = some (fit1 d e t i) := same_eq hNN (by simp [lowP, Ln_len, ofP, hl]) (by simp [lowP, Ln_len]; omega)
    have key : laws_FnHilbertCopies_l3 NN r2 (d : Int) (p : Int) (o : Int) v7 v5 v6 (m + 1 + 1) v25 t true (i : Int) = laws_FnHilbertCopies_l3 NN r2 (d : Int) (p : Int) (o : Int) v7 v5 v6 (m + 1) v25 t (fit1 d e t i) ((i + 1 : Nat) : Int) := by
      conv => lhs; unfold laws_FnHilbertCopies_l3 laws_FnHilbertCopies_g3
      rw [if_neg (by omega), one_shl (by omega), Bool.cond_decide, if_pos (by omega), cond_true, if_neg (by omega), rest_eq h1 h62, e4, e5, show ((e * 2 ^ d : Nat) : Int) + (i : Int) = ((e * 2 ^ d + i : Nat) : Int) from rfl, wrapn (by omega), e7]
      simp only [Option.bind_some, Bool.not_true, cond_false]
      rw [Ln_len, bne_self_eq_false, cond_false, e8]
      simp only [Option.bind_some]
      rw [gray_eq hd (by omega)]
      simp only [Option.bind_some]
      rw [e10]
      simp only [Option.bind_some]
      rw [e11]
      simp only [Option.bind_some]
      rw [ew]
    rw [key]
    simp only [fitC]
    cases hfit : fit1 d e t i with
    | false => rw [Bool.false_and]; exact l3_stop t m _
    | true => rw [Bool.true_and]; exact l3_fit hd he h1 h62 hp ht c (i + 1) (m + 1) (by omega) (by omega)
theorem l2_find (hd : d = 2 ∨ d = 3 ∨ d = 4) (he : e < 2 ^ d) (h1 : 1 ≤ o) (h62 : d * o ≤ 62) (hp : p / 2 ^ (d * (o - 1)) = e) {L : List TD} (hL : L.length ≤ 1000) (hg : ∀ t ∈ L, good d t = true) {t1 : TD} : ∀ (c i n : Nat), i + c = L.length → c + 1 ≤ n →
    (L.drop i).find? (fun t => fitC d e t (2 ^ d) 0) = some t1 →
    laws_FnHilbertCopies_l2 NN n (d : Int) (p : Int) (o : Int) (L, ()) v5 v6 (i : Int) = ((laws_FnHilbertCopies_1 NN v5.1 (IntKind.i64.wrap (1 * 2 ^ (min ((IntKind.i64.wrap ((o : Int) - 1)) : Int).toNat (IntKind.bits .i64))))).bind fun v40 => (spec_Turned_Of NN (t1.1, t1.2.1, ()) v6.1 (IntKind.i64.wrap (1 * 2 ^ (min ((IntKind.i64.wrap ((o : Int) - 1)) : Int).toNat (IntKind.bits .i64))))).bind fun v41 => (spec_SameInts NN v40.1 v41.1).bind fun v42 => (some v42))
  | 0, i, n, hi, hn, hf => by rw [List.drop_eq_nil_of_le (by omega)] at hf; cases hf
  | c + 1, i, n, hi, hn, hf => by
    obtain ⟨n, rfl⟩ : ∃ m, n = m + 1 := ⟨n - 1, by omega⟩
    have hlt : i < L.length := by omega
    have hi16 : 2 ^ d ≤ 16 := by rcases hd with rfl | rfl | rfl <;> decide
    have ew : IntKind.i64.wrap ((i : Int) + 1) = ((i + 1 : Nat) : Int) := by rw [wrap_in (by omega)]; omega
    have key := l3_fit (r2 := laws_FnHilbertCopies_l2 NN n (d : Int) (p : Int) (o : Int) (L, ()) v5 v6) (v7 := (L, ())) (v5 := v5) (v6 := v6) (v25 := (i : Int)) hd he h1 h62 hp (hg L[i] (List.getElem_mem hlt)) (2 ^ d) 0 NN (by omega) (by have : 2000 ≤ NN := hNN; omega)
    rw [List.drop_eq_getElem_cons hlt, List.find?_cons] at hf
    simp only [laws_FnHilbertCopies_l2, laws_FnHilbertCopies_g2, Bool.cond_decide]
    rw [if_pos (by omega), chk_nat hlt]
    simp only [Option.bind_some]
    rw [List.getElem?_eq_getElem hlt]
    simp only [Option.bind_some]
    rw [show (0 : Int) = ((0 : Nat) : Int) from rfl, key]
    unfold laws_FnHilbertCopies_j4 laws_FnHilbertCopies_g4
    rw [gate_pos (by decide)]
    cases hfit : fitC d e L[i] (2 ^ d) 0 with
    | false =>
      rw [hfit] at hf
      rw [cond_false, ew]
      exact l2_find hd he h1 h62 hp hL hg c (i + 1) n (by omega) (by omega) hf
    | true =>
      rw [hfit] at hf
      simp only [Option.some.injEq] at hf
      subst hf
      rw [cond_true]
end
theorem law (d o p : Int) : laws_FnHilbertCopies 18446744073709551616 d o p = some true := by
  have hN : 0 < NN := by decide
  have j0 : laws_FnHilbertCopies_j0 NN d o p = some true := by unfold laws_FnHilbertCopies_j0 laws_FnHilbertCopies_g0; exact gate_pos hN _
  show laws_FnHilbertCopies NN d o p = some true
  unfold laws_FnHilbertCopies laws_FnHilbertCopies_g
  obtain ⟨b, hb⟩ := curved_def (N := NN) (by decide) (by decide) d o
  rw [hb]
  simp only [Option.bind_some]
  cases b with
  | false => exact j0
  | true =>
    have hd := curved_lt (by decide) (by decide) hb
    simp only [Bool.not_true, cond_false, Bool.cond_decide]
    by_cases ho : o < 2
    · rw [if_pos ho]; exact j0
    rw [if_neg ho]
    by_cases hp : p < 0
    · rw [if_pos hp]; exact j0
    rw [if_neg hp]
    obtain ⟨O', rfl⟩ := Int.eq_ofNat_of_zero_le (show 0 ≤ o by omega)
    obtain ⟨D, rfl⟩ := Int.eq_ofNat_of_zero_le (show 0 ≤ d by omega)
    obtain ⟨p', rfl⟩ := Int.eq_ofNat_of_zero_le (show 0 ≤ p by omega)
    have hD : D = 2 ∨ D = 3 ∨ D = 4 := by omega
    have hDO : D * O' ≤ 62 := by rcases hD with h | h | h <;> subst h <;> omega
    have h2 := pow_le hDO
    have h62 := p62
    obtain ⟨n, rfl⟩ : ∃ n, O' = n + 1 := ⟨O' - 1, by omega⟩
    have hDn : D * n + D = D * (n + 1) := rfl
    have hn31 : n ≤ 31 := by
      rcases hD with h | h | h <;> subst h <;> omega
    have e1 : IntKind.i64.wrap ((D : Int) * ((n + 1 : Nat) : Int)) = ((D * (n + 1) : Nat) : Int) := by
      rw [show ((D : Int) * ((n + 1 : Nat) : Int)) = ((D * (n + 1) : Nat) : Int) from rfl, wrapn (by omega)]
    have e2 : IntKind.i64.wrap (((n + 1 : Nat) : Int) - 1) = (n : Int) := by rw [wrap_in (by omega)]; omega
    have e3 : IntKind.i64.wrap ((D : Int) * (n : Int)) = ((D * n : Nat) : Int) := by
      rw [show ((D : Int) * (n : Int)) = ((D * n : Nat) : Int) from rfl, wrapn (by omega)]
    rw [e1, if_neg (by omega), gate_pos hN]
    by_cases hq : (p' : Int) ≥ IntKind.i64.wrap (1 * 2 ^ (min ((D * (n + 1) : Nat) : Int).toNat (IntKind.bits .i64)))
    · rw [if_pos hq]
    rw [if_neg hq]
    have hq' : p' < 2 ^ (D * (n + 1)) := by
      by_cases h : D * (n + 1) ≤ 61
      · rw [one_shl h] at hq; omega
      · have : D * (n + 1) = 62 := by omega
        rw [this] at hq ⊢
        rw [show (1 : Int) = ((1 : Nat) : Int) from rfl, shl_n (by omega) (by omega), Nat.one_mul] at hq
        omega
    have hlt : p' < 2 ^ 62 := by omega
    have hdiv : p' / 2 ^ (D * n) < 2 ^ D := by
      rw [Nat.div_lt_iff_lt_mul (Nat.two_pow_pos _), ← Nat.pow_add, Nat.add_comm, hDn]
      exact hq'
    have hdm := Nat.div_add_mod p' (2 ^ (D * n))
    have hml := Nat.mod_lt p' (Nat.two_pow_pos (D * n))
    have hqm : p' % 2 ^ (D * n) < 2 ^ 62 := by have := Nat.mod_le p' (2 ^ (D * n)); omega
    have e4 : Int.fdiv (p' : Int) (2 ^ (min ((D * n : Nat) : Int).toNat (IntKind.bits .i64))) = ((p' / 2 ^ (D * n) : Nat) : Int) := shr_n p' (by omega)
    have e5 : IntKind.i64.wrap (((p' / 2 ^ (D * n) : Nat) : Int) * 2 ^ (min ((D * n : Nat) : Int).toNat (IntKind.bits .i64))) = ((p' / 2 ^ (D * n) * 2 ^ (D * n) : Nat) : Int) := shl_n (by omega) (by rw [Nat.mul_comm]; omega)
    have e6 : IntKind.i64.wrap ((p' : Int) - ((p' / 2 ^ (D * n) * 2 ^ (D * n) : Nat) : Int)) = ((p' % 2 ^ (D * n) : Nat) : Int) := by
      have hdm' : p' / 2 ^ (D * n) * 2 ^ (D * n) + p' % 2 ^ (D * n) = p' := by rw [Nat.mul_comm]; exact hdm
      generalize p' / 2 ^ (D * n) * 2 ^ (D * n) = A at *
      rw [wrap_in (by omega)]; omega
    rw [e2, e3, if_neg (by omega), if_neg (by omega), hc hD (by omega) hDO hlt]
    simp only [Option.bind_some]
    rw [if_neg (by omega), e4, e5, e6, hc hD (by omega) (by omega) hqm]
    simp only [Option.bind_some, Bool.not_true, cond_false]
    rw [Ln_len, Ln_len, bne_self_eq_false, cond_false, gate_pos hN, cond_false, turned_eq hNN hD]
    simp only [Option.bind_some]
    have hlen := tt_len hD
    have key := l2_find (d := D) (e := p' / 2 ^ (D * n)) (o := n + 1) (p := p') (v5 := (Ln D (C D (T D) p' (n + 1)), true, ())) (v6 := (Ln D (C D (T D) (p' % 2 ^ (D * n)) n), true, ())) hD hdiv (by omega) hDO rfl hlen (tt_good hD) (TTn D D).length 0 NN (by omega) (by have : 2000 ≤ NN := hNN; omega) (find_ok hD _ hdiv)
    rw [show (0 : Int) = ((0 : Nat) : Int) from rfl]
    refine key.trans ?_
    have hCn : C D (T D) (p' % 2 ^ (D * n)) n = C D (T D) p' n := C_congr n fun m hm => dig_mod hm
    have hdig : dig D p' n = p' / 2 ^ (D * n) := by unfold dig; exact Nat.mod_eq_of_lt hdiv
    have hlow : laws_FnHilbertCopies_1 NN (Ln D (C D (T D) p' (n + 1))) ((2 ^ n : Nat) : Int) = some (Ln D (act (2 ^ n - 1) (T D (p' / 2 ^ (D * n))).reverse (C D (T D) p' n)), ()) := by
      have := Nat.two_pow_pos n
      rw [low_eq hNN (by omega) (by rw [Ln_len]; omega), Ln_map]
      congr 2
      congr 1
      funext k
      rw [C_mod, hdig]
    rw [e2, one_shl (by omega), hlow]
    simp only [Option.bind_some]
    have hof : spec_Turned_Of NN ((t0 D (p' / 2 ^ (D * n))).1, (t0 D (p' / 2 ^ (D * n))).2.1, ()) (Ln D (C D (T D) (p' % 2 ^ (D * n)) n)) ((2 ^ n : Nat) : Int) = some (Ln D (act (2 ^ n - 1) (T D (p' / 2 ^ (D * n))).reverse (C D (T D) p' n)), ()) := by
      rw [hCn]
      refine (of_eq hNN (t := t0 D (p' / 2 ^ (D * n))) (by rw [Ln_len]; exact t0_good hD _ hdiv) (by rw [Ln_len]; omega)).trans ?_
      rw [of_t0 hD hdiv (by omega) (fun k => C_lt _ _ _ _ k)]
    rw [hof]
    simp only [Option.bind_some]
    rw [same_eq hNN rfl (by rw [Ln_len]; omega)]
    simp
end Go.Proofs.YtjabjnkiddldeaaDoor.PvCopies
