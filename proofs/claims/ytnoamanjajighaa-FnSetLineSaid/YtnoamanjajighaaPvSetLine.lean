/- The plain law of FnSetLine. -/
import Derived.Test.YtnoamanjajighaaSL
import Derived.Test.YtnoamanjajighaaPv3
set_option linter.unusedVariables false
set_option linter.unusedSectionVars false
set_option linter.unusedSimpArgs false
namespace Go.Proofs.Ytnoamanjajighaa.PvSetLine
open Go.Av Go
open Go.Proofs.Ytnoamanjajighaa.SL
def strd (l : Int) : Int := if l < 1 then 0 else if l = 1 then 2 else if l = 2 then 3 else if l = 3 then 3 else l
theorem stride_spec (N : Nat) (l : Int) : spec_Stride N l = some (strd l) := by
  simp only [spec_Stride, spec_Stride_g, strd, beq_iff_eq, decide_eq_true_eq, Bool.cond_eq_ite, apply_ite some]
theorem stride_impl (N : Nat) {l : Int} (h : 1 ≤ l) : gogeom_Layout_Stride N l = some (strd l) := by
  simp only [gogeom_Layout_Stride, gogeom_Layout_Stride_g, strd, beq_iff_eq, decide_eq_true_eq, Bool.cond_eq_ite, ← apply_ite some]
  congr 1
  repeat' split
  all_goals omega
/-- The numbers of a place. -/
def pl (p : Option (List Nat)) : List Nat := p.getD []
def tot (c : List (Option (List Nat))) : Nat := (c.map fun p => (pl p).length).sum
theorem tot_cons (p : Option (List Nat)) (c : List (Option (List Nat))) : tot (p :: c) = (pl p).length + tot c := by simp [tot]
theorem tot_append (c d : List (Option (List Nat))) : tot (c ++ d) = tot c + tot d := by simp [tot]
theorem tot_le {c : List (Option (List Nat))} {B : Nat} (h : ∀ p ∈ c, (pl p).length ≤ B) : tot c ≤ c.length * B := by
  induction c with
  | nil => simp [tot]
  | cons p c ih =>
    rw [tot_cons, List.length_cons, Nat.add_mul]
    have := h p (by simp)
    have := ih (fun q hq => h q (by simp [hq]))
    omega
theorem take_snoc' {α : Type} {l : List α} {i : Nat} (h : i < l.length) : l.take (i + 1) = l.take i ++ [l[i]] := by
  rw [List.take_add_one, List.getElem?_eq_getElem h]; rfl
section
variable {N : Nat} (hNl : 9223372036854775808 ≤ N)
include hNl
theorem zz (c : List (Option (List Nat))) : laws_zzFits4 N c = some false ∨ (laws_zzFits4 N c = some true ∧ c.length ≤ 2147483647 ∧ ∀ p ∈ c, (pl p).length ≤ 2147483647) := by
  unfold laws_zzFits4 laws_zzFits4_g
  by_cases h : ((c.length : Int) > 2147483647)
  · left; rw [decide_eq_true h, cond_true]
  · rw [decide_eq_false h, cond_false]
    rcases checkLoop0 (xs := c) (L := fun n i => laws_zzFits4_l0 N n c i) (e := fun r => r = some false) (fin := some true) (fun p => (pl p).length ≤ 2147483647)
      (fun n => by
        simp only [laws_zzFits4_l0, laws_zzFits4_g0, Bool.cond_decide]
        rw [if_neg (Int.lt_irrefl _)])
      (fun n i hi => by
        simp only [laws_zzFits4_l0, laws_zzFits4_g0, Bool.cond_decide]
        rw [if_pos (by omega), nth_get hi]
        simp only [Option.bind_some]
        by_cases h2 : (((c[i].getD []).length : Int) > 2147483647)
        · left; rw [if_pos h2]
        · right
          rw [if_neg h2, succ_in hi (by omega)]
          exact ⟨rfl, by unfold pl; omega⟩) N (by omega) with h1 | ⟨h1, h2⟩
    · left; exact h1
    · right; exact ⟨h1, by omega, h2⟩
theorem count (c : List (Option (List Nat))) (h1 : c.length ≤ 2147483647) (h2 : ∀ p ∈ c, (pl p).length ≤ 2147483647) :
    laws_gCount N [[c]] = some (2 + (c.length : Int) + (tot c : Int)) := by
  have ht : tot c ≤ 2147483647 * 2147483647 := Nat.le_trans (tot_le h2) (Nat.mul_le_mul_right _ h1)
  have key : ∀ (r1 r0 : Int → Int → Option Int), laws_gCount_l2 N r1 r0 [[c]] 0 [c] N 0 c (2 + (c.length : Int)) 0 = r1 (2 + (c.length : Int) + (tot c : Int)) (IntKind.i64.wrap (0 + 1)) := by
    intro r1 r0
    have := foldLoop0 (xs := c) (L := fun n i (a : Int) => laws_gCount_l2 N r1 r0 [[c]] 0 [c] n 0 c a i) (f := fun a p => a + ((pl p).length : Int))
      (fin := fun a => r1 a (IntKind.i64.wrap (0 + 1))) (fun i a => a = 2 + (c.length : Int) + (tot (c.take i) : Int))
      (fun n st _ => by
        simp only [laws_gCount_l2, laws_gCount_g2, Bool.cond_decide]
        rw [if_neg (Int.lt_irrefl _)])
      (fun n i st hi hp => by
        have e1 : tot (c.take (i + 1)) = tot (c.take i) + (pl c[i]).length := by rw [take_snoc' hi, tot_append]; simp [tot]
        have e2 : tot (c.take (i + 1)) ≤ tot c := by
          conv => rhs; rw [← List.take_append_drop (i + 1) c, tot_append]
          omega
        simp only [laws_gCount_l2, laws_gCount_g2, Bool.cond_decide]
        rw [if_pos (by omega), nth_get hi]
        simp only [Option.bind_some]
        rw [succ_in hi (by omega)]
        have e3 : ((c[i].getD []).length : Int) = ((pl c[i]).length : Int) := rfl
        rw [e3]
        have hw : IntKind.i64.wrap (st + ((pl c[i]).length : Int)) = st + ((pl c[i]).length : Int) := wrap_in (by omega)
        rw [hw]
        exact ⟨rfl, by rw [e1]; omega⟩)
      N (2 + (c.length : Int)) (by omega) (by simp [tot])
    obtain ⟨q1, q2⟩ := this
    rw [q1, q2]
    simp
  unfold laws_gCount laws_gCount_g
  obtain ⟨m, hm⟩ : ∃ m, N = m + 2 := ⟨N - 2, by omega⟩
  have s0 : ∀ r a, laws_gCount_l0 N (m + 2) [[c]] a 0 = r → laws_gCount_l0 N N [[c]] a 0 = r := fun r a h => by
    rw [← h]; exact congrArg (fun k => laws_gCount_l0 N k [[c]] a 0) hm
  apply s0
  have w1 : IntKind.i64.wrap (0 + 1) = 1 := by decide
  have w2 : IntKind.i64.wrap ((1 : Int) + (([c] : List (List (Option (List Nat)))).length : Int)) = 2 := by simp; decide
  simp only [laws_gCount_l0, laws_gCount_g0, List.length_cons, List.length_nil]
  rw [show nth [[c]] 0 = some [c] from rfl]
  simp only [Option.bind_some]
  have s1 : ∀ r0 a, laws_gCount_l1 N r0 [[c]] (m + 2) 0 [c] a 0 = laws_gCount_l1 N r0 [[c]] N 0 [c] a 0 := fun r0 a => by
    exact congrArg (fun k => laws_gCount_l1 N r0 [[c]] k 0 [c] a 0) hm.symm
  simp only [Nat.zero_add]
  rw [show (decide ((0 : Int) < ((1 : Nat) : Int))) = true from rfl, cond_true, ← s1]
  simp only [laws_gCount_l1, laws_gCount_g1, List.length_cons, List.length_nil]
  rw [show nth [c] 0 = some c from rfl]
  simp only [Option.bind_some, Nat.zero_add]
  rw [show (decide ((0 : Int) < ((1 : Nat) : Int))) = true from rfl, cond_true]
  rw [show IntKind.i64.wrap (IntKind.i64.wrap (((1 : Nat) : Int) + ((1 : Nat) : Int)) + (c.length : Int)) = 2 + (c.length : Int) from by
    rw [show IntKind.i64.wrap (((1 : Nat) : Int) + ((1 : Nat) : Int)) = 2 from by decide]; exact wrap_in (by omega)]
  rw [key, w1]
  rfl

/-! ### what is wanted -/
def wFlat (c : List (Option (List Nat))) : List Nat := c.flatMap pl
def wEnds : Nat → List (Option (List Nat)) → List Int
  | _, [] => []
  | n, p :: c => ((n + (pl p).length : Nat) : Int) :: wEnds (n + (pl p).length) c
omit hNl in
theorem wEnds_len : ∀ (c : List (Option (List Nat))) (n : Nat), (wEnds n c).length = c.length
  | [], n => rfl
  | p :: c, n => by simp [wEnds, wEnds_len c]
omit hNl in
theorem wEnds_snoc : ∀ (c : List (Option (List Nat))) (p : Option (List Nat)) (n : Nat), wEnds n (c ++ [p]) = wEnds n c ++ [((n + tot c + (pl p).length : Nat) : Int)]
  | [], p, n => by simp [wEnds, tot]
  | q :: c, p, n => by
    simp only [List.cons_append, wEnds, wEnds_snoc c p, tot_cons]
    congr 4
    omega
omit hNl in
theorem wFlat_len (c : List (Option (List Nat))) : (wFlat c).length = tot c := by simp [wFlat, tot, List.length_flatMap]
omit hNl in
theorem wFlat_snoc (c : List (Option (List Nat))) (p : Option (List Nat)) : wFlat (c ++ [p]) = wFlat c ++ pl p := by simp [wFlat]
/-- A place fits: as many numbers as the layout says, or none of a multi point. -/
def fit (l : Int) (s : Bool) (p : Option (List Nat)) : Bool := (((pl p).length : Int) == strd l) || (s && p.isNone)
theorem flat_of (l : Int) (s : Bool) (c : List (Option (List Nat))) (hc : c.length + tot c ≤ 2000) :
    laws_gFlat N l s c = some (wFlat c, bif s then wEnds 0 c else [], c.all (fit l s), ()) := by
  unfold laws_gFlat laws_gFlat_g
  have hN : 0 < N := by omega
  have := foldLoop0 (xs := c) (L := fun n i (st : Bool × List Nat × List Int) => laws_gFlat_l0 N n l s c st.1 i st.2.1 st.2.2)
    (f := fun st p => (st.1 && fit l s p, st.2.1 ++ pl p, bif s then st.2.2 ++ [((st.2.1 ++ pl p).length : Int)] else st.2.2))
    (fin := fun st => some (st.2.1, st.2.2, st.1, ())) (fun i st => st.1 = (c.take i).all (fit l s) ∧ st.2.1 = wFlat (c.take i) ∧ st.2.2 = bif s then wEnds 0 (c.take i) else [])
    (fun n st _ => by
      simp only [laws_gFlat_l0, laws_gFlat_g0, Bool.cond_decide]
      rw [if_neg (Int.lt_irrefl _)])
    (fun n i st hi hp => by
      obtain ⟨p1, p2, p3⟩ := hp
      have e1 : tot (c.take (i + 1)) = tot (c.take i) + (pl c[i]).length := by rw [take_snoc' hi, tot_append]; simp [tot]
      have e2 : tot (c.take (i + 1)) ≤ tot c := by
        conv => rhs; rw [← List.take_append_drop (i + 1) c, tot_append]
        omega
      have e4 : st.2.1.length = tot (c.take i) := by rw [p2, wFlat_len]
      have e5 : st.2.2.length ≤ 2000 := by
        rw [p3]; cases s
        · simp
        · simp only [cond_true, wEnds_len, List.length_take]; omega
      have hl1 : lim ((st.2.1.length + (pl c[i]).length) * 8) = some () := lim_le (by omega)
      have hl2 : ∀ y : Int, lim ((st.2.2.length + ([y] : List Int).length) * 8) = some () := fun y => lim_le (by simp; omega)
      constructor
      · simp only [laws_gFlat_l0, laws_gFlat_g0, Bool.cond_decide, laws_gFlat_j1, gate_pos hN, laws_gFlat_g1, stride_spec, Option.bind_some]
        rw [if_pos (by omega), nth_get hi, succ_in hi (by omega)]
        simp only [Option.bind_some]
        have hg : c[i].getD [] = pl c[i] := rfl
        simp only [hg, fit, hl1, hl2, Option.bind_some]
        cases st.1 <;> cases s <;> cases (((pl c[i]).length : Int) == strd l) <;> rfl
      · simp only
        refine ⟨?_, ?_, ?_⟩
        · rw [take_snoc' hi, p1]; simp only [List.all_append, List.all_cons, List.all_nil, Bool.and_true]
        · rw [take_snoc' hi, p2, wFlat_snoc]
        · cases s
          · simpa using p3
          · simp only [cond_true] at p3 ⊢
            rw [p3, take_snoc' hi, wEnds_snoc, p2]
            congr 2
            rw [List.length_append, wFlat_len]; omega) N (true, [], []) (by omega) (by simp [wFlat, wEnds])
  obtain ⟨q1, q2, q3, q4⟩ := this
  simp only at q1
  rw [q1]
  rw [q3, q4, q2, List.take_length]
/-! ### the copies of the places -/
theorem coords (c : List (Option (List Nat))) (hc : c.length + tot c ≤ 2000) (hq : ∀ p ∈ c, (pl p).length ≠ 0 ∨ p = none) : impl_coords1 N c = some (c, ()) := by
  unfold impl_coords1 impl_coords1_g
  have hN : 0 < N := by omega
  have := foldLoop0 (xs := c) (L := fun n i (st : List (Option (List Nat))) => impl_coords1_l0 N n c i st) (f := fun st p => st ++ [p]) (fin := fun st => some (st, ()))
    (fun i st => st = c.take i)
    (fun n st _ => by
      simp only [impl_coords1_l0, impl_coords1_g0, Bool.cond_decide]
      rw [if_neg (Int.lt_irrefl _)])
    (fun n i st hi hp => by
      have hm := List.getElem_mem hi
      have hg : c[i].getD [] = pl c[i] := rfl
      have hsl : st.length ≤ 2000 := by rw [hp, List.length_take]; omega
      have hpl : (pl c[i]).length ≤ 2000 := by
        have : c = c.take i ++ c[i] :: c.drop (i + 1) := by rw [← List.drop_eq_getElem_cons hi, List.take_append_drop]
        have : tot c = tot (c.take i) + ((pl c[i]).length + tot (c.drop (i + 1))) := by
          conv => lhs; rw [this]
          rw [tot_append, tot_cons]
        omega
      constructor
      · simp only [impl_coords1_l0, impl_coords1_g0, Bool.cond_decide, impl_coords1_j1, gate_pos hN, impl_coords1_g1, impl_floats, impl_floats_g]
        rw [if_pos (by omega), nth_get hi, succ_in hi (by omega)]
        simp only [Option.bind_some, hg]
        rcases hq _ hm with h | h
        · have : Nat.ble 1 (pl c[i]).length = true := Nat.ble_eq_true_of_le (by omega)
          simp only [this, Bool.not_true, cond_false]
          rw [lim_le (by omega)]
          simp only [Option.bind_some, Sum.elim_inr, this, cond_true]
          rw [lim_le (by simp; omega)]
          simp only [Option.bind_some]
          congr 3
          revert h
          unfold pl
          cases c[i] with
          | none => simp
          | some xs => simp
        · simp only [h, pl, Option.getD_none, List.length_nil]
          rw [show Nat.ble 1 0 = false from rfl]
          simp only [Bool.not_false, cond_true, Option.bind_some, Sum.elim_inl]
          rw [lim_le (by simp; omega)]
          rfl
      · rw [take_snoc' hi, hp]) N [] (by omega) (by simp)
  obtain ⟨q1, q2⟩ := this
  rw [q1, q2, List.take_length]
/-- One place after another in a row, or an error. -/
theorem deflate (s : Int) (c : List (Option (List Nat))) (hc : c.length + tot c ≤ 2000) :
    (gogeom_deflate1_b N [] c s = some (.inr (.inr (wFlat c, (), c, ()))) ∧ ∀ p ∈ c, ((pl p).length : Int) = s) ∨
    ((∃ v, gogeom_deflate1_b N [] c s = some (.inr (.inl v))) ∧ ∃ p ∈ c, ((pl p).length : Int) ≠ s) := by
  unfold gogeom_deflate1_b gogeom_deflate1_b_g
  have := stateLoop0 (xs := c) (L := fun n i (st : List Nat) => gogeom_deflate1_b_l0 N n s c i st)
    (e := fun r => (∃ v, r = some (.inr (.inl v))) ∧ ∃ p ∈ c, ((pl p).length : Int) ≠ s) (fin := fun st => some (.inr (.inr (st, (), c, ()))))
    (fun i st => st = wFlat (c.take i) ∧ ∀ p ∈ c.take i, ((pl p).length : Int) = s)
    (fun n st _ => by
      simp only [gogeom_deflate1_b_l0, gogeom_deflate1_b_g0, Bool.cond_decide]
      rw [if_neg (Int.lt_irrefl _)])
    (fun n i st hi hp => by
      have hm := List.getElem_mem hi
      have hg : c[i].getD [] = pl c[i] := rfl
      have e1 : tot (c.take (i + 1)) = tot (c.take i) + (pl c[i]).length := by rw [take_snoc' hi, tot_append]; simp [tot]
      have e2 : tot (c.take (i + 1)) ≤ tot c := by
        conv => rhs; rw [← List.take_append_drop (i + 1) c, tot_append]
        omega
      have e4 : st.length = tot (c.take i) := by rw [hp.1, wFlat_len]
      simp only [gogeom_deflate1_b_l0, gogeom_deflate1_b_g0, Bool.cond_decide, gogeom_deflate0, gogeom_deflate0_g]
      rw [if_pos (by omega), chk_nat hi, succ_in hi (by omega)]
      simp only [Option.bind_some, List.getElem?_eq_getElem hi, hg]
      by_cases he : ((pl c[i]).length : Int) = s
      · right
        refine ⟨st ++ pl c[i], ?_, ?_, ?_⟩
        · rw [he, bne_self_eq_false, cond_false, lim_le (by omega)]
          rfl
        · rw [take_snoc' hi, wFlat_snoc, hp.1]
        · intro p h
          rw [take_snoc' hi] at h
          rcases List.mem_append.1 h with h | h
          · exact hp.2 p h
          · rw [List.mem_singleton.1 h]; exact he
      · left
        have hb : (((pl c[i]).length : Int) != s) = true := by simpa using he
        rw [hb, cond_true]
        exact ⟨⟨_, rfl⟩, _, hm, he⟩) N [] (by omega) (by simp [wFlat])
  rcases this with h | ⟨st, h1, h2, h3⟩
  · exact .inr h
  · refine .inl ⟨?_, ?_⟩
    · rw [h1, h2, List.take_length]
    · rw [List.take_length] at h3; exact h3
theorem multi (ly s : Int) (c : List (Option (List Nat))) (hc : c.length + tot c ≤ 2000) :
    (gogeom_MultiPoint_SetCoords N (ly, s, [], 0, [], ()) c = some (.inr ((), (), (ly, s, wFlat c, 0, wEnds 0 c, ()), c, ())) ∧ ∀ p ∈ c, ((pl p).length : Int) = s ∨ p = none) ∨
    ((∃ v, gogeom_MultiPoint_SetCoords N (ly, s, [], 0, [], ()) c = some (.inl v)) ∧ ∃ p ∈ c, ((pl p).length : Int) ≠ s ∧ p ≠ none) := by
  unfold gogeom_MultiPoint_SetCoords gogeom_MultiPoint_SetCoords_g
  have := stateLoop0 (xs := c) (L := fun n i (st : List Nat × List Int) => gogeom_MultiPoint_SetCoords_l0 N n c (ly, s, [], 0, [], ()) i st.1 st.2)
    (e := fun r => (∃ v, r = some (.inl v)) ∧ ∃ p ∈ c, ((pl p).length : Int) ≠ s ∧ p ≠ none) (fin := fun st => some (.inr ((), (), (ly, s, st.1, 0, st.2, ()), c, ())))
    (fun i st => st.1 = wFlat (c.take i) ∧ st.2 = wEnds 0 (c.take i) ∧ ∀ p ∈ c.take i, ((pl p).length : Int) = s ∨ p = none)
    (fun n st _ => by
      simp only [gogeom_MultiPoint_SetCoords_l0, gogeom_MultiPoint_SetCoords_g0, Bool.cond_decide]
      rw [if_neg (Int.lt_irrefl _)])
    (fun n i st hi hp => by
      have hm := List.getElem_mem hi
      have hg : c[i].getD [] = pl c[i] := rfl
      have e1 : tot (c.take (i + 1)) = tot (c.take i) + (pl c[i]).length := by rw [take_snoc' hi, tot_append]; simp [tot]
      have e2 : tot (c.take (i + 1)) ≤ tot c := by
        conv => rhs; rw [← List.take_append_drop (i + 1) c, tot_append]
        omega
      have e4 : st.1.length = tot (c.take i) := by rw [hp.1, wFlat_len]
      have e5 : st.2.length ≤ 2000 := by rw [hp.2.1, wEnds_len, List.length_take]; omega
      simp only [gogeom_MultiPoint_SetCoords_l0, gogeom_MultiPoint_SetCoords_g0, Bool.cond_decide, gogeom_deflate0, gogeom_deflate0_g]
      rw [if_pos (by omega), chk_nat hi, succ_in hi (by omega)]
      simp only [Option.bind_some, List.getElem?_eq_getElem hi, hg]
      cases hn : c[i] with
      | none =>
        right
        refine ⟨(st.1, st.2 ++ [(st.1.length : Int)]), ?_, ?_, ?_, ?_⟩
        · simp only [Option.isNone_none, Bool.not_true, cond_false]
          rw [lim_le (by simp; omega)]
          rfl
        · rw [take_snoc' hi, wFlat_snoc, hn, hp.1]; simp [pl]
        · rw [take_snoc' hi, wEnds_snoc, hn, hp.2.1, e4]; simp [pl]
        · intro p h
          rw [take_snoc' hi] at h
          rcases List.mem_append.1 h with h | h
          · exact hp.2.2 p h
          · rw [List.mem_singleton.1 h]; exact .inr hn
      | some xs =>
        rw [hn] at hg hm e1
        simp only [Option.isNone_some, Bool.not_false, cond_true]
        by_cases he : ((pl (some xs)).length : Int) = s
        · right
          refine ⟨(st.1 ++ pl (some xs), st.2 ++ [((st.1 ++ pl (some xs)).length : Int)]), ?_, ?_, ?_, ?_⟩
          · rw [he, bne_self_eq_false, cond_false, lim_le (by omega)]
            simp only [Option.bind_some, Sum.elim_inr]
            rw [lim_le (by simp; omega)]
            rfl
          · rw [take_snoc' hi, wFlat_snoc, hn, hp.1]
          · show st.2 ++ [((st.1 ++ pl (some xs)).length : Int)] = _
            rw [take_snoc' hi, wEnds_snoc, hn, hp.2.1, List.length_append, e4]
            congr 3
            omega
          · intro p h
            rw [take_snoc' hi] at h
            rcases List.mem_append.1 h with h | h
            · exact hp.2.2 p h
            · rw [List.mem_singleton.1 h, hn]; exact .inl he
        · left
          have hb : (((pl (some xs)).length : Int) != s) = true := by simpa using he
          rw [hb, cond_true]
          exact ⟨⟨_, rfl⟩, _, hm, he, by simp⟩) N ([], []) (by omega) (by simp [wFlat, wEnds])
  rcases this with h | ⟨st, h1, h2, h3, h4⟩
  · exact .inr h
  · refine .inl ⟨?_, ?_⟩
    · simp only at h1
      rw [h1, h2, h3, List.take_length]
    · rw [List.take_length] at h4; exact h4

theorem intss0 : impl_intss N [] = some ([], ()) := by
  obtain ⟨m, hm⟩ : ∃ m, N = m + 1 := ⟨N - 1, by omega⟩
  unfold impl_intss impl_intss_g
  have : impl_intss_l0 N N [] 0 [] = impl_intss_l0 N (m + 1) [] 0 [] := congrArg (fun k => impl_intss_l0 N k [] 0 []) hm
  rw [this]; rfl
theorem plain1 (l s : Int) (f : List Nat) (hf : f.length ≤ 2000) : impl_plain N (l, s, f, 0, ()) = some ((2, l, 0, f, [], [], [], ()), (l, s, f, 0, ()), ()) := by
  simp only [impl_plain, impl_plain_g, gogeom_geom0_SRID, gogeom_geom0_SRID_g, gogeom_geom0_Layout, gogeom_geom0_Layout_g, gogeom_geom0_FlatCoords_b, gogeom_geom0_FlatCoords_b_g,
    gogeom_geom0_Ends, gogeom_geom0_Ends_g, gogeom_geom0_Endss_b, gogeom_geom0_Endss_b_g, Option.bind_some, impl_floats_b, impl_floats_b_g, impl_ints, impl_ints_g, intss0 hNl]
  cases f with
  | nil => rfl
  | cons x f =>
    have : Nat.ble 1 (x :: f).length = true := Nat.ble_eq_true_of_le (by simp)
    rw [this, Bool.not_true, cond_false, lim_le (by omega)]
    rfl
theorem plain2 (l s : Int) (f : List Nat) (hf : f.length ≤ 2000) : impl_plain_b N (l, s, f, 0, ()) = some ((8, l, 0, f, [], [], [], ()), (l, s, f, 0, ()), ()) := by
  simp only [impl_plain_b, impl_plain_b_g, gogeom_geom0_SRID, gogeom_geom0_SRID_g, gogeom_geom0_Layout, gogeom_geom0_Layout_g, gogeom_geom0_FlatCoords_b, gogeom_geom0_FlatCoords_b_g,
    gogeom_geom0_Ends, gogeom_geom0_Ends_g, gogeom_geom0_Endss_b, gogeom_geom0_Endss_b_g, Option.bind_some, impl_floats_b, impl_floats_b_g, impl_ints, impl_ints_g, intss0 hNl]
  cases f with
  | nil => rfl
  | cons x f =>
    have : Nat.ble 1 (x :: f).length = true := Nat.ble_eq_true_of_le (by simp)
    rw [this, Bool.not_true, cond_false, lim_le (by omega)]
    rfl
theorem plain3 (l s : Int) (f : List Nat) (es : List Int) (hf : f.length ≤ 2000) (he : es.length ≤ 2000) : impl_plain_c N (l, s, f, 0, es, ()) = some ((4, l, 0, f, es, [], [], ()), (l, s, f, 0, es, ()), ()) := by
  have h2 : lim (es.length * 8) = some () := lim_le (by omega)
  simp only [impl_plain_c, impl_plain_c_g, gogeom_geom0_SRID_b, gogeom_geom0_SRID_b_g, gogeom_geom0_Layout_c, gogeom_geom0_Layout_c_g, gogeom_geom0_FlatCoords_c, gogeom_geom0_FlatCoords_c_g,
    gogeom_geom2_Ends_b, gogeom_geom2_Ends_b_g, gogeom_geom0_Endss_d, gogeom_geom0_Endss_d_g, Option.bind_some, impl_floats_b, impl_floats_b_g, impl_ints, impl_ints_g, intss0 hNl, h2]
  cases f with
  | nil => rfl
  | cons x f =>
    have : Nat.ble 1 (x :: f).length = true := Nat.ble_eq_true_of_le (by simp)
    rw [this, Bool.not_true, cond_false, lim_le (by omega)]
    rfl
/-- What is set. -/
theorem set_of (k l : Int) (c : List (Option (List Nat))) (hk : k = 2 ∨ k = 8 ∨ k = 4) (hl : 1 ≤ l ∧ l ≤ 9) (hc : c.length + tot c ≤ 2000) (hq : ∀ p ∈ c, (pl p).length ≠ 0 ∨ (p = none ∧ k = 4)) :
    ∃ r, impl_SetLine N k l c = some (r, c.all (fit l (k == 4)), ()) ∧
      (c.all (fit l (k == 4)) = true → r = (k, l, 0, wFlat c, (bif k == 4 then wEnds 0 c else []), [], [], ())) := by
  have hN : 0 < N := by omega
  have hco := coords hNl c hc (fun p hp => (hq p hp).imp id And.left)
  have hst := stride_impl N hl.1
  have hfl : (wFlat c).length ≤ 2000 := by rw [wFlat_len]; omega
  have hnone : k ≠ 4 → ∀ p ∈ c, fit l (k == 4) p = decide (((pl p).length : Int) = strd l) := by
    intro h p hp
    have : (k == 4) = false := by simpa using h
    unfold fit; rw [this]
    by_cases e : ((pl p).length : Int) = strd l <;> simp [e]
  rcases hk with rfl | rfl | rfl
  · have hd := deflate hNl (strd l) c hc
    simp only [impl_SetLine, impl_SetLine_g, gogeom_NewLineString, gogeom_NewLineString_g, gogeom_NewLineStringFlat_b, gogeom_NewLineStringFlat_b_g, hst, hco, Option.bind_some,
      gogeom_LineString_SetCoords, gogeom_LineString_SetCoords_g, gogeom_geom1_setCoords, gogeom_geom1_setCoords_g, gogeom_geom1_setCoords_j0, gogeom_geom1_setCoords_g0, gate_pos hN]
    rw [show ((2 : Int) == 2) = true from rfl, cond_true]
    rcases hd with ⟨h1, h2⟩ | ⟨⟨v, h1⟩, p, hp, h2⟩
    · rw [h1]
      simp only [Option.bind_some, Sum.elim_inr]
      rw [plain1 hNl _ _ _ hfl]
      refine ⟨_, ?_, fun _ => rfl⟩
      have : c.all (fit l ((2 : Int) == 4)) = true := List.all_eq_true.2 fun p hp => by rw [hnone (by decide) p hp]; exact decide_eq_true (h2 p hp)
      rw [this]; rfl
    · rw [h1]
      simp only [Option.bind_some, Sum.elim_inr, Sum.elim_inl]
      have : c.all (fit l ((2 : Int) == 4)) = false := by
        rw [Bool.eq_false_iff]; intro h
        have := List.all_eq_true.1 h p hp
        rw [hnone (by decide) p hp] at this
        exact h2 (of_decide_eq_true this)
      rw [this]
      exact ⟨_, rfl, fun h => by cases h⟩
  · have hd := deflate hNl (strd l) c hc
    simp only [impl_SetLine, impl_SetLine_g, gogeom_NewLinearRing, gogeom_NewLinearRing_g, gogeom_NewLinearRingFlat_b, gogeom_NewLinearRingFlat_b_g, hst, hco, Option.bind_some,
      gogeom_LinearRing_SetCoords, gogeom_LinearRing_SetCoords_g, gogeom_geom1_setCoords, gogeom_geom1_setCoords_g, gogeom_geom1_setCoords_j0, gogeom_geom1_setCoords_g0, gate_pos hN]
    rw [show ((8 : Int) == 2) = false from rfl, show ((8 : Int) == 8) = true from rfl, cond_true, cond_false]
    rcases hd with ⟨h1, h2⟩ | ⟨⟨v, h1⟩, p, hp, h2⟩
    · rw [h1]
      simp only [Option.bind_some, Sum.elim_inr]
      rw [plain2 hNl _ _ _ hfl]
      refine ⟨_, ?_, fun _ => rfl⟩
      have : c.all (fit l ((8 : Int) == 4)) = true := List.all_eq_true.2 fun p hp => by rw [hnone (by decide) p hp]; exact decide_eq_true (h2 p hp)
      rw [this]; rfl
    · rw [h1]
      simp only [Option.bind_some, Sum.elim_inr, Sum.elim_inl]
      have : c.all (fit l ((8 : Int) == 4)) = false := by
        rw [Bool.eq_false_iff]; intro h
        have := List.all_eq_true.1 h p hp
        rw [hnone (by decide) p hp] at this
        exact h2 (of_decide_eq_true this)
      rw [this]
      exact ⟨_, rfl, fun h => by cases h⟩
  · have hd := multi hNl l (strd l) c hc
    have hmp : gogeom_NewMultiPointFlat_b N l [] = some ((l, strd l, [], 0, [], ()), ()) := by
      simp only [gogeom_NewMultiPointFlat_b, gogeom_NewMultiPointFlat_b_g, hst, Option.bind_some]
      obtain ⟨m, hm⟩ : ∃ m, N = m + 1 := ⟨N - 1, by omega⟩
      have : gogeom_NewMultiPointFlat_b_l0 N N l (strd l) [] = gogeom_NewMultiPointFlat_b_l0 N (m + 1) l (strd l) [] := congrArg (fun k => gogeom_NewMultiPointFlat_b_l0 N k l (strd l) []) hm
      rw [this]; rfl
    simp only [impl_SetLine, impl_SetLine_g, gogeom_NewMultiPoint, gogeom_NewMultiPoint_g, hmp, hco, Option.bind_some]
    rw [show ((4 : Int) == 2) = false from rfl, show ((4 : Int) == 8) = false from rfl, show ((4 : Int) == 4) = true from rfl, cond_false, cond_false, cond_true]
    rcases hd with ⟨h1, h2⟩ | ⟨⟨v, h1⟩, p, hp, h2⟩
    · rw [h1]
      simp only [Option.bind_some, Sum.elim_inr]
      rw [plain3 hNl _ _ _ _ hfl (by rw [wEnds_len]; omega)]
      refine ⟨_, ?_, fun _ => rfl⟩
      have : c.all (fit l true) = true := List.all_eq_true.2 fun p hp => by
        unfold fit
        rcases h2 p hp with h | h
        · simp [h]
        · simp [h]
      rw [this]; rfl
    · rw [h1]
      simp only [Option.bind_some, Sum.elim_inr, Sum.elim_inl]
      have : c.all (fit l true) = false := by
        rw [Bool.eq_false_iff]; intro h
        have := List.all_eq_true.1 h p hp
        unfold fit at this
        have h3 : p.isNone = false := by cases p; exact absurd rfl h2.2; rfl
        rw [h3] at this
        simp at this
        exact h2.1 this
      rw [this]
      exact ⟨_, rfl, fun h => by cases h⟩
theorem sameF (l : List Nat) (hl : l.length ≤ 140737488351232) : spec_SameFloats N l l = some true := by
  unfold spec_SameFloats spec_SameFloats_g
  rw [bne_self_eq_false, cond_false]
  rcases checkLoop0 (xs := l) (L := fun n i => spec_SameFloats_l0 N n l l i) (e := fun _ => False) (fin := some true) (fun _ => True)
    (fun n => by
      simp only [spec_SameFloats_l0, spec_SameFloats_g0, Bool.cond_decide]
      rw [if_neg (Int.lt_irrefl _)])
    (fun n i hi => by
      refine .inr ⟨?_, trivial⟩
      simp only [spec_SameFloats_l0, spec_SameFloats_g0, Bool.cond_decide, math_Float64bits]
      rw [if_pos (by omega), nth_get hi]
      simp only [Option.bind_some, bne_self_eq_false, cond_false]
      rw [succ_in hi (by omega)]) N (by omega) with h | ⟨h, _⟩
  · exact h.elim
  · exact h
theorem sameI (l : List Int) (hl : l.length ≤ 140737488351232) : spec_sameInts N l l = some true := by
  unfold spec_sameInts spec_sameInts_g
  rw [bne_self_eq_false, cond_false]
  rcases checkLoop0 (xs := l) (L := fun n i => spec_sameInts_l0 N n l l i) (e := fun _ => False) (fin := some true) (fun _ => True)
    (fun n => by
      simp only [spec_sameInts_l0, spec_sameInts_g0, Bool.cond_decide]
      rw [if_neg (Int.lt_irrefl _)])
    (fun n i hi => by
      refine .inr ⟨?_, trivial⟩
      simp only [spec_sameInts_l0, spec_sameInts_g0, Bool.cond_decide]
      rw [if_pos (by omega), nth_get hi]
      simp only [Option.bind_some, bne_self_eq_false, cond_false]
      rw [succ_in hi (by omega)]) N (by omega) with h | ⟨h, _⟩
  · exact h.elim
  · exact h

theorem same (g : Geo) (h1 : g.flat.length ≤ 2000) (h2 : g.ends.length ≤ 2000) (h3 : g.endss = []) (h4 : g.kids = []) : spec_SameGeom N N g g = some true := by
  have hN : 0 < N := by omega
  obtain ⟨m, hm⟩ : ∃ m, N = m + 1 := ⟨N - 1, by omega⟩
  have e : spec_SameGeom N N g g = spec_SameGeom N (m + 1) g g := congrArg (fun k => spec_SameGeom N k g g) hm
  rw [e]
  simp only [spec_SameGeom, spec_SameGeom_g]
  rw [sameF hNl _ (by omega), sameI hNl _ (by omega)]
  simp only [bne_self_eq_false, cond_false, Option.bind_some, Bool.not_true, gate_pos hN]
  have e1 : spec_SameGeom_l1 N (spec_SameGeom N m) N g g 0 = spec_SameGeom_l1 N (spec_SameGeom N m) (m + 1) g g 0 := congrArg (fun k => spec_SameGeom_l1 N (spec_SameGeom N m) k g g 0) hm
  rw [e1]
  simp only [spec_SameGeom_l1, spec_SameGeom_g1, h3]
  have e2 : spec_SameGeom_l2 N (spec_SameGeom N m) N g g 0 = spec_SameGeom_l2 N (spec_SameGeom N m) (m + 1) g g 0 := congrArg (fun k => spec_SameGeom_l2 N (spec_SameGeom N m) k g g 0) hm
  rw [e2]
  simp only [spec_SameGeom_l2, spec_SameGeom_g2, h4]
  rfl
theorem law (k l : Int) (c : List (Option (List Nat))) : laws_FnSetLine N k l c = some true := by
  have hN : 0 < N := by omega
  unfold laws_FnSetLine laws_FnSetLine_g
  rcases zz hNl c with h | ⟨h, hc1, hc2⟩
  · rw [h]; rfl
  rw [h]
  simp only [Option.bind_some, Bool.not_true, cond_false, count hNl c hc1 hc2, laws_FnSetLine_j0, laws_FnSetLine_j1, gate_pos hN, laws_FnSetLine_g0, laws_FnSetLine_g1]
  have key : (k = 2 ∨ k = 8 ∨ k = 4) → (1 ≤ l ∧ l ≤ 9) → 
      (bif (decide (2 + (c.length : Int) + (tot c : Int) > 2000)) then some true else laws_FnSetLine_l2 N N k l c 0) = some true := by
    intro hk hl
    by_cases hb : 2 + (c.length : Int) + (tot c : Int) > 2000
    · rw [decide_eq_true hb]; rfl
    rw [decide_eq_false hb, cond_false]
    have hc : c.length + tot c ≤ 2000 := by omega
    by_cases hq : ∀ p ∈ c, (pl p).length ≠ 0 ∨ (p = none ∧ k = 4)
    · obtain ⟨r, hr1, hr2⟩ := set_of hNl k l c hk hl hc hq
      obtain ⟨r', hr1', _⟩ := set_of hNl 2 1 [some [4607182418800017408, 4611686018427387904]] (.inl rfl) (by omega) (by simp [tot, pl]) (fun p hp => by rw [List.mem_singleton.1 hp]; left; simp [pl])
      have one : (List.all [some [4607182418800017408, 4611686018427387904]] (fit 1 ((2 : Int) == 4))) = true := by simp [fit, pl, strd]
      rw [one] at hr1'
      have hfl := flat_of hNl l (k == 4) c hc
      rcases checkLoop0 (xs := c) (L := fun n i => laws_FnSetLine_l2 N n k l c i) (e := fun r => r = some true) (fin := some true) (fun _ => True)
        (fun n => by
          simp only [laws_FnSetLine_l2, laws_FnSetLine_g2, Bool.cond_decide]
          rw [if_neg (Int.lt_irrefl _), hfl, hr1]
          rw [show Nat.ble 1 ([4607182418800017408, 4611686018427387904] : List Nat).length = true from rfl]
          simp only [Option.bind_some, cond_true, hr1', beq_self_eq_true]
          cases ha : c.all (fit l (k == 4)) with
          | false => rfl
          | true =>
            rw [hr2 ha]
            simp only [Bool.not_true, cond_false]
            rw [same hNl (Geo.mk k l 0 (wFlat c) (bif k == 4 then wEnds 0 c else []) [] []) (by show (wFlat c).length ≤ _; rw [wFlat_len]; omega)
              (by show (bif k == 4 then wEnds 0 c else []).length ≤ _; cases k == 4 with | false => simp | true => rw [cond_true, wEnds_len]; omega) rfl rfl]
            rfl)
        (fun n i hi => by
          have hm := List.getElem_mem hi
          have hg : c[i].getD [] = pl c[i] := rfl
          right
          refine ⟨?_, trivial⟩
          simp only [laws_FnSetLine_l2, laws_FnSetLine_g2, Bool.cond_decide, laws_FnSetLine_j3, laws_FnSetLine_g3, gate_pos hN]
          rw [if_pos (by omega), nth_get hi, succ_in hi (by omega)]
          simp only [Option.bind_some, hg]
          rcases hq _ hm with h | ⟨h, h'⟩
          · have : (((pl c[i]).length : Int) == 0) = false := by simp; intro e; rw [e] at h; exact h rfl
            rw [this, cond_false]
          · subst h'
            rw [h]
            rfl) N (by omega) with h | ⟨h, _⟩
      · exact h
      · exact h
    · -- a place without numbers: nothing is told
      have hex : ∃ i, ∃ h : i < c.length, ¬((pl c[i]).length ≠ 0 ∨ (c[i] = none ∧ k = 4)) := by
        by_cases hx : ∃ i, ∃ h : i < c.length, ¬((pl c[i]).length ≠ 0 ∨ (c[i] = none ∧ k = 4))
        · exact hx
        · exfalso; apply hq; intro p hp
          obtain ⟨i, hi, rfl⟩ := List.mem_iff_getElem.1 hp
          by_cases hy : ((pl c[i]).length ≠ 0 ∨ (c[i] = none ∧ k = 4))
          · exact hy
          · exact absurd ⟨i, hi, hy⟩ hx
      obtain ⟨j, hj, hbad⟩ := hex
      rcases checkLoop0 (xs := c.take (j + 1)) (L := fun n i => if i ≤ j then laws_FnSetLine_l2 N n k l c i else none) (e := fun r => r = some true) (fin := none) (fun p => (pl p).length ≠ 0 ∨ (p = none ∧ k = 4))
        (fun n => by
          rw [List.length_take, if_neg (by omega)])
        (fun n i hi => by
          rw [List.length_take] at hi
          have hi' : i < c.length := by omega
          have hg : c[i].getD [] = pl c[i] := rfl
          have ht : (c.take (j + 1))[i]'(by rw [List.length_take]; omega) = c[i] := List.getElem_take
          rw [ht, if_pos (by omega)]
          by_cases hy : ((pl c[i]).length ≠ 0 ∨ (c[i] = none ∧ k = 4))
          · right
            refine ⟨?_, hy⟩
            have hij : i ≠ j := fun e => by subst e; exact hbad hy
            rw [if_pos (by omega)]
            simp only [laws_FnSetLine_l2, laws_FnSetLine_g2, Bool.cond_decide, laws_FnSetLine_j3, laws_FnSetLine_g3, gate_pos hN]
            rw [if_pos (by omega), nth_get hi', succ_in hi' (by omega)]
            simp only [Option.bind_some, hg]
            rcases hy with h | ⟨h, h'⟩
            · have : (((pl c[i]).length : Int) == 0) = false := by simp; intro e; rw [e] at h; exact h rfl
              rw [this, cond_false]
            · subst h'
              rw [h]
              rfl
          · left
            simp only [laws_FnSetLine_l2, laws_FnSetLine_g2, Bool.cond_decide, laws_FnSetLine_j3, laws_FnSetLine_g3, gate_pos hN]
            rw [if_pos (by omega), nth_get hi']
            simp only [Option.bind_some, hg]
            have h0 : (pl c[i]).length = 0 := by
              by_cases e : (pl c[i]).length = 0
              · exact e
              · exact absurd (.inl e) hy
            rw [h0]
            rw [show ((((0 : Nat) : Int)) == 0) = true from rfl, cond_true]
            cases hn : c[i] with
            | some xs => rfl
            | none =>
              have : (k != 4) = true := by
                simp only [bne_iff_ne, ne_eq]
                intro e
                exact hy (.inr ⟨hn, e⟩)
              rw [this]; rfl) N (by rw [List.length_take]; omega) with h | ⟨h, h2⟩
      · rw [if_pos (by omega)] at h; exact h
      · have hm : c[j] ∈ c.take (j + 1) := by
          rw [take_snoc' hj]; exact List.mem_append.2 (.inr (List.mem_singleton.2 rfl))
        exact absurd (h2 _ hm) hbad
  by_cases hk : k = 2 ∨ k = 8 ∨ k = 4
  · by_cases hl : 1 ≤ l ∧ l ≤ 9
    · have k1 := key hk hl
      have l1 : decide (l < 1) = false := decide_eq_false (by omega)
      have l2 : decide (l > 9) = false := decide_eq_false (by omega)
      rw [l1, l2]
      rcases hk with rfl | rfl | rfl
      · exact k1
      · exact k1
      · exact k1
    · have l1 : (decide (l < 1) = true) ∨ (decide (l < 1) = false ∧ decide (l > 9) = true) := by
        by_cases e : l < 1
        · exact .inl (decide_eq_true e)
        · exact .inr ⟨decide_eq_false e, decide_eq_true (by omega)⟩
      rcases l1 with l1 | ⟨l1, l2⟩
      · rw [l1]; cases k != 2 <;> cases k != 8 <;> cases k != 4 <;> rfl
      · rw [l1, l2]; cases k != 2 <;> cases k != 8 <;> cases k != 4 <;> rfl
  · have e2 : (k != 2) = true := by simp; intro e; exact hk (.inl e)
    have e8 : (k != 8) = true := by simp; intro e; exact hk (.inr (.inl e))
    have e4 : (k != 4) = true := by simp; intro e; exact hk (.inr (.inr e))
    rw [e2, e8, e4]; rfl
end
end Go.Proofs.Ytnoamanjajighaa.PvSetLine
