/- The plain law of FnBoxSetCoords: a box that is set to two places has for each axis the lesser and the greater of their numbers. -/
import Derived.Test.YtfhplocmlmmnoaaG3
import Derived.Test.YtfhplocmlmmnoaaPv2
import Derived.Test.YtfhplocmlmmnoaaFl8
set_option linter.unusedVariables false
set_option linter.unusedSectionVars false
set_option linter.unusedSimpArgs false
namespace Go.Proofs.Ytfhplocmlmmnoaa.PvBoxSet
open Go.Av Go
open Go.Proofs.Ytfhplocmlmmnoaa.G3
abbrev Bx := Int × (List Nat × (List Nat × Unit))
def strd (l : Int) : Int := if l < 1 then 0 else if l = 1 then 2 else if l = 2 then 3 else if l = 3 then 3 else l
theorem stride_spec (N : Nat) (l : Int) : spec_Stride N l = some (strd l) := by
  simp only [spec_Stride, spec_Stride_g, strd, beq_iff_eq, decide_eq_true_eq, Bool.cond_eq_ite, apply_ite some]
theorem stride_geom (N : Nat) (l : Int) (h : 1 ≤ l) : gogeom_Layout_Stride N l = some (strd l) := by
  simp only [gogeom_Layout_Stride, gogeom_Layout_Stride_g, strd, beq_iff_eq, Bool.cond_eq_ite, apply_ite some]
  repeat' split
  all_goals first | rfl | omega | (subst_vars; rfl) | skip
theorem strd_le {l : Int} (h : l ≤ 9) : strd l ≤ 9 := by unfold strd; repeat' split
                                                         all_goals omega
theorem strd_ge {l : Int} : 0 ≤ strd l := by unfold strd; repeat' split
                                             all_goals omega
section
variable {N : Nat} (hN : 0 < N) (hNl : 9223372036854775808 ≤ N)
include hN hNl
theorem bBox1 (b : Bx) (h1 : b.2.1.length ≤ 2147483647) (h2 : b.2.2.1.length ≤ 2147483647) : ∃ t, laws_bBox N [b] = some t := by
  obtain ⟨n, hn⟩ : ∃ m, N = m + 1 := ⟨N - 1, by omega⟩
  unfold laws_bBox laws_bBox_g
  rw [show laws_bBox_l0 N N = laws_bBox_l0 N (n + 1) by rw [← hn]]
  have fin : laws_bBox_l0 N n [b] 1 = some true := by
    obtain ⟨k, rfl⟩ : ∃ k, n = k + 1 := ⟨n - 1, by omega⟩
    simp only [laws_bBox_l0, laws_bBox_g0, Bool.cond_decide]
    rw [if_neg (by simp)]
  simp only [laws_bBox_l0, laws_bBox_g0, laws_bBox_j1, laws_bBox_g1, gate_pos hN, Bool.cond_decide]
  rw [if_pos (by simp), show nth [b] 0 = some b from rfl]
  simp only [Option.bind_some, stride_spec]
  by_cases a1 : b.1 < 0
  · rw [if_pos a1]; exact ⟨_, rfl⟩
  rw [if_neg a1]
  by_cases a2 : b.1 > 9
  · rw [if_pos a2]; exact ⟨_, rfl⟩
  rw [if_neg a2]
  cases a3 : ((b.2.1.length : Int) != strd b.1) with
  | true => exact ⟨_, rfl⟩
  | false =>
    simp only [cond_false]
    cases a4 : ((b.2.2.1.length : Int) != (b.2.1.length : Int)) with
    | true => exact ⟨_, rfl⟩
    | false =>
      simp only [cond_false]
      have a5 : b.2.2.1.length = b.2.1.length := by simp at a4; omega
      rcases checkLoop0 (xs := b.2.1) (L := fun m i => laws_bBox_l2 N (laws_bBox_l0 N n [b]) [b] m 0 b i) (e := fun o => ∃ t, o = some t) (fin := some true) (fun _ => True)
        (fun m => by
          simp only [laws_bBox_l2, laws_bBox_g2, Bool.cond_decide]
          rw [if_neg (by omega), show IntKind.i64.wrap (0 + 1) = 1 by decide, fin])
        (fun m i hi => by
          simp only [laws_bBox_l2, laws_bBox_g2, Bool.cond_decide, laws_gNumber, laws_gNumber_g]
          rw [if_pos (by omega), nth_get hi, nth_get (show i < b.2.2.1.length by omega), succ_in hi (by omega)]
          simp only [Option.bind_some]
          cases feq b.2.1[i] b.2.1[i] with
          | false => exact .inl ⟨_, rfl⟩
          | true =>
            cases feq b.2.2.1[i] (b.2.2.1[i]) with
            | false => exact .inl ⟨_, rfl⟩
            | true => exact .inr ⟨rfl, trivial⟩) N (by omega) with h | ⟨h, _⟩
      · exact h
      · exact ⟨_, h⟩
theorem each (l : List Nat) (hl : l.length ≤ 2147483647) : ∃ t, laws_gEach N N (Geo.mk 0 0 0 l [] [] []) = some t ∧ (t = true → ∀ x ∈ l, isnan x = false) := by
  obtain ⟨d, hd⟩ : ∃ m, N = m + 1 := ⟨N - 1, by omega⟩
  rw [show laws_gEach N N = laws_gEach N (d + 1) by rw [← hd]]
  have kf : (Geo.mk 0 0 0 l [] [] []).flat = l := rfl
  have kk : (Geo.mk 0 0 0 l [] [] []).kids = [] := rfl
  have h0 : laws_gEach_l1 N (laws_gEach N d) N (Geo.mk 0 0 0 l [] [] []) 0 = some true := by
    have e : ∀ m, laws_gEach_l1 N (laws_gEach N d) (m + 1) (Geo.mk 0 0 0 l [] [] []) 0 = some true := by
      intro m
      simp only [laws_gEach_l1, laws_gEach_g1, Bool.cond_decide, kk]
      rw [if_neg (by simp)]
    rw [hd]; exact hd ▸ e d
  simp only [laws_gEach, laws_gEach_g]
  rcases checkLoop0 (xs := l) (L := fun n i => laws_gEach_l0 N (laws_gEach N d) n (Geo.mk 0 0 0 l [] [] []) i) (e := fun o => o = some false) (fin := some true) (fun x => isnan x = false)
    (fun n => by
      simp only [laws_gEach_l0, laws_gEach_g0, Bool.cond_decide, kf]
      rw [if_neg (by omega), h0])
    (fun n i hi => by
      simp only [laws_gEach_l0, laws_gEach_g0, Bool.cond_decide, laws_gNumber, laws_gNumber_g, kf]
      rw [if_pos (by omega), nth_get hi, succ_in hi (by omega)]
      simp only [Option.bind_some, feq_self]
      cases hn : isnan l[i] with
      | true => exact .inl rfl
      | false => exact .inr ⟨rfl, rfl⟩) N (by omega) with h | ⟨h, hq⟩
  · exact ⟨false, h, fun h => by cases h⟩
  · exact ⟨true, h, fun _ => hq⟩
/-- The j-th number of a list is the lesser (greater) of two. -/
def At (mx : Bool) (p q : List Nat) (l : List Nat) (j : Nat) : Prop := ∃ z x y, l[j]? = some z ∧ p[j]? = some x ∧ q[j]? = some y ∧ isnan z = false ∧ ikey z = bif mx then max (ikey x) (ikey y) else min (ikey x) (ikey y)
theorem At.app {mx : Bool} {p q l : List Nat} {j : Nat} (h : At mx p q l j) (z : Nat) : At mx p q (l ++ [z]) j := by
  obtain ⟨u, x, y, h1, h2⟩ := h
  have := (List.getElem?_eq_some_iff.1 h1).1
  exact ⟨u, x, y, by rw [List.getElem?_append_left this]; exact h1, h2⟩
theorem At.set {mx : Bool} {p q l : List Nat} {j k : Nat} (h : At mx p q l j) (hne : k ≠ j) (z : Nat) : At mx p q (l.set k z) j := by
  obtain ⟨u, x, y, h1, h2⟩ := h
  exact ⟨u, x, y, by rw [List.getElem?_set_ne hne]; exact h1, h2⟩
theorem setCoords (b : Bx) (p q : List Nat) (h1 : 1 ≤ b.1 ∧ b.1 ≤ 9) (hp : (p.length : Int) = strd b.1) (hq : q.length = p.length) (np : ∀ x ∈ p, isnan x = false) (nq : ∀ x ∈ q, isnan x = false) (hb1 : b.2.1.length ≤ 2147483647) (hb2 : b.2.2.1.length ≤ 2147483647) :
    ∃ l m, impl_BoxSetCoords N b p q = some ((b.1, l, m, ()), true, ()) ∧ l.length = p.length ∧ m.length = p.length ∧ (∀ j < p.length, At false p q l j) ∧ (∀ j < p.length, At true p q m j) := by
  have hs9 := strd_le h1.2
  unfold impl_BoxSetCoords impl_BoxSetCoords_g impl_box impl_box_g impl_floats impl_floats_g gogeom_DoorBounds_b gogeom_DoorBounds_b_g
  rw [lim_le (n := b.2.1.length * 8) (by omega), lim_le (n := b.2.2.1.length * 8) (by omega)]
  simp only [Option.bind_some]
  unfold gogeom_Bounds_SetCoords gogeom_Bounds_SetCoords_g
  rw [stride_geom N b.1 h1.1]
  simp only [Option.bind_some]
  have hmk : mkn (strd b.1) (strd b.1) 8 = some p.length := by
    unfold mkn
    rw [if_pos (by omega)]
    congr 1; omega
  rw [hmk, ← hp]
  simp only [Option.bind_some]
  rcases stateLoop0 (xs := p) (L := fun n i (st : List Nat × List Nat) => gogeom_Bounds_SetCoords_l0 N n p q (p.length : Int) (b.1, b.2.1, b.2.2.1, ()) i st.1 st.2) (e := fun _ => False)
    (fin := fun st => some ((), (b.1, st.1, st.2, ()), ()))
    (fun i st => st.1.length = p.length ∧ st.2.length = p.length ∧ (∀ j < i, At false p q st.1 j) ∧ (∀ j < i, At true p q st.2 j))
    (fun n st _ => by
      simp only [gogeom_Bounds_SetCoords_l0, gogeom_Bounds_SetCoords_g0, Bool.cond_decide]
      rw [if_neg (by omega)])
    (fun n i st hi hP => by
      right
      obtain ⟨l, m⟩ := st
      obtain ⟨p1, p2, p3, p4⟩ := hP
      dsimp only at p1 p2 p3 p4
      have hiq : i < q.length := by omega
      have nx := np _ (List.getElem_mem hi)
      have ny := nq _ (List.getElem_mem hiq)
      simp only [gogeom_Bounds_SetCoords_l0, gogeom_Bounds_SetCoords_g0, Bool.cond_decide, math_Min, math_Min_g, math_Max, math_Max_g, math_archMin, math_archMax]
      rw [if_pos (by omega), nth_get hi, nth_get hiq, succ_in hi (by omega)]
      simp only [Option.bind_some]
      rw [chk_nat (show i < l.length by omega), chk_nat (show i < m.length by omega)]
      simp only [Option.bind_some]
      refine ⟨(l.set i (fpick true .lt p[i] q[i]), m.set i (fpick false .gt p[i] q[i])), rfl, by simp [p1], by simp [p2], fun j hj => ?_, fun j hj => ?_⟩
      · rcases Nat.lt_or_ge j i with hlt | hge
        · exact (p3 j hlt).set hN hNl (by omega) _
        · obtain rfl : j = i := by omega
          obtain ⟨m1, m2⟩ := fpick_min nx ny
          exact ⟨_, _, _, List.getElem?_set_self (by omega), List.getElem?_eq_getElem hi, List.getElem?_eq_getElem hiq, m1, m2⟩
      · rcases Nat.lt_or_ge j i with hlt | hge
        · exact (p4 j hlt).set hN hNl (by omega) _
        · obtain rfl : j = i := by omega
          obtain ⟨m1, m2⟩ := fpick_max nx ny
          exact ⟨_, _, _, List.getElem?_set_self (by omega), List.getElem?_eq_getElem hi, List.getElem?_eq_getElem hiq, m1, m2⟩) N (List.replicate p.length 0, List.replicate p.length 0) (by omega)
    ⟨by simp, by simp, fun j hj => by omega, fun j hj => by omega⟩ with h | ⟨st, h, p1, p2, p3, p4⟩
  · exact h.elim
  · have h' : gogeom_Bounds_SetCoords_l0 N N p q (p.length : Int) (b.1, b.2.1, b.2.2.1, ()) 0 (List.replicate p.length 0) (List.replicate p.length 0) = _ := h
    rw [h']
    simp only [Option.bind_some, impl_plainBox, impl_plainBox_g, gogeom_DoorBoundsParts_b, gogeom_DoorBoundsParts_b_g, impl_floats, impl_floats_g]
    rw [lim_le (n := st.1.length * 8) (by omega), lim_le (n := st.2.length * 8) (by omega)]
    exact ⟨st.1, st.2, rfl, p1, p2, p3, p4⟩
theorem sameBox (lay : Int) (p q l m l' m' : List Nat) (hp : p.length ≤ 9) (a1 : l.length = p.length) (a2 : m.length = p.length) (a3 : l'.length = p.length) (a4 : m'.length = p.length)
    (b1 : ∀ j < p.length, At false p q l j) (b2 : ∀ j < p.length, At true p q m j) (b3 : ∀ j < p.length, At false p q l' j) (b4 : ∀ j < p.length, At true p q m' j) : spec_SameBox N (lay, l, m, ()) (lay, l', m', ()) = some true := by
  have at_eq : ∀ (mx : Bool) (l l' : List Nat) (j : Nat) (h : j < l.length) (h' : j < l'.length), At mx p q l j → At mx p q l' j → fne l[j] l'[j] = false := by
    intro mx l l' j h h' c1 c2
    obtain ⟨z, x, y, d1, d2, d3, d4, d5⟩ := c1
    obtain ⟨z', x', y', e1, e2, e3, e4, e5⟩ := c2
    rw [List.getElem?_eq_getElem h] at d1
    rw [List.getElem?_eq_getElem h'] at e1
    rw [d2] at e2
    rw [d3] at e3
    cases d1; cases e1; cases e2; cases e3
    exact fne_key d4 e4 (by rw [d5, e5])
  unfold spec_SameBox spec_SameBox_g
  simp only [bne_self_eq_false, cond_false, spec_SameBox_j0, spec_SameBox_g0, gate_pos hN]
  rw [show ((l.length : Int) != (l'.length : Int)) = false by simp; omega, show ((m.length : Int) != (m'.length : Int)) = false by simp; omega, show ((l.length : Int) != (m.length : Int)) = false by simp; omega]
  simp only [cond_false]
  rcases checkLoop0 (xs := l) (L := fun n i => spec_SameBox_l1 N n (lay, l, m, ()) (lay, l', m', ()) i) (e := fun _ => False) (fin := some true) (fun _ => True)
    (fun n => by
      simp only [spec_SameBox_l1, spec_SameBox_g1, Bool.cond_decide]
      rw [if_neg (by omega)])
    (fun n i hi => by
      right
      simp only [spec_SameBox_l1, spec_SameBox_g1, Bool.cond_decide]
      rw [if_pos (by omega), nth_get hi, nth_get (show i < l'.length by omega), nth_get (show i < m.length by omega), nth_get (show i < m'.length by omega), succ_in hi (by omega)]
      simp only [Option.bind_some]
      rw [at_eq false l l' i hi (by omega) (b1 i (by omega)) (b3 i (by omega)), at_eq true m m' i (by omega) (by omega) (b2 i (by omega)) (b4 i (by omega))]
      exact ⟨rfl, trivial⟩) N (by omega) with h | ⟨h, _⟩
  · exact h.elim
  · exact h
theorem law (b : Bx) (p q : List Nat) : laws_FnBoxSetCoords N b p q = some true := by
  unfold laws_FnBoxSetCoords laws_FnBoxSetCoords_g
  simp only [laws_FnBoxSetCoords_j0, laws_FnBoxSetCoords_g0, laws_FnBoxSetCoords_j1, laws_FnBoxSetCoords_g1, gate_pos hN, laws_zzFits1, laws_zzFits1_g, Bool.cond_decide]
  by_cases f1 : (b.2.1.length : Int) > 2147483647
  · rw [if_pos f1]; rfl
  rw [if_neg f1]
  by_cases f2 : (b.2.2.1.length : Int) > 2147483647
  · rw [if_pos f2]; rfl
  rw [if_neg f2]
  simp only [Option.bind_some, Bool.not_true, cond_false]
  by_cases f3 : (p.length : Int) > 2147483647
  · rw [if_pos f3]
  rw [if_neg f3]
  by_cases f4 : (q.length : Int) > 2147483647
  · rw [if_pos f4]
  rw [if_neg f4]
  obtain ⟨t, ht⟩ := bBox1 hN hNl b (by omega) (by omega)
  have ht' : laws_bBox N [(b.1, b.2.1, b.2.2.1, ())] = some t := ht
  rw [ht']
  simp only [Option.bind_some]
  cases t with
  | false => rfl
  | true =>
  simp only [Bool.not_true, cond_false, laws_gCoord, laws_gCoord_g, Bool.cond_decide, stride_spec]
  by_cases g1 : b.1 ≥ 1
  rotate_left
  · rw [if_neg g1]; rfl
  rw [if_pos g1]
  by_cases g2 : b.1 ≤ 9
  rotate_left
  · rw [if_neg g2]; rfl
  rw [if_pos g2]
  simp only [Option.bind_some]
  cases g3 : ((p.length : Int) == strd b.1) with
  | false => rfl
  | true =>
  simp only [Bool.not_true, cond_false]
  rw [if_pos g1, if_pos g2]
  simp only [Option.bind_some]
  cases g4 : ((q.length : Int) == strd b.1) with
  | false => rfl
  | true =>
  simp only [Bool.not_true, cond_false]
  have g3' : (p.length : Int) = strd b.1 := by simpa using g3
  have g4' : (q.length : Int) = strd b.1 := by simpa using g4
  have hs9 := strd_le g2
  obtain ⟨t1, e1, n1⟩ := each hN hNl p (by omega)
  rw [e1]
  simp only [Option.bind_some]
  cases t1 with
  | false => rfl
  | true =>
  simp only [Bool.not_true, cond_false]
  obtain ⟨t2, e2, n2⟩ := each hN hNl q (by omega)
  rw [e2]
  simp only [Option.bind_some]
  cases t2 with
  | false => rfl
  | true =>
  simp only [Bool.not_true, cond_false]
  have n1 := n1 rfl
  have n2 := n2 rfl
  obtain ⟨l, m, s1, s2, s3, s4, s5⟩ := setCoords hN hNl b p q ⟨g1, g2⟩ g3' (by omega) n1 n2 (by omega) (by omega)
  rcases stateLoop0 (xs := p) (L := fun n i (st : List Nat × List Nat) => laws_FnBoxSetCoords_l2 N n p q b i st.1 st.2) (e := fun _ => False) (fin := fun _ => some true)
    (fun i st => st.1.length = i ∧ st.2.length = i ∧ (∀ j < i, At false p q st.1 j) ∧ (∀ j < i, At true p q st.2 j))
    (fun n st hP => by
      obtain ⟨p1, p2, p3, p4⟩ := hP
      simp only [laws_FnBoxSetCoords_l2, laws_FnBoxSetCoords_g2, Bool.cond_decide]
      rw [if_neg (by omega)]
      have s1' : impl_BoxSetCoords N (b.1, b.2.1, b.2.2.1, ()) p q = _ := s1
      rw [s1']
      simp only [Option.bind_some, cond_true]
      rw [sameBox hN hNl b.1 p q l m st.1 st.2 (by omega) s2 s3 p1 p2 s4 s5 p3 p4]
      rfl)
    (fun n i st hi hP => by
      right
      obtain ⟨l, m⟩ := st
      obtain ⟨p1, p2, p3, p4⟩ := hP
      dsimp only at p1 p2 p3 p4
      have hiq : i < q.length := by omega
      obtain ⟨z1, y1, y2, y3⟩ := fmm_key false (n1 _ (List.getElem_mem hi)) (n2 _ (List.getElem_mem hiq))
      obtain ⟨z2, w1, w2, w3⟩ := fmm_key true (n1 _ (List.getElem_mem hi)) (n2 _ (List.getElem_mem hiq))
      simp only [laws_FnBoxSetCoords_l2, laws_FnBoxSetCoords_g2, Bool.cond_decide]
      rw [if_pos (by omega), nth_get hi, nth_get hiq, succ_in hi (by omega)]
      simp only [Option.bind_some, y1, w1]
      rw [lim_le (by simp; omega)]
      simp only [Option.bind_some]
      rw [lim_le (by simp; omega)]
      refine ⟨(l ++ [z1], m ++ [z2]), rfl, by simp [p1], by simp [p2], fun j hj => ?_, fun j hj => ?_⟩
      · rcases Nat.lt_or_ge j i with hlt | hge
        · exact (p3 j hlt).app hN hNl _
        · obtain rfl : j = i := by omega
          exact ⟨_, _, _, by rw [List.getElem?_append_right (by omega), p1, Nat.sub_self]; rfl, List.getElem?_eq_getElem hi, List.getElem?_eq_getElem hiq, y2, y3⟩
      · rcases Nat.lt_or_ge j i with hlt | hge
        · exact (p4 j hlt).app hN hNl _
        · obtain rfl : j = i := by omega
          exact ⟨_, _, _, by rw [List.getElem?_append_right (by omega), p2, Nat.sub_self]; rfl, List.getElem?_eq_getElem hi, List.getElem?_eq_getElem hiq, w2, w3⟩) N ([], []) (by omega) ⟨rfl, rfl, fun j hj => by omega, fun j hj => by omega⟩ with h | ⟨st, h, _⟩
  · exact h.elim
  · exact h
end
end Go.Proofs.Ytfhplocmlmmnoaa.PvBoxSet
