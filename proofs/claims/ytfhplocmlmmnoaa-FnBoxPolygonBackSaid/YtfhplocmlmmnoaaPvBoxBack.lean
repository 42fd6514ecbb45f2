/- The plain law of FnBoxPolygonBack: the bounds of the polygon of a box are the box. -/
import Derived.Test.YtfhplocmlmmnoaaG11
import Derived.Test.YtfhplocmlmmnoaaPv2
import Derived.Test.YtfhplocmlmmnoaaFl8
set_option linter.unusedVariables false
set_option linter.unusedSectionVars false
set_option linter.unusedSimpArgs false
namespace Go.Proofs.Ytfhplocmlmmnoaa.PvBoxBack
open Go.Av Go
open Go.Proofs.Ytfhplocmlmmnoaa.G11
abbrev Bx := Int × (List Nat × (List Nat × Unit))
def strd (l : Int) : Int := if l < 1 then 0 else if l = 1 then 2 else if l = 2 then 3 else if l = 3 then 3 else l
theorem stride_spec (N : Nat) (l : Int) : spec_Stride N l = some (strd l) := by
  simp only [spec_Stride, spec_Stride_g, strd, beq_iff_eq, decide_eq_true_eq, Bool.cond_eq_ite, apply_ite some]
theorem stride1 (N : Nat) : gogeom_Layout_Stride N 1 = some 2 := rfl
section
variable {N : Nat} (hN : 0 < N) (hNl : 9223372036854775808 ≤ N)
include hN hNl
theorem bBox1 (b : Bx) (h1 : b.2.1.length ≤ 2147483647) (h2 : b.2.2.1.length ≤ 2147483647) : ∃ t, laws_bBox N [b] = some t ∧ (t = true → (b.2.1.length : Int) = strd b.1 ∧ b.2.2.1.length = b.2.1.length ∧ ∀ j, j < b.2.1.length → ∃ x y, b.2.1[j]? = some x ∧ b.2.2.1[j]? = some y ∧ isnan x = false ∧ isnan y = false) := by
  obtain ⟨n, hn⟩ : ∃ m, N = m + 1 := ⟨N - 1, by omega⟩
  unfold laws_bBox laws_bBox_g
  rw [show laws_bBox_l0 N N = laws_bBox_l0 N (n + 1) by rw [← hn]]
  have fin : laws_bBox_l0 N n [b] 1 = some true := by
    obtain ⟨k, rfl⟩ : ∃ k, n = k + 1 := ⟨n - 1, by omega⟩
    simp only [laws_bBox_l0, laws_bBox_g0, Bool.cond_decide]
    rw [if_neg (by simp)]
  simp only [laws_bBox_l0, laws_bBox_g0, laws_bBox_j1, laws_bBox_g1, gate_pos hN, Bool.cond_decide]
  rw [if_pos (by simp), show nth [b] 0 = some b from rfl]
  simp only [Option.bind_some, stride_spec]
  by_cases a1 : b.1 < 0
  · rw [if_pos a1]; exact ⟨_, rfl, fun h => by cases h⟩
  rw [if_neg a1]
  by_cases a2 : b.1 > 9
  · rw [if_pos a2]; exact ⟨_, rfl, fun h => by cases h⟩
  rw [if_neg a2]
  cases a3 : ((b.2.1.length : Int) != strd b.1) with
  | true => exact ⟨_, rfl, fun h => by cases h⟩
  | false =>
    simp only [cond_false]
    cases a4 : ((b.2.2.1.length : Int) != (b.2.1.length : Int)) with
    | true => exact ⟨_, rfl, fun h => by cases h⟩
    | false =>
      simp only [cond_false]
      have a5 : b.2.2.1.length = b.2.1.length := by simp at a4; omega
      have a6 : (b.2.1.length : Int) = strd b.1 := by simpa using a3
      rcases stateLoop0 (xs := b.2.1) (L := fun m i (_ : Unit) => laws_bBox_l2 N (laws_bBox_l0 N n [b]) [b] m 0 b i) (e := fun o => o = some false) (fin := fun _ => some true) (fun i _ => ∀ j, j < i → ∃ x y, b.2.1[j]? = some x ∧ b.2.2.1[j]? = some y ∧ isnan x = false ∧ isnan y = false)
        (fun m _ _ => by
          simp only [laws_bBox_l2, laws_bBox_g2, Bool.cond_decide]
          rw [if_neg (by omega), show IntKind.i64.wrap (0 + 1) = 1 by decide, fin])
        (fun m i _ hi hP => by
          simp only [laws_bBox_l2, laws_bBox_g2, Bool.cond_decide, laws_gNumber, laws_gNumber_g, feq_self]
          rw [if_pos (by omega), nth_get hi, nth_get (show i < b.2.2.1.length by omega), succ_in hi (by omega)]
          simp only [Option.bind_some]
          cases e1 : isnan b.2.1[i] with
          | true => exact .inl rfl
          | false =>
            cases e2 : isnan (b.2.2.1[i]) with
            | true => exact .inl rfl
            | false =>
              refine .inr ⟨(), rfl, fun j hj => ?_⟩
              rcases Nat.lt_or_ge j i with h | h
              · exact hP j h
              · obtain rfl : j = i := by omega
                exact ⟨_, _, List.getElem?_eq_getElem hi, List.getElem?_eq_getElem (by omega), e1, e2⟩) N () (by omega) (fun j hj => by omega) with h | ⟨_, h, hP⟩
      · exact ⟨false, h, fun h => by cases h⟩
      · exact ⟨true, h, fun _ => ⟨a6, a5, hP⟩⟩
/-- One place of a row that is taken into the bounds. -/
theorem inner (r0 : Int → List Nat → List Nat → Option (Unit × (Int × List Nat × List Nat × Unit) × List Nat × Unit)) (flat : List Nat) (e : Int) (v6 : (Int × List Nat × List Nat × Unit) × Unit) (i : Nat) (hi : i + 1 < flat.length) (hl : flat.length ≤ 1000) (m0 m1 M0 M1 : Nat) :
    gogeom_Bounds_extendFlatCoords_b_l1 N r0 e 2 v6 flat N (i : Int) 0 [m0, m1] [M0, M1] = r0 ((i + 2 : Nat) : Int) [fpick true .lt m0 flat[i], fpick true .lt m1 flat[i + 1]] [fpick false .gt M0 flat[i], fpick false .gt M1 flat[i + 1]] := by
  obtain ⟨n, hn⟩ : ∃ m, N = m + 3 := ⟨N - 3, by omega⟩
  rw [show gogeom_Bounds_extendFlatCoords_b_l1 N r0 e 2 v6 flat N = gogeom_Bounds_extendFlatCoords_b_l1 N r0 e 2 v6 flat (n + 3) by rw [← hn]]
  have w0 : IntKind.i64.wrap ((i : Int) + 0) = ((i : Nat) : Int) := by rw [wrap_in (by omega)]; omega
  have w1 : IntKind.i64.wrap ((i : Int) + 1) = ((i + 1 : Nat) : Int) := by rw [wrap_in (by omega)]; omega
  have w2 : IntKind.i64.wrap ((i : Int) + 2) = ((i + 2 : Nat) : Int) := by rw [wrap_in (by omega)]; omega
  have c1 : chk ((i : Nat) : Int) flat.length = some i := chk_nat (by omega)
  have c2 : chk ((i + 1 : Nat) : Int) flat.length = some (i + 1) := chk_nat hi
  have g1 : flat[i]? = some flat[i] := List.getElem?_eq_getElem (by omega)
  have g2 : flat[i + 1]? = some flat[i + 1] := List.getElem?_eq_getElem hi
  have last : ∀ l m, gogeom_Bounds_extendFlatCoords_b_l1 N r0 e 2 v6 flat (n + 1) (i : Int) 2 l m = r0 ((i + 2 : Nat) : Int) l m := by
    intro l m
    show gogeom_Bounds_extendFlatCoords_b_g1 N e 2 v6 flat (i : Int) (gogeom_Bounds_extendFlatCoords_b_l1 N r0 e 2 v6 flat n (i : Int)) r0 2 l m = _
    simp only [gogeom_Bounds_extendFlatCoords_b_g1, Bool.cond_decide]
    rw [if_neg (by decide), w2]
  have second : ∀ a b c d, gogeom_Bounds_extendFlatCoords_b_l1 N r0 e 2 v6 flat (n + 2) (i : Int) 1 [a, b] [c, d] = r0 ((i + 2 : Nat) : Int) [a, fpick true .lt b flat[i + 1]] [c, fpick false .gt d flat[i + 1]] := by
    intro a b c d
    show gogeom_Bounds_extendFlatCoords_b_g1 N e 2 v6 flat (i : Int) (gogeom_Bounds_extendFlatCoords_b_l1 N r0 e 2 v6 flat (n + 1) (i : Int)) r0 1 [a, b] [c, d] = _
    simp only [gogeom_Bounds_extendFlatCoords_b_g1, Bool.cond_decide, math_Min, math_Min_g, math_Max, math_Max_g, math_archMin, math_archMax]
    rw [if_pos (by decide), w1, c2, show chk 1 ([a, b] : List Nat).length = some 1 from rfl, show chk 1 ([c, d] : List Nat).length = some 1 from rfl]
    simp only [Option.bind_some, g2]
    exact last _ _
  show gogeom_Bounds_extendFlatCoords_b_g1 N e 2 v6 flat (i : Int) (gogeom_Bounds_extendFlatCoords_b_l1 N r0 e 2 v6 flat (n + 2) (i : Int)) r0 0 [m0, m1] [M0, M1] = _
  simp only [gogeom_Bounds_extendFlatCoords_b_g1, Bool.cond_decide, math_Min, math_Min_g, math_Max, math_Max_g, math_archMin, math_archMax]
  rw [if_pos (by decide), w0, c1, show chk 0 ([m0, m1] : List Nat).length = some 0 from rfl, show chk 0 ([M0, M1] : List Nat).length = some 0 from rfl]
  simp only [Option.bind_some, g1]
  exact second _ _ _ _
theorem newBounds : gogeom_NewBounds N 1 = some ((1, [9218868437227405312, 9218868437227405312], [18442240474082181120, 18442240474082181120], ()), ()) := by
  obtain ⟨n, hn⟩ : ∃ m, N = m + 3 := ⟨N - 3, by omega⟩
  unfold gogeom_NewBounds gogeom_NewBounds_g
  rw [stride1]
  simp only [Option.bind_some]
  rw [show mkn 2 2 8 = some 2 by decide]
  simp only [Option.bind_some]
  rw [show gogeom_NewBounds_l0 N N = gogeom_NewBounds_l0 N (n + 3) by rw [← hn]]
  have i1 : math_Inf N 1 = some 9218868437227405312 := by
    simp only [math_Inf, math_Inf_g, math_Inf_j0, math_Inf_g0, math_Float64frombits, gate_pos hN]
    rfl
  have i2 : math_Inf N (-1) = some 18442240474082181120 := by
    simp only [math_Inf, math_Inf_g, math_Inf_j0, math_Inf_g0, math_Float64frombits, gate_pos hN]
    rfl
  have last : ∀ l m, gogeom_NewBounds_l0 N (n + 1) 1 2 2 l m = some ((1, l, m, ()), ()) := by
    intro l m
    show gogeom_NewBounds_g0 N 1 2 (gogeom_NewBounds_l0 N n 1 2) 2 l m = _
    simp only [gogeom_NewBounds_g0, Bool.cond_decide]
    rw [if_neg (by decide)]
  have second : ∀ a b c d, gogeom_NewBounds_l0 N (n + 2) 1 2 1 [a, b] [c, d] = some ((1, [a, 9218868437227405312], [c, 18442240474082181120], ()), ()) := by
    intro a b c d
    show gogeom_NewBounds_g0 N 1 2 (gogeom_NewBounds_l0 N (n + 1) 1 2) 1 [a, b] [c, d] = _
    simp only [gogeom_NewBounds_g0, Bool.cond_decide]
    rw [if_pos (by decide), i1, i2, show chk 1 ([a, b] : List Nat).length = some 1 from rfl, show chk 1 ([c, d] : List Nat).length = some 1 from rfl]
    simp only [Option.bind_some]
    exact last _ _
  show gogeom_NewBounds_g0 N 1 2 (gogeom_NewBounds_l0 N (n + 2) 1 2) 0 [0, 0] [0, 0] = _
  simp only [gogeom_NewBounds_g0, Bool.cond_decide]
  rw [if_pos (by decide), i1, i2, show chk 0 ([0, 0] : List Nat).length = some 0 from rfl]
  simp only [Option.bind_some]
  exact second _ _ _ _
theorem infs : isnan 9218868437227405312 = false ∧ isnan 18442240474082181120 = false ∧ ikey 9218868437227405312 = 9218868437227405312 ∧ ikey 18442240474082181120 = -9218868437227405312 := by decide +kernel
theorem min5 {a c m : Nat} (hm : isnan m = false) (km : ikey m = 9218868437227405312) (ha : isnan a = false) (hc : isnan c = false) (h : ikey a ≤ ikey c) (p1 p2 p3 p4 p5 : Nat) (q : (p1 = a ∧ (p2 = a ∨ p2 = c) ∧ (p3 = a ∨ p3 = c) ∧ (p4 = a ∨ p4 = c) ∧ (p5 = a ∨ p5 = c))) :
    isnan (fpick true .lt (fpick true .lt (fpick true .lt (fpick true .lt (fpick true .lt m p1) p2) p3) p4) p5) = false ∧ ikey (fpick true .lt (fpick true .lt (fpick true .lt (fpick true .lt (fpick true .lt m p1) p2) p3) p4) p5) = ikey a := by
  have ba := key_bound ha
  have step : ∀ m p, isnan m = false → ikey m = ikey a → (p = a ∨ p = c) → isnan (fpick true .lt m p) = false ∧ ikey (fpick true .lt m p) = ikey a := by
    intro m p hm km hp
    have hp' : isnan p = false := by rcases hp with rfl | rfl <;> assumption
    obtain ⟨n1, n2⟩ := fpick_min hm hp'
    refine ⟨n1, ?_⟩
    rw [n2, km]
    rcases hp with rfl | rfl <;> omega
  obtain ⟨rfl, q2, q3, q4, q5⟩ := q
  obtain ⟨s1, s2⟩ := fpick_min hm ha
  have s2' : ikey (fpick true .lt m p1) = ikey p1 := by rw [s2, km]; omega
  obtain ⟨t1, t2⟩ := step _ _ s1 s2' q2
  obtain ⟨t3, t4⟩ := step _ _ t1 t2 q3
  obtain ⟨t5, t6⟩ := step _ _ t3 t4 q4
  exact step _ _ t5 t6 q5
theorem max5 {a c m : Nat} (hm : isnan m = false) (km : ikey m = -9218868437227405312) (ha : isnan a = false) (hc : isnan c = false) (h : ikey a ≤ ikey c) (p1 p2 p3 p4 p5 : Nat) (q : (p1 = a ∨ p1 = c) ∧ (p2 = a ∨ p2 = c) ∧ p3 = c ∧ (p4 = a ∨ p4 = c) ∧ (p5 = a ∨ p5 = c)) :
    isnan (fpick false .gt (fpick false .gt (fpick false .gt (fpick false .gt (fpick false .gt m p1) p2) p3) p4) p5) = false ∧ ikey (fpick false .gt (fpick false .gt (fpick false .gt (fpick false .gt (fpick false .gt m p1) p2) p3) p4) p5) = ikey c := by
  have bc := key_bound hc
  have nn : ∀ m p, isnan m = false → (p = a ∨ p = c) → isnan (fpick false .gt m p) = false ∧ ikey (fpick false .gt m p) = max (ikey m) (ikey p) := by
    intro m p hm hp
    have hp' : isnan p = false := by rcases hp with rfl | rfl <;> assumption
    exact fpick_max hm hp'
  have le : ∀ p, (p = a ∨ p = c) → ikey p ≤ ikey c := by
    intro p hp; rcases hp with rfl | rfl <;> omega
  obtain ⟨q1, q2, rfl, q4, q5⟩ := q
  obtain ⟨s1, s2⟩ := nn _ _ hm q1
  obtain ⟨s3, s4⟩ := nn _ _ s1 q2
  obtain ⟨s5, s6⟩ := nn _ p3 s3 (.inr rfl)
  obtain ⟨s7, s8⟩ := nn _ _ s5 q4
  obtain ⟨s9, s10⟩ := nn _ _ s7 q5
  have l1 := le _ q1
  have l2 := le _ q2
  have l4 := le _ q4
  have l5 := le _ q5
  exact ⟨s9, by omega⟩
theorem law (b : Bx) : laws_FnBoxPolygonBack N b = some true := by
  unfold laws_FnBoxPolygonBack laws_FnBoxPolygonBack_g
  simp only [laws_FnBoxPolygonBack_j0, laws_FnBoxPolygonBack_g0, gate_pos hN, laws_zzFits1, laws_zzFits1_g, Bool.cond_decide]
  by_cases f1 : (b.2.1.length : Int) > 2147483647
  · rw [if_pos f1]; rfl
  rw [if_neg f1]
  by_cases f2 : (b.2.2.1.length : Int) > 2147483647
  · rw [if_pos f2]; rfl
  rw [if_neg f2]
  simp only [Option.bind_some, Bool.not_true, cond_false]
  obtain ⟨t, ht, hg⟩ := bBox1 hN hNl b (by omega) (by omega)
  have ht' : laws_bBox N [(b.1, b.2.1, b.2.2.1, ())] = some t := ht
  rw [ht']
  simp only [Option.bind_some]
  cases t with
  | false => rfl
  | true =>
  simp only [Bool.not_true, cond_false]
  cases h1 : (b.1 != 1) with
  | true => rfl
  | false =>
  simp only [cond_false]
  have hl1 : b.1 = 1 := by simpa using h1
  obtain ⟨g1, g2, g3⟩ := hg rfl
  rw [hl1, show strd 1 = 2 by decide] at g1
  obtain ⟨lay, mn, mx, ⟨⟩⟩ := b
  dsimp only at *
  subst hl1
  match mn, mx, g1, g2, g3 with
  | [a, b], [c, d], _, _, g3 =>
  obtain ⟨x0, y0, e1, e2, na, nc⟩ := g3 0 (by simp)
  obtain ⟨x1, y1, e3, e4, nb, nd⟩ := g3 1 (by simp)
  simp only [List.getElem?_cons_zero, List.getElem?_cons_succ, Option.some.injEq] at e1 e2 e3 e4
  subst e1 e2 e3 e4
  clear g3 ht ht' f1 f2
  obtain ⟨n, hn⟩ : ∃ m, N = m + 6 := ⟨N - 6, by omega⟩
  -- is it empty?
  have emp : spec_BoxEmpty N (1, [a, b], [c, d], ()) = some (flt c a || flt d b) := by
    unfold spec_BoxEmpty spec_BoxEmpty_g
    rw [show spec_BoxEmpty_l0 N N = spec_BoxEmpty_l0 N (n + 6) by rw [← hn]]
    have last : spec_BoxEmpty_l0 N (n + 4) (1, [a, b], [c, d], ()) 2 = some false := by
      show spec_BoxEmpty_g0 N (1, [a, b], [c, d], ()) (spec_BoxEmpty_l0 N (n + 3) (1, [a, b], [c, d], ())) 2 = _
      simp only [spec_BoxEmpty_g0, Bool.cond_decide]
      rw [if_neg (by simp)]; rfl
    have second : spec_BoxEmpty_l0 N (n + 5) (1, [a, b], [c, d], ()) 1 = some (flt d b) := by
      show spec_BoxEmpty_g0 N (1, [a, b], [c, d], ()) (spec_BoxEmpty_l0 N (n + 4) (1, [a, b], [c, d], ())) 1 = _
      simp only [spec_BoxEmpty_g0, Bool.cond_decide]
      rw [if_pos (by simp), show nth [c, d] 1 = some d from rfl, show nth [a, b] 1 = some b from rfl, show IntKind.i64.wrap (1 + 1) = 2 by decide, last]
      simp only [Option.bind_some]
      cases flt d b <;> rfl
    show spec_BoxEmpty_g0 N (1, [a, b], [c, d], ()) (spec_BoxEmpty_l0 N (n + 5) (1, [a, b], [c, d], ())) 0 = _
    simp only [spec_BoxEmpty_g0, Bool.cond_decide]
    rw [if_pos (by simp), show nth [c, d] 0 = some c from rfl, show nth [a, b] 0 = some a from rfl, show IntKind.i64.wrap (0 + 1) = 1 by decide, second]
    simp only [Option.bind_some]
    cases flt c a <;> rfl
  rw [emp]
  simp only [Option.bind_some]
  cases hca : flt c a with
  | true => rfl
  | false =>
  cases hdb : flt d b with
  | true => rfl
  | false =>
  simp only [Bool.or_self, cond_false]
  have kac : ikey a ≤ ikey c := by
    rw [flt_eq, nc, na] at hca
    simp at hca; omega
  have kbd : ikey b ≤ ikey d := by
    rw [flt_eq, nd, nb] at hdb
    simp at hdb; omega
  -- the polygon
  have ise : gogeom_Bounds_IsEmpty N (1, [a, b], [c, d], ()) = some (false, ()) := by
    unfold gogeom_Bounds_IsEmpty gogeom_Bounds_IsEmpty_g
    rw [show ((1 : Int) == 0) = false from rfl, cond_false, stride1]
    simp only [Option.bind_some]
    rw [show gogeom_Bounds_IsEmpty_l0 N N = gogeom_Bounds_IsEmpty_l0 N (n + 6) by rw [← hn]]
    have last : gogeom_Bounds_IsEmpty_l0 N (n + 4) (1, [a, b], [c, d], ()) 2 2 = some (false, ()) := by
      show gogeom_Bounds_IsEmpty_g0 N (1, [a, b], [c, d], ()) 2 (gogeom_Bounds_IsEmpty_l0 N (n + 3) (1, [a, b], [c, d], ()) 2) 2 = _
      simp only [gogeom_Bounds_IsEmpty_g0, Bool.cond_decide]
      rw [if_neg (by decide)]
    have second : gogeom_Bounds_IsEmpty_l0 N (n + 5) (1, [a, b], [c, d], ()) 2 1 = some (false, ()) := by
      show gogeom_Bounds_IsEmpty_g0 N (1, [a, b], [c, d], ()) 2 (gogeom_Bounds_IsEmpty_l0 N (n + 4) (1, [a, b], [c, d], ()) 2) 1 = _
      simp only [gogeom_Bounds_IsEmpty_g0, Bool.cond_decide]
      rw [if_pos (by decide), show nth [c, d] 1 = some d from rfl, show nth [a, b] 1 = some b from rfl, show IntKind.i64.wrap (1 + 1) = 2 by decide, last]
      simp [hdb]
    show gogeom_Bounds_IsEmpty_g0 N (1, [a, b], [c, d], ()) 2 (gogeom_Bounds_IsEmpty_l0 N (n + 5) (1, [a, b], [c, d], ()) 2) 0 = _
    simp only [gogeom_Bounds_IsEmpty_g0, Bool.cond_decide]
    rw [if_pos (by decide), show nth [c, d] 0 = some c from rfl, show nth [a, b] 0 = some a from rfl, show IntKind.i64.wrap (0 + 1) = 1 by decide, second]
    simp [hca]
  have l8 : ∀ l : List Nat, l.length ≤ 10 → lim (l.length * 8) = some () := fun l h => lim_le (by omega)
  have intss0 : impl_intss N [] = some ([], ()) := by
    unfold impl_intss impl_intss_g
    rw [show impl_intss_l0 N N = impl_intss_l0 N (n + 6) by rw [← hn]]
    show impl_intss_g0 N [] (impl_intss_l0 N (n + 5) []) 0 [] = _
    simp only [impl_intss_g0, Bool.cond_decide]
    rw [if_neg (by simp)]
  have poly : impl_BoxPolygon N (1, [a, b], [c, d], ()) = some ((3, 1, 0, [a, b, a, d, c, d, c, b, a, b], [10], [], [], ()), true, ()) := by
    unfold impl_BoxPolygon impl_BoxPolygon_g impl_box impl_box_g impl_floats impl_floats_g gogeom_DoorBounds_b gogeom_DoorBounds_b_g
    dsimp only
    rw [l8 [a, b] (by simp), l8 [c, d] (by simp)]
    simp only [Option.bind_some, gogeom_Bounds_Polygon, gogeom_Bounds_Polygon_g, ise, cond_false]
    rw [show nth [c, d] 1 = some d from rfl, show nth [a, b] 1 = some b from rfl, show nth [c, d] 0 = some c from rfl, show nth [a, b] 0 = some a from rfl]
    simp only [Option.bind_some, gogeom_NewPolygonFlat_b, gogeom_NewPolygonFlat_b_g, stride1, impl_plain, impl_plain_g, gogeom_geom0_SRID, gogeom_geom0_SRID_g, gogeom_geom0_Layout_b, gogeom_geom0_Layout_b_g, gogeom_geom0_FlatCoords, gogeom_geom0_FlatCoords_g, impl_floats, impl_floats_g, gogeom_geom2_Ends_b, gogeom_geom2_Ends_b_g, impl_ints, impl_ints_g, gogeom_geom0_Endss_b, gogeom_geom0_Endss_b_g, intss0]
    rw [l8 [a, b, a, d, c, d, c, b, a, b] (by simp), show lim (([(([a, b, a, d, c, d, c, b, a, b] : List Nat).length : Int)] : List Int).length * 8) = some () from lim_le (by simp)]
    rfl
  rw [poly]
  simp only [Option.bind_some]
  -- its bounds
  obtain ⟨i1, i2, i3, i4⟩ := infs hN hNl
  obtain ⟨p1, p2⟩ := min5 hN hNl i1 i3 na nc kac a a c c a ⟨rfl, .inl rfl, .inr rfl, .inr rfl, .inl rfl⟩
  obtain ⟨p3, p4⟩ := min5 hN hNl i1 i3 nb nd kbd b d d b b ⟨rfl, .inr rfl, .inr rfl, .inl rfl, .inl rfl⟩
  obtain ⟨q1, q2⟩ := max5 hN hNl i2 i4 na nc kac a a c c a ⟨.inl rfl, .inl rfl, rfl, .inr rfl, .inl rfl⟩
  obtain ⟨q3, q4⟩ := max5 hN hNl i2 i4 nb nd kbd b d d b b ⟨.inl rfl, .inr rfl, rfl, .inl rfl, .inl rfl⟩
  have ext : ∀ v6, gogeom_Bounds_extendFlatCoords_b_l0 N N 10 2 v6 [a, b, a, d, c, d, c, b, a, b] 0 [9218868437227405312, 9218868437227405312] [18442240474082181120, 18442240474082181120] =
      some ((), (v6.1.1, [fpick true .lt (fpick true .lt (fpick true .lt (fpick true .lt (fpick true .lt 9218868437227405312 a) a) c) c) a, fpick true .lt (fpick true .lt (fpick true .lt (fpick true .lt (fpick true .lt 9218868437227405312 b) d) d) b) b],
        [fpick false .gt (fpick false .gt (fpick false .gt (fpick false .gt (fpick false .gt 18442240474082181120 a) a) c) c) a, fpick false .gt (fpick false .gt (fpick false .gt (fpick false .gt (fpick false .gt 18442240474082181120 b) d) d) b) b], ()), [a, b, a, d, c, d, c, b, a, b], ()) := by
    intro v6
    have step : ∀ (k i : Nat) (m0 m1 M0 M1 : Nat) (hi : i + 1 < ([a, b, a, d, c, d, c, b, a, b] : List Nat).length), gogeom_Bounds_extendFlatCoords_b_l0 N (k + 1) 10 2 v6 [a, b, a, d, c, d, c, b, a, b] (i : Int) [m0, m1] [M0, M1] =
        gogeom_Bounds_extendFlatCoords_b_l0 N k 10 2 v6 [a, b, a, d, c, d, c, b, a, b] ((i + 2 : Nat) : Int) [fpick true .lt m0 ([a, b, a, d, c, d, c, b, a, b] : List Nat)[i], fpick true .lt m1 ([a, b, a, d, c, d, c, b, a, b] : List Nat)[i + 1]] [fpick false .gt M0 ([a, b, a, d, c, d, c, b, a, b] : List Nat)[i], fpick false .gt M1 ([a, b, a, d, c, d, c, b, a, b] : List Nat)[i + 1]] := by
      intro k i m0 m1 M0 M1 hi
      have hi10 : i + 1 < 10 := hi
      show gogeom_Bounds_extendFlatCoords_b_g0 N 10 2 v6 [a, b, a, d, c, d, c, b, a, b] (gogeom_Bounds_extendFlatCoords_b_l1 N (gogeom_Bounds_extendFlatCoords_b_l0 N k 10 2 v6 [a, b, a, d, c, d, c, b, a, b]) 10 2 v6 [a, b, a, d, c, d, c, b, a, b] N) (gogeom_Bounds_extendFlatCoords_b_l0 N k 10 2 v6 [a, b, a, d, c, d, c, b, a, b]) (i : Int) [m0, m1] [M0, M1] = _
      simp only [gogeom_Bounds_extendFlatCoords_b_g0, Bool.cond_decide]
      rw [if_pos (by omega)]
      exact inner hN hNl _ _ _ _ i hi (by simp) _ _ _ _
    rw [show gogeom_Bounds_extendFlatCoords_b_l0 N N = gogeom_Bounds_extendFlatCoords_b_l0 N (n + 6) by rw [← hn]]
    rw [show (0 : Int) = ((0 : Nat) : Int) from rfl, step (n + 5) 0 _ _ _ _ (by simp), step (n + 4) 2 _ _ _ _ (by simp), step (n + 3) 4 _ _ _ _ (by simp), step (n + 2) 6 _ _ _ _ (by simp), step (n + 1) 8 _ _ _ _ (by simp)]
    show gogeom_Bounds_extendFlatCoords_b_g0 N 10 2 v6 [a, b, a, d, c, d, c, b, a, b] _ (gogeom_Bounds_extendFlatCoords_b_l0 N n 10 2 v6 [a, b, a, d, c, d, c, b, a, b]) _ _ _ = _
    simp only [gogeom_Bounds_extendFlatCoords_b_g0, Bool.cond_decide]
    rw [if_neg (by decide)]
    rfl
  have stri : gogeom_Bounds_extendStride N (1, [9218868437227405312, 9218868437227405312], [18442240474082181120, 18442240474082181120], ()) 2 = some ((1, [9218868437227405312, 9218868437227405312], [18442240474082181120, 18442240474082181120], ()), ()) := by
    unfold gogeom_Bounds_extendStride gogeom_Bounds_extendStride_g
    dsimp only
    rw [stride1]
    simp only [Option.bind_some]
    rw [show gogeom_Bounds_extendStride_l0 N N = gogeom_Bounds_extendStride_l0 N (n + 6) by rw [← hn]]
    show gogeom_Bounds_extendStride_g0 N 2 _ (gogeom_Bounds_extendStride_l0 N (n + 5) 2 _) 2 _ _ = _
    simp only [gogeom_Bounds_extendStride_g0, Bool.cond_decide]
    rw [if_neg (by decide)]
  have bnd : impl_Bounds N (Geo.mk 3 1 0 [a, b, a, d, c, d, c, b, a, b] [10] [] []) = some ((1, [fpick true .lt (fpick true .lt (fpick true .lt (fpick true .lt (fpick true .lt 9218868437227405312 a) a) c) c) a, fpick true .lt (fpick true .lt (fpick true .lt (fpick true .lt (fpick true .lt 9218868437227405312 b) d) d) b) b],
        [fpick false .gt (fpick false .gt (fpick false .gt (fpick false .gt (fpick false .gt 18442240474082181120 a) a) c) c) a, fpick false .gt (fpick false .gt (fpick false .gt (fpick false .gt (fpick false .gt 18442240474082181120 b) d) d) b) b], ()), true, ()) := by
    unfold impl_Bounds impl_Bounds_g impl_geometry impl_geometry_g
    simp only [Geo.kind, Geo.layout, Geo.flat, Geo.srid, Geo.ends, Geo.endss, Geo.kids, impl_floats, impl_floats_g]
    rw [l8 [a, b, a, d, c, d, c, b, a, b] (by simp)]
    simp only [Option.bind_some]
    rw [show ((3 : Int) == 1) = false from rfl, show ((3 : Int) == 2) = false from rfl, show ((3 : Int) == 8) = false from rfl, show ((3 : Int) == 3) = true from rfl]
    simp only [cond_false, cond_true, impl_ints, impl_ints_g]
    rw [show lim (([10] : List Int).length * 8) = some () from lim_le (by simp)]
    simp only [Option.bind_some, gogeom_NewPolygonFlat_b, gogeom_NewPolygonFlat_b_g, stride1, gogeom_Polygon_SetSRID, gogeom_Polygon_SetSRID_g, Sum.elim_inl, Sum.elim_inr, gogeom_geom0_Bounds_b, gogeom_geom0_Bounds_b_g, newBounds hN hNl, gogeom_Bounds_extendFlatCoords_b, gogeom_Bounds_extendFlatCoords_b_g, stri]
    have ext' := ext ((1, [9218868437227405312, 9218868437227405312], [18442240474082181120, 18442240474082181120], ()), ())
    rw [show ((([a, b, a, d, c, d, c, b, a, b] : List Nat).length : Nat) : Int) = 10 from rfl]
    rw [ext']
    simp only [Option.bind_some, impl_plainBox, impl_plainBox_g, gogeom_DoorBoundsParts_b, gogeom_DoorBoundsParts_b_g, impl_floats, impl_floats_g]
    rw [lim_le (by simp), lim_le (by simp)]
    rfl
  rw [bnd]
  simp only [Option.bind_some, cond_true]
  -- the same box
  unfold spec_SameBox spec_SameBox_g
  simp only [bne_self_eq_false, cond_false, spec_SameBox_j0, spec_SameBox_g0, gate_pos hN, List.length_cons, List.length_nil]
  rw [show spec_SameBox_l1 N N = spec_SameBox_l1 N (n + 6) by rw [← hn]]
  have last : ∀ x y, spec_SameBox_l1 N (n + 4) x y 2 = spec_SameBox_g1 N x y (spec_SameBox_l1 N (n + 3) x y) 2 := fun _ _ => rfl
  have second : ∀ x y, spec_SameBox_l1 N (n + 5) x y 1 = spec_SameBox_g1 N x y (spec_SameBox_l1 N (n + 4) x y) 1 := fun _ _ => rfl
  have first : ∀ x y, spec_SameBox_l1 N (n + 6) x y 0 = spec_SameBox_g1 N x y (spec_SameBox_l1 N (n + 5) x y) 0 := fun _ _ => rfl
  rw [first]
  simp only [spec_SameBox_g1, Bool.cond_decide]
  rw [if_pos (by simp)]
  simp only [show ∀ x y : Nat, nth [x, y] 0 = some x from fun _ _ => rfl, Option.bind_some]
  rw [fne_key p1 na p2, fne_key q1 nc q2, show IntKind.i64.wrap (0 + 1) = 1 by decide, second]
  simp only [spec_SameBox_g1, Bool.cond_decide, cond_false]
  rw [if_pos (by simp)]
  simp only [show ∀ x y : Nat, nth [x, y] 1 = some y from fun _ _ => rfl, Option.bind_some]
  rw [fne_key p3 nb p4, fne_key q3 nd q4, show IntKind.i64.wrap (1 + 1) = 2 by decide, last]
  simp only [spec_SameBox_g1, Bool.cond_decide, cond_false]
  rw [if_neg (by simp)]
  rfl
end
end Go.Proofs.Ytfhplocmlmmnoaa.PvBoxBack
