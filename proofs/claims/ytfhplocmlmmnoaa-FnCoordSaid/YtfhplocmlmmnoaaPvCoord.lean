/- The plain law of FnCoord: the i-th place of good data has its numbers. -/
import Derived.Test.YtfhplocmlmmnoaaPvGeoG8
import Derived.Test.YtfhplocmlmmnoaaPv3
set_option linter.unusedVariables false
set_option linter.unusedSectionVars false
set_option linter.unusedSimpArgs false
namespace Go.Proofs.Ytfhplocmlmmnoaa.PvCoord
open Go.Av Go
open Go.Proofs.Ytfhplocmlmmnoaa.G8
open Go.Proofs.Ytfhplocmlmmnoaa.PvGeoG8
theorem stride_geom (N : Nat) (l : Int) (h : 1 ≤ l) : gogeom_Layout_Stride N l = some (strd l) := by
  simp only [gogeom_Layout_Stride, gogeom_Layout_Stride_g, strd, beq_iff_eq, Bool.cond_eq_ite, apply_ite some]
  repeat' split
  all_goals first | rfl | omega | (subst_vars; rfl) | skip
section
variable {N : Nat} (hN : 0 < N) (hNl : 9223372036854775808 ≤ N)
include hN hNl
theorem same (x : List Nat) (hx : x.length ≤ 4294967296) : spec_SameFloats N x x = some true := by
  unfold spec_SameFloats spec_SameFloats_g
  simp only [bne_self_eq_false, cond_false]
  rcases checkLoop0 (xs := x) (L := fun n i => spec_SameFloats_l0 N n x x i) (e := fun _ => False) (fin := some true) (fun _ => True)
    (fun n => by
      simp only [spec_SameFloats_l0, spec_SameFloats_g0, Bool.cond_decide]
      rw [if_neg (by omega)])
    (fun n i hi => by
      right
      simp only [spec_SameFloats_l0, spec_SameFloats_g0, math_Float64bits, Bool.cond_decide]
      rw [if_pos (by omega), nth_get hi, succ_in hi (by omega)]
      simp) N (by omega) with h | ⟨h, _⟩
  · exact h.elim
  · exact h
theorem intss_loop (l : List (List Int)) (hl : l.length * 24 ≤ 140737488355328) (hin : ∀ x ∈ l, x.length * 8 ≤ 140737488355328) : ∀ (c i n : Nat), i + c = l.length → c + 1 ≤ n →
    impl_intss_l0 N n l (i : Int) (l.take i) = some (l, ())
  | 0, i, n, hi, hn => by
    obtain ⟨n, rfl⟩ : ∃ m, n = m + 1 := ⟨n - 1, by omega⟩
    simp only [impl_intss_l0, impl_intss_g0]
    have : decide ((i : Int) < (l.length : Int)) = false := by simp only [decide_eq_false_iff_not]; omega
    rw [this, cond_false, List.take_of_length_le (by omega)]
  | c + 1, i, n, hi, hn => by
    obtain ⟨n, rfl⟩ : ∃ m, n = m + 1 := ⟨n - 1, by omega⟩
    have hlt : i < l.length := by omega
    have ih := intss_loop l hl hin c (i + 1) n (by omega) (by omega)
    simp only [impl_intss_l0, impl_intss_g0]
    have : decide ((i : Int) < (l.length : Int)) = true := by simp only [decide_eq_true_eq]; omega
    rw [this, cond_true, nth_get hlt]
    simp only [Option.bind_some, impl_ints, impl_ints_g]
    rw [lim_le (hin _ (List.getElem_mem hlt))]
    simp only [Option.bind_some]
    rw [lim_le (by simp only [List.length_take, List.length_cons, List.length_nil]; omega), succ_in hlt (by omega)]
    simp only [Option.bind_some]
    rw [← ih, take_snoc hlt]
theorem intss (l : List (List Int)) (hl : l.length * 24 ≤ 140737488355328) (hin : ∀ x ∈ l, x.length * 8 ≤ 140737488355328) : impl_intss N l = some (l, ()) := by
  unfold impl_intss impl_intss_g
  exact intss_loop hN hNl l hl hin l.length 0 N (by omega) (by omega)
theorem coord_of (g : Geo) (i s : Int) (hw : wfG g) (l1 : 1 ≤ g.layout) (hs : strd g.layout = s) (hk : g.kind = 2 ∨ g.kind = 8 ∨ g.kind = 3 ∨ g.kind = 5 ∨ g.kind = 6) (hlen : g.flat.length ≤ 2147483647)
    (h0 : 0 ≤ i * s) (h1 : i * s ≤ (i + 1) * s) (h2 : (i + 1) * s ≤ (g.flat.length : Int)) (hi : -9223372036854775808 ≤ i ∧ i ≤ 2147483647) :
    impl_Coord N g i = some ((g.flat.drop (i * s).toNat).take (((i + 1) * s).toNat - (i * s).toNat), true, ()) := by
  have hsz := (sz_of hw).1
  have hends : g.ends.length * 8 ≤ 140737488355328 ∧ g.endss.length * 24 ≤ 140737488355328 ∧ ∀ x ∈ g.endss, x.length * 8 ≤ 140737488355328 := by
    cases g with
    | mk kd ly sr flat ends endss kids =>
      simp only [wfG] at hw
      unfold fits at hw
      simp only [Geo.ends, Geo.endss]
      refine ⟨by omega, by omega, fun x hx => ?_⟩
      have := (hw.2.2.2.2.2.1.2 x hx).1
      omega
  have hpart : ((g.flat.drop (i * s).toNat).take (((i + 1) * s).toNat - (i * s).toNat)).length * 8 ≤ 140737488355328 := by
    rw [List.length_take, List.length_drop]; omega
  unfold impl_Coord impl_Coord_g
  rw [eta]
  unfold impl_geometry impl_geometry_g
  unfold impl_floats impl_floats_g
  rw [lim_le (n := g.flat.length * 8) (by omega)]
  have hc : chk2 (IntKind.i64.wrap (i * s)) (IntKind.i64.wrap (IntKind.i64.wrap (i + 1) * s)) g.flat.length = some ((i * s).toNat, ((i + 1) * s).toNat) := by
    rw [wrap_in (n := i + 1) (by omega), wrap_in (by omega), wrap_in (by omega), chk2_int (by omega)]
  rcases hk with e | e | e | e | e
  all_goals
    rw [e]
    simp only [Option.bind_some, show ((2 : Int) == 1) = false from rfl, show ((2 : Int) == 2) = true from rfl, show ((8 : Int) == 1) = false from rfl, show ((8 : Int) == 2) = false from rfl, show ((8 : Int) == 8) = true from rfl,
      show ((3 : Int) == 1) = false from rfl, show ((3 : Int) == 2) = false from rfl, show ((3 : Int) == 8) = false from rfl, show ((3 : Int) == 3) = true from rfl,
      show ((5 : Int) == 1) = false from rfl, show ((5 : Int) == 2) = false from rfl, show ((5 : Int) == 8) = false from rfl, show ((5 : Int) == 3) = false from rfl, show ((5 : Int) == 4) = false from rfl, show ((5 : Int) == 5) = true from rfl,
      show ((6 : Int) == 1) = false from rfl, show ((6 : Int) == 2) = false from rfl, show ((6 : Int) == 8) = false from rfl, show ((6 : Int) == 3) = false from rfl, show ((6 : Int) == 4) = false from rfl, show ((6 : Int) == 5) = false from rfl, show ((6 : Int) == 6) = true from rfl,
      cond_true, cond_false, gogeom_NewLineStringFlat_b, gogeom_NewLineStringFlat_b_g, gogeom_NewLinearRingFlat_b, gogeom_NewLinearRingFlat_b_g, gogeom_NewPolygonFlat_b, gogeom_NewPolygonFlat_b_g,
      gogeom_NewMultiLineStringFlat_b, gogeom_NewMultiLineStringFlat_b_g, gogeom_NewMultiPolygonFlat, gogeom_NewMultiPolygonFlat_g, gogeom_LineString_SetSRID, gogeom_LineString_SetSRID_g, gogeom_LinearRing_SetSRID, gogeom_LinearRing_SetSRID_g,
      gogeom_Polygon_SetSRID, gogeom_Polygon_SetSRID_g, gogeom_MultiLineString_SetSRID, gogeom_MultiLineString_SetSRID_g, gogeom_MultiPolygon_SetSRID, gogeom_MultiPolygon_SetSRID_g,
      stride_geom N g.layout l1, impl_ints, impl_ints_g, lim_le hends.1, intss hN hNl _ hends.2.1 hends.2.2, Sum.elim_inl, Sum.elim_inr, gogeom_geom1_Coord_b, gogeom_geom1_Coord_b_g, gogeom_geom1_Coord_c, gogeom_geom1_Coord_c_g, gogeom_geom1_Coord_d, gogeom_geom1_Coord_d_g, hs, hc, lim_le hpart]
theorem law (g : Geo) (i : Int) (hd : dep g ≤ N) (hw : wfG g) (hi : -9223372036854775808 ≤ i ∧ i ≤ 9223372036854775807) : laws_FnCoord N g i = some true := by
  unfold laws_FnCoord laws_FnCoord_g
  simp only [eta, laws_FnCoord_j0, laws_FnCoord_g0, gate_pos hN]
  obtain ⟨fb, hf, hff⟩ := fits2 hN hNl g hw
  rw [hf]
  simp only [Option.bind_some]
  cases fb with
  | false => rfl
  | true =>
  simp only [Bool.not_true, cond_false]
  obtain ⟨gb, hg, hgg⟩ := gGood_one hN hNl g hd hw
  have hp : laws_gPlain N g = some (bif gb then g.kind != 7 else false) := by
    unfold laws_gPlain laws_gPlain_g
    rw [eta, hg]
    cases gb <;> rfl
  rw [hp]
  simp only [Option.bind_some]
  cases gb with
  | false => rfl
  | true =>
  simp only [cond_true]
  cases k7 : (g.kind != 7) with
  | false => rfl
  | true =>
  simp only [Bool.not_true, cond_false]
  have h7 : g.kind ≠ 7 := by simpa using k7
  cases k1 : (g.kind == 1) with
  | true => rfl
  | false =>
  cases k4 : (g.kind == 4) with
  | true => rfl
  | false =>
  cases k0 : decide (i < 0) with
  | true => rfl
  | false =>
  simp only [cond_false]
  obtain ⟨gf, l1, l9⟩ := hgg rfl h7
  have hs := strd_le ⟨l1, l9⟩
  rw [stride_spec]
  simp only [Option.bind_some]
  rw [if_neg (by omega)]
  have hlen := (hff rfl).1
  have i0 : 0 ≤ i := by simpa using k0
  have hdiv : Int.tdiv (g.flat.length : Int) (strd g.layout) = (g.flat.length : Int) / strd g.layout := Int.tdiv_eq_ediv_of_nonneg (by omega)
  rw [hdiv]
  obtain ⟨q, hq⟩ := gf.whole
  have hqq : (g.flat.length : Int) / strd g.layout = q := by rw [hq]; exact Int.mul_ediv_cancel_left q (by omega)
  rw [hqq]
  have q0 : 0 ≤ q := by
    refine Int.not_lt.1 fun h => ?_
    have : strd g.layout * q < 0 := Int.mul_neg_of_pos_of_neg (by omega) h
    omega
  have qb : q ≤ 2147483647 := by
    refine Int.not_lt.1 fun h => ?_
    have : strd g.layout * 2147483648 ≤ strd g.layout * q := Int.mul_le_mul_of_nonneg_left (by omega) (by omega)
    omega
  rw [wrap_in (n := q) (by omega)]
  cases ki : decide (i ≥ q) with
  | true => rfl
  | false =>
  simp only [cond_false]
  have hiq : i < q := by simpa using ki
  have hk : g.kind = 2 ∨ g.kind = 8 ∨ g.kind = 3 ∨ g.kind = 5 ∨ g.kind = 6 := by
    have a1 : g.kind ≠ 1 := by simpa using k1
    have a4 : g.kind ≠ 4 := by simpa using k4
    rcases gf.kind with h | h | h | h | h | h | h <;> omega
  generalize hS : strd g.layout = s at *
  have e1 : (i + 1) * s = i * s + s := by rw [Int.add_mul, Int.one_mul]
  have m0 : 0 ≤ i * s := Int.mul_nonneg i0 (by omega)
  have m1 : (i + 1) * s ≤ s * q := by rw [Int.mul_comm s q]; exact Int.mul_le_mul_of_nonneg_right (by omega) (by omega)
  have hc := coord_of hN hNl g i s hw l1 hS hk hlen m0 (by omega) (by omega) (by omega)
  rw [hc]
  simp only [Option.bind_some, cond_true]
  rw [wrap_in (n := i * s) (by omega), wrap_in (n := i * s + s) (by omega), chk2_int (by omega), ← e1]
  simp only [Option.bind_some]
  rw [same hN hNl _ (by rw [List.length_take, List.length_drop]; omega)]
  rfl
end
end Go.Proofs.Ytfhplocmlmmnoaa.PvCoord
